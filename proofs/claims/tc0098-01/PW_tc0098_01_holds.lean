import PyProof.Rows.All
import Wide.All
import OpenK.AllK
import Wide.FinOn
import PySem.Challenge.RW_tc0098_01
set_option Elab.async false
set_option linter.unusedVariables false
set_option linter.unusedSimpArgs false
set_option maxRecDepth 100000
namespace Tc
section
open PySem
noncomputable abbrev prg : Program := PySem.Challenge.pw_tc0098_01
noncomputable abbrev S (x : String) : Str := Str.ofString x
noncomputable def ek (P : Params) (x : Str) (t : Nat) (v : Value) : DictEntry := ⟨PyData.keyHash P x, .str x t, v⟩
noncomputable def stm (i : Nat) : Stmt := (prg.main.body[i]?).getD (.Pass default)
noncomputable def sub (s : Stmt) (j : Nat) : Stmt := match s with
  | .ClassDef _ _ _ b _ _ _ _ _ _ _ => (b[j]?).getD (.Pass default)
  | _ => .Pass default
noncomputable def fPar : Stmt → Arguments
  | .FunctionDef _ a _ _ _ _ _ _ _ _ => a
  | _ => { posonlyargs := [], args := [], vararg := none, kwonlyargs := [], kw_defaults := [], kwarg := none, defaults := [] }
noncomputable def fBody : Stmt → List Stmt
  | .FunctionDef _ _ b _ _ _ _ _ _ _ => b
  | _ => []
noncomputable def fScope : Stmt → Scope
  | .FunctionDef _ _ _ _ _ _ s _ _ _ => s
  | _ => { kind := .function, names := [], isGenerator := false, isCoroutine := false, more := [] }
noncomputable def fnc (s : Stmt) (n q : Str) (g : Addr) (dV kV doc pm : Value) (an : Option Addr) (cd ct : Value) (bi : Addr) : FuncData :=
  { name := n, qualname := q, params := fPar s, body := .stmts (fBody s), scope := fScope s, globals := g, closure := [], defaults := dV, kwdefaults := kV, doc := doc, pyModule := pm, annotations := an, code := cd, closureTuple := ct, builtins := bi }
noncomputable def o0 (P : Params) : Obj := ⟨(.type "dict"), none, .dict #[ek P (S "__name__") 1 (.str (S "builtins") 160), ek P (S "__doc__") 2 (.builtin "builtins.__doc__:str#opaque"), ek P (S "__package__") 3 (.builtin "builtins.__package__:str#opaque"), ek P (S "__loader__") 4 (.builtin "builtins.__loader__:shared#opaque"), ek P (S "__spec__") 5 (.builtin "builtins.__spec__#opaque"), ek P (S "__build_class__") 6 (.builtin "__build_class__"), ek P (S "__import__") 7 (.builtin "__import__"), ek P (S "abs") 8 (.builtin "abs"), ek P (S "all") 9 (.builtin "all"), ek P (S "any") 10 (.builtin "any"), ek P (S "ascii") 11 (.builtin "ascii"), ek P (S "bin") 12 (.builtin "bin"), ek P (S "breakpoint") 13 (.builtin "breakpoint"), ek P (S "callable") 14 (.builtin "callable"), ek P (S "chr") 15 (.builtin "chr"), ek P (S "compile") 16 (.builtin "compile"), ek P (S "delattr") 17 (.builtin "delattr"), ek P (S "dir") 18 (.builtin "dir"), ek P (S "divmod") 19 (.builtin "divmod"), ek P (S "eval") 20 (.builtin "eval"), ek P (S "exec") 21 (.builtin "exec"), ek P (S "format") 22 (.builtin "format"), ek P (S "getattr") 23 (.builtin "getattr"), ek P (S "globals") 24 (.builtin "globals"), ek P (S "hasattr") 25 (.builtin "hasattr"), ek P (S "hash") 26 (.builtin "hash"), ek P (S "hex") 27 (.builtin "hex"), ek P (S "id") 28 (.builtin "id"), ek P (S "input") 29 (.builtin "input"), ek P (S "isinstance") 30 (.builtin "isinstance"), ek P (S "issubclass") 31 (.builtin "issubclass"), ek P (S "iter") 32 (.builtin "iter"), ek P (S "aiter") 33 (.builtin "aiter"), ek P (S "len") 34 (.builtin "len"), ek P (S "locals") 35 (.builtin "locals"), ek P (S "max") 36 (.builtin "max"), ek P (S "min") 37 (.builtin "min"), ek P (S "next") 38 (.builtin "next"), ek P (S "anext") 39 (.builtin "anext"), ek P (S "oct") 40 (.builtin "oct"), ek P (S "ord") 41 (.builtin "ord"), ek P (S "pow") 42 (.builtin "pow"), ek P (S "print") 43 (.builtin "print"), ek P (S "repr") 44 (.builtin "repr"), ek P (S "round") 45 (.builtin "round"), ek P (S "setattr") 46 (.builtin "setattr"), ek P (S "sorted") 47 (.builtin "sorted"), ek P (S "sum") 48 (.builtin "sum"), ek P (S "vars") 49 (.builtin "vars"), ek P (S "None") 50 .none, ek P (S "Ellipsis") 51 .ellipsis, ek P (S "NotImplemented") 52 .notImplemented, ek P (S "False") 53 (.bool false), ek P (S "True") 54 (.bool true), ek P (S "bool") 55 (.type "bool"), ek P (S "memoryview") 56 (.type "memoryview"), ek P (S "bytearray") 57 (.type "bytearray"), ek P (S "bytes") 58 (.type "bytes"), ek P (S "classmethod") 59 (.type "classmethod"), ek P (S "complex") 60 (.type "complex"), ek P (S "dict") 61 (.type "dict"), ek P (S "enumerate") 62 (.type "enumerate"), ek P (S "filter") 63 (.type "filter"), ek P (S "float") 64 (.type "float"), ek P (S "frozenset") 65 (.type "frozenset"), ek P (S "property") 66 (.type "property"), ek P (S "int") 67 (.type "int"), ek P (S "list") 68 (.type "list"), ek P (S "map") 69 (.type "map"), ek P (S "object") 70 (.type "object"), ek P (S "range") 71 (.type "range"), ek P (S "reversed") 72 (.type "reversed"), ek P (S "set") 73 (.type "set"), ek P (S "slice") 74 (.type "slice"), ek P (S "staticmethod") 75 (.type "staticmethod"), ek P (S "str") 76 (.type "str"), ek P (S "super") 77 (.type "super"), ek P (S "tuple") 78 (.type "tuple"), ek P (S "type") 79 (.type "type"), ek P (S "zip") 80 (.type "zip"), ek P (S "__debug__") 81 (.bool true), ek P (S "BaseException") 82 (.type "BaseException"), ek P (S "BaseExceptionGroup") 83 (.type "BaseExceptionGroup"), ek P (S "Exception") 84 (.type "Exception"), ek P (S "GeneratorExit") 85 (.type "GeneratorExit"), ek P (S "KeyboardInterrupt") 86 (.type "KeyboardInterrupt"), ek P (S "SystemExit") 87 (.type "SystemExit"), ek P (S "ArithmeticError") 88 (.type "ArithmeticError"), ek P (S "AssertionError") 89 (.type "AssertionError"), ek P (S "AttributeError") 90 (.type "AttributeError"), ek P (S "BufferError") 91 (.type "BufferError"), ek P (S "EOFError") 92 (.type "EOFError"), ek P (S "ImportError") 93 (.type "ImportError"), ek P (S "LookupError") 94 (.type "LookupError"), ek P (S "MemoryError") 95 (.type "MemoryError"), ek P (S "NameError") 96 (.type "NameError"), ek P (S "OSError") 97 (.type "OSError"), ek P (S "ReferenceError") 98 (.type "ReferenceError"), ek P (S "RuntimeError") 99 (.type "RuntimeError"), ek P (S "StopAsyncIteration") 100 (.type "StopAsyncIteration"), ek P (S "StopIteration") 101 (.type "StopIteration"), ek P (S "SyntaxError") 102 (.type "SyntaxError"), ek P (S "SystemError") 103 (.type "SystemError"), ek P (S "TypeError") 104 (.type "TypeError"), ek P (S "ValueError") 105 (.type "ValueError"), ek P (S "Warning") 106 (.type "Warning"), ek P (S "FloatingPointError") 107 (.type "FloatingPointError"), ek P (S "OverflowError") 108 (.type "OverflowError"), ek P (S "ZeroDivisionError") 109 (.type "ZeroDivisionError"), ek P (S "BytesWarning") 110 (.type "BytesWarning"), ek P (S "DeprecationWarning") 111 (.type "DeprecationWarning"), ek P (S "EncodingWarning") 112 (.type "EncodingWarning"), ek P (S "FutureWarning") 113 (.type "FutureWarning"), ek P (S "ImportWarning") 114 (.type "ImportWarning"), ek P (S "PendingDeprecationWarning") 115 (.type "PendingDeprecationWarning"), ek P (S "ResourceWarning") 116 (.type "ResourceWarning"), ek P (S "RuntimeWarning") 117 (.type "RuntimeWarning"), ek P (S "SyntaxWarning") 118 (.type "SyntaxWarning"), ek P (S "UnicodeWarning") 119 (.type "UnicodeWarning"), ek P (S "UserWarning") 120 (.type "UserWarning"), ek P (S "BlockingIOError") 121 (.type "BlockingIOError"), ek P (S "ChildProcessError") 122 (.type "ChildProcessError"), ek P (S "ConnectionError") 123 (.type "ConnectionError"), ek P (S "FileExistsError") 124 (.type "FileExistsError"), ek P (S "FileNotFoundError") 125 (.type "FileNotFoundError"), ek P (S "InterruptedError") 126 (.type "InterruptedError"), ek P (S "IsADirectoryError") 127 (.type "IsADirectoryError"), ek P (S "NotADirectoryError") 128 (.type "NotADirectoryError"), ek P (S "PermissionError") 129 (.type "PermissionError"), ek P (S "ProcessLookupError") 130 (.type "ProcessLookupError"), ek P (S "TimeoutError") 131 (.type "TimeoutError"), ek P (S "IndentationError") 132 (.type "IndentationError"), ek P (S "_IncompleteInputError") 133 (.type "_IncompleteInputError"), ek P (S "IndexError") 134 (.type "IndexError"), ek P (S "KeyError") 135 (.type "KeyError"), ek P (S "ModuleNotFoundError") 136 (.type "ModuleNotFoundError"), ek P (S "NotImplementedError") 137 (.type "NotImplementedError"), ek P (S "PythonFinalizationError") 138 (.type "PythonFinalizationError"), ek P (S "RecursionError") 139 (.type "RecursionError"), ek P (S "UnboundLocalError") 140 (.type "UnboundLocalError"), ek P (S "UnicodeError") 141 (.type "UnicodeError"), ek P (S "BrokenPipeError") 142 (.type "BrokenPipeError"), ek P (S "ConnectionAbortedError") 143 (.type "ConnectionAbortedError"), ek P (S "ConnectionRefusedError") 144 (.type "ConnectionRefusedError"), ek P (S "ConnectionResetError") 145 (.type "ConnectionResetError"), ek P (S "TabError") 146 (.type "TabError"), ek P (S "UnicodeDecodeError") 147 (.type "UnicodeDecodeError"), ek P (S "UnicodeEncodeError") 148 (.type "UnicodeEncodeError"), ek P (S "UnicodeTranslateError") 149 (.type "UnicodeTranslateError"), ek P (S "ExceptionGroup") 150 (.type "ExceptionGroup"), ek P (S "EnvironmentError") 151 (.type "OSError"), ek P (S "IOError") 152 (.type "OSError"), ek P (S "open") 153 (.builtin "open"), ek P (S "quit") 154 (.builtin "builtins.quit#opaque"), ek P (S "exit") 155 (.builtin "builtins.exit#opaque"), ek P (S "copyright") 156 (.builtin "builtins.copyright#opaque"), ek P (S "credits") 157 (.builtin "builtins.credits#opaque"), ek P (S "license") 158 (.builtin "builtins.license#opaque"), ek P (S "help") 159 (.builtin "builtins.help#opaque")] 159, #[]⟩
noncomputable def o1 (P : Params) : Obj := ⟨(.type "dict"), none, .dict #[ek P (S "builtins") 162 (.ref 4), ek P (S "__main__") 163 (.ref 5), ek P (S "_sre") 244 (.ref 12)] 3, #[]⟩
noncomputable def o2 (P : Params) : Obj := ⟨.none, none, .dict #[ek P (S "imp\x6frt.loaded._sre") 183 (.bool true), ek P (S "class._frozen_importlib.BuiltinImporter") 185 (.ref 14), ek P (S "watched.imp\x6frt") 206 (.ref 18), ek P (S "class._frozen_importlib.ModuleSpec") 216 (.ref 22), ek P (S "sys.modules.booked-epoch") 245 (.int (3) 0), ek P (S "imp\x6frt.later-laid._sre") 270 (.bool true), ek P (S "watched.library") 272 (.ref 27), ek P (S "watched.library-objects") 0 (.str ⟨#[12]⟩ 0), ek P (S "watched.library-deep._sre") 273 (.str ⟨#[4, 0, 0, 11, 4, 0, 0, 11, 4, 0, 0, 3, 4, 0, 0, 11, 8, 4, 100, 105, 99, 116, 2]⟩ 0)] 9, #[]⟩
noncomputable def o3 (P : Params) : Obj := ⟨(.type "dict"), none, .dict #[ek P (S "__name__") 165 (.str (S "law_tc0098_01") 2727), ek P (S "__doc__") 166 .none, ek P (S "__package__") 167 .none, ek P (S "__loader__") 168 (.builtin "__main__.__loader__#opaque"), ek P (S "__spec__") 169 .none, ek P (S "__annotations__") 170 (.ref 6), ek P (S "__builtins__") 171 (.ref 4), ek P (S "__file__") 173 (.str (S "/claim/cut.py") 172), ek P (S "__cached__") 174 .none, ek P (S "_sre") 275 (.ref 12), ek P (S "_wall") 288 (.ref 38), ek P (S "Whitespace") 391 (.ref 100), ek P (S "bisect_right") 407 (.ref 113), ek P (S "insort_left") 420 (.ref 122), ek P (S "bisect_left") 434 (.ref 131), ek P (S "b1_set") 496 (.ref 139), ek P (S "in_table_b1") 503 (.ref 149), ek P (S "b3_exceptions") 2454 (.ref 150), ek P (S "map_table_b3") 2462 (.ref 195), ek P (S "tspecials") 2498 (.ref 200), ek P (S "_name_disallowed_re") 2524 (.ref 205), ek P (S "_value_disallowed_re") 2558 (.ref 210), ek P (S "_formatparam") 2568 (.ref 218), ek P (S "Headers") 2726 (.ref 339), ek P (S "_law_spelled") 2734 (.ref 348), ek P (S "_law_runs") 2741 (.ref 355), ek P (S "_law_lead") 2747 (.ref 360), ek P (S "_law_column") 2753 (.ref 365), ek P (S "_law_end") 2759 (.ref 370), ek P (S "_law_led_on") 2765 (.ref 375), ek P (S "_law_leap") 2776 (.ref 382), ek P (S "_law_sizes") 2782 (.ref 387), ek P (S "_law_by_definition") 2788 (.ref 392), ek P (S "law") 2794 (.ref 397)] 34, #[]⟩
noncomputable def o4 (P : Params) : Obj := ⟨(.type "module"), (some 0), .plain, #[]⟩
noncomputable def o5 (P : Params) : Obj := ⟨(.type "module"), (some 3), .plain, #[]⟩
noncomputable def o6 (P : Params) : Obj := ⟨(.type "dict"), none, .dict #[] 0, #[]⟩
noncomputable def o7 (P : Params) : Obj := ⟨(.type "tuple"), none, .seq #[] 0, #[]⟩
noncomputable def o8 (P : Params) : Obj := ⟨.none, none, .fields #[], #[]⟩
noncomputable def o9 (P : Params) : Obj := ⟨(.type "code"), none, .fields #[(.str (S "<module>") 176), (.str (S "<module>") 177), (.str (S "/claim/cut.py") 178), (.int (1) 0), (.int (0) 0), (.int (0) 0), (.int (0) 0), (.int (0) 0), (.ref 7), (.bool false), (.int (175) 0), (.ref 8), .none, .none, .none, .none, (.int (179) 0), (.int (1) 0), (.str (S "/claim/cut.py") 180)], #[]⟩
noncomputable def o10 (P : Params) : Obj := ⟨(.type "frame"), none, .plain, #[(some (.ref 9)), (some (.ref 3)), (some (.ref 3)), none, (some (.str (S "__main__") 164)), none, (some (.ref 0))]⟩
noncomputable def o11 (P : Params) : Obj := ⟨(.type "dict"), none, .dict #[ek P (S "__name__") 247 (.str (S "_sre") 246), ek P (S "__doc__") 248 .none, ek P (S "__package__") 250 (.str (S "") 249), ek P (S "__loader__") 251 (.builtin "off-the-table:_sre.__loader__:shared#opaque"), ek P (S "__spec__") 252 (.builtin "off-the-table:_sre.__spec__:shared#opaque"), ek P (S "compile") 253 (.builtin "_sre.compile"), ek P (S "template") 254 (.builtin "off-the-table:_sre.template:shared#opaque"), ek P (S "getcodesize") 255 (.builtin "off-the-table:_sre.getcodesize:shared#opaque"), ek P (S "ascii_iscased") 256 (.builtin "off-the-table:_sre.ascii_iscased:shared#opaque"), ek P (S "unicode_iscased") 257 (.builtin "off-the-table:_sre.unicode_iscased:shared#opaque"), ek P (S "ascii_tolower") 258 (.builtin "off-the-table:_sre.ascii_tolower:shared#opaque"), ek P (S "unicode_tolower") 259 (.builtin "off-the-table:_sre.unicode_tolower:shared#opaque"), ek P (S "MAGIC") 261 (.int (20230612) 260), ek P (S "CODESIZE") 263 (.int (4) 262), ek P (S "MAXREPEAT") 265 (.int (4294967295) 264), ek P (S "MAXGROUPS") 267 (.int (1073741823) 266), ek P (S "copyright") 269 (.str (S " SRE 2.2.2 Copyright (c) 1997-2002 by Secret Labs AB ") 268)] 17, #[]⟩
noncomputable def o12 (P : Params) : Obj := ⟨(.type "module"), (some 11), .plain, #[]⟩
noncomputable def o13 (P : Params) : Obj := ⟨(.type "dict"), none, .dict #[ek P (S "__module__") 189 (.str (S "_frozen_importlib") 186), ek P (S "__firstlineno__") 190 (.int (971) 187), ek P (S "__doc__") 191 (.builtin "_frozen_importlib.BuiltinImporter.__doc__:str#opaque"), ek P (S "_ORIGIN") 192 (.str (S "built-in") 188), ek P (S "find_spec") 193 (.builtin "_frozen_importlib.BuiltinImporter.find_spec#opaque"), ek P (S "create_module") 194 (.builtin "_frozen_importlib.BuiltinImporter.create_module#opaque"), ek P (S "exec_module") 195 (.builtin "_frozen_importlib.BuiltinImporter.exec_module#opaque"), ek P (S "get_code") 196 (.builtin "_frozen_importlib.BuiltinImporter.get_code#opaque"), ek P (S "get_source") 197 (.builtin "_frozen_importlib.BuiltinImporter.get_source#opaque"), ek P (S "is_package") 198 (.builtin "_frozen_importlib.BuiltinImporter.is_package#opaque"), ek P (S "load_module") 199 (.builtin "_frozen_importlib.BuiltinImporter.load_module#opaque"), ek P (S "__static_attributes__") 200 (.ref 15), ek P (S "__dict__") 202 (.ref 16), ek P (S "__weakref__") 204 (.ref 17)] 14, #[]⟩
noncomputable def o14 (P : Params) : Obj := ⟨(.type "type"), none, .cls { name := (S "BuiltinImporter"), bases := [(.type "object")], mro := [(.ref 14), (.type "object")], ns := 13, qualname := (S "BuiltinImporter"), hasDict := true, slotNames := [], subclasses := [], abstract := false, collection := none, hasDel := false }, #[]⟩
noncomputable def o15 (P : Params) : Obj := ⟨(.type "tuple"), none, .seq #[] 0, #[]⟩
noncomputable def o16 (P : Params) : Obj := ⟨(.type "getset_descriptor"), none, .fields #[(.str (S "__dict__") 201), (.ref 14), (.builtin "function.__dict__"), (.builtin "function.__dict__#set")], #[]⟩
noncomputable def o17 (P : Params) : Obj := ⟨(.type "getset_descriptor"), none, .fields #[(.str (S "__weakref__") 203), (.ref 14), (.builtin "ExceptionGroup.__weakref__"), .none], #[]⟩
noncomputable def o18 (P : Params) : Obj := ⟨.none, none, .seq #[(.int (13) 0), (.str ⟨#[6, 189, 10, 95, 95, 109, 111, 100, 117, 108, 101, 95, 95, 6, 186, 17, 95, 102, 114, 111, 122, 101, 110, 95, 105, 109, 112, 111, 114, 116, 108, 105, 98, 6, 190, 15, 95, 95, 102, 105, 114, 115, 116, 108, 105, 110, 101, 110, 111, 95, 95, 4, 187, 0, 971, 6, 191, 7, 95, 95, 100, 111, 99, 95, 95, 9, 52, 95, 102, 114, 111, 122, 101, 110, 95, 105, 109, 112, 111, 114, 116, 108, 105, 98, 46, 66, 117, 105, 108, 116, 105, 110, 73, 109, 112, 111, 114, 116, 101, 114, 46, 95, 95, 100, 111, 99, 95, 95, 58, 115, 116, 114, 35, 111, 112, 97, 113, 117, 101, 6, 192, 7, 95, 79, 82, 73, 71, 73, 78, 6, 188, 8, 98, 117, 105, 108, 116, 45, 105, 110, 6, 193, 9, 102, 105, 110, 100, 95, 115, 112, 101, 99, 9, 50, 95, 102, 114, 111, 122, 101, 110, 95, 105, 109, 112, 111, 114, 116, 108, 105, 98, 46, 66, 117, 105, 108, 116, 105, 110, 73, 109, 112, 111, 114, 116, 101, 114, 46, 102, 105, 110, 100, 95, 115, 112, 101, 99, 35, 111, 112, 97, 113, 117, 101, 6, 194, 13, 99, 114, 101, 97, 116, 101, 95, 109, 111, 100, 117, 108, 101, 9, 54, 95, 102, 114, 111, 122, 101, 110, 95, 105, 109, 112, 111, 114, 116, 108, 105, 98, 46, 66, 117, 105, 108, 116, 105, 110, 73, 109, 112, 111, 114, 116, 101, 114, 46, 99, 114, 101, 97, 116, 101, 95, 109, 111, 100, 117, 108, 101, 35, 111, 112, 97, 113, 117, 101, 6, 195, 11, 101, 120, 101, 99, 95, 109, 111, 100, 117, 108, 101, 9, 52, 95, 102, 114, 111, 122, 101, 110, 95, 105, 109, 112, 111, 114, 116, 108, 105, 98, 46, 66, 117, 105, 108, 116, 105, 110, 73, 109, 112, 111, 114, 116, 101, 114, 46, 101, 120, 101, 99, 95, 109, 111, 100, 117, 108, 101, 35, 111, 112, 97, 113, 117, 101, 6, 196, 8, 103, 101, 116, 95, 99, 111, 100, 101, 9, 49, 95, 102, 114, 111, 122, 101, 110, 95, 105, 109, 112, 111, 114, 116, 108, 105, 98, 46, 66, 117, 105, 108, 116, 105, 110, 73, 109, 112, 111, 114, 116, 101, 114, 46, 103, 101, 116, 95, 99, 111, 100, 101, 35, 111, 112, 97, 113, 117, 101, 6, 197, 10, 103, 101, 116, 95, 115, 111, 117, 114, 99, 101, 9, 51, 95, 102, 114, 111, 122, 101, 110, 95, 105, 109, 112, 111, 114, 116, 108, 105, 98, 46, 66, 117, 105, 108, 116, 105, 110, 73, 109, 112, 111, 114, 116, 101, 114, 46, 103, 101, 116, 95, 115, 111, 117, 114, 99, 101, 35, 111, 112, 97, 113, 117, 101, 6, 198, 10, 105, 115, 95, 112, 97, 99, 107, 97, 103, 101, 9, 51, 95, 102, 114, 111, 122, 101, 110, 95, 105, 109, 112, 111, 114, 116, 108, 105, 98, 46, 66, 117, 105, 108, 116, 105, 110, 73, 109, 112, 111, 114, 116, 101, 114, 46, 105, 115, 95, 112, 97, 99, 107, 97, 103, 101, 35, 111, 112, 97, 113, 117, 101, 6, 199, 11, 108, 111, 97, 100, 95, 109, 111, 100, 117, 108, 101, 9, 52, 95, 102, 114, 111, 122, 101, 110, 95, 105, 109, 112, 111, 114, 116, 108, 105, 98, 46, 66, 117, 105, 108, 116, 105, 110, 73, 109, 112, 111, 114, 116, 101, 114, 46, 108, 111, 97, 100, 95, 109, 111, 100, 117, 108, 101, 35, 111, 112, 97, 113, 117, 101, 6, 200, 21, 95, 95, 115, 116, 97, 116, 105, 99, 95, 97, 116, 116, 114, 105, 98, 117, 116, 101, 115, 95, 95, 4, 0, 0, 15, 6, 202, 8, 95, 95, 100, 105, 99, 116, 95, 95, 4, 0, 0, 16, 6, 204, 11, 95, 95, 119, 101, 97, 107, 114, 101, 102, 95, 95, 4, 0, 0, 17]⟩ 0), (.bool true), (.bool true), (.str (S "") 205), (.int (21) 0), (.str ⟨#[6, 227, 10, 95, 95, 109, 111, 100, 117, 108, 101, 95, 95, 6, 217, 17, 95, 102, 114, 111, 122, 101, 110, 95, 105, 109, 112, 111, 114, 116, 108, 105, 98, 6, 228, 15, 95, 95, 102, 105, 114, 115, 116, 108, 105, 110, 101, 110, 111, 95, 95, 4, 218, 0, 562, 6, 229, 7, 95, 95, 100, 111, 99, 95, 95, 9, 47, 95, 102, 114, 111, 122, 101, 110, 95, 105, 109, 112, 111, 114, 116, 108, 105, 98, 46, 77, 111, 100, 117, 108, 101, 83, 112, 101, 99, 46, 95, 95, 100, 111, 99, 95, 95, 58, 115, 116, 114, 35, 111, 112, 97, 113, 117, 101, 6, 230, 8, 95, 95, 105, 110, 105, 116, 95, 95, 9, 44, 95, 102, 114, 111, 122, 101, 110, 95, 105, 109, 112, 111, 114, 116, 108, 105, 98, 46, 77, 111, 100, 117, 108, 101, 83, 112, 101, 99, 46, 95, 95, 105, 110, 105, 116, 95, 95, 35, 111, 112, 97, 113, 117, 101, 6, 231, 8, 95, 95, 114, 101, 112, 114, 95, 95, 9, 44, 95, 102, 114, 111, 122, 101, 110, 95, 105, 109, 112, 111, 114, 116, 108, 105, 98, 46, 77, 111, 100, 117, 108, 101, 83, 112, 101, 99, 46, 95, 95, 114, 101, 112, 114, 95, 95, 35, 111, 112, 97, 113, 117, 101, 6, 232, 6, 95, 95, 101, 113, 95, 95, 9, 42, 95, 102, 114, 111, 122, 101, 110, 95, 105, 109, 112, 111, 114, 116, 108, 105, 98, 46, 77, 111, 100, 117, 108, 101, 83, 112, 101, 99, 46, 95, 95, 101, 113, 95, 95, 35, 111, 112, 97, 113, 117, 101, 6, 233, 6, 99, 97, 99, 104, 101, 100, 9, 42, 95, 102, 114, 111, 122, 101, 110, 95, 105, 109, 112, 111, 114, 116, 108, 105, 98, 46, 77, 111, 100, 117, 108, 101, 83, 112, 101, 99, 46, 99, 97, 99, 104, 101, 100, 35, 111, 112, 97, 113, 117, 101, 6, 234, 6, 112, 97, 114, 101, 110, 116, 9, 42, 95, 102, 114, 111, 122, 101, 110, 95, 105, 109, 112, 111, 114, 116, 108, 105, 98, 46, 77, 111, 100, 117, 108, 101, 83, 112, 101, 99, 46, 112, 97, 114, 101, 110, 116, 35, 111, 112, 97, 113, 117, 101, 6, 235, 12, 104, 97, 115, 95, 108, 111, 99, 97, 116, 105, 111, 110, 9, 48, 95, 102, 114, 111, 122, 101, 110, 95, 105, 109, 112, 111, 114, 116, 108, 105, 98, 46, 77, 111, 100, 117, 108, 101, 83, 112, 101, 99, 46, 104, 97, 115, 95, 108, 111, 99, 97, 116, 105, 111, 110, 35, 111, 112, 97, 113, 117, 101, 6, 236, 21, 95, 95, 115, 116, 97, 116, 105, 99, 95, 97, 116, 116, 114, 105, 98, 117, 116, 101, 115, 95, 95, 4, 0, 0, 23, 6, 238, 8, 95, 95, 100, 105, 99, 116, 95, 95, 4, 0, 0, 24, 6, 240, 11, 95, 95, 119, 101, 97, 107, 114, 101, 102, 95, 95, 4, 0, 0, 25, 6, 241, 8, 95, 95, 104, 97, 115, 104, 95, 95, 0]⟩ 0), (.bool true), (.bool true), (.str (S "") 242)] 1, #[]⟩
noncomputable def o19 (P : Params) : Obj := ⟨(.type "list"), none, .seq #[] 0, #[]⟩
noncomputable def o20 (P : Params) : Obj := ⟨(.type "dict"), none, .dict #[ek P (S "name") 208 (.str (S "_sre") 207), ek P (S "loader") 209 (.ref 14), ek P (S "origin") 210 (.str (S "built-in") 184), ek P (S "loader_state") 211 .none, ek P (S "submodule_search_locations") 212 .none, ek P (S "_uninitialized_submodules") 213 (.ref 19), ek P (S "_set_fileattr") 214 (.bool false), ek P (S "_cached") 215 .none, ek P (S "_initializing") 243 (.bool false)] 9, #[]⟩
noncomputable def o21 (P : Params) : Obj := ⟨(.type "dict"), none, .dict #[ek P (S "__module__") 227 (.str (S "_frozen_importlib") 217), ek P (S "__firstlineno__") 228 (.int (562) 218), ek P (S "__doc__") 229 (.builtin "_frozen_importlib.ModuleSpec.__doc__:str#opaque"), ek P (S "__init__") 230 (.builtin "_frozen_importlib.ModuleSpec.__init__#opaque"), ek P (S "__repr__") 231 (.builtin "_frozen_importlib.ModuleSpec.__repr__#opaque"), ek P (S "__eq__") 232 (.builtin "_frozen_importlib.ModuleSpec.__eq__#opaque"), ek P (S "cached") 233 (.builtin "_frozen_importlib.ModuleSpec.cached#opaque"), ek P (S "parent") 234 (.builtin "_frozen_importlib.ModuleSpec.parent#opaque"), ek P (S "has_location") 235 (.builtin "_frozen_importlib.ModuleSpec.has_location#opaque"), ek P (S "__static_attributes__") 236 (.ref 23), ek P (S "__dict__") 238 (.ref 24), ek P (S "__weakref__") 240 (.ref 25), ek P (S "__hash__") 241 .none] 13, #[]⟩
noncomputable def o22 (P : Params) : Obj := ⟨(.type "type"), none, .cls { name := (S "ModuleSpec"), bases := [(.type "object")], mro := [(.ref 22), (.type "object")], ns := 21, qualname := (S "ModuleSpec"), hasDict := true, slotNames := [], subclasses := [], abstract := false, collection := none, hasDel := false }, #[]⟩
noncomputable def o23 (P : Params) : Obj := ⟨(.type "tuple"), none, .seq #[(.str (S "_cached") 219), (.str (S "_set_fileattr") 220), (.str (S "_uninitialized_submodules") 221), (.str (S "loader") 222), (.str (S "loader_state") 223), (.str (S "name") 224), (.str (S "origin") 225), (.str (S "submodule_search_locations") 226)] 0, #[]⟩
noncomputable def o24 (P : Params) : Obj := ⟨(.type "getset_descriptor"), none, .fields #[(.str (S "__dict__") 237), (.ref 22), (.builtin "function.__dict__"), (.builtin "function.__dict__#set")], #[]⟩
noncomputable def o25 (P : Params) : Obj := ⟨(.type "getset_descriptor"), none, .fields #[(.str (S "__weakref__") 239), (.ref 22), (.builtin "ExceptionGroup.__weakref__"), .none], #[]⟩
noncomputable def o26 (P : Params) : Obj := ⟨(.ref 22), (some 20), .plain, #[]⟩
noncomputable def o27 (P : Params) : Obj := ⟨.none, none, .seq #[(.int (11) 0), (.str ⟨#[6, 247, 8, 95, 95, 110, 97, 109, 101, 95, 95, 6, 246, 4, 95, 115, 114, 101, 6, 248, 7, 95, 95, 100, 111, 99, 95, 95, 0, 6, 250, 11, 95, 95, 112, 97, 99, 107, 97, 103, 101, 95, 95, 6, 249, 0, 6, 251, 10, 95, 95, 108, 111, 97, 100, 101, 114, 95, 95, 4, 0, 0, 14, 6, 252, 8, 95, 95, 115, 112, 101, 99, 95, 95, 4, 0, 0, 26, 6, 253, 7, 99, 111, 109, 112, 105, 108, 101, 9, 12, 95, 115, 114, 101, 46, 99, 111, 109, 112, 105, 108, 101, 6, 254, 8, 116, 101, 109, 112, 108, 97, 116, 101, 9, 13, 95, 115, 114, 101, 46, 116, 101, 109, 112, 108, 97, 116, 101, 6, 255, 11, 103, 101, 116, 99, 111, 100, 101, 115, 105, 122, 101, 9, 16, 95, 115, 114, 101, 46, 103, 101, 116, 99, 111, 100, 101, 115, 105, 122, 101, 6, 256, 13, 97, 115, 99, 105, 105, 95, 105, 115, 99, 97, 115, 101, 100, 9, 18, 95, 115, 114, 101, 46, 97, 115, 99, 105, 105, 95, 105, 115, 99, 97, 115, 101, 100, 6, 257, 15, 117, 110, 105, 99, 111, 100, 101, 95, 105, 115, 99, 97, 115, 101, 100, 9, 20, 95, 115, 114, 101, 46, 117, 110, 105, 99, 111, 100, 101, 95, 105, 115, 99, 97, 115, 101, 100, 6, 258, 13, 97, 115, 99, 105, 105, 95, 116, 111, 108, 111, 119, 101, 114, 9, 18, 95, 115, 114, 101, 46, 97, 115, 99, 105, 105, 95, 116, 111, 108, 111, 119, 101, 114, 6, 259, 15, 117, 110, 105, 99, 111, 100, 101, 95, 116, 111, 108, 111, 119, 101, 114, 9, 20, 95, 115, 114, 101, 46, 117, 110, 105, 99, 111, 100, 101, 95, 116, 111, 108, 111, 119, 101, 114, 6, 261, 5, 77, 65, 71, 73, 67, 4, 260, 0, 20230612, 6, 263, 8, 67, 79, 68, 69, 83, 73, 90, 69, 4, 262, 0, 4, 6, 265, 9, 77, 65, 88, 82, 69, 80, 69, 65, 84, 4, 264, 0, 4294967295, 6, 267, 9, 77, 65, 88, 71, 82, 79, 85, 80, 83, 4, 266, 0, 1073741823, 6, 269, 9, 99, 111, 112, 121, 114, 105, 103, 104, 116, 6, 268, 53, 32, 83, 82, 69, 32, 50, 46, 50, 46, 50, 32, 67, 111, 112, 121, 114, 105, 103, 104, 116, 32, 40, 99, 41, 32, 49, 57, 57, 55, 45, 50, 48, 48, 50, 32, 98, 121, 32, 83, 101, 99, 114, 101, 116, 32, 76, 97, 98, 115, 32, 65, 66, 32]⟩ 0), (.bool true), (.bool false), (.str (S "_sre") 271)] 0, #[]⟩
noncomputable def o28 (P : Params) : Obj := ⟨(.type "tuple"), none, .seq #[] 0, #[]⟩
noncomputable def o29 (P : Params) : Obj := ⟨.none, none, .fields #[(.int (2) 0), (.int (0) 0), (.ref 37), (.int (6) 0), (.int (0) 0), (.ref 44), (.int (60) 0), (.int (0) 0), (.ref 112), (.int (80) 0), (.int (0) 0), (.ref 121), (.int (86) 0), (.int (0) 0), (.ref 130), (.int (108) 0), (.int (0) 0), (.ref 148), (.int (111) 0), (.int (0) 0), (.ref 194), (.int (120) 0), (.int (0) 0), (.ref 217), (.int (129) 0), (.int (0) 0), (.ref 224), (.int (217) 0), (.int (0) 0), (.ref 347), (.int (220) 0), (.int (0) 0), (.ref 354), (.int (222) 0), (.int (0) 0), (.ref 359), (.int (224) 0), (.int (0) 0), (.ref 364), (.int (226) 0), (.int (0) 0), (.ref 369), (.int (232) 0), (.int (0) 0), (.ref 374), (.int (244) 0), (.int (0) 0), (.ref 381), (.int (252) 0), (.int (0) 0), (.ref 386), (.int (254) 0), (.int (0) 0), (.ref 391), (.int (267) 0), (.int (0) 0), (.ref 396)], #[]⟩
noncomputable def o30 (P : Params) : Obj := ⟨(.type "code"), none, .fields #[(.str (S "<module>") 277), (.str (S "<module>") 278), (.str (S "/claim/cut.py") 279), (.int (1) 0), (.int (0) 0), (.int (0) 0), (.int (0) 0), (.int (0) 0), (.ref 28), (.bool false), (.int (276) 0), (.ref 29), .none, .none, .none, .none, (.int (280) 0), (.int (1) 0), (.str (S "/claim/cut.py") 281)], #[]⟩
noncomputable def o31 (P : Params) : Obj := ⟨(.type "frame"), none, .plain, #[(some (.ref 30)), (some (.ref 3)), (some (.ref 3)), none, (some (.str (S "__main__") 164)), none, (some (.ref 0))]⟩
noncomputable def o32 (P : Params) : Obj := ⟨(.type "tuple"), none, .seq #[] 0, #[]⟩
noncomputable def o33 (P : Params) : Obj := ⟨.none, none, .fields #[], #[]⟩
noncomputable def o34 (P : Params) : Obj := ⟨(.type "tuple"), none, .seq #[(.str (S "k") 285)] 0, #[]⟩
noncomputable def o35 (P : Params) : Obj := ⟨(.type "tuple"), none, .seq #[] 0, #[]⟩
noncomputable def o36 (P : Params) : Obj := ⟨.none, none, .func (fnc (stm 1) (S "_wall") (S "_wall") 0 .none .none .none .none none .none .none 0), #[]⟩
noncomputable def o37 (P : Params) : Obj := ⟨(.type "code"), none, .fields #[(.str (S "_wall") 282), (.str (S "_wall") 283), (.str (S "/claim/cut.py") 284), (.int (2) 0), (.int (1) 0), (.int (0) 0), (.int (0) 0), (.int (3) 0), (.ref 32), (.bool true), (.int (276) 0), (.ref 33), .none, (.ref 34), (.ref 35), (.ref 36), (.int (286) 0), (.int (2) 0), (.str (S "/claim/cut.py") 287)], #[]⟩
noncomputable def o38 (P : Params) : Obj := ⟨(.type "function"), none, .func (fnc (stm 1) (S "_wall") (S "_wall") 3 .none .none .none (.str (S "__main__") 164) none (.ref 37) .none 0), #[]⟩
noncomputable def o39 (P : Params) : Obj := ⟨(.type "tuple"), none, .seq #[] 0, #[]⟩
noncomputable def o40 (P : Params) : Obj := ⟨(.type "builtin_function_or_method"), none, .fields #[(.builtin "type.__prepare__"), (.type "type")], #[]⟩
noncomputable def o41 (P : Params) : Obj := ⟨(.type "dict"), none, .dict #[ek P (S "__module__") 298 (.str (S "cpy313.tabnanny") 289), ek P (S "__qualname__") 300 (.str (S "Whitespace") 299), ek P (S "__firstlineno__") 302 (.int (6) 301), ek P (S "S") 306 (.str (S " ") 304), ek P (S "T") 307 (.str ⟨#[9]⟩ 305), ek P (S "__init__") 322 (.ref 55), ek P (S "longest_run_of_spaces") 331 (.ref 62), ek P (S "indent_level") 343 (.ref 69), ek P (S "equal") 351 (.ref 76), ek P (S "not_equal_witness") 359 (.ref 83), ek P (S "less") 367 (.ref 90), ek P (S "not_less_witness") 378 (.ref 97), ek P (S "__static_attributes__") 384 (.ref 98)] 13, #[]⟩
noncomputable def o42 (P : Params) : Obj := ⟨(.type "tuple"), none, .seq #[] 0, #[]⟩
noncomputable def o43 (P : Params) : Obj := ⟨.none, none, .fields #[(.int (9) 0), (.int (4) 0), (.ref 54), (.int (32) 0), (.int (4) 0), (.ref 61), (.int (36) 0), (.int (4) 0), (.ref 68), (.int (43) 0), (.int (4) 0), (.ref 75), (.int (46) 0), (.int (4) 0), (.ref 82), (.int (49) 0), (.int (4) 0), (.ref 89), (.int (52) 0), (.int (4) 0), (.ref 96)], #[]⟩
noncomputable def o44 (P : Params) : Obj := ⟨(.type "code"), none, .fields #[(.str (S "Whitespace") 293), (.str (S "Whitespace") 294), (.str (S "/claim/cut.py") 295), (.int (6) 0), (.int (0) 0), (.int (0) 0), (.int (0) 0), (.int (0) 0), (.ref 42), (.bool false), (.int (276) 0), (.ref 43), .none, .none, .none, .none, (.int (296) 0), (.int (6) 0), (.str (S "/claim/cut.py") 297)], #[]⟩
noncomputable def o45 (P : Params) : Obj := ⟨(.type "frame"), none, .plain, #[(some (.ref 44)), (some (.ref 3)), (some (.ref 41)), none, (some (.str (S "cpy313.tabnanny") 289)), none, (some (.ref 0))]⟩
noncomputable def o46 (P : Params) : Obj := ⟨(.type "str_ascii_iterator"), none, .fields #[.none, (.int (2) 0)], #[]⟩
noncomputable def o47 (P : Params) : Obj := ⟨(.type "tuple"), none, .seq #[] 0, #[]⟩
noncomputable def o48 (P : Params) : Obj := ⟨(.type "StopIteration"), none, .fields #[(.ref 47), .none, .none, .none, (.bool false), .none], #[]⟩
noncomputable def o49 (P : Params) : Obj := ⟨(.type "tuple"), none, .seq #[] 0, #[]⟩
noncomputable def o50 (P : Params) : Obj := ⟨.none, none, .fields #[], #[]⟩
noncomputable def o51 (P : Params) : Obj := ⟨(.type "tuple"), none, .seq #[(.str (S "self") 311), (.str (S "ws") 312), (.str (S "S") 313), (.str (S "T") 314), (.str (S "count") 315), (.str (S "b") 316), (.str (S "n") 317), (.str (S "nt") 318), (.str (S "ch") 319)] 0, #[]⟩
noncomputable def o52 (P : Params) : Obj := ⟨(.type "tuple"), none, .seq #[] 0, #[]⟩
noncomputable def o53 (P : Params) : Obj := ⟨.none, none, .func (fnc (sub (stm 3) 1) (S "__init__") (S "Whitespace.__init__") 0 .none .none .none .none none .none .none 0), #[]⟩
noncomputable def o54 (P : Params) : Obj := ⟨(.type "code"), none, .fields #[(.str (S "__init__") 308), (.str (S "Whitespace.__init__") 309), (.str (S "/claim/cut.py") 310), (.int (9) 0), (.int (2) 0), (.int (0) 0), (.int (0) 0), (.int (3) 0), (.ref 49), (.bool true), (.int (276) 0), (.ref 50), .none, (.ref 51), (.ref 52), (.ref 53), (.int (320) 0), (.int (9) 0), (.str (S "/claim/cut.py") 321)], #[]⟩
noncomputable def o55 (P : Params) : Obj := ⟨(.type "function"), none, .func (fnc (sub (stm 3) 1) (S "__init__") (S "Whitespace.__init__") 3 .none .none .none (.str (S "cpy313.tabnanny") 289) none (.ref 54) .none 0), #[]⟩
noncomputable def o56 (P : Params) : Obj := ⟨(.type "tuple"), none, .seq #[] 0, #[]⟩
noncomputable def o57 (P : Params) : Obj := ⟨.none, none, .fields #[], #[]⟩
noncomputable def o58 (P : Params) : Obj := ⟨(.type "tuple"), none, .seq #[(.str (S "self") 326), (.str (S "count") 327), (.str (S "trailing") 328)] 0, #[]⟩
noncomputable def o59 (P : Params) : Obj := ⟨(.type "tuple"), none, .seq #[] 0, #[]⟩
noncomputable def o60 (P : Params) : Obj := ⟨.none, none, .func (fnc (sub (stm 3) 2) (S "longest_run_of_spaces") (S "Whitespace.longest_run_of_spaces") 0 .none .none .none .none none .none .none 0), #[]⟩
noncomputable def o61 (P : Params) : Obj := ⟨(.type "code"), none, .fields #[(.str (S "longest_run_of_spaces") 323), (.str (S "Whitespace.longest_run_of_spaces") 324), (.str (S "/claim/cut.py") 325), (.int (32) 0), (.int (1) 0), (.int (0) 0), (.int (0) 0), (.int (3) 0), (.ref 56), (.bool true), (.int (276) 0), (.ref 57), .none, (.ref 58), (.ref 59), (.ref 60), (.int (329) 0), (.int (32) 0), (.str (S "/claim/cut.py") 330)], #[]⟩
noncomputable def o62 (P : Params) : Obj := ⟨(.type "function"), none, .func (fnc (sub (stm 3) 2) (S "longest_run_of_spaces") (S "Whitespace.longest_run_of_spaces") 3 .none .none .none (.str (S "cpy313.tabnanny") 289) none (.ref 61) .none 0), #[]⟩
noncomputable def o63 (P : Params) : Obj := ⟨(.type "tuple"), none, .seq #[] 0, #[]⟩
noncomputable def o64 (P : Params) : Obj := ⟨.none, none, .fields #[], #[]⟩
noncomputable def o65 (P : Params) : Obj := ⟨(.type "tuple"), none, .seq #[(.str (S "self") 335), (.str (S "tabsize") 336), (.str (S "count") 337), (.str (S "trailing") 338), (.str (S "il") 339), (.str (S "i") 340)] 0, #[]⟩
noncomputable def o66 (P : Params) : Obj := ⟨(.type "tuple"), none, .seq #[] 0, #[]⟩
noncomputable def o67 (P : Params) : Obj := ⟨.none, none, .func (fnc (sub (stm 3) 3) (S "indent_level") (S "Whitespace.indent_level") 0 .none .none .none .none none .none .none 0), #[]⟩
noncomputable def o68 (P : Params) : Obj := ⟨(.type "code"), none, .fields #[(.str (S "indent_level") 332), (.str (S "Whitespace.indent_level") 333), (.str (S "/claim/cut.py") 334), (.int (36) 0), (.int (2) 0), (.int (0) 0), (.int (0) 0), (.int (3) 0), (.ref 63), (.bool true), (.int (276) 0), (.ref 64), .none, (.ref 65), (.ref 66), (.ref 67), (.int (341) 0), (.int (36) 0), (.str (S "/claim/cut.py") 342)], #[]⟩
noncomputable def o69 (P : Params) : Obj := ⟨(.type "function"), none, .func (fnc (sub (stm 3) 3) (S "indent_level") (S "Whitespace.indent_level") 3 .none .none .none (.str (S "cpy313.tabnanny") 289) none (.ref 68) .none 0), #[]⟩
noncomputable def o70 (P : Params) : Obj := ⟨(.type "tuple"), none, .seq #[] 0, #[]⟩
noncomputable def o71 (P : Params) : Obj := ⟨.none, none, .fields #[], #[]⟩
noncomputable def o72 (P : Params) : Obj := ⟨(.type "tuple"), none, .seq #[(.str (S "self") 347), (.str (S "other") 348)] 0, #[]⟩
noncomputable def o73 (P : Params) : Obj := ⟨(.type "tuple"), none, .seq #[] 0, #[]⟩
noncomputable def o74 (P : Params) : Obj := ⟨.none, none, .func (fnc (sub (stm 3) 4) (S "equal") (S "Whitespace.equal") 0 .none .none .none .none none .none .none 0), #[]⟩
noncomputable def o75 (P : Params) : Obj := ⟨(.type "code"), none, .fields #[(.str (S "equal") 344), (.str (S "Whitespace.equal") 345), (.str (S "/claim/cut.py") 346), (.int (43) 0), (.int (2) 0), (.int (0) 0), (.int (0) 0), (.int (3) 0), (.ref 70), (.bool true), (.int (276) 0), (.ref 71), .none, (.ref 72), (.ref 73), (.ref 74), (.int (349) 0), (.int (43) 0), (.str (S "/claim/cut.py") 350)], #[]⟩
noncomputable def o76 (P : Params) : Obj := ⟨(.type "function"), none, .func (fnc (sub (stm 3) 4) (S "equal") (S "Whitespace.equal") 3 .none .none .none (.str (S "cpy313.tabnanny") 289) none (.ref 75) .none 0), #[]⟩
noncomputable def o77 (P : Params) : Obj := ⟨(.type "tuple"), none, .seq #[] 0, #[]⟩
noncomputable def o78 (P : Params) : Obj := ⟨.none, none, .fields #[], #[]⟩
noncomputable def o79 (P : Params) : Obj := ⟨(.type "tuple"), none, .seq #[(.str (S "self") 355), (.str (S "other") 356)] 0, #[]⟩
noncomputable def o80 (P : Params) : Obj := ⟨(.type "tuple"), none, .seq #[] 0, #[]⟩
noncomputable def o81 (P : Params) : Obj := ⟨.none, none, .func (fnc (sub (stm 3) 5) (S "not_equal_witness") (S "Whitespace.not_equal_witness") 0 .none .none .none .none none .none .none 0), #[]⟩
noncomputable def o82 (P : Params) : Obj := ⟨(.type "code"), none, .fields #[(.str (S "not_equal_witness") 352), (.str (S "Whitespace.not_equal_witness") 353), (.str (S "/claim/cut.py") 354), (.int (46) 0), (.int (2) 0), (.int (0) 0), (.int (0) 0), (.int (3) 0), (.ref 77), (.bool true), (.int (276) 0), (.ref 78), .none, (.ref 79), (.ref 80), (.ref 81), (.int (357) 0), (.int (46) 0), (.str (S "/claim/cut.py") 358)], #[]⟩
noncomputable def o83 (P : Params) : Obj := ⟨(.type "function"), none, .func (fnc (sub (stm 3) 5) (S "not_equal_witness") (S "Whitespace.not_equal_witness") 3 .none .none .none (.str (S "cpy313.tabnanny") 289) none (.ref 82) .none 0), #[]⟩
noncomputable def o84 (P : Params) : Obj := ⟨(.type "tuple"), none, .seq #[] 0, #[]⟩
noncomputable def o85 (P : Params) : Obj := ⟨.none, none, .fields #[], #[]⟩
noncomputable def o86 (P : Params) : Obj := ⟨(.type "tuple"), none, .seq #[(.str (S "self") 363), (.str (S "other") 364)] 0, #[]⟩
noncomputable def o87 (P : Params) : Obj := ⟨(.type "tuple"), none, .seq #[] 0, #[]⟩
noncomputable def o88 (P : Params) : Obj := ⟨.none, none, .func (fnc (sub (stm 3) 6) (S "less") (S "Whitespace.less") 0 .none .none .none .none none .none .none 0), #[]⟩
noncomputable def o89 (P : Params) : Obj := ⟨(.type "code"), none, .fields #[(.str (S "less") 360), (.str (S "Whitespace.less") 361), (.str (S "/claim/cut.py") 362), (.int (49) 0), (.int (2) 0), (.int (0) 0), (.int (0) 0), (.int (3) 0), (.ref 84), (.bool true), (.int (276) 0), (.ref 85), .none, (.ref 86), (.ref 87), (.ref 88), (.int (365) 0), (.int (49) 0), (.str (S "/claim/cut.py") 366)], #[]⟩
noncomputable def o90 (P : Params) : Obj := ⟨(.type "function"), none, .func (fnc (sub (stm 3) 6) (S "less") (S "Whitespace.less") 3 .none .none .none (.str (S "cpy313.tabnanny") 289) none (.ref 89) .none 0), #[]⟩
noncomputable def o91 (P : Params) : Obj := ⟨(.type "tuple"), none, .seq #[] 0, #[]⟩
noncomputable def o92 (P : Params) : Obj := ⟨.none, none, .fields #[], #[]⟩
noncomputable def o93 (P : Params) : Obj := ⟨(.type "tuple"), none, .seq #[(.str (S "self") 371), (.str (S "other") 372), (.str (S "n") 373), (.str (S "a") 374), (.str (S "ts") 375)] 0, #[]⟩
noncomputable def o94 (P : Params) : Obj := ⟨(.type "tuple"), none, .seq #[] 0, #[]⟩
noncomputable def o95 (P : Params) : Obj := ⟨.none, none, .func (fnc (sub (stm 3) 7) (S "not_less_witness") (S "Whitespace.not_less_witness") 0 .none .none .none .none none .none .none 0), #[]⟩
noncomputable def o96 (P : Params) : Obj := ⟨(.type "code"), none, .fields #[(.str (S "not_less_witness") 368), (.str (S "Whitespace.not_less_witness") 369), (.str (S "/claim/cut.py") 370), (.int (52) 0), (.int (2) 0), (.int (0) 0), (.int (0) 0), (.int (3) 0), (.ref 91), (.bool true), (.int (276) 0), (.ref 92), .none, (.ref 93), (.ref 94), (.ref 95), (.int (376) 0), (.int (52) 0), (.str (S "/claim/cut.py") 377)], #[]⟩
noncomputable def o97 (P : Params) : Obj := ⟨(.type "function"), none, .func (fnc (sub (stm 3) 7) (S "not_less_witness") (S "Whitespace.not_less_witness") 3 .none .none .none (.str (S "cpy313.tabnanny") 289) none (.ref 96) .none 0), #[]⟩
noncomputable def o98 (P : Params) : Obj := ⟨(.type "tuple"), none, .seq #[(.str (S "is_simple") 379), (.str (S "n") 380), (.str (S "norm") 381), (.str (S "nt") 382), (.str (S "raw") 383)] 0, #[]⟩
noncomputable def o99 (P : Params) : Obj := ⟨(.type "dict"), none, .dict #[ek P (S "__module__") 298 (.str (S "cpy313.tabnanny") 289), ek P (S "__firstlineno__") 302 (.int (6) 301), ek P (S "S") 306 (.str (S " ") 304), ek P (S "T") 307 (.str ⟨#[9]⟩ 305), ek P (S "__init__") 322 (.ref 55), ek P (S "longest_run_of_spaces") 331 (.ref 62), ek P (S "indent_level") 343 (.ref 69), ek P (S "equal") 351 (.ref 76), ek P (S "not_equal_witness") 359 (.ref 83), ek P (S "less") 367 (.ref 90), ek P (S "not_less_witness") 378 (.ref 97), ek P (S "__static_attributes__") 384 (.ref 98), ek P (S "__dict__") 386 (.ref 101), ek P (S "__weakref__") 388 (.ref 102), ek P (S "__doc__") 389 .none] 4, #[]⟩
noncomputable def o100 (P : Params) : Obj := ⟨(.type "type"), none, .cls { name := (S "Whitespace"), bases := [(.type "object")], mro := [(.ref 100), (.type "object")], ns := 99, qualname := (S "Whitespace"), hasDict := true, slotNames := [], subclasses := [], abstract := false, collection := none, hasDel := false }, #[none, none, (some (.str (S "Whitespace") 291)), (some (.str (S "Whitespace") 299)), (some (.builtin "object.__new__")), (some (.bool true))]⟩
noncomputable def o101 (P : Params) : Obj := ⟨(.type "getset_descriptor"), none, .fields #[(.str (S "__dict__") 385), (.ref 100), (.builtin "function.__dict__"), (.builtin "function.__dict__#set")], #[]⟩
noncomputable def o102 (P : Params) : Obj := ⟨(.type "getset_descriptor"), none, .fields #[(.str (S "__weakref__") 387), (.ref 100), (.builtin "ExceptionGroup.__weakref__"), .none], #[]⟩
noncomputable def o103 (P : Params) : Obj := ⟨(.type "super"), none, .fields #[(.ref 100), (.ref 100), (.ref 100)], #[]⟩
noncomputable def o104 (P : Params) : Obj := ⟨(.type "builtin_function_or_method"), none, .fields #[(.builtin "object.__init_subclass__"), (.ref 100)], #[]⟩
noncomputable def o105 (P : Params) : Obj := ⟨(.type "tuple"), none, .seq #[(.int (0) 394), .none] 0, #[]⟩
noncomputable def o106 (P : Params) : Obj := ⟨(.type "dict"), none, .dict #[ek P (S "key") 395 .none] 1, #[]⟩
noncomputable def o107 (P : Params) : Obj := ⟨(.type "tuple"), none, .seq #[] 0, #[]⟩
noncomputable def o108 (P : Params) : Obj := ⟨.none, none, .fields #[], #[]⟩
noncomputable def o109 (P : Params) : Obj := ⟨(.type "tuple"), none, .seq #[(.str (S "a") 399), (.str (S "x") 400), (.str (S "lo") 401), (.str (S "hi") 402), (.str (S "key") 403), (.str (S "mid") 404)] 0, #[]⟩
noncomputable def o110 (P : Params) : Obj := ⟨(.type "tuple"), none, .seq #[] 0, #[]⟩
noncomputable def o111 (P : Params) : Obj := ⟨.none, none, .func (fnc (stm 5) (S "bisect_right") (S "bisect_right") 0 .none .none .none .none none .none .none 0), #[]⟩
noncomputable def o112 (P : Params) : Obj := ⟨(.type "code"), none, .fields #[(.str (S "bisect_right") 396), (.str (S "bisect_right") 397), (.str (S "/claim/cut.py") 398), (.int (60) 0), (.int (4) 0), (.int (0) 0), (.int (1) 0), (.int (3) 0), (.ref 107), (.bool true), (.int (276) 0), (.ref 108), .none, (.ref 109), (.ref 110), (.ref 111), (.int (405) 0), (.int (60) 0), (.str (S "/claim/cut.py") 406)], #[]⟩
noncomputable def o113 (P : Params) : Obj := ⟨(.type "function"), none, .func (fnc (stm 5) (S "bisect_right") (S "bisect_right") 3 (.ref 105) (.ref 106) .none (.str (S "cpy313.bisect") 392) none (.ref 112) .none 0), #[]⟩
noncomputable def o114 (P : Params) : Obj := ⟨(.type "tuple"), none, .seq #[(.int (0) 408), .none] 0, #[]⟩
noncomputable def o115 (P : Params) : Obj := ⟨(.type "dict"), none, .dict #[ek P (S "key") 409 .none] 1, #[]⟩
noncomputable def o116 (P : Params) : Obj := ⟨(.type "tuple"), none, .seq #[] 0, #[]⟩
noncomputable def o117 (P : Params) : Obj := ⟨.none, none, .fields #[], #[]⟩
noncomputable def o118 (P : Params) : Obj := ⟨(.type "tuple"), none, .seq #[(.str (S "a") 413), (.str (S "x") 414), (.str (S "lo") 415), (.str (S "hi") 416), (.str (S "key") 417)] 0, #[]⟩
noncomputable def o119 (P : Params) : Obj := ⟨(.type "tuple"), none, .seq #[] 0, #[]⟩
noncomputable def o120 (P : Params) : Obj := ⟨.none, none, .func (fnc (stm 6) (S "insort_left") (S "insort_left") 0 .none .none .none .none none .none .none 0), #[]⟩
noncomputable def o121 (P : Params) : Obj := ⟨(.type "code"), none, .fields #[(.str (S "insort_left") 410), (.str (S "insort_left") 411), (.str (S "/claim/cut.py") 412), (.int (80) 0), (.int (4) 0), (.int (0) 0), (.int (1) 0), (.int (3) 0), (.ref 116), (.bool true), (.int (276) 0), (.ref 117), .none, (.ref 118), (.ref 119), (.ref 120), (.int (418) 0), (.int (80) 0), (.str (S "/claim/cut.py") 419)], #[]⟩
noncomputable def o122 (P : Params) : Obj := ⟨(.type "function"), none, .func (fnc (stm 6) (S "insort_left") (S "insort_left") 3 (.ref 114) (.ref 115) .none (.str (S "cpy313.bisect") 392) none (.ref 121) .none 0), #[]⟩
noncomputable def o123 (P : Params) : Obj := ⟨(.type "tuple"), none, .seq #[(.int (0) 421), .none] 0, #[]⟩
noncomputable def o124 (P : Params) : Obj := ⟨(.type "dict"), none, .dict #[ek P (S "key") 422 .none] 1, #[]⟩
noncomputable def o125 (P : Params) : Obj := ⟨(.type "tuple"), none, .seq #[] 0, #[]⟩
noncomputable def o126 (P : Params) : Obj := ⟨.none, none, .fields #[], #[]⟩
noncomputable def o127 (P : Params) : Obj := ⟨(.type "tuple"), none, .seq #[(.str (S "a") 426), (.str (S "x") 427), (.str (S "lo") 428), (.str (S "hi") 429), (.str (S "key") 430), (.str (S "mid") 431)] 0, #[]⟩
noncomputable def o128 (P : Params) : Obj := ⟨(.type "tuple"), none, .seq #[] 0, #[]⟩
noncomputable def o129 (P : Params) : Obj := ⟨.none, none, .func (fnc (stm 7) (S "bisect_left") (S "bisect_left") 0 .none .none .none .none none .none .none 0), #[]⟩
noncomputable def o130 (P : Params) : Obj := ⟨(.type "code"), none, .fields #[(.str (S "bisect_left") 423), (.str (S "bisect_left") 424), (.str (S "/claim/cut.py") 425), (.int (86) 0), (.int (4) 0), (.int (0) 0), (.int (1) 0), (.int (3) 0), (.ref 125), (.bool true), (.int (276) 0), (.ref 126), .none, (.ref 127), (.ref 128), (.ref 129), (.int (432) 0), (.int (86) 0), (.str (S "/claim/cut.py") 433)], #[]⟩
noncomputable def o131 (P : Params) : Obj := ⟨(.type "function"), none, .func (fnc (stm 7) (S "bisect_left") (S "bisect_left") 3 (.ref 123) (.ref 124) .none (.str (S "cpy313.bisect") 392) none (.ref 130) .none 0), #[]⟩
noncomputable def o132 (P : Params) : Obj := ⟨(.type "list"), none, .seq #[(.int (173) 437), (.int (847) 438), (.int (6150) 439), (.int (6155) 440), (.int (6156) 441), (.int (6157) 442), (.int (8203) 443), (.int (8204) 444), (.int (8205) 445), (.int (8288) 446), (.int (65279) 447)] 0, #[]⟩
noncomputable def o133 (P : Params) : Obj := ⟨(.type "range"), none, .fields #[(.int (65024) 448), (.int (65040) 449), (.int (1) 450)], #[]⟩
noncomputable def o134 (P : Params) : Obj := ⟨(.type "list"), none, .seq #[(.int (65024) 453), (.int (65025) 454), (.int (65026) 455), (.int (65027) 456), (.int (65028) 457), (.int (65029) 458), (.int (65030) 459), (.int (65031) 460), (.int (65032) 461), (.int (65033) 462), (.int (65034) 463), (.int (65035) 464), (.int (65036) 465), (.int (65037) 466), (.int (65038) 467), (.int (65039) 468)] 18, #[]⟩
noncomputable def o135 (P : Params) : Obj := ⟨(.type "range_iterator"), none, .fields #[(.int (65040) 0), (.int (0) 0), (.int (1) 0)], #[]⟩
noncomputable def o136 (P : Params) : Obj := ⟨(.type "tuple"), none, .seq #[] 0, #[]⟩
noncomputable def o137 (P : Params) : Obj := ⟨(.type "StopIteration"), none, .fields #[(.ref 136), .none, .none, .none, (.bool false), .none], #[]⟩
noncomputable def o138 (P : Params) : Obj := ⟨(.type "list"), none, .seq #[(.int (173) 437), (.int (847) 438), (.int (6150) 439), (.int (6155) 440), (.int (6156) 441), (.int (6157) 442), (.int (8203) 443), (.int (8204) 444), (.int (8205) 445), (.int (8288) 446), (.int (65279) 447), (.int (65024) 453), (.int (65025) 454), (.int (65026) 455), (.int (65027) 456), (.int (65028) 457), (.int (65029) 458), (.int (65030) 459), (.int (65031) 460), (.int (65032) 461), (.int (65033) 462), (.int (65034) 463), (.int (65035) 464), (.int (65036) 465), (.int (65037) 466), (.int (65038) 467), (.int (65039) 468)] 0, #[]⟩
noncomputable def o139 (P : Params) : Obj := ⟨(.type "set"), none, .set #[(65024, (.int (65024) 453)), (65025, (.int (65025) 454)), (65026, (.int (65026) 455)), (65027, (.int (65027) 456)), (65028, (.int (65028) 457)), (65029, (.int (65029) 458)), (6150, (.int (6150) 439)), (65030, (.int (65030) 459)), (65031, (.int (65031) 460)), (65032, (.int (65032) 461)), (65033, (.int (65033) 462)), (6155, (.int (6155) 440)), (6156, (.int (6156) 441)), (6157, (.int (6157) 442)), (8203, (.int (8203) 443)), (8204, (.int (8204) 444)), (8205, (.int (8205) 445)), (65034, (.int (65034) 463)), (65035, (.int (65035) 464)), (65036, (.int (65036) 465)), (65037, (.int (65037) 466)), (65038, (.int (65038) 467)), (65039, (.int (65039) 468)), (173, (.int (173) 437)), (847, (.int (847) 438)), (8288, (.int (8288) 446)), (65279, (.int (65279) 447))] 29 { mask := 127, place := #[0, 1, 2, 3, 4, 5, 6, 7, 8, 9, 10, 11, 12, 13, 14, 15, 16, 17, 18, 19, 20, 21, 22, 45, 79, 96, 127], dummies := #[], finger := 0, led := !P.followText "set-order", moves := 2, plain := true }, #[]⟩
noncomputable def o140 (P : Params) : Obj := ⟨(.type "list_iterator"), none, .fields #[.none, (.int (27) 0)], #[]⟩
noncomputable def o141 (P : Params) : Obj := ⟨(.type "tuple"), none, .seq #[] 0, #[]⟩
noncomputable def o142 (P : Params) : Obj := ⟨(.type "StopIteration"), none, .fields #[(.ref 141), .none, .none, .none, (.bool false), .none], #[]⟩
noncomputable def o143 (P : Params) : Obj := ⟨(.type "tuple"), none, .seq #[] 0, #[]⟩
noncomputable def o144 (P : Params) : Obj := ⟨.none, none, .fields #[], #[]⟩
noncomputable def o145 (P : Params) : Obj := ⟨(.type "tuple"), none, .seq #[(.str (S "code") 500)] 0, #[]⟩
noncomputable def o146 (P : Params) : Obj := ⟨(.type "tuple"), none, .seq #[] 0, #[]⟩
noncomputable def o147 (P : Params) : Obj := ⟨.none, none, .func (fnc (stm 10) (S "in_table_b1") (S "in_table_b1") 0 .none .none .none .none none .none .none 0), #[]⟩
noncomputable def o148 (P : Params) : Obj := ⟨(.type "code"), none, .fields #[(.str (S "in_table_b1") 497), (.str (S "in_table_b1") 498), (.str (S "/claim/cut.py") 499), (.int (108) 0), (.int (1) 0), (.int (0) 0), (.int (0) 0), (.int (3) 0), (.ref 143), (.bool true), (.int (276) 0), (.ref 144), .none, (.ref 145), (.ref 146), (.ref 147), (.int (501) 0), (.int (108) 0), (.str (S "/claim/cut.py") 502)], #[]⟩
noncomputable def o149 (P : Params) : Obj := ⟨(.type "function"), none, .func (fnc (stm 10) (S "in_table_b1") (S "in_table_b1") 3 .none .none .none (.str (S "cpy313.stringprep") 435) none (.ref 148) .none 0), #[]⟩
noncomputable def o189 (P : Params) : Obj := ⟨(.type "tuple"), none, .seq #[] 0, #[]⟩
noncomputable def o190 (P : Params) : Obj := ⟨.none, none, .fields #[], #[]⟩
noncomputable def o191 (P : Params) : Obj := ⟨(.type "tuple"), none, .seq #[(.str (S "code") 2458), (.str (S "r") 2459)] 0, #[]⟩
noncomputable def o192 (P : Params) : Obj := ⟨(.type "tuple"), none, .seq #[] 0, #[]⟩
noncomputable def o193 (P : Params) : Obj := ⟨.none, none, .func (fnc (stm 12) (S "map_table_b3") (S "map_table_b3") 0 .none .none .none .none none .none .none 0), #[]⟩
noncomputable def o194 (P : Params) : Obj := ⟨(.type "code"), none, .fields #[(.str (S "map_table_b3") 2455), (.str (S "map_table_b3") 2456), (.str (S "/claim/cut.py") 2457), (.int (111) 0), (.int (1) 0), (.int (0) 0), (.int (0) 0), (.int (3) 0), (.ref 189), (.bool true), (.int (276) 0), (.ref 190), .none, (.ref 191), (.ref 192), (.ref 193), (.int (2460) 0), (.int (111) 0), (.str (S "/claim/cut.py") 2461)], #[]⟩
noncomputable def o195 (P : Params) : Obj := ⟨(.type "function"), none, .func (fnc (stm 12) (S "map_table_b3") (S "map_table_b3") 3 .none .none .none (.str (S "cpy313.stringprep") 435) none (.ref 194) .none 0), #[]⟩
noncomputable def o196 (P : Params) : Obj := ⟨(.type "list"), none, .seq #[(.int (14) 2468), (.int (14) 2469), (.int (4) 2470), (.int (1) 2471), (.int (1) 2472), (.int (9) 2473), (.int (0) 2474), (.int (4227896069) 2475), (.int (939524097) 2476), (.int (0) 2477), (.int (0) 2478), (.int (0) 2479), (.int (0) 2480), (.int (0) 2481), (.int (0) 2482), (.int (13) 2483), (.int (11) 2484), (.int (9) 2485), (.int (0) 2486), (.int (4227896069) 2487), (.int (939524097) 2488), (.int (0) 2489), (.int (0) 2490), (.int (0) 2491), (.int (0) 2492), (.int (0) 2493), (.int (0) 2494), (.int (1) 2495)] 0, #[]⟩
noncomputable def o197 (P : Params) : Obj := ⟨(.type "dict"), none, .dict #[] 0, #[]⟩
noncomputable def o198 (P : Params) : Obj := ⟨(.type "tuple"), none, .seq #[.none] 0, #[]⟩
noncomputable def o199 (P : Params) : Obj := ⟨(.type "tuple"), none, .seq #[(.int (14) 0), (.int (14) 0), (.int (4) 0), (.int (1) 0), (.int (1) 0), (.int (9) 0), (.int (0) 0), (.int (4227896069) 0), (.int (939524097) 0), (.int (0) 0), (.int (0) 0), (.int (0) 0), (.int (0) 0), (.int (0) 0), (.int (0) 0), (.int (13) 0), (.int (11) 0), (.int (9) 0), (.int (0) 0), (.int (4227896069) 0), (.int (939524097) 0), (.int (0) 0), (.int (0) 0), (.int (0) 0), (.int (0) 0), (.int (0) 0), (.int (0) 0), (.int (1) 0)] 0, #[]⟩
noncomputable def o200 (P : Params) : Obj := ⟨(.type "re.Pattern"), none, .fields #[(.str (S "[ \\(\\)<>@,;:\\\\\"/\\[\\]\\?=]") 2466), (.int (32) 2497), (.int (0) 0), .none, .none, (.ref 199), (.int (0) 0)], #[]⟩
noncomputable def o201 (P : Params) : Obj := ⟨(.type "list"), none, .seq #[(.int (14) 2502), (.int (10) 2503), (.int (4) 2504), (.int (1) 2505), (.int (1) 2506), (.int (22) 2507), (.int (0) 2508), (.int (31) 2509), (.int (16) 2510), (.int (127) 2511), (.int (0) 2512), (.int (13) 2513), (.int (7) 2514), (.int (22) 2515), (.int (0) 2516), (.int (31) 2517), (.int (16) 2518), (.int (127) 2519), (.int (0) 2520), (.int (1) 2521)] 0, #[]⟩
noncomputable def o202 (P : Params) : Obj := ⟨(.type "dict"), none, .dict #[] 0, #[]⟩
noncomputable def o203 (P : Params) : Obj := ⟨(.type "tuple"), none, .seq #[.none] 0, #[]⟩
noncomputable def o204 (P : Params) : Obj := ⟨(.type "tuple"), none, .seq #[(.int (14) 0), (.int (10) 0), (.int (4) 0), (.int (1) 0), (.int (1) 0), (.int (22) 0), (.int (0) 0), (.int (31) 0), (.int (16) 0), (.int (127) 0), (.int (0) 0), (.int (13) 0), (.int (7) 0), (.int (22) 0), (.int (0) 0), (.int (31) 0), (.int (16) 0), (.int (127) 0), (.int (0) 0), (.int (1) 0)] 0, #[]⟩
noncomputable def o205 (P : Params) : Obj := ⟨(.type "re.Pattern"), none, .fields #[(.str (S "[\\x00-\\x1F\\x7F]") 2500), (.int (32) 2523), (.int (0) 0), .none, .none, (.ref 204), (.int (0) 0)], #[]⟩
noncomputable def o206 (P : Params) : Obj := ⟨(.type "list"), none, .seq #[(.int (14) 2528), (.int (14) 2529), (.int (4) 2530), (.int (1) 2531), (.int (1) 2532), (.int (9) 2533), (.int (4294966783) 2534), (.int (0) 2535), (.int (0) 2536), (.int (2147483648) 2537), (.int (0) 2538), (.int (0) 2539), (.int (0) 2540), (.int (0) 2541), (.int (0) 2542), (.int (13) 2543), (.int (11) 2544), (.int (9) 2545), (.int (4294966783) 2546), (.int (0) 2547), (.int (0) 2548), (.int (2147483648) 2549), (.int (0) 2550), (.int (0) 2551), (.int (0) 2552), (.int (0) 2553), (.int (0) 2554), (.int (1) 2555)] 0, #[]⟩
noncomputable def o207 (P : Params) : Obj := ⟨(.type "dict"), none, .dict #[] 0, #[]⟩
noncomputable def o208 (P : Params) : Obj := ⟨(.type "tuple"), none, .seq #[.none] 0, #[]⟩
noncomputable def o209 (P : Params) : Obj := ⟨(.type "tuple"), none, .seq #[(.int (14) 0), (.int (14) 0), (.int (4) 0), (.int (1) 0), (.int (1) 0), (.int (9) 0), (.int (4294966783) 0), (.int (0) 0), (.int (0) 0), (.int (2147483648) 0), (.int (0) 0), (.int (0) 0), (.int (0) 0), (.int (0) 0), (.int (0) 0), (.int (13) 0), (.int (11) 0), (.int (9) 0), (.int (4294966783) 0), (.int (0) 0), (.int (0) 0), (.int (2147483648) 0), (.int (0) 0), (.int (0) 0), (.int (0) 0), (.int (0) 0), (.int (0) 0), (.int (1) 0)] 0, #[]⟩
noncomputable def o210 (P : Params) : Obj := ⟨(.type "re.Pattern"), none, .fields #[(.str (S "[\\x00-\\x08\\x0A-\\x1F\\x7F]") 2526), (.int (32) 2557), (.int (0) 0), .none, .none, (.ref 209), (.int (0) 0)], #[]⟩
noncomputable def o211 (P : Params) : Obj := ⟨(.type "tuple"), none, .seq #[.none, (.int (1) 2559)] 0, #[]⟩
noncomputable def o212 (P : Params) : Obj := ⟨(.type "tuple"), none, .seq #[] 0, #[]⟩
noncomputable def o213 (P : Params) : Obj := ⟨.none, none, .fields #[], #[]⟩
noncomputable def o214 (P : Params) : Obj := ⟨(.type "tuple"), none, .seq #[(.str (S "param") 2563), (.str (S "value") 2564), (.str (S "quote") 2565)] 0, #[]⟩
noncomputable def o215 (P : Params) : Obj := ⟨(.type "tuple"), none, .seq #[] 0, #[]⟩
noncomputable def o216 (P : Params) : Obj := ⟨.none, none, .func (fnc (stm 17) (S "_formatparam") (S "_formatparam") 0 .none .none .none .none none .none .none 0), #[]⟩
noncomputable def o217 (P : Params) : Obj := ⟨(.type "code"), none, .fields #[(.str (S "_formatparam") 2560), (.str (S "_formatparam") 2561), (.str (S "/claim/cut.py") 2562), (.int (120) 0), (.int (3) 0), (.int (0) 0), (.int (0) 0), (.int (3) 0), (.ref 212), (.bool true), (.int (276) 0), (.ref 213), .none, (.ref 214), (.ref 215), (.ref 216), (.int (2566) 0), (.int (120) 0), (.str (S "/claim/cut.py") 2567)], #[]⟩
noncomputable def o218 (P : Params) : Obj := ⟨(.type "function"), none, .func (fnc (stm 17) (S "_formatparam") (S "_formatparam") 3 (.ref 211) .none .none (.str (S "cpy313.wsgiref.headers") 2463) none (.ref 217) .none 0), #[]⟩
noncomputable def o219 (P : Params) : Obj := ⟨(.type "tuple"), none, .seq #[] 0, #[]⟩
noncomputable def o220 (P : Params) : Obj := ⟨(.type "builtin_function_or_method"), none, .fields #[(.builtin "type.__prepare__"), (.type "type")], #[]⟩
noncomputable def o221 (P : Params) : Obj := ⟨(.type "dict"), none, .dict #[ek P (S "__module__") 2576 (.str (S "cpy313.wsgiref.headers") 2463), ek P (S "__qualname__") 2578 (.str (S "Headers") 2577), ek P (S "__firstlineno__") 2580 (.int (129) 2579), ek P (S "__init__") 2590 (.ref 233), ek P (S "_convert_string_type") 2600 (.ref 240), ek P (S "__len__") 2607 (.ref 247), ek P (S "__setitem__") 2616 (.ref 254), ek P (S "__delitem__") 2622 (.ref 259), ek P (S "__getitem__") 2630 (.ref 266), ek P (S "__contains__") 2638 (.ref 273), ek P (S "get_all") 2644 (.ref 278), ek P (S "get") 2655 (.ref 286), ek P (S "keys") 2661 (.ref 291), ek P (S "values") 2667 (.ref 296), ek P (S "items") 2674 (.ref 303), ek P (S "__repr__") 2681 (.ref 310), ek P (S "__str__") 2687 (.ref 315), ek P (S "__bytes__") 2694 (.ref 322), ek P (S "setdefault") 2704 (.ref 329), ek P (S "add_header") 2717 (.ref 336), ek P (S "__static_attributes__") 2719 (.ref 337)] 21, #[]⟩
noncomputable def o222 (P : Params) : Obj := ⟨(.type "tuple"), none, .seq #[] 0, #[]⟩
noncomputable def o223 (P : Params) : Obj := ⟨.none, none, .fields #[(.int (131) 0), (.int (4) 0), (.ref 232), (.int (141) 0), (.int (4) 0), (.ref 239), (.int (149) 0), (.int (4) 0), (.ref 246), (.int (152) 0), (.int (4) 0), (.ref 253), (.int (156) 0), (.int (4) 0), (.ref 258), (.int (160) 0), (.int (4) 0), (.ref 265), (.int (163) 0), (.int (4) 0), (.ref 272), (.int (166) 0), (.int (4) 0), (.ref 277), (.int (170) 0), (.int (4) 0), (.ref 285), (.int (177) 0), (.int (4) 0), (.ref 290), (.int (180) 0), (.int (4) 0), (.ref 295), (.int (183) 0), (.int (4) 0), (.ref 302), (.int (186) 0), (.int (4) 0), (.ref 309), (.int (189) 0), (.int (4) 0), (.ref 314), (.int (192) 0), (.int (4) 0), (.ref 321), (.int (195) 0), (.int (4) 0), (.ref 328), (.int (203) 0), (.int (4) 0), (.ref 335)], #[]⟩
noncomputable def o224 (P : Params) : Obj := ⟨(.type "code"), none, .fields #[(.str (S "Headers") 2571), (.str (S "Headers") 2572), (.str (S "/claim/cut.py") 2573), (.int (129) 0), (.int (0) 0), (.int (0) 0), (.int (0) 0), (.int (0) 0), (.ref 222), (.bool false), (.int (276) 0), (.ref 223), .none, .none, .none, .none, (.int (2574) 0), (.int (129) 0), (.str (S "/claim/cut.py") 2575)], #[]⟩
noncomputable def o225 (P : Params) : Obj := ⟨(.type "frame"), none, .plain, #[(some (.ref 224)), (some (.ref 3)), (some (.ref 221)), none, (some (.str (S "cpy313.wsgiref.headers") 2463)), none, (some (.ref 0))]⟩
noncomputable def o226 (P : Params) : Obj := ⟨(.type "tuple"), none, .seq #[.none] 0, #[]⟩
noncomputable def o227 (P : Params) : Obj := ⟨(.type "tuple"), none, .seq #[] 0, #[]⟩
noncomputable def o228 (P : Params) : Obj := ⟨.none, none, .fields #[], #[]⟩
noncomputable def o229 (P : Params) : Obj := ⟨(.type "tuple"), none, .seq #[(.str (S "self") 2584), (.str (S "headers") 2585), (.str (S "k") 2586), (.str (S "v") 2587)] 0, #[]⟩
noncomputable def o230 (P : Params) : Obj := ⟨(.type "tuple"), none, .seq #[] 0, #[]⟩
noncomputable def o231 (P : Params) : Obj := ⟨.none, none, .func (fnc (sub (stm 18) 0) (S "__init__") (S "Headers.__init__") 0 .none .none .none .none none .none .none 0), #[]⟩
noncomputable def o232 (P : Params) : Obj := ⟨(.type "code"), none, .fields #[(.str (S "__init__") 2581), (.str (S "Headers.__init__") 2582), (.str (S "/claim/cut.py") 2583), (.int (131) 0), (.int (2) 0), (.int (0) 0), (.int (0) 0), (.int (3) 0), (.ref 227), (.bool true), (.int (276) 0), (.ref 228), .none, (.ref 229), (.ref 230), (.ref 231), (.int (2588) 0), (.int (131) 0), (.str (S "/claim/cut.py") 2589)], #[]⟩
noncomputable def o233 (P : Params) : Obj := ⟨(.type "function"), none, .func (fnc (sub (stm 18) 0) (S "__init__") (S "Headers.__init__") 3 (.ref 226) .none .none (.str (S "cpy313.wsgiref.headers") 2463) none (.ref 232) .none 0), #[]⟩
noncomputable def o234 (P : Params) : Obj := ⟨(.type "tuple"), none, .seq #[] 0, #[]⟩
noncomputable def o235 (P : Params) : Obj := ⟨.none, none, .fields #[], #[]⟩
noncomputable def o236 (P : Params) : Obj := ⟨(.type "tuple"), none, .seq #[(.str (S "self") 2594), (.str (S "value") 2595), (.str (S "name") 2596), (.str (S "regex") 2597)] 0, #[]⟩
noncomputable def o237 (P : Params) : Obj := ⟨(.type "tuple"), none, .seq #[] 0, #[]⟩
noncomputable def o238 (P : Params) : Obj := ⟨.none, none, .func (fnc (sub (stm 18) 1) (S "_convert_string_type") (S "Headers._convert_string_type") 0 .none .none .none .none none .none .none 0), #[]⟩
noncomputable def o239 (P : Params) : Obj := ⟨(.type "code"), none, .fields #[(.str (S "_convert_string_type") 2591), (.str (S "Headers._convert_string_type") 2592), (.str (S "/claim/cut.py") 2593), (.int (141) 0), (.int (2) 0), (.int (0) 0), (.int (1) 0), (.int (3) 0), (.ref 234), (.bool true), (.int (276) 0), (.ref 235), .none, (.ref 236), (.ref 237), (.ref 238), (.int (2598) 0), (.int (141) 0), (.str (S "/claim/cut.py") 2599)], #[]⟩
noncomputable def o240 (P : Params) : Obj := ⟨(.type "function"), none, .func (fnc (sub (stm 18) 1) (S "_convert_string_type") (S "Headers._convert_string_type") 3 .none .none .none (.str (S "cpy313.wsgiref.headers") 2463) none (.ref 239) .none 0), #[]⟩
noncomputable def o241 (P : Params) : Obj := ⟨(.type "tuple"), none, .seq #[] 0, #[]⟩
noncomputable def o242 (P : Params) : Obj := ⟨.none, none, .fields #[], #[]⟩
noncomputable def o243 (P : Params) : Obj := ⟨(.type "tuple"), none, .seq #[(.str (S "self") 2604)] 0, #[]⟩
noncomputable def o244 (P : Params) : Obj := ⟨(.type "tuple"), none, .seq #[] 0, #[]⟩
noncomputable def o245 (P : Params) : Obj := ⟨.none, none, .func (fnc (sub (stm 18) 2) (S "__len__") (S "Headers.__len__") 0 .none .none .none .none none .none .none 0), #[]⟩
noncomputable def o246 (P : Params) : Obj := ⟨(.type "code"), none, .fields #[(.str (S "__len__") 2601), (.str (S "Headers.__len__") 2602), (.str (S "/claim/cut.py") 2603), (.int (149) 0), (.int (1) 0), (.int (0) 0), (.int (0) 0), (.int (3) 0), (.ref 241), (.bool true), (.int (276) 0), (.ref 242), .none, (.ref 243), (.ref 244), (.ref 245), (.int (2605) 0), (.int (149) 0), (.str (S "/claim/cut.py") 2606)], #[]⟩
noncomputable def o247 (P : Params) : Obj := ⟨(.type "function"), none, .func (fnc (sub (stm 18) 2) (S "__len__") (S "Headers.__len__") 3 .none .none .none (.str (S "cpy313.wsgiref.headers") 2463) none (.ref 246) .none 0), #[]⟩
noncomputable def o248 (P : Params) : Obj := ⟨(.type "tuple"), none, .seq #[] 0, #[]⟩
noncomputable def o249 (P : Params) : Obj := ⟨.none, none, .fields #[], #[]⟩
noncomputable def o250 (P : Params) : Obj := ⟨(.type "tuple"), none, .seq #[(.str (S "self") 2611), (.str (S "name") 2612), (.str (S "val") 2613)] 0, #[]⟩
noncomputable def o251 (P : Params) : Obj := ⟨(.type "tuple"), none, .seq #[] 0, #[]⟩
noncomputable def o252 (P : Params) : Obj := ⟨.none, none, .func (fnc (sub (stm 18) 3) (S "__setitem__") (S "Headers.__setitem__") 0 .none .none .none .none none .none .none 0), #[]⟩
noncomputable def o253 (P : Params) : Obj := ⟨(.type "code"), none, .fields #[(.str (S "__setitem__") 2608), (.str (S "Headers.__setitem__") 2609), (.str (S "/claim/cut.py") 2610), (.int (152) 0), (.int (3) 0), (.int (0) 0), (.int (0) 0), (.int (3) 0), (.ref 248), (.bool true), (.int (276) 0), (.ref 249), .none, (.ref 250), (.ref 251), (.ref 252), (.int (2614) 0), (.int (152) 0), (.str (S "/claim/cut.py") 2615)], #[]⟩
noncomputable def o254 (P : Params) : Obj := ⟨(.type "function"), none, .func (fnc (sub (stm 18) 3) (S "__setitem__") (S "Headers.__setitem__") 3 .none .none .none (.str (S "cpy313.wsgiref.headers") 2463) none (.ref 253) .none 0), #[]⟩
noncomputable def o255 (P : Params) : Obj := ⟨(.type "tuple"), none, .seq #[] 0, #[]⟩
noncomputable def o256 (P : Params) : Obj := ⟨.none, none, .fields #[], #[]⟩
noncomputable def o257 (P : Params) : Obj := ⟨.none, none, .func (fnc (sub (stm 18) 4) (S "__delitem__") (S "Headers.__delitem__") 0 .none .none .none .none none .none .none 0), #[]⟩
noncomputable def o258 (P : Params) : Obj := ⟨(.type "code"), none, .fields #[(.str (S "__delitem__") 2617), (.str (S "Headers.__delitem__") 2618), (.str (S "/claim/cut.py") 2619), (.int (156) 0), (.int (2) 0), (.int (0) 0), (.int (0) 0), (.int (3) 0), (.ref 255), (.bool true), (.int (276) 0), (.ref 256), .none, .none, .none, (.ref 257), (.int (2620) 0), (.int (156) 0), (.str (S "/claim/cut.py") 2621)], #[]⟩
noncomputable def o259 (P : Params) : Obj := ⟨(.type "function"), none, .func (fnc (sub (stm 18) 4) (S "__delitem__") (S "Headers.__delitem__") 3 .none .none .none (.str (S "cpy313.wsgiref.headers") 2463) none (.ref 258) .none 0), #[]⟩
noncomputable def o260 (P : Params) : Obj := ⟨(.type "tuple"), none, .seq #[] 0, #[]⟩
noncomputable def o261 (P : Params) : Obj := ⟨.none, none, .fields #[], #[]⟩
noncomputable def o262 (P : Params) : Obj := ⟨(.type "tuple"), none, .seq #[(.str (S "self") 2626), (.str (S "name") 2627)] 0, #[]⟩
noncomputable def o263 (P : Params) : Obj := ⟨(.type "tuple"), none, .seq #[] 0, #[]⟩
noncomputable def o264 (P : Params) : Obj := ⟨.none, none, .func (fnc (sub (stm 18) 5) (S "__getitem__") (S "Headers.__getitem__") 0 .none .none .none .none none .none .none 0), #[]⟩
noncomputable def o265 (P : Params) : Obj := ⟨(.type "code"), none, .fields #[(.str (S "__getitem__") 2623), (.str (S "Headers.__getitem__") 2624), (.str (S "/claim/cut.py") 2625), (.int (160) 0), (.int (2) 0), (.int (0) 0), (.int (0) 0), (.int (3) 0), (.ref 260), (.bool true), (.int (276) 0), (.ref 261), .none, (.ref 262), (.ref 263), (.ref 264), (.int (2628) 0), (.int (160) 0), (.str (S "/claim/cut.py") 2629)], #[]⟩
noncomputable def o266 (P : Params) : Obj := ⟨(.type "function"), none, .func (fnc (sub (stm 18) 5) (S "__getitem__") (S "Headers.__getitem__") 3 .none .none .none (.str (S "cpy313.wsgiref.headers") 2463) none (.ref 265) .none 0), #[]⟩
noncomputable def o267 (P : Params) : Obj := ⟨(.type "tuple"), none, .seq #[] 0, #[]⟩
noncomputable def o268 (P : Params) : Obj := ⟨.none, none, .fields #[], #[]⟩
noncomputable def o269 (P : Params) : Obj := ⟨(.type "tuple"), none, .seq #[(.str (S "self") 2634), (.str (S "name") 2635)] 0, #[]⟩
noncomputable def o270 (P : Params) : Obj := ⟨(.type "tuple"), none, .seq #[] 0, #[]⟩
noncomputable def o271 (P : Params) : Obj := ⟨.none, none, .func (fnc (sub (stm 18) 6) (S "__contains__") (S "Headers.__contains__") 0 .none .none .none .none none .none .none 0), #[]⟩
noncomputable def o272 (P : Params) : Obj := ⟨(.type "code"), none, .fields #[(.str (S "__contains__") 2631), (.str (S "Headers.__contains__") 2632), (.str (S "/claim/cut.py") 2633), (.int (163) 0), (.int (2) 0), (.int (0) 0), (.int (0) 0), (.int (3) 0), (.ref 267), (.bool true), (.int (276) 0), (.ref 268), .none, (.ref 269), (.ref 270), (.ref 271), (.int (2636) 0), (.int (163) 0), (.str (S "/claim/cut.py") 2637)], #[]⟩
noncomputable def o273 (P : Params) : Obj := ⟨(.type "function"), none, .func (fnc (sub (stm 18) 6) (S "__contains__") (S "Headers.__contains__") 3 .none .none .none (.str (S "cpy313.wsgiref.headers") 2463) none (.ref 272) .none 0), #[]⟩
noncomputable def o274 (P : Params) : Obj := ⟨(.type "tuple"), none, .seq #[] 0, #[]⟩
noncomputable def o275 (P : Params) : Obj := ⟨.none, none, .fields #[], #[]⟩
noncomputable def o276 (P : Params) : Obj := ⟨.none, none, .func (fnc (sub (stm 18) 7) (S "get_all") (S "Headers.get_all") 0 .none .none .none .none none .none .none 0), #[]⟩
noncomputable def o277 (P : Params) : Obj := ⟨(.type "code"), none, .fields #[(.str (S "get_all") 2639), (.str (S "Headers.get_all") 2640), (.str (S "/claim/cut.py") 2641), (.int (166) 0), (.int (2) 0), (.int (0) 0), (.int (0) 0), (.int (3) 0), (.ref 274), (.bool true), (.int (276) 0), (.ref 275), .none, .none, .none, (.ref 276), (.int (2642) 0), (.int (166) 0), (.str (S "/claim/cut.py") 2643)], #[]⟩
noncomputable def o278 (P : Params) : Obj := ⟨(.type "function"), none, .func (fnc (sub (stm 18) 7) (S "get_all") (S "Headers.get_all") 3 .none .none .none (.str (S "cpy313.wsgiref.headers") 2463) none (.ref 277) .none 0), #[]⟩
noncomputable def o279 (P : Params) : Obj := ⟨(.type "tuple"), none, .seq #[.none] 0, #[]⟩
noncomputable def o280 (P : Params) : Obj := ⟨(.type "tuple"), none, .seq #[] 0, #[]⟩
noncomputable def o281 (P : Params) : Obj := ⟨.none, none, .fields #[], #[]⟩
noncomputable def o282 (P : Params) : Obj := ⟨(.type "tuple"), none, .seq #[(.str (S "self") 2648), (.str (S "name") 2649), (.str (S "default") 2650), (.str (S "k") 2651), (.str (S "v") 2652)] 0, #[]⟩
noncomputable def o283 (P : Params) : Obj := ⟨(.type "tuple"), none, .seq #[] 0, #[]⟩
noncomputable def o284 (P : Params) : Obj := ⟨.none, none, .func (fnc (sub (stm 18) 8) (S "get") (S "Headers.get") 0 .none .none .none .none none .none .none 0), #[]⟩
noncomputable def o285 (P : Params) : Obj := ⟨(.type "code"), none, .fields #[(.str (S "get") 2645), (.str (S "Headers.get") 2646), (.str (S "/claim/cut.py") 2647), (.int (170) 0), (.int (3) 0), (.int (0) 0), (.int (0) 0), (.int (3) 0), (.ref 280), (.bool true), (.int (276) 0), (.ref 281), .none, (.ref 282), (.ref 283), (.ref 284), (.int (2653) 0), (.int (170) 0), (.str (S "/claim/cut.py") 2654)], #[]⟩
noncomputable def o286 (P : Params) : Obj := ⟨(.type "function"), none, .func (fnc (sub (stm 18) 8) (S "get") (S "Headers.get") 3 (.ref 279) .none .none (.str (S "cpy313.wsgiref.headers") 2463) none (.ref 285) .none 0), #[]⟩
noncomputable def o287 (P : Params) : Obj := ⟨(.type "tuple"), none, .seq #[] 0, #[]⟩
noncomputable def o288 (P : Params) : Obj := ⟨.none, none, .fields #[], #[]⟩
noncomputable def o289 (P : Params) : Obj := ⟨.none, none, .func (fnc (sub (stm 18) 9) (S "keys") (S "Headers.keys") 0 .none .none .none .none none .none .none 0), #[]⟩
noncomputable def o290 (P : Params) : Obj := ⟨(.type "code"), none, .fields #[(.str (S "keys") 2656), (.str (S "Headers.keys") 2657), (.str (S "/claim/cut.py") 2658), (.int (177) 0), (.int (1) 0), (.int (0) 0), (.int (0) 0), (.int (3) 0), (.ref 287), (.bool true), (.int (276) 0), (.ref 288), .none, .none, .none, (.ref 289), (.int (2659) 0), (.int (177) 0), (.str (S "/claim/cut.py") 2660)], #[]⟩
noncomputable def o291 (P : Params) : Obj := ⟨(.type "function"), none, .func (fnc (sub (stm 18) 9) (S "keys") (S "Headers.keys") 3 .none .none .none (.str (S "cpy313.wsgiref.headers") 2463) none (.ref 290) .none 0), #[]⟩
noncomputable def o292 (P : Params) : Obj := ⟨(.type "tuple"), none, .seq #[] 0, #[]⟩
noncomputable def o293 (P : Params) : Obj := ⟨.none, none, .fields #[], #[]⟩
noncomputable def o294 (P : Params) : Obj := ⟨.none, none, .func (fnc (sub (stm 18) 10) (S "values") (S "Headers.values") 0 .none .none .none .none none .none .none 0), #[]⟩
noncomputable def o295 (P : Params) : Obj := ⟨(.type "code"), none, .fields #[(.str (S "values") 2662), (.str (S "Headers.values") 2663), (.str (S "/claim/cut.py") 2664), (.int (180) 0), (.int (1) 0), (.int (0) 0), (.int (0) 0), (.int (3) 0), (.ref 292), (.bool true), (.int (276) 0), (.ref 293), .none, .none, .none, (.ref 294), (.int (2665) 0), (.int (180) 0), (.str (S "/claim/cut.py") 2666)], #[]⟩
noncomputable def o296 (P : Params) : Obj := ⟨(.type "function"), none, .func (fnc (sub (stm 18) 10) (S "values") (S "Headers.values") 3 .none .none .none (.str (S "cpy313.wsgiref.headers") 2463) none (.ref 295) .none 0), #[]⟩
noncomputable def o297 (P : Params) : Obj := ⟨(.type "tuple"), none, .seq #[] 0, #[]⟩
noncomputable def o298 (P : Params) : Obj := ⟨.none, none, .fields #[], #[]⟩
noncomputable def o299 (P : Params) : Obj := ⟨(.type "tuple"), none, .seq #[(.str (S "self") 2671)] 0, #[]⟩
noncomputable def o300 (P : Params) : Obj := ⟨(.type "tuple"), none, .seq #[] 0, #[]⟩
noncomputable def o301 (P : Params) : Obj := ⟨.none, none, .func (fnc (sub (stm 18) 11) (S "items") (S "Headers.items") 0 .none .none .none .none none .none .none 0), #[]⟩
noncomputable def o302 (P : Params) : Obj := ⟨(.type "code"), none, .fields #[(.str (S "items") 2668), (.str (S "Headers.items") 2669), (.str (S "/claim/cut.py") 2670), (.int (183) 0), (.int (1) 0), (.int (0) 0), (.int (0) 0), (.int (3) 0), (.ref 297), (.bool true), (.int (276) 0), (.ref 298), .none, (.ref 299), (.ref 300), (.ref 301), (.int (2672) 0), (.int (183) 0), (.str (S "/claim/cut.py") 2673)], #[]⟩
noncomputable def o303 (P : Params) : Obj := ⟨(.type "function"), none, .func (fnc (sub (stm 18) 11) (S "items") (S "Headers.items") 3 .none .none .none (.str (S "cpy313.wsgiref.headers") 2463) none (.ref 302) .none 0), #[]⟩
noncomputable def o304 (P : Params) : Obj := ⟨(.type "tuple"), none, .seq #[] 0, #[]⟩
noncomputable def o305 (P : Params) : Obj := ⟨.none, none, .fields #[], #[]⟩
noncomputable def o306 (P : Params) : Obj := ⟨(.type "tuple"), none, .seq #[(.str (S "self") 2678)] 0, #[]⟩
noncomputable def o307 (P : Params) : Obj := ⟨(.type "tuple"), none, .seq #[] 0, #[]⟩
noncomputable def o308 (P : Params) : Obj := ⟨.none, none, .func (fnc (sub (stm 18) 12) (S "__repr__") (S "Headers.__repr__") 0 .none .none .none .none none .none .none 0), #[]⟩
noncomputable def o309 (P : Params) : Obj := ⟨(.type "code"), none, .fields #[(.str (S "__repr__") 2675), (.str (S "Headers.__repr__") 2676), (.str (S "/claim/cut.py") 2677), (.int (186) 0), (.int (1) 0), (.int (0) 0), (.int (0) 0), (.int (3) 0), (.ref 304), (.bool true), (.int (276) 0), (.ref 305), .none, (.ref 306), (.ref 307), (.ref 308), (.int (2679) 0), (.int (186) 0), (.str (S "/claim/cut.py") 2680)], #[]⟩
noncomputable def o310 (P : Params) : Obj := ⟨(.type "function"), none, .func (fnc (sub (stm 18) 12) (S "__repr__") (S "Headers.__repr__") 3 .none .none .none (.str (S "cpy313.wsgiref.headers") 2463) none (.ref 309) .none 0), #[]⟩
noncomputable def o311 (P : Params) : Obj := ⟨(.type "tuple"), none, .seq #[] 0, #[]⟩
noncomputable def o312 (P : Params) : Obj := ⟨.none, none, .fields #[], #[]⟩
noncomputable def o313 (P : Params) : Obj := ⟨.none, none, .func (fnc (sub (stm 18) 13) (S "__str__") (S "Headers.__str__") 0 .none .none .none .none none .none .none 0), #[]⟩
noncomputable def o314 (P : Params) : Obj := ⟨(.type "code"), none, .fields #[(.str (S "__str__") 2682), (.str (S "Headers.__str__") 2683), (.str (S "/claim/cut.py") 2684), (.int (189) 0), (.int (1) 0), (.int (0) 0), (.int (0) 0), (.int (3) 0), (.ref 311), (.bool true), (.int (276) 0), (.ref 312), .none, .none, .none, (.ref 313), (.int (2685) 0), (.int (189) 0), (.str (S "/claim/cut.py") 2686)], #[]⟩
noncomputable def o315 (P : Params) : Obj := ⟨(.type "function"), none, .func (fnc (sub (stm 18) 13) (S "__str__") (S "Headers.__str__") 3 .none .none .none (.str (S "cpy313.wsgiref.headers") 2463) none (.ref 314) .none 0), #[]⟩
noncomputable def o316 (P : Params) : Obj := ⟨(.type "tuple"), none, .seq #[] 0, #[]⟩
noncomputable def o317 (P : Params) : Obj := ⟨.none, none, .fields #[], #[]⟩
noncomputable def o318 (P : Params) : Obj := ⟨(.type "tuple"), none, .seq #[(.str (S "self") 2691)] 0, #[]⟩
noncomputable def o319 (P : Params) : Obj := ⟨(.type "tuple"), none, .seq #[] 0, #[]⟩
noncomputable def o320 (P : Params) : Obj := ⟨.none, none, .func (fnc (sub (stm 18) 14) (S "__bytes__") (S "Headers.__bytes__") 0 .none .none .none .none none .none .none 0), #[]⟩
noncomputable def o321 (P : Params) : Obj := ⟨(.type "code"), none, .fields #[(.str (S "__bytes__") 2688), (.str (S "Headers.__bytes__") 2689), (.str (S "/claim/cut.py") 2690), (.int (192) 0), (.int (1) 0), (.int (0) 0), (.int (0) 0), (.int (3) 0), (.ref 316), (.bool true), (.int (276) 0), (.ref 317), .none, (.ref 318), (.ref 319), (.ref 320), (.int (2692) 0), (.int (192) 0), (.str (S "/claim/cut.py") 2693)], #[]⟩
noncomputable def o322 (P : Params) : Obj := ⟨(.type "function"), none, .func (fnc (sub (stm 18) 14) (S "__bytes__") (S "Headers.__bytes__") 3 .none .none .none (.str (S "cpy313.wsgiref.headers") 2463) none (.ref 321) .none 0), #[]⟩
noncomputable def o323 (P : Params) : Obj := ⟨(.type "tuple"), none, .seq #[] 0, #[]⟩
noncomputable def o324 (P : Params) : Obj := ⟨.none, none, .fields #[], #[]⟩
noncomputable def o325 (P : Params) : Obj := ⟨(.type "tuple"), none, .seq #[(.str (S "self") 2698), (.str (S "name") 2699), (.str (S "value") 2700), (.str (S "result") 2701)] 0, #[]⟩
noncomputable def o326 (P : Params) : Obj := ⟨(.type "tuple"), none, .seq #[] 0, #[]⟩
noncomputable def o327 (P : Params) : Obj := ⟨.none, none, .func (fnc (sub (stm 18) 15) (S "setdefault") (S "Headers.setdefault") 0 .none .none .none .none none .none .none 0), #[]⟩
noncomputable def o328 (P : Params) : Obj := ⟨(.type "code"), none, .fields #[(.str (S "setdefault") 2695), (.str (S "Headers.setdefault") 2696), (.str (S "/claim/cut.py") 2697), (.int (195) 0), (.int (3) 0), (.int (0) 0), (.int (0) 0), (.int (3) 0), (.ref 323), (.bool true), (.int (276) 0), (.ref 324), .none, (.ref 325), (.ref 326), (.ref 327), (.int (2702) 0), (.int (195) 0), (.str (S "/claim/cut.py") 2703)], #[]⟩
noncomputable def o329 (P : Params) : Obj := ⟨(.type "function"), none, .func (fnc (sub (stm 18) 15) (S "setdefault") (S "Headers.setdefault") 3 .none .none .none (.str (S "cpy313.wsgiref.headers") 2463) none (.ref 328) .none 0), #[]⟩
noncomputable def o330 (P : Params) : Obj := ⟨(.type "tuple"), none, .seq #[] 0, #[]⟩
noncomputable def o331 (P : Params) : Obj := ⟨.none, none, .fields #[], #[]⟩
noncomputable def o332 (P : Params) : Obj := ⟨(.type "tuple"), none, .seq #[(.str (S "self") 2708), (.str (S "_name") 2709), (.str (S "_value") 2710), (.str (S "_params") 2711), (.str (S "parts") 2712), (.str (S "k") 2713), (.str (S "v") 2714)] 0, #[]⟩
noncomputable def o333 (P : Params) : Obj := ⟨(.type "tuple"), none, .seq #[] 0, #[]⟩
noncomputable def o334 (P : Params) : Obj := ⟨.none, none, .func (fnc (sub (stm 18) 16) (S "add_header") (S "Headers.add_header") 0 .none .none .none .none none .none .none 0), #[]⟩
noncomputable def o335 (P : Params) : Obj := ⟨(.type "code"), none, .fields #[(.str (S "add_header") 2705), (.str (S "Headers.add_header") 2706), (.str (S "/claim/cut.py") 2707), (.int (203) 0), (.int (3) 0), (.int (0) 0), (.int (0) 0), (.int (11) 0), (.ref 330), (.bool true), (.int (276) 0), (.ref 331), .none, (.ref 332), (.ref 333), (.ref 334), (.int (2715) 0), (.int (203) 0), (.str (S "/claim/cut.py") 2716)], #[]⟩
noncomputable def o336 (P : Params) : Obj := ⟨(.type "function"), none, .func (fnc (sub (stm 18) 16) (S "add_header") (S "Headers.add_header") 3 .none .none .none (.str (S "cpy313.wsgiref.headers") 2463) none (.ref 335) .none 0), #[]⟩
noncomputable def o337 (P : Params) : Obj := ⟨(.type "tuple"), none, .seq #[(.str (S "_headers") 2718)] 0, #[]⟩
noncomputable def o338 (P : Params) : Obj := ⟨(.type "dict"), none, .dict #[ek P (S "__module__") 2576 (.str (S "cpy313.wsgiref.headers") 2463), ek P (S "__firstlineno__") 2580 (.int (129) 2579), ek P (S "__init__") 2590 (.ref 233), ek P (S "_convert_string_type") 2600 (.ref 240), ek P (S "__len__") 2607 (.ref 247), ek P (S "__setitem__") 2616 (.ref 254), ek P (S "__delitem__") 2622 (.ref 259), ek P (S "__getitem__") 2630 (.ref 266), ek P (S "__contains__") 2638 (.ref 273), ek P (S "get_all") 2644 (.ref 278), ek P (S "get") 2655 (.ref 286), ek P (S "keys") 2661 (.ref 291), ek P (S "values") 2667 (.ref 296), ek P (S "items") 2674 (.ref 303), ek P (S "__repr__") 2681 (.ref 310), ek P (S "__str__") 2687 (.ref 315), ek P (S "__bytes__") 2694 (.ref 322), ek P (S "setdefault") 2704 (.ref 329), ek P (S "add_header") 2717 (.ref 336), ek P (S "__static_attributes__") 2719 (.ref 337), ek P (S "__dict__") 2721 (.ref 340), ek P (S "__weakref__") 2723 (.ref 341), ek P (S "__doc__") 2724 .none] 4, #[]⟩
noncomputable def o339 (P : Params) : Obj := ⟨(.type "type"), none, .cls { name := (S "Headers"), bases := [(.type "object")], mro := [(.ref 339), (.type "object")], ns := 338, qualname := (S "Headers"), hasDict := true, slotNames := [], subclasses := [], abstract := false, collection := none, hasDel := false }, #[none, none, (some (.str (S "Headers") 2569)), (some (.str (S "Headers") 2577)), (some (.builtin "object.__new__")), (some (.bool true))]⟩
noncomputable def o340 (P : Params) : Obj := ⟨(.type "getset_descriptor"), none, .fields #[(.str (S "__dict__") 2720), (.ref 339), (.builtin "function.__dict__"), (.builtin "function.__dict__#set")], #[]⟩
noncomputable def o341 (P : Params) : Obj := ⟨(.type "getset_descriptor"), none, .fields #[(.str (S "__weakref__") 2722), (.ref 339), (.builtin "ExceptionGroup.__weakref__"), .none], #[]⟩
noncomputable def o342 (P : Params) : Obj := ⟨(.type "super"), none, .fields #[(.ref 339), (.ref 339), (.ref 339)], #[]⟩
noncomputable def o343 (P : Params) : Obj := ⟨(.type "builtin_function_or_method"), none, .fields #[(.builtin "object.__init_subclass__"), (.ref 339)], #[]⟩
noncomputable def o344 (P : Params) : Obj := ⟨(.type "tuple"), none, .seq #[] 0, #[]⟩
noncomputable def o345 (P : Params) : Obj := ⟨.none, none, .fields #[], #[]⟩
noncomputable def o346 (P : Params) : Obj := ⟨.none, none, .func (fnc (stm 20) (S "_law_spelled") (S "_law_spelled") 0 .none .none .none .none none .none .none 0), #[]⟩
noncomputable def o347 (P : Params) : Obj := ⟨(.type "code"), none, .fields #[(.str (S "_law_spelled") 2729), (.str (S "_law_spelled") 2730), (.str (S "/claim/cut.py") 2731), (.int (217) 0), (.int (1) 0), (.int (0) 0), (.int (0) 0), (.int (3) 0), (.ref 344), (.bool true), (.int (276) 0), (.ref 345), .none, .none, .none, (.ref 346), (.int (2732) 0), (.int (217) 0), (.str (S "/claim/cut.py") 2733)], #[]⟩
noncomputable def o348 (P : Params) : Obj := ⟨(.type "function"), none, .func (fnc (stm 20) (S "_law_spelled") (S "_law_spelled") 3 .none .none .none (.str (S "law_tc0098_01") 2727) none (.ref 347) .none 0), #[]⟩
noncomputable def o349 (P : Params) : Obj := ⟨(.type "tuple"), none, .seq #[] 0, #[]⟩
noncomputable def o350 (P : Params) : Obj := ⟨.none, none, .fields #[], #[]⟩
noncomputable def o351 (P : Params) : Obj := ⟨(.type "tuple"), none, .seq #[(.str (S "x") 2738)] 0, #[]⟩
noncomputable def o352 (P : Params) : Obj := ⟨(.type "tuple"), none, .seq #[] 0, #[]⟩
noncomputable def o353 (P : Params) : Obj := ⟨.none, none, .func (fnc (stm 21) (S "_law_runs") (S "_law_runs") 0 .none .none .none .none none .none .none 0), #[]⟩
noncomputable def o354 (P : Params) : Obj := ⟨(.type "code"), none, .fields #[(.str (S "_law_runs") 2735), (.str (S "_law_runs") 2736), (.str (S "/claim/cut.py") 2737), (.int (220) 0), (.int (1) 0), (.int (0) 0), (.int (0) 0), (.int (3) 0), (.ref 349), (.bool true), (.int (276) 0), (.ref 350), .none, (.ref 351), (.ref 352), (.ref 353), (.int (2739) 0), (.int (220) 0), (.str (S "/claim/cut.py") 2740)], #[]⟩
noncomputable def o355 (P : Params) : Obj := ⟨(.type "function"), none, .func (fnc (stm 21) (S "_law_runs") (S "_law_runs") 3 .none .none .none (.str (S "law_tc0098_01") 2727) none (.ref 354) .none 0), #[]⟩
noncomputable def o356 (P : Params) : Obj := ⟨(.type "tuple"), none, .seq #[] 0, #[]⟩
noncomputable def o357 (P : Params) : Obj := ⟨.none, none, .fields #[], #[]⟩
noncomputable def o358 (P : Params) : Obj := ⟨.none, none, .func (fnc (stm 22) (S "_law_lead") (S "_law_lead") 0 .none .none .none .none none .none .none 0), #[]⟩
noncomputable def o359 (P : Params) : Obj := ⟨(.type "code"), none, .fields #[(.str (S "_law_lead") 2742), (.str (S "_law_lead") 2743), (.str (S "/claim/cut.py") 2744), (.int (222) 0), (.int (2) 0), (.int (0) 0), (.int (0) 0), (.int (3) 0), (.ref 356), (.bool true), (.int (276) 0), (.ref 357), .none, .none, .none, (.ref 358), (.int (2745) 0), (.int (222) 0), (.str (S "/claim/cut.py") 2746)], #[]⟩
noncomputable def o360 (P : Params) : Obj := ⟨(.type "function"), none, .func (fnc (stm 22) (S "_law_lead") (S "_law_lead") 3 .none .none .none (.str (S "law_tc0098_01") 2727) none (.ref 359) .none 0), #[]⟩
noncomputable def o361 (P : Params) : Obj := ⟨(.type "tuple"), none, .seq #[] 0, #[]⟩
noncomputable def o362 (P : Params) : Obj := ⟨.none, none, .fields #[], #[]⟩
noncomputable def o363 (P : Params) : Obj := ⟨.none, none, .func (fnc (stm 23) (S "_law_column") (S "_law_column") 0 .none .none .none .none none .none .none 0), #[]⟩
noncomputable def o364 (P : Params) : Obj := ⟨(.type "code"), none, .fields #[(.str (S "_law_column") 2748), (.str (S "_law_column") 2749), (.str (S "/claim/cut.py") 2750), (.int (224) 0), (.int (3) 0), (.int (0) 0), (.int (0) 0), (.int (3) 0), (.ref 361), (.bool true), (.int (276) 0), (.ref 362), .none, .none, .none, (.ref 363), (.int (2751) 0), (.int (224) 0), (.str (S "/claim/cut.py") 2752)], #[]⟩
noncomputable def o365 (P : Params) : Obj := ⟨(.type "function"), none, .func (fnc (stm 23) (S "_law_column") (S "_law_column") 3 .none .none .none (.str (S "law_tc0098_01") 2727) none (.ref 364) .none 0), #[]⟩
noncomputable def o366 (P : Params) : Obj := ⟨(.type "tuple"), none, .seq #[] 0, #[]⟩
noncomputable def o367 (P : Params) : Obj := ⟨.none, none, .fields #[], #[]⟩
noncomputable def o368 (P : Params) : Obj := ⟨.none, none, .func (fnc (stm 24) (S "_law_end") (S "_law_end") 0 .none .none .none .none none .none .none 0), #[]⟩
noncomputable def o369 (P : Params) : Obj := ⟨(.type "code"), none, .fields #[(.str (S "_law_end") 2754), (.str (S "_law_end") 2755), (.str (S "/claim/cut.py") 2756), (.int (226) 0), (.int (2) 0), (.int (0) 0), (.int (0) 0), (.int (3) 0), (.ref 366), (.bool true), (.int (276) 0), (.ref 367), .none, .none, .none, (.ref 368), (.int (2757) 0), (.int (226) 0), (.str (S "/claim/cut.py") 2758)], #[]⟩
noncomputable def o370 (P : Params) : Obj := ⟨(.type "function"), none, .func (fnc (stm 24) (S "_law_end") (S "_law_end") 3 .none .none .none (.str (S "law_tc0098_01") 2727) none (.ref 369) .none 0), #[]⟩
noncomputable def o371 (P : Params) : Obj := ⟨(.type "tuple"), none, .seq #[] 0, #[]⟩
noncomputable def o372 (P : Params) : Obj := ⟨.none, none, .fields #[], #[]⟩
noncomputable def o373 (P : Params) : Obj := ⟨.none, none, .func (fnc (stm 25) (S "_law_led_on") (S "_law_led_on") 0 .none .none .none .none none .none .none 0), #[]⟩
noncomputable def o374 (P : Params) : Obj := ⟨(.type "code"), none, .fields #[(.str (S "_law_led_on") 2760), (.str (S "_law_led_on") 2761), (.str (S "/claim/cut.py") 2762), (.int (232) 0), (.int (2) 0), (.int (0) 0), (.int (0) 0), (.int (3) 0), (.ref 371), (.bool true), (.int (276) 0), (.ref 372), .none, .none, .none, (.ref 373), (.int (2763) 0), (.int (232) 0), (.str (S "/claim/cut.py") 2764)], #[]⟩
noncomputable def o375 (P : Params) : Obj := ⟨(.type "function"), none, .func (fnc (stm 25) (S "_law_led_on") (S "_law_led_on") 3 .none .none .none (.str (S "law_tc0098_01") 2727) none (.ref 374) .none 0), #[]⟩
noncomputable def o376 (P : Params) : Obj := ⟨(.type "tuple"), none, .seq #[] 0, #[]⟩
noncomputable def o377 (P : Params) : Obj := ⟨.none, none, .fields #[], #[]⟩
noncomputable def o378 (P : Params) : Obj := ⟨(.type "tuple"), none, .seq #[(.str (S "rules") 2769), (.str (S "held") 2770), (.str (S "size") 2771), (.str (S "place") 2772), (.str (S "grown") 2773)] 0, #[]⟩
noncomputable def o379 (P : Params) : Obj := ⟨(.type "tuple"), none, .seq #[] 0, #[]⟩
noncomputable def o380 (P : Params) : Obj := ⟨.none, none, .func (fnc (stm 26) (S "_law_leap") (S "_law_leap") 0 .none .none .none .none none .none .none 0), #[]⟩
noncomputable def o381 (P : Params) : Obj := ⟨(.type "code"), none, .fields #[(.str (S "_law_leap") 2766), (.str (S "_law_leap") 2767), (.str (S "/claim/cut.py") 2768), (.int (244) 0), (.int (2) 0), (.int (0) 0), (.int (0) 0), (.int (3) 0), (.ref 376), (.bool true), (.int (276) 0), (.ref 377), .none, (.ref 378), (.ref 379), (.ref 380), (.int (2774) 0), (.int (244) 0), (.str (S "/claim/cut.py") 2775)], #[]⟩
noncomputable def o382 (P : Params) : Obj := ⟨(.type "function"), none, .func (fnc (stm 26) (S "_law_leap") (S "_law_leap") 3 .none .none .none (.str (S "law_tc0098_01") 2727) none (.ref 381) .none 0), #[]⟩
noncomputable def o383 (P : Params) : Obj := ⟨(.type "tuple"), none, .seq #[] 0, #[]⟩
noncomputable def o384 (P : Params) : Obj := ⟨.none, none, .fields #[], #[]⟩
noncomputable def o385 (P : Params) : Obj := ⟨.none, none, .func (fnc (stm 27) (S "_law_sizes") (S "_law_sizes") 0 .none .none .none .none none .none .none 0), #[]⟩
noncomputable def o386 (P : Params) : Obj := ⟨(.type "code"), none, .fields #[(.str (S "_law_sizes") 2777), (.str (S "_law_sizes") 2778), (.str (S "/claim/cut.py") 2779), (.int (252) 0), (.int (1) 0), (.int (0) 0), (.int (0) 0), (.int (3) 0), (.ref 383), (.bool true), (.int (276) 0), (.ref 384), .none, .none, .none, (.ref 385), (.int (2780) 0), (.int (252) 0), (.str (S "/claim/cut.py") 2781)], #[]⟩
noncomputable def o387 (P : Params) : Obj := ⟨(.type "function"), none, .func (fnc (stm 27) (S "_law_sizes") (S "_law_sizes") 3 .none .none .none (.str (S "law_tc0098_01") 2727) none (.ref 386) .none 0), #[]⟩
noncomputable def o388 (P : Params) : Obj := ⟨(.type "tuple"), none, .seq #[] 0, #[]⟩
noncomputable def o389 (P : Params) : Obj := ⟨.none, none, .fields #[], #[]⟩
noncomputable def o390 (P : Params) : Obj := ⟨.none, none, .func (fnc (stm 28) (S "_law_by_definition") (S "_law_by_definition") 0 .none .none .none .none none .none .none 0), #[]⟩
noncomputable def o391 (P : Params) : Obj := ⟨(.type "code"), none, .fields #[(.str (S "_law_by_definition") 2783), (.str (S "_law_by_definition") 2784), (.str (S "/claim/cut.py") 2785), (.int (254) 0), (.int (1) 0), (.int (0) 0), (.int (0) 0), (.int (3) 0), (.ref 388), (.bool true), (.int (276) 0), (.ref 389), .none, .none, .none, (.ref 390), (.int (2786) 0), (.int (254) 0), (.str (S "/claim/cut.py") 2787)], #[]⟩
noncomputable def o392 (P : Params) : Obj := ⟨(.type "function"), none, .func (fnc (stm 28) (S "_law_by_definition") (S "_law_by_definition") 3 .none .none .none (.str (S "law_tc0098_01") 2727) none (.ref 391) .none 0), #[]⟩
noncomputable def o393 (P : Params) : Obj := ⟨(.type "tuple"), none, .seq #[] 0, #[]⟩
noncomputable def o394 (P : Params) : Obj := ⟨.none, none, .fields #[], #[]⟩
noncomputable def o395 (P : Params) : Obj := ⟨.none, none, .func (fnc (stm 29) (S "law") (S "law") 0 .none .none .none .none none .none .none 0), #[]⟩
noncomputable def o396 (P : Params) : Obj := ⟨(.type "code"), none, .fields #[(.str (S "law") 2789), (.str (S "law") 2790), (.str (S "/claim/cut.py") 2791), (.int (267) 0), (.int (1) 0), (.int (0) 0), (.int (0) 0), (.int (3) 0), (.ref 393), (.bool true), (.int (276) 0), (.ref 394), .none, .none, .none, (.ref 395), (.int (2792) 0), (.int (267) 0), (.str (S "/claim/cut.py") 2793)], #[]⟩
noncomputable def o397 (P : Params) : Obj := ⟨(.type "function"), none, .func (fnc (stm 29) (S "law") (S "law") 3 .none .none .none (.str (S "law_tc0098_01") 2727) none (.ref 396) .none 0), #[]⟩
end
end Tc
namespace Tc
open PySem PySem.Calls PyProof.Rows PySem.W

noncomputable def Ext (h h' : Heap) : Prop := ∀ b o, h.get? b = some o → h'.get? b = some o
noncomputable def Pers (T : List Addr) (h h' : Heap) : Prop := ∀ b o, b ∉ T → h.get? b = some o → h'.get? b = some o
theorem Ext.refl {h : Heap} : Ext h h := fun _ _ e => e
theorem Ext.trans {h h' h'' : Heap} (a : Ext h h') (b : Ext h' h'') : Ext h h'' := fun x o e => b x o (a x o e)
theorem Ext.pers {T : List Addr} {h h' : Heap} (a : Ext h h') : Pers T h h' := fun b o _ e => a b o e
theorem Pers.refl {T : List Addr} {h : Heap} : Pers T h h := fun _ _ _ e => e
theorem Pers.trans {T : List Addr} {h h' h'' : Heap} (a : Pers T h h') (b : Pers T h' h'') : Pers T h h'' := fun x o n e => b x o n (a x o n e)
theorem Pers.more {T T' : List Addr} {h h' : Heap} (a : Pers T h h') (s : ∀ b ∈ T, b ∈ T') : Pers T' h h' := fun x o n e => a x o (fun q => n (s _ q)) e
theorem Ext.push {h : Heap} (o : Obj) : Ext h (h.push o) := fun _ _ e => Heap.get?_push_of_some _ e
theorem Pers.sameBut {T : List Addr} {a : Addr} {h h' : Heap} (s : Heap.SameBut a h h') (m : a ∈ T) : Pers T h h' := fun b o n e => (s.2 b fun q => n (q ▸ m)).trans e

/-- what a def may turn (m), and what else its values keep off (n) -/
structure Tr where
  m : List Addr
  n : List Addr
noncomputable def Tr.off (T : Tr) (a : Addr) : Prop := a ∉ T.m ∧ a ∉ T.n
noncomputable def Tr.has (T : Tr) (a : Addr) : Prop := a ∈ T.m ∨ a ∈ T.n
noncomputable def Tr.add (T : Tr) (a : Addr) : Tr := ⟨a :: T.m, T.n⟩
noncomputable abbrev noT : Tr := ⟨[], []⟩
theorem Tr.off_iff {T : Tr} {a : Addr} : T.off a ↔ ¬ T.has a := not_or.symm
theorem Tr.has_add {T : Tr} {a b : Addr} : (T.add a).has b ↔ b = a ∨ T.has b := by
  unfold Tr.has Tr.add
  rw [List.mem_cons, or_assoc]
theorem Tr.off_add {T : Tr} {a b : Addr} : (T.add a).off b ↔ b ≠ a ∧ T.off b := by
  rw [Tr.off_iff, Tr.has_add, not_or, Tr.off_iff]
theorem Tr.off_m {T : Tr} {a : Addr} (h : T.off a) : a ∉ T.m := h.1
mutual
/-- the value reads as the data by objects off T alone -/
inductive Rd (T : Tr) (h : Heap) : Value → PyData → Prop
  | none : Rd T h .none .none
  | bool (b) : Rd T h (.bool b) (.bool b)
  | int (i t) : Rd T h (.int i t) (.int i)
  | str (x t) : Rd T h (.str x t) (.str x)
  | list {a vs ds} : T.off a → h.PlainList a vs → Rds T h vs.toList ds → Rd T h (.ref a) (.list ds)
  | tuple {a vs ds} : T.off a → h.IsTuple a vs → Rds T h vs.toList ds → Rd T h (.ref a) (.tuple ds)
inductive Rds (T : Tr) (h : Heap) : List Value → List PyData → Prop
  | nil : Rds T h [] []
  | cons {v vs d ds} : Rd T h v d → Rds T h vs ds → Rds T h (v :: vs) (d :: ds)
end
theorem isList_pers {T : Tr} {h h' : Heap} {a : Addr} {vs : Array Value} (p : Pers T.m h h') (n : T.off a) (x : h.PlainList a vs) : h'.PlainList a vs := by
  obtain ⟨m, ho⟩ := x
  exact ⟨m, p _ _ n.1 ho⟩
theorem isTuple_pers {T : Tr} {h h' : Heap} {a : Addr} {vs : Array Value} (p : Pers T.m h h') (n : T.off a) (x : h.IsTuple a vs) : h'.IsTuple a vs := by
  obtain ⟨o, ho, r⟩ := x
  exact ⟨o, p _ _ n.1 ho, r⟩
mutual
theorem Rd.pers {T : Tr} {h h' : Heap} (p : Pers T.m h h') : ∀ {v d}, Rd T h v d → Rd T h' v d
  | _, _, .none => .none
  | _, _, .bool b => .bool b
  | _, _, .int i t => .int i t
  | _, _, .str x t => .str x t
  | _, _, .list n x r => .list n (isList_pers p n x) (Rds.pers p r)
  | _, _, .tuple n x r => .tuple n (isTuple_pers p n x) (Rds.pers p r)
theorem Rds.pers {T : Tr} {h h' : Heap} (p : Pers T.m h h') : ∀ {v d}, Rds T h v d → Rds T h' v d
  | _, _, .nil => .nil
  | _, _, .cons x r => .cons (Rd.pers p x) (Rds.pers p r)
end
mutual
theorem Rd.less {T T' : Tr} {h : Heap} (p : ∀ a, T'.has a → T.has a) : ∀ {v d}, Rd T h v d → Rd T' h v d
  | _, _, .none => .none
  | _, _, .bool b => .bool b
  | _, _, .int i t => .int i t
  | _, _, .str x t => .str x t
  | _, _, .list n x r => .list (Tr.off_iff.mpr fun q => Tr.off_iff.mp n (p _ q)) x (Rds.less p r)
  | _, _, .tuple n x r => .tuple (Tr.off_iff.mpr fun q => Tr.off_iff.mp n (p _ q)) x (Rds.less p r)
theorem Rds.less {T T' : Tr} {h : Heap} (p : ∀ a, T'.has a → T.has a) : ∀ {v d}, Rds T h v d → Rds T' h v d
  | _, _, .nil => .nil
  | _, _, .cons x r => .cons (Rd.less p x) (Rds.less p r)
end
-- objects that are not there yet may be kept off too
theorem off_list {h : Heap} {T : Tr} {a b : Addr} {vs : Array Value} (p : h.get? b = none) (n : T.off a) (x : h.PlainList a vs) : (T.add b).off a := Tr.off_add.mpr ⟨(by rintro rfl; obtain ⟨_, ho⟩ := x; rw [p] at ho; cases ho), n⟩
theorem off_tuple {h : Heap} {T : Tr} {a b : Addr} {vs : Array Value} (p : h.get? b = none) (n : T.off a) (x : h.IsTuple a vs) : (T.add b).off a := Tr.off_add.mpr ⟨(by rintro rfl; obtain ⟨_, ho, _⟩ := x; rw [p] at ho; cases ho), n⟩
mutual
theorem Rd.off {T : Tr} {h : Heap} {b : Addr} (p : h.get? b = Option.none) : ∀ {v d}, Rd T h v d → Rd (T.add b) h v d
  | _, _, .none => .none
  | _, _, .bool b => .bool b
  | _, _, .int i t => .int i t
  | _, _, .str x t => .str x t
  | _, _, .list n x r => .list (off_list p n x) x (Rds.off p r)
  | _, _, .tuple n x r => .tuple (off_tuple p n x) x (Rds.off p r)
theorem Rds.off {T : Tr} {h : Heap} {b : Addr} (p : h.get? b = Option.none) : ∀ {v d}, Rds T h v d → Rds (T.add b) h v d
  | _, _, .nil => .nil
  | _, _, .cons x r => .cons (Rd.off p x) (Rds.off p r)
end
mutual
theorem Rd.reads {T : Tr} {h : Heap} : ∀ {v d}, Rd T h v d → ∃ as, Reads h v d as
  | _, _, .none => ⟨_, .none⟩
  | _, _, .bool b => ⟨_, .bool b⟩
  | _, _, .int i t => ⟨_, .int i t⟩
  | _, _, .str x t => ⟨_, .str x t⟩
  | _, _, .list _ ⟨_, ho⟩ r => let ⟨_, z⟩ := Rds.reads r; ⟨_, .list ho rfl rfl z⟩
  | _, _, .tuple _ ⟨_, ho, hc, _, hd⟩ r => let ⟨_, z⟩ := Rds.reads r; ⟨_, .tuple ho hc hd z⟩
theorem Rds.reads {T : Tr} {h : Heap} : ∀ {v d}, Rds T h v d → ∃ as, ReadsAll h v d as
  | _, _, .nil => ⟨_, .nil⟩
  | _, _, .cons x r => let ⟨_, y⟩ := Rd.reads x; let ⟨_, z⟩ := Rds.reads r; ⟨_, .cons y z⟩
end
theorem Rds.length {T : Tr} {h : Heap} : ∀ {vs ds}, Rds T h vs ds → vs.length = ds.length
  | _, _, .nil => rfl
  | _, _, .cons _ r => by rw [List.length_cons, List.length_cons, Rds.length r]
theorem Rds.get {T : Tr} {h : Heap} : ∀ {vs ds} {i : Nat} {d}, Rds T h vs ds → ds[i]? = some d → ∃ v, vs[i]? = some v ∧ Rd T h v d
  | _, _, _, _, .nil, e => by cases e
  | _, _, 0, _, .cons x _, e => by cases e; exact ⟨_, rfl, x⟩
  | _, _, i + 1, _, .cons _ r, e => Rds.get (i := i) r e
theorem Rds.append {T : Tr} {h : Heap} : ∀ {vs ds us es}, Rds T h vs ds → Rds T h us es → Rds T h (vs ++ us) (ds ++ es)
  | _, _, _, _, .nil, y => y
  | _, _, _, _, .cons x r, y => .cons x (Rds.append r y)
theorem Rds.one {T : Tr} {h : Heap} {v d} (x : Rd T h v d) : Rds T h [v] [d] := .cons x .nil

/-- what a name holds: data, this very value, or a list of the def's own that may turn -/
inductive V where
  | d (x : PyData)
  | v (x : Value)
  | o (a : Addr) (ds : List PyData)
  | t (x a : Addr) (ds : List PyData)
noncomputable def Vr (T : Tr) (h : Heap) (v : Value) : V → Prop
  | .d x => Rd T h v x
  | .v x => v = x
  | .o a ds => v = .ref a ∧ T.has a ∧ ∃ vs, h.PlainList a vs ∧ Rds T h vs.toList ds
  | .t x a ds => v = .ref x ∧ T.has a ∧ ∃ vs, h.PlainList a vs ∧ Rds T h vs.toList ds
noncomputable def V.asList : V → Option (List PyData)
  | .d (.list ds) => some ds
  | .o _ ds => some ds
  | _ => none
theorem Vr.list {T : Tr} {h : Heap} {v : Value} {r : V} {ds : List PyData} (x : Vr T h v r) (e : r.asList = some ds) : ∃ a vs, v = .ref a ∧ h.PlainList a vs ∧ Rds T h vs.toList ds := by
  cases r with
  | d y =>
    cases y with
    | list _ =>
      cases e
      cases x with | list n y z => exact ⟨_, _, rfl, y, z⟩
    | _ => cases e
  | v _ => cases e
  | t _ _ _ => cases e
  | o a _ => cases e; obtain ⟨rfl, _, vs, y, z⟩ := x; exact ⟨a, vs, rfl, y, z⟩
theorem Vr.ext {T : Tr} {h h' : Heap} {v : Value} {r : V} (p : Ext h h') (x : Vr T h v r) : Vr T h' v r := by
  cases r with
  | d _ => exact Rd.pers p.pers x
  | v _ => exact x
  | o a ds => obtain ⟨e, m, vs, ⟨o, ho⟩, z⟩ := x; exact ⟨e, m, vs, ⟨o, p _ _ ho⟩, Rds.pers p.pers z⟩
  | t _ a ds => obtain ⟨e, m, vs, ⟨o, ho⟩, z⟩ := x; exact ⟨e, m, vs, ⟨o, p _ _ ho⟩, Rds.pers p.pers z⟩
/-- an object that is no list and no tuple -/
noncomputable def NonSeq (h : Heap) (t : Addr) : Prop := ∃ o, h.get? t = some o ∧ ∀ xs n, o.data ≠ .seq xs n
theorem NonSeq.list {h : Heap} {t a : Addr} {vs : Array Value} (n : NonSeq h t) (x : h.PlainList a vs) : a ≠ t := by
  rintro rfl
  obtain ⟨o, ho, k⟩ := n
  obtain ⟨m, ho'⟩ := x
  rw [ho] at ho'; cases ho'
  exact k _ _ rfl
theorem NonSeq.tuple {h : Heap} {t a : Addr} {vs : Array Value} (n : NonSeq h t) (x : h.IsTuple a vs) : a ≠ t := by
  rintro rfl
  obtain ⟨o, ho, k⟩ := n
  obtain ⟨o', ho', _, m, hd⟩ := x
  rw [ho] at ho'; cases ho'
  exact k _ _ hd
mutual
theorem Rd.bump {T : Tr} {h h' : Heap} {t : Addr} (n : NonSeq h t) (p : Pers [t] h h') : ∀ {v d}, Rd T h v d → Rd T h' v d
  | _, _, .none => .none
  | _, _, .bool b => .bool b
  | _, _, .int i t => .int i t
  | _, _, .str x t => .str x t
  | _, _, .list m x r => .list m (isList_pers (T := ⟨[t], []⟩) p ⟨fun q => n.list x (List.mem_singleton.mp q), List.not_mem_nil⟩ x) (Rds.bump n p r)
  | _, _, .tuple m x r => .tuple m (isTuple_pers (T := ⟨[t], []⟩) p ⟨fun q => n.tuple x (List.mem_singleton.mp q), List.not_mem_nil⟩ x) (Rds.bump n p r)
theorem Rds.bump {T : Tr} {h h' : Heap} {t : Addr} (n : NonSeq h t) (p : Pers [t] h h') : ∀ {v d}, Rds T h v d → Rds T h' v d
  | _, _, .nil => .nil
  | _, _, .cons x r => .cons (Rd.bump n p x) (Rds.bump n p r)
end
mutual
theorem Rd.offObj {T : Tr} {h : Heap} {t : Addr} (n : NonSeq h t) : ∀ {v d}, Rd T h v d → Rd (T.add t) h v d
  | _, _, .none => .none
  | _, _, .bool b => .bool b
  | _, _, .int i t => .int i t
  | _, _, .str x t => .str x t
  | _, _, .list m x r => .list (Tr.off_add.mpr ⟨n.list x, m⟩) x (Rds.offObj n r)
  | _, _, .tuple m x r => .tuple (Tr.off_add.mpr ⟨n.tuple x, m⟩) x (Rds.offObj n r)
theorem Rds.offObj {T : Tr} {h : Heap} {t : Addr} (n : NonSeq h t) : ∀ {v d}, Rds T h v d → Rds (T.add t) h v d
  | _, _, .nil => .nil
  | _, _, .cons x r => .cons (Rd.offObj n x) (Rds.offObj n r)
end
theorem Vr.offObj {T : Tr} {h : Heap} {t : Addr} {v : Value} {r : V} (n : NonSeq h t) (x : Vr T h v r) : Vr (T.add t) h v r := by
  cases r with
  | d _ => exact Rd.offObj n x
  | v _ => exact x
  | o a ds => obtain ⟨e, m, vs, y, z⟩ := x; exact ⟨e, Tr.has_add.mpr (.inr m), vs, y, Rds.offObj n z⟩
  | t _ a ds => obtain ⟨e, m, vs, y, z⟩ := x; exact ⟨e, Tr.has_add.mpr (.inr m), vs, y, Rds.offObj n z⟩
theorem Vr.bump {T : Tr} {h h' : Heap} {t : Addr} {v : Value} {r : V} (n : NonSeq h t) (p : Pers [t] h h') (x : Vr T h v r) : Vr T h' v r := by
  cases r with
  | d _ => exact Rd.bump n p x
  | v _ => exact x
  | o a ds => obtain ⟨e, m, vs, y, z⟩ := x; exact ⟨e, m, vs, isList_pers (T := ⟨[t], []⟩) p ⟨fun q => n.list y (List.mem_singleton.mp q), List.not_mem_nil⟩ y, Rds.bump n p z⟩
  | t _ a ds => obtain ⟨e, m, vs, y, z⟩ := x; exact ⟨e, m, vs, isList_pers (T := ⟨[t], []⟩) p ⟨fun q => n.list y (List.mem_singleton.mp q), List.not_mem_nil⟩ y, Rds.bump n p z⟩

structure St (env : Env) (T : Tr) (g : Heap) (ρ : List (Str × V)) (h : Heap) : Prop where
  kind : env.scope.kind = .function
  pers : Pers T.m g h
  live : ∀ b, T.has b → ∃ o, h.get? b = some o
  high : ∀ b, T.has b → 398 ≤ b
  memL : env.locals ∈ T.m
  memC : ∀ x c, env.cells.lookup x = some c → c ∈ T.m
  inj : ∀ x y c, env.cells.lookup x = some c → env.cells.lookup y = some c → x = y
  ns : ∃ m, h.Ns env.locals m ∧ ∀ x r, ρ.lookup x = some r → env.kindOf x = some .local → ∃ v, m x = some v ∧ Vr T h v r
  cl : ∀ x, (env.kindOf x = some .cell ∨ env.kindOf x = some .free) → ∃ c w, env.cells.lookup x = some c ∧ h.IsCell c w ∧ ∀ r, ρ.lookup x = some r → ∃ v, w = some v ∧ Vr T h v r
theorem Ns.ext {h h' : Heap} {a : Addr} {m : Str → Option Value} (p : Ext h h') (x : h.Ns a m) : h'.Ns a m := by
  obtain ⟨o, es, ep, ho, r⟩ := x
  exact ⟨o, es, ep, p _ _ ho, r⟩
/-- a value whose list is not to turn -/
noncomputable def V.still (T : Tr) : V → Prop
  | .o a _ => a ∉ T.m
  | .t _ a _ => a ∉ T.m
  | _ => True
section
variable {env : Env} {T : Tr} {g h h' : Heap} {ρ ρ' : List (Str × V)}
theorem St.ext (S : St env T g ρ h) (p : Ext h h') : St env T g ρ h' where
  kind := S.kind
  pers := S.pers.trans p.pers
  live := fun b hb => let ⟨o, ho⟩ := S.live b hb; ⟨o, p _ _ ho⟩
  high := S.high
  memL := S.memL
  memC := S.memC
  inj := S.inj
  ns := let ⟨m, n, k⟩ := S.ns; ⟨m, Ns.ext p n, fun x r e l => let ⟨v, a, b⟩ := k x r e l; ⟨v, a, b.ext p⟩⟩
  cl := fun x k => let ⟨c, w, a, b, z⟩ := S.cl x k; ⟨c, w, a, b.keeps p, fun r e => let ⟨v, y, q⟩ := z r e; ⟨v, y, q.ext p⟩⟩
theorem St.sub (S : St env T g ρ h) (e : ∀ x r, ρ'.lookup x = some r → ρ.lookup x = some r) : St env T g ρ' h where
  kind := S.kind
  pers := S.pers
  live := S.live
  high := S.high
  memL := S.memL
  memC := S.memC
  inj := S.inj
  ns := let ⟨m, n, k⟩ := S.ns; ⟨m, n, fun x r q l => k x r (e x r q) l⟩
  cl := fun x k => let ⟨c, w, a, b, z⟩ := S.cl x k; ⟨c, w, a, b, fun r q => z r (e x r q)⟩
/-- T's base may be set anew -/
theorem St.rebase (S : St env T g ρ h) : St env T h ρ h := { S with pers := .refl }
theorem St.base {g' : Heap} (S : St env T g ρ h) (p : Pers T.m g' g) : St env T g' ρ h := { S with pers := p.trans S.pers }
end

theorem Vr.off {T : Tr} {h : Heap} {t : Addr} {v : Value} {r : V} (n : h.get? t = none) (x : Vr T h v r) : Vr (T.add t) h v r := by
  cases r with
  | d _ => exact Rd.off n x
  | v _ => exact x
  | o a ds => obtain ⟨e, m, vs, y, z⟩ := x; exact ⟨e, Tr.has_add.mpr (.inr m), vs, y, Rds.off n z⟩
  | t _ a ds => obtain ⟨e, m, vs, y, z⟩ := x; exact ⟨e, Tr.has_add.mpr (.inr m), vs, y, Rds.off n z⟩
theorem ns_nonseq {h : Heap} {a : Addr} {m : Str → Option Value} (x : h.Ns a m) : NonSeq h a := by
  obtain ⟨o, es, ep, ho, hd, _⟩ := x
  exact ⟨o, ho, fun xs n q => by rw [hd] at q; cases q⟩
theorem cell_nonseq {h : Heap} {a : Addr} {v : Option Value} (x : h.IsCell a v) : NonSeq h a := by
  obtain ⟨o, ho, hd⟩ := x
  exact ⟨o, ho, fun xs n q => by rw [hd] at q; cases q⟩
theorem ns_cell {h : Heap} {a c : Addr} {m : Str → Option Value} {v : Option Value} (x : h.Ns a m) (y : h.IsCell c v) : c ≠ a := by
  rintro rfl
  obtain ⟨o, es, ep, ho, hd, _⟩ := x
  obtain ⟨o', ho', hd'⟩ := y
  rw [ho] at ho'; cases ho'
  rw [hd] at hd'; cases hd'
theorem sameBut_pers {h h' : Heap} {t : Addr} (s : Heap.SameBut t h h') : Pers [t] h h' := fun b _ n e => (s.2 b fun q => n (List.mem_singleton.mpr q)).trans e
section
variable {env : Env} {T : Tr} {g h h' : Heap} {ρ : List (Str × V)} {x : Str} {r : V} {v : Value}
theorem St.local_ (S : St env T g ρ h) {m : Str → Option Value} (hx : env.kindOf x = some .local) (y : Vr T h v r) (hm : h.Ns env.locals m) (hk : ∀ x r, ρ.lookup x = some r → env.kindOf x = some .local → ∃ v, m x = some v ∧ Vr T h v r)
    (hn : h'.Ns env.locals fun z => if z = x then some v else m z) (hs : Heap.SameBut env.locals h h') : St env T g ((x, r) :: ρ) h' := by
  have p := sameBut_pers hs
  have nq := ns_nonseq hm
  refine ⟨S.kind, S.pers.trans (Pers.sameBut hs S.memL), fun b hb => ?_, S.high, S.memL, S.memC, S.inj, ⟨_, hn, fun z q e k => ?_⟩, fun z kz => ?_⟩
  · by_cases q : b = env.locals
    · subst q; obtain ⟨o, _, _, ho, _⟩ := hn; exact ⟨o, ho⟩
    · obtain ⟨o, ho⟩ := S.live b hb
      exact ⟨o, (hs.2 b q).trans ho⟩
  · rw [List.lookup_cons] at e
    by_cases q' : z = x
    · subst q'
      rw [beq_self_eq_true] at e
      cases e
      exact ⟨v, if_pos rfl, y.bump nq p⟩
    · rw [beq_eq_false_iff_ne.mpr q'] at e
      obtain ⟨u, a, b⟩ := hk z q e k
      exact ⟨u, (if_neg q').trans a, b.bump nq p⟩
  · obtain ⟨c, w, a, ⟨o, ho, hd⟩, z'⟩ := S.cl z kz
    have nc : c ≠ env.locals := ns_cell hm ⟨o, ho, hd⟩
    refine ⟨c, w, a, ⟨o, (hs.2 c nc).trans ho, hd⟩, fun q e => ?_⟩
    have q' : z ≠ x := by rintro rfl; rcases kz with kz | kz <;> (rw [hx] at kz; cases kz)
    rw [List.lookup_cons, beq_eq_false_iff_ne.mpr q'] at e
    obtain ⟨u, a', b'⟩ := z' q e
    exact ⟨u, a', b'.bump nq p⟩
theorem St.cell_ (S : St env T g ρ h) {c : Addr} {w : Option Value} (hx : env.kindOf x = some .cell) (y : Vr T h v r) (hc : env.cells.lookup x = some c) (hw : h.IsCell c w) (hn : h'.IsCell c (some v)) (hs : Heap.SameBut c h h') : St env T g ((x, r) :: ρ) h' := by
  have p := sameBut_pers hs
  have nq := cell_nonseq hw
  refine ⟨S.kind, S.pers.trans (Pers.sameBut hs (S.memC _ _ hc)), fun b hb => ?_, S.high, S.memL, S.memC, S.inj, ?_, fun z kz => ?_⟩
  · by_cases q : b = c
    · subst q; obtain ⟨o, ho, _⟩ := hn; exact ⟨o, ho⟩
    · obtain ⟨o, ho⟩ := S.live b hb
      exact ⟨o, (hs.2 b q).trans ho⟩
  · obtain ⟨m, hm, hk⟩ := S.ns
    refine ⟨m, hm.sameBut hs (fun q => ns_cell hm hw q.symm), fun z q e k => ?_⟩
    have q' : z ≠ x := by rintro rfl; rw [hx] at k; cases k
    rw [List.lookup_cons, beq_eq_false_iff_ne.mpr q'] at e
    obtain ⟨u, a, b⟩ := hk z q e k
    exact ⟨u, a, b.bump nq p⟩
  · by_cases q' : z = x
    · subst q'
      refine ⟨c, some v, hc, hn, fun q e => ?_⟩
      rw [List.lookup_cons, beq_self_eq_true] at e
      cases e
      exact ⟨v, rfl, y.bump nq p⟩
    · obtain ⟨d, w', a, ⟨o, ho, hd⟩, z'⟩ := S.cl z kz
      have nd : d ≠ c := by rintro rfl; exact q' (S.inj _ _ _ a hc)
      refine ⟨d, w', a, ⟨o, (hs.2 d nd).trans ho, hd⟩, fun q e => ?_⟩
      rw [List.lookup_cons, beq_eq_false_iff_ne.mpr q'] at e
      obtain ⟨u, a', b'⟩ := z' q e
      exact ⟨u, a', b'.bump nq p⟩
/-- an object that is nobody's turns -/
theorem St.bump (S : St env T g ρ h) {t : Addr} (nq : NonSeq h t) (nt : T.off t) (hg : g.get? t = none) (p : Pers [t] h h') : St env T g ρ h' := by
  refine ⟨S.kind, fun b o n e => p b o (fun q => ?_) (S.pers b o n e), fun b hb => ?_, S.high, S.memL, S.memC, S.inj, ?_, fun z kz => ?_⟩
  · rw [List.mem_singleton.mp q, hg] at e; cases e
  · obtain ⟨o, ho⟩ := S.live b hb
    exact ⟨o, p _ _ (fun q => Tr.off_iff.mp nt (List.mem_singleton.mp q ▸ hb)) ho⟩
  · obtain ⟨m, ⟨o, es, ep, ho, r⟩, hk⟩ := S.ns
    exact ⟨m, ⟨o, es, ep, p _ _ (fun q => nt.1 (List.mem_singleton.mp q ▸ S.memL)) ho, r⟩, fun z q e k => let ⟨u, a, b⟩ := hk z q e k; ⟨u, a, b.bump nq p⟩⟩
  · obtain ⟨c, w, a, ⟨o, ho, hd⟩, z'⟩ := S.cl z kz
    exact ⟨c, w, a, ⟨o, p _ _ (fun q => nt.1 (List.mem_singleton.mp q ▸ S.memC _ _ a)) ho, hd⟩, fun q e => let ⟨u, a', b'⟩ := z' q e; ⟨u, a', b'.bump nq p⟩⟩
/-- an object made since is kept off from now on -/
theorem St.grow (S : St env T g ρ h) {t : Addr} (e : Ext h h') (n : h.get? t = none) (l : ∃ o, h'.get? t = some o) (ht : 398 ≤ t) : St env (T.add t) g ρ h' where
  kind := S.kind
  pers := (S.ext e).pers.more fun b hb => .tail _ hb
  live := fun b hb => (Tr.has_add.mp hb).elim (fun q => q ▸ l) fun q => (S.ext e).live b q
  high := fun b hb => (Tr.has_add.mp hb).elim (fun q => q ▸ ht) fun q => S.high b q
  memL := .tail _ S.memL
  memC := fun x c q => .tail _ (S.memC x c q)
  inj := S.inj
  ns := let ⟨m, hm, k⟩ := S.ns; ⟨m, Ns.ext e hm, fun x r q z => let ⟨v, a, b⟩ := k x r q z; ⟨v, a, (b.off n).ext e⟩⟩
  cl := fun x k => let ⟨c, w, a, b, z⟩ := S.cl x k; ⟨c, w, a, b.keeps e, fun r q => let ⟨v, y, q⟩ := z r q; ⟨v, y, (q.off n).ext e⟩⟩
end
end Tc
namespace Tc
open PySem PySem.Calls PyProof.Rows PySem.W
section
noncomputable def topList (P : Params) : List (Nat × Obj) := [(0, o0 P), (2, o2 P), (3, o3 P), (32, o32 P), (34, o34 P), (35, o35 P), (37, o37 P), (38, o38 P), (49, o49 P), (51, o51 P), (52, o52 P), (54, o54 P), (55, o55 P), (56, o56 P), (58, o58 P), (59, o59 P), (61, o61 P), (62, o62 P), (63, o63 P), (65, o65 P), (66, o66 P), (68, o68 P), (69, o69 P), (70, o70 P), (72, o72 P), (73, o73 P), (75, o75 P), (76, o76 P), (77, o77 P), (79, o79 P), (80, o80 P), (82, o82 P), (83, o83 P), (84, o84 P), (86, o86 P), (87, o87 P), (89, o89 P), (90, o90 P), (91, o91 P), (93, o93 P), (94, o94 P), (96, o96 P), (97, o97 P), (98, o98 P), (99, o99 P), (100, o100 P), (101, o101 P), (102, o102 P), (105, o105 P), (106, o106 P), (107, o107 P), (109, o109 P), (110, o110 P), (112, o112 P), (113, o113 P), (114, o114 P), (115, o115 P), (116, o116 P), (118, o118 P), (119, o119 P), (121, o121 P), (122, o122 P), (123, o123 P), (124, o124 P), (125, o125 P), (127, o127 P), (128, o128 P), (130, o130 P), (131, o131 P), (139, o139 P), (143, o143 P), (145, o145 P), (146, o146 P), (148, o148 P), (149, o149 P), (189, o189 P), (191, o191 P), (192, o192 P), (194, o194 P), (195, o195 P), (199, o199 P), (200, o200 P), (204, o204 P), (205, o205 P), (209, o209 P), (210, o210 P), (211, o211 P), (212, o212 P), (214, o214 P), (215, o215 P), (217, o217 P), (218, o218 P), (226, o226 P), (227, o227 P), (229, o229 P), (230, o230 P), (232, o232 P), (233, o233 P), (234, o234 P), (236, o236 P), (237, o237 P), (239, o239 P), (240, o240 P), (241, o241 P), (243, o243 P), (244, o244 P), (246, o246 P), (247, o247 P), (248, o248 P), (250, o250 P), (251, o251 P), (253, o253 P), (254, o254 P), (255, o255 P), (258, o258 P), (259, o259 P), (260, o260 P), (262, o262 P), (263, o263 P), (265, o265 P), (266, o266 P), (267, o267 P), (269, o269 P), (270, o270 P), (272, o272 P), (273, o273 P), (274, o274 P), (277, o277 P), (278, o278 P), (279, o279 P), (280, o280 P), (282, o282 P), (283, o283 P), (285, o285 P), (286, o286 P), (287, o287 P), (290, o290 P), (291, o291 P), (292, o292 P), (295, o295 P), (296, o296 P), (297, o297 P), (299, o299 P), (300, o300 P), (302, o302 P), (303, o303 P), (304, o304 P), (306, o306 P), (307, o307 P), (309, o309 P), (310, o310 P), (311, o311 P), (314, o314 P), (315, o315 P), (316, o316 P), (318, o318 P), (319, o319 P), (321, o321 P), (322, o322 P), (323, o323 P), (325, o325 P), (326, o326 P), (328, o328 P), (329, o329 P), (330, o330 P), (332, o332 P), (333, o333 P), (335, o335 P), (336, o336 P), (337, o337 P), (338, o338 P), (339, o339 P), (340, o340 P), (341, o341 P), (344, o344 P), (347, o347 P), (348, o348 P), (349, o349 P), (351, o351 P), (352, o352 P), (354, o354 P), (355, o355 P), (356, o356 P), (359, o359 P), (360, o360 P), (361, o361 P), (364, o364 P), (365, o365 P), (366, o366 P), (369, o369 P), (370, o370 P), (371, o371 P), (374, o374 P), (375, o375 P), (376, o376 P), (378, o378 P), (379, o379 P), (381, o381 P), (382, o382 P), (383, o383 P), (386, o386 P), (387, o387 P), (388, o388 P), (391, o391 P), (392, o392 P), (393, o393 P), (396, o396 P), (397, o397 P)]
end
/-- the entries of b3_exceptions, from its statement -/
noncomputable def b3of : Stmt → List (Int × Str)
  | .Assign _ (.Dict ks vs _) _ => (ks.zip vs).filterMap fun
    | (some (.Constant (.int i) _ _), .Constant (.str s) _ _) => some (i, s)
    | _ => none
  | _ => []
noncomputable def b3list : List (Int × Str) := b3of (stm 11)
noncomputable def strOf : Value → Option Str
  | .str s _ => some s
  | _ => none
noncomputable def B3 (w : World) (h : Heap) : Prop := ∃ kvs : List (Int × Value), h.DictOf (intKind prg w) 150 kvs ∧ kvs.map (fun p => (p.1, strOf p.2)) = b3list.map fun q => (q.1, some q.2)
theorem B3.at {w : World} {h h' : Heap} (x : B3 w h) (p : ∀ o, h.get? 150 = some o → h'.get? 150 = some o) : B3 w h' :=
  let ⟨kvs, ⟨o, es, ep, ho, r⟩, e⟩ := x; ⟨kvs, ⟨o, es, ep, p o ho, r⟩, e⟩
structure TopH (w : World) (h : Heap) : Prop where
  at_ : ∀ i o, (topList w.params).lookup i = some o → h.get? i = some o
  map : B3 w h
section
variable {w : World} {env : Env} {T : Tr} {g h : Heap} {ρ : List (Str × V)}
theorem lookup_low (P : Params) : ∀ i o, (topList P).lookup i = some o → i < 398 := by
  intro i o e
  have : ∀ p ∈ topList P, p.1 < 398 := by
    intro p hp
    have : ∀ (l : List (Nat × Obj)), (l.map (·.1)).all (fun i => decide (i < 398)) = true → ∀ p ∈ l, p.1 < 398 := by
      intro l q p hp
      have := List.all_eq_true.mp q p.1 (List.mem_map_of_mem hp)
      exact of_decide_eq_true this
    exact this _ (by rfl) p hp
  have hm : (i, o) ∈ topList P := by
    revert e
    generalize topList P = l
    induction l with
    | nil => intro e; cases e
    | cons p l ih =>
      intro e
      obtain ⟨j, q⟩ := p
      rw [List.lookup_cons] at e
      cases hb : i == j with
      | true => rw [hb] at e; cases e; rw [eq_of_beq hb]; exact .head _
      | false => rw [hb] at e; exact .tail _ (ih e)
  exact this _ hm
theorem TopH.ext (G : TopH w h) {h' : Heap} (p : Ext h h') : TopH w h' := ⟨fun i o e => p _ _ (G.at_ i o e), G.map.at fun o e => p _ _ e⟩
theorem TopH.pers (G : TopH w g) (hi : ∀ b, T.has b → 398 ≤ b) (p : Pers T.m g h) : TopH w h := ⟨fun i o e => p _ _ (fun q => by
  have a := hi i (.inl q)
  have b := lookup_low _ i o e
  exact absurd a (Nat.not_le.mpr b)) (G.at_ i o e), G.map.at fun o e => p _ _ (fun q => absurd (hi _ (.inl q)) (by decide)) e⟩
theorem TopH.on (G : TopH w g) (S : St env T g ρ h) : TopH w h := G.pers S.high S.pers
end
noncomputable def gl (P : Params) (x : Str) : Option Value := match (o3 P).data with
  | .dict es _ => nsFind es x
  | _ => none
noncomputable def bi (P : Params) (x : Str) : Option Value := match (o0 P).data with
  | .dict es _ => nsFind es x
  | _ => none
noncomputable def isK (e : DictEntry) : Bool := match e.key with
  | .str .. => true
  | _ => false
theorem strKeys_of {es : Array DictEntry} (h : es.toList.all isK = true) : StrKeys es := fun e he => by
  have := List.all_eq_true.mp h e (Array.mem_toList_iff.mpr he)
  unfold isK at this
  split at this
  · rename_i n t q; exact ⟨n, t, q⟩
  · cases this
theorem gl_ns {w : World} {h : Heap} (G : TopH w h) : h.Ns mainGlobals (gl w.params) := ⟨o3 w.params, _, _, G.at_ 3 _ rfl, rfl, strKeys_of rfl, fun _ => rfl⟩
theorem bi_ns {w : World} {h : Heap} (G : TopH w h) : h.Ns builtinsNs (bi w.params) := ⟨o0 w.params, _, _, G.at_ 0 _ rfl, rfl, strKeys_of rfl, fun _ => rfl⟩
example (P : Params) : gl P (Str.ofString "bisect_left") = some (.ref 131) := by rfl
example (P : Params) : gl P (Str.ofString "len") = none := by rfl
example (P : Params) : bi P (Str.ofString "len") = some (.builtin "len") := by rfl
end Tc
namespace Tc
open PySem PySem.Calls PyProof.Rows PySem.W

/-- an expression's value: the heap only grows -/
noncomputable def EvP (M : Model) (A : Around) (env : Env) (T : Tr) (g : Heap) (ρ : List (Str × V)) (e : Expr) (P : Heap → Value → Prop) : Prop :=
  ∀ (s : Shared) (Q E : Value → Shared → Prop), St env T g ρ s.heap → (∀ h' tk v, Ext s.heap h' → P h' v → Q v { s with heap := h', toks := tk }) → wpAny M A (eval e env) Q E s
noncomputable abbrev Ev (M : Model) (A : Around) (env : Env) (T : Tr) (g : Heap) (ρ : List (Str × V)) (e : Expr) (r : V) : Prop := EvP M A env T g ρ e fun h v => Vr T h v r
/-- an expression as a test -/
noncomputable def EvB (M : Model) (A : Around) (env : Env) (T : Tr) (g : Heap) (ρ : List (Str × V)) (e : Expr) (b : Bool) : Prop :=
  ∀ (s : Shared) (Q : Bool → Shared → Prop) (E : Value → Shared → Prop), St env T g ρ s.heap → (∀ h' tk, Ext s.heap h' → Q b { s with heap := h', toks := tk }) → wpAny M A (isTrue e env (eval e env)) Q E s

section
variable {prog : Program} {w : World} {A : Around} {env : Env} {T : Tr} {g : Heap} {ρ : List (Str × V)}

theorem EvP.weak {M : Model} {e : Expr} {P P' : Heap → Value → Prop} (x : EvP M A env T g ρ e P) (k : ∀ h v, P h v → P' h v) : EvP M A env T g ρ e P' :=
  fun s Q E S q => x s Q E S fun h' tk v a b => q h' tk v a (k _ _ b)
theorem Ev.name {M : Model} {x : Str} {p : Pos} {r : V} (hx : ρ.lookup x = some r) (hk : env.kindOf x = some .local := by rfl) (hd : (x == ("__debug__" : Str)) = false := by decide) : Ev M A env T g ρ (.Name x p) r := by
  intro s Q E S q
  obtain ⟨m, n, l⟩ := S.ns
  obtain ⟨v, a, b⟩ := l x r hx hk
  exact wpAny_Name (wpAny_loadName_local S.kind hk n a (q s.heap s.toks v .refl b)) hd
theorem Ev.nameC {M : Model} {x : Str} {p : Pos} {r : V} (hx : ρ.lookup x = some r) (hk : env.kindOf x = some .cell := by rfl) (hd : (x == ("__debug__" : Str)) = false := by decide) : Ev M A env T g ρ (.Name x p) r := by
  intro s Q E S q
  obtain ⟨c, w', a, b, z⟩ := S.cl x (.inl hk)
  obtain ⟨v, rfl, y⟩ := z r hx
  exact wpAny_Name (wpAny_loadName_cell S.kind hk a b (q s.heap s.toks v .refl y)) hd
theorem Ev.nameF {M : Model} {x : Str} {p : Pos} {r : V} (hx : ρ.lookup x = some r) (hk : env.kindOf x = some .free := by rfl) (hd : (x == ("__debug__" : Str)) = false := by decide) (hn : (x == ("__classdict__" : Str)) = false := by decide) : Ev M A env T g ρ (.Name x p) r := by
  intro s Q E S q
  obtain ⟨c, w', a, b, z⟩ := S.cl x (.inr hk)
  obtain ⟨v, rfl, y⟩ := z r hx
  exact wpAny_Name (wpAny_loadName_free S.kind hk a b (q s.heap s.toks v .refl y) hn) hd
theorem Ev.glob {M : Model} {x : Str} {p : Pos} {v : Value} (G : TopH w g) (hv : gl w.params x = some v) (hg : env.globals = mainGlobals := by rfl) (hk : env.kindOf x = some .globalImplicit := by rfl) (hd : (x == ("__debug__" : Str)) = false := by decide) : Ev M A env T g ρ (.Name x p) (.v v) := by
  intro s Q E S q
  exact Name_function_global S.kind hk (loadGlobal_global (by rw [hg]; exact gl_ns (G.on S)) hv (q s.heap s.toks v .refl rfl)) hd
theorem Ev.built {M : Model} {x : Str} {p : Pos} {v : Value} (G : TopH w g) (hn : gl w.params x = none) (hv : bi w.params x = some v) (hg : env.globals = mainGlobals := by rfl) (hb : env.builtins = builtinsNs := by rfl) (hk : env.kindOf x = some .globalImplicit := by rfl) (hd : (x == ("__debug__" : Str)) = false := by decide) : Ev M A env T g ρ (.Name x p) (.v v) := by
  intro s Q E S q
  exact Name_function_global S.kind hk (loadGlobal_builtin (by rw [hg]; exact gl_ns (G.on S)) hn (by rw [hb]; exact bi_ns (G.on S)) hv (q s.heap s.toks v .refl rfl)) hd
theorem Ev.int {M : Model} {i : Int} {k : Nat} {p : Pos} : Ev M A env T g ρ (.Constant (.int i) k p) (.d (.int i)) :=
  fun s _ _ _ q => wpAny_Constant_int (q s.heap _ _ .refl (.int i _))
theorem Ev.str {M : Model} {x : Str} {k : Nat} {p : Pos} : Ev M A env T g ρ (.Constant (.str x) k p) (.d (.str x)) :=
  fun s _ _ _ q => Constant_str (q s.heap _ _ .refl (.str x _))
theorem Ev.noneC {M : Model} {k : Nat} {p : Pos} : Ev M A env T g ρ (.Constant .none k p) (.d .none) :=
  fun s _ _ _ q => (fun _ _ _ => q s.heap s.toks .none .refl .none)
theorem Ev.boolC {M : Model} {b : Bool} {k : Nat} {p : Pos} : Ev M A env T g ρ (.Constant (.bool b) k p) (.d (.bool b)) :=
  fun s _ _ _ q => (fun _ _ _ => q s.heap s.toks (.bool b) .refl (.bool b))

/-- what an operator does on two values -/
noncomputable def Op2 (M : Model) (A : Around) (f : Value → Value → Sem Value) (Pa Pb P : Heap → Value → Prop) : Prop :=
  ∀ (s : Shared) (va vb : Value) (Q E : Value → Shared → Prop), Pa s.heap va → Pb s.heap vb → (∀ h' tk v, Ext s.heap h' → P h' v → Q v { s with heap := h', toks := tk }) → wpAny M A (f va vb) Q E s
/-- a predicate that stays when the heap grows -/
noncomputable def Stays (P : Heap → Value → Prop) : Prop := ∀ h h' v, Ext h h' → P h v → P h' v
theorem Stays.vr {r : V} : Stays fun h v => Vr T h v r := fun _ _ _ e x => x.ext e
theorem EvP.bin {M : Model} {a b : Expr} {op : Operator} {p : Pos} {Pa Pb P : Heap → Value → Prop} (ha : EvP M A env T g ρ a Pa) (hb : EvP M A env T g ρ b Pb) (ho : Op2 M A (binaryOp op) Pa Pb P) (st : Stays Pa := by exact Stays.vr) :
    EvP M A env T g ρ (.BinOp a op b p) P := by
  intro s Q E S q
  refine wpAny_BinOp (ha s _ _ S fun h1 t1 v1 e1 p1 => hb _ _ _ (S.ext e1) fun h2 t2 v2 e2 p2 => ?_)
  exact ho _ _ _ _ _ (st _ _ _ e2 p1) p2 fun h3 t3 v3 e3 p3 => q h3 t3 v3 ((e1.trans e2).trans e3) p3
theorem Ev.bin {M : Model} {a b : Expr} {op : Operator} {p : Pos} {ra rb r : V} (ha : Ev M A env T g ρ a ra) (hb : Ev M A env T g ρ b rb) (ho : Op2 M A (binaryOp op) (fun h v => Vr T h v ra) (fun h v => Vr T h v rb) fun h v => Vr T h v r) :
    Ev M A env T g ρ (.BinOp a op b p) r := EvP.bin ha hb ho Stays.vr
theorem EvP.cmp {M : Model} {a b : Expr} {op : CmpOp} {p : Pos} {Pa Pb P : Heap → Value → Prop} (ha : EvP M A env T g ρ a Pa) (hb : EvP M A env T g ρ b Pb) (ho : Op2 M A (compareOp op) Pa Pb P) (st : Stays Pa := by exact Stays.vr) (hm : behindInMarks op b = false := by with_unfolding_all rfl) :
    EvP M A env T g ρ (.Compare a [op] [b] p) P := by
  intro s Q E S q
  refine wpAny_Compare1 (ha s _ _ S fun h1 t1 v1 e1 p1 => hb _ _ _ (S.ext e1) fun h2 t2 v2 e2 p2 => ?_) hm
  exact ho _ _ _ _ _ (st _ _ _ e2 p1) p2 fun h3 t3 v3 e3 p3 => q h3 t3 v3 ((e1.trans e2).trans e3) p3
theorem EvB.cmp {M : Model} {a b : Expr} {op : CmpOp} {p : Pos} {Pa Pb : Heap → Value → Prop} {r : Bool} (ha : EvP M A env T g ρ a Pa) (hb : EvP M A env T g ρ b Pb) (ho : Op2 M A (compareOp op) Pa Pb fun _ v => v = .bool r) (st : Stays Pa := by exact Stays.vr) (hm : behindInMarks op b = false := by with_unfolding_all rfl) :
    EvB M A env T g ρ (.Compare a [op] [b] p) r := by
  intro s Q E S q
  refine wpAny_isTrue_Compare1 (ha s _ _ S fun h1 t1 v1 e1 p1 => hb _ _ _ (S.ext e1) fun h2 t2 v2 e2 p2 => ?_) hm
  refine ho _ _ _ _ _ (st _ _ _ e2 p1) p2 fun h3 t3 v3 e3 p3 => ?_
  subst p3
  exact wpAny_truthy_bool (q h3 t3 ((e1.trans e2).trans e3))

theorem EvB.cmpV {M : Model} {a b : Expr} {op : CmpOp} {p : Pos} {ra rb : V} {r : Bool} (ha : Ev M A env T g ρ a ra) (hb : Ev M A env T g ρ b rb) (ho : Op2 M A (compareOp op) (fun h v => Vr T h v ra) (fun h v => Vr T h v rb) fun _ v => v = .bool r) (hm : behindInMarks op b = false := by with_unfolding_all rfl) :
    EvB M A env T g ρ (.Compare a [op] [b] p) r := EvB.cmp ha hb ho Stays.vr hm
theorem Vr.intE {h : Heap} {v : Value} {i : Int} (x : Vr T h v (.d (.int i))) : ∃ t, v = .int i t := by cases x; exact ⟨_, rfl⟩
theorem Vr.strE {h : Heap} {v : Value} {i : Str} (x : Vr T h v (.d (.str i))) : ∃ t, v = .str i t := by cases x; exact ⟨_, rfl⟩
theorem Vr.boolE {h : Heap} {v : Value} {i : Bool} (x : Vr T h v (.d (.bool i))) : v = .bool i := by cases x; rfl
theorem Vr.noneE {h : Heap} {v : Value} (x : Vr T h v (.d .none)) : v = .none := by cases x; rfl
noncomputable abbrev isI (T : Tr) (i : Int) : Heap → Value → Prop := fun h v => Vr T h v (.d (.int i))
theorem Op2.add {a b : Int} {T1 T2 : Tr} : Op2 (model prog w) A (binaryOp .Add) (isI T1 a) (isI T2 b) (isI T (a + b)) := by
  intro s va vb Q E x y q
  obtain ⟨t, rfl⟩ := x.intE
  obtain ⟨u, rfl⟩ := y.intE
  exact add_int (q s.heap _ _ .refl (.int _ _))
theorem Op2.sub {a b : Int} {T1 T2 : Tr} : Op2 (model prog w) A (binaryOp .Sub) (isI T1 a) (isI T2 b) (isI T (a - b)) := by
  intro s va vb Q E x y q
  obtain ⟨t, rfl⟩ := x.intE
  obtain ⟨u, rfl⟩ := y.intE
  exact sub_int (q s.heap _ _ .refl (.int _ _))
theorem Op2.mul {a b : Int} {T1 T2 : Tr} (hm : IntMulOk a b) : Op2 (model prog w) A (binaryOp .Mult) (isI T1 a) (isI T2 b) (isI T (a * b)) := by
  intro s va vb Q E x y q
  obtain ⟨t, rfl⟩ := x.intE
  obtain ⟨u, rfl⟩ := y.intE
  exact mul_int (q s.heap _ _ .refl (.int _ _)) hm
theorem Op2.fdiv {a b : Int} {T1 T2 : Tr} (hb : b ≠ 0) (hp : Builtin.divisionGoesByPylong a b = false) : Op2 (model prog w) A (binaryOp .FloorDiv) (isI T1 a) (isI T2 b) (isI T (a.fdiv b)) := by
  intro s va vb Q E x y q
  obtain ⟨t, rfl⟩ := x.intE
  obtain ⟨u, rfl⟩ := y.intE
  exact floordiv_int hb (q s.heap _ _ .refl (.int _ _)) (.inl hp)
theorem Op2.fmod {a b : Int} {T1 T2 : Tr} (hb : b ≠ 0) : Op2 (model prog w) A (binaryOp .Mod) (isI T1 a) (isI T2 b) (isI T (a.fmod b)) := by
  intro s va vb Q E x y q
  obtain ⟨t, rfl⟩ := x.intE
  obtain ⟨u, rfl⟩ := y.intE
  exact mod_int' hb (q s.heap _ _ .refl (.int _ _))
theorem Op2.pow {a b : Int} {T1 T2 : Tr} (hn : 0 ≤ b) (hs : (Builtin.Int.intBits a : Int) * b ≤ 2 ^ 27) : Op2 (model prog w) A (binaryOp .Pow) (isI T1 a) (isI T2 b) (isI T (a ^ b.toNat)) := by
  intro s va vb Q E x y q
  obtain ⟨t, rfl⟩ := x.intE
  obtain ⟨u, rfl⟩ := y.intE
  exact pow_int hn hs (q s.heap _ _ .refl (.int _ _))
theorem Op2.band {a b : Int} {T1 T2 : Tr} : Op2 (model prog w) A (binaryOp .BitAnd) (isI T1 a) (isI T2 b) (isI T (Builtin.bitAnd a b)) := by
  intro s va vb Q E x y q
  obtain ⟨t, rfl⟩ := x.intE
  obtain ⟨u, rfl⟩ := y.intE
  exact and_int (q s.heap _ _ .refl (.int _ _))
theorem Op2.bor {a b : Int} {T1 T2 : Tr} : Op2 (model prog w) A (binaryOp .BitOr) (isI T1 a) (isI T2 b) (isI T (Builtin.bitOr a b)) := by
  intro s va vb Q E x y q
  obtain ⟨t, rfl⟩ := x.intE
  obtain ⟨u, rfl⟩ := y.intE
  exact or_int (q s.heap _ _ .refl (.int _ _))
theorem Op2.lt {a b : Int} {T1 T2 : Tr} : Op2 (model prog w) A (compareOp .Lt) (isI T1 a) (isI T2 b) (fun _ v => v = .bool (decide (a < b))) := by
  intro s va vb Q E x y q
  obtain ⟨t, rfl⟩ := x.intE
  obtain ⟨u, rfl⟩ := y.intE
  exact lt_int (q s.heap s.toks _ .refl rfl)
theorem Op2.le {a b : Int} {T1 T2 : Tr} : Op2 (model prog w) A (compareOp .LtE) (isI T1 a) (isI T2 b) (fun _ v => v = .bool (decide (a ≤ b))) := by
  intro s va vb Q E x y q
  obtain ⟨t, rfl⟩ := x.intE
  obtain ⟨u, rfl⟩ := y.intE
  exact le_int (q s.heap s.toks _ .refl rfl)
theorem Op2.ge {a b : Int} {T1 T2 : Tr} : Op2 (model prog w) A (compareOp .GtE) (isI T1 a) (isI T2 b) (fun _ v => v = .bool (decide (a ≥ b))) := by
  intro s va vb Q E x y q
  obtain ⟨t, rfl⟩ := x.intE
  obtain ⟨u, rfl⟩ := y.intE
  exact ge_int (q s.heap s.toks _ .refl rfl)
theorem Op2.eq {a b : Int} {T1 T2 : Tr} : Op2 (model prog w) A (compareOp .Eq) (isI T1 a) (isI T2 b) (fun _ v => v = .bool (a == b)) := by
  intro s va vb Q E x y q
  obtain ⟨t, rfl⟩ := x.intE
  obtain ⟨u, rfl⟩ := y.intE
  exact eq_int (q s.heap s.toks _ .refl rfl)
theorem Op2.ne {a b : Int} {T1 T2 : Tr} : Op2 (model prog w) A (compareOp .NotEq) (isI T1 a) (isI T2 b) (fun _ v => v = .bool (a != b)) := by
  intro s va vb Q E x y q
  obtain ⟨t, rfl⟩ := x.intE
  obtain ⟨u, rfl⟩ := y.intE
  exact ne_int (q s.heap s.toks _ .refl rfl)
theorem Op2.isNone {r : V} {b : Bool} (hb : ∀ h v, Vr T h v r → (v == .none) = b) {T2 : Tr} : Op2 (model prog w) A (compareOp .Is) (fun h v => Vr T h v r) (fun h v => Vr T2 h v (.d .none)) (fun _ v => v = .bool b) := by
  intro s va vb Q E x y q
  obtain rfl := y.noneE
  exact is_none (q s.heap s.toks _ .refl (by rw [hb _ _ x]))
theorem Op2.isNotNone {r : V} {b : Bool} (hb : ∀ h v, Vr T h v r → (v == .none) = b) {T2 : Tr} : Op2 (model prog w) A (compareOp .IsNot) (fun h v => Vr T h v r) (fun h v => Vr T2 h v (.d .none)) (fun _ v => v = .bool (!b)) := by
  intro s va vb Q E x y q
  obtain rfl := y.noneE
  exact isNot_none (q s.heap s.toks _ .refl (by rw [hb _ _ x]))
end
end Tc
namespace Tc
open PySem PySem.Calls PyProof.Rows PySem.W

inductive BR (T : Tr) (h : Heap) : List (Str × V) → List (Str × Value) → Prop
  | nil : BR T h [] []
  | cons {x r v ρ b} : Vr T h v r → BR T h ρ b → BR T h ((x, r) :: ρ) ((x, v) :: b)
theorem BR.mem {T : Tr} {h : Heap} : ∀ {ρ b x r}, BR T h ρ b → ρ.lookup x = some r → x ∈ b.map (·.1)
  | _, _, _, _, .nil, e => by cases e
  | _, _, x, r, .cons (x := y) (ρ := ρ) k n, e => by
    rw [List.lookup_cons] at e
    cases hb : x == y with
    | true => exact List.mem_map.mpr ⟨_, .head _, (eq_of_beq hb).symm⟩
    | false => rw [hb] at e; exact List.mem_cons_of_mem _ (BR.mem n e)
theorem bindL_notin (k : Str → Option NameKind) : ∀ (b : List (Str × Value)) (m : Str → Option Value) (x : Str), x ∉ b.map (·.1) → bindL k b m x = m x
  | [], _, _, _ => rfl
  | (y, v) :: b, m, x, n => by
    rw [bindL, bindL_notin k b _ x fun q => n (List.mem_cons_of_mem _ q)]
    have : x ≠ y := fun q => n (q ▸ List.mem_cons_self)
    split
    · exact if_neg this
    · rfl
theorem bindC_notin (k : Str → Option NameKind) : ∀ (b : List (Str × Value)) (m : Str → Option Value) (x : Str), x ∉ b.map (·.1) → bindC k b m x = m x
  | [], _, _, _ => rfl
  | (y, v) :: b, m, x, n => by
    rw [bindC, bindC_notin k b _ x fun q => n (List.mem_cons_of_mem _ q)]
    have : x ≠ y := fun q => n (q ▸ List.mem_cons_self)
    split
    · rfl
    · exact if_neg this
theorem BR.bindL {T : Tr} {h : Heap} (k : Str → Option NameKind) : ∀ {ρ b x r} (m : Str → Option Value), BR T h ρ b → (b.map (·.1)).Nodup → ρ.lookup x = some r → k x = some .local → ∃ v, bindL k b m x = some v ∧ Vr T h v r
  | _, _, _, _, _, .nil, _, e, _ => by cases e
  | _, _, x, r, m, .cons (x := y) (ρ := ρ) (b := b) (v := v) z n, nd, e, l => by
    rw [List.map_cons, List.nodup_cons] at nd
    rw [List.lookup_cons] at e
    cases hb : x == y with
    | true =>
      rw [hb] at e; cases e
      have := eq_of_beq hb; subst this
      refine ⟨v, ?_, z⟩
      rw [PySem.bindL, bindL_notin k _ _ _ nd.1, if_pos l, if_pos rfl]
    | false =>
      rw [hb] at e
      have z' := BR.bindL k (if k y = some .local then fun u => if u = y then some v else m u else m) n nd.2 e l
      exact z'
theorem BR.bindC {T : Tr} {h : Heap} (k : Str → Option NameKind) : ∀ {ρ b x r} (m : Str → Option Value), BR T h ρ b → (b.map (·.1)).Nodup → ρ.lookup x = some r → k x ≠ some .local → ∃ v, bindC k b m x = some v ∧ Vr T h v r
  | _, _, _, _, _, .nil, _, e, _ => by cases e
  | _, _, x, r, m, .cons (x := y) (ρ := ρ) (b := b) (v := v) z n, nd, e, l => by
    rw [List.map_cons, List.nodup_cons] at nd
    rw [List.lookup_cons] at e
    cases hb : x == y with
    | true =>
      rw [hb] at e; cases e
      have := eq_of_beq hb; subst this
      refine ⟨v, ?_, z⟩
      rw [PySem.bindC, bindC_notin k _ _ _ nd.1, if_neg l, if_pos rfl]
    | false =>
      rw [hb] at e
      have z' := BR.bindC k (if k y = some .local then m else fun u => if u = y then some v else m u) n nd.2 e l
      exact z'
theorem lookup_mem {α : Type} : ∀ {l : List (Str × α)} {x : Str} {c : α}, l.lookup x = some c → (x, c) ∈ l
  | [], _, _, e => by cases e
  | (y, d) :: l, x, c, e => by
    rw [List.lookup_cons] at e
    cases hb : x == y with
    | true => rw [hb] at e; cases e; rw [eq_of_beq hb]; exact .head _
    | false => rw [hb] at e; exact .tail _ (lookup_mem e)
theorem apart_inj : ∀ {l : List (Str × Addr)} {x y : Str} {c : Addr}, (l.Pairwise fun a b => a.2 ≠ b.2) → l.lookup x = some c → l.lookup y = some c → x = y
  | [], _, _, _, _, e, _ => by cases e
  | (z, d) :: l, x, y, c, p, e, f => by
    rw [List.pairwise_cons] at p
    rw [List.lookup_cons] at e f
    cases hx : x == z with
    | true =>
      cases hy : y == z with
      | true => exact (eq_of_beq hx).trans (eq_of_beq hy).symm
      | false =>
        rw [hx] at e; rw [hy] at f; cases e
        have f' : l.lookup y = some d := f
        exact (p.1 (y, d) (lookup_mem f') rfl).elim
    | false =>
      cases hy : y == z with
      | true =>
        rw [hx] at e; rw [hy] at f; cases f
        have e' : l.lookup x = some d := e
        exact (p.1 (x, d) (lookup_mem e') rfl).elim
      | false => rw [hx] at e; rw [hy] at f; exact apart_inj p.2 e f

noncomputable def retv : Flow → Value
  | .ret v => v
  | _ => .none
/-- what a body hands back -/
noncomputable def RetQ (s₀ : Shared) (P : Heap → Value → Prop) : Flow → Shared → Prop := fun fl s' => ∃ h' tk, s' = { s₀ with heap := h', toks := tk } ∧ P h' (retv fl)
noncomputable abbrev envE (st : Stmt) (q : Str) (f : Addr) (cd : Value) (L : Addr) : Env :=
  { scope := fScope st, locals := L, globals := mainGlobals, cells := cellsFrom (L + 1) (fScope st).names [], qual := q ++ ".<locals>.", func := some f, code := cd, frame := some L, builtins := builtinsNs }
noncomputable def cellsOf (st : Stmt) (L : Addr) : List Addr := (cellsFrom (L + 1) (fScope st).names []).map (·.2)

noncomputable def Tr.with (T : Tr) (l : List Addr) : Tr := ⟨l ++ T.m, T.n⟩
theorem Tr.has_with {T : Tr} {l : List Addr} {b : Addr} : (T.with l).has b ↔ b ∈ l ∨ T.has b := by
  unfold Tr.has Tr.with
  rw [List.mem_append, or_assoc]
theorem Rd.offs {h : Heap} {v : Value} {r : PyData} {own : Tr} : ∀ {l : List Addr}, (∀ b ∈ l, h.get? b = Option.none) → Rd own h v r → Rd (own.with l) h v r
  | [], _, x => x
  | b :: l, n, x => Rd.off (T := own.with l) (n b (.head _)) (Rd.offs (l := l) (fun c hc => n c (.tail _ hc)) x)
theorem Rds.offs {h : Heap} {v : List Value} {r : List PyData} {own : Tr} : ∀ {l : List Addr}, (∀ b ∈ l, h.get? b = Option.none) → Rds own h v r → Rds (own.with l) h v r
  | [], _, x => x
  | b :: l, n, x => Rds.off (T := own.with l) (n b (.head _)) (Rds.offs (l := l) (fun c hc => n c (.tail _ hc)) x)
theorem Vr.offs {h : Heap} {v : Value} {r : V} {own : Tr} {l : List Addr} (n : ∀ b ∈ l, h.get? b = none) (x : Vr own h v r) : Vr (own.with l) h v r := by
  cases r with
  | d _ => exact Rd.offs n x
  | v _ => exact x
  | o a ds => obtain ⟨e, m, vs, y, z⟩ := x; exact ⟨e, Tr.has_with.mpr (.inr m), vs, y, Rds.offs n z⟩
  | t _ a ds => obtain ⟨e, m, vs, y, z⟩ := x; exact ⟨e, Tr.has_with.mpr (.inr m), vs, y, Rds.offs n z⟩
/-- the top stands, and what T holds is there, above it -/
noncomputable def Wd (w : World) (T : Tr) (h : Heap) : Prop := TopH w h ∧ ∀ b, T.has b → 398 ≤ b ∧ ∃ o, h.get? b = some o
theorem Wd.of {w : World} {env : Env} {T : Tr} {g h : Heap} {ρ : List (Str × V)} (G : TopH w g) (S : St env T g ρ h) : Wd w T h := ⟨G.on S, fun b hb => ⟨S.high b hb, S.live b hb⟩⟩

section
variable {w : World} {A : Around} {h : Heap}
theorem noLimit (G : TopH w h) : h.NoLimit := ⟨_, ⟨o2 w.params, _, _, G.at_ 2 _ rfl, rfl, strKeys_of rfl, fun _ => rfl⟩, by rfl⟩
theorem top_lt (G : TopH w h) : 397 < h.objs.size := Heap.lt_size (G.at_ 397 _ rfl)

/-- a def is entered -/
theorem enterC {prog : Program} {s : Shared} {f c : Addr} {co : Obj} {st : Stmt} {n q : Str} {dV kV doc pm ct : Value} {an : Option Addr} {vs : List Value} {kw : List (Str × Value)} {binds : List (Str × Value)} {ρ : List (Str × V)} {own : Tr} {P : Heap → Value → Prop} {R : Result → Shared → Prop} {cvs : Array Value} {ctk : Tok}
    (G : TopH w s.heap) (hd : A.depth < recursionLimit)
    (ho : (topList w.params).lookup f = some ⟨.type "function", none, .func (fnc st n q mainGlobals dV kV doc pm an (.ref c) ct builtinsNs), #[]⟩)
    (hc : (topList w.params).lookup c = some co) (hcd : co.data = .fields cvs) (hcq : cvs[1]? = some (.str q ctk))
    (hb : BindsTo s (fnc st n q mainGlobals dV kV doc pm an (.ref c) ct builtinsNs) ⟨vs, kw⟩ binds)
    (hk : (fScope st).kind = .function) (hco : (fScope st).isCoroutine = false) (hgen : (fScope st).isGenerator = false)
    (hkind : (binds.all fun y => (fScope st).names.lookup y.1 == some .local || (fScope st).names.lookup y.1 == some .cell) = true)
    (hfree : ((fScope st).names.all fun y => y.2 != .free) = true)
    (hcn : ((cellsFrom 0 (fScope st).names []).map (·.1)).Nodup)
    {ns : List Str} (hns : binds.map (·.1) = ns) (hnd' : ns.Nodup)
    (hown : ∀ b, own.has b → 398 ≤ b ∧ ∃ o, s.heap.get? b = some o)
    (hρ : BR own s.heap ρ binds)
    (body : ∀ L h₁ tk, Ext s.heap h₁ → (∀ b ∈ (L :: cellsOf st L), s.heap.get? b = none) → St (envE st q f (.ref c) L) (own.with (L :: cellsOf st L)) s.heap ρ h₁ →
      wpAny (model prog w) (A.deeper (envE st q f (.ref c) L)) (execs (fBody st) (envE st q f (.ref c) L))
        (RetQ s fun h' v => Pers (own.with (L :: cellsOf st L)).m s.heap h' ∧ P h' v) (fun _ _ => False) { s with heap := h₁, toks := tk })
    (done : ∀ h' tk v, Pers own.m s.heap h' → P h' v → R (.ok (.ret v)) { s with heap := h', toks := tk }) :
    codeAny (model prog w) A (.call (.ref f) ⟨vs, kw⟩) R s := by
  have hnd : (binds.map (·.1)).Nodup := hns ▸ hnd'
  refine codeAny_call_function hd (G.at_ _ _ ho) rfl hco hgen rfl ⟨c, co, cvs, ctk, rfl, G.at_ _ _ hc, hcd, hcq⟩ (hb _ _ _ _ ?_)
  have hkd : ∀ n, ∀ x ∈ binds, (fScope st).names.lookup x.1 = some .local ∨ ((fScope st).names.lookup x.1 = some .cell ∧ ((cellsFrom n (fScope st).names []).lookup x.1).isSome = true) := kindsX hkind
  refine wpAny_newFunctionEnv_cells hk (hkd _) fun env he s' x => ?_
  subst he
  refine ⟨(noLimit G).keeps x.toInCall.keep, codeAny_func ?_⟩
  obtain ⟨h₁, tk, rfl, k⟩ := x.done
  have hL : s.heap.objs.size ≤ s.heap.objs.size := Nat.le_refl _
  have hnone : ∀ b ∈ s.heap.objs.size :: cellsOf st s.heap.objs.size, s.heap.get? b = none := by
    intro b hb
    refine Heap.get?_none_of_le ?_
    rcases List.mem_cons.mp hb with rfl | hb
    · exact Nat.le_refl _
    · obtain ⟨⟨y, d⟩, hy, rfl⟩ := List.mem_map.mp hb
      exact Nat.le_of_lt (x.above y d hy)
  have hbig := top_lt G
  have S : St (envE st q f (.ref c) s.heap.objs.size) (own.with (s.heap.objs.size :: cellsOf st s.heap.objs.size)) s.heap ρ h₁ := by
    refine ⟨hk, Ext.pers k, fun b hb => ?_, fun b hb => ?_, .head _, fun y d e => ?_, fun y z d e e' => apart_inj x.apart e e', ?_, fun y ky => ?_⟩
    · rcases Tr.has_with.mp hb with hb | hb
      · rcases List.mem_cons.mp hb with rfl | hb
        · obtain ⟨o, _, _, ho, _⟩ := x.toInCall.ns
          exact ⟨o, ho⟩
        · obtain ⟨⟨y, d⟩, hy, rfl⟩ := List.mem_map.mp hb
          have hd' := lookup_of_mem_nodup (cellsFrom_names (fScope st).names 0 (s.heap.objs.size + 1) [] [] rfl ▸ hcn) hy
          obtain ⟨o, ho, _⟩ := x.cell y _ hd'
          exact ⟨o, ho⟩
      · obtain ⟨o, ho⟩ := (hown b hb).2
        exact ⟨o, k _ _ ho⟩
    · rcases Tr.has_with.mp hb with hb | hb
      · have : s.heap.objs.size ≤ b := by
          rcases List.mem_cons.mp hb with rfl | hb
          · exact Nat.le_refl _
          · obtain ⟨⟨y, d⟩, hy, rfl⟩ := List.mem_map.mp hb
            exact Nat.le_of_lt (x.above y d hy)
        exact Nat.le_trans hbig this
      · exact (hown b hb).1
    · exact List.mem_append_left _ (.tail _ (List.mem_map.mpr ⟨_, lookup_mem e, rfl⟩))
    · refine ⟨_, x.toInCall.ns, fun y r e l => ?_⟩
      obtain ⟨v, a, b⟩ := hρ.bindL _ (fun _ => none) hnd e l
      exact ⟨v, a, (Vr.offs hnone b).ext k⟩
    · rcases ky with ky | ky
      · have hs := cellsFrom_some (x := y) (fScope st).names (s.heap.objs.size + 1) [] (.inl ky)
        obtain ⟨d, hd⟩ := Option.isSome_iff_exists.mp hs
        refine ⟨d, _, hd, x.cell y d hd, fun r e => ?_⟩
        obtain ⟨v, a, b⟩ := hρ.bindC _ (fun _ => none) hnd e (fun z => by have := ky.symm.trans z; cases this)
        exact ⟨v, a, (Vr.offs hnone b).ext k⟩
      · exfalso
        have := List.all_eq_true.mp hfree _ (lookup_mem ky)
        cases this
  refine wpAny_mono (body _ _ tk k hnone S) (fun fl s' hq => ?_) fun _ _ z => z.elim
  obtain ⟨h', tk', rfl, hp, hP⟩ := hq
  have := done h' tk' (retv fl) (fun b o nb e => hp b o (fun hm => by
    rcases List.mem_append.mp hm with hm | hm
    · have := hnone b hm; rw [e] at this; cases this
    · exact nb hm) e) hP
  cases fl <;> exact this
/-- a def is entered -/
theorem enter {prog : Program} {s : Shared} {f c : Addr} {co : Obj} {st : Stmt} {n q : Str} {dV kV doc pm ct : Value} {an : Option Addr} {vs : List Value} {kw : List (Str × Value)} {binds : List (Str × Value)} {ρ : List (Str × V)} {own : Tr} {P : Heap → Value → Prop} {Q E : Value → Shared → Prop} {cvs : Array Value} {ctk : Tok}
    (G : TopH w s.heap) (hd : A.depth < recursionLimit)
    (ho : (topList w.params).lookup f = some ⟨.type "function", none, .func (fnc st n q mainGlobals dV kV doc pm an (.ref c) ct builtinsNs), #[]⟩)
    (hc : (topList w.params).lookup c = some co) (hcd : co.data = .fields cvs) (hcq : cvs[1]? = some (.str q ctk))
    (hb : BindsTo s (fnc st n q mainGlobals dV kV doc pm an (.ref c) ct builtinsNs) ⟨vs, kw⟩ binds)
    (hk : (fScope st).kind = .function) (hco : (fScope st).isCoroutine = false) (hgen : (fScope st).isGenerator = false)
    (hkind : (binds.all fun y => (fScope st).names.lookup y.1 == some .local || (fScope st).names.lookup y.1 == some .cell) = true)
    (hfree : ((fScope st).names.all fun y => y.2 != .free) = true)
    (hcn : ((cellsFrom 0 (fScope st).names []).map (·.1)).Nodup)
    {ns : List Str} (hns : binds.map (·.1) = ns) (hnd' : ns.Nodup)
    (hown : ∀ b, own.has b → 398 ≤ b ∧ ∃ o, s.heap.get? b = some o)
    (hρ : BR own s.heap ρ binds)
    (body : ∀ L h₁ tk, (∀ b ∈ (L :: cellsOf st L), s.heap.get? b = none) → St (envE st q f (.ref c) L) (own.with (L :: cellsOf st L)) s.heap ρ h₁ →
      wpAny (model prog w) (A.deeper (envE st q f (.ref c) L)) (execs (fBody st) (envE st q f (.ref c) L))
        (RetQ s fun h' v => Pers (own.with (L :: cellsOf st L)).m s.heap h' ∧ P h' v) (fun _ _ => False) { s with heap := h₁, toks := tk })
    (done : ∀ h' tk v, Pers own.m s.heap h' → P h' v → Q v { s with heap := h', toks := tk }) :
    wpAny (model prog w) A (call (.ref f) vs kw) Q E s :=
  wpAny_call (enterC G hd ho hc hcd hcq hb hk hco hgen hkind hfree hcn hns hnd' hown hρ (fun L h₁ tk _ => body L h₁ tk) done)
end
end Tc
namespace Tc
open PySem PySem.Calls PyProof.Rows PySem.W

noncomputable abbrev NoE : Value → Shared → Prop := fun _ _ => False
/-- what stands behind a statement -/
noncomputable def Then (M : Model) (A : Around) (env : Env) (rest : List Stmt) (Q : Flow → Shared → Prop) (E : Value → Shared → Prop) : Flow → Shared → Prop := fun f s' => match f with
  | .next => wpAny M A (execs rest env) Q E s'
  | f => Q f s'
section
variable {prog : Program} {w : World} {A : Around} {env : Env} {T : Tr} {g : Heap} {ρ : List (Str × V)} {s : Shared} {Q : Flow → Shared → Prop} {E : Value → Shared → Prop} {rest : List Stmt}
theorem X.cons {M : Model} {st : Stmt} (h : wpAny M A (exec st env) (Then M A env rest Q E) E s) : wpAny M A (execs (st :: rest) env) Q E s := wpAny_execs_cons (wpAny_mono h (fun f s' x => by cases f <;> exact x) fun _ _ x => x)
theorem X.nil {M : Model} (h : Q .next s) : wpAny M A (execs [] env) Q E s := wpAny_execs_nil h
theorem store_l {M : Model} {x : Str} {v : Value} {r : V} {Q' : Unit → Shared → Prop} (S : St env T g ρ s.heap) (hx : env.kindOf x = some .local) (y : Vr T s.heap v r)
    (k : ∀ h' tk, St env T g ((x, r) :: ρ) h' → Pers [env.locals] s.heap h' → Q' () { s with heap := h', toks := tk }) : wpAny M A (storeName env x v) Q' E s := by
  obtain ⟨m, hm, hk⟩ := S.ns
  refine wpAny_storeName_local hx hm (fun h' hn hs => k h' _ (S.local_ hx y hm hk hn hs) (sameBut_pers hs)) ?_
  rw [S.kind]; rfl
theorem store_c {M : Model} {x : Str} {v : Value} {r : V} {Q' : Unit → Shared → Prop} (S : St env T g ρ s.heap) (hx : env.kindOf x = some .cell) (y : Vr T s.heap v r)
    (k : ∀ h' tk, St env T g ((x, r) :: ρ) h' → Pers T.m s.heap h' → Q' () { s with heap := h', toks := tk }) : wpAny M A (storeName env x v) Q' E s := by
  obtain ⟨c, w, hc, hw, _⟩ := S.cl x (.inl hx)
  exact wpAny_storeName_cell S.kind hx hc hw fun h' hn hs => k h' s.toks (S.cell_ hx y hc hw hn hs) (Pers.sameBut hs (S.memC _ _ hc))
/-- x = e -/
theorem X.assignP {M : Model} {x : Str} {p pos : Pos} {e : Expr} {P : Heap → Value → Prop} (S : St env T g ρ s.heap) (he : EvP M A env T g ρ e P)
    (k : ∀ h1 v, Ext s.heap h1 → P h1 v → ∃ r, Vr T h1 v r ∧ ∀ h' tk, St env T g ((x, r) :: ρ) h' → Pers T.m h1 h' → wpAny M A (execs rest env) Q E { s with heap := h', toks := tk })
    (hx : env.kindOf x = some .local := by rfl) (hs : swapsWith e (some (.Name x p)) pos.line env = pure false := by rfl) : wpAny M A (execs (.Assign [.Name x p] e pos :: rest) env) Q E s := by
  refine X.cons (wpAny_Assign_Name (he s _ _ S fun h1 tk v e1 p1 => ?_) hs)
  obtain ⟨r, hr, k'⟩ := k h1 v e1 p1
  exact store_l (S.ext e1) hx hr fun h' tk' S' p => k' h' tk' S' (p.more fun b hb => List.mem_singleton.mp hb ▸ S.memL)
theorem X.assign {M : Model} {x : Str} {p pos : Pos} {e : Expr} {r : V} (S : St env T g ρ s.heap) (he : Ev M A env T g ρ e r)
    (k : ∀ h' tk, St env T g ((x, r) :: ρ) h' → wpAny M A (execs rest env) Q E { s with heap := h', toks := tk })
    (hx : env.kindOf x = some .local := by rfl) (hs : swapsWith e (some (.Name x p)) pos.line env = pure false := by rfl) : wpAny M A (execs (.Assign [.Name x p] e pos :: rest) env) Q E s :=
  X.assignP S he (fun _ _ _ hv => ⟨r, hv, fun h' tk S' _ => k h' tk S'⟩) hx hs
theorem X.assignC {M : Model} {x : Str} {p pos : Pos} {e : Expr} {r : V} (S : St env T g ρ s.heap) (he : Ev M A env T g ρ e r)
    (k : ∀ h' tk, St env T g ((x, r) :: ρ) h' → wpAny M A (execs rest env) Q E { s with heap := h', toks := tk })
    (hx : env.kindOf x = some .cell := by rfl) (hs : swapsWith e (some (.Name x p)) pos.line env = pure false := by rfl) : wpAny M A (execs (.Assign [.Name x p] e pos :: rest) env) Q E s :=
  X.cons (wpAny_Assign_Name (he s _ _ S fun _ _ _ e1 p1 => store_c (S.ext e1) hx p1 fun h' tk' S' _ => k h' tk' S') hs)
theorem X.ite {M : Model} {t : Expr} {b o : List Stmt} {pos : Pos} {c : Bool} (S : St env T g ρ s.heap) (ht : EvB M A env T g ρ t c)
    (yes : c = true → ∀ h' tk, St env T g ρ h' → wpAny M A (execs b env) (Then M A env rest Q E) E { s with heap := h', toks := tk })
    (no : c = false → ∀ h' tk, St env T g ρ h' → wpAny M A (execs o env) (Then M A env rest Q E) E { s with heap := h', toks := tk }) : wpAny M A (execs (.If t b o pos :: rest) env) Q E s := by
  refine X.cons (wpAny_If (ht s _ _ S fun h' tk e1 => ?_))
  cases c with
  | true => exact yes rfl h' tk (S.ext e1)
  | false => exact no rfl h' tk (S.ext e1)
theorem X.ret {M : Model} {e : Expr} {pos : Pos} {P : Heap → Value → Prop} (S : St env T g ρ s.heap) (he : EvP M A env T g ρ e P)
    (k : ∀ h' tk v, St env T g ρ h' → P h' v → Q (.ret v) { s with heap := h', toks := tk }) : wpAny M A (execs (.Return (some e) pos :: rest) env) Q E s :=
  X.cons (wpAny_Return_some (he s _ _ S fun h' tk v e1 p1 => k h' tk v (S.ext e1) p1))
/-- while: an invariant I by a measure -/
theorem X.while {t : Expr} {b : List Stmt} {pos : Pos} {Q : Flow → Shared → Prop} (I : Nat → Heap → Prop) (n : Nat) (h0 : I n s.heap)
    (turn : ∀ n h', I n h' → ∃ c : Bool, ∃ ρ', St env T g ρ' h' ∧ EvB (model prog w) A env T g ρ' t c ∧ (c = true → ∀ h1 tk1, Ext h' h1 → wpAny (model prog w) A (execs b env) (fun f s3 => match f with
        | .next | .cont => ∃ h3 tk3 m, s3 = { s with heap := h3, toks := tk3 } ∧ m < n ∧ I m h3
        | .brk => Then (model prog w) A env rest Q NoE .next s3
        | .ret v => Q (.ret v) s3) NoE { s with heap := h1, toks := tk1 }) ∧ (c = false → ∀ h1 tk1, Ext h' h1 → wpAny (model prog w) A (execs rest env) Q NoE { s with heap := h1, toks := tk1 })) :
    wpAny (model prog w) A (execs (.While t b [] pos :: rest) env) Q NoE s := by
  refine X.cons (wpAny_While (codeAny_whileLoop (fun n s' => ∃ h' tk, s' = { s with heap := h', toks := tk } ∧ I n h') ?_ n ⟨s.heap, s.toks, rfl, h0⟩))
  rintro n s' ⟨h', tk, rfl, hI⟩
  obtain ⟨c, ρ', S', ht, hy, hn⟩ := turn n h' hI
  refine ht _ _ _ S' fun h1 tk1 e1 => ?_
  cases c with
  | false =>
    rw [if_neg Bool.false_ne_true]
    exact wpAny_execs_nil (hn rfl h1 tk1 e1)
  | true =>
    rw [if_pos rfl]
    refine wpAny_mono (hy rfl h1 tk1 e1) (fun f s3 h3 => ?_) fun _ _ z => z.elim
    cases f with
    | next => obtain ⟨h3, tk3, m, rfl, hm, hi⟩ := h3; exact ⟨m, hm, h3, tk3, rfl, hi⟩
    | cont => obtain ⟨h3, tk3, m, rfl, hm, hi⟩ := h3; exact ⟨m, hm, h3, tk3, rfl, hi⟩
    | brk => exact h3
    | ret v => exact h3
end
end Tc
namespace Tc
open PySem PySem.Calls PyProof.Rows PySem.W

inductive Vrs (T : Tr) (h : Heap) : List Value → List V → Prop
  | nil : Vrs T h [] []
  | cons {v vs r rs} : Vr T h v r → Vrs T h vs rs → Vrs T h (v :: vs) (r :: rs)
theorem Vrs.ext {T : Tr} {h h' : Heap} (p : Ext h h') : ∀ {vs rs}, Vrs T h vs rs → Vrs T h' vs rs
  | _, _, .nil => .nil
  | _, _, .cons x y => .cons (x.ext p) (y.ext p)
noncomputable def EvAs (M : Model) (A : Around) (env : Env) (T : Tr) (g : Heap) (ρ : List (Str × V)) (es : List Expr) (rs : List V) : Prop :=
  ∀ (pos : Pos) (s : Shared) (Q : List Value → Shared → Prop) (E : Value → Shared → Prop), St env T g ρ s.heap → (∀ h' tk vs, Ext s.heap h' → Vrs T h' vs rs → Q vs { s with heap := h', toks := tk }) → wpAny M A (spliced (backTo pos (starEach es env))) Q E s
/-- what a callee does on values, where W holds of the heap -/
noncomputable def Cl (M : Model) (A : Around) (f : Value) (W : Heap → Prop) (T : Tr) (rs : List V) (P : Heap → Value → Prop) : Prop :=
  ∀ (s : Shared) (vs : List Value) (Q E : Value → Shared → Prop), W s.heap → Vrs T s.heap vs rs → (∀ h' tk v, Ext s.heap h' → P h' v → Q v { s with heap := h', toks := tk }) → wpAny M A (call f vs) Q E s
section
variable {prog : Program} {w : World} {A : Around} {env : Env} {T : Tr} {g : Heap} {ρ : List (Str × V)}
theorem EvAs.nil {M : Model} : EvAs M A env T g ρ [] [] := fun _ s _ _ _ q => args_nil (q s.heap s.toks [] .refl .nil)
theorem EvAs.cons {M : Model} {e : Expr} {es : List Expr} {r : V} {rs : List V} (x : Ev M A env T g ρ e r) (y : EvAs M A env T g ρ es rs) (he : starEach (e :: es) env = (false, eval e env) :: starEach es env := by rfl) : EvAs M A env T g ρ (e :: es) (r :: rs) :=
  fun pos s _ _ S q => args_cons (x s _ _ S fun _ _ _ e1 p1 => y pos _ _ _ (S.ext e1) fun _ _ _ e2 p2 => q _ _ _ (e1.trans e2) (.cons (p1.ext e2) p2)) he
theorem EvP.callB {M : Model} {fe e : Expr} {es : List Expr} {pos : Pos} {id : String} {rs : List V} {W : Heap → Prop} {P : Heap → Value → Prop} (hf : Ev M A env T g ρ fe (.v (.builtin id))) (ha : EvAs M A env T g ρ (e :: es) rs) (hc : Cl M A (.builtin id) W T rs P)
    (hW : ∀ h, St env T g ρ h → W h)
    (h1 : eval (.Call fe (e :: es) [] pos) env = (do callWith pos (← eval fe env) [] (backTo pos (starEach (e :: es) env)) (backToKw pos (keywordEach [] env))) := by rfl)
    (he : starEach (e :: es) env = (false, eval e env) :: starEach es env := by rfl) (hp : (backTo pos (starEach es env)).any (·.1) = false := by rfl) : EvP M A env T g ρ (.Call fe (e :: es) [] pos) P := by
  intro s Q E S q
  refine Call_ (hf s _ _ S fun h1 t1 v1 e1 p1 => ?_) h1
  cases p1
  exact callWith_builtin1 (ha pos _ _ _ (S.ext e1) fun h2 t2 vs e2 p2 => hc _ _ _ _ (hW _ ((S.ext e1).ext e2)) p2 fun h3 t3 v3 e3 p3 => q _ _ _ ((e1.trans e2).trans e3) p3) he hp
theorem EvP.callT {M : Model} {fe e : Expr} {es : List Expr} {pos : Pos} {id : String} {rs : List V} {W : Heap → Prop} {P : Heap → Value → Prop} (hf : Ev M A env T g ρ fe (.v (.type id))) (ha : EvAs M A env T g ρ (e :: es) rs) (hc : Cl M A (.type id) W T rs P)
    (hW : ∀ h, St env T g ρ h → W h)
    (h1 : eval (.Call fe (e :: es) [] pos) env = (do callWith pos (← eval fe env) [] (backTo pos (starEach (e :: es) env)) (backToKw pos (keywordEach [] env))) := by rfl)
    (he : starEach (e :: es) env = (false, eval e env) :: starEach es env := by rfl) (hp : (backTo pos (starEach es env)).any (·.1) = false := by rfl) : EvP M A env T g ρ (.Call fe (e :: es) [] pos) P := by
  intro s Q E S q
  refine Call_ (hf s _ _ S fun h1 t1 v1 e1 p1 => ?_) h1
  cases p1
  exact callWith_type1 (ha pos _ _ _ (S.ext e1) fun h2 t2 vs e2 p2 => hc _ _ _ _ (hW _ ((S.ext e1).ext e2)) p2 fun h3 t3 v3 e3 p3 => q _ _ _ ((e1.trans e2).trans e3) p3) he hp
theorem EvP.callD {M : Model} {fe e : Expr} {es : List Expr} {pos : Pos} {f : Addr} {o : Obj} {fd : FuncData} {rs : List V} {W : Heap → Prop} {P : Heap → Value → Prop} (G : TopH w g) (ho : (topList w.params).lookup f = some o) (hd : o.data = .func fd) (hf : Ev M A env T g ρ fe (.v (.ref f))) (ha : EvAs M A env T g ρ (e :: es) rs) (hc : Cl M A (.ref f) W T rs P)
    (hW : ∀ h, St env T g ρ h → W h)
    (h1 : eval (.Call fe (e :: es) [] pos) env = (do callWith pos (← eval fe env) [] (backTo pos (starEach (e :: es) env)) (backToKw pos (keywordEach [] env))) := by rfl)
    (he : starEach (e :: es) env = (false, eval e env) :: starEach es env := by rfl) : EvP M A env T g ρ (.Call fe (e :: es) [] pos) P := by
  intro s Q E S q
  refine Call_ (hf s _ _ S fun h1 t1 v1 e1 p1 => ?_) h1
  cases p1
  exact callWith_def hd (ha pos _ _ _ (S.ext e1) fun h2 t2 vs e2 p2 => ⟨(G.on ((S.ext e1).ext e2)).at_ _ _ ho, hc _ _ _ _ (hW _ ((S.ext e1).ext e2)) p2 fun h3 t3 v3 e3 p3 => q _ _ _ ((e1.trans e2).trans e3) p3⟩) he

theorem Cl.len {r : V} {ds : List PyData} {T' : Tr} (hr : r.asList = some ds) (hb : ds.length < 2 ^ 62) : Cl (model prog w) A (.builtin "len") (fun _ => True) T [r] (isI T' ds.length) := by
  intro s vs Q E _ x q
  obtain _ | ⟨x, y⟩ := x
  cases y
  obtain ⟨a, its, rfl, hl, hds⟩ := x.list hr
  replace hl := hl.isList
  have hlen : (its.size : Int) = ds.length := by
    have := hds.length
    rw [Array.length_toList] at this
    omega
  refine call_len_list hl (by rw [hlen]; omega) ?_
  rw [hlen]
  exact q _ _ _ .refl (.int _ _)
theorem Ev.item {a b : Expr} {pos : Pos} {r : V} {ds : List PyData} {k : Int} {d : PyData} (ha : Ev (model prog w) A env T g ρ a r) (hr : r.asList = some ds) (hb : Ev (model prog w) A env T g ρ b (.d (.int k))) (h0 : 0 ≤ k) (h1 : k < 2 ^ 63) (hd : ds[k.toNat]? = some d)
    (hs : ∀ l u, subscripted b false (.ref l) (.int k u) = operate [.ref l, .int k u] (getItem (.ref l) (.int k u)) := by intro _ _; with_unfolding_all rfl) : Ev (model prog w) A env T g ρ (.Subscript a b pos) (.d d) := by
  intro s Q E S q
  refine Subscript_ (ha s _ _ S fun h1 t1 v1 e1 p1 => hb _ _ _ (S.ext e1) fun h2 t2 v2 e2 p2 => ?_)
  obtain ⟨l, its, rfl, hl, hds⟩ := (p1.ext e2).list hr
  replace hl := hl.isList
  obtain ⟨u, rfl⟩ := p2.intE
  obtain ⟨v, hv, hvd⟩ := hds.get hd
  refine tail_any hl.typeIs slot_list_getitem.lookup (wpAny_getItem_list hl h0 (by assumption) (by simpa using hv) ?_) (hs l u)
  exact q h2 t2 v (e1.trans e2) hvd
end
end Tc
namespace Tc
open PySem PySem.Calls PyProof.Rows PySem.W

/-- an iterator's object: no list, no tuple, none that owns a tuple -/
noncomputable def ItOk (h : Heap) (t : Addr) : Prop := ∃ o, h.get? t = some o ∧ (∀ xs n, o.data ≠ .seq xs n) ∧ ∃ n vs, o.cls = .type n ∧ o.data = .fields vs ∧ ["enumerate", "zip", "dict_itemiterator", "dict_reverseitemiterator", "odict_iterator", "itertools.zip_longest", "itertools.pairwise"].contains n = false
theorem ItOk.non {h : Heap} {t : Addr} (x : ItOk h t) : NonSeq h t := let ⟨o, a, b, _⟩ := x; ⟨o, a, b⟩
theorem ItOk.go {M : Model} {A : Around} {E : Value → Shared → Prop} {s : Shared} {I : Addr} {target : Expr} {v : Value} {Q : Unit → Shared → Prop} (x : ItOk s.heap I) (h : Q () s) : wpAny M A (letOwnedTupleGo target (.ref I) v) Q E s := by
  obtain ⟨o, ho, _, n, vs, hc, hd, hn⟩ := x
  unfold letOwnedTupleGo
  cases target <;> first
    | exact wpAny_pure h
    | (cases v <;> first
        | exact wpAny_pure h
        | (refine wpAny_bind (wpAny_load ho ?_)
           rw [hc, hd]
           dsimp only
           rw [hn, Bool.false_and, if_neg Bool.false_ne_true]
           exact wpAny_pure h))
/-- a target takes a value -/
noncomputable def Tgt (M : Model) (A : Around) (env : Env) (T : Tr) (g : Heap) (ρ : List (Str × V)) (target : Expr) (lo : Bool) (d : PyData) (add : List (Str × V)) : Prop :=
  ∀ (s : Shared) (v : Value) (Q : Unit → Shared → Prop) (E : Value → Shared → Prop), St env T g ρ s.heap → Rd T s.heap v d →
    (∀ h' tk, St env T g (add ++ ρ) h' → (lo = true → Pers [env.locals] s.heap h') → Q () { s with heap := h', toks := tk }) → wpAny M A (assign target env v) Q E s
theorem Tgt.name {M : Model} {A : Around} {env : Env} {T : Tr} {g : Heap} {ρ : List (Str × V)} {x : Str} {p : Pos} {lo : Bool} {d : PyData} (hx : env.kindOf x = some .local := by rfl) : Tgt M A env T g ρ (.Name x p) lo d [(x, .d d)] :=
  fun _ _ _ _ S hv k => wpAny_assign_Name (store_l (r := .d d) S hx hv fun h' tk S' p => k h' tk S' fun _ => p)
theorem Tgt.nameC {M : Model} {A : Around} {env : Env} {T : Tr} {g : Heap} {ρ : List (Str × V)} {x : Str} {p : Pos} {d : PyData} (hx : env.kindOf x = some .cell := by rfl) : Tgt M A env T g ρ (.Name x p) false d [(x, .d d)] :=
  fun _ _ _ _ S hv k => wpAny_assign_Name (store_c (r := .d d) S hx hv fun h' tk S' _ => k h' tk S' fun q => nomatch q)

/-- the iterable e gives these items (fx: what its iterator leans on stands off T) -/
noncomputable def EvIt {α : Type} (prog : Program) (w : World) (A : Around) (env : Env) (T : Tr) (g : Heap) (ρ : List (Str × V)) (e : Expr) (fx : Bool) (xs : List α) (rep : α → PyData) : Prop :=
  ∀ (s : Shared) (Q E : Value → Shared → Prop), St env T g ρ s.heap →
    (∀ h0 h' tk I fp P Stt, Walks prog w A I fp [I] xs.length P Stt → Ext s.heap h0 → Ext h0 h' → h0.get? I = none → Stt 0 h' → (∀ i h, Stt i h → ItOk h I) → (∀ b ∈ fp, ∃ o, h'.get? b = some o) → (fx = true → ∀ b ∈ fp, b ∉ T.m) →
      (∀ (i : Nat) v x, xs[i]? = some x → P i v → Rd T h0 v (rep x)) → Q (.ref I) { s with heap := h', toks := tk }) →
    wpAny (model prog w) A (eval e env) (fun xv s₁ => wpAny (model prog w) A (pyIter xv) Q E s₁) E s
section
variable {prog : Program} {w : World} {A : Around} {env : Env} {T : Tr} {g : Heap} {ρ : List (Str × V)}
theorem St.off (S : St env T g ρ h) {b : Addr} (n : h.get? b = none) : T.off b := Tr.off_iff.mpr fun q => by
  obtain ⟨o, ho⟩ := S.live b q
  rw [n] at ho; cases ho
theorem St.gnone {h : Heap} {b : Addr} (S : St env T g ρ h) (n : h.get? b = none) : g.get? b = none := by
  cases z : g.get? b with
  | none => rfl
  | some o =>
    have := S.pers b o (S.off n).1 z
    rw [n] at this; cases this
theorem EvIt.listP {α : Type} {e : Expr} {r : V} {xs : List α} {f : α → PyData} {fx : Bool} (hA : A.handled = none) (he : Ev (model prog w) A env T g ρ e r) (hr : r.asList = some (xs.map f)) (hf : fx = true → r.still T) : EvIt prog w A env T g ρ e fx xs f := by
  intro s Q E S q
  refine he s _ _ S fun h1 t1 v1 e1 p1 => ?_
  obtain ⟨l, its, rfl, hl, hds⟩ := p1.list hr
  replace hl := hl.isList
  refine wpAny_pyIter_list hl ?_
  obtain ⟨ol, hol, _⟩ := id hl
  have hne : l ≠ h1.objs.size := Nat.ne_of_lt (Heap.lt_size hol)
  have hlen : its.size = xs.length := by
    have := hds.length
    rw [List.length_map, Array.length_toList] at this
    exact this
  have hI : h1.get? h1.objs.size = none := Heap.get?_none_of_le (Nat.le_refl _)
  have hIs : s.heap.get? h1.objs.size = none := by
    cases z : s.heap.get? h1.objs.size with
    | none => rfl
    | some o => have := e1 _ _ z; rw [hI] at this; cases this
  refine q h1 _ t1 h1.objs.size [h1.objs.size, l] (fun i v => its[i]? = some v) (fun i h => h.IsListIter h1.objs.size l i ∧ h.IsList l its) (hlen ▸ Walks.list hA _ l hne its) e1 (Ext.push _) hI ⟨⟨_, Heap.get?_push_size _ rfl, rfl, rfl⟩, hl.push _⟩
    (fun i h st => ?_) (fun b hb => ?_) (fun hfx b hb => ?_) (fun i v x hx hp => ?_)
  · obtain ⟨⟨o, ho, hcl, hd⟩, _⟩ := st
    exact ⟨o, ho, fun xs n z => (by rw [hd] at z; cases z), _, _, hcl, hd, by decide⟩
  · rcases List.mem_cons.mp hb with rfl | hb
    · exact ⟨_, Heap.get?_push_size _ rfl⟩
    · rw [List.mem_singleton.mp hb]; exact ⟨_, Heap.get?_push_of_some _ hol⟩
  · rcases List.mem_cons.mp hb with rfl | hb
    · exact (S.off hIs).1
    · rw [List.mem_singleton.mp hb]
      have hst := hf hfx
      cases r with
      | d y =>
        cases y with
        | list _ => cases p1 with | list n _ _ => exact n.1
        | _ => cases hr
      | v _ => cases hr
      | t _ _ _ => cases hr
      | o a _ => obtain ⟨e, _⟩ := p1; cases e; exact hst
  · have hd : (xs.map f)[i]? = some (f x) := by rw [List.getElem?_map, hx]; rfl
    obtain ⟨v', hv', hvd⟩ := hds.get hd
    have : v' = v := by
      have hp' : its.toList[i]? = some v := by simpa using hp
      rw [hv'] at hp'; exact Option.some.inj hp'
    subst this
    exact hvd
theorem EvIt.list {α : Type} {e : Expr} {xs : List α} {f : α → PyData} (hA : A.handled = none) (he : Ev (model prog w) A env T g ρ e (.d (.list (xs.map f)))) : EvIt prog w A env T g ρ e true xs f := EvIt.listP hA he rfl fun _ => trivial
theorem EvIt.own {α : Type} {e : Expr} {r : V} {xs : List α} {f : α → PyData} (hA : A.handled = none) (he : Ev (model prog w) A env T g ρ e r) (hr : r.asList = some (xs.map f)) : EvIt prog w A env T g ρ e false xs f := EvIt.listP hA he hr fun h => by cases h

/-- the cells that a comprehension takes over -/
inductive ClFit (env : Env) : List (Str × Addr) → Prop
  | nil : ClFit env []
  | cons {n c l} : env.cells.lookup n = some c → ClFit env l → ClFit env ((n, c) :: l)
theorem ClFit.sub : ∀ {l : List (Str × Addr)} {n : Str} {c : Addr}, ClFit env l → l.lookup n = some c → env.cells.lookup n = some c
  | _, _, _, .nil, e => by cases e
  | _, n, c, .cons (n := m) (c := d) (l := l) a r, e => by
    rw [List.lookup_cons] at e
    cases hb : n == m with
    | true => rw [hb] at e; cases e; rw [eq_of_beq hb]; exact a
    | false => rw [hb] at e; exact ClFit.sub (l := l) r e
/-- the names of a comprehension's scope: its own locals, free ones that are the frame's cells, globals -/
inductive ScFit (env : Env) (cl : List (Str × Addr)) : List (Str × NameKind) → Prop
  | nil : ScFit env cl []
  | loc {n r} : ScFit env cl r → ScFit env cl ((n, .local) :: r)
  | glob {n r} : ScFit env cl r → ScFit env cl ((n, .globalImplicit) :: r)
  | free {n c r} : cl.lookup n = some c → (env.kindOf n = some .cell ∨ env.kindOf n = some .free) → ScFit env cl r → ScFit env cl ((n, .free) :: r)
theorem ScFit.noCell {cl : List (Str × Addr)} : ∀ {l : List (Str × NameKind)}, ScFit env cl l → ∀ y ∈ l, y.2 ≠ .cell
  | _, .nil, _, h => by cases h
  | _, .loc r, y, h => by
    rcases List.mem_cons.mp h with rfl | h
    · intro z; cases z
    · exact r.noCell y h
  | _, .glob r, y, h => by
    rcases List.mem_cons.mp h with rfl | h
    · intro z; cases z
    · exact r.noCell y h
  | _, .free _ _ r, y, h => by
    rcases List.mem_cons.mp h with rfl | h
    · intro z; cases z
    · exact r.noCell y h
theorem ScFit.at {cl : List (Str × Addr)} (hk : env.scope.kind = .function) : ∀ {l : List (Str × NameKind)} {y : Str}, ScFit env cl l →
    ((l.map fun (n, k) => if (k == NameKind.free && env.scope.kind == .function && env.kindOf n == some .cell) then (n, NameKind.cell) else (n, k)).lookup y = some .cell ∨
     (l.map fun (n, k) => if (k == NameKind.free && env.scope.kind == .function && env.kindOf n == some .cell) then (n, NameKind.cell) else (n, k)).lookup y = some .free) →
    ∃ c, cl.lookup y = some c ∧ (env.kindOf y = some .cell ∨ env.kindOf y = some .free)
  | _, _, .nil, h => by rcases h with h | h <;> cases h
  | _, y, .loc (n := n) r, h => by
    by_cases q : y = n
    · subst q; simp at h
    · have : (y == n) = false := beq_eq_false_iff_ne.mpr q
      simp only [List.map_cons, show (NameKind.local == NameKind.free) = false from rfl, Bool.false_and, Bool.false_eq_true, if_false, List.lookup_cons, this] at h
      exact ScFit.at hk r h
  | _, y, .glob (n := n) r, h => by
    by_cases q : y = n
    · subst q; simp at h
    · have : (y == n) = false := beq_eq_false_iff_ne.mpr q
      simp only [List.map_cons, show (NameKind.globalImplicit == NameKind.free) = false from rfl, Bool.false_and, Bool.false_eq_true, if_false, List.lookup_cons, this] at h
      exact ScFit.at hk r h
  | _, y, .free (n := n) a b r, h => by
    by_cases q : y = n
    · subst q; exact ⟨_, a, b⟩
    · have hb : (y == n) = false := beq_eq_false_iff_ne.mpr q
      simp only [List.map_cons] at h
      by_cases hc : (NameKind.free == NameKind.free && env.scope.kind == ScopeKind.function && env.kindOf n == some NameKind.cell) = true
      · simp only [if_pos hc, List.lookup_cons, hb] at h
        exact ScFit.at hk r h
      · simp only [if_neg hc, List.lookup_cons, hb] at h
        exact ScFit.at hk r h
theorem relabel_local {l : List (Str × NameKind)} {y : Str} : (l.map fun (n, k) => if (k == NameKind.free && env.scope.kind == .function && env.kindOf n == some .cell) then (n, NameKind.cell) else (n, k)).lookup y = some .local → l.lookup y = some .local := by
  induction l with
  | nil => intro h; cases h
  | cons p l ih =>
    obtain ⟨n, k⟩ := p
    intro h
    by_cases q : y = n
    · subst q
      simp only [List.map_cons] at h
      split at h
      · simp at h
      · simpa using h
    · have hb : (y == n) = false := beq_eq_false_iff_ne.mpr q
      simp only [List.map_cons] at h
      split at h <;> (simp only [List.lookup_cons, hb] at h ⊢; exact ih h)
/-- what of the names a comprehension sees -/
inductive RcFit (ρ : List (Str × V)) (sc : List (Str × NameKind)) : List (Str × V) → Prop
  | nil : RcFit ρ sc []
  | cons {n r l} : ρ.lookup n = some r → sc.lookup n = some .free → RcFit ρ sc l → RcFit ρ sc ((n, r) :: l)
theorem RcFit.at {sc : List (Str × NameKind)} : ∀ {l : List (Str × V)} {n : Str} {r : V}, RcFit ρ sc l → l.lookup n = some r → ρ.lookup n = some r ∧ sc.lookup n = some .free
  | _, _, _, .nil, e => by cases e
  | _, n, r, .cons (n := m) (l := l) a b z, e => by
    rw [List.lookup_cons] at e
    cases hb : n == m with
    | true => rw [hb] at e; cases e; rw [eq_of_beq hb]; exact ⟨a, b⟩
    | false => rw [hb] at e; exact RcFit.at (l := l) z e
theorem compSt {h h' : Heap} {C : Addr} {scope : Scope} {cl : List (Str × Addr)} {ρc : List (Str × V)} {m : Str → Option Value} (S : St env T g ρ h) (e : Ext h h') (hCs : 398 ≤ C)
    (hk : scope.kind = .function) (hcl : ClFit env cl) (hsc : ScFit env cl scope.names) (hρ : RcFit ρ scope.names ρc) (hn : h'.Ns C m) : St (compEnvC scope cl C env) (T.add C) g ρc h' := by
  have S' := S.ext e
  have nq := ns_nonseq hn
  have up : ∀ {v r}, Vr T h' v r → Vr (T.add C) h' v r := fun z => z.offObj nq
  refine ⟨hk, S'.pers.more fun b hb => .tail _ hb, fun b hb => ?_, fun b hb => ?_, .head _, fun y c q => .tail _ (S.memC _ _ (hcl.sub q)), fun y z c q q' => S.inj _ _ _ (hcl.sub q) (hcl.sub q'), ⟨m, hn, fun y r' q l => ?_⟩, fun y ky => ?_⟩
  · rcases Tr.has_add.mp hb with rfl | hb
    · obtain ⟨o, _, _, ho, _⟩ := hn; exact ⟨o, ho⟩
    · exact S'.live b hb
  · rcases Tr.has_add.mp hb with rfl | hb
    · exact hCs
    · exact S.high b hb
  · have a := (hρ.at q).2
    have b := relabel_local l
    rw [a] at b; cases b
  · obtain ⟨c, hc, hcell⟩ := hsc.at S.kind ky
    obtain ⟨c', w', a, b, z⟩ := S'.cl y hcell
    have : c' = c := Option.some.inj (a.symm.trans (hcl.sub hc))
    subst this
    refine ⟨c', w', hc, b, fun r' q => ?_⟩
    obtain ⟨u, a', b'⟩ := z r' (hρ.at q).1
    exact ⟨u, a', up b'⟩

theorem compLoop_tests {R : Result → Shared → Prop} {s : Shared} {elt target iter : Expr} {ifs : List Expr} {scope : Scope} {pos : Pos} {it acc : Value} (I : Nat → Shared → Prop)
    (turn : ∀ n s, I n s → wpAny (model prog w) A (pyNext it) (fun r s₁ => match r with
      | none => R (.ok .next) s₁
      | some v => wpAny (model prog w) A (letOwnedTupleGo target it v) (fun _ s₁' => wpAny (model prog w) A (assign target env v) (fun _ s₂ =>
          wpAny (model prog w) A (forIn ifs true fun c r => if r = true then do let ok ← isTrue c env (eval c env); pure (ForInStep.yield ok) else pure (ForInStep.yield r)) (fun ok s₃ =>
            if ok = true then wpAny (model prog w) A (eval elt env) (fun x s₄ =>
              wpAny (model prog w) A (call (.builtin "list.append") [acc, x]) (fun _ s₅ => ∃ m, m < n ∧ I m s₅) (notedBy (model prog w) A env fun e s' => R (.error e) s') s₄) (notedBy (model prog w) A env fun e s' => R (.error e) s') s₃
            else ∃ m, m < n ∧ I m s₃) (notedBy (model prog w) A env fun e s' => R (.error e) s') s₂) (notedBy (model prog w) A env fun e s' => R (.error e) s') s₁') (notedBy (model prog w) A env fun e s' => R (.error e) s') s₁) (notedBy (model prog w) A env fun e s' => R (.error e) s') s)
    (n : Nat) (h : I n s) :
    codeAny (model prog w) A (.compLoop (.ListComp elt [⟨target, iter, ifs, 0⟩] scope pos) 0 it acc env) R s := by
  refine codeAny_loop rfl I (fun n s hI => ?_) n h
  show wpAny _ A ((compTurn (.ListComp elt [⟨target, iter, ifs, 0⟩] scope pos) 0 it acc env).onRaise (fun x => do noteFrame x env; theTreesLotGoes x)) _ _ s
  refine wpAny_noted ?_
  rw [compTurn_list]
  refine wpAny_bind (wpAny_standAt (wpAny_bind (wpAny_mono (turn n s hI) (fun r s₁ h₁ => ?_) fun _ _ h' => h')))
  cases r with
  | none => exact wpAny_pure h₁
  | some v =>
    refine wpAny_bind (wpAny_mono h₁ (fun _ s₁' h₁' => ?_) fun _ _ h' => h')
    refine wpAny_bind (wpAny_mono h₁' (fun _ s₂ h₂ => wpAny_bind (wpAny_mono h₂ (fun ok s₃ h₃ => ?_) fun _ _ h' => h')) fun _ _ h' => h')
    cases ok with
    | false => exact wpAny_pure ⟨rfl, h₃⟩
    | true =>
      exact wpAny_bind (wpAny_bind (wpAny_mono h₃ (fun x s₄ h₄ => wpAny_bind (wpAny_mono h₄ (fun _ s₅ h₅ => wpAny_pure (wpAny_pure ⟨rfl, h₅⟩)) fun _ _ h' => h')) fun _ _ h' => h'))

/-- a list comprehension with at most one test, and what is done with its list -/
theorem comp_core {use : Option (Value → Sem Unit)} {s : Shared} {Q E : Value → Shared → Prop} {α : Type} {elt iter target : Expr} {ifs : List Expr} {scope : Scope} {pos : Pos} {cl : List (Str × Addr)} {ρc : List (Str × V)} {fx : Bool} {xs : List α} {rep : α → PyData} (add : α → List (Str × V)) (p : α → Bool) (q : α → PyData)
    (hit : EvIt prog w A env T g ρ iter fx xs rep) (hclos : closureFor scope env = pure cl) (hk : scope.kind = .function) (hcl : ClFit env cl) (hsc : ScFit env cl scope.names) (hρ : RcFit ρ scope.names ρc)
    (hnames : ∀ y ∈ scope.names, y.2 = .local → scope.names.lookup y.1 = some .local)
    (htgt : ∀ C D a, a ∈ xs → Tgt (model prog w) A (compEnvC scope cl C env) ((T.add D).add C) g ρc target true (rep a) (add a))
    (htest : ∀ C D a, a ∈ xs → (ifs = [] ∧ p a = true) ∨ ∃ c, ifs = [c] ∧ EvB (model prog w) A (compEnvC scope cl C env) ((T.add D).add C) g (add a ++ ρc) c (p a))
    (helt : ∀ C D a, a ∈ xs → p a = true → Ev (model prog w) A (compEnvC scope cl C env) ((T.add D).add C) g (add a ++ ρc) elt (.d (q a)))
    (hsz : xs.length ≤ sizeLine) (hs : ∀ x, foldedSetIterable iter env x = pure x) (S : St env T g ρ s.heap)
    (fin : ∀ C D h3 tk3 m, Ext s.heap h3 → s.heap.get? C = none → h3.Ns C m → Rd T h3 (.ref D) (.list ((xs.filter p).map q)) → compPost (model prog w) A E use Q (.ref D) C (.ok .next) { s with heap := h3, toks := tk3 }) {cpos : Pos} :
    wpAny (model prog w) A (comprehension (.ListComp elt [⟨target, iter, ifs, 0⟩] scope pos) scope env cpos (newList []) false (eval iter env) use) Q E s := by
  refine wpAny_comprehension_free rfl hs hclos hk hnames (hit s _ _ S fun h0 h' tk I fp P Stt W e0 e1 hI st0 hns hfp _ hrep => ?_)
  refine wpAny_newObj_type (wpAny_newFunctionEnv hsc.noCell (by intro y hy; simp at hy) (fun h₁ hns₁ hsb₁ => ?_) hk)
  dsimp only at hns₁ hsb₁ ⊢
  generalize hH2 : h'.push { cls := .type "list", dict := none, data := .seq ([] : List Value).toArray } = H2 at hns₁ hsb₁ ⊢
  have hC : H2.objs.size = h'.objs.size + 1 := by rw [← hH2, Heap.size_push]
  have hDC : h'.objs.size ≠ H2.objs.size := by rw [hC]; exact Nat.ne_of_lt (Nat.lt_succ_self _)
  have old : Ext h' h₁ := fun b o e => hsb₁.extBut b o (by rw [hC]; exact Nat.ne_of_lt (Nat.lt_succ_of_lt (Heap.lt_size e))) (Heap.get?_push_of_some _ (hH2 ▸ Heap.get?_push_of_some _ e))
  have hacc : h₁.PlainList h'.objs.size #[] := ⟨_, hsb₁.extBut _ _ hDC (Heap.get?_push_of_some _ (hH2 ▸ Heap.get?_push_size _ rfl))⟩
  have hCn : h'.get? H2.objs.size = none := Heap.get?_none_of_le (by rw [hC]; exact Nat.le_succ _)
  have hDn : h'.get? h'.objs.size = none := Heap.get?_none_of_le (Nat.le_refl _)
  have sn : ∀ b, h'.get? b = none → h0.get? b = none := fun b hb => by
    cases z : h0.get? b with
    | none => rfl
    | some o => have := e1 _ _ z; rw [hb] at this; cases this
  have hIC : I ≠ H2.objs.size := by
    rintro rfl
    obtain ⟨o, ho, _⟩ := hns 0 h' st0
    rw [hCn] at ho; cases ho
  have hID : I ≠ h'.objs.size := by
    intro z
    obtain ⟨o, ho, _⟩ := hns 0 h' st0
    rw [z, hDn] at ho; cases ho
  have hCf : H2.objs.size ∉ fp := fun hm => by obtain ⟨o, ho⟩ := hfp _ hm; rw [hCn] at ho; cases ho
  have hDf : h'.objs.size ∉ fp := fun hm => by obtain ⟨o, ho⟩ := hfp _ hm; rw [hDn] at ho; cases ho
  have hCbig : 398 ≤ H2.objs.size := by
    obtain ⟨o, ho⟩ := S.live _ (.inl S.memL)
    have a := S.high _ (.inl S.memL)
    have b := Heap.lt_size (e1 _ _ (e0 _ _ ho))
    rw [hC]
    exact Nat.le_succ_of_le (Nat.le_of_lt (Nat.lt_of_le_of_lt a b))
  have loop : codeAny (model prog w) A (.compLoop (.ListComp elt [⟨target, iter, ifs, 0⟩] scope pos) 0 (.ref I) (.ref h'.objs.size) (compEnvC scope cl H2.objs.size env))
        (compPost (model prog w) A E use Q (.ref h'.objs.size) H2.objs.size) { s with heap := h₁, toks := tk + ([] : List (Str × Value)).length } := by
    refine compLoop_tests
      (fun n s' => ∃ h2 tk2 m ys i, s' = { s with heap := h2, toks := tk2 } ∧ Stt i h2 ∧ h2.PlainList h'.objs.size ys ∧ h2.Ns H2.objs.size m ∧ Rds (T.add h'.objs.size) h2 ys.toList (((xs.take i).filter p).map q) ∧ i ≤ xs.length ∧ n = xs.length + 1 - i ∧
        Ext h0 h2) ?_ (xs.length + 1)
      ⟨h₁, _, _, #[], 0, rfl, W.frame _ _ _ st0 fun b _ o e => old b o e, hacc, hns₁, by simpa using Rds.nil, Nat.zero_le _, rfl, e1.trans old⟩
    rintro n s' ⟨h2, tk2, m, ys, i, rfl, hst, hpl, hnC, hys, hi, rfl, e2⟩
    have hnI : NonSeq h2 I := (hns _ _ hst).non
    by_cases hlt : i < xs.length
    · refine W.item i _ _ _ hlt hst fun v h3 tk3 hP hst3 hk3 => ?_
      have p3 : Pers [I] h2 h3 := hk3
      have hn3 : h3.Ns H2.objs.size m := hnC.at' fun o e => hk3 _ o (fun z => hIC (List.mem_singleton.mp z).symm) e
      have hCs : h0.get? H2.objs.size = none := sn _ hCn
      have hDs : h0.get? h'.objs.size = none := sn _ hDn
      have e3 : Ext h0 h3 := fun b o e => p3 b o (fun z => by rw [List.mem_singleton.mp z, hI] at e; cases e) (e2 b o e)
      have hxi : xs[i]? = some xs[i] := List.getElem?_eq_getElem hlt
      have hmem : xs[i] ∈ xs := List.getElem_mem hlt
      have hDbig : 398 ≤ h'.objs.size := by
        obtain ⟨o, ho⟩ := S.live _ (.inl S.memL)
        exact Nat.le_of_lt (Nat.lt_of_le_of_lt (S.high _ (.inl S.memL)) (Heap.lt_size (e1 _ _ (e0 _ _ ho))))
      have hpl3 : h3.PlainList h'.objs.size ys := hpl.at fun o e => p3 _ o (fun z => hID (List.mem_singleton.mp z).symm) e
      have SD : St env (T.add h'.objs.size) g ρ h3 := St.grow (S.ext e0) e3 hDs (by obtain ⟨n, ho⟩ := hpl3; exact ⟨_, ho⟩) hDbig
      have S3 : St (compEnvC scope cl H2.objs.size env) ((T.add h'.objs.size).add H2.objs.size) g ρc h3 := compSt SD .refl hCbig hk hcl hsc hρ hn3
      have nq3 : NonSeq h3 H2.objs.size := ns_nonseq hn3
      have hv3 : Rd ((T.add h'.objs.size).add H2.objs.size) h3 v (rep xs[i]) := Rd.offObj nq3 (Rd.pers e3.pers (Rd.off hDs (hrep i v _ hxi hP)))
      refine (hns _ _ hst3).go ?_
      refine htgt _ _ _ hmem _ _ _ _ S3 hv3 fun h4 tk4 S4 pl4 => ?_
      have p4 : Pers [H2.objs.size] h3 h4 := pl4 rfl
      have e4 : Ext h0 h4 := fun b o e => p4 b o (fun z => by rw [List.mem_singleton.mp z, hCs] at e; cases e) (e3 b o e)
      have hst4 : Stt (i + 1) h4 := W.frame _ _ _ hst3 fun b hb o e => p4 b o (fun z => hCf (List.mem_singleton.mp z ▸ hb)) e
      have hpl4 : h4.PlainList h'.objs.size ys := hpl3.at fun o e => p4 _ o (fun z => hDC (List.mem_singleton.mp z)) e
      obtain ⟨m4, hn4, _⟩ := S4.ns
      have hn4 : h4.Ns H2.objs.size m4 := hn4
      have hys4 : Rds (T.add h'.objs.size) h4 ys.toList (((xs.take i).filter p).map q) := Rds.bump nq3 p4 (Rds.bump hnI p3 hys)
      have htake : xs.take (i + 1) = xs.take i ++ [xs[i]] := by rw [List.take_add_one, hxi]; rfl
      have tests : wpAny (model prog w) A (forIn ifs true fun c r => if r = true then do let ok ← isTrue c (compEnvC scope cl H2.objs.size env) (eval c (compEnvC scope cl H2.objs.size env)); pure (ForInStep.yield ok) else pure (ForInStep.yield r))
          (fun ok s5 => ok = p xs[i] ∧ ∃ h5 tk5, s5 = { s with heap := h5, toks := tk5 } ∧ Ext h4 h5) (notedBy (model prog w) A (compEnvC scope cl H2.objs.size env) fun e s' => compPost (model prog w) A E use Q (.ref h'.objs.size) H2.objs.size (.error e) s') { s with heap := h4, toks := tk4 } := by
        rcases htest H2.objs.size h'.objs.size _ hmem with ⟨rfl, hp⟩ | ⟨c, rfl, hc⟩
        · exact wpAny_tests_nil ⟨hp.symm, h4, _, rfl, .refl⟩
        · exact wpAny_tests_one (hc _ _ _ S4 fun h5 tk5 e5 => ⟨rfl, h5, tk5, rfl, e5⟩)
      refine wpAny_mono tests (fun ok s5 h5 => ?_) fun _ _ e => e
      obtain ⟨rfl, h5, tk5, rfl, e5⟩ := h5
      have hys5 := Rds.pers e5.pers hys4
      cases hp : p xs[i] with
      | false =>
        rw [if_neg Bool.false_ne_true]
        refine ⟨xs.length + 1 - (i + 1), by omega, h5, tk5, _, ys, i + 1, rfl, W.frame _ _ _ hst4 fun b _ o e => e5 b o e, hpl4.at fun o e => e5 _ o e, Ns.ext e5 hn4, ?_, hlt, rfl, e4.trans e5⟩
        rw [htake, List.filter_append]
        simpa [hp] using hys5
      | true =>
        rw [if_pos rfl]
        refine helt H2.objs.size h'.objs.size _ hmem hp _ _ _ (S4.ext e5) fun h6 tk6 y e6 hy => ?_
        have hpl6 : h6.PlainList h'.objs.size ys := (hpl4.at fun o e => e5 _ o e).at fun o e => e6 _ o e
        have hys6 := Rds.pers e6.pers hys5
        have hsy : ys.size ≤ sizeLine := by
          have a := hys6.length
          rw [List.length_map, Array.length_toList] at a
          have b := List.length_filter_le p (xs.take i)
          rw [List.length_take] at b
          omega
        refine wpAny_list_append_plain (hsz := hsy) hpl6 fun h7 hl7 hs7 => ?_
        have p7 : Pers [h'.objs.size] h6 h7 := sameBut_pers hs7
        have e7 : Ext h0 h7 := fun b o e => p7 b o (fun z => by rw [List.mem_singleton.mp z, hDs] at e; cases e) (e6 _ _ (e5 _ _ (e4 _ _ e)))
        have hys7 : Rds (T.add h'.objs.size) h7 (ys.push y).toList (((xs.take (i + 1)).filter p).map q) := by
          rw [htake, List.filter_append, List.map_append, Array.toList_push]
          refine Rds.pers (p7.more fun b hb => List.mem_singleton.mp hb ▸ .head _) (Rds.append hys6 ?_)
          simpa [hp] using Rds.one (Rd.less (fun a ha => Tr.has_add.mpr (.inr ha)) hy)
        exact ⟨xs.length + 1 - (i + 1), by omega, h7, tk6, _, ys.push y, i + 1, rfl, W.frame _ _ _ hst4 fun b hb o e => p7 _ o (fun z => hDf (List.mem_singleton.mp z ▸ hb)) (e6 _ _ (e5 b o e)), hl7,
          (Ns.ext e6 (Ns.ext e5 hn4)).at' fun o e => p7 _ o (fun z => hDC (List.mem_singleton.mp z).symm) e, hys7, hlt, rfl, e7⟩
    · have hie : i = xs.length := by omega
      subst hie
      refine W.done _ _ _ hst fun h3 tk3 hk3 => ?_
      have p3 : Pers [I] h2 h3 := hk3
      have hn3 : h3.Ns H2.objs.size m := hnC.at' fun o e => hk3 _ o (fun z => hIC (List.mem_singleton.mp z).symm) e
      have nq3 : NonSeq h3 H2.objs.size := ns_nonseq hn3
      have hCs : h0.get? H2.objs.size = none := sn _ hCn
      have hDs : h0.get? h'.objs.size = none := sn _ hDn
      have e3 : Ext h0 h3 := fun b o e => p3 b o (fun z => by rw [List.mem_singleton.mp z, hI] at e; cases e) (e2 b o e)
      have hpl3 : h3.PlainList h'.objs.size ys := hpl.at fun o e => p3 _ o (fun z => hID (List.mem_singleton.mp z).symm) e
      have hys3 : Rds (T.add h'.objs.size) h3 ys.toList ((xs.filter p).map q) := by
        have := Rds.bump hnI p3 hys
        rwa [List.take_length] at this
      have hCs' : s.heap.get? H2.objs.size = none := by
        cases z : s.heap.get? H2.objs.size with
        | none => rfl
        | some o => have := e0 _ _ z; rw [hCs] at this; cases this
      exact fin _ _ _ _ _ (e0.trans e3) hCs' hn3 (Rd.list ((S.ext e0).off hDs) hpl3 (Rds.less (fun a ha => Tr.has_add.mpr (.inr ha)) hys3))
  exact codeAny_compStart_list loop (W.self 0 _ _ _ (W.frame _ _ _ st0 fun b _ o e => old b o e) loop)
/-- a list comprehension with at most one test -/
theorem EvP.comp {α : Type} {elt iter target : Expr} {ifs : List Expr} {scope : Scope} {pos : Pos} {cl : List (Str × Addr)} {ρc : List (Str × V)} {fx : Bool} {xs : List α} {rep : α → PyData} (add : α → List (Str × V)) (p : α → Bool) (q : α → PyData)
    (hit : EvIt prog w A env T g ρ iter fx xs rep) (hclos : closureFor scope env = pure cl) (hk : scope.kind = .function) (hcl : ClFit env cl) (hsc : ScFit env cl scope.names) (hρ : RcFit ρ scope.names ρc)
    (hnames : ∀ y ∈ scope.names, y.2 = .local → scope.names.lookup y.1 = some .local)
    (htgt : ∀ C D a, a ∈ xs → Tgt (model prog w) A (compEnvC scope cl C env) ((T.add D).add C) g ρc target true (rep a) (add a))
    (htest : ∀ C D a, a ∈ xs → (ifs = [] ∧ p a = true) ∨ ∃ c, ifs = [c] ∧ EvB (model prog w) A (compEnvC scope cl C env) ((T.add D).add C) g (add a ++ ρc) c (p a))
    (helt : ∀ C D a, a ∈ xs → p a = true → Ev (model prog w) A (compEnvC scope cl C env) ((T.add D).add C) g (add a ++ ρc) elt (.d (q a)))
    (hsz : xs.length ≤ sizeLine) (hs : ∀ x, foldedSetIterable iter env x = pure x := by intro _; rfl) :
    Ev (model prog w) A env T g ρ (.ListComp elt [⟨target, iter, ifs, 0⟩] scope pos) (.d (.list ((xs.filter p).map q))) := by
  intro s Q E S k
  rw [eval_ListComp]
  refine comp_core (use := none) add p q hit hclos hk hcl hsc hρ hnames htgt htest helt hsz hs S fun C D h3 tk3 m e3 hC hn hr => ?_
  refine ⟨m, hn, fun h4 hs4 => ?_⟩
  have p4 : Pers [C] h3 h4 := sameBut_pers hs4
  exact k h4 tk3 _ (fun b o e => p4 b o (fun z => by rw [List.mem_singleton.mp z, hC] at e; cases e) (e3 b o e)) (Rd.bump (ns_nonseq hn) p4 hr)
/-- x = [..], where the list is stored ahead of the comprehension's end -/
theorem X.assignComp {α : Type} {elt iter target : Expr} {ifs : List Expr} {scope : Scope} {pos : Pos} {cl : List (Str × Addr)} {ρc : List (Str × V)} {fx : Bool} {xs : List α} {rep : α → PyData} {s : Shared} {Q : Flow → Shared → Prop} {E : Value → Shared → Prop} {rest : List Stmt} {x : Str} {px spos : Pos} (S : St env T g ρ s.heap) (add : α → List (Str × V)) (p : α → Bool) (q : α → PyData)
    (hit : EvIt prog w A env T g ρ iter fx xs rep) (hclos : closureFor scope env = pure cl) (hk : scope.kind = .function) (hcl : ClFit env cl) (hsc : ScFit env cl scope.names) (hρ : RcFit ρ scope.names ρc)
    (hnames : ∀ y ∈ scope.names, y.2 = .local → scope.names.lookup y.1 = some .local)
    (htgt : ∀ C D a, a ∈ xs → Tgt (model prog w) A (compEnvC scope cl C env) ((T.add D).add C) g ρc target true (rep a) (add a))
    (htest : ∀ C D a, a ∈ xs → (ifs = [] ∧ p a = true) ∨ ∃ c, ifs = [c] ∧ EvB (model prog w) A (compEnvC scope cl C env) ((T.add D).add C) g (add a ++ ρc) c (p a))
    (helt : ∀ C D a, a ∈ xs → p a = true → Ev (model prog w) A (compEnvC scope cl C env) ((T.add D).add C) g (add a ++ ρc) elt (.d (q a)))
    (hsz : xs.length ≤ sizeLine)
    (k : ∀ h' tk, St env T g ((x, .d (.list ((xs.filter p).map q))) :: ρ) h' → wpAny (model prog w) A (execs rest env) Q E { s with heap := h', toks := tk })
    (hx : env.kindOf x = some .local) (hsw : swapsWith (.ListComp elt [⟨target, iter, ifs, 0⟩] scope pos) (some (.Name x px)) spos.line env = pure true)
    (hs : ∀ x, foldedSetIterable iter env x = pure x := by intro _; rfl) :
    wpAny (model prog w) A (execs (.Assign [.Name x px] (.ListComp elt [⟨target, iter, ifs, 0⟩] scope pos) spos :: rest) env) Q E s := by
  refine X.cons ?_
  rw [exec_Assign_Name_used _ _ _ _ hsw]
  refine wpAny_bind (wpAny_standAt (wpAny_bind ?_))
  show wpAny _ A (do let _ ← comprehension (.ListComp elt [⟨target, iter, ifs, 0⟩] scope pos) scope env _ (newList []) false (eval iter env) (some (PySem.assign (.Name x px) env))) _ _ s
  refine wpAny_bind (wpAny_mono (comp_core (use := some (PySem.assign (.Name x px) env)) (Q := fun _ s' => Then (model prog w) A env rest Q E .next s') add p q hit hclos hk hcl hsc hρ hnames htgt htest helt hsz hs S fun C D h3 tk3 m e3 hC hn hr => ?_) (fun _ s' hq => wpAny_pure (wpAny_pure hq)) fun _ _ e => e)
  have S3 := S.ext e3
  refine wpAny_assign_Name (store_l (r := .d _) S3 hx hr fun h4 tk4 S4 p4 => ?_)
  have hCL : C ≠ env.locals := by
    rintro rfl
    obtain ⟨o, ho⟩ := S.live _ (.inl S.memL)
    rw [hC] at ho; cases ho
  have hn4 : h4.Ns C m := hn.at' fun o e => p4 _ o (fun z => hCL (List.mem_singleton.mp z)) e
  refine ⟨m, hn4, fun h5 hs5 => k h5 tk4 (S4.bump (ns_nonseq hn4) (S.off hC) (S.gnone hC) (sameBut_pers hs5))⟩
end
end Tc
namespace Tc
open PySem PySem.Calls PyProof.Rows PySem.W

/-- room for n calls more -/
structure Fine (A : Around) (n : Nat) : Prop where
  dep : A.depth + n < recursionLimit
  han : A.handled = none
  uni : A.units + 64 + 3 * n < cLine
theorem Fine.less {A : Around} {n m : Nat} (F : Fine A n) (h : m ≤ n) : Fine A m := ⟨by have := F.dep; omega, F.han, by have := F.uni; omega⟩
theorem Fine.in_ {A : Around} {n : Nat} (F : Fine A (n + 1)) (env : Env) : Fine (A.deeper env) n := ⟨by have := F.dep; rw [depth_deeper]; omega, F.han, by have := F.uni; rw [units_deeper]; omega⟩
theorem Fine.go {A : Around} {n : Nat} (F : Fine A n) : A.depth < recursionLimit := by have := F.dep; omega
theorem Fine.room {A : Around} {n : Nat} (F : Fine A n) : A.units + 64 < cLine := by have := F.uni; omega

section
variable {prog : Program} {w : World} {A : Around} {env : Env} {T : Tr} {g : Heap} {ρ : List (Str × V)}

theorem Rd.isTup {h : Heap} {v : Value} {ds : List PyData} (x : Rd T h v (.tuple ds)) : ∃ a vs, v = .ref a ∧ T.off a ∧ h.IsTuple a vs ∧ Rds T h vs.toList ds := by
  cases x with | tuple n x r => exact ⟨_, _, rfl, n, x, r⟩
/-- targets in order -/
noncomputable def TgtL (M : Model) (A : Around) (env : Env) (T : Tr) (g : Heap) (ρ : List (Str × V)) (fs : List (Value → Sem Unit)) (ds : List PyData) (add : List (Str × V)) : Prop :=
  ∀ (s : Shared) (vs : List Value) (Q : Unit → Shared → Prop) (E : Value → Shared → Prop), St env T g ρ s.heap → Rds T s.heap vs ds →
    (∀ h' tk, St env T g (add ++ ρ) h' → Pers [env.locals] s.heap h' → Q () { s with heap := h', toks := tk }) → wpAny M A (assignInOrder fs vs) Q E s
theorem TgtL.nil {M : Model} : TgtL M A env T g ρ [] [] [] := by
  intro s vs Q E S r k
  cases r
  exact assignInOrder_nil (k s.heap s.toks S .refl)
theorem TgtL.cons {M : Model} {x : Str} {p : Pos} {fs : List (Value → Sem Unit)} {ds : List PyData} {d : PyData} {add : List (Str × V)} (y : TgtL M A env T g ((x, .d d) :: ρ) fs ds add) (hx : env.kindOf x = some .local := by rfl) :
    TgtL M A env T g ρ (assign (.Name x p) env :: fs) (d :: ds) (add ++ [(x, .d d)]) := by
  intro s vs Q E S r k
  cases r with
  | cons a b =>
    refine assignInOrder_cons (wpAny_assign_Name (store_l (r := .d d) S hx a fun h' tk S' p => ?_))
    obtain ⟨m, hm, _⟩ := S.ns
    refine y _ _ _ _ S' (Rds.bump (ns_nonseq hm) p b) fun h2 tk2 S2 p2 => k h2 tk2 (by rw [List.append_assoc]; exact S2) (p.trans p2)
theorem Tgt.tuple {lo : Bool} {elts : List Expr} {k : Nat} {p : Pos} {ds : List PyData} {add : List (Str × V)} (hA : A.handled = none) (y : TgtL (model prog w) A env T g ρ ((assignEach elts env).map (·.2)) ds add)
    (hn : (assignEach elts env).length = ds.length := by rfl) (hstar : (assignEach elts env).findIdx? (·.1) = none := by rfl) : Tgt (model prog w) A env T g ρ (.Tuple elts k p) lo (.tuple ds) add := by
  intro s v Q E S r q
  obtain ⟨a, vs, rfl, _, ht, hds⟩ := r.isTup
  have hl : ds.length = vs.size := by have := hds.length; rw [Array.length_toList] at this; exact this.symm
  refine assign_Tuple_tuple hA ht (hn.trans hl) hstar fun h' e => ?_
  have e' : Ext s.heap h' := fun b o x => e b o (Nat.ne_of_lt (Heap.lt_size x)) x
  exact y _ _ _ _ (S.ext e') (Rds.pers e'.pers hds) fun h2 tk2 S2 p2 => q h2 tk2 S2 fun _ => e'.pers.trans p2

theorem St.it {h h' : Heap} {t : Addr} (S : St env T g ρ h) (nq : NonSeq h t) (nt : T.off t) (hg : g.get? t = none) (p : Pers [t] h h') : St env T g ρ h' := S.bump nq nt hg p

/-- for: R i holds of the names ahead of turn i, B where it breaks off -/
theorem X.forG {α : Type} {s : Shared} {Q : Flow → Shared → Prop} {target iter : Expr} {body rest : List Stmt} {pos : Pos} {xs : List α} {rep : α → PyData} (R : Nat → List (Str × V) → Prop) (B : List (Str × V) → Prop) (S : St env T g ρ s.heap) (h0 : R 0 ρ)
    (hit : EvIt prog w A env T g ρ iter true xs rep)
    (turn : ∀ (i : Nat) (hi : i < xs.length) ρ' g', R i ρ' → Pers T.m g g' → St env T g' ρ' g' → 
      ∃ add, (Tgt (model prog w) A env T g' ρ' target false (rep xs[i]) add) ∧
      ∀ h' tk, St env T g' (add ++ ρ') h' → wpAny (model prog w) A (execs body env) (fun f s3 => match f with
        | .next | .cont => ∃ h3 tk3 ρ3, s3 = { s with heap := h3, toks := tk3 } ∧ St env T g' ρ3 h3 ∧ R (i + 1) ρ3
        | .brk => ∃ h3 tk3 ρ3, s3 = { s with heap := h3, toks := tk3 } ∧ St env T g' ρ3 h3 ∧ B ρ3
        | .ret v => Q (.ret v) s3) NoE { s with heap := h', toks := tk })
    (done : ∀ ρ' h' tk, (R xs.length ρ' ∨ B ρ') → St env T g ρ' h' → wpAny (model prog w) A (execs rest env) Q NoE { s with heap := h', toks := tk })
    (hs : ∀ x, foldedSetIterable iter env x = pure x := by intro _; rfl) :
    wpAny (model prog w) A (execs (.For target iter body [] pos :: rest) env) Q NoE s := by
  refine X.cons (wpAny_For (hit s _ _ S fun h0' h' tk I fp P Stt W e0 e1 hI st0 hns hfp hfx hrep => ?_) hs)
  have hgI : g.get? I = none := (S.ext e0).gnone hI
  have hIT : T.off I := (S.ext e0).off hI
  refine codeAny_forLoop_any (fun n s' => ∃ h2 tk2 ρ' i, s' = { s with heap := h2, toks := tk2 } ∧ Stt i h2 ∧ R i ρ' ∧ St env T g ρ' h2 ∧ Pers (I :: T.m) h0' h2 ∧ i ≤ xs.length ∧ n = xs.length - i) ?_ xs.length ⟨h', tk, ρ, 0, rfl, st0, h0, (S.ext e0).ext e1, e1.pers, Nat.zero_le _, rfl⟩
  rintro n s' ⟨h2, tk2, ρ', i, rfl, hst, hR, S2, p2, hi, rfl⟩
  by_cases hlt : i < xs.length
  · refine W.item i _ _ _ hlt hst fun v h3 tk3 hP hst3 hk3 => ?_
    have p3 : Pers [I] h2 h3 := hk3
    have S3 : St env T g ρ' h3 := S2.it (hns _ _ hst).non hIT hgI p3
    have p3' : Pers (I :: T.m) h0' h3 := p2.trans (p3.more fun b hb => List.mem_singleton.mp hb ▸ .head _)
    have hv : Rd T h3 v (rep xs[i]) := Rd.less (fun a ha => Tr.has_add.mpr (.inr ha)) (Rd.pers (T := T.add I) p3' (Rd.off hI (hrep i v _ (List.getElem?_eq_getElem hlt) hP)))
    refine (hns _ _ hst3).go ?_
    obtain ⟨add, ht, hb⟩ := turn i hlt ρ' h3 hR S3.pers S3.rebase
    refine ht _ _ _ _ S3.rebase hv fun h4 tk4 S4 _ => ?_
    refine wpAny_mono (hb h4 tk4 S4) (fun f s5 h5 => ?_) fun _ _ z => z.elim
    cases f with
    | next =>
      obtain ⟨h5, tk5, ρ5, rfl, S5, R5⟩ := h5
      exact ⟨xs.length - (i + 1), by omega, h5, tk5, ρ5, i + 1, rfl, W.frame _ _ _ hst3 (fun b hb o e => S5.pers b o (hfx rfl b hb) e), R5, S5.base S3.pers, p3'.trans (S5.pers.more fun b hb => .tail _ hb), hlt, rfl⟩
    | cont =>
      obtain ⟨h5, tk5, ρ5, rfl, S5, R5⟩ := h5
      exact ⟨xs.length - (i + 1), by omega, h5, tk5, ρ5, i + 1, rfl, W.frame _ _ _ hst3 (fun b hb o e => S5.pers b o (hfx rfl b hb) e), R5, S5.base S3.pers, p3'.trans (S5.pers.more fun b hb => .tail _ hb), hlt, rfl⟩
    | brk =>
      obtain ⟨h5, tk5, ρ5, rfl, S5, B5⟩ := h5
      exact done ρ5 h5 tk5 (.inr B5) (S5.base S3.pers)
    | ret v => exact h5
  · have hie : i = xs.length := by omega
    subst hie
    refine W.done _ _ _ hst fun h3 tk3 hk3 => ?_
    exact wpAny_execs_nil (done ρ' h3 tk3 (.inl hR) (S2.it (hns _ _ hst).non hIT hgI hk3))
end
end Tc
namespace Tc
open PySem PySem.Calls PyProof.Rows PySem.W

noncomputable def Fit (ρ : List (Str × V)) : List (Str × V) → Prop
  | [] => True
  | (n, r) :: l => ρ.lookup n = some r ∧ Fit ρ l
theorem Fit.at {ρ : List (Str × V)} : ∀ {l : List (Str × V)}, Fit ρ l → ∀ x r, l.lookup x = some r → ρ.lookup x = some r
  | [], _, _, _, e => by cases e
  | (n, q) :: l, f, x, r, e => by
    rw [List.lookup_cons] at e
    cases hb : x == n with
    | true => rw [hb] at e; cases e; rw [eq_of_beq hb]; exact f.1
    | false => rw [hb] at e; exact Fit.at f.2 x r e
section
variable {prog : Program} {w : World} {A : Around} {env : Env} {T : Tr} {g : Heap} {ρ : List (Str × V)}
theorem St.fit {h : Heap} {l : List (Str × V)} (S : St env T g ρ h) (f : Fit ρ l) : St env T g l h := S.sub f.at
theorem Vrs.data {h : Heap} : ∀ {vs : List Value} {ds : List PyData}, Vrs T h vs (ds.map .d) → Rds T h vs ds
  | _, [], .nil => .nil
  | _, _ :: _, .cons x y => .cons x (Vrs.data y)
theorem St.big {h : Heap} (S : St env T g ρ h) : 398 ≤ h.objs.size := by
  obtain ⟨o, ho⟩ := S.live _ (.inl S.memL)
  exact Nat.le_of_lt (Nat.lt_of_le_of_lt (S.high _ (.inl S.memL)) (Heap.lt_size ho))

/-- a list made anew -/
noncomputable def EvN (M : Model) (A : Around) (env : Env) (T : Tr) (g : Heap) (ρ : List (Str × V)) (e : Expr) (ds : List PyData) : Prop :=
  ∀ (s : Shared) (Q E : Value → Shared → Prop), St env T g ρ s.heap → (∀ h' tk a vs, Ext s.heap h' → s.heap.get? a = none → 398 ≤ a → h'.PlainList a vs → Rds (T.add a) h' vs.toList ds → Q (.ref a) { s with heap := h', toks := tk }) → wpAny M A (eval e env) Q E s
theorem EvN.ev {M : Model} {e : Expr} {ds : List PyData} (x : EvN M A env T g ρ e ds) : Ev M A env T g ρ e (.d (.list ds)) :=
  fun s _ _ S q => x s _ _ S fun h' tk _ _ e n _ l r => q h' tk _ e (Rd.list (S.off n) l (Rds.less (fun _ ha => Tr.has_add.mpr (.inr ha)) r))
theorem newOk {h : Heap} {vs : List Value} {ds : List PyData} (o : Obj) (r : Rds T h vs ds) : Rds (T.add h.objs.size) (h.push o) vs ds := Rds.pers (Ext.push o).pers (Rds.off (Heap.get?_none_of_le (Nat.le_refl _)) r)
theorem none_of_ext {h h' : Heap} {b : Addr} (e : Ext h h') (n : h'.get? b = none) : h.get? b = none := by
  cases z : h.get? b with
  | none => rfl
  | some o => have := e _ _ z; rw [n] at this; cases this
theorem EvN.list {M : Model} {es : List Expr} {ds : List PyData} {p : Pos} (x : EvAs M A env T g ρ es (ds.map .d)) (hn : ds.length ≤ sizeLine := by decide) : EvN M A env T g ρ (.List es p) ds := by
  intro s Q E S q
  refine List_ (x p s _ _ S fun h1 t1 vs e1 p1 => ?_)
  have r := p1.data
  refine wpAny_newList ?_ (by rw [r.length]; exact hn)
  exact q _ t1 _ _ (e1.trans (Ext.push _)) (none_of_ext e1 (Heap.get?_none_of_le (Nat.le_refl _))) (S.ext e1).big ⟨_, Heap.get?_push_size _ rfl⟩ (newOk _ r)
theorem Ev.tuple {M : Model} {es : List Expr} {ds : List PyData} {k : Nat} {p : Pos} (x : EvAs M A env T g ρ es (ds.map .d)) (hn : ds.length ≤ sizeLine := by decide) : Ev M A env T g ρ (.Tuple es k p) (.d (.tuple ds)) := by
  intro s Q E S q
  refine Tuple_ (x p s _ _ S fun h1 t1 vs e1 p1 => ?_)
  have r := p1.data
  refine wpAny_newTuple ?_ (by rw [r.length]; exact hn)
  exact q _ t1 _ (e1.trans (Ext.push _)) (Rd.tuple ((S.ext e1).off (Heap.get?_none_of_le (Nat.le_refl _))) ⟨_, Heap.get?_push_size _ rfl, rfl, _, rfl⟩ (Rds.pers (Ext.push _).pers r))
/-- x = a new list that may turn -/
theorem X.assignOwn {M : Model} {s : Shared} {Q : Flow → Shared → Prop} {E : Value → Shared → Prop} {rest : List Stmt} {x : Str} {p pos : Pos} {e : Expr} {ds : List PyData} (S : St env T g ρ s.heap) (he : EvN M A env T g ρ e ds)
    (k : ∀ a h' tk, g.get? a = none → T.off a → St env (T.add a) g ((x, .o a ds) :: ρ) h' → wpAny M A (execs rest env) Q E { s with heap := h', toks := tk })
    (hx : env.kindOf x = some .local := by rfl) (hs : swapsWith e (some (.Name x p)) pos.line env = pure false := by rfl) : wpAny M A (execs (.Assign [.Name x p] e pos :: rest) env) Q E s := by
  refine X.cons (wpAny_Assign_Name (he s _ _ S fun h1 tk a vs e1 n big l r => ?_) hs)
  have S1 := S.grow e1 n (let ⟨_, ho⟩ := l; ⟨_, ho⟩) big
  exact store_l S1 hx (r := .o a ds) ⟨rfl, Tr.has_add.mpr (.inl rfl), vs, l, r⟩ fun h' tk' S' _ => k a h' tk' (S.gnone n) (S.off n) S'
/-- the same where a cell holds it -/
theorem X.assignOwnC {M : Model} {s : Shared} {Q : Flow → Shared → Prop} {E : Value → Shared → Prop} {rest : List Stmt} {x : Str} {p pos : Pos} {e : Expr} {ds : List PyData} (S : St env T g ρ s.heap) (he : EvN M A env T g ρ e ds)
    (k : ∀ a h' tk, g.get? a = none → T.off a → St env (T.add a) g ((x, .o a ds) :: ρ) h' → wpAny M A (execs rest env) Q E { s with heap := h', toks := tk })
    (hx : env.kindOf x = some .cell := by rfl) (hs : swapsWith e (some (.Name x p)) pos.line env = pure false := by rfl) : wpAny M A (execs (.Assign [.Name x p] e pos :: rest) env) Q E s := by
  refine X.cons (wpAny_Assign_Name (he s _ _ S fun h1 tk a vs e1 n big l r => ?_) hs)
  have S1 := S.grow e1 n (let ⟨_, ho⟩ := l; ⟨_, ho⟩) big
  exact store_c S1 hx (r := .o a ds) ⟨rfl, Tr.has_add.mpr (.inl rfl), vs, l, r⟩ fun h' tk' S' _ => k a h' tk' (S.gnone n) (S.off n) S'

theorem Vr.frozen {h : Heap} {v : Value} {r : V} {ds : List PyData} (x : Vr T h v r) (e : r.asList = some ds) : Rd noT h v (.list ds) := by
  obtain ⟨a, vs, rfl, hl, hd⟩ := x.list e
  exact Rd.list ⟨List.not_mem_nil, List.not_mem_nil⟩ hl (Rds.less (fun _ q => by rcases q with q | q <;> cases q) hd)
theorem Rds.take {h : Heap} : ∀ {vs : List Value} {ds : List PyData} (n : Nat), Rds T h vs ds → Rds T h (vs.take n) (ds.take n)
  | _, _, 0, _ => by rw [List.take_zero, List.take_zero]; exact .nil
  | _, _, n + 1, .nil => .nil
  | _, _, n + 1, .cons x y => .cons x (Rds.take n y)
theorem Rds.drop {h : Heap} : ∀ {vs : List Value} {ds : List PyData} (n : Nat), Rds T h vs ds → Rds T h (vs.drop n) (ds.drop n)
  | _, _, 0, r => r
  | _, _, n + 1, .nil => .nil
  | _, _, n + 1, .cons x y => Rds.drop n y
theorem Rds.rep {h : Heap} {vs : List Value} {ds : List PyData} (x : Rds T h vs ds) : ∀ n, Rds T h (List.replicate n vs).flatten (List.replicate n ds).flatten
  | 0 => .nil
  | n + 1 => by rw [List.replicate_succ, List.flatten_cons, List.replicate_succ, List.flatten_cons]; exact Rds.append x (Rds.rep x n)
/-- list + list -/
theorem EvN.add {a b : Expr} {ra rb : V} {p : Pos} {da db : List PyData} (ha : Ev (model prog w) A env T g ρ a ra) (hra : ra.asList = some da) (hb : Ev (model prog w) A env T g ρ b rb) (hrb : rb.asList = some db) (hsz : da.length + db.length ≤ sizeLine) : EvN (model prog w) A env T g ρ (.BinOp a .Add b p) (da ++ db) := by
  intro s Q E S q
  refine wpAny_BinOp (ha s _ _ S fun h1 t1 v1 e1 p1 => hb _ _ _ (S.ext e1) fun h2 t2 v2 e2 p2 => ?_)
  obtain ⟨x, xs, rfl, lx, rx⟩ := (p1.ext e2).list hra
  obtain ⟨y, ys, rfl, ly, ry⟩ := p2.list hrb
  obtain ⟨_, lx⟩ := lx
  obtain ⟨_, ly⟩ := ly
  have l1 := rx.length; have l2 := ry.length
  rw [Array.length_toList] at l1 l2
  refine PySem.P.add_list lx ly ?_ (by omega)
  refine q _ t2 _ (xs ++ ys) ((e1.trans e2).trans (Ext.push _)) (none_of_ext (e1.trans e2) (Heap.get?_none_of_le (Nat.le_refl _))) (S.ext (e1.trans e2)).big ⟨_, Heap.get?_push_size _ rfl⟩ ?_
  rw [Array.toList_append]
  exact newOk _ (Rds.append rx ry)
/-- list * int -/
theorem EvN.mul {a b : Expr} {ra : V} {p : Pos} {da : List PyData} {k : Int} (ha : Ev (model prog w) A env T g ρ a ra) (hra : ra.asList = some da) (hb : Ev (model prog w) A env T g ρ b (.d (.int k))) (hlo : -(2 ^ 63 : Int) ≤ k) (hhi : k < 2 ^ 63) (hsz : da.length * k.toNat ≤ 2 ^ 24) : EvN (model prog w) A env T g ρ (.BinOp a .Mult b p) (List.replicate k.toNat da).flatten := by
  intro s Q E S q
  refine wpAny_BinOp (ha s _ _ S fun h1 t1 v1 e1 p1 => hb _ _ _ (S.ext e1) fun h2 t2 v2 e2 p2 => ?_)
  obtain ⟨x, xs, rfl, lx, rx⟩ := (p1.ext e2).list hra
  obtain ⟨u, rfl⟩ := p2.intE
  obtain ⟨n, ho⟩ := lx
  have l1 := rx.length
  rw [Array.length_toList] at l1
  have hsz' : xs.size * k.toNat ≤ 2 ^ 24 := by rw [l1]; exact hsz
  refine wpAny_binaryOp_repeat_ref (T := "list") (U := "int") (by decide) ⟨_, ho, rfl⟩ (fun s' => typeIs_int s' k u) noFill_list_mul F.fills_int_mul F.slot_int_rmul repeat_list F.slot_int_index.lookup
    (call_meets F.slot_int_rmul (typeIs_int _ k u) F.entry_int_rmul (F.args_int_rmul_2 _ _) (int___rmul___int_list k u x xs n)
      ⟨ho, rfl, ⟨_, ho, rfl⟩, call_meets F.slot_list_mul ⟨_, ho, rfl⟩ F.entry_list_mul (F.args_list_mul_2 _ _)
        (AutoListH.list___mul___list_int_3 x xs n k u (by simp [Builtin.List.listFitsIndex]; omega) (by omega) (by simp [Builtin.List.listTooLong, sizeLine]; omega))
        ⟨ho, ?_⟩⟩)
  refine q _ t2 _ _ ((e1.trans e2).trans (Ext.push _)) (none_of_ext (e1.trans e2) (Heap.get?_none_of_le (Nat.le_refl _))) (S.ext (e1.trans e2)).big ⟨_, Heap.get?_push_size _ rfl⟩ ?_
  have := newOk { cls := Value.type "list", data := Data.seq (List.foldl (fun x1 x2 => x1 ++ x2) #[] (List.replicate (if xs.isEmpty = true then 0 else k.toNat) xs)) } (rx.rep k.toNat)
  rw [listMul_foldl_if] at this ⊢
  exact this
/-- what stands at a cut's side -/
noncomputable def EvPart (M : Model) (A : Around) (env : Env) (T : Tr) (g : Heap) (ρ : List (Str × V)) (e : Option Expr) (k : Option Int) : Prop :=
  ∀ (s : Shared) (Q E : Value → Shared → Prop), St env T g ρ s.heap → (∀ h' tk v, Ext s.heap h' → IsPart v k → Q v { s with heap := h', toks := tk }) → wpAny M A (evalPart e env) Q E s
theorem EvPart.none {M : Model} : EvPart M A env T g ρ none none := fun s _ _ _ q => evalPart_none_step (q s.heap s.toks _ .refl .none)
theorem EvPart.some {M : Model} {e : Expr} {k : Int} (x : Ev M A env T g ρ e (.d (.int k))) : EvPart M A env T g ρ (some e) (some k) := fun s _ _ S q => evalPart_some_step (x s _ _ S fun h1 t1 v1 e1 p1 => by obtain ⟨u, rfl⟩ := p1.intE; exact q _ _ _ e1 (.int k u))
/-- a cut of a list -/
theorem EvN.slice {a : Expr} {lo hi : Option Expr} {kl kh : Option Int} {ra : V} {p pos : Pos} {da ds : List PyData} (ha : Ev (model prog w) A env T g ρ a ra) (hra : ra.asList = some da) (hl : EvPart (model prog w) A env T g ρ lo kl) (hh : EvPart (model prog w) A env T g ρ hi kh) (hsz : da.length ≤ sizeLine)
    (pick : ∀ (h : Heap) (T : Tr) (its : Array Value), Rds T h its.toList da → Rds T h (slicePick its kl kh Option.none).toList ds)
    (hs : ∀ l r, subscripted (.Slice lo hi Option.none p) false (.ref l) (.ref r) = operate [.ref r, .ref l] (getItem (.ref l) (.ref r)) := by intro _ _; with_unfolding_all rfl) : EvN (model prog w) A env T g ρ (.Subscript a (.Slice lo hi none p) pos) ds := by
  intro s Q E S q
  refine Subscript_ (ha s _ _ S fun h1 t1 v1 e1 p1 => ?_)
  refine wpAny_Slice (hl _ _ _ (S.ext e1) fun h2 t2 v2 e2 p2 => hh _ _ _ (S.ext (e1.trans e2)) fun h3 t3 v3 e3 p3 => evalPart_none_step ?_)
  obtain ⟨l, its, rfl, hli, hds⟩ := (p1.ext (e2.trans e3)).list hra
  have hlen := hds.length
  rw [Array.length_toList] at hlen
  have e123 := e1.trans (e2.trans e3)
  refine tail_any (Heap.IsList.typeIs (s := { s with heap := h3.push _, toks := t3 }) (hli.isList.push _)) list_getitem_lookup (wpAny_getItem_list_slice (hli.isList.push _) (Heap.IsSliceOf.new ..) p2 p3 .none (by simp) ?_ (by omega)) (hs l _)
  refine q _ t3 _ (slicePick its kl kh Option.none) (e123.trans ((Ext.push _).trans (Ext.push _))) (none_of_ext (e123.trans (Ext.push _)) (Heap.get?_none_of_le (Nat.le_refl _))) ((S.ext e123).ext (Ext.push _)).big ⟨_, Heap.get?_push_size _ rfl⟩ ?_
  exact newOk _ (Rds.pers (Ext.push _).pers (pick _ _ _ hds))
theorem pick_upto {da : List PyData} {k : Int} (h0 : 0 ≤ k) (h1 : k ≤ da.length) (h : Heap) (T : Tr) (its : Array Value) (r : Rds T h its.toList da) : Rds T h (slicePick its none (some k) none).toList (da.take k.toNat) := by
  have hlen := r.length
  rw [Array.length_toList] at hlen
  rw [show (some k : Option Int) = some ((k.toNat : Nat) : Int) from by rw [Int.toNat_of_nonneg h0], slicePick_upto its k.toNat (by omega)]
  exact Rds.take _ r
theorem pick_from {da : List PyData} {k : Int} (h0 : 0 ≤ k) (h1 : k ≤ da.length) (h : Heap) (T : Tr) (its : Array Value) (r : Rds T h its.toList da) : Rds T h (slicePick its (some k) none none).toList (da.drop k.toNat) := by
  have hlen := r.length
  rw [Array.length_toList] at hlen
  rw [show (some k : Option Int) = some ((k.toNat : Nat) : Int) from by rw [Int.toNat_of_nonneg h0], slicePick_from its k.toNat (by omega)]
  exact Rds.drop _ r
theorem pick_all {da : List PyData} (h : Heap) (T : Tr) (its : Array Value) (r : Rds T h its.toList da) : Rds T h (slicePick its none none none).toList da := by
  rw [slicePick_all]; exact r
/-- `e == []` and the like: two values that are data -/
theorem Op2.eqD {da db : PyData} {T1 T2 : Tr} {n : Nat} (hA : Fine A n) (ha : SeqAt.shaped da = true) (hb : SeqAt.shaped db = true) : Op2 (model prog w) A (compareOp .Eq) (fun h v => Vr T1 h v (.d da)) (fun h v => Vr T2 h v (.d db)) (fun _ v => v = .bool (PyData.eqv da db)) := by
  intro s va vb Q E x y q
  obtain ⟨_, rx⟩ := Rd.reads x
  obtain ⟨_, ry⟩ := Rd.reads y
  exact eq_dataH rx ry ha hb hA.room (q s.heap s.toks _ .refl rfl)
theorem Op2.neD {da db : PyData} {T1 T2 : Tr} {n : Nat} (hA : Fine A n) (ha : SeqAt.shaped da = true) (hb : SeqAt.shaped db = true) : Op2 (model prog w) A (compareOp .NotEq) (fun h v => Vr T1 h v (.d da)) (fun h v => Vr T2 h v (.d db)) (fun _ v => v = .bool (!PyData.eqv da db)) := by
  intro s va vb Q E x y q
  obtain ⟨_, rx⟩ := Rd.reads x
  obtain ⟨_, ry⟩ := Rd.reads y
  exact ne_dataH rx ry ha hb hA.room (q s.heap s.toks _ .refl rfl)
theorem Op2.mem {d : PyData} {r : V} {ds : List PyData} {T1 T2 : Tr} {n : Nat} (hA : Fine A n) (hr : r.asList = some ds) (hds : PyData.canLayAll0 ds = true) (hd : d.canLay0 = true) (hdp : d.depth ≤ 60) : Op2 (model prog w) A (compareOp .In) (fun h v => Vr T1 h v (.d d)) (fun h v => Vr T2 h v r) (fun _ v => v = .bool (ds.any fun y => PyData.eqv y d)) := by
  intro s va vb Q E x y q
  obtain ⟨_, rx⟩ := Rd.reads x
  obtain ⟨_, ry⟩ := Rd.reads (y.frozen hr)
  have := hA.room
  exact SeqAt.in_list_reads ry rx hds hd (by have := Nat.min_le_right (PyData.depthAll ds) d.depth; omega) (q s.heap s.toks _ .refl rfl)
theorem Op2.notMem {d : PyData} {r : V} {ds : List PyData} {T1 T2 : Tr} {n : Nat} (hA : Fine A n) (hr : r.asList = some ds) (hds : PyData.canLayAll0 ds = true) (hd : d.canLay0 = true) (hdp : d.depth ≤ 60) : Op2 (model prog w) A (compareOp .NotIn) (fun h v => Vr T1 h v (.d d)) (fun h v => Vr T2 h v r) (fun _ v => v = .bool (!ds.any fun y => PyData.eqv y d)) := by
  intro s va vb Q E x y q
  obtain ⟨_, rx⟩ := Rd.reads x
  obtain ⟨_, ry⟩ := Rd.reads (y.frozen hr)
  have := hA.room
  exact SeqAt.notIn_list_reads ry rx hds hd (by have := Nat.min_le_right (PyData.depthAll ds) d.depth; omega) (q s.heap s.toks _ .refl rfl)

/-- range(a, b) as what a loop runs over -/
theorem EvIt.range2 {fe ea eb : Expr} {pos : Pos} {a b : Int} {xs : List Int} (hA : A.handled = none) (hf : Ev (model prog w) A env T g ρ fe (.v (.type "range"))) (ha : Ev (model prog w) A env T g ρ ea (.d (.int a))) (hb : Ev (model prog w) A env T g ρ eb (.d (.int b)))
    (hxs : xs = (List.range (b - a).toNat).map fun i => a + (i : Nat)) (hsm : Builtin.Range.small a b 1 = true)
    (h1 : eval (.Call fe [ea, eb] [] pos) env = (do callWith pos (← eval fe env) [] (backTo pos (starEach [ea, eb] env)) (backToKw pos (keywordEach [] env))) := by rfl)
    (he : starEach [ea, eb] env = (false, eval ea env) :: starEach [eb] env := by rfl) (he2 : starEach [eb] env = (false, eval eb env) :: starEach [] env := by rfl) (hp : (backTo pos (starEach [eb] env)).any (·.1) = false := by rfl) : EvIt prog w A env T g ρ (.Call fe [ea, eb] [] pos) true xs .int := by
  intro s Q E S q
  refine Call_ (hf s _ _ S fun h1 t1 v1 e1 p1 => ?_) h1
  cases p1
  refine callWith_type1 ((EvAs.cons ha (EvAs.cons hb .nil he2) he) pos _ _ _ (S.ext e1) fun h2 t2 vs e2 p2 => ?_) he hp
  obtain _ | ⟨xa, _ | ⟨xb, _ | _⟩⟩ := p2
  obtain ⟨ta, rfl⟩ := xa.intE
  obtain ⟨tb, rfl⟩ := xb.intE
  refine call_range_2 ?_
  refine wpAny_pyIter_range (IsRange.new ..) hsm ?_
  have e12 := e1.trans e2
  have hI : (h2.push { cls := .type "range", data := .fields #[.int a ta, .int b tb, .int 1 t2] } : Heap).get? (h2.objs.size + 1) = none := Heap.get?_none_of_le (by rw [Heap.size_push]; exact Nat.le_refl _)
  have hlen : xs.length = (b - a).toNat := by rw [hxs]; simp
  have hW := Walks.range (prog := prog) (w := w) (A := A) hA (h2.objs.size + 1) a 1 xs.length
  have hrs : Builtin.Range.rangeSize a b 1 = (xs.length : Int) := by rw [rangeSize_one, hlen]; split <;> omega
  have key := q (h2.push { cls := .type "range", data := .fields #[.int a ta, .int b tb, .int 1 t2] }) _ (t2 + 1) (h2.objs.size + 1) [h2.objs.size + 1] _ _ hW (e12.trans (Ext.push _)) (Ext.push { cls := .type "range_iterator", data := .fields #[rawInt a, rawInt (Builtin.Range.rangeSize a b 1), rawInt 1] }) hI
    ?_ (fun i h st => ⟨_, st, (fun _ _ z => by cases z), _, _, rfl, rfl, by decide⟩) (fun b' hb => ?_) (fun _ b' hb => ?_) (fun i v x hx hp => ?_)
  · simpa [Heap.size_push] using key
  · show _ = _
    rw [show h2.objs.size + 1 = (h2.push { cls := .type "range", data := .fields #[.int a ta, .int b tb, .int 1 t2] } : Heap).objs.size from (Heap.size_push ..).symm, Heap.get?_push_size _ rfl, hrs]
    simp
  · rw [List.mem_singleton.mp hb, show h2.objs.size + 1 = (h2.push { cls := .type "range", data := .fields #[.int a ta, .int b tb, .int 1 t2] } : Heap).objs.size from (Heap.size_push ..).symm]
    exact ⟨_, Heap.get?_push_size _ rfl⟩
  · rw [List.mem_singleton.mp hb]
    exact ((S.ext (e12.trans (Ext.push _))).off hI).1
  · obtain ⟨t, rfl⟩ := hp
    rw [hxs, List.getElem?_map] at hx
    by_cases hi : i < (b - a).toNat
    · rw [List.getElem?_range hi] at hx
      cases hx
      rw [Int.mul_one]
      exact .int _ _
    · rw [List.getElem?_eq_none (by simpa using hi)] at hx
      cases hx
end
end Tc
namespace Tc
open PySem PySem.Calls PyProof.Rows PySem.W

noncomputable def below (ds : List Int) (x : Int) : Nat := (ds.filter fun y => decide (y < x)).length
noncomputable def upto (ds : List Int) (x : Int) : Nat := (ds.filter fun y => decide (y ≤ x)).length
theorem below_split {ds : List Int} {x : Int} : ∀ {k : Nat}, k ≤ ds.length → (∀ i (h : i < ds.length), i < k → ds[i] < x) → (∀ i (h : i < ds.length), k ≤ i → x ≤ ds[i]) → below ds x = k := by
  intro k hk h1 h2
  unfold below
  induction ds generalizing k with
  | nil => simp at hk; simp [hk]
  | cons y ds ih =>
    cases k with
    | zero =>
      have : ∀ z ∈ y :: ds, ¬ z < x := fun z hz => by
        obtain ⟨i, hi, rfl⟩ := List.getElem_of_mem hz
        exact Int.not_lt.mpr (h2 i hi (Nat.zero_le _))
      rw [List.filter_eq_nil_iff.mpr (fun z hz => by simpa using this z hz)]; rfl
    | succ k =>
      have hy : y < x := h1 0 (by simp) (by omega)
      rw [List.filter_cons, if_pos (by simpa using hy), List.length_cons, ih (k := k) (by simpa using hk) (fun i hi hik => by have := h1 (i + 1) (by simpa using hi) (by omega); simpa using this) fun i hi hik => by have := h2 (i + 1) (by simpa using hi) (by omega); simpa using this]

noncomputable def Up (ds : List Int) : Prop := ds.Pairwise (· ≤ ·)
theorem Up.get {ds : List Int} (u : Up ds) {i j : Nat} (hj : j < ds.length) (hij : i ≤ j) : ds[i]'(by omega) ≤ ds[j] := by
  rcases Nat.lt_or_eq_of_le hij with h | h
  · exact List.pairwise_iff_getElem.mp u i j (by omega) hj h
  · subst h; exact Int.le_refl _
theorem ints_get {ds : List Int} {k : Nat} (h : k < ds.length) : (ds.map PyData.int)[k]? = some (.int ds[k]) := by simp [h]

section
variable {w : World} {A : Around}
theorem bisect_left_body {L : Addr} {T : Tr} {g : Heap} {s : Shared} {r : V} {ds : List Int} {x : Int} {P : Heap → Value → Prop} (hr : r.asList = some (ds.map .int)) (hu : Up ds) (hlen : ds.length < 2 ^ 20)
    (G : TopH w g)
    (S : St (envE (stm 7) (S "bisect_left") 131 (.ref 130) L) T g [(S "a", r), (S "x", .d (.int x)), (S "lo", .d (.int 0)), (S "hi", .d .none), (S "key", .d .none)] s.heap) (s₀ : Shared) (hs : ∃ h tk, s = { s₀ with heap := h, toks := tk })
    (k : ∀ h v, Pers T.m g h → isI T (below ds x) h v → P h v) :
    wpAny (model prg w) A (execs (fBody (stm 7)) (envE (stm 7) (Tc.S "bisect_left") 131 (.ref 130) L)) (RetQ s₀ P) NoE s := by
  obtain ⟨h, tk, rfl⟩ := hs
  refine X.ite S (EvB.cmpV (Ev.name rfl) Ev.int Op2.lt) (fun h => by simp at h) fun _ h1 tk1 S => ?_
  refine X.nil ?_
  refine X.ite S (EvB.cmpV (Ev.name rfl) Ev.noneC (Op2.isNone (b := true) (T := T) fun h v z => by cases z; rfl)) (fun _ h2 tk2 S => ?_) (fun h => by cases h)
  refine X.assign S (EvP.callB (Ev.built G rfl rfl) (.cons (Ev.name rfl) .nil) (Cl.len (T' := T) hr (by rw [List.length_map]; omega)) fun _ _ => trivial) fun h3 tk3 S => ?_
  refine X.nil ?_
  refine X.ite S (EvB.cmpV (Ev.name rfl) Ev.noneC (Op2.isNone (b := true) (T := T) fun h v z => by cases z; rfl)) (fun _ h4 tk4 S => ?_) (fun h => by cases h)
  refine X.while (T := T) (g := g) (fun n h => ∃ lo hi : Nat, n = hi - lo ∧ lo ≤ hi ∧ hi ≤ ds.length ∧ (∀ i (h : i < ds.length), i < lo → ds[i] < x) ∧ (∀ i (h : i < ds.length), hi ≤ i → x ≤ ds[i]) ∧
      ∃ ρ', St (envE (stm 7) (Tc.S "bisect_left") 131 (.ref 130) L) T g ρ' h ∧ ρ'.lookup (Tc.S "a") = some r ∧ ρ'.lookup (Tc.S "x") = some (.d (.int x)) ∧ ρ'.lookup (Tc.S "lo") = some (.d (.int lo)) ∧ ρ'.lookup (Tc.S "hi") = some (.d (.int hi)))
    ds.length ⟨0, ds.length, rfl, Nat.zero_le _, Nat.le_refl _, fun _ _ h => absurd h (Nat.not_lt_zero _), fun i h h' => absurd h (Nat.not_lt.mpr h'), _, S, rfl, rfl, rfl, (by show some (V.d (PyData.int ((ds.map PyData.int).length : Int))) = _; rw [List.length_map])⟩ ?_
  rintro n h' ⟨lo, hi, rfl, hle, hhi, hA, hB, ρ', S', ha, hx, hlo, hhi'⟩
  refine ⟨_, ρ', S', EvB.cmpV (Ev.name hlo) (Ev.name hhi') Op2.lt, fun hc h1 tk1 e1 => ?_, fun hc h1 tk1 e1 => ?_⟩
  · have hlt : lo < hi := by have := of_decide_eq_true hc; omega
    have S1 := S'.ext e1
    refine X.assign S1 (Ev.bin (Ev.bin (Ev.name hlo) (Ev.name hhi') Op2.add) Ev.int (Op2.fdiv (by decide) (PyProof.noPylong_small (by omega)))) fun h2 tk2 S2 => ?_
    have hm : ((lo : Int) + (hi : Int)).fdiv 2 = ((lo + hi) / 2 : Nat) := by
      rw [Int.fdiv_eq_ediv_of_nonneg _ (by decide)]; omega
    rw [hm] at S2
    have hmid : (lo + hi) / 2 < ds.length := by omega
    refine X.ite S2 (EvB.cmpV (Ev.item (d := .int (ds[(lo + hi) / 2])) (Ev.name ha) hr (Ev.name rfl) (by omega) (by omega) (by rw [show ((((lo + hi) / 2 : Nat) : Int)).toNat = (lo + hi) / 2 from Int.toNat_natCast _]; exact ints_get hmid)) (Ev.name hx) Op2.lt) (fun hy h3 tk3 S3 => ?_) (fun hn h3 tk3 S3 => ?_)
    · refine X.assign S3 (Ev.bin (Ev.name rfl) Ev.int Op2.add) fun h4 tk4 S4 => X.nil (X.nil ?_)
      have hy := of_decide_eq_true hy
      exact ⟨h4, tk4, _, rfl, by omega, (lo + hi) / 2 + 1, hi, rfl, by omega, hhi, fun i hi' h => by
        have := hu.get hmid (i := i) (by omega)
        omega, hB, _, S4, ha, hx, by simp [List.lookup], hhi'⟩
    · refine X.assign S3 (Ev.name rfl) fun h4 tk4 S4 => X.nil (X.nil ?_)
      have hn := of_decide_eq_false hn
      exact ⟨h4, tk4, _, rfl, by omega, lo, (lo + hi) / 2, rfl, by omega, by omega, hA, fun i hi' h => by
        have := hu.get hi' (i := (lo + hi) / 2) h
        omega, _, S4, ha, hx, hlo, rfl⟩
  · have hge : ¬ lo < hi := by have := of_decide_eq_false hc; omega
    have he : lo = hi := by omega
    have hb : below ds x = lo := below_split (by omega) hA (by rw [he]; exact hB)
    refine X.nil (X.ret (S'.ext e1) (Ev.name hlo) fun h2 tk2 v S2 hv => ?_)
    exact ⟨h2, tk2, rfl, k _ _ S2.pers (by rw [hb]; exact hv)⟩
end
end Tc
namespace Tc
open PySem PySem.Calls PyProof.Rows PySem.W
theorem TopH.in_ {w : World} {h : Heap} (G : TopH w h) : Frag.In (topList w.params) h := G.at_
noncomputable def Tr.seal (T : Tr) : Tr := ⟨[], T.m ++ T.n⟩
theorem Tr.has_seal {T : Tr} {b : Addr} : T.seal.has b ↔ T.has b := by
  unfold Tr.has Tr.seal
  rw [List.mem_append]
  constructor
  · rintro (h | h)
    · cases h
    · exact h
  · exact .inr
theorem Vr.seal {T : Tr} {h : Heap} {v : Value} {r : V} (x : Vr T h v r) : Vr T.seal h v r := by
  cases r with
  | d _ => exact Rd.less (fun a => Tr.has_seal.mp) x
  | v _ => exact x
  | o a ds => obtain ⟨e, m, vs, y, z⟩ := x; exact ⟨e, Tr.has_seal.mpr m, vs, y, Rds.less (fun a => Tr.has_seal.mp) z⟩
  | t _ a ds => obtain ⟨e, m, vs, y, z⟩ := x; exact ⟨e, Tr.has_seal.mpr m, vs, y, Rds.less (fun a => Tr.has_seal.mp) z⟩
theorem BR.seal {T : Tr} {h : Heap} : ∀ {ρ b}, BR T h ρ b → BR T.seal h ρ b
  | _, _, .nil => .nil
  | _, _, .cons x y => .cons x.seal (BR.seal y)
theorem BR.has {T : Tr} {h : Heap} : ∀ {ρ b x a}, BR T h ρ b → ((∃ ds, ρ.lookup x = some (.o a ds)) ∨ ∃ y ds, ρ.lookup x = some (.t y a ds)) → T.has a
  | _, _, _, _, .nil, e => by rcases e with ⟨_, e⟩ | ⟨_, _, e⟩ <;> cases e
  | _, _, x, a, .cons (x := y) (ρ := ρ) v n, e => by
    rw [List.lookup_cons] at e
    cases hb : x == y with
    | true => rw [hb] at e; rcases e with ⟨_, e⟩ | ⟨_, _, e⟩ <;> (cases e; exact v.2.1)
    | false => rw [hb] at e; exact BR.has (ρ := ρ) n e
theorem Pers.drop {l : List Addr} {a : Addr} {g h : Heap} (p : Pers (a :: l) g h) (n : g.get? a = none) : Pers l g h := fun b o hb e => p b o (fun q => by
  rcases List.mem_cons.mp q with rfl | q
  · rw [n] at e; cases e
  · exact hb q) e
/-- what a body hands back where T is the caller's -/
noncomputable def RetC (T' : Tr) (g : Heap) (s₀ : Shared) (P : Heap → Value → Prop) : Flow → Shared → Prop := RetQ s₀ fun h v => Pers T'.m g h ∧ P h v
section
variable {w : World} {A : Around}
noncomputable def apartB : List Str → Bool
  | [] => true
  | x :: l => !(l.any fun y => y == x) && apartB l
theorem apartB_nodup : ∀ {l : List Str}, apartB l = true → l.Nodup
  | [], _ => List.nodup_nil
  | x :: l, h => by
    rw [apartB, Bool.and_eq_true, Bool.not_eq_true'] at h
    refine List.nodup_cons.mpr ⟨fun m => ?_, apartB_nodup h.2⟩
    have := List.any_eq_false.mp h.1 x m
    rw [beq_self_eq_true] at this
    exact this rfl
/-- a def that turns nothing of its caller's -/
theorem Cl.mk {prog : Program} {k : Nat} {T : Tr} {rs : List V} {P : Heap → Value → Prop} {f c : Addr} {co : Obj} {st : Stmt} {n q : Str} {dV kV doc pm ct : Value} {an : Option Addr} {ρ : List (Str × V)} {cvs : Array Value} {ctk : Tok} (F : Fine A (k + 1))
    (ho : (topList w.params).lookup f = some ⟨.type "function", none, .func (fnc st n q mainGlobals dV kV doc pm an (.ref c) ct builtinsNs), #[]⟩)
    (hc : (topList w.params).lookup c = some co) (hcd : co.data = .fields cvs) (hcq : cvs[1]? = some (.str q ctk))
    (hb : ∀ s vs, TopH w s.heap → Vrs T s.heap vs rs → ∃ binds, BindsTo s (fnc st n q mainGlobals dV kV doc pm an (.ref c) ct builtinsNs) ⟨vs, []⟩ binds ∧ BR T s.heap ρ binds ∧ binds.map (·.1) = ρ.map (·.1))
    (body : ∀ L T' g h₁ tk s₀, TopH w g → Fine (A.deeper (envE st q f (.ref c) L)) k → (∀ b, T.has b → T'.has b) → (∀ x r, ρ.lookup x = some r → r.still T') → St (envE st q f (.ref c) L) T' g ρ h₁ →
      wpAny (model prog w) (A.deeper (envE st q f (.ref c) L)) (execs (fBody st) (envE st q f (.ref c) L)) (RetC T' g s₀ P) NoE { s₀ with heap := h₁, toks := tk })
    (hnd : apartB (ρ.map (·.1)) = true := by rfl)
    (hkind : ((ρ.map (·.1)).all fun y => (fScope st).names.lookup y == some .local || (fScope st).names.lookup y == some .cell) = true := by rfl)
    (hk : (fScope st).kind = .function := by rfl) (hco : (fScope st).isCoroutine = false := by rfl) (hgen : (fScope st).isGenerator = false := by rfl)
    (hfree : ((fScope st).names.all fun y => y.2 != .free) = true := by rfl)
    (hcn : ((cellsFrom 0 (fScope st).names []).map (·.1)).Nodup := by decide) : Cl (model prog w) A (.ref f) (Wd w T) T rs P := by
  intro s vs Q E W xs q'
  obtain ⟨binds, hbi, hbr, hns⟩ := hb s vs W.1 xs
  refine enter (own := T.seal) (P := P) W.1 F.go ho hc hcd hcq hbi hk hco hgen ?_ hfree hcn hns (apartB_nodup hnd) (fun b hb => W.2 b (Tr.has_seal.mp hb)) hbr.seal (fun L h₁ tk hn S => ?_) fun h' tk v p hv => q' h' tk v (fun b o e => p b o List.not_mem_nil e) hv
  · have : (binds.map (·.1)).all (fun y => (fScope st).names.lookup y == some .local || (fScope st).names.lookup y == some .cell) = true := by rw [hns]; exact hkind
    rw [List.all_map] at this
    exact this
  · refine body L _ _ _ tk s W.1 (F.in_ _) (fun b hb => Tr.has_with.mpr (.inr (Tr.has_seal.mpr hb))) (fun x r e => ?_) S
    cases r with
    | o a ds =>
      intro hm
      obtain ⟨_, o, ho⟩ := W.2 a (hbr.has (.inl ⟨_, e⟩))
      rcases List.mem_append.mp hm with hm | hm
      · have := hn a hm; rw [ho] at this; cases this
      · cases hm
    | t y a ds =>
      intro hm
      obtain ⟨_, o, ho⟩ := W.2 a (hbr.has (.inr ⟨_, _, e⟩))
      rcases List.mem_append.mp hm with hm | hm
      · have := hn a hm; rw [ho] at this; cases this
      · cases hm
    | d _ => trivial
    | v _ => trivial
theorem bisect_left_cl {k : Nat} {T : Tr} {r : V} {ds : List Int} {x : Int} (F : Fine A (k + 1)) (hr : r.asList = some (ds.map .int)) (hu : Up ds) (hlen : ds.length < 2 ^ 20) : Cl (model prg w) A (.ref 131) (Wd w T) T [r, .d (.int x)] (isI T (below ds x)) := by
  refine Cl.mk (ρ := [(S "a", r), (S "x", .d (.int x)), (S "lo", .d (.int 0)), (S "hi", .d .none), (S "key", .d .none)]) F rfl rfl rfl rfl (fun s vs G xs => ?_) (fun L T' g h₁ tk s₀ G F' hT hst S => ?_)
  · obtain _ | ⟨xa, _ | ⟨xx, _ | _⟩⟩ := xs
    rename_i va vx
    exact ⟨[(S "a", va), (S "x", vx), (S "lo", .int 0 421), (S "hi", .none), (S "key", .none)], kp_binds G.in_ fun _ => rfl, .cons xa (.cons xx (.cons (.int _ _) (.cons .none (.cons .none .nil)))), rfl⟩
  · exact bisect_left_body hr hu hlen G S _ ⟨_, _, rfl⟩ fun h v p hv => ⟨p, by cases hv; exact .int _ _⟩
end
end Tc
namespace Tc
open PySem PySem.Calls PyProof.Rows PySem.W

/-- what becomes of a value when the list at a turns to ds' -/
inductive V.turn (a : Addr) (ds' : List PyData) : V → V → Prop
  | d (x) : V.turn a ds' (.d x) (.d x)
  | v (x) : V.turn a ds' (.v x) (.v x)
  | o {b ds} (h : b ≠ a) : V.turn a ds' (.o b ds) (.o b ds)
  | me {ds} : V.turn a ds' (.o a ds) (.o a ds')
  | t {x b ds} (h : b ≠ a) : V.turn a ds' (.t x b ds) (.t x b ds)
  | me2 {x ds} : V.turn a ds' (.t x a ds) (.t x a ds')
/-- what becomes of a value when the list at a is no longer to turn -/
inductive V.fix (a : Addr) : V → V → Prop
  | d (x) : V.fix a (.d x) (.d x)
  | v (x) : V.fix a (.v x) (.v x)
  | o {b ds} (h : b ≠ a) : V.fix a (.o b ds) (.o b ds)
  | me {ds} : V.fix a (.o a ds) (.d (.list ds))
  | t {x b ds} (h : b ≠ a) : V.fix a (.t x b ds) (.t x b ds)
noncomputable def FitR (R : V → V → Prop) (ρ : List (Str × V)) : List (Str × V) → Prop
  | [] => True
  | (n, r') :: l => (∃ r, ρ.lookup n = some r ∧ R r r') ∧ FitR R ρ l
theorem FitR.at {R : V → V → Prop} {ρ : List (Str × V)} : ∀ {l : List (Str × V)}, FitR R ρ l → ∀ x r', l.lookup x = some r' → ∃ r, ρ.lookup x = some r ∧ R r r'
  | [], _, _, _, e => by cases e
  | (n, q) :: l, f, x, r, e => by
    rw [List.lookup_cons] at e
    cases hb : x == n with
    | true => rw [hb] at e; cases e; rw [eq_of_beq hb]; exact f.1
    | false => rw [hb] at e; exact FitR.at f.2 x r e
theorem list_ns {h : Heap} {a b : Addr} {vs : Array Value} {m : Str → Option Value} (l : h.PlainList a vs) (n : h.Ns b m) : b ≠ a := (ns_nonseq n).list l |>.symm
theorem list_cell {h : Heap} {a b : Addr} {vs : Array Value} {w : Option Value} (l : h.PlainList a vs) (n : h.IsCell b w) : b ≠ a := (cell_nonseq n).list l |>.symm
section
variable {prog : Program} {w : World} {A : Around} {env : Env} {T : Tr} {g : Heap} {ρ ρ' : List (Str × V)}
theorem Vr.turn {h h' : Heap} {a : Addr} {ds' : List PyData} {vs' : Array Value} {r r' : V} {v : Value} (hT : T.has a) (p : Pers [a] h h') (l' : h'.PlainList a vs') (r'' : Rds T h' vs'.toList ds') (t : V.turn a ds' r r') (x : Vr T h v r) : Vr T h' v r' := by
  have pd : ∀ {v d}, Rd T h v d → Rd T h' v d := fun z => Rd.less (T := ⟨T.m ++ T.n, []⟩) (fun b hb => .inl (List.mem_append.mpr hb)) (Rd.pers (T := ⟨T.m ++ T.n, []⟩) (p.more fun b hb => List.mem_singleton.mp hb ▸ List.mem_append.mpr hT) (Rd.less (T := T) (fun b hb => by rcases hb with hb | hb; exact List.mem_append.mp hb; cases hb) z))
  have pds : ∀ {v d}, Rds T h v d → Rds T h' v d := fun z => Rds.less (T := ⟨T.m ++ T.n, []⟩) (fun b hb => .inl (List.mem_append.mpr hb)) (Rds.pers (T := ⟨T.m ++ T.n, []⟩) (p.more fun b hb => List.mem_singleton.mp hb ▸ List.mem_append.mpr hT) (Rds.less (T := T) (fun b hb => by rcases hb with hb | hb; exact List.mem_append.mp hb; cases hb) z))
  cases t with
  | d y => exact pd x
  | v y => exact x
  | o hb => obtain ⟨e, m, vs, y, z⟩ := x; exact ⟨e, m, vs, y.at fun o ho => p _ o (fun q => hb (List.mem_singleton.mp q)) ho, pds z⟩
  | me => obtain ⟨e, m, _⟩ := x; exact ⟨e, m, vs', l', r''⟩
  | t hb => obtain ⟨e, m, vs, y, z⟩ := x; exact ⟨e, m, vs, y.at fun o ho => p _ o (fun q => hb (List.mem_singleton.mp q)) ho, pds z⟩
  | me2 => obtain ⟨e, m, _⟩ := x; exact ⟨e, m, vs', l', r''⟩
theorem St.turn {h h' : Heap} {a : Addr} {ds' : List PyData} {vs vs' : Array Value} (S : St env T g ρ h) (ha : a ∈ T.m) (p : Pers [a] h h') (l : h.PlainList a vs) (l' : h'.PlainList a vs') (r : Rds T h' vs'.toList ds') (f : FitR (V.turn a ds') ρ ρ') : St env T g ρ' h' := by
  refine ⟨S.kind, S.pers.trans (p.more fun b hb => List.mem_singleton.mp hb ▸ ha), fun b hb => ?_, S.high, S.memL, S.memC, S.inj, ?_, fun z kz => ?_⟩
  · by_cases q : b = a
    · subst q; obtain ⟨_, ho⟩ := l'; exact ⟨_, ho⟩
    · obtain ⟨o, ho⟩ := S.live b hb
      exact ⟨o, p _ _ (fun z => q (List.mem_singleton.mp z)) ho⟩
  · obtain ⟨m, hm, k⟩ := S.ns
    refine ⟨m, hm.at' fun o e => p _ o (fun z => list_ns l hm (List.mem_singleton.mp z)) e, fun x r' e k' => ?_⟩
    obtain ⟨r0, e0, t⟩ := f.at x r' e
    obtain ⟨v, a1, b1⟩ := k x r0 e0 k'
    exact ⟨v, a1, b1.turn (.inl ha) p l' r t⟩
  · obtain ⟨c, w', a1, b1, z1⟩ := S.cl z kz
    refine ⟨c, w', a1, ?_, fun r' e => ?_⟩
    · obtain ⟨o, ho, hd⟩ := id b1
      exact ⟨o, p _ _ (fun q => list_cell l b1 (List.mem_singleton.mp q)) ho, hd⟩
    · obtain ⟨r0, e0, t⟩ := f.at z r' e
      obtain ⟨v, a2, b2⟩ := z1 r0 e0
      exact ⟨v, a2, b2.turn (.inl ha) p l' r t⟩
theorem Vr.fix {h : Heap} {a : Addr} {r r' : V} {v : Value} (hT : T.off a) (t : V.fix a r r') (x : Vr (T.add a) h v r) : Vr T h v r' := by
  have le : ∀ b, T.has b → (T.add a).has b := fun b hb => Tr.has_add.mpr (.inr hb)
  cases t with
  | d y => exact Rd.less le x
  | v y => exact x
  | o hb =>
    obtain ⟨e, m, vs, y, z⟩ := x
    refine ⟨e, ?_, vs, y, Rds.less le z⟩
    rcases Tr.has_add.mp m with q | q
    · exact (hb q).elim
    · exact q
  | t hb =>
    obtain ⟨e, m, vs, y, z⟩ := x
    refine ⟨e, ?_, vs, y, Rds.less le z⟩
    rcases Tr.has_add.mp m with q | q
    · exact (hb q).elim
    · exact q
  | me => obtain ⟨e, m, vs, y, z⟩ := x; subst e; exact Rd.list hT y (Rds.less le z)
/-- a list of the def's own is no longer to turn -/
theorem St.drop {h h0 g0 : Heap} {ρ0 : List (Str × V)} {a : Addr} (S0 : St env T g0 ρ0 h0) (S : St env (T.add a) g ρ h) (hg : g.get? a = none) (hT : T.off a) (f : FitR (V.fix a) ρ ρ') : St env T g ρ' h := by
  refine ⟨S.kind, Pers.drop S.pers hg, fun b hb => S.live b (Tr.has_add.mpr (.inr hb)), fun b hb => S.high b (Tr.has_add.mpr (.inr hb)), S0.memL, S0.memC, S0.inj, ?_, fun z kz => ?_⟩
  · obtain ⟨m, hm, k⟩ := S.ns
    refine ⟨m, hm, fun x r' e k' => ?_⟩
    obtain ⟨r0, e0, t⟩ := f.at x r' e
    obtain ⟨v, a1, b1⟩ := k x r0 e0 k'
    exact ⟨v, a1, b1.fix hT t⟩
  · obtain ⟨c, w', a1, b1, z1⟩ := S.cl z kz
    refine ⟨c, w', a1, b1, fun r' e => ?_⟩
    obtain ⟨r0, e0, t⟩ := f.at z r' e
    obtain ⟨v, a2, b2⟩ := z1 r0 e0
    exact ⟨v, a2, b2.fix hT t⟩

theorem method_args {id : String} {s : Shared} {Q E : Value → Shared → Prop} {ov : Value} {e : Expr} {es : List Expr} {pos : Pos} (h : wpAny (model prog w) A (spliced (backTo pos (starEach (e :: es) env))) (fun vs s₁ => wpAny (model prog w) A (call (.builtin id) (ov :: vs)) Q E s₁) E s)
    (he : starEach (e :: es) env = (false, eval e env) :: starEach es env) (hp : (backTo pos (starEach es env)).any (·.1) = false) : wpAny (model prog w) A (callWith pos (.builtin id) [ov] (backTo pos (starEach (e :: es) env)) []) Q E s := by
  rw [he] at h ⊢
  exact callWith_builtin (by show (false || (backTo pos (starEach es env)).any (·.1)) = false; rw [hp]; rfl) (evalArgs_plain h)
/-- a.append(e) -/
theorem X.append {s : Shared} {Q : Flow → Shared → Prop} {E : Value → Shared → Prop} {rest : List Stmt} {o e : Expr} {apos pos pos' : Pos} {a : Addr} {ds : List PyData} {d : PyData} (S : St env T g ρ s.heap) (ho : Ev (model prog w) A env T g ρ o (.o a ds)) (he : Ev (model prog w) A env T g ρ e (.d d)) (ha : a ∈ T.m) (hsz : ds.length < sizeLine) (f : FitR (V.turn a (ds ++ [d])) ρ ρ')
    (k : ∀ h' tk, St env T g ρ' h' → wpAny (model prog w) A (execs rest env) Q E { s with heap := h', toks := tk })
    (hbase : attributeBase o (Tc.S "append") env (eval o env) = eval o env := by rfl)
    (hfew : ((backTo pos (starEach [e] env)).all (fun x => !x.1) && (backToKw pos (keywordEach [] env)).all (fun x => x.1.isSome) && decide ([e].length + ([] : List Keyword).length + (if ([] : List Keyword).isEmpty then 0 else 1) < 30)) = true := by rfl)
    (hline : (apos.endLine == pos.line) = true := by rfl)
    (hst : starEach [e] env = (false, eval e env) :: starEach [] env := by rfl) (hi : interactive env = false := by rfl) (hs : swapsWith (.Call (.Attribute o (Tc.S "append") apos) [e] [] pos) none pos'.line env = pure false := by rfl) :
    wpAny (model prog w) A (execs (.Expr (.Call (.Attribute o (Tc.S "append") apos) [e] [] pos) pos' :: rest) env) Q E s := by
  refine X.cons (wpAny_Expr ?_ hi hs)
  refine wpAny_Call_method_lateS hbase hfew hline (ho s _ _ S fun h1 t1 v1 e1 p1 => ?_)
  obtain ⟨rfl, m1, vs1, ⟨n1, l1⟩, r1⟩ := p1
  refine ⟨"list", "list.append", F.plainAttrs_list, F.slot_list_append, F.type_list_append, ⟨_, l1, rfl⟩, fun b q => by cases q; exact ⟨_, l1, rfl⟩, ?_⟩
  refine method_args ((EvAs.cons he .nil hst) pos _ _ _ (S.ext e1) fun h2 t2 vs e2 p2 => ?_) hst rfl
  obtain _ | ⟨x, _ | _⟩ := p2
  have l2 : h2.PlainList a vs1 := ⟨n1, e2 _ _ l1⟩
  have len := r1.length
  rw [Array.length_toList] at len
  refine wpAny_list_append_plain (hsz := by omega) l2 fun h3 l3 s3 => ?_
  have p3 := sameBut_pers s3
  refine k h3 t2 (St.turn (S.ext (e1.trans e2)) ha p3 l2 l3 ?_ f)
  rw [Array.toList_push]
  have le : Pers T.m h2 h3 := p3.more fun b hb => List.mem_singleton.mp hb ▸ ha
  exact Rds.append (Rds.pers le (Rds.pers e2.pers r1)) (Rds.one (Rd.pers le x))
/-- a.insert(i, e) -/
theorem X.insert {s : Shared} {Q : Flow → Shared → Prop} {E : Value → Shared → Prop} {rest : List Stmt} {o i e : Expr} {apos pos pos' : Pos} {a : Addr} {ds : List PyData} {d : PyData} {j : Nat} (S : St env T g ρ s.heap) (ho : Ev (model prog w) A env T g ρ o (.o a ds)) (hi : Ev (model prog w) A env T g ρ i (.d (.int j))) (he : Ev (model prog w) A env T g ρ e (.d d)) (ha : a ∈ T.m) (hsz : ds.length < sizeLine) (hj : j ≤ ds.length) (f : FitR (V.turn a (ds.take j ++ d :: ds.drop j)) ρ ρ')
    (k : ∀ h' tk, St env T g ρ' h' → wpAny (model prog w) A (execs rest env) Q E { s with heap := h', toks := tk })
    (hbase : attributeBase o (Tc.S "insert") env (eval o env) = eval o env := by rfl)
    (hfew : ((backTo pos (starEach [i, e] env)).all (fun x => !x.1) && (backToKw pos (keywordEach [] env)).all (fun x => x.1.isSome) && decide ([i, e].length + ([] : List Keyword).length + (if ([] : List Keyword).isEmpty then 0 else 1) < 30)) = true := by rfl)
    (hline : (apos.endLine == pos.line) = true := by rfl)
    (hst : starEach [i, e] env = (false, eval i env) :: starEach [e] env := by rfl) (hst2 : starEach [e] env = (false, eval e env) :: starEach [] env := by rfl) (hp : (backTo pos (starEach [e] env)).any (·.1) = false := by rfl) (hin : interactive env = false := by rfl) (hs : swapsWith (.Call (.Attribute o (Tc.S "insert") apos) [i, e] [] pos) none pos'.line env = pure false := by rfl) :
    wpAny (model prog w) A (execs (.Expr (.Call (.Attribute o (Tc.S "insert") apos) [i, e] [] pos) pos' :: rest) env) Q E s := by
  refine X.cons (wpAny_Expr ?_ hin hs)
  refine wpAny_Call_method_lateS hbase hfew hline (ho s _ _ S fun h1 t1 v1 e1 p1 => ?_)
  obtain ⟨rfl, m1, vs1, ⟨n1, l1⟩, r1⟩ := p1
  refine ⟨"list", "list.insert", F.plainAttrs_list, F.slot_list_insert, F.type_list_insert, ⟨_, l1, rfl⟩, fun b q => by cases q; exact ⟨_, l1, rfl⟩, ?_⟩
  refine method_args ((EvAs.cons hi (EvAs.cons he .nil hst2) hst) pos _ _ _ (S.ext e1) fun h2 t2 vs e2 p2 => ?_) hst hp
  obtain _ | ⟨xi, _ | ⟨x, _ | _⟩⟩ := p2
  obtain ⟨u, rfl⟩ := xi.intE
  rename_i vd
  have l2 : h2.get? a = some { cls := .type "list", data := .seq vs1 n1 } := e2 _ _ l1
  have len := r1.length
  rw [Array.length_toList] at len
  have hz : sizeLine = 16777216 := rfl
  generalize hzz : (j : Int) = z
  have hz0 : 0 ≤ z := by omega
  have hzj : z.toNat = j := by omega
  have hnot : ¬(!Builtin.List.listFitsIndex z) = true := by
    have : Builtin.List.listFitsIndex z = true := by
      simp only [Builtin.List.listFitsIndex, Bool.and_eq_true, decide_eq_true_eq]
      omega
    rw [this]; exact Bool.false_ne_true
  have hsz1 : vs1.size ≤ sizeLine := by omega
  have hm := AutoSeq1.list_insert_list_int_val_1 a vs1 n1 z u vd hnot hsz1
  refine call_meets F.slot_list_insert ⟨_, l2, rfl⟩ F.entry_list_insert (F.args_list_insert_3 _ _ _) hm ⟨l2, ?_⟩
  have key := PySem.IsL.update l2 (fun xs => have k := if z < 0 then (z + (xs.size : Int)).toNat else min z.toNat xs.size; (xs.extract 0 k).push vd ++ xs.extract k)
  have p3 : Pers [a] h2 (h2.update a (Obj.mapSeq fun xs => have k := if z < 0 then (z + (xs.size : Int)).toNat else min z.toNat xs.size; (xs.extract 0 k).push vd ++ xs.extract k)) := sameBut_pers (Heap.SameBut.update ..)
  refine k _ t2 (St.turn (S.ext (e1.trans e2)) ha p3 ⟨n1, l2⟩ ⟨_, key⟩ ?_ f)
  have hk : (if z < 0 then (z + (vs1.size : Int)).toNat else min z.toNat vs1.size) = j := by
    rw [if_neg (by omega), hzj]; omega
  have e : ((vs1.extract 0 (if z < 0 then (z + (vs1.size : Int)).toNat else min z.toNat vs1.size)).push vd ++ vs1.extract (if z < 0 then (z + (vs1.size : Int)).toNat else min z.toNat vs1.size)).toList = vs1.toList.take j ++ vd :: vs1.toList.drop j := by
    rw [hk]
    have := kl_ins_eq vs1.toList j vd
    rw [Array.toArray_toList] at this
    rw [this]
  show Rds T _ ((vs1.extract 0 (if z < 0 then (z + (vs1.size : Int)).toNat else min z.toNat vs1.size)).push vd ++ vs1.extract (if z < 0 then (z + (vs1.size : Int)).toNat else min z.toNat vs1.size)).toList _
  rw [e]
  have le : Pers T.m h2 _ := p3.more fun b hb => List.mem_singleton.mp hb ▸ ha
  have r2 := Rds.pers le (Rds.pers e2.pers r1)
  exact Rds.append (Rds.take j r2) (.cons (Rd.pers le x) (Rds.drop j r2))
end
end Tc
namespace Tc
open PySem PySem.Calls PyProof.Rows PySem.W
theorem upto_split {ds : List Int} {x : Int} : ∀ {k : Nat}, k ≤ ds.length → (∀ i (h : i < ds.length), i < k → ds[i] ≤ x) → (∀ i (h : i < ds.length), k ≤ i → x < ds[i]) → upto ds x = k := by
  intro k hk h1 h2
  unfold upto
  induction ds generalizing k with
  | nil => simp at hk; simp [hk]
  | cons y ds ih =>
    cases k with
    | zero =>
      have : ∀ z ∈ y :: ds, ¬ z ≤ x := fun z hz => by
        obtain ⟨i, hi, rfl⟩ := List.getElem_of_mem hz
        exact Int.not_le.mpr (h2 i hi (Nat.zero_le _))
      rw [List.filter_eq_nil_iff.mpr (fun z hz => by simpa using this z hz)]; rfl
    | succ k =>
      have hy : y ≤ x := h1 0 (by simp) (by omega)
      rw [List.filter_cons, if_pos (by simpa using hy), List.length_cons, ih (k := k) (by simpa using hk) (fun i hi hik => by have := h1 (i + 1) (by simpa using hi) (by omega); simpa using this) fun i hi hik => by have := h2 (i + 1) (by simpa using hi) (by omega); simpa using this]
section
variable {w : World} {A : Around}
theorem bisect_right_body {L : Addr} {T : Tr} {g : Heap} {s : Shared} {r : V} {ds : List Int} {x : Int} {P : Heap → Value → Prop} (hr : r.asList = some (ds.map .int)) (hu : Up ds) (hlen : ds.length < 2 ^ 20)
    (G : TopH w g)
    (S : St (envE (stm 5) (S "bisect_right") 113 (.ref 112) L) T g [(S "a", r), (S "x", .d (.int x)), (S "lo", .d (.int 0)), (S "hi", .d .none), (S "key", .d .none)] s.heap) (s₀ : Shared) (hs : ∃ h tk, s = { s₀ with heap := h, toks := tk })
    (k : ∀ h v, Pers T.m g h → isI T (upto ds x) h v → P h v) :
    wpAny (model prg w) A (execs (fBody (stm 5)) (envE (stm 5) (Tc.S "bisect_right") 113 (.ref 112) L)) (RetQ s₀ P) NoE s := by
  obtain ⟨h, tk, rfl⟩ := hs
  refine X.ite S (EvB.cmpV (Ev.name rfl) Ev.int Op2.lt) (fun h => by simp at h) fun _ h1 tk1 S => ?_
  refine X.nil ?_
  refine X.ite S (EvB.cmpV (Ev.name rfl) Ev.noneC (Op2.isNone (b := true) (T := T) fun h v z => by cases z; rfl)) (fun _ h2 tk2 S => ?_) (fun h => by cases h)
  refine X.assign S (EvP.callB (Ev.built G rfl rfl) (.cons (Ev.name rfl) .nil) (Cl.len (T' := T) hr (by rw [List.length_map]; omega)) fun _ _ => trivial) fun h3 tk3 S => ?_
  refine X.nil ?_
  refine X.ite S (EvB.cmpV (Ev.name rfl) Ev.noneC (Op2.isNone (b := true) (T := T) fun h v z => by cases z; rfl)) (fun _ h4 tk4 S => ?_) (fun h => by cases h)
  refine X.while (T := T) (g := g) (fun n h => ∃ lo hi : Nat, n = hi - lo ∧ lo ≤ hi ∧ hi ≤ ds.length ∧ (∀ i (h : i < ds.length), i < lo → ds[i] ≤ x) ∧ (∀ i (h : i < ds.length), hi ≤ i → x < ds[i]) ∧
      ∃ ρ', St (envE (stm 5) (Tc.S "bisect_right") 113 (.ref 112) L) T g ρ' h ∧ ρ'.lookup (Tc.S "a") = some r ∧ ρ'.lookup (Tc.S "x") = some (.d (.int x)) ∧ ρ'.lookup (Tc.S "lo") = some (.d (.int lo)) ∧ ρ'.lookup (Tc.S "hi") = some (.d (.int hi)))
    ds.length ⟨0, ds.length, rfl, Nat.zero_le _, Nat.le_refl _, fun _ _ h => absurd h (Nat.not_lt_zero _), fun i h h' => absurd h (Nat.not_lt.mpr h'), _, S, rfl, rfl, rfl, (by show some (V.d (PyData.int ((ds.map PyData.int).length : Int))) = _; rw [List.length_map])⟩ ?_
  rintro n h' ⟨lo, hi, rfl, hle, hhi, hA, hB, ρ', S', ha, hx, hlo, hhi'⟩
  refine ⟨_, ρ', S', EvB.cmpV (Ev.name hlo) (Ev.name hhi') Op2.lt, fun hc h1 tk1 e1 => ?_, fun hc h1 tk1 e1 => ?_⟩
  · have hlt : lo < hi := by have := of_decide_eq_true hc; omega
    have S1 := S'.ext e1
    refine X.assign S1 (Ev.bin (Ev.bin (Ev.name hlo) (Ev.name hhi') Op2.add) Ev.int (Op2.fdiv (by decide) (PyProof.noPylong_small (by omega)))) fun h2 tk2 S2 => ?_
    have hm : ((lo : Int) + (hi : Int)).fdiv 2 = ((lo + hi) / 2 : Nat) := by
      rw [Int.fdiv_eq_ediv_of_nonneg _ (by decide)]; omega
    rw [hm] at S2
    have hmid : (lo + hi) / 2 < ds.length := by omega
    refine X.ite S2 (EvB.cmpV (Ev.name hx) (Ev.item (d := .int (ds[(lo + hi) / 2])) (Ev.name ha) hr (Ev.name rfl) (by omega) (by omega) (by rw [show ((((lo + hi) / 2 : Nat) : Int)).toNat = (lo + hi) / 2 from Int.toNat_natCast _]; exact ints_get hmid)) Op2.lt) (fun hy h3 tk3 S3 => ?_) (fun hn h3 tk3 S3 => ?_)
    · refine X.assign S3 (Ev.name rfl) fun h4 tk4 S4 => X.nil (X.nil ?_)
      have hy := of_decide_eq_true hy
      exact ⟨h4, tk4, _, rfl, by omega, lo, (lo + hi) / 2, rfl, by omega, by omega, hA, fun i hi' h => by
        have := hu.get hi' (i := (lo + hi) / 2) h
        omega, _, S4, ha, hx, hlo, rfl⟩
    · refine X.assign S3 (Ev.bin (Ev.name rfl) Ev.int Op2.add) fun h4 tk4 S4 => X.nil (X.nil ?_)
      have hn := of_decide_eq_false hn
      exact ⟨h4, tk4, _, rfl, by omega, (lo + hi) / 2 + 1, hi, rfl, by omega, hhi, fun i hi' h => by
        have := hu.get hmid (i := i) (by omega)
        omega, hB, _, S4, ha, hx, by simp [List.lookup], hhi'⟩
  · have hge : ¬ lo < hi := by have := of_decide_eq_false hc; omega
    have he : lo = hi := by omega
    have hb : upto ds x = lo := upto_split (by omega) hA (by rw [he]; exact hB)
    refine X.nil (X.ret (S'.ext e1) (Ev.name hlo) fun h2 tk2 v S2 hv => ?_)
    exact ⟨h2, tk2, rfl, k _ _ S2.pers (by rw [hb]; exact hv)⟩
theorem bisect_right_cl {k : Nat} {T : Tr} {r : V} {ds : List Int} {x : Int} (F : Fine A (k + 1)) (hr : r.asList = some (ds.map .int)) (hu : Up ds) (hlen : ds.length < 2 ^ 20) : Cl (model prg w) A (.ref 113) (Wd w T) T [r, .d (.int x)] (isI T (upto ds x)) := by
  refine Cl.mk (ρ := [(S "a", r), (S "x", .d (.int x)), (S "lo", .d (.int 0)), (S "hi", .d .none), (S "key", .d .none)]) F rfl rfl rfl rfl (fun s vs G xs => ?_) (fun L T' g h₁ tk s₀ G F' hT hst S => ?_)
  · obtain _ | ⟨xa, _ | ⟨xx, _ | _⟩⟩ := xs
    rename_i va vx
    exact ⟨[(S "a", va), (S "x", vx), (S "lo", .int 0 394), (S "hi", .none), (S "key", .none)], kp_binds G.in_ fun _ => rfl, .cons xa (.cons xx (.cons (.int _ _) (.cons .none (.cons .none .nil)))), rfl⟩
  · exact bisect_right_body hr hu hlen G S _ ⟨_, _, rfl⟩ fun h v p hv => ⟨p, by cases hv; exact .int _ _⟩
/-- bisect_left with its bounds named -/
theorem bisect_left4_cl {k : Nat} {T : Tr} {r : V} {ds : List Int} {x : Int} (F : Fine A (k + 1)) (hr : r.asList = some (ds.map .int)) (hu : Up ds) (hlen : ds.length < 2 ^ 20) : Cl (model prg w) A (.ref 131) (Wd w T) T [r, .d (.int x), .d (.int 0), .d .none] (isI T (below ds x)) := by
  refine Cl.mk (ρ := [(S "a", r), (S "x", .d (.int x)), (S "lo", .d (.int 0)), (S "hi", .d .none), (S "key", .d .none)]) F rfl rfl rfl rfl (fun s vs G xs => ?_) (fun L T' g h₁ tk s₀ G F' hT hst S => ?_)
  · obtain _ | ⟨xa, _ | ⟨xx, _ | ⟨xl, _ | ⟨xh, _ | _⟩⟩⟩⟩ := xs
    rename_i va vx vl vh
    exact ⟨[(S "a", va), (S "x", vx), (S "lo", vl), (S "hi", vh), (S "key", .none)], kp_binds G.in_ fun _ => rfl, .cons xa (.cons xx (.cons xl (.cons xh (.cons .none .nil)))), rfl⟩
  · exact bisect_left_body hr hu hlen G S _ ⟨_, _, rfl⟩ fun h v p hv => ⟨p, by cases hv; exact .int _ _⟩
theorem below_le (ds : List Int) (x : Int) : below ds x ≤ ds.length := List.length_filter_le _ _
/-- what insort_left does -/
noncomputable def ins (ds : List Int) (x : Int) : List Int := ds.take (below ds x) ++ x :: ds.drop (below ds x)
theorem ins_map (ds : List Int) (x : Int) : (ins ds x).map PyData.int = (ds.map PyData.int).take (below ds x) ++ PyData.int x :: (ds.map PyData.int).drop (below ds x) := by
  unfold ins
  rw [List.map_append, List.map_cons, List.map_take, List.map_drop]
noncomputable def Tr.only (T : Tr) (a : Addr) : Tr := ⟨[a], T.m ++ T.n⟩
theorem Tr.has_only {T : Tr} {a b : Addr} (h : T.has a) : (T.only a).has b ↔ T.has b := by
  unfold Tr.has Tr.only
  rw [List.mem_append]
  constructor
  · rintro (h' | h')
    · rw [List.mem_singleton.mp h']; exact h
    · exact h'
  · exact .inr
theorem Vr.same {T T' : Tr} {h : Heap} {v : Value} {r : V} (e : ∀ b, T'.has b ↔ T.has b) (x : Vr T h v r) : Vr T' h v r := by
  cases r with
  | d _ => exact Rd.less (fun a => (e a).mp) x
  | v _ => exact x
  | o a ds => obtain ⟨q, m, vs, y, z⟩ := x; exact ⟨q, (e a).mpr m, vs, y, Rds.less (fun a => (e a).mp) z⟩
  | t _ a ds => obtain ⟨q, m, vs, y, z⟩ := x; exact ⟨q, (e a).mpr m, vs, y, Rds.less (fun a => (e a).mp) z⟩
theorem Op2.noneIs {M : Model} {T1 T2 : Tr} : Op2 M A (compareOp .Is) (fun h v => Vr T1 h v (.d .none)) (fun h v => Vr T2 h v (.d .none)) (fun _ v => v = .bool true) := by
  intro s va vb Q E x y q
  obtain rfl := y.noneE
  obtain rfl := x.noneE
  exact is_none (q s.heap s.toks _ .refl rfl)
theorem insort_left_call {k : Nat} {T : Tr} {a : Addr} {ds : List Int} {x : Int} {s : Shared} {vs : List Value} {Q E : Value → Shared → Prop} (F : Fine A (k + 2)) (hu : Up ds) (hlen : ds.length < 2 ^ 20) (W : Wd w T s.heap) (xs : Vrs T s.heap vs [.o a (ds.map .int), .d (.int x)])
    (q : ∀ h' tk vs', Pers [a] s.heap h' → h'.PlainList a vs' → Rds T h' vs'.toList ((ins ds x).map .int) → Q .none { s with heap := h', toks := tk }) : wpAny (model prg w) A (call (.ref 122) vs) Q E s := by
  obtain _ | ⟨xa, _ | ⟨xx, _ | _⟩⟩ := xs
  rename_i va vx
  have hT : T.has a := xa.2.1
  have same : ∀ b, (T.only a).has b ↔ T.has b := fun b => Tr.has_only hT
  refine enter (own := T.only a) (ρ := [(S "a", .o a (ds.map .int)), (S "x", .d (.int x)), (S "lo", .d (.int 0)), (S "hi", .d .none), (S "key", .d .none)]) (binds := [(S "a", va), (S "x", vx), (S "lo", .int 0 408), (S "hi", .none), (S "key", .none)])
    (P := fun h v => v = .none ∧ ∃ vs', h.PlainList a vs' ∧ Rds T h vs'.toList ((ins ds x).map .int)) (ns := [S "a", S "x", S "lo", S "hi", S "key"]) W.1 F.go rfl rfl rfl rfl (kp_binds W.1.in_ fun _ => rfl) rfl rfl rfl rfl rfl (by decide) rfl (by decide) (fun b hb => W.2 b ((same b).mp hb)) (.cons (xa.same same) (.cons (xx.same same) (.cons (.int _ _) (.cons .none (.cons .none .nil))))) (fun L h₁ tk hn S => ?_) fun h' tk v p ⟨e, vs', l, r⟩ => e ▸ q h' tk vs' p l r
  have G := W.1
  have F' := F.in_ (envE (stm 6) (Tc.S "insort_left") 122 (.ref 121) L)
  refine X.ite S (EvB.cmpV (Ev.name rfl) Ev.noneC Op2.noneIs) (fun _ h2 tk2 S => ?_) (fun h => by cases h)
  refine X.assign S (EvP.callD G rfl rfl (Ev.glob G rfl) (.cons (Ev.name rfl) (.cons (Ev.name rfl) (.cons (Ev.name rfl) (.cons (Ev.name rfl) .nil)))) (bisect_left4_cl F' rfl hu hlen) fun h S => Wd.of G S) fun h3 tk3 S => ?_
  refine X.nil ?_
  have hb := below_le ds x
  refine X.insert (ρ' := [(Tc.S "a", .o a ((ins ds x).map .int))]) S (Ev.name rfl) (Ev.name rfl) (Ev.name rfl) (List.mem_append_right _ (.head _)) (by rw [List.length_map]; have : sizeLine = 16777216 := rfl; omega) (by rw [List.length_map]; exact hb) ⟨⟨_, rfl, ?_⟩, trivial⟩ fun h4 tk4 S => X.nil ?_
  · rw [ins_map]; exact .me
  · obtain ⟨m, hm, kk⟩ := S.ns
    obtain ⟨v, _, e, _, vs', l, r⟩ := kk (Tc.S "a") _ rfl rfl
    exact ⟨h4, tk4, rfl, S.pers, rfl, vs', l, Rds.less (fun b hb => Tr.has_with.mpr (.inr ((same b).mpr hb))) r⟩
end
end Tc
namespace Tc
open PySem PySem.Calls PyProof.Rows PySem.W
theorem ClFit.of {env : Env} : ∀ {cl : List (Str × Addr)}, (∀ n c, (n, c) ∈ cl → env.cells.lookup n = some c) → ClFit env cl
  | [], _ => .nil
  | (n, c) :: l, h => .cons (h n c (.head _)) (ClFit.of fun n' c' h' => h n' c' (.tail _ h'))
noncomputable def scB (env : Env) (cl : List (Str × Addr)) (y : Str × NameKind) : Bool := y.2 == .local || y.2 == .globalImplicit || (y.2 == .free && (cl.lookup y.1).isSome && (env.kindOf y.1 == some .cell || env.kindOf y.1 == some .free))
theorem ScFit.of {env : Env} {cl : List (Str × Addr)} : ∀ {l : List (Str × NameKind)}, l.all (scB env cl) = true → ScFit env cl l
  | [], _ => .nil
  | (n, k) :: l, h => by
    rw [List.all_cons, Bool.and_eq_true] at h
    have r := ScFit.of (l := l) h.2
    have h1 := h.1
    cases k with
    | «local» => exact .loc r
    | globalImplicit => exact .glob r
    | free =>
      simp only [scB, Bool.or_eq_true, Bool.and_eq_true] at h1
      rcases h1 with (h1 | h1) | ⟨⟨_, h1⟩, h2⟩
      · cases h1
      · cases h1
      · obtain ⟨c, hc⟩ := Option.isSome_iff_exists.mp h1
        exact .free hc (h2.elim (fun q => .inl (eq_of_beq q)) fun q => .inr (eq_of_beq q)) r
    | _ => simp [scB] at h1
theorem locB_of {l : List (Str × NameKind)} (h : (l.all fun y => !(y.2 == .local) || l.lookup y.1 == some .local) = true) : ∀ y ∈ l, y.2 = .local → l.lookup y.1 = some .local := fun y hy e => by
  have := List.all_eq_true.mp h y hy
  rw [e] at this
  simpa using this
section
variable {prog : Program} {w : World} {A : Around} {env : Env} {T : Tr} {g : Heap} {ρ : List (Str × V)}
theorem EvP.compB {α : Type} {elt iter target : Expr} {ifs : List Expr} {scope : Scope} {pos : Pos} {cl : List (Str × Addr)} (ρc : List (Str × V)) {fx : Bool} {xs : List α} {rep : α → PyData} (add : α → List (Str × V)) (p : α → Bool) (q : α → PyData)
    (hit : EvIt prog w A env T g ρ iter fx xs rep) (hclos : closureFor scope env = pure cl) (hcl : ClFit env cl) (hρ : RcFit ρ scope.names ρc)
    (htgt : ∀ C D a, a ∈ xs → Tgt (model prog w) A (compEnvC scope cl C env) ((T.add D).add C) g ρc target true (rep a) (add a))
    (htest : ∀ C D a, a ∈ xs → (ifs = [] ∧ p a = true) ∨ ∃ c, ifs = [c] ∧ EvB (model prog w) A (compEnvC scope cl C env) ((T.add D).add C) g (add a ++ ρc) c (p a))
    (helt : ∀ C D a, a ∈ xs → p a = true → Ev (model prog w) A (compEnvC scope cl C env) ((T.add D).add C) g (add a ++ ρc) elt (.d (q a)))
    (hsz : xs.length ≤ sizeLine) (hk : scope.kind = .function := by rfl) (hsc : scope.names.all (scB env cl) = true := by rfl) (hnames : (scope.names.all fun y => !(y.2 == .local) || scope.names.lookup y.1 == some .local) = true := by rfl)
    (hs : ∀ x, foldedSetIterable iter env x = pure x := by intro _; rfl) :
    Ev (model prog w) A env T g ρ (.ListComp elt [⟨target, iter, ifs, 0⟩] scope pos) (.d (.list ((xs.filter p).map q))) :=
  EvP.comp add p q hit hclos hk hcl (ScFit.of hsc) hρ (locB_of hnames) htgt htest helt hsz hs
theorem X.assignCompB {α : Type} {elt iter target : Expr} {ifs : List Expr} {scope : Scope} {pos : Pos} {cl : List (Str × Addr)} {fx : Bool} {xs : List α} {rep : α → PyData} {s : Shared} {Q : Flow → Shared → Prop} {E : Value → Shared → Prop} {rest : List Stmt} {x : Str} {px spos : Pos} (ρc : List (Str × V)) (S : St env T g ρ s.heap) (add : α → List (Str × V)) (p : α → Bool) (q : α → PyData)
    (hit : EvIt prog w A env T g ρ iter fx xs rep) (hclos : closureFor scope env = pure cl) (hcl : ClFit env cl) (hρ : RcFit ρ scope.names ρc)
    (htgt : ∀ C D a, a ∈ xs → Tgt (model prog w) A (compEnvC scope cl C env) ((T.add D).add C) g ρc target true (rep a) (add a))
    (htest : ∀ C D a, a ∈ xs → (ifs = [] ∧ p a = true) ∨ ∃ c, ifs = [c] ∧ EvB (model prog w) A (compEnvC scope cl C env) ((T.add D).add C) g (add a ++ ρc) c (p a))
    (helt : ∀ C D a, a ∈ xs → p a = true → Ev (model prog w) A (compEnvC scope cl C env) ((T.add D).add C) g (add a ++ ρc) elt (.d (q a)))
    (hsz : xs.length ≤ sizeLine)
    (k : ∀ h' tk, St env T g ((x, .d (.list ((xs.filter p).map q))) :: ρ) h' → wpAny (model prog w) A (execs rest env) Q E { s with heap := h', toks := tk })
    (hx : env.kindOf x = some .local := by rfl) (hsw : swapsWith (.ListComp elt [⟨target, iter, ifs, 0⟩] scope pos) (some (.Name x px)) spos.line env = pure true := by rfl)
    (hk : scope.kind = .function := by rfl) (hsc : scope.names.all (scB env cl) = true := by rfl) (hnames : (scope.names.all fun y => !(y.2 == .local) || scope.names.lookup y.1 == some .local) = true := by rfl)
    (hs : ∀ x, foldedSetIterable iter env x = pure x := by intro _; rfl) :
    wpAny (model prog w) A (execs (.Assign [.Name x px] (.ListComp elt [⟨target, iter, ifs, 0⟩] scope pos) spos :: rest) env) Q E s :=
  X.assignComp S add p q hit hclos hk hcl (ScFit.of hsc) hρ (locB_of hnames) htgt htest helt hsz k hx hsw hs
/-- a body's end: on to the next turn, in these names -/
noncomputable def EndQ (s : Shared) (P : Heap → Prop) : Flow → Shared → Prop := fun fl s3 => (fl = .next ∨ fl = .cont) ∧ ∃ h3 tk3, s3 = { s with heap := h3, toks := tk3 } ∧ P h3
/-- for as a fold -/
theorem X.forFold {α β : Type} {s : Shared} {Q : Flow → Shared → Prop} {target iter : Expr} {body rest : List Stmt} {pos : Pos} {xs : List α} {rep : α → PyData} (f : β → α → β) (ρf : β → List (Str × V)) (Inv : Nat → β → Prop) (b0 : β) (S : St env T g ρ s.heap) (hf : Fit ρ (ρf b0)) (h0 : Inv 0 b0)
    (hit : EvIt prog w A env T g (ρf b0) iter true xs rep)
    (turn : ∀ i a, xs[i]? = some a → ∀ b g', Inv i b → Pers T.m g g' → St env T g' (ρf b) g' → 
      ∃ add, (Tgt (model prog w) A env T g' (ρf b) target false (rep a) add) ∧
      ∀ h' tk, St env T g' (add ++ ρf b) h' → wpAny (model prog w) A (execs body env) (EndQ s fun h3 => St env T g' (ρf (f b a)) h3 ∧ Inv (i + 1) (f b a)) NoE { s with heap := h', toks := tk })
    (done : Inv xs.length (xs.foldl f b0) → ∀ h' tk, St env T g (ρf (xs.foldl f b0)) h' → wpAny (model prog w) A (execs rest env) Q NoE { s with heap := h', toks := tk })
    (hs : ∀ x, foldedSetIterable iter env x = pure x := by intro _; rfl) :
    wpAny (model prog w) A (execs (.For target iter body [] pos :: rest) env) Q NoE s := by
  refine X.forG (fun i ρ' => ρ' = ρf ((xs.take i).foldl f b0) ∧ Inv i ((xs.take i).foldl f b0)) (fun _ => False) (S := S.fit hf) ⟨rfl, h0⟩ hit (fun i hi ρ' g' hR hp S' => ?_) (fun ρ' h' tk hR S' => ?_) hs
  · obtain ⟨rfl, hI⟩ := hR
    have hx : xs[i]? = some xs[i] := List.getElem?_eq_getElem hi
    have ht : (xs.take (i + 1)).foldl f b0 = f ((xs.take i).foldl f b0) xs[i] := by rw [List.take_add_one, hx, List.foldl_append]; rfl
    obtain ⟨add, tg, k⟩ := turn i _ hx _ g' hI hp S'
    refine ⟨add, tg, fun h' tk S2 => wpAny_mono (k h' tk S2) (fun fl s3 q => ?_) fun _ _ z => z⟩
    obtain ⟨hfl, h3, tk3, rfl, S3, I3⟩ := q
    rcases hfl with rfl | rfl
    · exact ⟨h3, tk3, _, rfl, S3, by rw [ht], by rw [ht]; exact I3⟩
    · exact ⟨h3, tk3, _, rfl, S3, by rw [ht], by rw [ht]; exact I3⟩
  · rcases hR with ⟨rfl, hI⟩ | hR
    · rw [List.take_length] at hI S'
      exact done hI h' tk S'
    · exact hR.elim
noncomputable abbrev il (l : List Int) : PyData := .list (l.map .int)
theorem range_1_5 : (List.range ((5 : Int) - 1).toNat).map (fun i => (1 : Int) + (i : Nat)) = [1, 2, 3, 4] := by decide
/-- _law_sizes -/
noncomputable def sizesOf (k : Int) : List Int := ([1, 2, 3, 4] : List Int).filter fun s => ((k.fdiv (2 ^ (4 - s).toNat)).fmod 2 == 1)
theorem sizes_cl {k : Nat} {z : Int} (F : Fine A (k + 1)) (hz : 0 ≤ z) (hz' : z < 2 ^ 20) : Cl (model prg w) A (.ref 387) (Wd w T) T [.d (.int z)] (fun h v => Vr T h v (.d (il (sizesOf z)))) := by
  refine Cl.mk (ρ := [(S "figure", .d (.int z))]) F rfl rfl rfl rfl (fun s vs G xs => ?_) (fun L T' g h₁ tk s₀ G F' hT hst S => ?_)
  · obtain _ | ⟨xa, _ | _⟩ := xs
    rename_i va
    exact ⟨[(S "figure", va)], kp_binds G.in_ fun _ => rfl, .cons xa .nil, rfl⟩
  · refine X.ret S (EvP.compB (ρc := [(Tc.S "figure", .d (.int z))]) (fun a => [(Tc.S "size", .d (.int a))]) (fun s => ((z.fdiv (2 ^ (4 - s).toNat)).fmod 2 == 1)) (fun a => .int a) (EvIt.range2 F'.han (Ev.built G rfl rfl) Ev.int Ev.int range_1_5.symm (by decide)) rfl (.cons rfl .nil) (.cons rfl rfl .nil) (fun C D a ha => Tgt.name) (fun C D a ha => .inr ⟨_, rfl, ?_⟩) (fun C D a ha _ => Ev.name rfl) (by decide)) fun h' tk' v S' hv => ⟨h', tk', rfl, S'.pers, ?_⟩
    · have ha' : 1 ≤ a ∧ a ≤ 4 := by simp only [List.mem_cons, List.not_mem_nil, or_false] at ha; omega
      have hb : (Builtin.Int.intBits 2 : Int) = 2 := by decide
      have hp : (2 : Int) ^ (4 - a).toNat ≠ 0 ∧ (2 : Int) ^ (4 - a).toNat ≤ 8 ∧ 0 ≤ (2 : Int) ^ (4 - a).toNat := by
        have : a = 1 ∨ a = 2 ∨ a = 3 ∨ a = 4 := by omega
        rcases this with rfl | rfl | rfl | rfl <;> decide
      exact EvB.cmpV (Ev.bin (Ev.bin (Ev.nameC rfl) (Ev.bin Ev.int (Ev.bin Ev.int (Ev.name rfl) Op2.sub) (Op2.pow (by omega) (by rw [hb]; omega))) (Op2.fdiv hp.1 (PyProof.noPylong_small (by omega)))) Ev.int (Op2.fmod (by decide))) Ev.int Op2.eq
    · exact Rd.less hT hv
theorem eqvAll_ints : ∀ (a b : List Int), PyData.eqvAll (a.map .int) (b.map .int) = (a == b)
  | [], [] => rfl
  | [], _ :: _ => rfl
  | _ :: _, [] => rfl
  | x :: a, y :: b => by
    rw [List.map_cons, List.map_cons, PyData.eqvAll, eqvAll_ints a b]
    rfl
theorem eqv_il (a b : List Int) : PyData.eqv (il a) (il b) = (a == b) := eqvAll_ints a b
theorem any_int : ∀ (ds : List Int) (x : Int), ((ds.map PyData.int).any fun y => PyData.eqv y (.int x)) = ds.contains x
  | [], _ => rfl
  | y :: ds, x => by
    rw [List.map_cons, List.any_cons, any_int ds x, List.contains_cons]
    show (y == x || _) = (x == y || _)
    rw [Bool.beq_comm]
theorem lay_ints : ∀ (ds : List Int), PyData.canLayAll0 (ds.map .int) = true
  | [] => rfl
  | _ :: ds => by rw [List.map_cons, PyData.canLayAll0, lay_ints ds]; rfl
theorem depth_ints : ∀ (ds : List Int), PyData.depthAll (ds.map .int) = 0
  | [] => rfl
  | _ :: ds => by rw [List.map_cons, PyData.depthAll, depth_ints ds]; rfl
theorem shaped_il (ds : List Int) : SeqAt.shaped (il ds) = true := by
  unfold SeqAt.shaped
  rw [PyData.canLay0, lay_ints, PyData.depth, depth_ints]; rfl
theorem Op2.inI {n : Nat} {T1 T2 : Tr} {r : V} {ds : List Int} {x : Int} (hA : Fine A n) (hr : r.asList = some (ds.map .int)) : Op2 (model prog w) A (compareOp .In) (fun h v => Vr T1 h v (.d (.int x))) (fun h v => Vr T2 h v r) (fun _ v => v = .bool (ds.contains x)) := by
  rw [← any_int]
  exact Op2.mem hA hr (lay_ints _) rfl (Nat.zero_le _)
theorem Op2.notInI {n : Nat} {T1 T2 : Tr} {r : V} {ds : List Int} {x : Int} (hA : Fine A n) (hr : r.asList = some (ds.map .int)) : Op2 (model prog w) A (compareOp .NotIn) (fun h v => Vr T1 h v (.d (.int x))) (fun h v => Vr T2 h v r) (fun _ v => v = .bool (!ds.contains x)) := by
  rw [← any_int]
  exact Op2.notMem hA hr (lay_ints _) rfl (Nat.zero_le _)
theorem Op2.eqI {n : Nat} {T1 T2 : Tr} {a b : List Int} (hA : Fine A n) : Op2 (model prog w) A (compareOp .Eq) (fun h v => Vr T1 h v (.d (il a))) (fun h v => Vr T2 h v (.d (il b))) (fun _ v => v = .bool (a == b)) := by
  rw [← eqv_il]
  exact Op2.eqD hA (shaped_il a) (shaped_il b)
theorem Op2.neI {n : Nat} {T1 T2 : Tr} {a b : List Int} (hA : Fine A n) : Op2 (model prog w) A (compareOp .NotEq) (fun h v => Vr T1 h v (.d (il a))) (fun h v => Vr T2 h v (.d (il b))) (fun _ v => v = .bool (!(a == b))) := by
  rw [← eqv_il]
  exact Op2.neD hA (shaped_il a) (shaped_il b)
/-- `[x for x in xs if x not in r]` as the code has it, and the like -/
noncomputable def endOf (rows : List (List Int)) (held : List Int) : List Int := rows.foldl (fun meet row => if held.filter (fun s => !row.contains s) == [] then meet.filter (fun s => row.contains s) else meet) [1, 2, 3, 4]
theorem end_cl {k : Nat} {rr rh : V} {rows : List (List Int)} {held : List Int} (F : Fine A (k + 1)) (hr : rr.asList = some (rows.map il)) (hh : rh.asList = some (held.map .int)) (hn : held.length ≤ 100) : Cl (model prg w) A (.ref 370) (Wd w T) T [rr, rh] (fun h v => Vr T h v (.d (il (endOf rows held)))) := by
  refine Cl.mk (ρ := [(S "rows", rr), (S "held", rh)]) F rfl rfl rfl rfl (fun s vs G xs => ?_) (fun L T' g h₁ tk s₀ G F' hT hst S => ?_)
  · obtain _ | ⟨xa, _ | ⟨xb, _ | _⟩⟩ := xs
    rename_i va vb
    exact ⟨[(S "rows", va), (S "held", vb)], kp_binds G.in_ fun _ => rfl, .cons xa (.cons xb .nil), rfl⟩
  · refine X.assign S (EvN.list (ds := [.int 1, .int 2, .int 3, .int 4]) (.cons Ev.int (.cons Ev.int (.cons Ev.int (.cons Ev.int .nil))))).ev fun h1 tk1 S => ?_
    refine X.forFold (fun meet row => if held.filter (fun s => !row.contains s) == [] then meet.filter (fun s => row.contains s) else meet) (fun meet => [(Tc.S "held", rh), (Tc.S "rows", rr), (Tc.S "meet", .d (il meet))]) (fun _ meet => meet.length ≤ 100) [1, 2, 3, 4] S ⟨rfl, rfl, rfl, trivial⟩ (by decide)
      (EvIt.listP F'.han (Ev.name rfl) hr fun _ => hst (Tc.S "rows") rr rfl) (fun i row hrow meet g' hI hp S' => ⟨_, Tgt.nameC, fun h2 tk2 S2 => ?_⟩) (fun hI h2 tk2 S2 => ?_)
    · have G' : TopH w g' := G.pers S.high hp
      refine X.ite S2 (EvB.cmpV (EvP.compB (ρc := [(Tc.S "row", .d (il row))]) (fun a => [(Tc.S "size", .d (.int a))]) (fun s => !row.contains s) (fun a => .int a) (EvIt.own F'.han (Ev.name rfl) hh) rfl (.cons rfl .nil) (.cons rfl rfl .nil) (fun C D a ha => Tgt.name) (fun C D a ha => .inr ⟨_, rfl, EvB.cmpV (Ev.name rfl) (Ev.nameC rfl) (Op2.notInI F' rfl)⟩) (fun C D a ha _ => Ev.name rfl) (Nat.le_trans hn (by decide))) (EvN.list (ds := []) .nil).ev (Op2.eqI (b := []) F')) (fun hc h3 tk3 S3 => ?_) (fun hc h3 tk3 S3 => ?_)
      · refine X.assignCompB [(Tc.S "row", .d (il row))] S3 (fun a => [(Tc.S "size", .d (.int a))]) (fun s => row.contains s) (fun a => .int a) (EvIt.list F'.han (Ev.name rfl)) rfl (.cons rfl .nil) (.cons rfl rfl .nil) (fun C D a ha => Tgt.name) (fun C D a ha => .inr ⟨_, rfl, EvB.cmpV (Ev.name rfl) (Ev.nameC rfl) (Op2.inI F' rfl)⟩) (fun C D a ha _ => Ev.name rfl) (Nat.le_trans hI (by decide)) fun h4 tk4 S4 => X.nil (X.nil ?_)
        simp only [hc, if_true]
        exact ⟨.inl rfl, h4, tk4, rfl, S4.fit ⟨rfl, rfl, rfl, trivial⟩, Nat.le_trans (List.length_filter_le _ _) hI⟩
      · refine X.nil (X.nil ?_)
        simp only [hc, Bool.false_eq_true, if_false]
        exact ⟨.inl rfl, h3, tk3, rfl, S3.fit ⟨rfl, rfl, rfl, trivial⟩, hI⟩
    · exact X.ret S2 (Ev.name rfl) fun h3 tk3 v S3 hv => ⟨h3, tk3, rfl, S3.pers, Rd.less hT hv⟩
end
end Tc
namespace Tc
open PySem PySem.Calls PyProof.Rows PySem.W
section
variable {prog : Program} {w : World} {A : Around} {env : Env} {T : Tr} {g : Heap} {ρ ρ' : List (Str × V)}
/-- range(b) as what a loop runs over -/
theorem EvIt.range1 {fe eb : Expr} {pos : Pos} {b : Int} {xs : List Int} (hA : A.handled = none) (hf : Ev (model prog w) A env T g ρ fe (.v (.type "range"))) (hb : Ev (model prog w) A env T g ρ eb (.d (.int b)))
    (hxs : xs = (List.range b.toNat).map fun (i : Nat) => (i : Int)) (hsm : Builtin.Range.small 0 b 1 = true)
    (h1 : eval (.Call fe [eb] [] pos) env = (do callWith pos (← eval fe env) [] (backTo pos (starEach [eb] env)) (backToKw pos (keywordEach [] env))) := by rfl)
    (he : starEach [eb] env = (false, eval eb env) :: starEach [] env := by rfl) (hp : (backTo pos (starEach [] env)).any (·.1) = false := by rfl) : EvIt prog w A env T g ρ (.Call fe [eb] [] pos) true xs .int := by
  intro s Q E S q
  refine Call_ (hf s _ _ S fun h1 t1 v1 e1 p1 => ?_) h1
  cases p1
  refine callWith_type1 ((EvAs.cons hb .nil he) pos _ _ _ (S.ext e1) fun h2 t2 vs e2 p2 => ?_) he hp
  obtain _ | ⟨xb, _ | _⟩ := p2
  obtain ⟨tb, rfl⟩ := xb.intE
  refine call_range_1 ?_
  refine wpAny_pyIter_range (Heap.get?_push_size _ rfl) hsm ?_
  have e12 := e1.trans e2
  generalize hob : ({ cls := .type "range", data := .fields #[.int 0 t2, .int b tb, .int 1 (t2 + 1)] } : Obj) = ob
  have hI : (h2.push ob).get? (h2.objs.size + 1) = none := Heap.get?_none_of_le (by rw [Heap.size_push]; exact Nat.le_refl _)
  have hlen : xs.length = b.toNat := by rw [hxs]; simp
  have hW := Walks.range (prog := prog) (w := w) (A := A) hA (h2.objs.size + 1) 0 1 xs.length
  have hrs : Builtin.Range.rangeSize 0 b 1 = (xs.length : Int) := by rw [rangeSize_one, hlen]; split <;> omega
  have key := q (h2.push ob) _ (t2 + 1 + 1) (h2.objs.size + 1) [h2.objs.size + 1] _ _ hW (e12.trans (Ext.push _)) (Ext.push { cls := .type "range_iterator", data := .fields #[rawInt 0, rawInt (Builtin.Range.rangeSize 0 b 1), rawInt 1] }) hI
    ?_ (fun i h st => ⟨_, st, (fun _ _ z => by cases z), _, _, rfl, rfl, by decide⟩) (fun b' hb => ?_) (fun _ b' hb => ?_) (fun i v x hx hp => ?_)
  · subst hob; simpa [Heap.size_push] using key
  · show _ = _
    rw [show h2.objs.size + 1 = (h2.push ob).objs.size from (Heap.size_push ..).symm, Heap.get?_push_size _ rfl, hrs]
    simp
  · rw [List.mem_singleton.mp hb, show h2.objs.size + 1 = (h2.push ob).objs.size from (Heap.size_push ..).symm]
    exact ⟨_, Heap.get?_push_size _ rfl⟩
  · rw [List.mem_singleton.mp hb]
    exact ((S.ext (e12.trans (Ext.push _))).off hI).1
  · obtain ⟨t, rfl⟩ := hp
    rw [hxs, List.getElem?_map] at hx
    by_cases hi : i < b.toNat
    · rw [List.getElem?_range hi] at hx
      cases hx
      rw [Int.mul_one, Int.zero_add]
      exact .int _ _
    · rw [List.getElem?_eq_none (by simpa using hi)] at hx
      cases hx
theorem Tgt.pair {lo : Bool} {x y : Str} {p q r : Pos} {k : Nat} {d e : PyData} (hA : A.handled = none) (hx : env.kindOf x = some .local := by rfl) (hy : env.kindOf y = some .local := by rfl) :
    Tgt (model prog w) A env T g ρ (.Tuple [.Name x p, .Name y q] k r) lo (.tuple [d, e]) [(y, .d e), (x, .d d)] :=
  Tgt.tuple (add := ([] ++ [(y, .d e)]) ++ [(x, .d d)]) hA (TgtL.cons (TgtL.cons TgtL.nil hy) hx) rfl rfl
theorem Tgt.triple {lo : Bool} {x y z : Str} {p q r u : Pos} {k : Nat} {d e f : PyData} (hA : A.handled = none) (hx : env.kindOf x = some .local := by rfl) (hy : env.kindOf y = some .local := by rfl) (hz : env.kindOf z = some .local := by rfl) :
    Tgt (model prog w) A env T g ρ (.Tuple [.Name x p, .Name y q, .Name z u] k r) lo (.tuple [d, e, f]) [(z, .d f), (y, .d e), (x, .d d)] :=
  Tgt.tuple (add := (([] ++ [(z, .d f)]) ++ [(y, .d e)]) ++ [(x, .d d)]) hA (TgtL.cons (TgtL.cons (TgtL.cons TgtL.nil hz) hy) hx) rfl rfl
/-- list(xs) -/
theorem EvN.listCall {fe ea : Expr} {pos : Pos} {r : V} {ds : List PyData} (hf : Ev (model prog w) A env T g ρ fe (.v (.type "list"))) (ha : Ev (model prog w) A env T g ρ ea r) (hr : r.asList = some ds) (hsz : ds.length ≤ sizeLine)
    (h1 : eval (.Call fe [ea] [] pos) env = (do callWith pos (← eval fe env) [] (backTo pos (starEach [ea] env)) (backToKw pos (keywordEach [] env))) := by rfl)
    (he : starEach [ea] env = (false, eval ea env) :: starEach [] env := by rfl) (hp : (backTo pos (starEach [] env)).any (·.1) = false := by rfl) : EvN (model prog w) A env T g ρ (.Call fe [ea] [] pos) ds := by
  intro s Q E S q
  refine Call_ (hf s _ _ S fun h1 t1 v1 e1 p1 => ?_) h1
  cases p1
  refine callWith_type1 ((EvAs.cons ha .nil he) pos _ _ _ (S.ext e1) fun h2 t2 vs e2 p2 => ?_) he hp
  obtain _ | ⟨xa, _ | _⟩ := p2
  obtain ⟨l, its, rfl, ⟨n, hl⟩, hds⟩ := xa.list hr
  have hlen := hds.length
  rw [Array.length_toList] at hlen
  have e12 := e1.trans e2
  have hno : h2.get? h2.objs.size = none := Heap.get?_none_of_le (Nat.le_refl _)
  refine call_list_seq l (.inl rfl) hl rfl rfl (fun h' c' e hn => ?_) (by omega)
  exact q h' t2 h2.objs.size its (e12.trans e) (none_of_ext e12 hno) (S.ext e12).big ⟨c', hn⟩ (Rds.pers (Ext.pers (h := h2) (h' := h') e) (Rds.off hno hds))
theorem EvB.and {a b : Expr} {pos : Pos} {x y : Bool} (ha : EvB (model prog w) A env T g ρ a x) (hb : x = true → EvB (model prog w) A env T g ρ b y) : EvB (model prog w) A env T g ρ (.BoolOp .And [a, b] pos) (x && y) := by
  intro s Q E S q
  refine isTrue_and (ha s _ _ S fun h1 t1 e1 => ?_)
  cases x with
  | false => exact q _ _ e1
  | true =>
    rw [if_pos rfl]
    refine isTrue_and (hb rfl _ _ _ (S.ext e1) fun h2 t2 e2 => ?_)
    cases y with
    | false => exact q _ _ (e1.trans e2)
    | true => exact isTrue_and_nil (q _ _ (e1.trans e2))
/-- insort_left(a, x) -/
theorem X.insort {k : Nat} {s : Shared} {Q : Flow → Shared → Prop} {E : Value → Shared → Prop} {rest : List Stmt} {fe e1 e2 : Expr} {pos pos' : Pos} {a : Addr} {ds : List Int} {x : Int} (G : TopH w g) (F : Fine A (k + 2)) (hu : Up ds) (hlen : ds.length < 2 ^ 20) (S : St env T g ρ s.heap)
    (hf : Ev (model prg w) A env T g ρ fe (.v (.ref 122))) (ha : Ev (model prg w) A env T g ρ e1 (.o a (ds.map .int))) (hb : Ev (model prg w) A env T g ρ e2 (.d (.int x))) (hm : a ∈ T.m) (f : FitR (V.turn a ((ins ds x).map .int)) ρ ρ')
    (k' : ∀ h' tk, St env T g ρ' h' → wpAny (model prg w) A (execs rest env) Q E { s with heap := h', toks := tk })
    (h1 : eval (.Call fe [e1, e2] [] pos) env = (do callWith pos (← eval fe env) [] (backTo pos (starEach [e1, e2] env)) (backToKw pos (keywordEach [] env))) := by rfl)
    (he : starEach [e1, e2] env = (false, eval e1 env) :: starEach [e2] env := by rfl) (he2 : starEach [e2] env = (false, eval e2 env) :: starEach [] env := by rfl)
    (hi : interactive env = false := by rfl) (hs : swapsWith (.Call fe [e1, e2] [] pos) none pos'.line env = pure false := by rfl) :
    wpAny (model prg w) A (execs (.Expr (.Call fe [e1, e2] [] pos) pos' :: rest) env) Q E s := by
  refine X.cons (wpAny_Expr ?_ hi hs)
  refine Call_ (hf s _ _ S fun h1 t1 v1 e1 p1 => ?_) h1
  cases p1
  refine callWith_def (fd := _) rfl ((EvAs.cons ha (EvAs.cons hb .nil he2) he) pos _ _ _ (S.ext e1) fun h2 t2 vs e2 p2 => ⟨(G.on ((S.ext e1).ext e2)).at_ 122 _ rfl, ?_⟩) he
  refine insort_left_call F hu hlen (Wd.of G ((S.ext e1).ext e2)) p2 fun h3 tk3 vs' p3 l3 r3 => ?_
  obtain _ | ⟨xa, _⟩ := p2
  obtain ⟨_, _, _, l2, _⟩ := xa
  exact k' h3 tk3 (St.turn ((S.ext e1).ext e2) hm p3 l2 l3 r3 f)
end
/-- a set of sizes as a figure: the size 1 the highest -/
noncomputable def sz (m : Nat) : List Int := sizesOf m
noncomputable def insNew (l : List Int) (x : Int) : List Int := if below l x == upto l x then ins l x else l
noncomputable def stepM (g : Nat) (r : Nat × Nat) : Nat := if (sz r.1).length < (sz g).length && (sz r.1).filter (fun s => !(sz g).contains s) == [] then g ||| r.2 else g
noncomputable def ledGo (rules : List (Nat × Nat)) : Nat → Nat → Nat
  | 0, g => g
  | n + 1, g => if (sz (rules.foldl stepM g)).length == (sz g).length then rules.foldl stepM g else ledGo rules n (rules.foldl stepM g)
theorem sz_ok : ∀ m < 16, (∀ i j : Fin (sz m).length, i ≤ j → (sz m)[i] ≤ (sz m)[j]) ∧ (sz m).length ≤ 4 := by decide +kernel
theorem sz_up {m : Nat} (h : m < 16) : Up (sz m) := by
  refine List.pairwise_iff_getElem.mpr fun i j hi hj hij => ?_
  exact (sz_ok m h).1 ⟨i, hi⟩ ⟨j, hj⟩ (Nat.le_of_lt hij)
theorem sz_len {m : Nat} (h : m < 16) : (sz m).length ≤ 4 := (sz_ok m h).2
theorem sz_inj : ∀ m < 16, ∀ n < 16, sz m = sz n → m = n := by decide +kernel
theorem insNew_sz : ∀ m < 16, ∀ x ∈ ([1, 2, 3, 4] : List Int), insNew (sz m) x = sz (m ||| 2 ^ (4 - x).toNat) := by decide +kernel
theorem foldNew_sz : ∀ m < 16, ∀ e < 16, (sz e).foldl insNew (sz m) = sz (m ||| e) := by decide +kernel
theorem mem_sz : ∀ e < 16, ∀ x ∈ sz e, x ∈ ([1, 2, 3, 4] : List Int) := by decide +kernel
theorem or_lt : ∀ m < 16, ∀ e < 16, m ||| e < 16 := by decide +kernel
end Tc
set_option maxHeartbeats 4000000
namespace Tc
open PySem PySem.Calls PyProof.Rows PySem.W
section
variable {prog : Program} {w : World} {A : Around} {env : Env} {T : Tr} {g : Heap} {ρ ρ' : List (Str × V)}
noncomputable def rl (r : Nat × Nat) : PyData := .tuple [il (sz r.1), il (sz r.2)]
/-- `if bisect_left(grown, size) == bisect_right(grown, size): insort_left(grown, size)`, grown a list of its own -/
theorem X.insIfNew {k : Nat} {s : Shared} {Q : Flow → Shared → Prop} {fl fr fi el er el2 er2 ei1 ei2 : Expr} {p1 p2 p3 p4 p5 p6 : Pos} {a : Addr} {ds : List Int} {x : Int} (G : TopH w g) (F : Fine A (k + 2)) (hu : Up ds) (hlen : ds.length < 2 ^ 20) (S : St env T g ρ s.heap)
    (hfl : Ev (model prg w) A env T g ρ fl (.v (.ref 131))) (hfr : Ev (model prg w) A env T g ρ fr (.v (.ref 113))) (hfi : Ev (model prg w) A env T g ρ fi (.v (.ref 122)))
    (hg : ∀ e ∈ [el, er, ei1], Ev (model prg w) A env T g ρ e (.o a (ds.map .int))) (hx : ∀ e ∈ [el2, er2, ei2], Ev (model prg w) A env T g ρ e (.d (.int x))) (hm : a ∈ T.m) (f : FitR (V.turn a ((insNew ds x).map .int)) ρ ρ')
    (k' : ∀ h' tk, St env T g ρ' h' → Q .next { s with heap := h', toks := tk })
    (f0 : insNew ds x = ds → ∀ h, St env T g ρ h → St env T g ρ' h)
    (q1 : eval (.Call fl [el, el2] [] p1) env = (do callWith p1 (← eval fl env) [] (backTo p1 (starEach [el, el2] env)) (backToKw p1 (keywordEach [] env))) := by rfl) (q2 : starEach [el, el2] env = (false, eval el env) :: starEach [el2] env := by rfl) (q3 : starEach [el2] env = (false, eval el2 env) :: starEach [] env := by rfl)
    (r1 : eval (.Call fr [er, er2] [] p2) env = (do callWith p2 (← eval fr env) [] (backTo p2 (starEach [er, er2] env)) (backToKw p2 (keywordEach [] env))) := by rfl) (r2 : starEach [er, er2] env = (false, eval er env) :: starEach [er2] env := by rfl) (r3 : starEach [er2] env = (false, eval er2 env) :: starEach [] env := by rfl)
    (t1 : eval (.Call fi [ei1, ei2] [] p4) env = (do callWith p4 (← eval fi env) [] (backTo p4 (starEach [ei1, ei2] env)) (backToKw p4 (keywordEach [] env))) := by rfl) (t2 : starEach [ei1, ei2] env = (false, eval ei1 env) :: starEach [ei2] env := by rfl) (t3 : starEach [ei2] env = (false, eval ei2 env) :: starEach [] env := by rfl)
    (hi : interactive env = false := by rfl) (hs : swapsWith (.Call fi [ei1, ei2] [] p4) none p5.line env = pure false := by rfl) (hmk : behindInMarks .Eq (.Call fr [er, er2] [] p2) = false := by with_unfolding_all rfl) :
    wpAny (model prg w) A (execs [.If (.Compare (.Call fl [el, el2] [] p1) [.Eq] [.Call fr [er, er2] [] p2] p3) [.Expr (.Call fi [ei1, ei2] [] p4) p5] [] p6] env) Q NoE s := by
  refine X.ite S (EvB.cmpV (EvP.callD G rfl rfl hfl (.cons (hg _ (by simp)) (.cons (hx _ (by simp)) .nil q3) q2) (bisect_left_cl F rfl hu hlen) (fun h S => Wd.of G S) q1 q2) (EvP.callD G rfl rfl hfr (.cons (hg _ (by simp)) (.cons (hx _ (by simp)) .nil r3) r2) (bisect_right_cl F rfl hu hlen) (fun h S => Wd.of G S) r1 r2) Op2.eq hmk) (fun hc h1 tk1 S1 => ?_) (fun hc h1 tk1 S1 => ?_)
  · have hc' : (below ds x == upto ds x) = true := by
      rw [beq_iff_eq] at hc ⊢
      exact Int.ofNat_inj.mp hc
    have hin : insNew ds x = ins ds x := by unfold insNew; rw [hc']; rfl
    rw [hin] at f
    refine X.insort G F hu hlen S1 hfi (hg _ (by simp)) (hx _ (by simp)) hm f (fun h2 tk2 S2 => X.nil (X.nil (k' h2 tk2 S2))) t1 t2 t3 hi hs
  · have hc' : (below ds x == upto ds x) = false := by
      rw [beq_eq_false_iff_ne] at hc ⊢
      exact fun q => hc (congrArg Int.ofNat q)
    have hin : insNew ds x = ds := by unfold insNew; rw [hc']; rfl
    exact X.nil (X.nil (k' h1 tk1 (f0 hin _ S1)))
theorem sz_lt {a b : Nat} (ha : a < 16) : (sz a).length < 2 ^ 20 := Nat.lt_of_le_of_lt (sz_len ha) (by decide)
theorem led_on_cl {k m : Nat} {rr rh : V} {rules : List (Nat × Nat)} (F : Fine A (k + 3)) (hr : rr.asList = some (rules.map rl)) (hrs : ∀ r ∈ rules, r.1 < 16 ∧ r.2 < 16) (hh : rh.asList = some ((sz m).map .int)) (hm : m < 16) : Cl (model prg w) A (.ref 375) (Wd w T) T [rr, rh] (fun h v => Vr T h v (.d (il (sz (ledGo rules 4 m))))) := by
  refine Cl.mk (ρ := [(S "rules", rr), (S "held", rh)]) F rfl rfl rfl rfl (fun s vs G xs => ?_) (fun L T' g h₁ tk s₀ G F' hT hst S => ?_)
  · obtain _ | ⟨xa, _ | ⟨xb, _ | _⟩⟩ := xs
    rename_i va vb
    exact ⟨[(S "rules", va), (S "held", vb)], kp_binds G.in_ fun _ => rfl, .cons xa (.cons xb .nil), rfl⟩
  have hsm := sz_len hm
  have hz : sizeLine = 16777216 := rfl
  refine X.assignOwnC S (EvN.listCall (Ev.built G rfl rfl) (Ev.name rfl) hh (by rw [List.length_map]; omega)) fun a h1 tk1 hag haT S1 => ?_
  have ret : ∀ {h v} {ds : List Int}, Vr (T'.add a) h v (.o a (ds.map .int)) → Vr T h v (.d (il ds)) := fun x => Rd.less hT (Vr.fix (r := .o a _) haT .me x)
  have rrt : ∀ {ds : List PyData}, V.turn a ds rr rr := by
    intro ds
    cases rr with
    | d _ => exact .d _
    | v _ => exact .v _
    | t _ _ _ => cases hr
    | o b ds0 =>
      refine .o fun q => ?_
      obtain ⟨v, _, x⟩ := S.ns.choose_spec.2 (Tc.S "rules") _ rfl rfl
      exact Tr.off_iff.mp haT (q ▸ x.2.1)
  have hrs2 : rr.still (T'.add a) := by
    have := hst (Tc.S "rules") rr rfl
    cases rr with
    | o b ds =>
      obtain ⟨v, _, x⟩ := S.ns.choose_spec.2 (Tc.S "rules") _ rfl rfl
      intro q
      rcases List.mem_cons.mp q with q | q
      · exact Tr.off_iff.mp haT (q ▸ x.2.1)
      · exact this q
    | t _ _ _ => cases hr
    | d _ => trivial
    | v _ => trivial
  refine X.forG (xs := [0, 1, 2, 3]) (fun i ρ' => ∃ gr < 16, ρ' = [(Tc.S "rules", rr), (Tc.S "grown", .o a ((sz gr).map .int))] ∧ ledGo rules 4 m = ledGo rules (4 - i) gr) (fun _ => False) (S := S1.fit (l := [(Tc.S "rules", rr), (Tc.S "grown", .o a ((sz m).map .int))]) ⟨rfl, rfl, trivial⟩) ⟨m, hm, rfl, rfl⟩
    (EvIt.range1 F'.han (Ev.built G rfl rfl) Ev.int (by decide) (by decide)) (fun i hi ρ' g' hR hp S' => ?_) (fun ρ' h2 tk2 hR S2 => ?_)
  · obtain ⟨gr, hgr, rfl, hled⟩ := hR
    have G' : TopH w g' := G.pers S1.high hp
    refine ⟨_, Tgt.name, fun h2 tk2 S2 => ?_⟩
    have hsg := sz_len hgr
    refine X.assign S2 (EvP.callB (Ev.built G' rfl rfl) (.cons (Ev.nameC rfl) .nil) (Cl.len (T' := T'.add a) (r := .o a ((sz gr).map .int)) rfl (by rw [List.length_map]; omega)) fun _ _ => trivial) fun h3 tk3 S3 => ?_
    rw [List.length_map] at S3
    refine X.forFold (stepM) (fun gg => [(Tc.S "rules", rr), (Tc.S "before", .d (.int (sz gr).length)), (Tc.S "grown", .o a ((sz gg).map .int))]) (fun _ gg => gg < 16) gr S3 ⟨rfl, rfl, rfl, trivial⟩ hgr
      (EvIt.listP F'.han (Ev.name rfl) hr fun _ => hrs2) (fun j r hj gg g2 hgg hp2 S4 => ⟨_, Tgt.pair F'.han, fun h4 tk4 S5 => ?_⟩) (fun hgg h4 tk4 S4 => ?_)
    · obtain ⟨r1, r2⟩ := r
      obtain ⟨hr1, hr2⟩ := hrs (r1, r2) (List.mem_of_getElem? hj)
      have G2 : TopH w g2 := G'.pers S'.high hp2
      have hl1 : (sz r1).length ≤ 4 := sz_len hr1
      have hl2 := sz_len hgg
      have cnd : ∀ {b : Bool}, (decide (((((sz r1).map PyData.int).length : Nat) : Int) < ((((sz gg).map PyData.int).length : Nat) : Int)) && (((sz r1).filter fun s => !(sz gg).contains s) == [])) = b → (decide ((sz r1).length < (sz gg).length) && ((sz r1).filter (fun s => !(sz gg).contains s) == [])) = b := by
        intro b hb
        rw [List.length_map, List.length_map, decide_eq_decide.mpr Int.ofNat_lt] at hb
        exact hb
      refine X.ite S5 (EvB.and (EvB.cmpV (EvP.callB (Ev.built G2 rfl rfl) (.cons (Ev.name rfl) .nil) (Cl.len (T' := T'.add a) (r := .d (il (sz r1))) (ds := (sz r1).map .int) rfl (by rw [List.length_map]; omega)) fun _ _ => trivial) (EvP.callB (Ev.built G2 rfl rfl) (.cons (Ev.nameC rfl) .nil) (Cl.len (T' := T'.add a) (r := .o a ((sz gg).map .int)) rfl (by rw [List.length_map]; omega)) fun _ _ => trivial) Op2.lt)
        fun _ => EvB.cmpV (EvP.compB (ρc := [(Tc.S "grown", .o a ((sz gg).map .int))]) (fun a => [(Tc.S "size", .d (.int a))]) (fun s => !(sz gg).contains s) (fun a => .int a) (EvIt.list F'.han (Ev.name rfl)) rfl (.cons rfl .nil) (.cons rfl rfl .nil) (fun C D a ha => Tgt.name) (fun C D a ha => .inr ⟨_, rfl, EvB.cmpV (Ev.name rfl) (Ev.nameC rfl) (Op2.notInI F' rfl)⟩) (fun C D a ha _ => Ev.name rfl) (Nat.le_trans hl1 (by decide))) (EvN.list (ds := []) .nil).ev (Op2.eqI (b := []) F')) (fun hc h5 tk5 S6 => ?_) (fun hc h5 tk5 S6 => ?_)
      · have hc2 := cnd hc
        refine X.forFold insNew (fun l => [(Tc.S "rules", rr), (Tc.S "before", .d (.int (sz gr).length)), (Tc.S "grown", .o a (l.map .int)), (Tc.S "premise", .d (il (sz r1))), (Tc.S "end", .d (il (sz r2)))]) (fun _ l => ∃ mm < 16, l = sz mm) (sz gg) S6 ⟨rfl, rfl, rfl, rfl, rfl, trivial⟩ ⟨gg, hgg, rfl⟩
          (EvIt.list F'.han (Ev.name rfl)) (fun j2 x hx l g3 hl hp3 S7 => ⟨_, Tgt.name, fun h6 tk6 S8 => ?_⟩) (fun hl h6 tk6 S7 => ?_)
        · obtain ⟨mm, hmm, rfl⟩ := hl
          have G3 : TopH w g3 := G2.pers S4.high hp3
          have hxm := mem_sz r2 hr2 x (List.mem_of_getElem? hx)
          have hnew := insNew_sz mm hmm x hxm
          have hbit : 2 ^ (4 - x).toNat < 16 := by
            simp only [List.mem_cons, List.not_mem_nil, or_false] at hxm
            rcases hxm with rfl | rfl | rfl | rfl <;> decide
          refine X.insIfNew (ρ' := [(Tc.S "rules", rr), (Tc.S "before", .d (.int (sz gr).length)), (Tc.S "grown", .o a ((insNew (sz mm) x).map .int)), (Tc.S "premise", .d (il (sz r1))), (Tc.S "end", .d (il (sz r2)))]) G3 F' (sz_up hmm) (sz_lt (b := 0) hmm) S8 (Ev.glob G3 rfl) (Ev.glob G3 rfl) (Ev.glob G3 rfl) (fun e he => ?_) (fun e he => ?_) (.head _) ⟨⟨_, rfl, rrt⟩, ⟨_, rfl, .d _⟩, ⟨_, rfl, .me⟩, ⟨_, rfl, .d _⟩, ⟨_, rfl, .d _⟩, trivial⟩ (fun h7 tk7 S9 => ?_) (fun hin h S9 => ?_)
          · simp only [List.mem_cons, List.not_mem_nil, or_false] at he
            rcases he with rfl | rfl | rfl <;> exact Ev.nameC rfl
          · simp only [List.mem_cons, List.not_mem_nil, or_false] at he
            rcases he with rfl | rfl | rfl <;> exact Ev.name rfl
          · exact ⟨.inl rfl, h7, tk7, rfl, S9, _, or_lt _ hmm _ hbit, hnew⟩
          · rw [hin]; exact S9.fit ⟨rfl, rfl, rfl, rfl, rfl, trivial⟩
        · have hst : stepM gg (r1, r2) = gg ||| r2 := if_pos hc2
          refine X.nil (X.nil ⟨.inl rfl, h6, tk6, rfl, S7.fit ⟨rfl, rfl, ?_, trivial⟩, ?_⟩)
          · rw [foldNew_sz _ hgg _ hr2, hst]; rfl
          · rw [hst]; exact or_lt _ hgg _ hr2
      · have hc2 := cnd hc
        have hst : stepM gg (r1, r2) = gg := if_neg (by rw [hc2]; exact Bool.false_ne_true)
        refine X.nil (X.nil ⟨.inl rfl, h5, tk5, rfl, S6.fit ⟨rfl, rfl, ?_, trivial⟩, ?_⟩)
        · rw [hst]; rfl
        · rw [hst]; exact hgg
    · have hls := sz_len hgg
      generalize hg2 : rules.foldl stepM gr = g2 at S4 hls hgg
      have hi' : i < 4 := hi
      have step : ledGo rules (4 - i) gr = if (sz g2).length == (sz gr).length then g2 else ledGo rules (4 - (i + 1)) g2 := by
        obtain ⟨q, hq⟩ : ∃ q, 4 - i = q + 1 := ⟨3 - i, by omega⟩
        rw [hq, ledGo, hg2, show 4 - (i + 1) = q from by omega]
      refine X.ite S4 (EvB.cmpV (EvP.callB (Ev.built G' rfl rfl) (.cons (Ev.nameC rfl) .nil) (Cl.len (T' := T'.add a) (r := .o a ((sz g2).map .int)) rfl (by rw [List.length_map]; omega)) fun _ _ => trivial) (Ev.name rfl) Op2.eq) (fun hc h5 tk5 S5 => ?_) (fun hc h5 tk5 S5 => ?_)
      · have hc2 : ((sz g2).length == (sz gr).length) = true := by
          rw [List.length_map, beq_iff_eq] at hc
          rw [beq_iff_eq]; exact Int.ofNat_inj.mp hc
        refine X.ret S5 (Ev.nameC rfl) fun h6 tk6 v S6 hv => ⟨h6, tk6, rfl, (hp.trans S6.pers).drop hag, ?_⟩
        rw [hled, step, hc2, if_pos rfl]
        exact ret hv
      · have hc2 : ((sz g2).length == (sz gr).length) = false := by
          rw [List.length_map, beq_eq_false_iff_ne] at hc
          rw [beq_eq_false_iff_ne]; exact fun q => hc (congrArg Int.ofNat q)
        refine X.nil (X.nil ⟨h5, tk5, _, rfl, S5.fit (l := [(Tc.S "rules", rr), (Tc.S "grown", .o a ((sz g2).map .int))]) ⟨rfl, rfl, trivial⟩, g2, hgg, rfl, ?_⟩)
        rw [hled, step, hc2, if_neg Bool.false_ne_true]
  · rcases hR with ⟨gr, hgr, rfl, hled⟩ | hR
    · refine X.ret S2 (Ev.nameC rfl) fun h3 tk3 v S3 hv => ⟨h3, tk3, rfl, S3.pers.drop hag, ?_⟩
      rw [hled]
      exact ret hv
    · exact hR.elim
end
end Tc
set_option maxHeartbeats 4000000
namespace Tc
open PySem PySem.Calls PyProof.Rows PySem.W
noncomputable def bit (x : Int) : Nat := 2 ^ (4 - x).toNat
noncomputable def lowM (m : Nat) (x : Int) : Nat := m / 2 ^ (5 - x).toNat * 2 ^ (5 - x).toNat
noncomputable def leapGo (rules : List (Nat × Nat)) (m : Nat) : List Int → Nat
  | [] => 15
  | x :: l => if upto (sz m) x == below (sz m) x then (if sz (lowM (ledGo rules 4 (lowM m x ||| bit x)) x) == sz (lowM m x) then ledGo rules 4 (lowM m x ||| bit x) else leapGo rules m l) else leapGo rules m l
noncomputable abbrev sizes4 : List Int := [4, 3, 2, 1]
theorem take_sz : ∀ m < 16, ∀ x ∈ sizes4, (sz m).take (below (sz m) x) = sz (lowM m x) := by decide +kernel
theorem low_bit : ∀ m < 16, ∀ x ∈ sizes4, sz (lowM m x) ++ [x] = sz (lowM m x ||| bit x) ∧ (lowM m x ||| bit x) < 16 := by decide +kernel
theorem stepM_lt {g : Nat} {r : Nat × Nat} (hg : g < 16) (hr : r.2 < 16) : stepM g r < 16 := by
  unfold stepM
  split
  · exact or_lt _ hg _ hr
  · exact hg
theorem round_lt : ∀ {rules : List (Nat × Nat)} {g : Nat}, g < 16 → (∀ r ∈ rules, r.1 < 16 ∧ r.2 < 16) → rules.foldl stepM g < 16
  | [], _, hg, _ => hg
  | r :: l, _, hg, h => round_lt (rules := l) (stepM_lt hg (h r (.head _)).2) fun q hq => h q (.tail _ hq)
theorem ledGo_lt {rules : List (Nat × Nat)} (h : ∀ r ∈ rules, r.1 < 16 ∧ r.2 < 16) : ∀ {n g : Nat}, g < 16 → ledGo rules n g < 16
  | 0, _, hg => hg
  | n + 1, g, hg => by
    rw [ledGo]
    split
    · exact round_lt hg h
    · exact ledGo_lt h (round_lt hg h)
section
variable {prog : Program} {w : World} {A : Around} {env : Env} {T : Tr} {g : Heap} {ρ ρ' : List (Str × V)}
theorem Ev.cast {M : Model} {e : Expr} {x y : PyData} (h : Ev M A env T g ρ e (.d x)) (q : x = y) : Ev M A env T g ρ e (.d y) := q ▸ h
theorem leap_cl {k m : Nat} {rr rh : V} {rules : List (Nat × Nat)} (F : Fine A (k + 4)) (hr : rr.asList = some (rules.map rl)) (hrs : ∀ r ∈ rules, r.1 < 16 ∧ r.2 < 16) (hh : rh.asList = some ((sz m).map .int)) (hm : m < 16) : Cl (model prg w) A (.ref 382) (Wd w T) T [rr, rh] (fun h v => Vr T h v (.d (il (sz (leapGo rules m sizes4))))) := by
  refine Cl.mk (ρ := [(S "rules", rr), (S "held", rh)]) F rfl rfl rfl rfl (fun s vs G xs => ?_) (fun L T' g h₁ tk s₀ G F' hT hst S => ?_)
  · obtain _ | ⟨xa, _ | ⟨xb, _ | _⟩⟩ := xs
    rename_i va vb
    exact ⟨[(S "rules", va), (S "held", vb)], kp_binds G.in_ fun _ => rfl, .cons xa (.cons xb .nil), rfl⟩
  have hsm := sz_len hm
  have hz : sizeLine = 16777216 := rfl
  have F3 := F'.less (m := k + 1) (by omega)
  refine X.forG (xs := sizes4) (fun i ρ' => ρ' = [(Tc.S "rules", rr), (Tc.S "held", rh)] ∧ leapGo rules m sizes4 = leapGo rules m (sizes4.drop i)) (fun _ => False) (S := S) ⟨rfl, rfl⟩
    (EvIt.list F'.han (EvN.list (ds := [.int 4, .int 3, .int 2, .int 1]) (.cons Ev.int (.cons Ev.int (.cons Ev.int (.cons Ev.int .nil))))).ev) (fun i hi ρ' g' hR hp S' => ?_) (fun ρ' h2 tk2 hR S2 => ?_)
  · obtain ⟨rfl, hlp⟩ := hR
    have G' : TopH w g' := G.pers S.high hp
    refine ⟨_, Tgt.name, fun h2 tk2 S2 => ?_⟩
    have hxm : sizes4[i] ∈ sizes4 := List.getElem_mem hi
    rw [List.drop_eq_getElem_cons hi] at hlp
    generalize sizes4[i] = x at hlp S2 hxm
    have hbl : below (sz m) x ≤ (sz m).length := below_le _ _
    obtain ⟨hlb, hlt⟩ := low_bit m hm x hxm
    have htk := take_sz m hm x hxm
    have hgl := ledGo_lt hrs (n := 4) hlt
    generalize hgm : ledGo rules 4 (lowM m x ||| bit x) = gm at hgl
    rw [show leapGo rules m (x :: sizes4.drop (i + 1)) = (if upto (sz m) x == below (sz m) x then (if sz (lowM (ledGo rules 4 (lowM m x ||| bit x)) x) == sz (lowM m x) then ledGo rules 4 (lowM m x ||| bit x) else leapGo rules m (sizes4.drop (i + 1))) else leapGo rules m (sizes4.drop (i + 1))) from rfl, hgm] at hlp
    have htk2 := take_sz gm hgl x hxm
    have hbl2 : below (sz gm) x ≤ (sz gm).length := below_le _ _
    have hsg := sz_len hgl
    have cut : ∀ {a : Nat} {b : Nat}, ((sz a).map PyData.int).take ((b : Int)).toNat = ((sz a).take b).map PyData.int := fun {a b} => by rw [Int.toNat_natCast, List.map_take]
    refine X.assign S2 (EvP.callD G' rfl rfl (Ev.glob G' rfl) (.cons (Ev.name rfl) (.cons (Ev.name rfl) .nil)) (bisect_left_cl F3 hh (sz_up hm) (sz_lt (b := 0) hm)) fun h S => Wd.of G' S) fun h3 tk3 S3 => ?_
    refine X.ite S3 (EvB.cmpV (EvP.callD G' rfl rfl (Ev.glob G' rfl) (.cons (Ev.name rfl) (.cons (Ev.name rfl) .nil)) (bisect_right_cl F3 hh (sz_up hm) (sz_lt (b := 0) hm)) fun h S => Wd.of G' S) (Ev.name rfl) Op2.eq) (fun hc h4 tk4 S4 => ?_) (fun hc h4 tk4 S4 => ?_)
    · have hc2 : (upto (sz m) x == below (sz m) x) = true := by
        rw [beq_iff_eq] at hc ⊢; exact Int.ofNat_inj.mp hc
      rw [hc2, if_pos rfl] at hlp
      refine X.assign S4 (EvP.callD G' rfl rfl (Ev.glob G' rfl) (.cons (Ev.name rfl) (.cons (Ev.cast (EvN.add (EvN.slice (ds := ((sz m).map PyData.int).take (((below (sz m) x : Nat) : Int)).toNat) (Ev.name rfl) hh .none (.some (Ev.name rfl)) (by rw [List.length_map]; omega) (pick_upto (by omega) (by rw [List.length_map]; omega))).ev rfl (EvN.list (ds := [.int x]) (.cons (Ev.name rfl) .nil) (show 1 ≤ sizeLine by decide)).ev rfl (by rw [List.length_take, List.length_map]; simp only [List.length_cons, List.length_nil]; omega)).ev (y := il (sz (lowM m x ||| bit x))) (by
          rw [cut, htk, ← hlb, il, List.map_append]; rfl)) .nil)) (led_on_cl F' hr hrs (m := lowM m x ||| bit x) rfl hlt) fun h S => Wd.of G' S) fun h5 tk5 S5 => ?_
      rw [hgm] at S5
      refine X.ite S5 (EvB.cmpV (Ev.cast (EvN.slice (ds := ((sz gm).map PyData.int).take (((below (sz gm) x : Nat) : Int)).toNat) (Ev.name rfl) rfl .none (.some (EvP.callD G' rfl rfl (Ev.glob G' rfl) (.cons (Ev.name rfl) (.cons (Ev.name rfl) .nil)) (bisect_left_cl F3 rfl (sz_up hgl) (sz_lt (b := 0) hgl)) fun h S => Wd.of G' S)) (by rw [List.length_map]; omega) (pick_upto (by omega) (by rw [List.length_map]; omega))).ev (y := il (sz (lowM gm x))) (by rw [cut, htk2])) (Ev.cast (EvN.slice (ds := ((sz m).map PyData.int).take (((below (sz m) x : Nat) : Int)).toNat) (Ev.name rfl) hh .none (.some (Ev.name rfl)) (by rw [List.length_map]; omega) (pick_upto (by omega) (by rw [List.length_map]; omega))).ev (y := il (sz (lowM m x))) (by rw [cut, htk])) (Op2.eqI F')) (fun hd h6 tk6 S6 => ?_) (fun hd h6 tk6 S6 => ?_)
      · rw [hd, if_pos rfl] at hlp
        refine X.ret S6 (Ev.name rfl) fun h7 tk7 v S7 hv => ⟨h7, tk7, rfl, hp.trans S7.pers, ?_⟩
        rw [hlp]
        exact Rd.less hT hv
      · rw [hd, if_neg Bool.false_ne_true] at hlp
        exact X.nil (X.nil (X.nil ⟨h6, tk6, _, rfl, S6.fit (l := [(Tc.S "rules", rr), (Tc.S "held", rh)]) ⟨rfl, rfl, trivial⟩, rfl, hlp⟩))
    · have hc2 : (upto (sz m) x == below (sz m) x) = false := by
        rw [beq_eq_false_iff_ne] at hc ⊢; exact fun q => hc (congrArg Int.ofNat q)
      rw [hc2, if_neg Bool.false_ne_true] at hlp
      exact X.nil (X.nil ⟨h4, tk4, _, rfl, S4.fit (l := [(Tc.S "rules", rr), (Tc.S "held", rh)]) ⟨rfl, rfl, trivial⟩, rfl, hlp⟩)
  · rcases hR with ⟨rfl, hlp⟩ | hR
    · refine X.ret S2 (EvN.list (ds := [.int 1, .int 2, .int 3, .int 4]) (.cons Ev.int (.cons Ev.int (.cons Ev.int (.cons Ev.int .nil))))).ev fun h3 tk3 v S3 hv => ⟨h3, tk3, rfl, S3.pers, ?_⟩
      rw [hlp]
      exact Rd.less hT hv
    · exact hR.elim
end
end Tc
set_option maxHeartbeats 4000000
namespace Tc
open PySem PySem.Calls PyProof.Rows PySem.W
theorem band_nat : ∀ a < 16, ∀ b < 16, Builtin.bitAnd (a : Nat) (b : Nat) = ((a &&& b : Nat) : Int) := by decide +kernel
theorem bor_nat : ∀ a < 16, ∀ b < 16, Builtin.bitOr (a : Nat) (b : Nat) = ((a ||| b : Nat) : Int) := by decide +kernel
theorem and_lt : ∀ a < 16, ∀ b < 16, a &&& b < 16 := by decide +kernel
noncomputable def pr (r : Nat × Nat) : PyData := .tuple [.int (r.1 : Nat), .int (r.2 : Nat)]
noncomputable def meetOf (masks : List Nat) (h : Nat) : Nat := masks.foldl (fun mt mk => if (mk &&& h) == h then mt &&& mk else mt) 15
noncomputable def badFor (h : Nat) (r : Nat × Nat) : Bool := (r.1 &&& h) == r.1 && (r.2 &&& h) != r.2
noncomputable def defStep (masks : List Nat) (st : List (Nat × Nat) × List (Nat × Nat)) (h : Nat) : List (Nat × Nat) × List (Nat × Nat) :=
  if st.2.filter (badFor h) == [] then (st.1 ++ [(h, meetOf masks h)], if meetOf masks h != h then st.2 ++ [(h, meetOf masks h)] else st.2) else st
noncomputable def byDef (masks : List Nat) : List (Nat × Nat) := ((List.range 16).foldl (defStep masks) ([], [])).1
theorem meetOf_lt {masks : List Nat} (hm : ∀ m ∈ masks, m < 16) (h : Nat) : meetOf masks h < 16 := by
  unfold meetOf
  suffices ∀ (l : List Nat) (b : Nat), (∀ m ∈ l, m < 16) → b < 16 → l.foldl (fun mt mk => if (mk &&& h) == h then mt &&& mk else mt) b < 16 from this masks 15 hm (by decide)
  intro l
  induction l with
  | nil => exact fun b _ hb => hb
  | cons x l ih =>
    intro b hl hb
    refine ih _ (fun m hm => hl m (.tail _ hm)) ?_
    show (if (x &&& h) == h then b &&& x else b) < 16
    split
    · exact and_lt _ hb _ (hl x (.head _))
    · exact hb
section
variable {prog : Program} {w : World} {A : Around} {env : Env} {T : Tr} {g h : Heap} {ρ ρ' : List (Str × V)}
theorem St.val {x : Str} {r : V} (S : St env T g ρ h) (hx : ρ.lookup x = some r) (hk : env.kindOf x = some .local ∨ env.kindOf x = some .cell) : ∃ v, Vr T h v r := by
  rcases hk with hk | hk
  · obtain ⟨m, _, k⟩ := S.ns
    obtain ⟨v, _, y⟩ := k x _ hx hk
    exact ⟨v, y⟩
  · obtain ⟨c, w', _, _, z⟩ := S.cl x (.inl hk)
    obtain ⟨v, _, y⟩ := z _ hx
    exact ⟨v, y⟩
/-- a value that is there ahead of the list at a -/
theorem St.rest {x : Str} {r : V} {a : Addr} (S : St env T g ρ h) (hx : ρ.lookup x = some r) (hk : env.kindOf x = some .local ∨ env.kindOf x = some .cell) (ha : T.off a) : (∀ ds, V.turn a ds r r) ∧ (r.still T → r.still (T.add a)) ∧ V.fix a r r := by
  cases r with
  | d _ => exact ⟨fun _ => .d _, fun _ => trivial, .d _⟩
  | v _ => exact ⟨fun _ => .v _, fun _ => trivial, .v _⟩
  | t y b ds =>
    obtain ⟨v, z⟩ := S.val hx hk
    have hb : b ≠ a := fun q => Tr.off_iff.mp ha (q ▸ z.2.1)
    refine ⟨fun _ => .t hb, fun hs q => ?_, .t hb⟩
    rcases List.mem_cons.mp q with q | q
    · exact hb q
    · exact hs q
  | o b ds =>
    obtain ⟨v, z⟩ := S.val hx hk
    have hb : b ≠ a := fun q => Tr.off_iff.mp ha (q ▸ z.2.1)
    refine ⟨fun _ => .o hb, fun hs q => ?_, .o hb⟩
    rcases List.mem_cons.mp q with q | q
    · exact hb q
    · exact hs q
theorem EvIt.comap {α β : Type} {e : Expr} {fx : Bool} {xs : List α} {rep : β → PyData} {f : α → β} (x : EvIt prog w A env T g ρ e fx (xs.map f) rep) : EvIt prog w A env T g ρ e fx xs fun a => rep (f a) := by
  intro s Q E S q
  refine x s Q E S fun h0 h' tk I fp P Stt W e0 e1 hI st ok hfp hfx hrep => ?_
  rw [List.length_map] at W
  exact q h0 h' tk I fp P Stt W e0 e1 hI st ok hfp hfx fun i v a ha hp => hrep i v (f a) (by rw [List.getElem?_map, ha]; rfl) hp
theorem EvB.cast {M : Model} {e : Expr} {x y : Bool} (h : EvB M A env T g ρ e x) (q : x = y) : EvB M A env T g ρ e y := q ▸ h
theorem beq_cast (a b : Nat) : ((a : Int) == (b : Int)) = (a == b) := by
  rw [Bool.eq_iff_iff, beq_iff_eq, beq_iff_eq, Int.ofNat_inj]
theorem bne_cast (a b : Nat) : ((a : Int) != (b : Int)) = (a != b) := by
  rw [bne, bne, beq_cast]
theorem lay_pr : ∀ (l : List (Nat × Nat)), PyData.canLayAll0 (l.map pr) = true
  | [] => rfl
  | _ :: ds => by rw [List.map_cons, PyData.canLayAll0, lay_pr ds]; rfl
theorem eqv_nil {α : Type} [BEq α] (f : α → PyData) (l : List α) : PyData.eqv (.list (l.map f)) (.list []) = (l == []) := by
  cases l <;> rfl
theorem shaped_map {α : Type} (f : α → Int) (l : List α) : SeqAt.shaped (.list (l.map fun a => .int (f a))) = true := by
  have := shaped_il (l.map f)
  rw [il, List.map_map] at this
  exact this
theorem shaped_ints (l : List Int) : SeqAt.shaped (.list (l.map .int)) = true := shaped_il l
theorem by_def_cl {k : Nat} {rr : V} {masks : List Nat} (F : Fine A (k + 2)) (hr : rr.asList = some (masks.map fun (m : Nat) => PyData.int (m : Int))) (hm : ∀ m ∈ masks, m < 16) : Cl (model prg w) A (.ref 392) (Wd w T) T [rr] (fun h v => Vr T h v (.d (.list ((byDef masks).map rl)))) := by
  refine Cl.mk (ρ := [(S "masks", rr)]) F rfl rfl rfl rfl (fun s vs G xs => ?_) (fun L T' g h₁ tk s₀ G F' hT hst S => ?_)
  · obtain _ | ⟨xa, _ | _⟩ := xs
    rename_i va
    exact ⟨[(S "masks", va)], kp_binds G.in_ fun _ => rfl, .cons xa .nil, rfl⟩
  refine X.assignOwn S (EvN.list (ds := []) .nil) fun a h1 tk1 hag haT S1 => ?_
  refine X.assignOwn S1 (EvN.list (ds := []) .nil) fun b h2 tk2 hbg hbT S2 => ?_
  have hab : a ≠ b := fun q => (Tr.off_add.mp hbT).1 q.symm
  have hba : b ≠ a := fun q => hab q.symm
  obtain ⟨ta, sa, _⟩ := S.rest (x := Tc.S "masks") rfl (.inl rfl) haT
  obtain ⟨tb, sb, _⟩ := S1.rest (x := Tc.S "masks") rfl (.inl rfl) hbT
  have hst2 : rr.still ((T'.add a).add b) := sb (sa (hst (Tc.S "masks") rr rfl))
  refine X.forFold (xs := List.range 16) (rep := fun (n : Nat) => PyData.int (n : Int)) (defStep masks) (fun st => [(Tc.S "masks", rr), (Tc.S "due", .o a (st.1.map rl)), (Tc.S "base", .o b (st.2.map pr))]) (fun i st => st.1.length ≤ i ∧ st.2.length ≤ i ∧ ∀ r ∈ st.2, r.1 < 16 ∧ r.2 < 16) ([], []) S2 ⟨rfl, rfl, rfl, trivial⟩ ⟨Nat.le_refl _, Nat.le_refl _, fun r hr => nomatch hr⟩ ?_ (fun i n hn st g' hI hp S' => ⟨_, Tgt.nameC, fun h3 tk3 S3 => ?_⟩) (fun hI h3 tk3 S3 => ?_)
  · exact EvIt.comap (f := fun (n : Nat) => (n : Int)) (EvIt.range1 F'.han (Ev.built G rfl rfl) Ev.int rfl (by decide))
  · have hn16 : n < 16 := by
      have := List.mem_of_getElem? hn
      exact List.mem_range.mp this
    have hi16 : i < 16 := by
      have := (List.getElem?_eq_some_iff.mp hn).1
      simpa using this
    obtain ⟨hI1, hI2, hI3⟩ := hI
    have G' : TopH w g' := G.pers S2.high hp
    have hz : sizeLine = 16777216 := rfl
    refine X.ite S3 (EvB.cmpV (EvP.compB (ρc := [(Tc.S "held", .d (.int n))]) (rep := pr) (fun r => [(Tc.S "end", .d (.int r.2)), (Tc.S "premise", .d (.int r.1))]) (badFor n) (fun r => .int r.1) (EvIt.own F'.han (Ev.name rfl) rfl) rfl (.cons rfl .nil) (.cons rfl rfl .nil) (fun C D r hr => Tgt.pair F'.han) (fun C D r hr => .inr ⟨_, rfl, ?_⟩) (fun C D a ha _ => Ev.name rfl) (by omega)) (EvN.list (ds := []) .nil).ev (Op2.eqD F' ?_ rfl)) (fun hc h4 tk4 S4 => ?_) (fun hc h4 tk4 S4 => ?_)
    · have h1 : r.1 < 16 ∧ r.2 < 16 := hI3 r hr
      refine EvB.cast (EvB.and (EvB.cmpV (Ev.bin (Ev.name rfl) (Ev.nameC rfl) Op2.band) (Ev.name rfl) Op2.eq) (fun _ => EvB.cmpV (Ev.bin (Ev.name rfl) (Ev.nameC rfl) Op2.band) (Ev.name rfl) Op2.ne)) ?_
      rw [band_nat _ h1.1 _ hn16, band_nat _ h1.2 _ hn16, beq_cast, bne_cast]
      rfl
    · exact shaped_map (fun r : Nat × Nat => (r.1 : Int)) _
    · have hc2 : (st.2.filter (badFor n) == []) = true := by rw [← hc]; exact (eqv_nil _ _).symm
      have hstep : defStep masks st n = (st.1 ++ [(n, meetOf masks n)], if meetOf masks n != n then st.2 ++ [(n, meetOf masks n)] else st.2) := if_pos hc2
      refine X.assign S4 Ev.int fun h5 tk5 S5 => ?_
      refine X.forFold (xs := masks) (rep := fun (n : Nat) => PyData.int (n : Int)) (fun mt mk => if (mk &&& n) == n then mt &&& mk else mt) (fun mt => [(Tc.S "masks", rr), (Tc.S "due", .o a (st.1.map rl)), (Tc.S "base", .o b (st.2.map pr)), (Tc.S "held", .d (.int (n : Int))), (Tc.S "meet", .d (.int (mt : Nat)))]) (fun _ mt => mt < 16) 15 S5 ⟨rfl, rfl, rfl, rfl, rfl, trivial⟩ (by decide)
        (EvIt.listP F'.han (Ev.name rfl) hr fun _ => hst2) (fun j mk hmk mt g2 hmt hp2 S6 => ⟨_, Tgt.name, fun h6 tk6 S7 => ?_⟩) (fun hmt h6 tk6 S6 => ?_)
      · have hmk16 := hm mk (List.mem_of_getElem? hmk)
        refine X.ite (c := (mk &&& n) == n) S7 (EvB.cast (EvB.cmpV (Ev.bin (Ev.name rfl) (Ev.nameC rfl) Op2.band) (Ev.nameC rfl) Op2.eq) (by rw [band_nat _ hmk16 _ hn16, beq_cast])) (fun hd h7 tk7 S8 => ?_) (fun hd h7 tk7 S8 => ?_)
        · refine X.assign S8 (Ev.bin (Ev.name rfl) (Ev.name rfl) Op2.band) fun h8 tk8 S9 => X.nil (X.nil ?_)
          rw [band_nat _ hmt _ hmk16] at S9
          simp only [hd, if_true]
          exact ⟨.inl rfl, h8, tk8, rfl, S9.fit ⟨rfl, rfl, rfl, rfl, rfl, trivial⟩, and_lt _ hmt _ hmk16⟩
        · refine X.nil (X.nil ?_)
          simp only [hd, Bool.false_eq_true, if_false]
          exact ⟨.inl rfl, h7, tk7, rfl, S8.fit ⟨rfl, rfl, rfl, rfl, rfl, trivial⟩, hmt⟩
      · have hmeet : masks.foldl (fun mt mk => if (mk &&& n) == n then mt &&& mk else mt) 15 = meetOf masks n := rfl
        rw [hmeet] at S6 hmt
        generalize hme : meetOf masks n = me at S6 hmt hstep
        refine X.append (ρ' := [(Tc.S "masks", rr), (Tc.S "due", .o a ((st.1 ++ [(n, me)]).map rl)), (Tc.S "base", .o b (st.2.map pr)), (Tc.S "held", .d (.int (n : Int))), (Tc.S "meet", .d (.int (me : Nat)))]) S6 (Ev.name rfl) (Ev.tuple (ds := [il (sz n), il (sz me)]) (.cons (EvP.callD G' rfl rfl (Ev.glob G' rfl) (.cons (Ev.nameC rfl) .nil) (sizes_cl F' (by omega) (by omega)) fun h S => Wd.of G' S) (.cons (EvP.callD G' rfl rfl (Ev.glob G' rfl) (.cons (Ev.name rfl) .nil) (sizes_cl F' (by omega) (by omega)) fun h S => Wd.of G' S) .nil)) (show 2 ≤ sizeLine by decide)) (List.mem_cons_of_mem _ (.head _)) (by rw [List.length_map]; omega) ⟨⟨_, rfl, ta _⟩, ⟨_, rfl, ?_⟩, ⟨_, rfl, .o hba⟩, ⟨_, rfl, .d _⟩, ⟨_, rfl, .d _⟩, trivial⟩ fun h7 tk7 S7 => ?_
        · rw [List.map_append]; exact .me
        refine X.ite (c := me != n) S7 (EvB.cast (EvB.cmpV (Ev.name rfl) (Ev.nameC rfl) Op2.ne) (bne_cast _ _)) (fun hd h8 tk8 S8 => ?_) (fun hd h8 tk8 S8 => ?_)
        · rw [hd, if_pos rfl] at hstep
          refine X.append (ρ' := [(Tc.S "masks", rr), (Tc.S "due", .o a ((st.1 ++ [(n, me)]).map rl)), (Tc.S "base", .o b ((st.2 ++ [(n, me)]).map pr))]) S8 (Ev.name rfl) (Ev.tuple (ds := [.int n, .int me]) (.cons (Ev.nameC rfl) (.cons (Ev.name rfl) .nil)) (show 2 ≤ sizeLine by decide)) (.head _) (by rw [List.length_map]; omega) ⟨⟨_, rfl, tb _⟩, ⟨_, rfl, .o hab⟩, ⟨_, rfl, ?_⟩, trivial⟩ fun h9 tk9 S9 => X.nil (X.nil (X.nil ?_))
          · rw [List.map_append]; exact .me
          · refine ⟨.inl rfl, h9, tk9, rfl, ?_⟩
            rw [hstep]
            exact ⟨S9, by rw [List.length_append]; exact Nat.succ_le_succ hI1, by rw [List.length_append]; exact Nat.succ_le_succ hI2, fun r hr => by
              rcases List.mem_append.mp hr with hr | hr
              · exact hI3 r hr
              · rw [List.mem_singleton.mp hr]; exact ⟨hn16, hmt⟩⟩
        · rw [hd, if_neg Bool.false_ne_true] at hstep
          refine X.nil (X.nil (X.nil ⟨.inl rfl, h8, tk8, rfl, ?_⟩))
          rw [hstep]
          exact ⟨S8.fit ⟨rfl, rfl, rfl, trivial⟩, by rw [List.length_append]; exact Nat.succ_le_succ hI1, Nat.le_succ_of_le hI2, hI3⟩
    · have hc2 : (st.2.filter (badFor n) == []) = false := by rw [← hc]; exact (eqv_nil _ _).symm
      have hstep : defStep masks st n = st := if_neg (by rw [hc2]; exact Bool.false_ne_true)
      refine X.nil (X.nil ⟨.inl rfl, h4, tk4, rfl, S4.fit ⟨rfl, ?_, ?_, trivial⟩, ?_⟩)
      · rw [hstep]; rfl
      · rw [hstep]; rfl
      · rw [hstep]; exact ⟨by omega, by omega, hI3⟩
  · refine X.ret S3 (Ev.name rfl) fun h4 tk4 v S4 hv => ⟨h4, tk4, rfl, (S4.pers.drop hbg).drop hag, ?_⟩
    have v1 : Vr (T'.add a) h4 v (.o a ((byDef masks).map rl)) := Vr.fix hbT (.o hab) hv
    exact Rd.less hT (Vr.fix haT .me v1)
end
end Tc
set_option maxHeartbeats 1000000
namespace Tc
open PySem PySem.Calls PyProof.Rows PySem.W
section
variable {prog : Program} {w : World} {A : Around} {env : Env} {T : Tr} {g h : Heap} {ρ ρ' : List (Str × V)}
noncomputable abbrev isS (T : Tr) (x : Str) : Heap → Value → Prop := fun h v => Vr T h v (.d (.str x))
theorem Op2.addS {a b : Str} {T1 T2 : Tr} (hsz : a.length + b.length ≤ sizeLine) : Op2 (model prog w) A (binaryOp .Add) (isS T1 a) (isS T2 b) (isS T (a ++ b)) := by
  intro s va vb Q E x y q
  obtain ⟨t, rfl⟩ := x.strE
  obtain ⟨u, rfl⟩ := y.strE
  exact PyProof.Rows.add_str (fun t' tk => q s.heap tk _ .refl (.str _ _)) hsz
noncomputable def repS (x : Str) (n : Int) : Str := ⟨(List.replicate n.toNat x.cps).foldl (· ++ ·) #[]⟩
theorem Op2.mulS {a : Str} {n : Int} {T1 T2 : Tr} (h0 : 0 ≤ n) (h1 : n ≤ 1000) (ha : a.length ≤ 1000) (ha0 : 0 < a.length) : Op2 (model prog w) A (binaryOp .Mult) (isS T1 a) (isI T2 n) (isS T (repS a n)) := by
  intro s va vb Q E x y q
  obtain ⟨t, rfl⟩ := x.strE
  obtain ⟨u, rfl⟩ := y.intE
  have hm : a.length * n.toNat ≤ 1000 * 1000 := Nat.mul_le_mul ha (by omega)
  have hlen : (repS a n).length = a.length * n.toNat := by
    have : ∀ (k : Nat) (acc : Array Nat), ((List.replicate k a.cps).foldl (· ++ ·) acc).size = acc.size + k * a.cps.size := by
      intro k
      induction k with
      | zero => intro acc; simp
      | succ k ih => intro acc; rw [List.replicate_succ, List.foldl_cons, ih, Array.size_append, Nat.succ_mul]; omega
    show ((List.replicate n.toNat a.cps).foldl (· ++ ·) #[]).size = _
    rw [this]; simp [Str.length, Nat.mul_comm]
  have hz : sizeLine = 16777216 := rfl
  have fits : Builtin.Str.tooLong (a.length * n.toNat) = false := by
    unfold Builtin.Str.tooLong
    exact decide_eq_false (by omega)
  refine P.mul_str ?_ (fun _ _ => ?_) (fun _ _ => fits) ?_
  · rw [decide_eq_false (by omega), decide_eq_false (by omega)]; rfl
  · have : (2 ^ 63 - 1) / n ≥ (2 ^ 63 - 1) / 1000 := by
      rename_i h2 _
      have hn : 0 < n := by omega
      exact Int.le_ediv_of_mul_le hn (by
        have : (2 ^ 63 - 1 : Int) / 1000 * n ≤ (2 ^ 63 - 1) / 1000 * 1000 := Int.mul_le_mul_of_nonneg_left h1 (by decide)
        omega)
    omega
  · by_cases hn : n < 1
    · rw [if_pos hn]
      have e : repS a n = Str.empty := by
        have : n.toNat = 0 := by omega
        unfold repS; rw [this]; rfl
      refine ⟨by decide, ?_⟩
      rw [← e]; exact q s.heap _ _ .refl (.str _ _)
    · rw [if_neg hn]
      by_cases h2 : (n == 1 || a.length == 0) = true
      · rw [if_pos h2]
        have hn1 : n = 1 := by
          rcases Bool.or_eq_true_iff.mp h2 with h2 | h2
          · exact eq_of_beq h2
          · have := eq_of_beq h2; omega
        subst hn1
        have e : repS a 1 = a := by
          show (⟨#[] ++ a.cps⟩ : Str) = a
          rw [Array.empty_append]
        show Q (.str a t) s
        have := q s.heap s.toks (.str a t) .refl (by rw [e]; exact .str _ _)
        exact this
      · rw [if_neg h2]
        refine ⟨?_, q s.heap _ _ .refl (.str _ _)⟩
        have : (repS a n).length ≤ sizeLine := by rw [hlen]; omega
        exact this
theorem strs_of {vs : List Value} {texts : List Str} (r : Rds T h vs (texts.map .str)) : ∃ l : List (Str × Tok), vs = strValues l ∧ l.map (·.1) = texts := by
  induction texts generalizing vs with
  | nil => cases r; exact ⟨[], rfl, rfl⟩
  | cons x l ih =>
    cases r with
    | cons a b =>
      obtain ⟨l', rfl, e⟩ := ih b
      cases a with
      | str _ t => exact ⟨(x, t) :: l', rfl, by rw [List.map_cons, e]⟩
/-- sep.join(xs) -/
theorem EvP.join {o e : Expr} {apos pos : Pos} {sep : Str} {r : V} {texts : List Str} (ho : Ev (model prog w) A env T g ρ o (.d (.str sep))) (he : Ev (model prog w) A env T g ρ e r) (hr : r.asList = some (texts.map .str)) (hok : JoinOk sep texts = true)
    (hbase : attributeBase o (Tc.S "join") env (eval o env) = eval o env := by rfl)
    (hfew : ((backTo pos (starEach [e] env)).all (fun x => !x.1) && (backToKw pos (keywordEach [] env)).all (fun x => x.1.isSome) && decide ([e].length + ([] : List Keyword).length + (if ([] : List Keyword).isEmpty then 0 else 1) < 30)) = true := by rfl)
    (hline : (apos.endLine == pos.line) = true := by rfl) (hst : starEach [e] env = (false, eval e env) :: starEach [] env := by rfl) : Ev (model prog w) A env T g ρ (.Call (.Attribute o (Tc.S "join") apos) [e] [] pos) (.d (.str (Str.join sep texts))) := by
  intro s Q E S q
  refine wpAny_Call_method_lateS hbase hfew hline (ho s _ _ S fun h1 t1 v1 e1 p1 => ?_)
  obtain ⟨t, rfl⟩ := p1.strE
  refine ⟨"str", "str.join", F.plainAttrs_str, F.slot_str_join, F.type_str_join, typeIs_str _ _ _, (fun _ e => nomatch e), ?_⟩
  refine method_args ((EvAs.cons he .nil hst) pos _ _ _ (S.ext e1) fun h2 t2 vs e2 p2 => ?_) hst rfl
  obtain _ | ⟨x, _ | _⟩ := p2
  obtain ⟨a, its, rfl, hl, hds⟩ := x.list hr
  obtain ⟨l, hvs, ht⟩ := strs_of hds
  have hl' : h2.IsList a (strValues l).toArray := by rw [← hvs]; exact hl.isList
  have e : Txt.join sep texts = Str.join sep texts := eq_of_beq (join_closes rfl)
  exact SC.join hl' ht hok fun t' k => q h2 k _ (e1.trans e2) (e ▸ .str _ _)
/-- a builtin that asks of a list: sum -/
theorem Cl.sum {r : V} {ds : List Int} (hA : A.handled = none) (hr : r.asList = some (ds.map .int)) (hn : ds.length ≤ 1000) (hb : ∀ x ∈ ds, 0 ≤ x ∧ x ≤ 1000000) : Cl (model prog w) A (.builtin "sum") (fun _ => True) T [r] (isI T ds.sum) := by
  intro s vs Q E _ x q
  obtain _ | ⟨x, _ | _⟩ := x
  obtain ⟨a, its, rfl, hl, hds⟩ := x.list hr
  have hlen := hds.length
  rw [Array.length_toList, List.length_map] at hlen
  have hne : a ≠ s.heap.objs.size := by obtain ⟨_, ho⟩ := hl; exact Nat.ne_of_lt (Heap.lt_size ho)
  have hval : ∀ (i : Nat) (v : Value), its[i]? = some v → ∃ t, v = Value.int (ds.getD i 0) t := by
    intro i v hv
    have hi : i < ds.length := by rw [← hlen]; exact (Array.getElem?_eq_some_iff.mp hv).1
    obtain ⟨v', hv', hr'⟩ := hds.get (ints_get hi)
    have : v' = v := by
      have hp' : its.toList[i]? = some v := by simpa using hv
      rw [hv'] at hp'; exact Option.some.inj hp'
    subst this
    have e : ds.getD i 0 = ds[i] := by rw [List.getD_eq_getElem?_getD, List.getElem?_eq_getElem hi]; rfl
    rw [e]
    cases hr' with | int _ t => exact ⟨t, rfl⟩
  have hpre : ∀ k, k ≤ ds.length → preSum (fun i => ds.getD i 0) k = (ds.take k).sum ∧ 0 ≤ (ds.take k).sum ∧ (ds.take k).sum ≤ (k : Int) * 1000000 := by
    intro k
    induction k with
    | zero => intro _; exact ⟨rfl, Int.le_refl _, by simp⟩
    | succ k ih =>
      intro hk
      obtain ⟨a1, a2, a3⟩ := ih (by omega)
      have hi : k < ds.length := hk
      have e : ds.getD k 0 = ds[k] := by rw [List.getD_eq_getElem?_getD, List.getElem?_eq_getElem hi]; rfl
      have hs : (ds.take (k + 1)).sum = (ds.take k).sum + ds[k] := by
        rw [List.take_add_one, List.getElem?_eq_getElem hi, List.sum_append]; simp
      have hd := hb _ (List.getElem_mem hi)
      refine ⟨?_, ?_, ?_⟩
      · rw [preSum, a1, e, hs]
      · rw [hs]; omega
      · rw [hs]; push_cast; omega
  refine call_sum_walk (wpAny_pyIter_list hl.isList ⟨s.heap.objs.size, [s.heap.objs.size, a], [s.heap.objs.size], its.size, fun i v => its[i]? = some v, fun i h => h.IsListIter s.heap.objs.size a i ∧ h.IsList a its, fun i => ds.getD i 0, rfl,
    Walks.list (A := A.in1) hA _ a hne its, ⟨⟨_, Heap.get?_push_size _ rfl, rfl, rfl⟩, hl.isList.push _⟩, fun b hb => ?_, hval, fun j hj => ?_, fun h' tk t' hk => ?_⟩)
  · rw [Heap.size_push]
    rcases List.mem_cons.mp hb with rfl | hb
    · exact Nat.lt_succ_self _
    · rw [List.mem_singleton.mp hb]; obtain ⟨_, ho⟩ := hl; exact Nat.lt_succ_of_lt (Heap.lt_size ho)
  · have hj' : j < ds.length := by omega
    have e : ds.getD j 0 = ds[j] := by rw [List.getD_eq_getElem?_getD, List.getElem?_eq_getElem hj']; rfl
    have hd := hb _ (List.getElem_mem hj')
    obtain ⟨a1, a2, a3⟩ := hpre (j + 1) (by omega)
    have : ((j + 1 : Nat) : Int) ≤ 1000 := by omega
    unfold InLong
    rw [a1]
    show (_ ≤ ds.getD j 0 ∧ ds.getD j 0 < _) ∧ _
    rw [e]
    omega
  · have e := (hpre its.size (by omega)).1
    rw [e, hlen, List.take_length]
    refine q h' tk _ (fun b o ho => hk b o (fun z => ?_) (Heap.get?_push_of_some _ ho)) (.int _ _)
    have := Heap.lt_size ho
    rw [List.mem_singleton.mp z] at this
    exact Nat.lt_irrefl _ this
end
end Tc
set_option maxHeartbeats 1000000
namespace Tc
open PySem PySem.Calls PyProof.Rows PySem.W
noncomputable def maxL : List Int → Int
  | [] => 0
  | d :: l => l.foldl max d
section
variable {prog : Program} {w : World} {A : Around} {env : Env} {T : Tr} {g h : Heap} {ρ ρ' : List (Str × V)}
theorem ints_at {ds : List Int} {its : Array Value} (hds : Rds T h its.toList (ds.map .int)) (i : Nat) (v : Value) (hv : its[i]? = some v) : i < ds.length ∧ ∃ t, v = Value.int (ds.getD i 0) t := by
  have hlen := hds.length
  rw [Array.length_toList, List.length_map] at hlen
  have hi : i < ds.length := by rw [← hlen]; exact (Array.getElem?_eq_some_iff.mp hv).1
  obtain ⟨v', hv', hr'⟩ := hds.get (ints_get hi)
  have : v' = v := by
    have hp' : its.toList[i]? = some v := by simpa using hv
    rw [hv'] at hp'; exact Option.some.inj hp'
  subst this
  have e : ds.getD i 0 = ds[i] := by rw [List.getD_eq_getElem?_getD, List.getElem?_eq_getElem hi]; rfl
  rw [e]
  refine ⟨hi, ?_⟩
  cases hr' with | int _ t => exact ⟨t, rfl⟩
theorem best_is (ds : List Int) : ∀ k, k < ds.length → argBest (fun i j => decide (ds.getD i 0 > ds.getD j 0)) k < ds.length ∧ ds.getD (argBest (fun i j => decide (ds.getD i 0 > ds.getD j 0)) k) 0 = maxL (ds.take (k + 1)) := by
  intro k
  induction k with
  | zero =>
    intro hk
    refine ⟨hk, ?_⟩
    cases ds with
    | nil => cases hk
    | cons d l => rfl
  | succ k ih =>
    intro hk
    obtain ⟨i1, i2⟩ := ih (by omega)
    have hm : maxL (ds.take (k + 1 + 1)) = max (maxL (ds.take (k + 1))) (ds.getD (k + 1) 0) := by
      rw [List.take_add_one, List.getElem?_eq_getElem hk]
      cases ds with
      | nil => cases hk
      | cons d l =>
        rw [List.take_succ_cons, List.cons_append, maxL, maxL, List.foldl_append]
        have : (d :: l).getD (k + 1) 0 = (d :: l)[k + 1] := by rw [List.getD_eq_getElem?_getD, List.getElem?_eq_getElem hk]; rfl
        rw [this]; rfl
    rw [argBest]
    by_cases hc : ds.getD (k + 1) 0 > ds.getD (argBest (fun i j => decide (ds.getD i 0 > ds.getD j 0)) k) 0
    · rw [if_pos (decide_eq_true hc)]
      refine ⟨hk, ?_⟩
      rw [hm, ← i2, Int.max_eq_right (Int.le_of_lt hc)]
    · rw [if_neg (by rw [decide_eq_false hc]; exact Bool.false_ne_true)]
      refine ⟨i1, ?_⟩
      rw [hm, ← i2, Int.max_eq_left (Int.not_lt.mp hc)]
theorem cmp_ints {ds : List Int} {its : Array Value} (hds : Rds T h its.toList (ds.map .int)) (A' : Around) : CmpOf prog w A' .Gt (fun i v => its[i]? = some v) fun i j => decide (ds.getD i 0 > ds.getD j 0) := by
  intro i j vi vj s Q E hi hj q
  obtain ⟨_, t, rfl⟩ := ints_at hds i vi hi
  obtain ⟨_, u, rfl⟩ := ints_at hds j vj hj
  show wpAny _ _ (compareOp .Gt _ _) Q E s
  exact PyProof.Rows.gt_int q
theorem Cl.maxL {r : V} {ds : List Int} (hA : A.handled = none) (hr : r.asList = some (ds.map .int)) (h0 : 0 < ds.length) : Cl (model prog w) A (.builtin "max") (fun _ => True) T [r] (isI T (maxL ds)) := by
  intro s vs Q E _ x q
  obtain _ | ⟨x, _ | _⟩ := x
  obtain ⟨a, its, rfl, hl, hds⟩ := x.list hr
  have hlen := hds.length
  rw [Array.length_toList, List.length_map] at hlen
  have hne : a ≠ s.heap.objs.size := by obtain ⟨_, ho⟩ := hl; exact Nat.ne_of_lt (Heap.lt_size ho)
  refine call_max_walk (wpAny_pyIter_list hl.isList ⟨s.heap.objs.size, [s.heap.objs.size, a], [s.heap.objs.size], its.size, fun i v => its[i]? = some v, fun i h => h.IsListIter s.heap.objs.size a i ∧ h.IsList a its, _, rfl,
    Walks.list (A := A.in1) hA _ a hne its, ⟨⟨_, Heap.get?_push_size _ rfl, rfl, rfl⟩, hl.isList.push _⟩, fun b hb => ?_, by omega, cmp_ints hds _, fun v h' tk hv hk => ?_⟩)
  · rw [Heap.size_push]
    rcases List.mem_cons.mp hb with rfl | hb
    · exact Nat.lt_succ_self _
    · rw [List.mem_singleton.mp hb]; obtain ⟨_, ho⟩ := hl; exact Nat.lt_succ_of_lt (Heap.lt_size ho)
  · obtain ⟨_, t, rfl⟩ := ints_at hds _ v hv
    have e := (best_is ds (its.size - 1) (by omega)).2
    rw [show its.size - 1 + 1 = ds.length from by omega, List.take_length] at e
    rw [e]
    refine q h' tk _ (fun b o ho => hk b o (fun z => ?_) (Heap.get?_push_of_some _ ho)) (.int _ _)
    have := Heap.lt_size ho
    rw [List.mem_singleton.mp z] at this
    exact Nat.lt_irrefl _ this
theorem Cl.max2 {a b : Int} (hA : A.handled = none) : Cl (model prog w) A (.builtin "max") (fun _ => True) T [.d (.int a), .d (.int b)] (isI T (max a b)) := by
  intro s vs Q E _ x q
  obtain _ | ⟨xa, _ | ⟨xb, _ | _⟩⟩ := x
  obtain ⟨ta, rfl⟩ := xa.intE
  obtain ⟨tb, rfl⟩ := xb.intE
  have hds : Rds noT s.heap (#[Value.int a ta, Value.int b tb] : Array Value).toList (([a, b] : List Int).map .int) := .cons (.int _ _) (.cons (.int _ _) .nil)
  have hT : (s.heap.push { cls := .type "tuple", data := .seq #[Value.int a ta, Value.int b tb] }).IsTuple s.heap.objs.size #[Value.int a ta, Value.int b tb] := ⟨_, Heap.get?_push_size _ rfl, rfl, _, rfl⟩
  have hne : s.heap.objs.size ≠ (s.heap.push { cls := .type "tuple", data := .seq #[Value.int a ta, Value.int b tb] }).objs.size := by rw [Heap.size_push]; exact Nat.ne_of_lt (Nat.lt_succ_self _)
  refine call_max_two (wpAny_pyIter_tuple hT ⟨_, [(s.heap.push { cls := .type "tuple", data := .seq #[Value.int a ta, Value.int b tb] } : Heap).objs.size, s.heap.objs.size], [(s.heap.push { cls := .type "tuple", data := .seq #[Value.int a ta, Value.int b tb] } : Heap).objs.size], 2, fun i v => (#[Value.int a ta, Value.int b tb] : Array Value)[i]? = some v, fun i h => h.IsTupleIter _ s.heap.objs.size i ∧ h.IsTuple s.heap.objs.size _, _, rfl,
    Walks.tuple (A := A.in1) hA _ s.heap.objs.size hne #[Value.int a ta, Value.int b tb], ⟨⟨_, Heap.get?_push_size _ rfl, rfl, rfl⟩, hT.push _⟩, fun b hb => ?_, by decide, cmp_ints hds _, fun v h' tk hv hk => ?_⟩)
  · rw [Heap.size_push, Heap.size_push]
    rcases List.mem_cons.mp hb with rfl | hb
    · rw [Heap.size_push]; exact Nat.lt_succ_self _
    · rw [List.mem_singleton.mp hb]; exact Nat.lt_succ_of_lt (Nat.lt_succ_self _)
  · obtain ⟨_, t, rfl⟩ := ints_at hds _ v hv
    have e := (best_is [a, b] 1 (Nat.lt_succ_self 1)).2
    have e2 : ([a, b] : List Int).getD (argBest (fun i j => decide (([a, b] : List Int).getD i 0 > ([a, b] : List Int).getD j 0)) (2 - 1)) 0 = max a b := e
    rw [e2]
    refine q h' tk _ (fun b o ho => hk b o (fun z => ?_) (Heap.get?_push_of_some _ (Heap.get?_push_of_some _ ho))) (.int _ _)
    have := Heap.lt_size ho
    rw [List.mem_singleton.mp z, Heap.size_push] at this
    exact Nat.lt_irrefl _ (Nat.lt_of_succ_lt this)
theorem Cl.chr {i : Int} (h0 : 0 ≤ i) (h1 : i ≤ 0x10FFFF) : Cl (model prog w) A (.builtin "chr") (fun _ => True) T [.d (.int i)] (isS T ⟨#[i.toNat]⟩) := by
  intro s vs Q E _ x q
  obtain _ | ⟨xa, _ | _⟩ := x
  obtain ⟨ta, rfl⟩ := xa.intE
  exact P.chr_of_int (by rw [decide_eq_false (by omega), decide_eq_false (by omega)]; rfl) (q s.heap _ _ .refl (.str _ _))
theorem Cl.ord {c : Nat} : Cl (model prog w) A (.builtin "ord") (fun _ => True) T [.d (.str ⟨#[c]⟩)] (isI T c) := by
  intro s vs Q E _ x q
  obtain _ | ⟨xa, _ | _⟩ := x
  obtain ⟨ta, rfl⟩ := xa.strE
  exact P.ord_of_char (q s.heap _ _ .refl (.int _ _))
theorem Cl.strInt {i : Int} (ha : i.natAbs < 2 ^ 64) : Cl (model prog w) A (.type "str") (fun _ => True) T [.d (.int i)] (isS T (Str.ofString (toString i))) := by
  intro s vs Q E _ x q
  obtain _ | ⟨xa, _ | _⟩ := x
  obtain ⟨ta, rfl⟩ := xa.intE
  refine P.str_of_int ?_ (q s.heap _ _ .refl (.str _ _))
  by_cases h : i.natAbs = 0
  · rw [h]; decide
  · exact Nat.lt_of_lt_of_le ((Nat.log2_lt h).mpr ha) (by decide)
theorem Cl.intStr {n : Int} (h0 : 0 ≤ n) (h1 : n < 10 ^ 10) : Cl (model prog w) A (.type "int") (fun _ => True) T [.d (.str (Str.ofString (toString n)))] (isI T n) := by
  intro s vs Q E _ x q
  obtain _ | ⟨xa, _ | _⟩ := x
  obtain ⟨ta, rfl⟩ := xa.strE
  exact KIN.call_num h0 h1 (q s.heap _ _ .refl (.int _ _))
end
end Tc
set_option maxHeartbeats 1000000
namespace Tc
open PySem PySem.Calls PyProof.Rows PySem.W
/-- the runs of blanks that a line's number tells -/
noncomputable def runsOf (x : Int) : List Int := ([(x.fdiv 64).fmod 4, (x.fdiv 256).fmod 4, (x.fdiv 1024).fmod 4] : List Int).take ((x.fdiv 16).fmod 4).toNat
noncomputable def colOf (runs : List Int) (behind size : Int) : Int := (runs.map fun run => size * (run.fdiv size + 1)).sum + behind
noncomputable def leadS (runs : List Int) (behind : Int) : Str := Str.join (S "") (runs.map fun run => repS (S " ") run ++ S "\t") ++ repS (S " ") behind
theorem fmod4 (y : Int) : 0 ≤ y.fmod 4 ∧ y.fmod 4 < 4 := ⟨Int.fmod_nonneg_of_pos _ (by decide), Int.fmod_lt_of_pos _ (by decide)⟩
theorem runsOf_len (x : Int) : (runsOf x).length ≤ 3 := by
  unfold runsOf; rw [List.length_take]; exact Nat.min_le_right _ _
theorem runsOf_small (x : Int) : ∀ r ∈ runsOf x, 0 ≤ r ∧ r < 4 := by
  intro r hr
  have := List.mem_of_mem_take hr
  simp only [List.mem_cons, List.not_mem_nil, or_false] at this
  rcases this with rfl | rfl | rfl <;> exact fmod4 _
theorem filter_tt {α : Type} (l : List α) : l.filter (fun _ => true) = l := List.filter_eq_self.mpr fun _ _ => rfl
theorem mul_ok {a b : Int} (h : a.natAbs < 2 ^ 40) : IntMulOk a b := by
  refine IntMulOk.of_left ?_
  unfold Builtin.Int.intBits
  split
  · exact Nat.zero_le _
  · rename_i hz
    have h0 : a.natAbs ≠ 0 := fun q => hz (by rw [Int.natAbs_eq_zero.mp q]; rfl)
    have := (Nat.log2_lt h0).mpr h
    omega
section
variable {w : World} {A : Around} {env : Env} {T : Tr} {g h : Heap} {ρ ρ' : List (Str × V)}
theorem runs_cl {k : Nat} {x : Int} (F : Fine A (k + 1)) : Cl (model prg w) A (.ref 355) (Wd w T) T [.d (.int x)] (fun h v => Vr T h v (.d (il (runsOf x)))) := by
  refine Cl.mk (ρ := [(S "x", .d (.int x))]) F rfl rfl rfl rfl (fun s vs G xs => ?_) (fun L T' g h₁ tk s₀ G F' hT hst S => ?_)
  · obtain _ | ⟨xa, _ | _⟩ := xs
    rename_i va
    exact ⟨[(S "x", va)], kp_binds G.in_ fun _ => rfl, .cons xa .nil, rfl⟩
  have h4 := fmod4 (x.fdiv 16)
  refine X.ret S (EvN.slice (da := [.int ((x.fdiv 64).fmod 4), .int ((x.fdiv 256).fmod 4), .int ((x.fdiv 1024).fmod 4)]) (EvN.list (ds := [.int ((x.fdiv 64).fmod 4), .int ((x.fdiv 256).fmod 4), .int ((x.fdiv 1024).fmod 4)]) (.cons (Ev.bin (Ev.bin (Ev.name rfl) Ev.int (Op2.fdiv (by decide) (PyProof.noPylong_small (by decide)))) Ev.int (Op2.fmod (by decide))) (.cons (Ev.bin (Ev.bin (Ev.name rfl) Ev.int (Op2.fdiv (by decide) (PyProof.noPylong_small (by decide)))) Ev.int (Op2.fmod (by decide))) (.cons (Ev.bin (Ev.bin (Ev.name rfl) Ev.int (Op2.fdiv (by decide) (PyProof.noPylong_small (by decide)))) Ev.int (Op2.fmod (by decide))) .nil))) (show 3 ≤ sizeLine by decide)).ev rfl .none
    (.some (Ev.bin (Ev.bin (Ev.name rfl) Ev.int (Op2.fdiv (by decide) (PyProof.noPylong_small (by decide)))) Ev.int (Op2.fmod (by decide)))) (show 3 ≤ sizeLine by decide) (pick_upto h4.1 (show (x.fdiv 16).fmod 4 ≤ ((3 : Nat) : Int) by omega))).ev fun h' tk' v S' hv => ⟨h', tk', rfl, S'.pers, ?_⟩
  unfold runsOf
  rw [il, List.map_take]
  exact Rd.less hT hv
theorem column_cl {k : Nat} {rr : V} {runs : List Int} {behind size : Int} (F : Fine A (k + 1)) (hr : rr.asList = some (runs.map .int)) (hl : runs.length ≤ 100) (hs : 1 ≤ size ∧ size ≤ 100) (hb : ∀ r ∈ runs, 0 ≤ r ∧ r < 100) : Cl (model prg w) A (.ref 365) (Wd w T) T [rr, .d (.int behind), .d (.int size)] (isI T (colOf runs behind size)) := by
  refine Cl.mk (ρ := [(S "runs", rr), (S "behind", .d (.int behind)), (S "size", .d (.int size))]) F rfl rfl rfl rfl (fun s vs G xs => ?_) (fun L T' g h₁ tk s₀ G F' hT hst S => ?_)
  · obtain _ | ⟨xa, _ | ⟨xb, _ | ⟨xc, _ | _⟩⟩⟩ := xs
    rename_i va vb vc
    exact ⟨[(S "runs", va), (S "behind", vb), (S "size", vc)], kp_binds G.in_ fun _ => rfl, .cons xa (.cons xb (.cons xc .nil)), rfl⟩
  have hq : ∀ r ∈ runs, 0 ≤ size * (r.fdiv size + 1) ∧ size * (r.fdiv size + 1) ≤ 1000000 := by
    intro r hr
    obtain ⟨b0, b1⟩ := hb r hr
    have e : r.fdiv size = r / size := Int.fdiv_eq_ediv_of_nonneg _ (by omega)
    have q0 : 0 ≤ r / size := Int.ediv_nonneg b0 (by omega)
    have q1 : size * (r / size) ≤ r := Int.mul_ediv_self_le (by omega)
    rw [e, Int.mul_add, Int.mul_one]
    have q2 : 0 ≤ size * (r / size) := Int.mul_nonneg (by omega) q0
    omega
  refine X.ret S (Ev.bin (EvP.callB (Ev.built G rfl rfl) (.cons (EvP.compB (ρc := [(Tc.S "size", .d (.int size))]) (fun a => [(Tc.S "run", .d (.int a))]) (fun _ => true) (fun a => .int (size * (a.fdiv size + 1))) (EvIt.own F'.han (Ev.name rfl) hr) rfl (.cons rfl .nil) (.cons rfl rfl .nil) (fun C D a ha => Tgt.name) (fun C D a ha => .inl ⟨rfl, rfl⟩)
      (fun C D a ha _ => Ev.bin (Ev.nameC rfl) (Ev.bin (Ev.bin (Ev.name rfl) (Ev.nameC rfl) (Op2.fdiv (by omega) (PyProof.noPylong_small (by omega)))) Ev.int Op2.add) (Op2.mul ?_)) (Nat.le_trans hl (by decide))) .nil) (Cl.sum (ds := runs.map fun run => size * (run.fdiv size + 1)) F'.han ?_ ?_ ?_) fun _ _ => trivial) (Ev.name rfl) Op2.add) fun h' tk' v S' hv => ⟨h', tk', rfl, S'.pers, ?_⟩
  · exact mul_ok (by omega)
  · show some _ = some _
    rw [filter_tt, List.map_map]; rfl
  · rw [List.length_map]; omega
  · intro y hy
    obtain ⟨r, hr, rfl⟩ := List.mem_map.mp hy
    exact hq r hr
  · exact Rd.less hT hv
theorem repS_len (a : Str) (n : Int) : (repS a n).length = n.toNat * a.length := by
  have : ∀ (k : Nat) (acc : Array Nat), ((List.replicate k a.cps).foldl (· ++ ·) acc).size = acc.size + k * a.cps.size := by
    intro k
    induction k with
    | zero => intro acc; simp
    | succ k ih => intro acc; rw [List.replicate_succ, List.foldl_cons, ih, Array.size_append, Nat.succ_mul]; omega
  show ((List.replicate n.toNat a.cps).foldl (· ++ ·) #[]).size = _
  rw [this]; simp [Str.length]
theorem join_small {sep : Str} {texts : List Str} {B : Nat} (hB : ∀ y ∈ texts, y.length ≤ B) (h : texts.length * B + texts.length * sep.length ≤ 10000) : JoinOk sep texts = true ∧ (Str.join sep texts).length ≤ texts.length * B + texts.length * sep.length := by
  refine ⟨by unfold JoinOk; rw [StrLaws.joinFits hB (Nat.le_trans h (by decide))]; rfl, ?_⟩
  have h1 := StrLaws.join_length_le sep texts
  have h2 := StrLaws.sumLen_le texts hB
  omega
theorem leadS_parts {runs : List Int} (hb : ∀ r ∈ runs, 0 ≤ r ∧ r < 4) : ∀ y ∈ runs.map (fun run => repS (S " ") run ++ S "\t"), y.length ≤ 4 := by
  intro y hy
  obtain ⟨r, hr, rfl⟩ := List.mem_map.mp hy
  have := hb r hr
  rw [Str.length_append, repS_len, show (S " ").length = 1 from rfl, show (S "\t").length = 1 from rfl]
  omega
theorem lead_cl {k : Nat} {rr : V} {runs : List Int} {behind : Int} (F : Fine A (k + 1)) (hr : rr.asList = some (runs.map .int)) (hl : runs.length ≤ 3) (hb : ∀ r ∈ runs, 0 ≤ r ∧ r < 4) (hh : 0 ≤ behind ∧ behind < 4) : Cl (model prg w) A (.ref 360) (Wd w T) T [rr, .d (.int behind)] (fun h v => Vr T h v (.d (.str (leadS runs behind)))) := by
  refine Cl.mk (ρ := [(S "runs", rr), (S "behind", .d (.int behind))]) F rfl rfl rfl rfl (fun s vs G xs => ?_) (fun L T' g h₁ tk s₀ G F' hT hst S => ?_)
  · obtain _ | ⟨xa, _ | ⟨xb, _ | _⟩⟩ := xs
    rename_i va vb
    exact ⟨[(S "runs", va), (S "behind", vb)], kp_binds G.in_ fun _ => rfl, .cons xa (.cons xb .nil), rfl⟩
  have js := join_small (sep := Tc.S "") (leadS_parts hb) (by rw [List.length_map, show (Tc.S "").length = 0 from rfl]; omega)
  have ls : (Tc.S " ").length = 1 := rfl
  have lt : (Tc.S "\t").length = 1 := rfl
  have hz : sizeLine = 16777216 := rfl
  refine X.ret S (Ev.bin (EvP.join Ev.str (EvP.compB (ρc := []) (fun a => [(Tc.S "run", .d (.int a))]) (fun _ => true) (fun a => .str (repS (Tc.S " ") a ++ Tc.S "\t")) (EvIt.own F'.han (Ev.name rfl) hr) rfl .nil .nil (fun C D a ha => Tgt.name) (fun C D a ha => .inl ⟨rfl, rfl⟩)
      (fun C D a ha _ => Ev.bin (Ev.bin Ev.str (Ev.name rfl) (Op2.mulS (hb a ha).1 (by have := hb a ha; omega) (by rw [ls]; decide) (by rw [ls]; decide))) Ev.str (Op2.addS ?_)) (Nat.le_trans hl (by decide))) (texts := runs.map fun run => repS (Tc.S " ") run ++ Tc.S "\t") ?_ ?_) (Ev.bin Ev.str (Ev.name rfl) (Op2.mulS hh.1 (by omega) (by rw [ls]; decide) (by rw [ls]; decide))) (Op2.addS ?_)) fun h' tk' v S' hv => ⟨h', tk', rfl, S'.pers, ?_⟩
  · have := hb a ha
    rw [repS_len, ls, lt]; omega
  · show some _ = some _
    rw [filter_tt, List.map_map]; rfl
  · exact js.1
  · have hj : (Str.join (Tc.S "") (runs.map fun run => repS (Tc.S " ") run ++ Tc.S "\t")).length ≤ 12 := by
      have := js.2
      rw [List.length_map] at this
      have e : (Tc.S "").length = 0 := rfl
      rw [e] at this
      omega
    have hp : (repS (Tc.S " ") behind).length ≤ 4 := by rw [repS_len, ls]; omega
    exact Nat.le_trans (Nat.add_le_add hj hp) (by decide)
  · exact Rd.less hT hv
end
end Tc
set_option maxHeartbeats 1000000
namespace Tc
open PySem PySem.Calls PyProof.Rows PySem.W
mutual
/-- what a display of literals is -/
noncomputable def lit : Expr → Option PyData
  | .Constant (.int i) _ _ => some (.int i)
  | .Constant (.str x) _ _ => some (.str x)
  | .List es _ => match lits es with
    | some ds => if ds.length ≤ 100 then some (.list ds) else none
    | none => none
  | _ => none
termination_by structural e => e
noncomputable def lits : List Expr → Option (List PyData)
  | [] => some []
  | e :: es => match lit e, lits es with
    | some d, some ds => some (d :: ds)
    | _, _ => none
termination_by structural es => es
end
section
variable {w : World} {A : Around} {env : Env} {T : Tr} {g h : Heap} {ρ ρ' : List (Str × V)}
theorem lit_star : ∀ (e : Expr) (d : PyData), lit e = some d → ∀ es, starEach (e :: es) env = (false, eval e env) :: starEach es env
  | .Constant .., _, _, _ => rfl
  | .List .., _, _, _ => rfl
mutual
theorem lit_ev {M : Model} : ∀ (e : Expr) (d : PyData), lit e = some d → Ev M A env T g ρ e (.d d)
  | .Constant (.int i) k p, d, h => by rw [lit] at h; cases h; exact Ev.int
  | .Constant (.str x) k p, d, h => by rw [lit] at h; cases h; exact Ev.str
  | .List es p, d, h => by
    rw [lit] at h
    cases hl : lits es with
    | none => rw [hl] at h; cases h
    | some ds =>
      rw [hl] at h
      dsimp only at h
      by_cases hn : ds.length ≤ 100
      · rw [if_pos hn] at h
        cases h
        exact (EvN.list (lits_ev es ds hl) (Nat.le_trans hn (by decide))).ev
      · rw [if_neg hn] at h; cases h
theorem lits_ev {M : Model} : ∀ (es : List Expr) (ds : List PyData), lits es = some ds → EvAs M A env T g ρ es (ds.map .d)
  | [], ds, h => by rw [lits] at h; cases h; exact .nil
  | e :: es, ds, h => by
    rw [lits] at h
    cases h1 : lit e with
    | none => rw [h1] at h; cases h
    | some d =>
      cases h2 : lits es with
      | none => rw [h1, h2] at h; cases h
      | some ds' =>
        rw [h1, h2] at h
        cases h
        exact .cons (lit_ev e d h1) (lits_ev es ds' h2) (lit_star e d h1 es)
end
/-- the spellings, by a line's number -/
noncomputable def spl : List (List (List Int)) := [[[223], [83, 173, 383], [115, 119826], [383, 83]], [[64257], [70, 8464], [119813, 8203, 105], [65279, 102, 73]], [[64261], [64262], [83, 119827], [383, 847, 116]], [[64256], [8497, 102], [70, 65039, 119813], [102, 70]]]
noncomputable def spelled (x : Int) : List Int := (spl.getD (x.fmod 4).toNat []).getD ((x.fdiv 4).fmod 4).toNat []
noncomputable def signs (l : List Int) : List Str := l.map fun c => (⟨#[c.toNat]⟩ : Str)
noncomputable def spelledS (x : Int) : Str := Str.join (S "") (signs (spelled x))
theorem spl_ok : ∀ i < 4, ∀ j < 4, ∃ l, (spl[i]? = some (spl.getD i [])) ∧ ((spl.getD i [])[j]? = some l) ∧ (spl.getD i []).getD j [] = l ∧ l.length ≤ 3 ∧ ∀ c ∈ l, 0 ≤ c ∧ c ≤ 0x10FFFF := by
  intro i hi j hj
  have : ∀ i j : Fin 4, (spl[i.1]? = some (spl.getD i.1 [])) ∧ ((spl.getD i.1 [])[j.1]? = some ((spl.getD i.1 []).getD j.1 [])) ∧ ((spl.getD i.1 []).getD j.1 []).length ≤ 3 ∧ ((spl.getD i.1 []).getD j.1 []).all (fun c => decide (0 ≤ c ∧ c ≤ 0x10FFFF)) = true := by decide
  obtain ⟨a, b, c, d⟩ := this ⟨i, hi⟩ ⟨j, hj⟩
  exact ⟨_, a, b, rfl, c, fun x hx => of_decide_eq_true (List.all_eq_true.mp d x hx)⟩
theorem sign_len (l : List Int) : ∀ y ∈ signs l, y.length ≤ 1 := by
  intro y hy
  obtain ⟨c, _, rfl⟩ := List.mem_map.mp hy
  exact Nat.le_refl 1
theorem spelled_head : ∃ e p pos, fBody (stm 20) = .Assign [.Name (S "spellings") p] e pos :: (fBody (stm 20)).drop 1 ∧ lit e = some (.list (spl.map fun l => .list (l.map il))) ∧ ∀ env, swapsWith e (some (.Name (S "spellings") p)) pos.line env = pure false :=
  ⟨_, _, _, rfl, by kernel_rfl, fun _ => rfl⟩
theorem spelled_cl {k : Nat} {x : Int} (F : Fine A (k + 1)) : Cl (model prg w) A (.ref 348) (Wd w T) T [.d (.int x)] (fun h v => Vr T h v (.d (.str (spelledS x)))) := by
  refine Cl.mk (ρ := [(S "x", .d (.int x))]) F rfl rfl rfl rfl (fun s vs G xs => ?_) (fun L T' g h₁ tk s₀ G F' hT hst S => ?_)
  · obtain _ | ⟨xa, _ | _⟩ := xs
    rename_i va
    exact ⟨[(S "x", va)], kp_binds G.in_ fun _ => rfl, .cons xa .nil, rfl⟩
  obtain ⟨e, p, pos, hb, hl, hs⟩ := spelled_head
  rw [hb]
  refine X.assign S (lit_ev e _ hl) (fun h1 tk1 S1 => ?_) rfl (hs _)
  have h4 := fmod4 x
  have h5 := fmod4 (x.fdiv 4)
  obtain ⟨l, e1, e2, e3, hl, hc⟩ := spl_ok (x.fmod 4).toNat (by omega) ((x.fdiv 4).fmod 4).toNat (by omega)
  have hsp : spelled x = l := e3
  have js := join_small (sep := Tc.S "") (sign_len l) (by unfold signs; rw [List.length_map, show (Tc.S "").length = 0 from rfl]; omega)
  refine X.ret S1 (EvP.join Ev.str (EvP.compB (ρc := []) (fx := false) (rep := .int) (fun a => [(Tc.S "code", .d (.int a))]) (fun _ => true) (fun c => .str ⟨#[c.toNat]⟩)
    (EvIt.own F'.han (Ev.item (d := il l) (ds := (spl.getD (x.fmod 4).toNat []).map il) (Ev.item (d := .list ((spl.getD (x.fmod 4).toNat []).map il)) (Ev.name rfl) rfl (Ev.bin (Ev.name rfl) Ev.int (Op2.fmod (by decide))) h4.1 (by omega) (by rw [List.getElem?_map, e1]; rfl)) rfl (Ev.bin (Ev.bin (Ev.name rfl) Ev.int (Op2.fdiv (by decide) (PyProof.noPylong_small (by decide)))) Ev.int (Op2.fmod (by decide))) h5.1 (by omega) (by rw [List.getElem?_map, e2]; rfl)) rfl)
    rfl .nil .nil (fun C D a ha => Tgt.name) (fun C D a ha => .inl ⟨rfl, rfl⟩) (fun C D a ha _ => EvP.callB (Ev.built G rfl rfl) (.cons (Ev.name rfl) .nil) (Cl.chr (hc a ha).1 (hc a ha).2) fun _ _ => trivial) (Nat.le_trans hl (by decide))) (texts := signs l) ?_ js.1) fun h' tk' v S' hv => ⟨h', tk', rfl, S'.pers, ?_⟩
  · show some _ = some _
    rw [filter_tt, signs, List.map_map]; rfl
  · unfold spelledS
    rw [hsp]
    exact Rd.less hT hv
end
end Tc
set_option maxHeartbeats 1000000
namespace Tc
open PySem PySem.Calls PyProof.Rows PySem.W
/-- an object of the class at C, with these attributes -/
structure Ins (h : Heap) (x dx C : Addr) (es : List DictEntry) : Prop where
  obj : ∃ sl, h.get? x = some ⟨.ref C, some dx, .plain, sl⟩
  dict : ∃ n, h.get? dx = some (PySem.W.dictOf es n)
theorem Ins.pers {l : List Addr} {h h' : Heap} {x dx C : Addr} {es : List DictEntry} (I : Ins h x dx C es) (hx : x ∉ l) (hd : dx ∉ l) (p : Pers l h h') : Ins h' x dx C es :=
  ⟨let ⟨sl, e⟩ := I.obj; ⟨sl, p _ _ hx e⟩, let ⟨n, e⟩ := I.dict; ⟨n, p _ _ hd e⟩⟩
theorem Ins.at_ {h : Heap} {x dx C : Addr} {es : List DictEntry} (I : Ins h x dx C es) : ∃ ox n, InstAt h x ox C (some (PySem.W.dictOf es n)) :=
  let ⟨_, e⟩ := I.obj; let ⟨n, f⟩ := I.dict; ⟨_, n, e, rfl, rfl, f⟩
section
variable {prog : Program} {w : World} {A : Around} {env : Env} {T : Tr} {g h : Heap} {ρ ρ' : List (Str × V)}
/-- x.a, an attribute of its own -/
theorem EvP.attr {o : Expr} {name : Str} {pos : Pos} {x dx C : Addr} {es : List DictEntry} {v : Value} {attr : Option Value} (G : TopH w g) (I : Ins g x dx C es) (hx : x ∉ T.m) (hd : dx ∉ T.m) (ho : Ev (model prog w) A env T g ρ o (.v (.ref x)))
    (hl : getL name es = some (some v)) (hv : handedIn v = true) (hg : plainGet (topList w.params) C name = true) (hh : hasDictIn (topList w.params) C = true) (ha : findIn (topList w.params) (.ref C) name = some attr) (hn : noGet (topList w.params) attr = true)
    (he : eval (.Attribute o name pos) env = (do
      let o' ← eval o env
      standAt pos.atName
      let r ← holding [o'] (getAttr o' name true)
      letTemporaryGo o o' r
      pure r) := by with_unfolding_all rfl) : EvP (model prog w) A env T g ρ (.Attribute o name pos) fun _ u => u = v := by
  intro s Q E S q
  refine Attribute_any_ (ho s _ _ S fun h1 t1 v1 e1 p1 => ?_) he
  cases p1
  obtain ⟨ox, n, J⟩ := (I.pers hx hd (S.ext e1).pers).at_
  exact get_value (G.on (S.ext e1)).in_ J (plainGet_of hg).1 (findObj_own hh ha hn hl) hv (q h1 _ v e1 rfl)
/-- C.a, an attribute of a class at the top -/
theorem Ev.clsAttr {o : Expr} {name : Str} {pos : Pos} {C : Addr} {v mc : Value} (G : TopH w g) (ho : Ev (model prog w) A env T g ρ o (.v (.ref C))) (hr : readsIn (topList w.params) C mc = true) (e : findCls (topList w.params) (.ref C) mc name = some (.val v)) (hv : handedIn v = true)
    (he : eval (.Attribute o name pos) env = (do
      let o' ← eval o env
      standAt pos.atName
      let r ← holding [o'] (getAttr o' name true)
      letTemporaryGo o o' r
      pure r) := by with_unfolding_all rfl) : Ev (model prog w) A env T g ρ (.Attribute o name pos) (.v v) := by
  intro s Q E S q
  refine Attribute_any_ (ho s _ _ S fun h1 t1 v1 e1 p1 => ?_) he
  cases p1
  exact cls_value (G.on (S.ext e1)).in_ hr e hv (q h1 _ v e1 rfl)
/-- x.m(..): a method of an object whose class stands at the top -/
theorem EvP.meth {o e : Expr} {es' : List Expr} {name : Str} {apos pos : Pos} {x dx C f : Addr} {es : List DictEntry} {rs : List V} {W : Heap → Prop} {P : Heap → Value → Prop} {r : V} {of : Obj} {fd : FuncData} {pl : Sem Bool} (G : TopH w g) (I : Ins g x dx C es) (hx : x ∉ T.m) (hd : dx ∉ T.m) (ho : Ev (model prog w) A env T g ρ o r) (hr : ∀ h v, Vr T h v r → v = .ref x)
    (ha : EvAs (model prog w) A env T g ρ (e :: es') rs) (hf : (topList w.params).lookup f = some of) (hfd : of.data = .func fd) (hc : Cl (model prog w) A (.ref f) W T (r :: rs) P) (hW : ∀ h, St env T g ρ h → W h)
    (hl : getL name es = some none) (hg : plainGet (topList w.params) C name = true) (hm : findIn (topList w.params) (.ref C) name = some (some (.ref f))) (ht : isFn (topList w.params) (.ref f) = true)
    (h1 : eval (.Call (.Attribute o name apos) (e :: es') [] pos) env = (do
      let ov ← eval o env
      standAt apos.atName
      let (f, first) ← holding [ov] (getMethod ov name pl)
      callWith pos f first (backTo pos (starEach (e :: es') env)) []) := by rfl)
    (he : starEach (e :: es') env = (false, eval e env) :: starEach es' env := by rfl) : EvP (model prog w) A env T g ρ (.Call (.Attribute o name apos) (e :: es') [] pos) P := by
  intro s Q E S q
  refine MethodCall_ (pl := pl) (ho s _ _ S fun h1 t1 v1 e1 p1 => ?_) h1
  obtain rfl := hr _ _ p1
  obtain ⟨ox, n, J⟩ := (I.pers hx hd (S.ext e1).pers).at_
  refine method_fn (G.on (S.ext e1)).in_ J (plainGet_of hg).1 (plainGet_of hg).2 hm (beq_iff_eq.mp ht) (by show (lookIn name (PySem.W.dictOf es n)).map _ = _; rw [lookIn_dict, hl]; rfl) ?_
  refine callWith_meth (h₀ := h1) hfd ((G.on (S.ext e1)).at_ _ _ hf) (ha pos _ _ _ (S.ext e1) fun h2 t2 vs e2 p2 => ⟨e2, ?_⟩) he
  exact hc _ _ _ _ (hW _ ((S.ext e1).ext e2)) (.cons (p1.ext e2) p2) fun h3 t3 v3 e3 p3 => q _ _ _ ((e1.trans e2).trans e3) p3
theorem EvP.meth0 {o : Expr} {name : Str} {apos pos : Pos} {x dx C f : Addr} {es : List DictEntry} {W : Heap → Prop} {P : Heap → Value → Prop} {r : V} {of : Obj} {fd : FuncData} {pl : Sem Bool} (G : TopH w g) (I : Ins g x dx C es) (hx : x ∉ T.m) (hd : dx ∉ T.m) (ho : Ev (model prog w) A env T g ρ o r) (hr : ∀ h v, Vr T h v r → v = .ref x)
    (hf : (topList w.params).lookup f = some of) (hfd : of.data = .func fd) (hc : Cl (model prog w) A (.ref f) W T [r] P) (hW : ∀ h, St env T g ρ h → W h)
    (hl : getL name es = some none) (hg : plainGet (topList w.params) C name = true) (hm : findIn (topList w.params) (.ref C) name = some (some (.ref f))) (ht : isFn (topList w.params) (.ref f) = true)
    (h1 : eval (.Call (.Attribute o name apos) [] [] pos) env = (do
      let ov ← eval o env
      standAt apos.atName
      let (f, first) ← holding [ov] (getMethod ov name pl)
      callWith pos f first (backTo pos (starEach [] env)) []) := by rfl) : EvP (model prog w) A env T g ρ (.Call (.Attribute o name apos) [] [] pos) P := by
  intro s Q E S q
  refine MethodCall_ (pl := pl) (ho s _ _ S fun h1 t1 v1 e1 p1 => ?_) h1
  obtain rfl := hr _ _ p1
  obtain ⟨ox, n, J⟩ := (I.pers hx hd (S.ext e1).pers).at_
  refine method_fn (G.on (S.ext e1)).in_ J (plainGet_of hg).1 (plainGet_of hg).2 hm (beq_iff_eq.mp ht) (by show (lookIn name (PySem.W.dictOf es n)).map _ = _; rw [lookIn_dict, hl]; rfl) ?_
  refine callWith_meth0 hfd ((G.on (S.ext e1)).at_ _ _ hf) ?_
  exact hc _ _ _ _ (hW _ (S.ext e1)) (.cons p1 .nil) fun h3 t3 v3 e3 p3 => q _ _ _ (e1.trans e3) p3
end
end Tc
set_option maxHeartbeats 1000000
namespace Tc
open PySem PySem.Calls PyProof.Rows PySem.W
/-- the heap's first 398 objects: the top's -/
noncomputable def low (h : Heap) : Heap := ⟨h.objs.extract 0 398, h.life⟩
theorem low_lt {h : Heap} {b : Nat} {o : Obj} (e : (low h).get? b = some o) : b < 398 ∧ h.get? b = some o := by
  have hb : b < (h.objs.extract 0 398).size := Heap.lt_size e
  rw [Array.size_extract] at hb
  have hb1 : b < 398 := by omega
  have hb2 : b < h.objs.size := by omega
  refine ⟨hb1, ?_⟩
  unfold Heap.get? at e ⊢
  have : (low h).objs[b]? = h.objs[b]? := by
    unfold low
    rw [Array.getElem?_extract, if_pos (show b < min 398 h.objs.size - 0 by omega), Nat.zero_add]
  rw [this] at e
  exact e
theorem low_get {h : Heap} {b : Nat} (hb : b < 398) (hs : 398 ≤ h.objs.size) : (low h).get? b = h.get? b := by
  unfold Heap.get?
  have : (low h).objs[b]? = h.objs[b]? := by
    unfold low
    rw [Array.getElem?_extract, if_pos (show b < min 398 h.objs.size - 0 by omega), Nat.zero_add]
  rw [this]
theorem low_none {h : Heap} {b : Nat} (hb : 398 ≤ b) : (low h).get? b = none := by
  cases z : (low h).get? b with
  | none => rfl
  | some o => exact absurd (low_lt z).1 (Nat.not_lt.mpr hb)
theorem low_size (h : Heap) : (low h).objs.size ≤ 398 := by
  unfold low
  rw [Array.size_extract]
  omega
/-- all objects above the top but these two -/
noncomputable def others (h : Heap) (L d : Addr) : List (Addr × Obj) := (List.range h.objs.size).filterMap fun b => if 398 ≤ b ∧ b ≠ L ∧ b ≠ d then (h.get? b).map fun o => (b, o) else none
theorem others_mem {h : Heap} {L d b : Addr} {o : Obj} (hb : 398 ≤ b) (hL : b ≠ L) (hd : b ≠ d) (e : h.get? b = some o) : (b, o) ∈ others h L d := by
  refine List.mem_filterMap.mpr ⟨b, List.mem_range.mpr (Heap.lt_size e), ?_⟩
  rw [if_pos ⟨hb, hL, hd⟩, e]; rfl
theorem others_is {h : Heap} {L d : Addr} {p : Addr × Obj} (m : p ∈ others h L d) : h.get? p.1 = some p.2 ∧ 398 ≤ p.1 ∧ p.1 ≠ L ∧ p.1 ≠ d := by
  obtain ⟨b, _, e⟩ := List.mem_filterMap.mp m
  by_cases q : 398 ≤ b ∧ b ≠ L ∧ b ≠ d
  · rw [if_pos q] at e
    cases z : h.get? b with
    | none => rw [z] at e; cases e
    | some o => rw [z] at e; cases e; exact ⟨z, q⟩
  · rw [if_neg q] at e; cases e
theorem others_news {h : Heap} {L d : Addr} : News (low h) L h (others h L d) := fun p m => let ⟨a, b, c, _⟩ := others_is m; ⟨a, c, low_none b⟩
section
variable {w : World} {env : Env} {T : Tr} {g h : Heap} {ρ : List (Str × V)}
theorem St.fr (S : St env T g ρ h) : ∃ m, Fr (low h) env.locals h m ∧ ∀ x r, ρ.lookup x = some r → env.kindOf x = some .local → ∃ v, m x = some v ∧ Vr T h v r := by
  obtain ⟨m, hm, k⟩ := S.ns
  exact ⟨m, ⟨hm, fun b o e => (low_lt e).2, Nat.le_trans (low_size h) (S.high _ (.inl S.memL))⟩, k⟩
theorem TopH.low (G : TopH w h) (hs : 398 ≤ h.objs.size) : Frag.In (topList w.params) (low h) := fun i o e => (low_get (lookup_low _ i o e) hs).trans (G.at_ i o e)
end
end Tc
set_option maxHeartbeats 1000000
namespace Tc
open PySem PySem.Calls PyProof.Rows PySem.W
section
variable {prog : Program} {w : World} {A : Around} {env : Env} {T : Tr} {g h : Heap} {ρ : List (Str × V)}
/-- x.name = v, x an object with a dict of its own -/
theorem setAttr_own {s : Shared} {x dx C : Addr} {es : List DictEntry} {name : Str} {v : Value} {Q : Unit → Shared → Prop} {E : Value → Shared → Prop} (G : TopH w s.heap) (S : St env T g ρ s.heap) (I : Ins s.heap x dx C es) (hd : dx ≠ env.locals) (hd4 : 398 ≤ dx)
    (hs : findIn (topList w.params) (.ref C) "__setattr__" = some (some (.builtin "object.__setattr__"))) (hp : plainOver (topList w.params) C = true) (ht : takerIn (topList w.params) C name = some none) (hh : hasDictIn (topList w.params) C = true) (hl : (getL name es).isSome = true)
    (hz : (putL name (PyData.keyHash w.params name) (.str name (s.toks + 1)) v es).length ≤ 1000)
    (k : ∀ h', Pers [dx, env.locals] s.heap h' → (∀ m, s.heap.Ns env.locals m → h'.Ns env.locals m) → Ins h' x dx C (putL name (PyData.keyHash w.params name) (.str name (s.toks + 1)) v es) → Q () { s with heap := h', toks := s.toks + 2 }) :
    wpAny (model prog w) A (setAttr (.ref x) name v) Q E s := by
  obtain ⟨sl, ho⟩ := I.obj
  obtain ⟨n, hdx⟩ := I.dict
  obtain ⟨m, F, _⟩ := S.fr
  have hne : x ≠ dx := by
    rintro rfl
    rw [ho] at hdx
    cases hdx
  have N : News (low s.heap) env.locals s.heap ((dx, PySem.W.dictOf es n) :: others s.heap env.locals dx) := fun p hm => by
    rcases List.mem_cons.mp hm with rfl | hm
    · exact ⟨hdx, hd, low_none hd4⟩
    · exact others_news p hm
  have hxL : x ≠ env.locals := by
    rintro rfl
    obtain ⟨o, es', ep', ho', hd', _⟩ := F.ns
    rw [ho] at ho'
    cases ho'
    cases hd'
  have keep : ∀ h', Fr (low s.heap) env.locals h' m → News (low s.heap) env.locals h' ((dx, PySem.W.dictOf (putL name (PyData.keyHash w.params name) (.str name (s.toks + 1)) v es) (putN name es n)) :: others s.heap env.locals dx) → Pers [dx, env.locals] s.heap h' := by
    intro h' F' N' b o nb e
    by_cases hb : b < 398
    · exact F'.keep b o ((low_get hb S.big).trans e)
    · exact (N' _ (.tail _ (others_mem (Nat.not_lt.mp hb) (fun q => nb (q ▸ .tail _ (.head _))) (fun q => nb (q ▸ .head _)) e))).1
  refine set_dict (n := n) (K := topList w.params) (C := C) F (G.low S.big) N ⟨ho, rfl, rfl, hdx⟩ rfl hs hp ht hh hl rfl (.head fun p hm => (others_is hm).2.2.2) hz fun h' F' N' => k h' (keep h' F' N') (fun m' hm' => ?_) ⟨⟨sl, keep h' F' N' x _ (fun q => ?_) ho⟩, ⟨_, (N' _ (.head _)).1⟩⟩
  · have : m' = m := by
      obtain ⟨o, es1, ep1, ho1, hd1, _, e1⟩ := hm'
      obtain ⟨o2, es2, ep2, ho2, hd2, _, e2⟩ := F.ns
      rw [ho1] at ho2
      cases ho2
      rw [hd1] at hd2
      cases hd2
      exact funext fun y => (e1 y).symm.trans (e2 y)
    rw [this]
    exact F'.ns
  · rcases List.mem_cons.mp q with q | q
    · exact hne q
    · exact hxL (List.mem_singleton.mp q)
end
end Tc
set_option maxHeartbeats 1000000
namespace Tc
open PySem PySem.Calls PyProof.Rows PySem.W
theorem fr0 (C : Addr) (rest : List Value) (kw : List (Str × Value)) : (Code.builtin "type.__call__" ⟨.ref C :: rest, kw⟩).frames = 0 := by rfl
theorem wt (C : Addr) (rest : List Value) (kw : List (Str × Value)) : (Code.builtin "type.__call__" ⟨.ref C :: rest, kw⟩).weight = 1 := by rfl
theorem cu (C : Addr) (rest : List Value) (kw : List (Str × Value)) : (Code.builtin "type.__call__" ⟨.ref C :: rest, kw⟩).cUnits = 1 := by rfl
theorem Fine.under_cls {A : Around} {n : Nat} {C : Addr} {rest : List Value} {kw : List (Str × Value)} (F : Fine A (n + 1)) : Fine (A.under (.builtin "type.__call__" ⟨.ref C :: rest, kw⟩)) n := by
  refine ⟨?_, F.han, ?_⟩
  · show A.depth + (Code.builtin "type.__call__" ⟨.ref C :: rest, kw⟩).weight + n < recursionLimit
    rw [wt]; have := F.dep; omega
  · show A.units + (Code.builtin "type.__call__" ⟨.ref C :: rest, kw⟩).cUnits + 64 + 3 * n < cLine
    rw [cu]; have := F.uni; omega
section
variable {prog : Program} {w : World} {A : Around}
/-- C(..): an object is made and given to __init__ -/
theorem make_cls {C fI : Addr} {s : Shared} {vs : List Value} {kw : List (Str × Value)} {R : Result → Shared → Prop} (G : TopH w s.heap) (hm : makesIn (topList w.params) C = true) (hi : findIn (topList w.params) (.ref C) "__init__" = some (some (.ref fI))) (hf : typeIn (topList w.params) (.ref fI) = some (.type "function"))
    (h : ∀ x dx h', Ext s.heap h' → s.heap.get? x = none → s.heap.get? dx = none → s.heap.objs.size ≤ dx → s.heap.objs.size ≤ x → dx ≠ x → Ins h' x dx C [] →
      codeAny (model prog w) (A.under (.builtin "type.__call__" ⟨.ref C :: vs, kw⟩)) (.call (.ref fI) ⟨.ref x :: vs, kw⟩) (InitBack x R) { s with heap := h' }) : codeAny (model prog w) A (.call (.ref C) ⟨vs, kw⟩) R s := by
  obtain ⟨hh, g, d, t, os⟩ := s
  have X := G.in_
  have e1 : Ext hh ((hh.push emptyDict).push (instObj C hh.objs.size)) := (Ext.push _).trans (Ext.push _)
  refine make_core (makes_of X hm) (looks_findIn X hi) (fun self => bind_fn X self hf) (.inl rfl) (h (hh.objs.size + 1) hh.objs.size _ e1 (Heap.get?_none_of_le (Nat.le_succ _)) (Heap.get?_none_of_le (Nat.le_refl _)) (Nat.le_refl _) (Nat.le_succ _) (Nat.ne_of_lt (Nat.lt_succ_self _)) ⟨⟨#[], ?_⟩, ⟨0, ?_⟩⟩)
  · have := Heap.get?_push_size (hh.push emptyDict) (o := instObj C hh.objs.size) rfl
    rw [Heap.size_push] at this
    exact this
  · exact Heap.get?_push_of_some _ (Heap.get?_push_size hh (o := emptyDict) rfl)
end
end Tc
set_option maxHeartbeats 1000000
namespace Tc
open PySem PySem.Calls PyProof.Rows PySem.W
/-- T' is T and lists made since g -/
noncomputable def New (T T' : Tr) (g : Heap) : Prop := ∃ l, T' = T.with l ∧ ∀ b ∈ l, g.get? b = none
theorem New.refl {T : Tr} {g : Heap} : New T T g := ⟨[], rfl, fun _ h => nomatch h⟩
theorem New.add {T T' : Tr} {g : Heap} {a : Addr} (n : New T T' g) (h : g.get? a = none) : New T (T'.add a) g := by
  obtain ⟨l, rfl, hl⟩ := n
  refine ⟨a :: l, rfl, fun b hb => ?_⟩
  rcases List.mem_cons.mp hb with rfl | hb
  · exact h
  · exact hl b hb
theorem New.has {T T' : Tr} {g : Heap} (n : New T T' g) {b : Addr} (h : T.has b) : T'.has b := by
  obtain ⟨l, rfl, _⟩ := n
  exact Tr.has_with.mpr (.inr h)
theorem New.drop {T T' : Tr} {g h : Heap} (n : New T T' g) (p : Pers T'.m g h) : Pers T.m g h := by
  obtain ⟨l, rfl, hl⟩ := n
  intro b o nb e
  refine p b o (fun q => ?_) e
  rcases List.mem_append.mp q with q | q
  · rw [hl b q] at e; cases e
  · exact nb q
section
variable {prog : Program} {w : World} {A : Around} {env : Env} {T : Tr} {g : Heap} {ρ : List (Str × V)}
/-- for, where the lists that may turn grow in number -/
theorem X.forT {α : Type} {s : Shared} {Q : Flow → Shared → Prop} {target iter : Expr} {body rest : List Stmt} {pos : Pos} {xs : List α} {rep : α → PyData} (R : Nat → Tr → List (Str × V) → Prop) (B : Tr → List (Str × V) → Prop) (S : St env T g ρ s.heap) (h0 : R 0 T ρ)
    (hit : EvIt prog w A env T g ρ iter true xs rep)
    (turn : ∀ (i : Nat) (hi : i < xs.length) T' ρ' g', R i T' ρ' → New T T' g → Pers T'.m g g' → St env T' g' ρ' g' →
      ∃ add, (Tgt (model prog w) A env T' g' ρ' target false (rep xs[i]) add) ∧
      ∀ h' tk, St env T' g' (add ++ ρ') h' → wpAny (model prog w) A (execs body env) (fun f s3 => match f with
        | .next | .cont => ∃ h3 tk3 T3 ρ3, s3 = { s with heap := h3, toks := tk3 } ∧ New T' T3 g' ∧ St env T3 g' ρ3 h3 ∧ R (i + 1) T3 ρ3
        | .brk => ∃ h3 tk3 T3 ρ3, s3 = { s with heap := h3, toks := tk3 } ∧ New T' T3 g' ∧ St env T3 g' ρ3 h3 ∧ B T3 ρ3
        | .ret v => Q (.ret v) s3) NoE { s with heap := h', toks := tk })
    (done : ∀ T' ρ' h' tk, (R xs.length T' ρ' ∨ B T' ρ') → New T T' g → St env T' g ρ' h' → wpAny (model prog w) A (execs rest env) Q NoE { s with heap := h', toks := tk })
    (hs : ∀ x, foldedSetIterable iter env x = pure x := by intro _; rfl) :
    wpAny (model prog w) A (execs (.For target iter body [] pos :: rest) env) Q NoE s := by
  refine X.cons (wpAny_For (hit s _ _ S fun h0' h' tk I fp P Stt W e0 e1 hI st0 hns hfp hfx hrep => ?_) hs)
  have Sh' := (S.ext e0).ext e1
  have hgI : g.get? I = none := (S.ext e0).gnone hI
  have hIT : T.off I := (S.ext e0).off hI
  have hlive : ∃ o, h'.get? I = some o := let ⟨o, ho, _⟩ := hns 0 h' st0; ⟨o, ho⟩
  refine codeAny_forLoop_any (fun n s' => ∃ h2 tk2 T' ρ' i, s' = { s with heap := h2, toks := tk2 } ∧ Stt i h2 ∧ R i T' ρ' ∧ St env T' g ρ' h2 ∧ New T T' h' ∧ Pers (I :: T'.m) h0' h2 ∧ Pers (I :: T'.m) h' h2 ∧ i ≤ xs.length ∧ n = xs.length - i) ?_ xs.length ⟨h', tk, T, ρ, 0, rfl, st0, h0, Sh', .refl, e1.pers, .refl, Nat.zero_le _, rfl⟩
  rintro n s' ⟨h2, tk2, T', ρ', i, rfl, hst, hR, S2, nT, p2, p2', hi, rfl⟩
  have hIT' : T'.off I := by
    obtain ⟨l, rfl, hl⟩ := nT
    refine Tr.off_iff.mpr fun q => ?_
    rcases Tr.has_with.mp q with q | q
    · obtain ⟨o, ho⟩ := hlive; rw [hl _ q] at ho; cases ho
    · exact Tr.off_iff.mp hIT q
  have nTg : New T T' g := by
    obtain ⟨l, rfl, hl⟩ := nT
    exact ⟨l, rfl, fun b hb => Sh'.gnone (hl b hb)⟩
  by_cases hlt : i < xs.length
  · refine W.item i _ _ _ hlt hst fun v h3 tk3 hP hst3 hk3 => ?_
    have p3 : Pers [I] h2 h3 := hk3
    have S3 : St env T' g ρ' h3 := S2.it (hns _ _ hst).non hIT' hgI p3
    have up : ∀ {l : List Addr} {x y : Heap}, Pers (I :: l) x h2 → Pers (I :: l) x h3 := fun q => q.trans (p3.more fun b hb => List.mem_singleton.mp hb ▸ .head _)
    have p3' : Pers (I :: T'.m) h0' h3 := p2.trans (p3.more fun b hb => List.mem_singleton.mp hb ▸ .head _)
    have p3'' : Pers (I :: T'.m) h' h3 := p2'.trans (p3.more fun b hb => List.mem_singleton.mp hb ▸ .head _)
    have hoff : ∀ {d : PyData}, Rd T h0' v d → Rd (T'.add I) h0' v d := by
      intro d r
      obtain ⟨l, rfl, hl⟩ := nT
      exact Rd.off hI (Rd.offs (fun b hb => none_of_ext e1 (hl b hb)) r)
    have hv : Rd T' h3 v (rep xs[i]) := Rd.less (fun a ha => Tr.has_add.mpr (.inr ha)) (Rd.pers (T := T'.add I) p3' (hoff (hrep i v _ (List.getElem?_eq_getElem hlt) hP)))
    have back : ∀ b, h3.get? b = none → h'.get? b = none := by
      intro b hb
      cases z : h'.get? b with
      | none => rfl
      | some o =>
        by_cases q : b ∈ I :: T'.m
        · rcases List.mem_cons.mp q with rfl | q
          · obtain ⟨o', ho', _⟩ := hns _ _ hst3; rw [hb] at ho'; cases ho'
          · obtain ⟨o', ho'⟩ := S3.live b (.inl q); rw [hb] at ho'; cases ho'
        · have := p3'' b o q z; rw [hb] at this; cases this
    refine (hns _ _ hst3).go ?_
    obtain ⟨add, ht, hb⟩ := turn i hlt T' ρ' h3 hR nTg S3.pers S3.rebase
    refine ht _ _ _ _ S3.rebase hv fun h4 tk4 S4 _ => ?_
    have grow : ∀ {T3 : Tr}, New T' T3 h3 → New T T3 h' := by
      rintro T3 ⟨l3, rfl, hl3⟩
      obtain ⟨l, rfl, hl⟩ := nT
      refine ⟨l3 ++ l, by unfold Tr.with; rw [List.append_assoc], fun c hc => ?_⟩
      rcases List.mem_append.mp hc with hc | hc
      · exact back c (hl3 c hc)
      · exact hl c hc
    have fits : ∀ {T3 : Tr} {h5 : Heap}, New T' T3 h3 → Pers T3.m h3 h5 → (∀ b ∈ fp, ∀ o, h3.get? b = some o → h5.get? b = some o) ∧ Pers (I :: T3.m) h0' h5 ∧ Pers (I :: T3.m) h' h5 ∧ Pers T3.m g h5 := by
      rintro T3 h5 ⟨l3, rfl, hl3⟩ p5
      have more : ∀ b ∈ T'.m, b ∈ (T'.with l3).m := fun b hb => List.mem_append_right _ hb
      have more' : ∀ b ∈ I :: T'.m, b ∈ I :: (T'.with l3).m := fun b hb => by
        rcases List.mem_cons.mp hb with rfl | hb
        · exact .head _
        · exact .tail _ (more b hb)
      refine ⟨fun c hc o e => p5 c o (fun q => ?_) e, (p3'.more more').trans (p5.more fun b hb => .tail _ hb), (p3''.more more').trans (p5.more fun b hb => .tail _ hb), (S3.pers.more more).trans p5⟩
      rcases List.mem_append.mp q with q | q
      · rw [hl3 c q] at e; cases e
      · obtain ⟨l, rfl, hl⟩ := nT
        rcases List.mem_append.mp q with q | q
        · obtain ⟨o', ho'⟩ := hfp c hc; rw [hl c q] at ho'; cases ho'
        · exact hfx rfl c hc q
    refine wpAny_mono (hb h4 tk4 S4) (fun f s5 h5 => ?_) fun _ _ z => z.elim
    cases f with
    | next =>
      obtain ⟨h5, tk5, T3, ρ5, rfl, n5, S5, R5⟩ := h5
      obtain ⟨a1, a2, a3, a4⟩ := fits n5 S5.pers
      exact ⟨xs.length - (i + 1), by omega, h5, tk5, T3, ρ5, i + 1, rfl, W.frame _ _ _ hst3 a1, R5, { S5 with pers := a4 }, grow n5, a2, a3, hlt, rfl⟩
    | cont =>
      obtain ⟨h5, tk5, T3, ρ5, rfl, n5, S5, R5⟩ := h5
      obtain ⟨a1, a2, a3, a4⟩ := fits n5 S5.pers
      exact ⟨xs.length - (i + 1), by omega, h5, tk5, T3, ρ5, i + 1, rfl, W.frame _ _ _ hst3 a1, R5, { S5 with pers := a4 }, grow n5, a2, a3, hlt, rfl⟩
    | brk =>
      obtain ⟨h5, tk5, T3, ρ5, rfl, n5, S5, B5⟩ := h5
      obtain ⟨a1, a2, a3, a4⟩ := fits n5 S5.pers
      have nn : New T T3 g := by
        obtain ⟨l, rfl, hl⟩ := grow n5
        exact ⟨l, rfl, fun b hb => Sh'.gnone (hl b hb)⟩
      exact done T3 ρ5 h5 tk5 (.inr B5) nn { S5 with pers := a4 }
    | ret v => exact h5
  · have hie : i = xs.length := by omega
    subst hie
    refine W.done _ _ _ hst fun h3 tk3 hk3 => ?_
    exact wpAny_execs_nil (done T' ρ' h3 tk3 (.inl hR) nTg (S2.it (hns _ _ hst).non hIT' hgI hk3))
end
end Tc
set_option maxHeartbeats 1000000
namespace Tc
open PySem PySem.Calls PyProof.Rows PySem.W
section
variable {prog : Program} {w : World} {A : Around} {env : Env} {T : Tr} {g : Heap} {ρ : List (Str × V)}
theorem Ev.asData {M : Model} {e : Expr} {v : Value} {d : PyData} (h : Ev M A env T g ρ e (.v v)) (r : ∀ h, Rd T h v d) : Ev M A env T g ρ e (.d d) :=
  fun s _ _ S q => h s _ _ S fun h' tk u e1 p1 => q h' tk u e1 (by cases p1; exact r h')
/-- x, y = (a, b), stored from the last -/
theorem X.swap2 {s : Shared} {Q : Flow → Shared → Prop} {E : Value → Shared → Prop} {rest : List Stmt} {x y : Str} {p q tp pos : Pos} {k : Nat} {e : Expr} {d1 d2 : PyData} (hA : A.handled = none) (S : St env T g ρ s.heap) (he : Ev (model prog w) A env T g ρ e (.d (.tuple [d1, d2])))
    (k' : ∀ h' tk, St env T g ((x, .d d1) :: (y, .d d2) :: ρ) h' → wpAny (model prog w) A (execs rest env) Q E { s with heap := h', toks := tk })
    (hx : env.kindOf x = some .local := by rfl) (hy : env.kindOf y = some .local := by rfl)
    (hs : swapsWithSole [.Tuple [.Name x p, .Name y q] k tp] e pos.line env = pure false := by rfl) (hw : swappedStores [.Tuple [.Name x p, .Name y q] k tp] e env = pure (some [x, y]) := by rfl) :
    wpAny (model prog w) A (execs (.Assign [.Tuple [.Name x p, .Name y q] k tp] e pos :: rest) env) Q E s := by
  refine X.cons (Assign_Tuple_swapped (names := [x, y]) (he s _ _ S fun h1 t1 v1 e1 p1 => ?_) hs hw)
  obtain ⟨a, vs, rfl, _, ht, hds⟩ := Rd.isTup p1
  have hl := hds.length
  rw [Array.length_toList] at hl
  have h2 : ([x, y] : List Str).length = vs.size := hl.symm
  rw [h2]
  refine unpackItems_tuple hA ht fun h' e' => ?_
  have e2 : Ext h1 h' := fun b o z => e' b o (Nat.ne_of_lt (Heap.lt_size z)) z
  have S2 := (S.ext e1).ext e2
  have r2 := Rds.pers e2.pers hds
  generalize vs.toList = l at r2
  obtain _ | ⟨ra, _ | ⟨rb, _ | _⟩⟩ := r2
  refine assignInOrder_cons (wpAny_bindName (store_l (r := .d d2) S2 hy rb fun h3 tk3 S3 p3 => ?_))
  obtain ⟨m, hm, _⟩ := S2.ns
  refine assignInOrder_cons (wpAny_bindName (store_l (r := .d d1) S3 hx (Rd.bump (ns_nonseq hm) p3 ra) fun h4 tk4 S4 p4 => ?_))
  exact assignInOrder_nil (k' h4 tk4 S4)
/-- x, y = e -/
theorem X.assign2 {s : Shared} {Q : Flow → Shared → Prop} {E : Value → Shared → Prop} {rest : List Stmt} {x y : Str} {p q tp pos : Pos} {k : Nat} {e : Expr} {d1 d2 : PyData} (hA : A.handled = none) (S : St env T g ρ s.heap) (he : Ev (model prog w) A env T g ρ e (.d (.tuple [d1, d2])))
    (k' : ∀ h' tk, St env T g ((y, .d d2) :: (x, .d d1) :: ρ) h' → wpAny (model prog w) A (execs rest env) Q E { s with heap := h', toks := tk })
    (hx : env.kindOf x = some .local := by rfl) (hy : env.kindOf y = some .local := by rfl)
    (hs : swapsWithSole [.Tuple [.Name x p, .Name y q] k tp] e pos.line env = pure false := by rfl) (hw : swappedStores [.Tuple [.Name x p, .Name y q] k tp] e env = pure none := by rfl) :
    wpAny (model prog w) A (execs (.Assign [.Tuple [.Name x p, .Name y q] k tp] e pos :: rest) env) Q E s := by
  refine X.cons (Assign_Tuple (he s _ _ S fun h1 t1 v1 e1 p1 => ?_) hs hw)
  exact Tgt.pair (lo := false) hA hx hy _ _ _ _ (S.ext e1) p1 fun h2 tk2 S2 _ => k' h2 tk2 S2
end
end Tc
set_option maxHeartbeats 1000000
namespace Tc
open PySem PySem.Calls PyProof.Rows PySem.W
section
variable {prog : Program} {w : World} {A : Around} {env : Env} {T : Tr} {g : Heap} {ρ ρ' : List (Str × V)}
theorem Rds.set {h : Heap} : ∀ {vs : List Value} {ds : List PyData} {v : Value} {d : PyData} (j : Nat), Rds T h vs ds → Rd T h v d → Rds T h (vs.set j v) (ds.set j d)
  | _, _, _, _, _, .nil, _ => .nil
  | _, _, _, _, 0, .cons _ r, y => .cons y r
  | _, _, _, _, j + 1, .cons x r, y => .cons x (Rds.set j r y)
/-- a[i] = e -/
theorem X.setItem {s : Shared} {Q : Flow → Shared → Prop} {E : Value → Shared → Prop} {rest : List Stmt} {o i e : Expr} {pos pos' : Pos} {a : Addr} {ds : List PyData} {d : PyData} {j : Nat} (S : St env T g ρ s.heap) (ho : Ev (model prog w) A env T g ρ o (.o a ds)) (hi : Ev (model prog w) A env T g ρ i (.d (.int j))) (he : Ev (model prog w) A env T g ρ e (.d d)) (ha : a ∈ T.m) (hj : j < ds.length) (hj2 : j < 2 ^ 62) (f : FitR (V.turn a (ds.set j d)) ρ ρ')
    (k : ∀ h' tk, St env T g ρ' h' → wpAny (model prog w) A (execs rest env) Q E { s with heap := h', toks := tk })
    (hs : swapsWith e (some (.Subscript o i pos')) pos.line env = pure false := by rfl) :
    wpAny (model prog w) A (execs (.Assign [.Subscript o i pos'] e pos :: rest) env) Q E s := by
  refine X.cons (wpAny_Assign_Subscript (he s _ _ S fun h1 t1 v e1 pv => ho _ _ _ (S.ext e1) fun h2 t2 v2 e2 p2 => hi _ _ _ ((S.ext e1).ext e2) fun h3 t3 v3 e3 p3 => ?_) hs)
  obtain ⟨u, rfl⟩ := p3.intE
  obtain ⟨rfl, m1, vs1, ⟨n1, l1⟩, r1⟩ := p2.ext e3
  have len := r1.length
  rw [Array.length_toList] at len
  have S3 := ((S.ext e1).ext e2).ext e3
  have pv3 : Rd T h3 v d := (pv.ext e2).ext e3
  refine ki_setAt (n := n1) (items := vs1) l1 (by omega) (by omega) (by omega) ?_
  have sb := Heap.SameBut.update h3 a (Obj.mapSeq (·.setIfInBounds (j : Int).toNat v))
  have p3 := sameBut_pers sb
  have le : Pers T.m h3 _ := p3.more fun b hb => List.mem_singleton.mp hb ▸ ha
  refine k _ t3 (S3.turn ha p3 ⟨n1, l1⟩ (vs' := vs1.setIfInBounds j v) ?_ ?_ f)
  · have := PySem.IsL.update (n := n1) l1 (·.setIfInBounds (j : Int).toNat v)
    exact ⟨_, this⟩
  · rw [Array.toList_setIfInBounds]
    exact Rds.set j (Rds.pers le r1) (Rd.pers le pv3)
/-- x = y = z = e -/
theorem X.assign3 {s : Shared} {Q : Flow → Shared → Prop} {E : Value → Shared → Prop} {rest : List Stmt} {x y z : Str} {p q r pos : Pos} {e : Expr} {d : PyData} (S : St env T g ρ s.heap) (he : Ev (model prog w) A env T g ρ e (.d d))
    (k' : ∀ h' tk, St env T g ((z, .d d) :: (y, .d d) :: (x, .d d) :: ρ) h' → wpAny (model prog w) A (execs rest env) Q E { s with heap := h', toks := tk })
    (hx : env.kindOf x = some .local := by rfl) (hy : env.kindOf y = some .local := by rfl) (hz : env.kindOf z = some .local := by rfl) :
    wpAny (model prog w) A (execs (.Assign [.Name x p, .Name y q, .Name z r] e pos :: rest) env) Q E s := by
  refine X.cons (wpAny_Assign_three (he s _ _ S fun h1 t1 v1 e1 p1 => ?_))
  refine Tgt.name (lo := true) hx _ _ _ _ (S.ext e1) p1 fun h2 tk2 S2 b2 => ?_
  obtain ⟨m, hm, _⟩ := (S.ext e1).ns
  have p2 : Rd T h2 v1 d := Rd.bump (ns_nonseq hm) (b2 rfl) p1
  refine Tgt.name (lo := true) hy _ _ _ _ S2 p2 fun h3 tk3 S3 b3 => ?_
  obtain ⟨m, hm, _⟩ := S2.ns
  have p3 : Rd T h3 v1 d := Rd.bump (ns_nonseq hm) (b3 rfl) p2
  exact Tgt.name (lo := true) hz _ _ _ _ S3 p3 fun h4 tk4 S4 _ => k' h4 tk4 S4
theorem strIter_ok {h : Heap} {I : Addr} {n : String} {x : Str} {t : Tok} {i : Nat} (st : h.IsStrIter I n x t i) (hn : ["enumerate", "zip", "dict_itemiterator", "dict_reverseitemiterator", "odict_iterator", "itertools.zip_longest", "itertools.pairwise"].contains n = false) : ItOk h I := by
  obtain ⟨o, ho, hc, hd⟩ := st
  exact ⟨o, ho, fun xs n z => (by rw [hd] at z; cases z), _, _, hc, hd, hn⟩
/-- the signs of a str -/
theorem EvIt.str {e : Expr} {x : Str} (hA : A.handled = none) (he : Ev (model prog w) A env T g ρ e (.d (.str x))) : EvIt prog w A env T g ρ e true x.cps.toList fun c => .str ⟨#[c]⟩ := by
  intro s Q E S q
  refine he s _ _ S fun h1 t1 v1 e1 p1 => ?_
  obtain ⟨t, rfl⟩ := p1.strE
  have hI : h1.get? h1.objs.size = none := Heap.get?_none_of_le (Nat.le_refl _)
  have hIs : s.heap.get? h1.objs.size = none := none_of_ext e1 hI
  have fin : ∀ (o : Obj) (n : String), ["enumerate", "zip", "dict_itemiterator", "dict_reverseitemiterator", "odict_iterator", "itertools.zip_longest", "itertools.pairwise"].contains n = false → Walks prog w A h1.objs.size [h1.objs.size] [h1.objs.size] x.cps.size (SignAt x) (fun i h => h.IsStrIter h1.objs.size n x t i) → (h1.push o).IsStrIter h1.objs.size n x t 0 → Q (.ref h1.objs.size) { s with heap := h1.push o, toks := t1 } := by
    intro o n hn W st
    refine q h1 _ t1 h1.objs.size [h1.objs.size] (SignAt x) (fun i h => h.IsStrIter h1.objs.size n x t i) (by rw [Array.length_toList]; exact W) e1 (Ext.push _) hI st (fun i h st' => strIter_ok st' hn) (fun b hb => ?_) (fun _ b hb => ?_) (fun i v c hc hp => ?_)
    · rw [List.mem_singleton.mp hb]
      obtain ⟨o', ho', _⟩ := st
      exact ⟨o', ho'⟩
    · rw [List.mem_singleton.mp hb]
      exact (S.off hIs).1
    · obtain ⟨c', u, hc', rfl⟩ := hp
      rw [Array.getElem?_toList] at hc
      rw [hc] at hc'
      cases hc'
      exact .str _ _
  cases ha : x.cps.all (· < 128)
  · exact wpAny_pyIter_wide ha (fin _ _ (by decide) (Walks.strWide hA _ x t) ⟨_, Heap.get?_push_size _ rfl, rfl, rfl⟩)
  · exact wpAny_pyIter_ascii ha (fin _ _ (by decide) (Walks.strAscii hA _ x t) ⟨_, Heap.get?_push_size _ rfl, rfl, rfl⟩)
/-- tuple(a) -/
theorem Cl.tupleList {r : V} {ds : List PyData} (hr : r.asList = some ds) (hn : ds.length ≤ sizeLine) : Cl (model prog w) A (.type "tuple") (Wd w T) T [r] (fun h v => Vr T h v (.d (.tuple ds))) := by
  intro s vs Q E W xs q
  obtain _ | ⟨x, _ | _⟩ := xs
  obtain ⟨a, its, rfl, hl, hds⟩ := x.list hr
  have len := hds.length
  rw [Array.length_toList] at len
  refine call_tuple_list hl.isList (fun h' e => ?_) (by omega)
  have e1 : Ext s.heap h' := e
  have e2 := e1.trans (Ext.push { cls := .type "tuple", data := .seq its })
  refine q _ s.toks _ e2 (Rd.tuple (Tr.off_iff.mpr fun hb => ?_) ⟨_, Heap.get?_push_size h' rfl, rfl, _, rfl⟩ (Rds.pers e2.pers hds))
  obtain ⟨_, o, ho⟩ := W.2 _ hb
  have := Heap.lt_size (e1 _ _ ho)
  exact Nat.lt_irrefl _ this
/-- a contract for a def that is told more of the heap (X) -/
theorem Cl.mkW {k : Nat} {rs : List V} {P : Heap → Value → Prop} {f c : Addr} {co : Obj} {st : Stmt} {n q : Str} {dV kV doc pm ct : Value} {an : Option Addr} {ρ : List (Str × V)} {cvs : Array Value} {ctk : Tok} (X : Heap → Prop) (F : Fine A (k + 1))
    (ho : (topList w.params).lookup f = some ⟨.type "function", none, .func (fnc st n q mainGlobals dV kV doc pm an (.ref c) ct builtinsNs), #[]⟩)
    (hc : (topList w.params).lookup c = some co) (hcd : co.data = .fields cvs) (hcq : cvs[1]? = some (.str q ctk))
    (hb : ∀ s vs, TopH w s.heap → Vrs T s.heap vs rs → ∃ binds, BindsTo s (fnc st n q mainGlobals dV kV doc pm an (.ref c) ct builtinsNs) ⟨vs, []⟩ binds ∧ BR T s.heap ρ binds ∧ binds.map (·.1) = ρ.map (·.1))
    (body : ∀ L l g h₁ tk s₀, TopH w g → X g → (∀ b ∈ l, g.get? b = none) → Fine (A.deeper (envE st q f (.ref c) L)) k → (∀ x r, ρ.lookup x = some r → r.still (T.seal.with l)) → St (envE st q f (.ref c) L) (T.seal.with l) g ρ h₁ →
      wpAny (model prog w) (A.deeper (envE st q f (.ref c) L)) (execs (fBody st) (envE st q f (.ref c) L)) (RetC (T.seal.with l) g s₀ P) NoE { s₀ with heap := h₁, toks := tk })
    (hnd : apartB (ρ.map (·.1)) = true := by rfl)
    (hkind : ((ρ.map (·.1)).all fun y => (fScope st).names.lookup y == some .local || (fScope st).names.lookup y == some .cell) = true := by rfl)
    (hk : (fScope st).kind = .function := by rfl) (hco : (fScope st).isCoroutine = false := by rfl) (hgen : (fScope st).isGenerator = false := by rfl)
    (hfree : ((fScope st).names.all fun y => y.2 != .free) = true := by rfl)
    (hcn : ((cellsFrom 0 (fScope st).names []).map (·.1)).Nodup := by decide) : Cl (model prog w) A (.ref f) (fun h => Wd w T h ∧ X h) T rs P := by
  intro s vs Q E W xs q'
  obtain ⟨W, X0⟩ := W
  obtain ⟨binds, hbi, hbr, hns⟩ := hb s vs W.1 xs
  refine enter (own := T.seal) (P := P) W.1 F.go ho hc hcd hcq hbi hk hco hgen ?_ hfree hcn hns (apartB_nodup hnd) (fun b hb => W.2 b (Tr.has_seal.mp hb)) hbr.seal (fun L h₁ tk hn S => ?_) fun h' tk v p hv => q' h' tk v (fun b o e => p b o List.not_mem_nil e) hv
  · have : (binds.map (·.1)).all (fun y => (fScope st).names.lookup y == some .local || (fScope st).names.lookup y == some .cell) = true := by rw [hns]; exact hkind
    rw [List.all_map] at this
    exact this
  · refine body L _ _ _ tk s W.1 X0 hn (F.in_ _) (fun x r e => ?_) S
    cases r with
    | o a ds =>
      intro hm
      obtain ⟨_, o, ho⟩ := W.2 a (hbr.has (.inl ⟨_, e⟩))
      rcases List.mem_append.mp hm with hm | hm
      · have := hn a hm; rw [ho] at this; cases this
      · cases hm
    | t y a ds =>
      intro hm
      obtain ⟨_, o, ho⟩ := W.2 a (hbr.has (.inr ⟨_, _, e⟩))
      rcases List.mem_append.mp hm with hm | hm
      · have := hn a hm; rw [ho] at this; cases this
      · cases hm
    | d _ => trivial
    | v _ => trivial
end
end Tc
set_option maxHeartbeats 1000000
namespace Tc
open PySem PySem.Calls PyProof.Rows PySem.W
/-- a dict's entries are these names with these values -/
structure Att (es : List DictEntry) (l : List (Str × Value)) : Prop where
  str : ∀ e ∈ es, ∃ n t, e.key = .str n t
  at_ : ∀ n, (es.find? (·.key.isStr n)).map (·.val) = l.lookup n
  len : es.length = l.length
theorem Att.nil : Att [] [] where
  str := fun _ h => nomatch h
  at_ := fun _ => rfl
  len := rfl
theorem Att.get {es : List DictEntry} {l : List (Str × Value)} (a : Att es l) (n : Str) : getL n es = some (l.lookup n) := by
  rw [← a.at_ n]
  unfold getL
  cases h : es.find? (·.key.isStr n) with
  | some e => rfl
  | none =>
    have : es.any (·.refKey) = false := by
      cases q : es.any (·.refKey) with
      | false => rfl
      | true =>
        obtain ⟨e, he, z⟩ := List.any_eq_true.mp q
        obtain ⟨n, t, hk⟩ := a.str e he
        unfold DictEntry.refKey at z
        rw [hk] at z
        cases z
    rw [this]
    rfl
theorem Att.put {es : List DictEntry} {l : List (Str × Value)} (a : Att es l) {n : Str} (hn : l.lookup n = none) (h : Int) (t : Tok) (v : Value) : Att (putL n h (.str n t) v es) ((n, v) :: l) := by
  have no : ∀ e ∈ es, e.key.isStr n = false := by
    have := a.at_ n
    rw [hn, Option.map_eq_none_iff, List.find?_eq_none] at this
    intro e he
    exact Bool.eq_false_iff.mpr (this e he)
  rw [putL_new no]
  refine ⟨fun e he => ?_, fun k => ?_, by rw [List.length_append, List.length_cons, a.len]; rfl⟩
  · rcases List.mem_append.mp he with he | he
    · exact a.str e he
    · rw [List.mem_singleton.mp he]; exact ⟨_, _, rfl⟩
  · rw [List.find?_append, List.lookup_cons]
    by_cases q : k = n
    · subst q
      rw [List.find?_eq_none.mpr fun e he => Bool.eq_false_iff.mp (no e he), beq_self_eq_true]
      rw [Option.none_or, List.find?_cons]
      have : Value.isStr (.str k t) k = true := by unfold Value.isStr; exact beq_self_eq_true k
      simp only [this]
      rfl
    · rw [beq_eq_false_iff_ne.mpr q, ← a.at_ k]
      have : Value.isStr (.str n t) k = false := by unfold Value.isStr; exact beq_eq_false_iff_ne.mpr fun z => q z.symm
      rw [List.find?_cons, this]
      cases es.find? (·.key.isStr k) <;> rfl
theorem PersTop {w : World} {l : List Addr} {h h' : Heap} (G : TopH w h) (p : Pers l h h') (hl : ∀ b ∈ l, 398 ≤ b) : TopH w h' := ⟨fun i o e => p _ _ (fun q => absurd (lookup_low _ i o e) (Nat.not_lt.mpr (hl i q))) (G.at_ i o e), G.map.at fun o e => p _ _ (fun q => absurd (hl _ q) (by decide)) e⟩
/-- an object with these attributes of its own -/
noncomputable def At (h : Heap) (x dx C : Addr) (l : List (Str × Value)) : Prop := ∃ es, Ins h x dx C es ∧ Att es l
theorem At.pers {l : List Addr} {h h' : Heap} {x dx C : Addr} {as : List (Str × Value)} (I : At h x dx C as) (hx : x ∉ l) (hd : dx ∉ l) (p : Pers l h h') : At h' x dx C as := let ⟨es, a, b⟩ := I; ⟨es, a.pers hx hd p, b⟩
theorem dict_nonseq {h : Heap} {a : Addr} {es : List DictEntry} {n : Nat} (x : h.get? a = some (PySem.W.dictOf es n)) : NonSeq h a := ⟨_, x, fun _ _ q => by cases q⟩
section
variable {prog : Program} {w : World} {A : Around} {env : Env} {T : Tr} {g h : Heap} {ρ : List (Str × V)}
theorem At.non (I : At h x dx C as) : NonSeq h dx := let ⟨_, a, _⟩ := I; let ⟨_, e⟩ := a.dict; dict_nonseq e
mutual
theorem Rd.bump2 {T : Tr} {h h' : Heap} {t u : Addr} (n : NonSeq h t) (n' : NonSeq h u) (p : Pers [t, u] h h') : ∀ {v d}, Rd T h v d → Rd T h' v d
  | _, _, .none => .none
  | _, _, .bool b => .bool b
  | _, _, .int i t => .int i t
  | _, _, .str x t => .str x t
  | _, _, .list m x r => .list m (isList_pers (T := ⟨[t, u], []⟩) p ⟨fun q => by rcases List.mem_cons.mp q with q | q; exact n.list x q; exact n'.list x (List.mem_singleton.mp q), List.not_mem_nil⟩ x) (Rds.bump2 n n' p r)
  | _, _, .tuple m x r => .tuple m (isTuple_pers (T := ⟨[t, u], []⟩) p ⟨fun q => by rcases List.mem_cons.mp q with q | q; exact n.tuple x q; exact n'.tuple x (List.mem_singleton.mp q), List.not_mem_nil⟩ x) (Rds.bump2 n n' p r)
theorem Rds.bump2 {T : Tr} {h h' : Heap} {t u : Addr} (n : NonSeq h t) (n' : NonSeq h u) (p : Pers [t, u] h h') : ∀ {v d}, Rds T h v d → Rds T h' v d
  | _, _, .nil => .nil
  | _, _, .cons x r => .cons (Rd.bump2 n n' p x) (Rds.bump2 n n' p r)
end
theorem Vr.bump2 {T : Tr} {h h' : Heap} {t u : Addr} {v : Value} {r : V} (n : NonSeq h t) (n' : NonSeq h u) (p : Pers [t, u] h h') (x : Vr T h v r) : Vr T h' v r := by
  have off : ∀ {a : Addr} {vs : Array Value}, h.PlainList a vs → h'.PlainList a vs := fun {a vs} y => isList_pers (T := ⟨[t, u], []⟩) p ⟨fun q => by rcases List.mem_cons.mp q with q | q; exact n.list y q; exact n'.list y (List.mem_singleton.mp q), List.not_mem_nil⟩ y
  cases r with
  | d _ => exact Rd.bump2 n n' p x
  | v _ => exact x
  | o a ds => obtain ⟨e, m, vs, y, z⟩ := x; exact ⟨e, m, vs, off y, Rds.bump2 n n' p z⟩
  | t _ a ds => obtain ⟨e, m, vs, y, z⟩ := x; exact ⟨e, m, vs, off y, Rds.bump2 n n' p z⟩
/-- x.name = e, x an object with a dict that is this def's own -/
theorem X.setAttr {s : Shared} {Q : Flow → Shared → Prop} {E : Value → Shared → Prop} {rest : List Stmt} {o e : Expr} {name : Str} {pos pos' : Pos} {x dx C : Addr} {as : List (Str × Value)} {P : Heap → Value → Prop} (G : TopH w s.heap) (S : St env T g ρ s.heap) (I : At s.heap x dx C as) (hd : dx ∉ T.m) (hd4 : 398 ≤ dx)
    (ho : Ev (model prog w) A env T g ρ o (.v (.ref x))) (he : EvP (model prog w) A env T g ρ e P) (stP : Stays P)
    (k : ∀ h1 h' tk v, Ext s.heap h1 → NonSeq h1 dx → NonSeq h1 env.locals → Pers [dx, env.locals] h1 h' → St env T h' ρ h' → TopH w h' → At h' x dx C ((name, v) :: as) → P h1 v → wpAny (model prog w) A (execs rest env) Q E { s with heap := h', toks := tk })
    (hn : as.lookup name = none)
    (hs : findIn (topList w.params) (.ref C) "__setattr__" = some (some (.builtin "object.__setattr__"))) (hp : plainOver (topList w.params) C = true) (ht : takerIn (topList w.params) C name = some none) (hh : hasDictIn (topList w.params) C = true)
    (hz : as.length < 1000)
    (hsw : swapsWith e (some (.Attribute o name pos')) pos.line env = pure false := by rfl) :
    wpAny (model prog w) A (execs (.Assign [.Attribute o name pos'] e pos :: rest) env) Q E s := by
  refine X.cons (plainObj_wpAny_Assign_Attribute (he s _ _ S fun h1 t1 v e1 pv => ho _ _ _ (S.ext e1) fun h2 t2 v2 e2 p2 => ?_) hsw)
  cases p2
  have e12 := e1.trans e2
  have S2 := S.ext e12
  obtain ⟨es, J, at_⟩ := I
  have J2 := J.pers (l := []) List.not_mem_nil List.not_mem_nil e12.pers
  have G2 := G.ext e12
  have at2 := at_.put hn (PyData.keyHash w.params name) (t2 + 1) v
  refine setAttr_own G2 S2 J2 (fun q => hd (q ▸ S.memL)) hd4 hs hp ht hh (by rw [at_.get]; rfl) (by show (putL name (PyData.keyHash w.params name) (.str name (t2 + 1)) v es).length ≤ 1000; rw [at2.len, List.length_cons]; omega) fun h' p ns J' => ?_
  obtain ⟨m, hm, hk⟩ := S2.ns
  have n1 : NonSeq h2 dx := let ⟨_, q⟩ := J2.dict; dict_nonseq q
  have n2 : NonSeq h2 env.locals := ns_nonseq hm
  have S' : St env T h' ρ h' := by
    refine ⟨S.kind, .refl, fun b hb => ?_, S.high, S.memL, S.memC, S.inj, ⟨m, ns m hm, fun y r e l => ?_⟩, fun z kz => ?_⟩
    · by_cases q1 : b = dx
      · subst q1; obtain ⟨n, e⟩ := J'.dict; exact ⟨_, e⟩
      · by_cases q2 : b = env.locals
        · subst q2; obtain ⟨o, _, _, ho, _⟩ := ns m hm; exact ⟨o, ho⟩
        · obtain ⟨o, ho⟩ := S2.live b hb
          exact ⟨o, p _ _ (fun q => by rcases List.mem_cons.mp q with q | q; exact q1 q; exact q2 (List.mem_singleton.mp q)) ho⟩
    · obtain ⟨u, a, b⟩ := hk y r e l
      exact ⟨u, a, b.bump2 n1 n2 p⟩
    · obtain ⟨c, w', a, ⟨oc, hoc, hdc⟩, z'⟩ := S2.cl z kz
      refine ⟨c, w', a, ⟨oc, p _ _ (fun q => ?_) hoc, hdc⟩, fun q e => let ⟨u, a', b'⟩ := z' q e; ⟨u, a', b'.bump2 n1 n2 p⟩⟩
      rcases List.mem_cons.mp q with q | q
      · exact hd (q ▸ S.memC _ _ a)
      · exact ns_cell hm ⟨oc, hoc, hdc⟩ (List.mem_singleton.mp q)
  have hl : ∀ b ∈ [dx, env.locals], 398 ≤ b := fun b hb => by
    rcases List.mem_cons.mp hb with rfl | hb
    · exact hd4
    · exact List.mem_singleton.mp hb ▸ S.high _ (.inl S.memL)
  have G' : TopH w h' := PersTop G2 p hl
  exact k h2 h' _ v e12 n1 n2 p S' G' ⟨_, J', at2⟩ (stP _ _ _ e2 pv)
end
end Tc
set_option maxHeartbeats 2000000
namespace Tc
open PySem PySem.Calls PyProof.Rows PySem.W
structure Ws where
  n : Nat
  nt : Nat
  b : Nat
  count : List Nat
noncomputable def padTo (l : List Nat) (b : Nat) : List Nat := if l.length ≤ b then l ++ List.replicate (b - l.length + 1) 0 else l
noncomputable def bumpAt (l : List Nat) (b : Nat) : List Nat := (padTo l b).set b ((padTo l b).getD b 0 + 1)
noncomputable def Ws.step (z : Ws) (c : Nat) : Option Ws :=
  if c = 32 then some ⟨z.n + 1, z.nt, z.b + 1, z.count⟩
  else if c = 9 then some ⟨z.n + 1, z.nt + 1, 0, bumpAt z.count z.b⟩
  else none
noncomputable def wsGo : List Nat → Ws → Ws
  | [], z => z
  | c :: cs, z => match z.step c with
    | some z' => wsGo cs z'
    | none => z
noncomputable def wsOf (x : Str) : Ws := wsGo x.cps.toList ⟨0, 0, 0, []⟩
noncomputable def nl (l : List Nat) : List PyData := l.map fun (n : Nat) => PyData.int (n : Int)
theorem nl_length (l : List Nat) : (nl l).length = l.length := List.length_map ..
theorem padTo_length (l : List Nat) (b : Nat) : b < (padTo l b).length := by
  unfold padTo
  split
  · rw [List.length_append, List.length_replicate]; omega
  · omega
theorem padTo_le {l : List Nat} {b k : Nat} (h : l.length ≤ k) (hb : b < k) : (padTo l b).length ≤ k := by
  unfold padTo
  split
  · rw [List.length_append, List.length_replicate]; omega
  · exact h
noncomputable abbrev wsE (L : Addr) : Env := envE (sub (stm 3) 1) (Tc.S "Whitespace.__init__") 55 (.ref 54) L
section
variable {w : World} {A : Around} {T : Tr} {g h : Heap} {ρ : List (Str × V)}
noncomputable abbrev wsN (x : Addr) (a : Addr) (z : Ws) : List (Str × V) := [(Tc.S "self", .v (.ref x)), (Tc.S "S", .d (.str (Tc.S " "))), (Tc.S "T", .d (.str (Tc.S "\t"))), (Tc.S "count", .o a (nl z.count)), (Tc.S "b", .d (.int (z.b : Nat))), (Tc.S "n", .d (.int (z.n : Nat))), (Tc.S "nt", .d (.int (z.nt : Nat)))]
theorem ws_tail {L x a : Addr} {z : Ws} {s : Shared} {Q : Flow → Shared → Prop} {E : Value → Shared → Prop} {p1 p2 p3 p4 p5 p6 p8 p9 p10 p11 p12 p7 : Pos} {k1 k2 : Nat} (S : St (wsE L) T g (wsN x a z) s.heap) (ha : a ∈ T.m) (hb : z.b < z.count.length) (hl : z.count.length ≤ 2000)
    (q : ∀ h' tk, St (wsE L) T g (wsN x a ⟨z.n, z.nt, 0, z.count.set z.b (z.count.getD z.b 0 + 1)⟩) h' → Q .next { s with heap := h', toks := tk }) :
    wpAny (model prg w) A (execs [.Assign [.Subscript (.Name (Tc.S "count") p1) (.Name (Tc.S "b") p2) p3] (.BinOp (.Subscript (.Name (Tc.S "count") p4) (.Name (Tc.S "b") p5) p6) .Add (.Constant (.int 1) k1 p7) p8) p9, .Assign [.Name (Tc.S "b") p10] (.Constant (.int 0) k2 p11) p12] (wsE L)) Q E s := by
  have hd : (nl z.count)[((z.b : Nat) : Int).toNat]? = some (.int ((z.count.getD z.b 0 : Nat) : Int)) := by
    rw [Int.toNat_natCast, nl, List.getElem?_map, List.getD_eq_getElem?_getD, List.getElem?_eq_getElem hb]
    rfl
  refine X.setItem (ρ' := wsN x a ⟨z.n, z.nt, z.b, z.count.set z.b (z.count.getD z.b 0 + 1)⟩) S (Ev.name rfl) (Ev.name rfl) (Ev.bin (Ev.item (Ev.name rfl) rfl (Ev.name rfl) (by omega) (by omega) hd) Ev.int Op2.add) ha (by rw [nl_length]; exact hb) (by omega) ⟨⟨_, rfl, .v _⟩, ⟨_, rfl, .d _⟩, ⟨_, rfl, .d _⟩, ⟨_, rfl, ?_⟩, ⟨_, rfl, .d _⟩, ⟨_, rfl, .d _⟩, ⟨_, rfl, .d _⟩, trivial⟩ fun h1 tk1 S1 => ?_
  · have : nl (z.count.set z.b (z.count.getD z.b 0 + 1)) = (nl z.count).set z.b (.int ((z.count.getD z.b 0 : Nat) + 1)) := by
      rw [nl, List.map_set]
      rfl
    show V.turn a _ _ (.o a (nl (z.count.set z.b (z.count.getD z.b 0 + 1))))
    rw [this]
    exact .me
  refine X.assign S1 Ev.int fun h2 tk2 S2 => X.nil (q h2 tk2 (S2.fit ⟨rfl, rfl, rfl, rfl, rfl, rfl, rfl, trivial⟩))
theorem Op2.eqS {a b : Str} {T1 T2 : Tr} : Op2 (model prg w) A (compareOp .Eq) (fun h v => Vr T1 h v (.d (.str a))) (fun h v => Vr T2 h v (.d (.str b))) (fun _ v => v = .bool (a == b)) := by
  intro s va vb Q E x y q
  obtain ⟨t, rfl⟩ := x.strE
  obtain ⟨u, rfl⟩ := y.strE
  exact eq_str (q s.heap s.toks _ .refl rfl)
theorem Op2.neS {a b : Str} {T1 T2 : Tr} : Op2 (model prg w) A (compareOp .NotEq) (fun h v => Vr T1 h v (.d (.str a))) (fun h v => Vr T2 h v (.d (.str b))) (fun _ v => v = .bool (a != b)) := by
  intro s va vb Q E x y q
  obtain ⟨t, rfl⟩ := x.strE
  obtain ⟨u, rfl⟩ := y.strE
  exact ne_str (q s.heap s.toks _ .refl rfl)
theorem sign_eq (c d : Nat) : ((⟨#[c]⟩ : Str) == ⟨#[d]⟩) = (c == d) := by
  rw [Bool.eq_iff_iff, beq_iff_eq, beq_iff_eq]
  constructor
  · intro h; injection h with h; simpa using h
  · rintro rfl; rfl
/-- what the signs leave, for a text's further signs -/
noncomputable def WsInv (cs : List Nat) (i : Nat) (x : Addr) (T' : Tr) (ρ' : List (Str × V)) : Prop := ∃ z a, ρ' = wsN x a z ∧ a ∈ T'.m ∧ wsGo (cs.drop i) z = wsGo cs ⟨0, 0, 0, []⟩ ∧ z.n ≤ i ∧ z.nt ≤ i ∧ z.b ≤ i ∧ z.count.length ≤ i
noncomputable def WsEnd (cs : List Nat) (x : Addr) (T' : Tr) (ρ' : List (Str × V)) : Prop := ∃ z a, ρ' = wsN x a z ∧ a ∈ T'.m ∧ z = wsGo cs ⟨0, 0, 0, []⟩ ∧ z.n ≤ cs.length ∧ z.nt ≤ cs.length ∧ z.b ≤ cs.length ∧ z.count.length ≤ cs.length
theorem ws_loop {L x dx : Addr} {t0 : Tok} {as : List (Str × Value)} {ws : Str} {s : Shared} {Q : Flow → Shared → Prop} {n : Nat} (F : Fine A n) (G : TopH w g) (S : St (wsE L) T g ρ s.heap) (I : At g x dx 100 as) (hx : x ∉ T.m) (hd : dx ∉ T.m) (hraw : as.lookup (Tc.S "raw") = some (.str ws t0)) (hlen : ws.cps.size ≤ 1000) (h0 : WsInv ws.cps.toList 0 x T ρ)
    (done : ∀ T' ρ' h' tk, WsEnd ws.cps.toList x T' ρ' → New T T' g → St (wsE L) T' g ρ' h' → wpAny (model prg w) A (execs ((fBody (sub (stm 3) 1)).drop 5) (wsE L)) Q NoE { s with heap := h', toks := tk }) :
    wpAny (model prg w) A (execs ((fBody (sub (stm 3) 1)).drop 4) (wsE L)) Q NoE s := by
  obtain ⟨es, J, at_⟩ := I
  refine X.forT (WsInv ws.cps.toList · x) (WsEnd ws.cps.toList x) S h0 (xs := ws.cps.toList) (rep := fun c => .str ⟨#[c]⟩) ?_ (fun i hi T' ρ' g' hR hN hp S' => ?_) (fun T' ρ' h' tk hR hN S' => ?_)
  · refine EvIt.str F.han ((EvP.attr (attr := none) G J hx hd (Ev.name ?_) (by rw [at_.get, hraw]) rfl rfl rfl rfl rfl).weak fun h v q => ?_)
    · obtain ⟨z, a, rfl, _⟩ := h0; rfl
    · subst q; exact .str _ _
  · obtain ⟨z, a, rfl, ha, hgo, hn, hnt, hb, hc⟩ := hR
    have hi' : i < 1000 := by rw [Array.length_toList] at hi; omega
    have G' : TopH w g' := G.pers S'.high hp
    have hz : sizeLine = 16777216 := rfl
    rw [List.drop_eq_getElem_cons hi] at hgo
    generalize ws.cps.toList[i] = c at hgo ⊢
    refine ⟨[(Tc.S "ch", .d (.str ⟨#[c]⟩))], Tgt.name, fun h1 tk1 S1 => ?_⟩
    refine X.ite (c := c == 32) S1 (EvB.cast (EvB.cmpV (Ev.name rfl) (Ev.name rfl) Op2.eqS) (sign_eq c 32)) (fun hq h2 tk2 S2 => ?_) (fun hq h2 tk2 S2 => ?_)
    · have hstep : z.step c = some ⟨z.n + 1, z.nt, z.b + 1, z.count⟩ := if_pos (eq_of_beq hq)
      refine X.assign S2 (Ev.bin (Ev.name rfl) Ev.int Op2.add) fun h3 tk3 S3 => X.assign S3 (Ev.bin (Ev.name rfl) Ev.int Op2.add) fun h4 tk4 S4 => X.nil (X.nil ⟨h4, tk4, T', wsN x a ⟨z.n + 1, z.nt, z.b + 1, z.count⟩, rfl, .refl, S4.fit ⟨rfl, rfl, rfl, rfl, rfl, rfl, rfl, trivial⟩, ⟨_, a, rfl, ha, ?_, Nat.succ_le_succ hn, Nat.le_succ_of_le hnt, Nat.succ_le_succ hb, Nat.le_succ_of_le hc⟩⟩)
      rw [← hgo, wsGo, hstep]
    · have h32 : ¬ c = 32 := fun q => by subst q; cases hq
      refine X.ite (c := c == 9) S2 (EvB.cast (EvB.cmpV (Ev.name rfl) (Ev.name rfl) Op2.eqS) (sign_eq c 9)) (fun hq2 h3 tk3 S3 => ?_) (fun hq2 h3 tk3 S3 => ?_)
      · have hstep : z.step c = some ⟨z.n + 1, z.nt + 1, 0, bumpAt z.count z.b⟩ := by
          unfold Ws.step
          rw [if_neg h32, if_pos (eq_of_beq hq2)]
        have fin : ∀ h' tk (T3 : Tr) a3, New T' T3 g' → a3 ∈ T3.m → St (wsE L) T3 g' (wsN x a3 ⟨z.n + 1, z.nt + 1, 0, bumpAt z.count z.b⟩) h' → ∃ h3 tk3 T3 ρ3, ({ s with heap := h', toks := tk } : Shared) = { s with heap := h3, toks := tk3 } ∧ New T' T3 g' ∧ St (wsE L) T3 g' ρ3 h3 ∧ WsInv ws.cps.toList (i + 1) x T3 ρ3 := by
          intro h' tk T3 a3 hN3 ha3 S3
          refine ⟨h', tk, T3, _, rfl, hN3, S3, _, a3, rfl, ha3, ?_, Nat.succ_le_succ hn, Nat.succ_le_succ hnt, Nat.zero_le _, ?_⟩
          · rw [← hgo, wsGo, hstep]
          · show (bumpAt z.count z.b).length ≤ _
            unfold bumpAt
            rw [List.length_set]
            exact padTo_le (Nat.le_succ_of_le hc) (Nat.lt_succ_of_le hb)
        refine X.assign S3 (Ev.bin (Ev.name rfl) Ev.int Op2.add) fun h4 tk4 S4 => X.assign S4 (Ev.bin (Ev.name rfl) Ev.int Op2.add) fun h5 tk5 S5 => ?_
        have S6 := S5.fit (l := wsN x a ⟨z.n + 1, z.nt + 1, z.b, z.count⟩) ⟨rfl, rfl, rfl, rfl, rfl, rfl, rfl, trivial⟩
        have hlen : ∀ {ρ0 : List (Str × V)} {T0 : Tr} {p : Pos} {q : Pos} {r : Pos}, ρ0.lookup (Tc.S "count") = some (.o a (nl z.count)) → Ev (model prg w) A (wsE L) T0 g' ρ0 (.Call (.Name (Tc.S "len") p) [.Name (Tc.S "count") q] [] r) (.d (.int ((nl z.count).length : Nat))) := fun e => EvP.callB (Ev.built G' rfl rfl) (.cons (Ev.name e) .nil) (Cl.len rfl (by rw [nl_length]; omega)) fun _ _ => trivial
        refine X.ite (c := decide ((z.b : Int) ≥ ((nl z.count).length : Nat))) S6 (EvB.cmpV (Ev.name rfl) (hlen rfl) Op2.ge) (fun hq3 h6 tk6 S7 => ?_) (fun hq3 h6 tk6 S7 => ?_)
        · have hge : z.count.length ≤ z.b := by have := of_decide_eq_true hq3; rw [nl_length] at this; omega
          refine X.assignOwn S7 (EvN.add (Ev.name rfl) rfl (EvN.mul (k := (z.b : Int) - ((nl z.count).length : Nat) + 1) (EvN.list (ds := [.int 0]) (.cons Ev.int .nil)).ev rfl (Ev.bin (Ev.bin (Ev.name rfl) (hlen rfl) Op2.sub) Ev.int Op2.add) (by rw [nl_length]; omega) (by rw [nl_length]; omega) (by rw [nl_length]; show 1 * _ ≤ _; omega)).ev rfl ?_) fun a2 h7 tk7 hag haT S8 => X.nil ?_
          · rw [nl_length, List.length_flatten, List.map_replicate, List.sum_replicate_nat]
            show z.count.length + ((z.b : Int) - (z.count.length : Nat) + 1).toNat * 1 ≤ _
            omega
          · have hpad : nl z.count ++ (List.replicate ((z.b : Int) - ((nl z.count).length : Nat) + 1).toNat [PyData.int 0]).flatten = nl (padTo z.count z.b) := by
              have e1 : ((z.b : Int) - ((nl z.count).length : Nat) + 1).toNat = z.b - z.count.length + 1 := by rw [nl_length]; omega
              have e2 : ∀ k, (List.replicate k [PyData.int 0]).flatten = nl (List.replicate k 0) := by
                intro k
                rw [nl, List.map_replicate]
                induction k with
                | zero => rfl
                | succ k ih => rw [List.replicate_succ, List.flatten_cons, ih]; rfl
              rw [e1, e2, padTo, if_pos hge, nl, nl, nl, List.map_append]
            rw [hpad] at S8
            have S9 := S8.fit (l := wsN x a2 ⟨z.n + 1, z.nt + 1, z.b, padTo z.count z.b⟩) ⟨rfl, rfl, rfl, rfl, rfl, rfl, rfl, trivial⟩
            refine ws_tail S9 (.head _) (padTo_length _ _) (padTo_le (by omega) (by show z.b < 2000; omega)) fun h8 tk8 S10 => X.nil (X.nil (fin h8 tk8 (T'.add a2) a2 (New.add .refl hag) (.head _) S10))
        · have hlt : z.b < z.count.length := by have := of_decide_eq_false hq3; rw [nl_length] at this; omega
          have hpad : padTo z.count z.b = z.count := if_neg (by omega)
          refine X.nil (ws_tail S7 ha hlt (by show z.count.length ≤ _; omega) fun h7 tk7 S8 => X.nil (X.nil (fin h7 tk7 T' a .refl ha ?_)))
          unfold bumpAt
          rw [hpad]
          exact S8
      · have h9 : ¬ c = 9 := fun q => by subst q; cases hq2
        have hstep : z.step c = none := by unfold Ws.step; rw [if_neg h32, if_neg h9]
        rw [wsGo, hstep] at hgo
        have hi2 := hi
        refine X.cons (wpAny_Break ?_)
        refine ⟨h3, tk3, T', _, rfl, .refl, S3.fit (l := wsN x a z) ⟨rfl, rfl, rfl, rfl, rfl, rfl, rfl, trivial⟩, z, a, rfl, ha, hgo, by omega, by omega, by omega, by omega⟩
  · refine done T' ρ' h' tk ?_ hN S'
    rcases hR with ⟨z, a, rfl, ha, hgo, hn, hnt, hb, hc⟩ | hR
    · rw [List.drop_length] at hgo
      exact ⟨z, a, rfl, ha, hgo, hn, hnt, hb, hc⟩
    · exact hR
end
end Tc
set_option maxHeartbeats 2000000
namespace Tc
open PySem PySem.Calls PyProof.Rows PySem.W
theorem St.cut {env : Env} {T : Tr} {g h : Heap} {ρ : List (Str × V)} (S : St env T g ρ h) (T1 : Tr) (hL : env.locals ∈ T1.m) (hC : ∀ x c, env.cells.lookup x = some c → c ∈ T1.m) (hs : ∀ b, T1.has b → T.has b) (hρ : ∀ x r, ρ.lookup x = some r → (∃ d, r = .d d) ∨ ∃ v, r = .v v) : St env T1 h ρ h := by
  have vr : ∀ x r v, ρ.lookup x = some r → Vr T h v r → Vr T1 h v r := fun x r v e y => by
    rcases hρ x r e with ⟨d, rfl⟩ | ⟨u, rfl⟩
    · exact Rd.less hs y
    · exact y
  refine ⟨S.kind, .refl, fun b hb => S.live b (hs b hb), fun b hb => S.high b (hs b hb), hL, hC, S.inj, ?_, fun z kz => ?_⟩
  · obtain ⟨m, hm, k⟩ := S.ns
    exact ⟨m, hm, fun x r e l => let ⟨v, a, b⟩ := k x r e l; ⟨v, a, vr x r v e b⟩⟩
  · obtain ⟨c, w', a, b, k⟩ := S.cl z kz
    exact ⟨c, w', a, b, fun r e => let ⟨v, y, q⟩ := k r e; ⟨v, y, vr z r v e q⟩⟩
theorem At.objE {h : Heap} {x dx C : Addr} {as : List (Str × Value)} (I : At h x dx C as) : ∃ o, h.get? x = some o := let ⟨_, J, _⟩ := I; let ⟨_, e⟩ := J.obj; ⟨_, e⟩
theorem At.dictE {h : Heap} {x dx C : Addr} {as : List (Str × Value)} (I : At h x dx C as) : ∃ o, h.get? dx = some o := let ⟨_, J, _⟩ := I; let ⟨_, e⟩ := J.dict; ⟨_, e⟩
/-- a Whitespace that tells z -/
structure WsOk (T : Tr) (h : Heap) (x dx : Addr) (z : Ws) : Prop where
  at_ : ∃ as, At h x dx 100 as ∧ (∃ t, as.lookup (Tc.S "n") = some (.int (z.n : Nat) t)) ∧ (∃ t, as.lookup (Tc.S "nt") = some (.int (z.nt : Nat) t)) ∧
    (∃ v, as.lookup (Tc.S "norm") = some v ∧ Rd T h v (.tuple [.tuple (nl z.count), .int (z.b : Nat)])) ∧
    as.lookup (Tc.S "longest_run_of_spaces") = none ∧ as.lookup (Tc.S "indent_level") = none ∧ as.lookup (Tc.S "not_less_witness") = none
section
variable {w : World} {A : Around} {T : Tr} {g h : Heap} {ρ : List (Str × V)}
theorem ws_init {n : Nat} {s : Shared} {x dx : Addr} {ws : Str} {t : Tok} {R : Result → Shared → Prop} (F : Fine A (n + 1)) (W : Wd w T s.heap) (I : At s.heap x dx 100 []) (hx4 : 398 ≤ x) (hd4 : 398 ≤ dx) (hlen : ws.cps.size ≤ 1000)
    (done : ∀ h' tk, Pers [dx] s.heap h' → WsOk T h' x dx (wsOf ws) → R (.ok (.ret .none)) { s with heap := h', toks := tk }) :
    codeAny (model prg w) A (.call (.ref 55) ⟨[.ref x, .str ws t], []⟩) R s := by
  obtain ⟨es0, J0, at0⟩ := id I
  refine enterC (own := ⟨[dx], T.m ++ T.n⟩) (binds := [(Tc.S "self", .ref x), (Tc.S "ws", .str ws t)]) (ρ := [(Tc.S "self", .v (.ref x)), (Tc.S "ws", .d (.str ws))]) (P := fun h' v => v = .none ∧ WsOk T h' x dx (wsOf ws)) W.1 F.go rfl rfl rfl rfl (kp_binds W.1.in_ fun _ => rfl) rfl rfl rfl rfl rfl (by decide) (ns := [Tc.S "self", Tc.S "ws"]) rfl (apartB_nodup rfl) (fun b hb => ?_) (.cons rfl (.cons (.str _ _) .nil)) (fun L h₁ tk e0 hn S0 => ?_) (fun h' tk v p hv => ?_)
  · rcases hb with hb | hb
    · rw [List.mem_singleton.mp hb]; exact ⟨hd4, let ⟨_, e⟩ := J0.dict; ⟨_, e⟩⟩
    · exact W.2 b (List.mem_append.mp hb)
  · have hLx : x ≠ L := by
      rintro rfl
      obtain ⟨_, e⟩ := J0.obj
      have := hn x (.head _); rw [e] at this; cases this
    have hLd : dx ≠ L := by
      rintro rfl
      obtain ⟨_, e⟩ := J0.dict
      have := hn dx (.head _); rw [e] at this; cases this
    have F' : Fine (A.deeper (wsE L)) n := F.in_ _
    have S1 : St (wsE L) ⟨[L], T.m ++ T.n⟩ h₁ _ h₁ := S0.cut ⟨[L], T.m ++ T.n⟩ (.head _) (fun x c e => by cases e) (fun b hb => by
      rcases hb with hb | hb
      · rw [List.mem_singleton.mp hb]; exact .inl (.head _)
      · exact .inr hb) (fun y r e => by
      rw [List.lookup_cons] at e
      cases q : y == Tc.S "self" with
      | true => rw [q] at e; cases e; exact .inr ⟨_, rfl⟩
      | false =>
        rw [q, List.lookup_cons] at e
        cases q2 : y == Tc.S "ws" with
        | true => rw [q2] at e; cases e; exact .inl ⟨_, rfl⟩
        | false => rw [q2] at e; cases e)
    generalize hT1 : (⟨[L], T.m ++ T.n⟩ : Tr) = T1 at S1
    have hT1m : T1.m = [L] := by rw [← hT1]
    have hTT : ∀ b, T.has b → T1.has b := fun b hb => by rw [← hT1]; exact .inr (List.mem_append.mpr hb)
    have G1 := W.1.ext e0
    have I1 := I.pers (l := []) List.not_mem_nil List.not_mem_nil e0.pers
    have hd1 : dx ∉ T1.m := by rw [hT1m]; exact fun q => hLd (List.mem_singleton.mp q)
    have hx1 : x ∉ T1.m := by rw [hT1m]; exact fun q => hLx (List.mem_singleton.mp q)
    refine X.setAttr G1 S1 I1 hd1 hd4 (Ev.name rfl) (Ev.name (r := .d (.str ws)) rfl) Stays.vr (fun h1 h2 tk2 v e1 _ _ p2 S2 G2 I2 pv => ?_) rfl rfl rfl rfl rfl (by decide)
    obtain ⟨t2, rfl⟩ := pv.strE
    have p12 : Pers [dx, L] s.heap h2 := e0.pers.trans (e1.pers.trans p2)
    obtain ⟨ox2, ho2⟩ := I2.objE
    obtain ⟨od2, hd2⟩ := I2.dictE
    refine X.swap2 F'.han S2 (Ev.tuple (ds := [.str (Tc.S " "), .str (Tc.S "\t")]) (.cons (Ev.asData (Ev.clsAttr G2 (Ev.glob G2 rfl) (mc := .type "type") rfl rfl rfl) fun _ => .str _ _) (.cons (Ev.asData (Ev.clsAttr G2 (Ev.glob G2 rfl) (mc := .type "type") rfl rfl rfl) fun _ => .str _ _) .nil)) (by decide)) fun h3 tk3 S3 => ?_
    refine X.assignOwn S3 (EvN.list (ds := []) .nil) fun a h4 tk4 hag haT S4 => ?_
    refine X.assign3 S4 Ev.int fun h5 tk5 S5 => ?_
    have notin : ∀ {T' : Tr} {b : Addr} {o : Obj}, New (T1.add a) T' h2 → h2.get? b = some o → b ∉ T1.m → b ∉ T'.m := by
      rintro T' b o ⟨l, rfl, hl⟩ e q m
      rcases List.mem_append.mp m with m | m
      · rw [hl b m] at e; cases e
      · rcases List.mem_cons.mp m with rfl | m
        · rw [hag] at e; cases e
        · exact q m
    refine ws_loop F' G2 (S5.fit (l := wsN x a ⟨0, 0, 0, []⟩) ⟨rfl, rfl, rfl, rfl, rfl, rfl, rfl, trivial⟩) I2 (notin .refl ho2 hx1) (notin .refl hd2 hd1) rfl hlen ⟨⟨0, 0, 0, []⟩, a, rfl, .head _, rfl, Nat.le_refl _, Nat.le_refl _, Nat.le_refl _, Nat.le_refl _⟩ fun T' ρ' h6 tk6 hE hN S6 => ?_
    obtain ⟨z, a', rfl, ha', hz, b1, b2, b3, b4⟩ := hE
    rw [Array.length_toList] at b1 b2 b3 b4
    have hz' : sizeLine = 16777216 := rfl
    have hx' := notin hN ho2 hx1
    have hd' := notin hN hd2 hd1
    have I6 := I2.pers hx' hd' S6.pers
    have p26 : Pers [L] h2 h6 := hT1m ▸ (hN.drop S6.pers).drop hag
    have hT' : ∀ b, T.has b → T'.has b := fun b hb => hN.has (Tr.has_add.mpr (.inr (hTT b hb)))
    have G6 : TopH w h6 := G2.on S6
    refine X.setAttr G6 S6.rebase I6 hd' hd4 (Ev.name rfl) (Ev.name (r := .d (.int (z.n : Nat))) rfl) Stays.vr (fun h7 h8 tk8 v8 e7 _ _ p8 S8 G8 I8 pv8 => ?_) rfl rfl rfl rfl rfl (by show 1 < 1000; decide)
    obtain ⟨t8, rfl⟩ := pv8.intE
    refine X.setAttr G8 S8 I8 hd' hd4 (Ev.name rfl) (Ev.name (r := .d (.int (z.nt : Nat))) rfl) Stays.vr (fun h9 h10 tk10 v10 e9 _ _ p10 S10 G10 I10 pv10 => ?_) rfl rfl rfl rfl rfl (by show 2 < 1000; decide)
    obtain ⟨t10, rfl⟩ := pv10.intE
    refine X.setAttr G10 S10 I10 hd' hd4 (Ev.name rfl) (Ev.tuple (ds := [.tuple (nl z.count), .int (z.b : Nat)]) (.cons (EvP.callT (Ev.built G10 rfl rfl) (.cons (Ev.name rfl) .nil) (Cl.tupleList rfl (by rw [nl_length]; omega)) fun h S => Wd.of G10 S) (.cons (Ev.name rfl) .nil)) (show 2 ≤ sizeLine by decide)) Stays.vr (fun h11 h12 tk12 v12 e11 n1 n2 p12' S12 G12 I12 pv12 => ?_) rfl rfl rfl rfl rfl (by show 3 < 1000; decide)
    refine X.setAttr G12 S12 I12 hd' hd4 (Ev.name rfl) (EvP.cmp (EvP.callB (Ev.built G12 rfl rfl) (.cons (Ev.name rfl) .nil) (Cl.len (T' := T') rfl (by rw [nl_length]; omega)) fun _ _ => trivial) (Ev.int (T := T')) Op2.le) (fun _ _ _ _ q => q) (fun h13 h14 tk14 v14 e13 n3 n4 p14 S14 G14 I14 pv14 => ?_) rfl rfl rfl rfl rfl (by show 4 < 1000; decide)
    refine X.nil ⟨h14, tk14, rfl, ?_, rfl, ?_⟩
    · have q : Pers [dx, L] s.heap h14 := p12.trans ((p26.more fun b hb => .tail _ hb).trans ((e7.pers.trans p8).trans ((e9.pers.trans p10).trans ((e11.pers.trans p12').trans (e13.pers.trans p14)))))
      refine q.more fun b hb => ?_
      rcases List.mem_cons.mp hb with rfl | hb
      · exact List.mem_append_right _ (.head _)
      · rw [List.mem_singleton.mp hb]; exact List.mem_append_left _ (.head _)
    · have hzz : wsOf ws = z := hz.symm
      rw [hzz]
      refine ⟨⟨_, I14, ⟨_, rfl⟩, ⟨_, rfl⟩, ⟨v12, rfl, ?_⟩, rfl, rfl, rfl⟩⟩
      refine Rd.less hT' (Rd.bump2 n3 n4 p14 (Rd.pers e13.pers (Rd.bump2 n1 n2 p12' pv12)))
  · exact hv.1 ▸ done h' tk p hv.2
end
end Tc
set_option maxHeartbeats 2000000
namespace Tc
open PySem PySem.Calls PyProof.Rows PySem.W
theorem Rd.seal {T : Tr} {h : Heap} {v : Value} {d : PyData} (x : Rd T h v d) : Rd T.seal h v d := Rd.less (fun _ hb => Tr.has_seal.mp hb) x
theorem seal_off {T : Tr} {l : List Addr} {g : Heap} {b : Addr} {o : Obj} (hl : ∀ b ∈ l, g.get? b = none) (e : g.get? b = some o) (h : T.off b) : (T.seal.with l).off b := Tr.off_iff.mpr fun q => by
  rcases Tr.has_with.mp q with q | q
  · rw [hl b q] at e; cases e
  · exact Tr.off_iff.mp h (Tr.has_seal.mp q)
/-- a Whitespace that nobody here turns -/
structure WsH (T : Tr) (h : Heap) (x dx : Addr) (z : Ws) : Prop where
  ok : WsOk T h x dx z
  offX : T.off x
  offD : T.off dx
theorem WsH.pers {T : Tr} {g h : Heap} {x dx : Addr} {z : Ws} (W : WsH T g x dx z) (p : Pers T.m g h) : WsH T h x dx z := by
  obtain ⟨as, I, a, b, ⟨v, c, r⟩, d⟩ := W.ok.at_
  exact ⟨⟨as, I.pers W.offX.1 W.offD.1 p, a, b, ⟨v, c, Rd.pers p r⟩, d⟩, W.offX, W.offD⟩
theorem WsH.seal {T : Tr} {g : Heap} {x dx : Addr} {z : Ws} (W : WsH T g x dx z) {l : List Addr} (hl : ∀ b ∈ l, g.get? b = none) : WsH (T.seal.with l) g x dx z := by
  obtain ⟨as, I, a, b, ⟨v, c, r⟩, d⟩ := W.ok.at_
  obtain ⟨_, ex⟩ := I.objE
  obtain ⟨_, ed⟩ := I.dictE
  exact ⟨⟨as, I, a, b, ⟨v, c, Rd.offs hl r.seal⟩, d⟩, seal_off hl ex W.offX, seal_off hl ed W.offD⟩
theorem WsH.add {T : Tr} {g : Heap} {x dx b : Addr} {z : Ws} (W : WsH T g x dx z) (hb : g.get? b = none) : WsH (T.add b) g x dx z := by
  obtain ⟨as, I, a, b', ⟨v, c, r⟩, d⟩ := W.ok.at_
  obtain ⟨_, ex⟩ := I.objE
  obtain ⟨_, ed⟩ := I.dictE
  have hx : x ≠ b := fun q => (by rw [q, hb] at ex; cases ex)
  have hd : dx ≠ b := fun q => (by rw [q, hb] at ed; cases ed)
  exact ⟨⟨as, I, a, b', ⟨v, c, Rd.off hb r⟩, d⟩, Tr.off_add.mpr ⟨hx, W.offX⟩, Tr.off_add.mpr ⟨hd, W.offD⟩⟩
section
variable {prog : Program} {w : World} {A : Around} {env : Env} {T : Tr} {g : Heap} {ρ : List (Str × V)}
theorem Ev.attrV {o : Expr} {name : Str} {pos : Pos} {x dx C : Addr} {as : List (Str × Value)} {v : Value} {r : V} (G : TopH w g) (I : At g x dx C as) (hx : x ∉ T.m) (hd : dx ∉ T.m) (ho : Ev (model prog w) A env T g ρ o r) (hr : ∀ h v, Vr T h v r → v = .ref x)
    (hl : as.lookup name = some v) (hv : handedIn v = true) (hg : plainGet (topList w.params) C name = true) (hh : hasDictIn (topList w.params) C = true) (ha : findIn (topList w.params) (.ref C) name = some none)
    (he : eval (.Attribute o name pos) env = (do
      let o' ← eval o env
      standAt pos.atName
      let r ← holding [o'] (getAttr o' name true)
      letTemporaryGo o o' r
      pure r) := by with_unfolding_all rfl) : Ev (model prog w) A env T g ρ (.Attribute o name pos) (.v v) := by
  intro s Q E S q
  obtain ⟨es, J, at_⟩ := I
  have ho' : Ev (model prog w) A env T g ρ o (.v (.ref x)) := fun s Q E S q => ho s _ _ S fun h' tk u e p => q h' tk u e (hr _ _ p)
  exact EvP.attr (attr := none) G J hx hd ho' (by rw [at_.get, hl]) hv hg hh ha rfl he s _ _ S fun h' tk u e p => q h' tk u e p
theorem Ev.attrD {o : Expr} {name : Str} {pos : Pos} {x dx C : Addr} {as : List (Str × Value)} {v : Value} {d : PyData} (G : TopH w g) (I : At g x dx C as) (hx : x ∉ T.m) (hd : dx ∉ T.m) (ho : Ev (model prog w) A env T g ρ o (.v (.ref x)))
    (hl : as.lookup name = some v) (r : Rd T g v d) (hv : handedIn v = true) (hg : plainGet (topList w.params) C name = true) (hh : hasDictIn (topList w.params) C = true) (ha : findIn (topList w.params) (.ref C) name = some none)
    (he : eval (.Attribute o name pos) env = (do
      let o' ← eval o env
      standAt pos.atName
      let r ← holding [o'] (getAttr o' name true)
      letTemporaryGo o o' r
      pure r) := by with_unfolding_all rfl) : Ev (model prog w) A env T g ρ (.Attribute o name pos) (.d d) := by
  intro s Q E S q
  exact Ev.attrV G I hx hd ho (fun _ _ p => p) hl hv hg hh ha he s _ _ S fun h' tk u e p => q h' tk u e (by cases p; exact Rd.pers (S.ext e).pers r)
theorem Rd.handed {h : Heap} {v : Value} {d : PyData} (r : Rd T h v d) : handedIn v = true := by cases r <;> rfl
theorem Cl.lenT {ds : List PyData} {T' : Tr} (hb : ds.length < 2 ^ 62) : Cl (model prog w) A (.builtin "len") (fun _ => True) T [.d (.tuple ds)] (isI T' ds.length) := by
  intro s vs Q E _ x q
  obtain _ | ⟨x, y⟩ := x
  cases y
  obtain ⟨a, its, rfl, _, ht, hds⟩ := Rd.isTup x
  have hlen : (its.size : Int) = ds.length := by
    have := hds.length
    rw [Array.length_toList] at this
    omega
  refine PyProof.Rows.len_tuple ht (by rw [hlen]; omega) ?_
  rw [hlen]
  exact q _ _ _ .refl (.int _ _)
theorem Ev.itemT {a b : Expr} {pos : Pos} {ds : List PyData} {k : Nat} {d : PyData} (ha : Ev (model prog w) A env T g ρ a (.d (.tuple ds))) (hb : Ev (model prog w) A env T g ρ b (.d (.int k))) (h1 : k < 2 ^ 62) (hd : ds[k]? = some d)
    (hs : ∀ l u, subscripted b false (.ref l) (.int k u) = operate [.ref l, .int k u] (getItem (.ref l) (.int k u)) := by intro _ _; with_unfolding_all rfl) : Ev (model prog w) A env T g ρ (.Subscript a b pos) (.d d) := by
  intro s Q E S q
  refine Subscript_ (ha s _ _ S fun h1 t1 v1 e1 p1 => hb _ _ _ (S.ext e1) fun h2 t2 v2 e2 p2 => ?_)
  obtain ⟨l, its, rfl, _, ht, hds⟩ := Rd.isTup (p1.ext e2)
  obtain ⟨u, rfl⟩ := p2.intE
  obtain ⟨v, hv, hvd⟩ := hds.get hd
  have len := hds.length
  rw [Array.length_toList] at len
  have hk : k < its.size := by rw [len]; exact (List.getElem?_eq_some_iff.mp hd).1
  have hj : seqIndex? (k : Int) its.size = some k := by
    unfold seqIndex?
    have : ¬ ((k : Int) < 0) := by omega
    simp only [this]
    simp [hk]
  refine tail_any (IsTup.typeIs ht) F.slot_tuple_getitem.lookup (PyProof.Rows.getItem_tuple ht (by omega) (by omega) hj (by simpa using hv) ?_) (hs l u)
  exact q h2 t2 v (e1.trans e2) hvd
/-- the attribute norm -/
theorem Ev.norm {o : Expr} {pos : Pos} {x dx : Addr} {z : Ws} (G : TopH w g) (W : WsH T g x dx z) (ho : Ev (model prog w) A env T g ρ o (.v (.ref x)))
    (he : eval (.Attribute o (Tc.S "norm") pos) env = (do
      let o' ← eval o env
      standAt pos.atName
      let r ← holding [o'] (getAttr o' (Tc.S "norm") true)
      letTemporaryGo o o' r
      pure r) := by with_unfolding_all rfl) : Ev (model prog w) A env T g ρ (.Attribute o (Tc.S "norm") pos) (.d (.tuple [.tuple (nl z.count), .int (z.b : Nat)])) := by
  obtain ⟨as, I, _, _, ⟨v, c, r⟩, _⟩ := W.ok.at_
  exact Ev.attrD G I W.offX.1 W.offD.1 ho c r r.handed rfl rfl rfl he
theorem Ev.wsN {o : Expr} {pos : Pos} {x dx : Addr} {z : Ws} (G : TopH w g) (W : WsH T g x dx z) (ho : Ev (model prog w) A env T g ρ o (.v (.ref x)))
    (he : eval (.Attribute o (Tc.S "n") pos) env = (do
      let o' ← eval o env
      standAt pos.atName
      let r ← holding [o'] (getAttr o' (Tc.S "n") true)
      letTemporaryGo o o' r
      pure r) := by with_unfolding_all rfl) : Ev (model prog w) A env T g ρ (.Attribute o (Tc.S "n") pos) (.d (.int (z.n : Nat))) := by
  obtain ⟨as, I, ⟨t, c⟩, _⟩ := W.ok.at_
  exact Ev.attrD G I W.offX.1 W.offD.1 ho c (.int _ _) rfl rfl rfl rfl he
theorem Ev.wsNt {o : Expr} {pos : Pos} {x dx : Addr} {z : Ws} (G : TopH w g) (W : WsH T g x dx z) (ho : Ev (model prog w) A env T g ρ o (.v (.ref x)))
    (he : eval (.Attribute o (Tc.S "nt") pos) env = (do
      let o' ← eval o env
      standAt pos.atName
      let r ← holding [o'] (getAttr o' (Tc.S "nt") true)
      letTemporaryGo o o' r
      pure r) := by with_unfolding_all rfl) : Ev (model prog w) A env T g ρ (.Attribute o (Tc.S "nt") pos) (.d (.int (z.nt : Nat))) := by
  obtain ⟨as, I, _, ⟨t, c⟩, _⟩ := W.ok.at_
  exact Ev.attrD G I W.offX.1 W.offD.1 ho c (.int _ _) rfl rfl rfl rfl he
/-- Whitespace(e) -/
theorem EvP.ws {n : Nat} {fe e : Expr} {pos : Pos} {ws : Str} (F : Fine A (n + 2)) (G : TopH w g) (hf : Ev (model prg w) A env T g ρ fe (.v (.ref 100))) (hE : Ev (model prg w) A env T g ρ e (.d (.str ws))) (hlen : ws.cps.size ≤ 1000)
    (h1 : eval (.Call fe [e] [] pos) env = (do callWith pos (← eval fe env) [] (backTo pos (starEach [e] env)) (backToKw pos (keywordEach [] env))) := by rfl)
    (he : starEach [e] env = (false, eval e env) :: starEach [] env := by rfl) :
    EvP (model prg w) A env T g ρ (.Call fe [e] [] pos) fun h v => ∃ x dx, v = .ref x ∧ 398 ≤ x ∧ 398 ≤ dx ∧ WsH T h x dx (wsOf ws) := by
  intro s Q E S q
  refine Call_ (hf s _ _ S fun h1 t1 v1 e1 p1 => ?_) h1
  cases p1
  have G1 := G.on (S.ext e1)
  refine callWith_K G1.in_ (by rfl) ((EvAs.cons hE .nil he) pos _ _ _ (S.ext e1) fun h2 t2 vs e2 p2 => ?_) he rfl
  obtain _ | ⟨pv, _ | _⟩ := p2
  obtain ⟨t, rfl⟩ := pv.strE
  have S2 := (S.ext e1).ext e2
  have W2 := Wd.of G S2
  refine ⟨W2.1.in_, wpAny_call (make_cls W2.1 (by rfl) (by rfl) (by rfl) fun x dx h3 e3 hx hd hsd hsx hne J => ?_)⟩
  have big : 398 ≤ h2.objs.size := Nat.le_of_lt_succ (Nat.succ_le_succ (Nat.le_trans (by decide) (top_lt W2.1)))
  have W3 : Wd w T h3 := ⟨W2.1.ext e3, fun b hb => let ⟨a, o, ho⟩ := W2.2 b hb; ⟨a, o, e3 _ _ ho⟩⟩
  refine ws_init F.under_cls W3 ⟨[], J, .nil⟩ (Nat.le_trans big hsx) (Nat.le_trans big hsd) hlen fun h4 tk4 p4 W4 => ?_
  have e4 : Ext h2 h4 := fun b o e => p4 b o (fun z => by rw [List.mem_singleton.mp z] at e; rw [show h2.get? dx = none from hd] at e; cases e) (e3 _ _ e)
  exact ⟨rfl, q _ _ _ ((e1.trans e2).trans e4) ⟨x, dx, rfl, Nat.le_trans big hsx, Nat.le_trans big hsd, W4, S2.off hx, S2.off hd⟩⟩
end
end Tc
set_option maxHeartbeats 2000000
namespace Tc
open PySem PySem.Calls PyProof.Rows PySem.W
theorem range_small {a b : Int} (ha : 0 ≤ a) (ha2 : a ≤ 10000) (hb : 0 ≤ b) (hb2 : b ≤ 10000) : Builtin.Range.small a b 1 = true := by
  have fit : ∀ x : Int, -100000 ≤ x → x ≤ 100000 → Builtin.Range.rangeFitsLong x = true := fun x h1 h2 => by
    unfold Builtin.Range.rangeFitsLong
    simp only [Bool.and_eq_true, decide_eq_true_eq]
    omega
  have hs : -100000 ≤ (Builtin.Range.rangeSize a b 1 : Int) ∧ (Builtin.Range.rangeSize a b 1 : Int) ≤ 100000 := by
    unfold Builtin.Range.rangeSize
    simp
    split <;> omega
  unfold Builtin.Range.small
  rw [fit a (by omega) (by omega), fit b (by omega) (by omega), fit 1 (by omega) (by omega), fit _ hs.1 hs.2]
  simp
  exact .inr (fit _ (by omega) (by omega))
section
variable {w : World} {A : Around} {env : Env} {T : Tr} {g : Heap} {ρ : List (Str × V)}
noncomputable def lrOf (z : Ws) : Int := max ((z.count.length : Int) - 1) (z.b : Nat)
theorem longest_cl {k : Nat} {x dx : Addr} {z : Ws} (F : Fine A (k + 1)) (hc : z.count.length ≤ 1000) : Cl (model prg w) A (.ref 62) (fun h => Wd w T h ∧ WsH T h x dx z) T [.v (.ref x)] (isI T (lrOf z)) := by
  refine Cl.mkW (ρ := [(Tc.S "self", .v (.ref x))]) (fun h => WsH T h x dx z) F rfl rfl rfl rfl (fun s vs G xs => ?_) (fun L l g h₁ tk s₀ G XX hl F' hst S => ?_)
  · obtain _ | ⟨xa, _ | _⟩ := xs
    rename_i va
    exact ⟨[(Tc.S "self", va)], kp_binds G.in_ fun _ => rfl, .cons xa .nil, rfl⟩
  · have W := XX.seal hl
    refine X.assign2 F'.han S (Ev.norm G W (Ev.name rfl)) fun h1 tk1 S1 => ?_
    refine X.ret S1 (EvP.callB (Ev.built G rfl rfl) (.cons (Ev.bin (EvP.callB (Ev.built G rfl rfl) (.cons (Ev.name rfl) .nil) (Cl.lenT (by rw [nl_length]; omega)) fun _ _ => trivial) Ev.int Op2.sub) (.cons (Ev.name rfl) .nil)) (Cl.max2 F'.han) fun _ _ => trivial) fun h' tk' v S' hv => ⟨h', tk', rfl, S'.pers, ?_⟩
    rw [nl_length] at hv
    obtain ⟨t, rfl⟩ := hv.intE
    exact .int _ _
noncomputable def ilOf (count : List Nat) (ts : Nat) : Nat := (List.range (count.length - ts)).foldl (fun il j => il + (ts + j) / ts * count.getD (ts + j) 0) 0
noncomputable def inOf (z : Ws) (ts : Nat) : Nat := z.b + ts * (ilOf z.count ts + z.nt)
theorem indent_cl {k : Nat} {x dx : Addr} {z : Ws} {ts : Nat} (F : Fine A (k + 1)) (hc : z.count.length ≤ 1000) (ht : 0 < ts) (ht2 : ts ≤ 2000) : Cl (model prg w) A (.ref 69) (fun h => Wd w T h ∧ WsH T h x dx z) T [.v (.ref x), .d (.int ts)] (isI T (inOf z ts : Nat)) := by
  refine Cl.mkW (ρ := [(Tc.S "self", .v (.ref x)), (Tc.S "tabsize", .d (.int ts))]) (fun h => WsH T h x dx z) F rfl rfl rfl rfl (fun s vs G xs => ?_) (fun L l g h₁ tk s₀ G XX hl F' hst S => ?_)
  · obtain _ | ⟨xa, _ | ⟨xb, _ | _⟩⟩ := xs
    rename_i va vb
    exact ⟨[(Tc.S "self", va), (Tc.S "tabsize", vb)], kp_binds G.in_ fun _ => rfl, .cons xa (.cons xb .nil), rfl⟩
  · have W := XX.seal hl
    refine X.assign2 F'.han S (Ev.norm G W (Ev.name rfl)) fun h1 tk1 S1 => ?_
    refine X.assign S1 Ev.int fun h2 tk2 S2 => ?_
    refine X.forFold (xs := List.range (z.count.length - ts)) (rep := fun (j : Nat) => PyData.int ((ts : Int) + (j : Nat))) (fun (il : Nat) j => il + (ts + j) / ts * z.count.getD (ts + j) 0) (fun il => [(Tc.S "self", .v (.ref x)), (Tc.S "tabsize", .d (.int ts)), (Tc.S "count", .d (.tuple (nl z.count))), (Tc.S "trailing", .d (.int (z.b : Nat))), (Tc.S "il", .d (.int (il : Nat)))]) (fun _ _ => True) 0 S2 ⟨rfl, rfl, rfl, rfl, rfl, trivial⟩ trivial ?_ (fun i j hj il g' _ hp S' => ⟨_, Tgt.name, fun h3 tk3 S3 => ?_⟩) (fun _ h3 tk3 S3 => ?_)
    · refine EvIt.comap (f := fun (j : Nat) => (ts : Int) + (j : Nat)) (EvIt.range2 F'.han (Ev.built G rfl rfl) (Ev.name rfl) (EvP.callB (Ev.built G rfl rfl) (.cons (Ev.name rfl) .nil) (Cl.lenT (by rw [nl_length]; omega)) fun _ _ => trivial) ?_ ?_)
      · rw [nl_length]
        have : ((z.count.length : Int) - (ts : Int)).toNat = z.count.length - ts := by omega
        rw [this]
      · exact range_small (by omega) (by omega) (by omega) (by rw [nl_length]; omega)
    · have hj' : ts + j < z.count.length := by
        have := List.mem_range.mp (List.mem_of_getElem? hj)
        omega
      have hd : (nl z.count)[ts + j]? = some (.int (z.count.getD (ts + j) 0 : Nat)) := by
        rw [nl, List.getElem?_map, List.getD_eq_getElem?_getD, List.getElem?_eq_getElem hj']
        rfl
      have hdiv : ((ts : Int) + (j : Nat)).fdiv ts = ((ts + j) / ts : Nat) := by
        rw [Int.fdiv_eq_ediv_of_nonneg _ (by omega)]
        exact (Int.natCast_ediv (ts + j) ts).symm
      refine X.assign S3 (Ev.bin (Ev.name rfl) (Ev.bin (Ev.bin (Ev.name rfl) (Ev.name rfl) (Op2.fdiv (by omega) (PyProof.noPylong_small (by omega)))) (Ev.itemT (k := ts + j) (Ev.name rfl) (Ev.name rfl) (by omega) hd) (Op2.mul (mul_ok ?_))) Op2.add) fun h4 tk4 S4 => X.nil ⟨.inl rfl, h4, tk4, rfl, S4.fit ⟨rfl, rfl, rfl, rfl, ?_, trivial⟩, trivial⟩
      · rw [hdiv]
        have : (ts + j) / ts ≤ 1000 := Nat.le_trans (Nat.div_le_self _ _) (by omega)
        rw [Int.natAbs_natCast]
        exact Nat.lt_of_le_of_lt this (by decide)
      · show _ = some (V.d (.int _))
        rw [hdiv, ← Int.natCast_mul, ← Int.natCast_add]
        rfl
    · refine X.ret S3 (Ev.bin (Ev.name rfl) (Ev.bin (Ev.name rfl) (Ev.bin (Ev.name rfl) (Ev.wsNt G W (Ev.name rfl)) Op2.add) (Op2.mul (mul_ok (by omega)))) Op2.add) fun h' tk' v S' hv => ⟨h', tk', rfl, S'.pers, ?_⟩
      obtain ⟨t, rfl⟩ := hv.intE
      have : ((z.b : Nat) : Int) + (ts : Int) * ((((List.range (z.count.length - ts)).foldl (fun il j => il + (ts + j) / ts * z.count.getD (ts + j) 0) 0 : Nat) : Int) + (z.nt : Nat)) = ((inOf z ts : Nat) : Int) := by
        rw [← Int.natCast_add, ← Int.natCast_mul, ← Int.natCast_add]
        rfl
      rw [this]
      exact .int _ _
noncomputable def nlwN (z y : Ws) : Nat := (max (lrOf z) (lrOf y) + 1).toNat
noncomputable def wit (z y : Ws) (ts : Nat) : PyData := .tuple [.int (ts : Nat), .int (inOf z ts : Nat), .int (inOf y ts : Nat)]
noncomputable def nlwStep (z y : Ws) (l : List Nat) (j : Nat) : List Nat := if inOf z (j + 1) ≥ inOf y (j + 1) then l ++ [j + 1] else l
noncomputable def nlwOf (z y : Ws) : List Nat := (List.range (nlwN z y)).foldl (nlwStep z y) []
theorem lrOf_bd {z : Ws} (hc : z.count.length ≤ 1000) (hb : z.b ≤ 1000) : 0 ≤ lrOf z ∧ lrOf z ≤ 1000 := by
  unfold lrOf
  omega
theorem Ev.longest {k : Nat} {o : Expr} {apos pos : Pos} {x dx : Addr} {z : Ws} (F : Fine A (k + 1)) (G : TopH w g) (W : WsH T g x dx z) (hc : z.count.length ≤ 1000) (ho : Ev (model prg w) A env T g ρ o (.v (.ref x)))
    {pl : Sem Bool} (h1 : eval (.Call (.Attribute o (Tc.S "longest_run_of_spaces") apos) [] [] pos) env = (do
      let ov ← eval o env
      standAt apos.atName
      let (f, first) ← holding [ov] (getMethod ov (Tc.S "longest_run_of_spaces") pl)
      callWith pos f first (backTo pos (starEach [] env)) []) := by rfl) : Ev (model prg w) A env T g ρ (.Call (.Attribute o (Tc.S "longest_run_of_spaces") apos) [] [] pos) (.d (.int (lrOf z))) := by
  obtain ⟨as, ⟨es, J, at_⟩, _, _, _, n1, n2, n3⟩ := W.ok.at_
  exact EvP.meth0 G J W.offX.1 W.offD.1 ho (fun _ _ p => p) rfl rfl (longest_cl F hc) (fun h S => ⟨Wd.of G S, W.pers S.pers⟩) (by rw [at_.get, n1]) (by rfl) (by rfl) (by rfl) h1
theorem Ev.indent {k ts : Nat} {o e : Expr} {apos pos : Pos} {x dx : Addr} {z : Ws} (F : Fine A (k + 1)) (G : TopH w g) (W : WsH T g x dx z) (hc : z.count.length ≤ 1000) (ht : 0 < ts) (ht2 : ts ≤ 2000) (ho : Ev (model prg w) A env T g ρ o (.v (.ref x))) (hE : Ev (model prg w) A env T g ρ e (.d (.int (ts : Nat))))
    {pl : Sem Bool} (h1 : eval (.Call (.Attribute o (Tc.S "indent_level") apos) [e] [] pos) env = (do
      let ov ← eval o env
      standAt apos.atName
      let (f, first) ← holding [ov] (getMethod ov (Tc.S "indent_level") pl)
      callWith pos f first (backTo pos (starEach [e] env)) []) := by rfl)
    (he : starEach [e] env = (false, eval e env) :: starEach [] env := by rfl) : Ev (model prg w) A env T g ρ (.Call (.Attribute o (Tc.S "indent_level") apos) [e] [] pos) (.d (.int (inOf z ts : Nat))) := by
  obtain ⟨as, ⟨es, J, at_⟩, _, _, _, n1, n2, n3⟩ := W.ok.at_
  exact EvP.meth G J W.offX.1 W.offD.1 ho (fun _ _ p => p) (.cons hE .nil he) rfl rfl (indent_cl F hc ht ht2) (fun h S => ⟨Wd.of G S, W.pers S.pers⟩) (by rw [at_.get, n2]) (by rfl) (by rfl) (by rfl) h1 he
theorem witness_cl {k : Nat} {x dx y dy : Addr} {z u : Ws} (F : Fine A (k + 2)) (hc : z.count.length ≤ 1000) (hb : z.b ≤ 1000) (hc2 : u.count.length ≤ 1000) (hb2 : u.b ≤ 1000) : Cl (model prg w) A (.ref 97) (fun h => Wd w T h ∧ (WsH T h x dx z ∧ WsH T h y dy u)) T [.v (.ref x), .v (.ref y)] (fun h v => Vr T h v (.d (.list ((nlwOf z u).map (wit z u))))) := by
  refine Cl.mkW (ρ := [(Tc.S "self", .v (.ref x)), (Tc.S "other", .v (.ref y))]) (fun h => WsH T h x dx z ∧ WsH T h y dy u) F rfl rfl rfl rfl (fun s vs G xs => ?_) (fun L l g h₁ tk s₀ G XX hl F' hst S => ?_)
  · obtain _ | ⟨xa, _ | ⟨xb, _ | _⟩⟩ := xs
    rename_i va vb
    exact ⟨[(Tc.S "self", va), (Tc.S "other", vb)], kp_binds G.in_ fun _ => rfl, .cons xa (.cons xb .nil), rfl⟩
  · have W := XX.1.seal hl
    have U := XX.2.seal hl
    have l1 := lrOf_bd hc hb
    have l2 := lrOf_bd hc2 hb2
    have hn : ((nlwN z u : Nat) : Int) = max (lrOf z) (lrOf u) + 1 := by unfold nlwN; omega
    have hn2 : nlwN z u ≤ 1001 := by omega
    have hz : sizeLine = 16777216 := rfl
    refine X.assign (r := .d (.int (nlwN z u : Nat))) S (by rw [hn]; exact Ev.bin (EvP.callB (Ev.built G rfl rfl) (.cons (Ev.longest F' G W hc (Ev.name rfl)) (.cons (Ev.longest F' G U hc2 (Ev.name rfl)) .nil)) (Cl.max2 F'.han) fun _ _ => trivial) Ev.int Op2.add) fun h1 tk1 S1 => ?_
    refine X.assignOwn S1 (EvN.list (ds := []) .nil) fun a h2 tk2 hag haT S2 => ?_
    have W2 := W.add hag
    have U2 := U.add hag
    refine X.forFold (xs := List.range (nlwN z u)) (rep := fun (j : Nat) => PyData.int (1 + (j : Nat) : Int)) (nlwStep z u) (fun l => [(Tc.S "self", .v (.ref x)), (Tc.S "other", .v (.ref y)), (Tc.S "n", .d (.int (nlwN z u : Nat))), (Tc.S "a", .o a (l.map (wit z u)))]) (fun i l => l.length ≤ i) [] S2 ⟨rfl, rfl, rfl, rfl, trivial⟩ (Nat.le_refl _) ?_ (fun i j hj l' g' hI hp S' => ⟨_, Tgt.name, fun h3 tk3 S3 => ?_⟩) (fun _ h3 tk3 S3 => ?_)
    · refine EvIt.comap (f := fun (j : Nat) => (1 : Int) + (j : Nat)) (EvIt.range2 F'.han (Ev.built G rfl rfl) Ev.int (Ev.bin (Ev.name rfl) Ev.int Op2.add) ?_ ?_)
      · have : (((nlwN z u : Nat) : Int) + 1 - 1).toNat = nlwN z u := by omega
        rw [this]
      · exact range_small (by omega) (by omega) (by omega) (by omega)
    · have hj' : j < nlwN z u := List.mem_range.mp (List.mem_of_getElem? hj)
      have hi' : i < 1001 := by
        have := (List.getElem?_eq_some_iff.mp hj).1
        rw [List.length_range] at this
        omega
      have hcast : (1 + (j : Nat) : Int) = ((j + 1 : Nat) : Int) := by omega
      rw [hcast] at S3
      have G' : TopH w g' := G.pers S2.high hp
      have W3 := W2.pers hp
      have U3 := U2.pers hp
      refine X.ite (c := decide (((inOf z (j + 1) : Nat) : Int) ≥ (inOf u (j + 1) : Nat))) S3 (EvB.cmpV (Ev.indent F' G' W3 hc (Nat.succ_pos _) (by omega) (Ev.name rfl) (Ev.name rfl)) (Ev.indent F' G' U3 hc2 (Nat.succ_pos _) (by omega) (Ev.name rfl) (Ev.name rfl)) Op2.ge) (fun hq h4 tk4 S4 => ?_) (fun hq h4 tk4 S4 => ?_)
      · have hs : nlwStep z u l' j = l' ++ [j + 1] := if_pos (by have := of_decide_eq_true hq; omega)
        refine X.append (ρ' := [(Tc.S "self", .v (.ref x)), (Tc.S "other", .v (.ref y)), (Tc.S "n", .d (.int (nlwN z u : Nat))), (Tc.S "a", .o a ((l' ++ [j + 1]).map (wit z u)))]) S4 (Ev.name rfl) (Ev.tuple (ds := [.int ((j + 1 : Nat) : Int), .int (inOf z (j + 1) : Nat), .int (inOf u (j + 1) : Nat)]) (.cons (Ev.name rfl) (.cons (Ev.indent F' G' W3 hc (Nat.succ_pos _) (by omega) (Ev.name rfl) (Ev.name rfl)) (.cons (Ev.indent F' G' U3 hc2 (Nat.succ_pos _) (by omega) (Ev.name rfl) (Ev.name rfl)) .nil))) (show 3 ≤ sizeLine by decide)) (.head _) (by rw [List.length_map]; omega) ⟨⟨_, rfl, .v _⟩, ⟨_, rfl, .v _⟩, ⟨_, rfl, .d _⟩, ⟨_, rfl, ?_⟩, trivial⟩ fun h5 tk5 S5 => X.nil (X.nil ⟨.inl rfl, h5, tk5, rfl, ?_⟩)
        · rw [List.map_append]; exact .me
        · rw [hs]
          exact ⟨S5, by rw [List.length_append]; exact Nat.succ_le_succ hI⟩
      · have hs : nlwStep z u l' j = l' := if_neg (by have := of_decide_eq_false hq; omega)
        refine X.nil (X.nil ⟨.inl rfl, h4, tk4, rfl, ?_⟩)
        rw [hs]
        exact ⟨S4.fit ⟨rfl, rfl, rfl, rfl, trivial⟩, Nat.le_succ_of_le hI⟩
    · refine X.ret S3 (Ev.name rfl) fun h4 tk4 v S4 hv => ⟨h4, tk4, rfl, S4.pers.drop hag, ?_⟩
      have v1 := Vr.fix haT .me hv
      exact Rd.less (fun b hb => Tr.has_with.mpr (.inr (Tr.has_seal.mpr hb))) v1
end
end Tc
set_option maxHeartbeats 2000000
namespace Tc
open PySem PySem.Calls PyProof.Rows PySem.W
noncomputable def lowerS (x : Str) : Str := ⟨placed x fun i _ => Unicode.lowerAt x.cps i⟩
noncomputable def upperS (x : Str) : Str := ⟨placed x fun _ c => Unicode.upperOf c⟩
noncomputable def b3 (c : Int) : Option Str := (b3list.find? fun q => q.1 = c).map (·.2)
noncomputable def b3val (c : Int) : PyData := match b3 c with
  | some s => .str s
  | none => .none
noncomputable def b1list : List Int := [65024, 65025, 65026, 65027, 65028, 65029, 6150, 65030, 65031, 65032, 65033, 6155, 6156, 6157, 8203, 8204, 8205, 65034, 65035, 65036, 65037, 65038, 65039, 173, 847, 8288, 65279]
noncomputable def b1 (c : Int) : Bool := b1list.contains c
theorem strOf_some {v : Value} {s : Str} (h : strOf v = some s) : ∃ t, v = .str s t := by
  cases v <;> cases h
  exact ⟨_, rfl⟩
theorem b3_at (k : Int) : ∀ {kvs : List (Int × Value)} {l : List (Int × Str)}, kvs.map (fun p => (p.1, strOf p.2)) = l.map (fun q => (q.1, some q.2)) → (valueAt kvs k).map strOf = ((l.find? fun q => q.1 = k).map (·.2)).map some
  | [], [], _ => rfl
  | [], _ :: _, e => by cases e
  | _ :: _, [], e => by cases e
  | (i, v) :: kvs, (j, s) :: l, e => by
    rw [List.map_cons, List.map_cons] at e
    injection e with e1 e2
    injection e1 with e1 e3
    have ih := b3_at k e2
    unfold valueAt at ih ⊢
    rw [List.find?_cons, List.find?_cons]
    have e1' : i = j := e1
    have e3' : strOf v = some s := e3
    subst e1'
    by_cases q : i = k
    · simp [q, e3']
    · simp only [q, decide_false]
      exact ih
section
variable {prog : Program} {w : World} {A : Around} {env : Env} {T : Tr} {g : Heap} {ρ : List (Str × V)}
theorem method_args0 {id : String} {s : Shared} {Q E : Value → Shared → Prop} {ov : Value} {pos : Pos} (h : wpAny (model prog w) A (call (.builtin id) [ov]) Q E s) : wpAny (model prog w) A (callWith pos (.builtin id) [ov] (backTo pos (starEach [] env)) []) Q E s :=
  callWith_builtin rfl (evalArgs_nil3 h)
/-- x.lower() -/
theorem EvP.lower {o : Expr} {apos pos : Pos} {x : Str} (ho : Ev (model prog w) A env T g ρ o (.d (.str x))) (hl : (lowerS x).length ≤ 1000)
    (hbase : attributeBase o (Tc.S "lower") env (eval o env) = eval o env := by rfl)
    (hfew : ((backTo pos (starEach [] env)).all (fun x => !x.1) && (backToKw pos (keywordEach [] env)).all (fun x => x.1.isSome) && decide (([] : List Expr).length + ([] : List Keyword).length + (if ([] : List Keyword).isEmpty then 0 else 1) < 30)) = true := by rfl)
    (hline : (apos.endLine == pos.line) = true := by rfl) : Ev (model prog w) A env T g ρ (.Call (.Attribute o (Tc.S "lower") apos) [] [] pos) (.d (.str (lowerS x))) := by
  intro s Q E S q
  refine wpAny_Call_method_lateS hbase hfew hline (ho s _ _ S fun h1 t1 v1 e1 p1 => ?_)
  obtain ⟨t, rfl⟩ := p1.strE
  have hz : sizeLine = 16777216 := rfl
  have hl' : (placed x fun i _ => Unicode.lowerAt x.cps i).size ≤ 1000 := hl
  refine ⟨"str", "str.lower", F.plainAttrs_str, F.slot_str_lower, F.type_str_lower, typeIs_str _ _ _, (fun _ e => nomatch e), ?_⟩
  refine method_args0 (call_gives F.slot_str_lower (typeIs_str _ _ _) F.entry_str_lower (F.args_str_lower_1 _) (gives_str_lower x t ?_) ⟨?_, q h1 _ _ e1 (.str _ _)⟩)
  · unfold Builtin.Str.tooLong
    exact decide_eq_false (by omega)
  · exact Nat.le_trans hl (by rw [hz]; decide)
theorem EvP.upper {o : Expr} {apos pos : Pos} {x : Str} (ho : Ev (model prog w) A env T g ρ o (.d (.str x))) (hl : (upperS x).length ≤ 1000)
    (hbase : attributeBase o (Tc.S "upper") env (eval o env) = eval o env := by rfl)
    (hfew : ((backTo pos (starEach [] env)).all (fun x => !x.1) && (backToKw pos (keywordEach [] env)).all (fun x => x.1.isSome) && decide (([] : List Expr).length + ([] : List Keyword).length + (if ([] : List Keyword).isEmpty then 0 else 1) < 30)) = true := by rfl)
    (hline : (apos.endLine == pos.line) = true := by rfl) : Ev (model prog w) A env T g ρ (.Call (.Attribute o (Tc.S "upper") apos) [] [] pos) (.d (.str (upperS x))) := by
  intro s Q E S q
  refine wpAny_Call_method_lateS hbase hfew hline (ho s _ _ S fun h1 t1 v1 e1 p1 => ?_)
  obtain ⟨t, rfl⟩ := p1.strE
  have hz : sizeLine = 16777216 := rfl
  have hl' : (placed x fun _ c => Unicode.upperOf c).size ≤ 1000 := hl
  refine ⟨"str", "str.upper", F.plainAttrs_str, F.slot_str_upper, F.type_str_upper, typeIs_str _ _ _, (fun _ e => nomatch e), ?_⟩
  refine method_args0 (call_gives F.slot_str_upper (typeIs_str _ _ _) F.entry_str_upper (F.args_str_upper_1 _) (gives_str_upper x t ?_) ⟨?_, q h1 _ _ e1 (.str _ _)⟩)
  · unfold Builtin.Str.tooLong
    exact decide_eq_false (by omega)
  · exact Nat.le_trans hl (by rw [hz]; decide)
/-- b3_exceptions.get(e) -/
theorem EvP.b3get {o e : Expr} {apos pos : Pos} {c : Int} (G : TopH w g) (ho : Ev (model prg w) A env T g ρ o (.v (.ref 150))) (he : Ev (model prg w) A env T g ρ e (.d (.int c)))
    (hbase : attributeBase o (Tc.S "get") env (eval o env) = eval o env := by rfl)
    (hfew : ((backTo pos (starEach [e] env)).all (fun x => !x.1) && (backToKw pos (keywordEach [] env)).all (fun x => x.1.isSome) && decide ([e].length + ([] : List Keyword).length + (if ([] : List Keyword).isEmpty then 0 else 1) < 30)) = true := by rfl)
    (hline : (apos.endLine == pos.line) = true := by rfl) (hst : starEach [e] env = (false, eval e env) :: starEach [] env := by rfl) : Ev (model prg w) A env T g ρ (.Call (.Attribute o (Tc.S "get") apos) [e] [] pos) (.d (b3val c)) := by
  intro s Q E S q
  refine wpAny_Call_method_lateS hbase hfew hline (ho s _ _ S fun h1 t1 v1 e1 p1 => ?_)
  cases p1
  obtain ⟨kvs, hD, hk⟩ := (G.on (S.ext e1)).map
  refine ⟨"dict", "dict.get", F.plainAttrs_dict, F.slot_dict_get, F.type_dict_get, hD.typeIs, hD.mapOf.noDict, ?_⟩
  refine method_args ((EvAs.cons he .nil hst) pos _ _ _ (S.ext e1) fun h2 t2 vs e2 p2 => ?_) hst rfl
  obtain _ | ⟨x, _ | _⟩ := p2
  obtain ⟨u, rfl⟩ := x.intE
  have hD2 := hD.keep e2
  refine call_meetsIn F.slot_dict_get hD2.typeIs F.entry_dict_get (F.args_dict_get_2 _ _) (meets_dict_get (intKind prg w) 150 (k := c) ?_ (by decide)) ⟨_, hD2.mapOf, ?_⟩
  · show Value.isInt c (.int c u) = true
    unfold Value.isInt
    exact beq_self_eq_true c
  · have hv := b3_at c hk
    refine q h2 _ _ (e1.trans e2) ?_
    show Rd T h2 _ (b3val c)
    unfold b3val b3
    cases hb : (b3list.find? fun q => q.1 = c).map (·.2) with
    | none =>
      rw [hb] at hv
      rw [Option.map_none, Option.map_eq_none_iff] at hv
      rw [hv]
      exact .none
    | some x =>
      rw [hb, Option.map_some] at hv
      obtain ⟨v, h1, h2⟩ := Option.map_eq_some_iff.mp hv
      obtain ⟨t, rfl⟩ := strOf_some h2
      rw [h1]
      exact .str _ _
noncomputable def elemB (e : Int × Value) : Bool := match e.2 with
  | .int i _ => e.1 == hashInt i
  | _ => false
theorem elemsOf {l : List (Int × Value)} (h : l.all elemB = true) : ElemsOf (intKind prg w) l := fun e he => by
  have := List.all_eq_true.mp h e he
  unfold elemB at this
  split at this
  · rename_i i t q
    refine ⟨⟨i, ?_, eq_of_beq this⟩, by rw [q]; rfl⟩
    rw [q]
    exact beq_self_eq_true i
  · cases this
noncomputable def intsOf (l : List (Int × Value)) : List Int := l.filterMap fun e => match e.2 with
  | .int i _ => some i
  | _ => none
theorem intsOf_mem {l : List (Int × Value)} {k : Int} : k ∈ intsOf l ↔ ∃ e ∈ l, (intKind prg w).is k e.2 = true := by
  unfold intsOf
  rw [List.mem_filterMap]
  constructor
  · rintro ⟨e, he, q⟩
    refine ⟨e, he, ?_⟩
    split at q
    · rename_i i t q2
      cases q
      rw [q2]
      exact beq_self_eq_true k
    · cases q
  · rintro ⟨e, he, q⟩
    refine ⟨e, he, ?_⟩
    cases h2 : e.2 with
    | int i t =>
      rw [h2] at q
      have : (i == k) = true := q
      rw [eq_of_beq this]
    | _ => rw [h2] at q; cases q
theorem set_b1 (G : TopH w g) : g.SetOf (intKind prg w) 139 b1 27 := by
  refine ⟨o139 w.params, _, _, _, G.at_ 139 _ rfl, ⟨rfl, rfl, rfl⟩, rfl, elemsOf (by decide +kernel), fun k => ?_, by decide, by rfl, rfl⟩
  rw [← intsOf_mem]
  unfold b1
  rw [List.contains_iff_mem]
  exact Iff.rfl
/-- e in b1_set -/
theorem Ev.inB1 {a b : Expr} {p : Pos} {c : Int} (G : TopH w g) (ha : Ev (model prg w) A env T g ρ a (.d (.int c))) (hb : Ev (model prg w) A env T g ρ b (.v (.ref 139))) (hm : behindInMarks .In b = false := by with_unfolding_all rfl) : Ev (model prg w) A env T g ρ (.Compare a [.In] [b] p) (.d (.bool (b1 c))) := by
  intro s Q E S q
  refine wpAny_Compare1 (ha s _ _ S fun h1 t1 v1 e1 p1 => hb _ _ _ (S.ext e1) fun h2 t2 v2 e2 p2 => ?_) hm
  cases p2
  obtain ⟨u, rfl⟩ := p1.intE
  refine wpAny_inSet_of (knd := intKind prg w) (k := c) ?_ rfl (set_b1 (G.on ((S.ext e1).ext e2))) (q _ _ _ (e1.trans e2) (.bool _))
  exact beq_self_eq_true c
theorem in_b1_cl {k : Nat} {c : Nat} (F : Fine A (k + 1)) : Cl (model prg w) A (.ref 149) (Wd w T) T [.d (.str ⟨#[c]⟩)] (fun h v => Vr T h v (.d (.bool (b1 c)))) := by
  refine Cl.mk (ρ := [(Tc.S "code", .d (.str ⟨#[c]⟩))]) F rfl rfl rfl rfl (fun s vs G xs => ?_) (fun L T' g h₁ tk s₀ G F' hT hst S => ?_)
  · obtain _ | ⟨xa, _ | _⟩ := xs
    rename_i va
    exact ⟨[(Tc.S "code", va)], kp_binds G.in_ fun _ => rfl, .cons xa .nil, rfl⟩
  · refine X.ret S (Ev.inB1 G (EvP.callB (Ev.built G rfl rfl) (.cons (Ev.name rfl) .nil) Cl.ord fun _ _ => trivial) (Ev.glob G rfl)) fun h' tk' v S' hv => ⟨h', tk', rfl, S'.pers, ?_⟩
    rw [hv.boolE]
    exact .bool _
noncomputable def b3map (c : Nat) : Str := match b3 c with
  | some s => s
  | none => lowerS ⟨#[c]⟩
theorem b3_cl {k : Nat} {c : Nat} (F : Fine A (k + 1)) (hl : (lowerS ⟨#[c]⟩).length ≤ 1000) : Cl (model prg w) A (.ref 195) (Wd w T) T [.d (.str ⟨#[c]⟩)] (fun h v => Vr T h v (.d (.str (b3map c)))) := by
  refine Cl.mk (ρ := [(Tc.S "code", .d (.str ⟨#[c]⟩))]) F rfl rfl rfl rfl (fun s vs G xs => ?_) (fun L T' g h₁ tk s₀ G F' hT hst S => ?_)
  · obtain _ | ⟨xa, _ | _⟩ := xs
    rename_i va
    exact ⟨[(Tc.S "code", va)], kp_binds G.in_ fun _ => rfl, .cons xa .nil, rfl⟩
  · refine X.assign S (EvP.b3get G (Ev.glob G rfl) (EvP.callB (Ev.built G rfl rfl) (.cons (Ev.name rfl) .nil) Cl.ord fun _ _ => trivial)) fun h1 tk1 S1 => ?_
    have hv : b3val c = match b3 c with | some s => .str s | none => .none := rfl
    unfold b3map
    rw [hv] at S1
    cases hb : b3 c with
    | some x =>
      rw [hb] at S1
      refine X.ite (c := true) S1 (EvB.cmpV (Ev.name rfl) Ev.noneC (Op2.isNotNone (b := false) fun h v p => ?_)) (fun _ h2 tk2 S2 => ?_) (fun hq => nomatch hq)
      · obtain ⟨t, rfl⟩ := p.strE; rfl
      · refine X.ret S2 (Ev.name rfl) fun h' tk' v S' hv => ⟨h', tk', rfl, S'.pers, ?_⟩
        obtain ⟨t, rfl⟩ := hv.strE
        exact .str _ _
    | none =>
      rw [hb] at S1
      refine X.ite (c := false) S1 (EvB.cmpV (Ev.name rfl) Ev.noneC (Op2.isNotNone (b := true) fun h v p => ?_)) (fun hq => nomatch hq) (fun _ h2 tk2 S2 => ?_)
      · cases p.noneE; rfl
      · refine X.nil (X.ret S2 (EvP.lower (Ev.name rfl) hl) fun h' tk' v S' hv => ⟨h', tk', rfl, S'.pers, ?_⟩)
        obtain ⟨t, rfl⟩ := hv.strE
        exact .str _ _
end
end Tc
set_option maxHeartbeats 2000000
namespace Tc
open PySem PySem.Calls PyProof.Rows PySem.W
theorem plainAttrs_pat : PlainAttrs "re.Pattern" :=
  ⟨⟨"object.__getattribute__", by rw [typeLookup_type, builtinLookup_eq_fast]; kernel_rfl, by decide +kernel⟩, by rw [typeLookup_type, builtinLookup_eq_fast]; kernel_rfl⟩
theorem owner_pat : Manifest.owners.lookup "re.Pattern" = some Manifest.sig_re_Pattern := by kernel_rfl
theorem slot_pat_search : Slot "re.Pattern" "search" "re.Pattern.search" :=
  .of (owner := "re.Pattern") (n := "search") (by rw [typeLookup_type, builtinLookup_eq_fast]; kernel_rfl) (by decide +kernel) (by decide +kernel) (by decide +kernel)
    (by first | exact .inl (by decide +kernel) | exact .inr (by decide +kernel)) (by rw [isSubtype_type]; kernel_rfl)
theorem type_pat_search : typeOf (.builtin "re.Pattern.search") = pure (.type "method_descriptor") := by show builtinType _ = _; rw [builtinType_eq_fast]; kernel_rfl
theorem entry_pat_search : entryFor table "re.Pattern.search" = some Builtin.«re.Pattern.search» := entryFor_of_tree (by kernel_rfl)
theorem args_pat_search (a b : Value) : argsOk "re.Pattern.search" ⟨[a, b], []⟩ := by
  unfold argsOk
  kernel_rfl
/-- no sign of the text is one of the code's first set -/
noncomputable def NoneIn (code text : Array Nat) : Prop := ∀ (s : Nat) (seen : Sre.Seen), s < text.size → ∃ seen', Sre.inSet code (text.getD s 0) code.size 5 true seen = .ok (false, seen')
theorem admitted_none {m : Sre.M} (h : NoneIn m.code m.text) (hl : m.lim = m.text.size) : ∀ (fuel s : Nat) (seen : Sre.Seen), ∃ seen', m.admitted fuel s seen = .ok (none, seen')
  | 0, _, seen => ⟨seen, rfl⟩
  | fuel + 1, s, seen => by
    unfold Sre.M.admitted
    by_cases hs : s ≥ m.lim
    · rw [if_pos hs]; exact ⟨seen, rfl⟩
    · rw [if_neg hs]
      obtain ⟨seen', e⟩ := h s seen (by omega)
      rw [e]
      exact admitted_none h hl fuel (s + 1) seen'
/-- a machine that has said no, with nothing waiting -/
structure SaidNo (m : Sre.M) : Prop where
  ans : m.answer = some false
  fr : m.frames = []
  out : m.outcome = none
theorem attempt_no {m : Sre.M} (h : NoneIn m.code m.text) (hl : m.lim = m.text.size) (h1 : m.frames = []) (h2 : m.outcome = none) (hf : m.hasFirstSet = true) (s : Nat) (b : Bool) : SaidNo (m.attemptFrom s b) := by
  unfold Sre.M.attemptFrom
  rw [hf]
  obtain ⟨seen', e⟩ := admitted_none h hl (m.lim + 1 - s) s m.seen
  simp only [Bool.not_true, Bool.false_eq_true, if_false, e]
  exact ⟨rfl, h1, h2⟩
theorem search_no {code text : Array Nat} {gs : Nat} (h : NoneIn code text) (hf : (match Sre.ops[code.getD 0 0]? with | some .INFO => true | _ => false) = true) (h2 : code.getD 2 0 = 4) : SaidNo (Sre.forSearch code text gs 0 text.size false) := by
  unfold Sre.forSearch
  dsimp only
  split
  · exact ⟨rfl, rfl, rfl⟩
  · refine attempt_no (by exact h) rfl rfl rfl ?_ _ _
    unfold Sre.M.hasFirstSet
    rw [Bool.and_eq_true]
    exact ⟨hf, by rw [beq_iff_eq]; exact h2⟩
theorem run_no {m : Sre.M} (h : SaidNo m) : (m.runFor Builtin.Re.reTurnSteps).outcome = some .failed := by
  obtain ⟨a, b, c⟩ := h
  have e1 : m.step = { m with outcome := some .failed } := by
    unfold Sre.M.step
    rw [a, b, c]
    rfl
  show (m.runFor (3 + 1)).outcome = _
  rw [Sre.M.runFor, c]
  simp only [Option.isSome_none, Bool.false_eq_true, if_false, e1]
  rw [Sre.M.runFor]
  rfl
section
variable {M : Model} {A : Around} {E : Value → Shared → Prop} {s : Shared}
theorem drive_no {m : Sre.M} {Q : Sre.M → Shared → Prop} (h : SaidNo m) (q : Q (m.runFor Builtin.Re.reTurnSteps) s) : wpAny M A (Builtin.Re.reDrive (2 ^ 64) m) Q E s := by
  show wpAny M A (Builtin.Re.reDrive ((2 ^ 64 - 1) + 1) m) Q E s
  unfold Builtin.Re.reDrive
  dsimp only
  rw [run_no h]
  exact wpAny_pure q
theorem rules_loop {m : Sre.M} : ∀ (l : List Nat) {Q : PUnit → Shared → Prop}, Q ⟨⟩ s → wpAny M A (forIn l PUnit.unit fun i r => if m.seen.has i then do rule (Sre.names.getD i ""); pure (ForInStep.yield PUnit.unit) else pure (ForInStep.yield PUnit.unit)) Q E s
  | [], Q, q => wpAny_pure q
  | i :: l, Q, q => by
    rw [List.forIn_cons]
    refine wpAny_bind ?_
    split
    · exact wpAny_bind (wpAny_rule (wpAny_pure (rules_loop l q)))
    · exact wpAny_pure (rules_loop l q)
theorem toEnd_no {m : Sre.M} {Q : Option Sre.M → Shared → Prop} (h : SaidNo m) (q : Q none s) : wpAny M A (Builtin.Re.reRunToEnd m) Q E s := by
  unfold Builtin.Re.reRunToEnd
  refine wpAny_bind (drive_no h ?_)
  refine wpAny_bind (rules_loop _ ?_)
  rw [run_no h]
  exact wpAny_pure q
/-- a text's search that finds nothing -/
theorem search_wp {P : Addr} {x : Str} {t : Tok} {pat : Obj} {cds : Obj} {ca : Addr} {pv : Array Value} {cv : Array Value} {n : Nat} {Q : Fin → Shared → Prop} (hp : s.heap.get? P = some pat) (hpd : pat.data = .fields pv) (h5 : pv.getD 5 .none = .ref ca) (h6 : Builtin.Re.reRawNat (pv.getD 6 .none) = 0) (hc : s.heap.get? ca = some cds) (hcd : cds.data = .seq cv n)
    (h : NoneIn ((cv.map Builtin.Re.reRawOf).map Int.toNat) x.cps) (hf : (match Sre.ops[((cv.map Builtin.Re.reRawOf).map Int.toNat).getD 0 0]? with | some .INFO => true | _ => false) = true) (h2 : ((cv.map Builtin.Re.reRawOf).map Int.toNat).getD 2 0 = 4) (hx : x.cps.size < 2 ^ 62)
    (q : Q (.done (.ret .none)) s) : wpAny M A (Builtin.«re.Pattern.search» ⟨[.ref P, .str x t], []⟩) Q E s := by
  unfold Builtin.«re.Pattern.search»
  refine wpAny_bind ?_
  have e : Builtin.Re.reNamed "re.Pattern.search" "search" ["string", "pos", "endpos"] 1 [.str x t] [] = pure [some (.str x t), none, none] := by rfl
  unfold Builtin.Re.reTarget
  dsimp only
  rw [e]
  refine wpAny_bind (wpAny_pure ?_)
  dsimp only
  refine wpAny_bind (wpAny_pure ?_)
  refine wpAny_bind (wpAny_pure ?_)
  refine wpAny_bind (wpAny_fieldsOf hp hpd ?_)
  unfold Builtin.Re.reTextOf
  refine wpAny_bind (wpAny_bind (wpAny_pure ?_))
  refine wpAny_pure ?_
  dsimp only
  rw [h6, h5]
  rw [if_neg (by decide), if_neg (by decide)]
  refine wpAny_bind ?_
  unfold Builtin.Re.reNoCollectionInside
  rw [if_neg (by decide)]
  refine wpAny_pure (wpAny_bind ?_)
  unfold Builtin.Re.reRawItems
  refine wpAny_bind (wpAny_seqItems hc hcd (wpAny_pure (wpAny_pure ?_)))
  dsimp only
  have hl : min (2 ^ 63 - 1 : Int).toNat x.cps.size = x.cps.size := Nat.min_eq_right (by
    have : (2 ^ 63 - 1 : Int).toNat = 9223372036854775807 := by decide
    rw [this]
    omega)
  have h0 : min (Int.toNat 0) x.cps.size = 0 := Nat.zero_min _
  rw [hl, h0]
  unfold Builtin.Re.reAnswer
  refine wpAny_bind (toEnd_no ?_ (wpAny_pure q))
  exact search_no h hf h2
end
end Tc
set_option maxHeartbeats 2000000
namespace Tc
open PySem PySem.Calls PyProof.Rows PySem.W
/-- a text of printable ASCII signs -/
noncomputable def okText (x : Str) : Prop := ∀ c ∈ x.cps.toList, 32 ≤ c ∧ c < 127
noncomputable def nameCode : Array Nat := #[14, 10, 4, 1, 1, 22, 0, 31, 16, 127, 0, 13, 7, 22, 0, 31, 16, 127, 0, 1]
noncomputable def valCode : Array Nat := #[14, 14, 4, 1, 1, 9, 4294966783, 0, 0, 2147483648, 0, 0, 0, 0, 0, 13, 11, 9, 4294966783, 0, 0, 2147483648, 0, 0, 0, 0, 0, 1]
theorem name_no (c : Nat) (h0 : 32 ≤ c) (h1 : c < 127) (seen : Sre.Seen) : ∃ seen', Sre.inSet nameCode c nameCode.size 5 true seen = .ok (false, seen') := by
  refine ⟨((seen.add 22).add 16).add 0, ?_⟩
  show Sre.inSet nameCode c (19 + 1) 5 true seen = _
  rw [Sre.inSet]
  show (if (decide ((0 : Nat) ≤ c) && decide (c ≤ 31)) = true then _ else Sre.inSet nameCode c (18 + 1) (5 + 3) true (seen.add 22)) = _
  rw [if_neg (by simp; omega), Sre.inSet]
  show (if (c == 127) = true then _ else Sre.inSet nameCode c (17 + 1) (5 + 3 + 2) true ((seen.add 22).add 16)) = _
  rw [if_neg (by simp; omega), Sre.inSet]
  rfl
theorem val_no (c : Nat) (h0 : 32 ≤ c) (h1 : c < 127) (seen : Sre.Seen) : ∃ seen', Sre.inSet valCode c valCode.size 5 true seen = .ok (false, seen') := by
  refine ⟨(seen.add 9).add 0, ?_⟩
  show Sre.inSet valCode c (27 + 1) 5 true seen = _
  rw [Sre.inSet]
  show (if (decide (c < 256) && (valCode.getD (5 + (1 + c / 32)) 0).testBit (c % 32)) = true then _ else Sre.inSet valCode c (26 + 1) (5 + 9) true (seen.add 9)) = _
  have hb : ∀ c < 127, 32 ≤ c → (valCode.getD (5 + (1 + c / 32)) 0).testBit (c % 32) = false := by decide +kernel
  rw [hb c h1 h0, Bool.and_false, if_neg Bool.false_ne_true, Sre.inSet]
  rfl
theorem noneIn_of {code : Array Nat} {x : Str} (h : okText x) (k : ∀ c, 32 ≤ c → c < 127 → ∀ seen, ∃ seen', Sre.inSet code c code.size 5 true seen = .ok (false, seen')) : NoneIn code x.cps := fun s seen hs => by
  have : x.cps.getD s 0 = x.cps[s] := by simp [hs]
  rw [this]
  obtain ⟨a, b⟩ := h x.cps[s] (by simp)
  exact k _ a b seen
section
variable {prog : Program} {w : World} {A : Around} {env : Env} {T : Tr} {g : Heap} {ρ : List (Str × V)}
/-- a pattern at the top, and its code -/
structure Pat (w : World) (P ca : Addr) (code : Array Nat) : Prop where
  pat : ∃ o pv, (topList w.params).lookup P = some o ∧ o.cls = .type "re.Pattern" ∧ o.dict = none ∧ o.data = .fields pv ∧ pv.getD 5 .none = .ref ca ∧ Builtin.Re.reRawNat (pv.getD 6 .none) = 0
  code : ∃ o cv n, (topList w.params).lookup ca = some o ∧ o.data = .seq cv n ∧ (cv.map Builtin.Re.reRawOf).map Int.toNat = code
theorem pat_name : Pat w 205 204 nameCode := ⟨⟨o205 w.params, _, rfl, rfl, rfl, rfl, rfl, rfl⟩, ⟨o204 w.params, _, _, rfl, rfl, by decide +kernel⟩⟩
theorem pat_val : Pat w 210 209 valCode := ⟨⟨o210 w.params, _, rfl, rfl, rfl, rfl, rfl, rfl⟩, ⟨o209 w.params, _, _, rfl, rfl, by decide +kernel⟩⟩
/-- pattern.search(x) that finds nothing -/
theorem EvP.search {o e : Expr} {apos pos : Pos} {P ca : Addr} {code : Array Nat} {x : Str} (G : TopH w g) (hP : Pat w P ca code) (ho : Ev (model prg w) A env T g ρ o (.v (.ref P))) (he : Ev (model prg w) A env T g ρ e (.d (.str x))) (hN : NoneIn code x.cps) (hx : x.cps.size ≤ 1000)
    (hf : (match Sre.ops[code.getD 0 0]? with | some .INFO => true | _ => false) = true := by rfl) (h2 : code.getD 2 0 = 4 := by rfl)
    (hbase : attributeBase o (Tc.S "search") env (eval o env) = eval o env := by rfl)
    (hfew : ((backTo pos (starEach [e] env)).all (fun x => !x.1) && (backToKw pos (keywordEach [] env)).all (fun x => x.1.isSome) && decide ([e].length + ([] : List Keyword).length + (if ([] : List Keyword).isEmpty then 0 else 1) < 30)) = true := by rfl)
    (hline : (apos.endLine == pos.line) = true := by rfl) (hst : starEach [e] env = (false, eval e env) :: starEach [] env := by rfl) : Ev (model prg w) A env T g ρ (.Call (.Attribute o (Tc.S "search") apos) [e] [] pos) (.d .none) := by
  intro s Q E S q
  refine wpAny_Call_method_lateS hbase hfew hline (ho s _ _ S fun h1 t1 v1 e1 p1 => ?_)
  cases p1
  obtain ⟨op, pv, lp, hc, hd, hdat, h5, h6⟩ := hP.pat
  obtain ⟨oc, cv, n, lc, hcd, hcode⟩ := hP.code
  have G1 := G.on (S.ext e1)
  have a1 := G1.at_ _ _ lp
  refine ⟨"re.Pattern", "re.Pattern.search", plainAttrs_pat, slot_pat_search, type_pat_search, ⟨_, a1, hc⟩, fun b q => by cases q; exact ⟨_, a1, hd⟩, ?_⟩
  refine method_args ((EvAs.cons he .nil hst) pos _ _ _ (S.ext e1) fun h2' t2 vs e2 p2 => ?_) hst rfl
  obtain _ | ⟨xx, _ | _⟩ := p2
  obtain ⟨t, rfl⟩ := xx.strE
  refine wpAny_call_entry slot_pat_search ⟨_, e2 _ _ a1, hc⟩ entry_pat_search ?_ (args_pat_search _ _)
  subst hcode
  exact search_wp (e2 _ _ a1) hdat h5 h6 ((G1.ext e2).at_ _ _ lc) hcd hN hf h2 (by omega) ⟨_, rfl, q _ _ _ (e1.trans e2) .none⟩
end
end Tc
set_option maxHeartbeats 2000000
namespace Tc
open PySem PySem.Calls PyProof.Rows PySem.W
section
variable {prog : Program} {w : World} {A : Around} {env : Env} {T : Tr} {g : Heap} {ρ : List (Str × V)}
/-- a test that is a value -/
theorem EvB.none {M : Model} {e : Expr} (he : Ev M A env T g ρ e (.d .none)) (hi : isTrue e env (eval e env) = (do let v ← eval e env; standAt e.pos; holding [v] (truthy v)) := by rfl) : EvB M A env T g ρ e false := by
  intro s Q E S q
  refine wpAny_isTrue_value (he s _ _ S fun h' tk v e1 p1 => ?_) hi
  obtain rfl := p1.noneE
  exact fun _ _ _ => q h' tk e1
theorem EvB.bool {M : Model} {e : Expr} {b : Bool} (he : Ev M A env T g ρ e (.d (.bool b))) (hi : isTrue e env (eval e env) = (do let v ← eval e env; standAt e.pos; holding [v] (truthy v)) := by rfl) : EvB M A env T g ρ e b := by
  intro s Q E S q
  refine wpAny_isTrue_value (he s _ _ S fun h' tk v e1 p1 => ?_) hi
  obtain rfl := p1.boolE
  exact wpAny_truthy_bool (q h' tk e1)
theorem EvP.ifExp {M : Model} {t b o : Expr} {pos : Pos} {c : Bool} {P : Heap → Value → Prop} (ht : EvB M A env T g ρ t c) (hb : c = true → EvP M A env T g ρ b P) (ho : c = false → EvP M A env T g ρ o P) : EvP M A env T g ρ (.IfExp t b o pos) P := by
  intro s Q E S q
  refine wpAny_IfExp (ht s _ _ S fun h1 t1 e1 => ?_)
  cases c with
  | true => exact hb rfl _ _ _ (S.ext e1) fun h2 t2 v e2 p2 => q h2 t2 v (e1.trans e2) p2
  | false => exact ho rfl _ _ _ (S.ext e1) fun h2 t2 v e2 p2 => q h2 t2 v (e1.trans e2) p2
theorem Cl.typeStr {x : Str} : Cl (model prog w) A (.type "type") (fun _ => True) T [.d (.str x)] (fun h v => Vr T h v (.v (.type "str"))) := by
  intro s vs Q E _ xs q
  obtain _ | ⟨xx, _ | _⟩ := xs
  obtain ⟨t, rfl⟩ := xx.strE
  exact call_type_of (typeIs_str _ _ _) (by decide) (q s.heap s.toks _ .refl rfl)
theorem Op2.isType {M : Model} {a b : String} {T1 T2 : Tr} : Op2 M A (compareOp .Is) (fun h v => Vr T1 h v (.v (.type a))) (fun h v => Vr T2 h v (.v (.type b))) (fun _ v => v = .bool (Value.type a == Value.type b)) := by
  intro s va vb Q E x y q
  cases x; cases y
  show wpAny M A (do return .bool (← isSame (.type a) (.type b))) Q E s
  have : isSame (.type a) (.type b) = (pure (Value.type a == Value.type b) : Sem Bool) := rfl
  rw [this]
  exact wpAny_bind (wpAny_pure (wpAny_pure (q s.heap s.toks _ .refl rfl)))
theorem Op2.isNotType {M : Model} {a b : String} {T1 T2 : Tr} : Op2 M A (compareOp .IsNot) (fun h v => Vr T1 h v (.v (.type a))) (fun h v => Vr T2 h v (.v (.type b))) (fun _ v => v = .bool (!(Value.type a == Value.type b))) := by
  intro s va vb Q E x y q
  cases x; cases y
  show wpAny M A (do return .bool (!(← isSame (.type a) (.type b)))) Q E s
  have : isSame (.type a) (.type b) = (pure (Value.type a == Value.type b) : Sem Bool) := rfl
  rw [this]
  exact wpAny_bind (wpAny_pure (wpAny_pure (q s.heap s.toks _ .refl rfl)))
/-- a contract with names for some values -/
noncomputable def ClK (M : Model) (A : Around) (f : Value) (W : Heap → Prop) (T : Tr) (rs : List V) (kw : List (Str × Value)) (P : Heap → Value → Prop) : Prop :=
  ∀ (s : Shared) (vs : List Value) (Q E : Value → Shared → Prop), W s.heap → Vrs T s.heap vs rs → (∀ h' tk v, Ext s.heap h' → P h' v → Q v { s with heap := h', toks := tk }) → wpAny M A (call f vs kw) Q E s
theorem Cl.mkK {k : Nat} {rs : List V} {kw : List (Str × Value)} {P : Heap → Value → Prop} {f c : Addr} {co : Obj} {st : Stmt} {n q : Str} {dV kV doc pm ct : Value} {an : Option Addr} {ρ : List (Str × V)} {cvs : Array Value} {ctk : Tok} (F : Fine A (k + 1))
    (ho : (topList w.params).lookup f = some ⟨.type "function", none, .func (fnc st n q mainGlobals dV kV doc pm an (.ref c) ct builtinsNs), #[]⟩)
    (hc : (topList w.params).lookup c = some co) (hcd : co.data = .fields cvs) (hcq : cvs[1]? = some (.str q ctk))
    (hb : ∀ s vs, TopH w s.heap → Vrs T s.heap vs rs → ∃ binds, BindsTo s (fnc st n q mainGlobals dV kV doc pm an (.ref c) ct builtinsNs) ⟨vs, kw⟩ binds ∧ BR T s.heap ρ binds ∧ binds.map (·.1) = ρ.map (·.1))
    (body : ∀ L T' g h₁ tk s₀, TopH w g → Fine (A.deeper (envE st q f (.ref c) L)) k → (∀ b, T.has b → T'.has b) → (∀ x r, ρ.lookup x = some r → r.still T') → St (envE st q f (.ref c) L) T' g ρ h₁ →
      wpAny (model prog w) (A.deeper (envE st q f (.ref c) L)) (execs (fBody st) (envE st q f (.ref c) L)) (RetC T' g s₀ P) NoE { s₀ with heap := h₁, toks := tk })
    (hnd : apartB (ρ.map (·.1)) = true := by rfl)
    (hkind : ((ρ.map (·.1)).all fun y => (fScope st).names.lookup y == some .local || (fScope st).names.lookup y == some .cell) = true := by rfl)
    (hk : (fScope st).kind = .function := by rfl) (hco : (fScope st).isCoroutine = false := by rfl) (hgen : (fScope st).isGenerator = false := by rfl)
    (hfree : ((fScope st).names.all fun y => y.2 != .free) = true := by rfl)
    (hcn : ((cellsFrom 0 (fScope st).names []).map (·.1)).Nodup := by decide) : ClK (model prog w) A (.ref f) (Wd w T) T rs kw P := by
  intro s vs Q E W xs q'
  obtain ⟨binds, hbi, hbr, hns⟩ := hb s vs W.1 xs
  refine enter (own := T.seal) (P := P) W.1 F.go ho hc hcd hcq hbi hk hco hgen ?_ hfree hcn hns (apartB_nodup hnd) (fun b hb => W.2 b (Tr.has_seal.mp hb)) hbr.seal (fun L h₁ tk hn S => ?_) fun h' tk v p hv => q' h' tk v (fun b o e => p b o List.not_mem_nil e) hv
  · have : (binds.map (·.1)).all (fun y => (fScope st).names.lookup y == some .local || (fScope st).names.lookup y == some .cell) = true := by rw [hns]; exact hkind
    rw [List.all_map] at this
    exact this
  · refine body L _ _ _ tk s W.1 (F.in_ _) (fun b hb => Tr.has_with.mpr (.inr (Tr.has_seal.mpr hb))) (fun x r e => ?_) S
    cases r with
    | o a ds =>
      intro hm
      obtain ⟨_, o, ho⟩ := W.2 a (hbr.has (.inl ⟨_, e⟩))
      rcases List.mem_append.mp hm with hm | hm
      · have := hn a hm; rw [ho] at this; cases this
      · cases hm
    | t y a ds =>
      intro hm
      obtain ⟨_, o, ho⟩ := W.2 a (hbr.has (.inr ⟨_, _, e⟩))
      rcases List.mem_append.mp hm with hm | hm
      · have := hn a hm; rw [ho] at this; cases this
      · cases hm
    | d _ => trivial
    | v _ => trivial
/-- Headers._convert_string_type(x, name=b) gives x -/
theorem convert_cl {k : Nat} {self : Value} {x : Str} {b : Bool} (F : Fine A (k + 1)) (hx : okText x) (hl : x.cps.size ≤ 1000) : ClK (model prg w) A (.ref 240) (Wd w T) T [.v self, .d (.str x)] [(Tc.S "name", .bool b)] (isS T x) := by
  refine Cl.mkK (ρ := [(Tc.S "self", .v self), (Tc.S "value", .d (.str x)), (Tc.S "name", .d (.bool b))]) F rfl rfl rfl rfl (fun s vs G xs => ?_) (fun L T' g h₁ tk s₀ G F' hT hst S => ?_)
  · obtain _ | ⟨xa, _ | ⟨xb, _ | _⟩⟩ := xs
    rename_i va vb
    exact ⟨[(Tc.S "self", va), (Tc.S "value", vb), (Tc.S "name", .bool b)], kp_binds G.in_ fun _ => rfl, .cons xa (.cons xb (.cons (.bool b) .nil)), rfl⟩
  · refine X.ite (c := true) S (EvB.cmpV (EvP.callT (Ev.built G rfl rfl) (.cons (Ev.name rfl) .nil) Cl.typeStr fun _ _ => trivial) (Ev.built G rfl rfl) Op2.isType) (fun _ h1 tk1 S1 => ?_) (fun hq => nomatch hq)
    cases b with
    | true =>
      refine X.assign (r := .v (.ref 205)) S1 (EvP.ifExp (EvB.bool (Ev.name rfl)) (fun _ => Ev.glob G rfl) (fun q => nomatch q)) fun h2 tk2 S2 => ?_
      refine X.ite (c := false) S2 (EvB.none (EvP.search G pat_name (Ev.name rfl) (Ev.name rfl) (noneIn_of hx name_no) hl)) (fun q => nomatch q) (fun _ h3 tk3 S3 => X.nil ?_)
      refine X.ret S3 (Ev.name rfl) fun h' tk' v S' hv => ⟨h', tk', rfl, S'.pers, ?_⟩
      obtain ⟨t, rfl⟩ := hv.strE
      exact .str _ _
    | false =>
      refine X.assign (r := .v (.ref 210)) S1 (EvP.ifExp (EvB.bool (Ev.name rfl)) (fun q => nomatch q) (fun _ => Ev.glob G rfl)) fun h2 tk2 S2 => ?_
      refine X.ite (c := false) S2 (EvB.none (EvP.search G pat_val (Ev.name rfl) (Ev.name rfl) (noneIn_of hx val_no) hl)) (fun q => nomatch q) (fun _ h3 tk3 S3 => X.nil ?_)
      refine X.ret S3 (Ev.name rfl) fun h' tk' v S' hv => ⟨h', tk', rfl, S'.pers, ?_⟩
      obtain ⟨t, rfl⟩ := hv.strE
      exact .str _ _
/-- a Headers, its list at H -/
structure HdH (T : Tr) (h : Heap) (x dx H : Addr) : Prop where
  at_ : ∃ as, At h x dx 339 as ∧ as.lookup (Tc.S "_headers") = some (.ref H) ∧ (∀ m ∈ [Tc.S "_convert_string_type", Tc.S "get", Tc.S "get_all", Tc.S "items", Tc.S "setdefault", Tc.S "add_header"], as.lookup m = none)
  offX : T.off x
  offD : T.off dx
theorem HdH.pers {T : Tr} {g h : Heap} {x dx H : Addr} (W : HdH T g x dx H) (p : Pers T.m g h) : HdH T h x dx H :=
  let ⟨as, I, a⟩ := W.at_
  ⟨⟨as, I.pers W.offX.1 W.offD.1 p, a⟩, W.offX, W.offD⟩
theorem HdH.seal {T : Tr} {g : Heap} {x dx H : Addr} (W : HdH T g x dx H) {l : List Addr} (hl : ∀ b ∈ l, g.get? b = none) : HdH (T.seal.with l) g x dx H := by
  obtain ⟨as, I, a⟩ := W.at_
  obtain ⟨_, ex⟩ := I.objE
  obtain ⟨_, ed⟩ := I.dictE
  exact ⟨⟨as, I, a⟩, seal_off hl ex W.offX, seal_off hl ed W.offD⟩
theorem HdH.add {T : Tr} {g : Heap} {x dx H b : Addr} (W : HdH T g x dx H) (hb : g.get? b = none) : HdH (T.add b) g x dx H := by
  obtain ⟨as, I, a⟩ := W.at_
  obtain ⟨_, ex⟩ := I.objE
  obtain ⟨_, ed⟩ := I.dictE
  have hx : x ≠ b := fun q => (by rw [q, hb] at ex; cases ex)
  have hd : dx ≠ b := fun q => (by rw [q, hb] at ed; cases ed)
  exact ⟨⟨as, I, a⟩, Tr.off_add.mpr ⟨hx, W.offX⟩, Tr.off_add.mpr ⟨hd, W.offD⟩⟩
/-- o.m(e, name=b), m the converting method -/
theorem Ev.convert {k : Nat} {o e : Expr} {apos pos kpos cpos : Pos} {ck : Nat} {x dx H : Addr} {r : V} {y : Str} {b : Bool} (F : Fine A (k + 1)) (G : TopH w g) (W : HdH T g x dx H) (ho : Ev (model prg w) A env T g ρ o r) (hr : ∀ h v, Vr T h v r → v = .ref x) (hE : Ev (model prg w) A env T g ρ e (.d (.str y))) (hy : okText y) (hl : y.cps.size ≤ 1000)
    {pl : Sem Bool} (h1 : eval (.Call (.Attribute o (Tc.S "_convert_string_type") apos) [e] [⟨some (Tc.S "name"), .Constant (.bool b) ck cpos, kpos⟩] pos) env = (do
      let ov ← eval o env
      standAt apos.atName
      let (f, first) ← holding [ov] (getMethod ov (Tc.S "_convert_string_type") pl)
      callWith pos f first (backTo pos (starEach [e] env)) (backToKw pos (keywordEach [⟨some (Tc.S "name"), .Constant (.bool b) ck cpos, kpos⟩] env))) := by rfl)
    (he : starEach [e] env = (false, eval e env) :: starEach [] env := by rfl) :
    Ev (model prg w) A env T g ρ (.Call (.Attribute o (Tc.S "_convert_string_type") apos) [e] [⟨some (Tc.S "name"), .Constant (.bool b) ck cpos, kpos⟩] pos) (.d (.str y)) := by
  obtain ⟨as, ⟨es, J, at_⟩, ha, hm⟩ := W.at_
  intro s Q E S q
  rw [h1]
  refine wpAny_bind (ho s _ _ S fun h1 t1 v1 e1 p1 => ?_)
  obtain rfl := hr _ _ p1
  refine wpAny_bind (wpAny_standAt ?_)
  refine wpAny_bind (wpAny_holding ?_)
  obtain ⟨ox, n, JA⟩ := (J.pers W.offX.1 W.offD.1 (S.ext e1).pers).at_
  have hg : plainGet (topList w.params) 339 (Tc.S "_convert_string_type") = true := by rfl
  refine method_fn (G.on (S.ext e1)).in_ JA (plainGet_of hg).1 (plainGet_of hg).2 (f := 240) (by rfl) (beq_iff_eq.mp (by rfl)) (by show (lookIn _ (PySem.W.dictOf es n)).map _ = _; rw [lookIn_dict, at_.get, hm _ (.head _)]; rfl) ?_
  dsimp only
  refine callWith_KW (G.on (S.ext e1)).in_ (by rfl) (by rfl) ((EvAs.cons hE .nil he) pos _ _ _ (S.ext e1) fun h2 t2 vs e2 p2 => ?_) (by rw [he]; rfl) he
  have S2 := (S.ext e1).ext e2
  obtain _ | ⟨px, _ | _⟩ := p2
  rename_i va
  show wpAny _ _ (evalAll [_]) _ _ _
  refine wpAny_evalAll_cons (wpAny_bind (wpAny_Constant_bool (wpAny_bind (wpAny_standAt (wpAny_pure (wpAny_pure ⟨(G.on S2).in_, ?_⟩))))))
  have hcv := convert_cl (w := w) (A := A) (T := T) (self := .ref x) (b := b) F hy hl
  exact hcv _ [.ref x, va] _ _ (Wd.of G S2) (.cons rfl (.cons px .nil)) fun h3 t3 v3 e3 p3 => q _ _ _ ((e1.trans e2).trans e3) p3
end
end Tc
set_option maxHeartbeats 2000000
namespace Tc
open PySem PySem.Calls PyProof.Rows PySem.W
noncomputable def hp (p : Str × Str) : PyData := .tuple [.str p.1, .str p.2]
structure OkName (x : Str) : Prop where
  ok : okText x
  okL : okText (lowerS x)
  sz : x.cps.size ≤ 1000
  szL : (lowerS x).cps.size ≤ 1000
noncomputable def hits (nm : Str) (p : Str × Str) : Bool := lowerS p.1 == lowerS nm
noncomputable def getOf (l : List (Str × Str)) (nm : Str) : PyData := match l.find? (hits nm) with
  | some p => .str p.2
  | none => .none
section
variable {w : World} {A : Around} {env : Env} {T : Tr} {g : Heap} {ρ : List (Str × V)}
/-- o._headers -/
theorem Ev.hdrs {o : Expr} {pos : Pos} {x dx H : Addr} {ds : List PyData} (G : TopH w g) (W : HdH T g x dx H) (ho : Ev (model prg w) A env T g ρ o (.t x H ds))
    (he : eval (.Attribute o (Tc.S "_headers") pos) env = (do
      let o' ← eval o env
      standAt pos.atName
      let r ← holding [o'] (getAttr o' (Tc.S "_headers") true)
      letTemporaryGo o o' r
      pure r) := by with_unfolding_all rfl) : Ev (model prg w) A env T g ρ (.Attribute o (Tc.S "_headers") pos) (.o H ds) := by
  obtain ⟨as, ⟨es, J, at_⟩, ha, hm⟩ := W.at_
  intro s Q E S q
  refine Attribute_any_ (ho s _ _ S fun h1 t1 v1 e1 p1 => ?_) he
  obtain ⟨rfl, hH, vs, hl, hr⟩ := p1
  obtain ⟨ox, n, K⟩ := (J.pers W.offX.1 W.offD.1 (S.ext e1).pers).at_
  have hg : plainGet (topList w.params) 339 (Tc.S "_headers") = true := by rfl
  exact get_value (G.on (S.ext e1)).in_ K (plainGet_of hg).1 (findObj_own (attr := none) (by rfl) (by rfl) (by rfl) (by show lookIn _ (PySem.W.dictOf es n) = _; rw [lookIn_dict, at_.get, ha])) (by rfl) (q h1 _ _ e1 ⟨rfl, hH, vs, hl, hr⟩)
theorem items_cl {k : Nat} {x dx H : Addr} {ds : List PyData} (F : Fine A (k + 1)) (hz : ds.length ≤ 1000) : Cl (model prg w) A (.ref 303) (fun h => Wd w T h ∧ HdH T h x dx H) T [.t x H ds] (fun h v => Vr T h v (.d (.list ds))) := by
  refine Cl.mkW (ρ := [(Tc.S "self", .t x H ds)]) (fun h => HdH T h x dx H) F rfl rfl rfl rfl (fun s vs G xs => ?_) (fun L l g h₁ tk s₀ G XX hl F' hst S => ?_)
  · obtain _ | ⟨xa, _ | _⟩ := xs
    rename_i va
    exact ⟨[(Tc.S "self", va)], kp_binds G.in_ fun _ => rfl, .cons xa .nil, rfl⟩
  · have W := XX.seal hl
    have hz' : sizeLine = 16777216 := rfl
    refine X.ret S (EvN.slice (Ev.hdrs G W (Ev.name rfl)) rfl .none .none (by omega) pick_all).ev fun h' tk' v S' hv => ⟨h', tk', rfl, S'.pers, ?_⟩
    exact Rd.less (fun b hb => Tr.has_with.mpr (.inr (Tr.has_seal.mpr hb))) hv
theorem get_cl {k : Nat} {x dx H : Addr} {hs : List (Str × Str)} {nm : Str} (F : Fine A (k + 2)) (hn : OkName nm) (hk : ∀ p ∈ hs, OkName p.1) : Cl (model prg w) A (.ref 286) (fun h => Wd w T h ∧ HdH T h x dx H) T [.t x H (hs.map hp), .d (.str nm)] (fun h v => Vr T h v (.d (getOf hs nm))) := by
  refine Cl.mkW (ρ := [(Tc.S "self", .t x H (hs.map hp)), (Tc.S "name", .d (.str nm)), (Tc.S "default", .d .none)]) (fun h => HdH T h x dx H) F rfl rfl rfl rfl (fun s vs G xs => ?_) (fun L l g h₁ tk s₀ G XX hl F' hst S => ?_)
  · obtain _ | ⟨xa, _ | ⟨xb, _ | _⟩⟩ := xs
    rename_i va vb
    exact ⟨[(Tc.S "self", va), (Tc.S "name", vb), (Tc.S "default", .none)], kp_binds G.in_ fun _ => rfl, .cons xa (.cons xb (.cons .none .nil)), rfl⟩
  · have W := XX.seal hl
    refine X.assign S (Ev.convert F' G W (Ev.name rfl) (fun h v p => p.1) (EvP.lower (Ev.name rfl) hn.szL) hn.okL hn.szL) fun h1 tk1 S1 => ?_
    refine X.forG (xs := hs) (rep := hp) (fun i ρ' => ρ' = [(Tc.S "self", .t x H (hs.map hp)), (Tc.S "name", .d (.str (lowerS nm))), (Tc.S "default", .d .none)] ∧ ∀ p ∈ hs.take i, hits nm p = false) (fun _ => False) (S1.fit (l := [(Tc.S "self", .t x H (hs.map hp)), (Tc.S "name", .d (.str (lowerS nm))), (Tc.S "default", .d .none)]) ⟨rfl, rfl, rfl, trivial⟩) ⟨rfl, fun p hp => by cases hp⟩ (EvIt.listP F'.han (Ev.hdrs G W (Ev.name rfl)) rfl fun _ => hst (Tc.S "self") (.t x H (hs.map hp)) rfl) (fun i hi ρ' g' hR hp' S' => ?_) (fun ρ' h2 tk2 hR S2 => ?_)
    · obtain ⟨rfl, hno⟩ := hR
      refine ⟨_, Tgt.pair F'.han, fun h3 tk3 S3 => ?_⟩
      have hmem : hs[i] ∈ hs := List.getElem_mem hi
      refine X.ite (c := hits nm hs[i]) S3 (EvB.cmpV (EvP.lower (Ev.name rfl) (hk _ hmem).szL) (Ev.name rfl) Op2.eqS) (fun hc h4 tk4 S4 => ?_) (fun hc h4 tk4 S4 => ?_)
      · refine X.ret S4 (Ev.name rfl) fun h5 tk5 v S5 hv => ⟨h5, tk5, rfl, hp'.trans S5.pers, ?_⟩
        have hf : hs.find? (hits nm) = some hs[i] := by
          rw [List.find?_eq_some_iff_append]
          refine ⟨hc, hs.take i, hs.drop (i + 1), ?_, fun p hp => by rw [hno p hp]; rfl⟩
          rw [← List.drop_eq_getElem_cons hi, List.take_append_drop]
        have hg : getOf hs nm = .str hs[i].2 := by unfold getOf; rw [hf]
        rw [hg]
        obtain ⟨t, rfl⟩ := hv.strE
        exact .str _ _
      · refine X.nil (X.nil ⟨h4, tk4, _, rfl, S4.fit (l := [(Tc.S "self", .t x H (hs.map hp)), (Tc.S "name", .d (.str (lowerS nm))), (Tc.S "default", .d .none)]) ⟨rfl, rfl, rfl, trivial⟩, rfl, fun p hp => ?_⟩)
        rw [List.take_add_one, List.getElem?_eq_getElem hi] at hp
        rcases List.mem_append.mp hp with hp | hp
        · exact hno p hp
        · rw [List.mem_singleton.mp hp]; exact hc
    · rcases hR with ⟨rfl, hno⟩ | hR
      · rw [List.take_length] at hno
        have hg : getOf hs nm = .none := by
          unfold getOf
          rw [List.find?_eq_none.mpr fun p hp => Bool.eq_false_iff.mp (hno p hp)]
        refine X.ret S2 (Ev.name rfl) fun h5 tk5 v S5 hv => ⟨h5, tk5, rfl, S5.pers, ?_⟩
        rw [hg, hv.noneE]
        exact .none
      · exact hR.elim
theorem get_all_cl {k : Nat} {x dx H : Addr} {hs : List (Str × Str)} {nm : Str} (F : Fine A (k + 2)) (hn : OkName nm) (hk : ∀ p ∈ hs, OkName p.1) (hz : hs.length ≤ 1000) : Cl (model prg w) A (.ref 278) (fun h => Wd w T h ∧ HdH T h x dx H) T [.t x H (hs.map hp), .d (.str nm)] (fun h v => Vr T h v (.d (.list ((hs.filter (hits nm)).map fun p => .str p.2)))) := by
  refine Cl.mkW (ρ := [(Tc.S "self", .t x H (hs.map hp)), (Tc.S "name", .d (.str nm))]) (fun h => HdH T h x dx H) F rfl rfl rfl rfl (fun s vs G xs => ?_) (fun L l g h₁ tk s₀ G XX hl F' hst S => ?_)
  · obtain _ | ⟨xa, _ | ⟨xb, _ | _⟩⟩ := xs
    rename_i va vb
    exact ⟨[(Tc.S "self", va), (Tc.S "name", vb)], kp_binds G.in_ fun _ => rfl, .cons xa (.cons xb .nil), rfl⟩
  · have W := XX.seal hl
    have hz' : sizeLine = 16777216 := rfl
    refine X.assignC S (Ev.convert F' G W (Ev.name rfl) (fun h v p => p.1) (EvP.lower (Ev.nameC rfl) hn.szL) hn.okL hn.szL) fun h1 tk1 S1 => ?_
    refine X.ret S1 (EvP.compB (ρc := [(Tc.S "name", .d (.str (lowerS nm)))]) (rep := hp) (fun p => [(Tc.S "kv", .d (hp p))]) (hits nm) (fun p => .str p.2) (EvIt.own F'.han (Ev.hdrs G W (Ev.name rfl)) rfl) rfl (.cons rfl .nil) (.cons rfl rfl .nil) (fun C D p hp => Tgt.name) (fun C D p hp => .inr ⟨_, rfl, ?_⟩) (fun C D p hp _ => Ev.itemT (k := 1) (Ev.name rfl) Ev.int (by decide) rfl) (by omega)) fun h' tk' v S' hv => ⟨h', tk', rfl, S'.pers, ?_⟩
    · exact EvB.cmpV (EvP.lower (Ev.itemT (k := 0) (Ev.name rfl) Ev.int (by decide) rfl) (hk _ hp).szL) (Ev.nameC rfl) Op2.eqS
    · exact Rd.less (fun b hb => Tr.has_with.mpr (.inr (Tr.has_seal.mpr hb))) hv
end
end Tc
set_option maxHeartbeats 2000000
namespace Tc
open PySem PySem.Calls PyProof.Rows PySem.W
noncomputable def setdef (l : List (Str × Str)) (nm val : Str) : List (Str × Str) := if (l.find? (hits nm)).isSome then l else l ++ [(nm, val)]
theorem HdH.to {T T' : Tr} {g : Heap} {x dx H : Addr} (W : HdH T g x dx H) (h : ∀ b, T'.has b → T.has b ∨ g.get? b = none) : HdH T' g x dx H := by
  obtain ⟨as, I, a⟩ := W.at_
  obtain ⟨_, ex⟩ := I.objE
  obtain ⟨_, ed⟩ := I.dictE
  refine ⟨⟨as, I, a⟩, Tr.off_iff.mpr fun q => ?_, Tr.off_iff.mpr fun q => ?_⟩
  · rcases h _ q with q | q
    · exact Tr.off_iff.mp W.offX q
    · rw [q] at ex; cases ex
  · rcases h _ q with q | q
    · exact Tr.off_iff.mp W.offD q
    · rw [q] at ed; cases ed
section
variable {w : World} {A : Around} {env : Env} {T : Tr} {g : Heap} {ρ : List (Str × V)}
/-- o.get(e) -/
theorem Ev.get {k : Nat} {o e : Expr} {apos pos : Pos} {x dx H : Addr} {hs : List (Str × Str)} {nm : Str} (F : Fine A (k + 2)) (G : TopH w g) (W : HdH T g x dx H) (hn : OkName nm) (hk : ∀ p ∈ hs, OkName p.1) (ho : Ev (model prg w) A env T g ρ o (.t x H (hs.map hp))) (hE : Ev (model prg w) A env T g ρ e (.d (.str nm)))
    {pl : Sem Bool} (h1 : eval (.Call (.Attribute o (Tc.S "get") apos) [e] [] pos) env = (do
      let ov ← eval o env
      standAt apos.atName
      let (f, first) ← holding [ov] (getMethod ov (Tc.S "get") pl)
      callWith pos f first (backTo pos (starEach [e] env)) []) := by rfl)
    (he : starEach [e] env = (false, eval e env) :: starEach [] env := by rfl) : Ev (model prg w) A env T g ρ (.Call (.Attribute o (Tc.S "get") apos) [e] [] pos) (.d (getOf hs nm)) := by
  obtain ⟨as, ⟨es, J, at_⟩, ha, hm⟩ := W.at_
  exact EvP.meth G J W.offX.1 W.offD.1 ho (fun _ _ p => p.1) (.cons hE .nil he) rfl rfl (get_cl F hn hk) (fun h S => ⟨Wd.of G S, W.pers S.pers⟩) (by rw [at_.get, hm (Tc.S "get") (by decide)]) (by rfl) (by rfl) (by rfl) h1 he
theorem only_same {T : Tr} {H : Addr} (hT : T.has H) (b : Addr) : (T.only H).has b ↔ T.has b := Tr.has_only hT
/-- what a def that laid something in the list at H leaves -/
theorem leave_t {H x : Addr} {l : List Addr} {s : Shared} {h4 : Heap} {tk4 : Nat} {ds' : List PyData} (fl : Flow) (hfl : ∀ b, retv fl ≠ .ref b) (same : ∀ b, (T.only H).has b ↔ T.has b) (S : St env ((T.only H).with l) s.heap ρ h4) (hk : env.kindOf (Tc.S "self") = some .local) (hl : ρ.lookup (Tc.S "self") = some (.t x H ds')) :
    RetQ s (fun h' v => Pers ((T.only H).with l).m s.heap h' ∧ ((∀ b, v ≠ .ref b) ∧ ∃ vs', h'.PlainList H vs' ∧ Rds T h' vs'.toList ds')) fl { s with heap := h4, toks := tk4 } := by
  obtain ⟨m, hm, kk⟩ := S.ns
  obtain ⟨u, _, e, _, vs', l', r⟩ := kk (Tc.S "self") _ hl hk
  exact ⟨h4, tk4, rfl, S.pers, hfl, vs', l', Rds.less (fun b hb => Tr.has_with.mpr (.inr ((same b).mpr hb))) r⟩
theorem setdefault_call {k : Nat} {x dx H : Addr} {hs : List (Str × Str)} {nm val : Str} {s : Shared} {vs : List Value} {Q E : Value → Shared → Prop} (F : Fine A (k + 3)) (hn : OkName nm) (hk : ∀ p ∈ hs, OkName p.1) (hv : okText val) (hvs : val.cps.size ≤ 1000) (hz : hs.length ≤ 1000) (W : Wd w T s.heap) (D : HdH T s.heap x dx H) (xs : Vrs T s.heap vs [.t x H (hs.map hp), .d (.str nm), .d (.str val)])
    (q : ∀ h' tk v vs', (∀ b, v ≠ .ref b) → Pers [H] s.heap h' → h'.PlainList H vs' → Rds T h' vs'.toList ((setdef hs nm val).map hp) → Q v { s with heap := h', toks := tk }) : wpAny (model prg w) A (call (.ref 329) vs) Q E s := by
  obtain _ | ⟨xa, _ | ⟨xb, _ | ⟨xc, _ | _⟩⟩⟩ := xs
  rename_i va vb vc
  have hT : T.has H := xa.2.1
  have same := only_same hT
  refine enter (own := T.only H) (ρ := [(S "self", .t x H (hs.map hp)), (S "name", .d (.str nm)), (S "value", .d (.str val))]) (binds := [(S "self", va), (S "name", vb), (S "value", vc)])
    (P := fun h v => (∀ b, v ≠ .ref b) ∧ ∃ vs', h.PlainList H vs' ∧ Rds T h vs'.toList ((setdef hs nm val).map hp)) (ns := [S "self", S "name", S "value"]) W.1 F.go rfl rfl rfl rfl (kp_binds W.1.in_ fun _ => rfl) rfl rfl rfl rfl rfl (by decide) rfl (by decide) (fun b hb => W.2 b ((same b).mp hb)) (.cons (xa.same same) (.cons (xb.same same) (.cons (xc.same same) .nil))) (fun L h₁ tk hno S => ?_) fun h' tk v p ⟨nr, vs', l, r⟩ => q h' tk v vs' nr p l r
  have G := W.1
  have F' := F.in_ (envE (sub (stm 18) 15) (Tc.S "Headers.setdefault") 329 (.ref 328) L)
  have D0 : HdH ((T.only H).with (L :: cellsOf (sub (stm 18) 15) L)) s.heap x dx H := D.to fun b hb => by
    rcases Tr.has_with.mp hb with hb | hb
    · exact .inr (hno b hb)
    · exact .inl ((same b).mp hb)
  have hz' : sizeLine = 16777216 := rfl
  refine X.assign S (Ev.get F' G D0 hn hk (Ev.name rfl) (Ev.name rfl)) fun h2 tk2 S2 => ?_
  cases hf : hs.find? (hits nm) with
  | none =>
    have hg : getOf hs nm = .none := by unfold getOf; rw [hf]
    have hsd : setdef hs nm val = hs ++ [(nm, val)] := by unfold setdef; rw [hf]; rfl
    rw [hg] at S2
    rw [hsd]
    refine X.ite (c := true) S2 (EvB.cmpV (Ev.name rfl) Ev.noneC Op2.noneIs) (fun _ h3 tk3 S3 => ?_) (fun z => nomatch z)
    refine X.append (ρ' := [(Tc.S "self", .t x H ((hs ++ [(nm, val)]).map hp)), (Tc.S "name", .d (.str nm)), (Tc.S "value", .d (.str val))]) S3 (Ev.hdrs G D0 (Ev.name rfl)) (Ev.tuple (ds := [.str nm, .str val]) (.cons (Ev.convert F' G D0 (Ev.name rfl) (fun h v p => p.1) (Ev.name rfl) hn.ok hn.sz) (.cons (Ev.convert F' G D0 (Ev.name rfl) (fun h v p => p.1) (Ev.name rfl) hv hvs) .nil)) (show 2 ≤ sizeLine by decide)) (List.mem_append_right _ (.head _)) (by rw [List.length_map]; omega) ⟨⟨_, rfl, ?_⟩, ⟨_, rfl, .d _⟩, ⟨_, rfl, .d _⟩, trivial⟩ fun h4 tk4 S4 => ?_
    · rw [List.map_append]; exact .me2
    · refine X.ret S4 (Ev.name (r := .d (.str val)) rfl) fun h5 tk5 v5 S5 hv5 => leave_t (.ret v5) (fun b z => by obtain ⟨t, e⟩ := hv5.strE; have z' : v5 = .ref b := z; rw [e] at z'; cases z') same S5 rfl rfl
  | some p =>
    have hg : getOf hs nm = .str p.2 := by unfold getOf; rw [hf]
    have hsd : setdef hs nm val = hs := by unfold setdef; rw [hf]; rfl
    rw [hg] at S2
    rw [hsd]
    refine X.ite (c := false) S2 (EvB.cmpV (Ev.name rfl) Ev.noneC (Op2.isNone (b := false) fun h v p => ?_)) (fun z => nomatch z) (fun _ h3 tk3 S3 => ?_)
    · obtain ⟨t, rfl⟩ := p.strE; rfl
    · refine X.ret S3 (Ev.name (r := .d (.str p.2)) rfl) fun h5 tk5 v5 S5 hv5 => leave_t (.ret v5) (fun b z => by obtain ⟨t, e⟩ := hv5.strE; have z' : v5 = .ref b := z; rw [e] at z'; cases z') same S5 rfl rfl
end
end Tc
set_option maxHeartbeats 2000000
namespace Tc
open PySem PySem.Calls PyProof.Rows PySem.W
section
variable {w : World} {A : Around} {h : Heap}
/-- a def is entered whose binding makes objects: hB is the heap behind it -/
theorem enterB {prog : Program} {s₀ s : Shared} {f c : Addr} {co : Obj} {st : Stmt} {n q : Str} {dV kV doc pm ct : Value} {an : Option Addr} {vs : List Value} {kw : List (Str × Value)} {binds : List (Str × Value)} {ρ : List (Str × V)} {own : Tr} {P : Heap → Value → Prop} {R : Result → Shared → Prop} {cvs : Array Value} {ctk : Tok}
    (G : TopH w s.heap) (G₀ : TopH w s₀.heap) (hd : A.depth < recursionLimit)
    (ho : (topList w.params).lookup f = some ⟨.type "function", none, .func (fnc st n q mainGlobals dV kV doc pm an (.ref c) ct builtinsNs), #[]⟩)
    (hc : (topList w.params).lookup c = some co) (hcd : co.data = .fields cvs) (hcq : cvs[1]? = some (.str q ctk))
    (hb : ∀ (M : Model) (A : Around) (E : Value → Shared → Prop) (Q : List (Str × Value) → Shared → Prop), M = model prog w → Q binds s → wpAny M A (bindArgs (fnc st n q mainGlobals dV kV doc pm an (.ref c) ct builtinsNs) ⟨vs, kw⟩) Q E s₀)
    (hk : (fScope st).kind = .function) (hco : (fScope st).isCoroutine = false) (hgen : (fScope st).isGenerator = false)
    (hkind : (binds.all fun y => (fScope st).names.lookup y.1 == some .local || (fScope st).names.lookup y.1 == some .cell) = true)
    (hfree : ((fScope st).names.all fun y => y.2 != .free) = true)
    (hcn : ((cellsFrom 0 (fScope st).names []).map (·.1)).Nodup)
    {ns : List Str} (hns : binds.map (·.1) = ns) (hnd' : ns.Nodup)
    (hown : ∀ b, own.has b → 398 ≤ b ∧ ∃ o, s.heap.get? b = some o)
    (hρ : BR own s.heap ρ binds)
    (body : ∀ L h₁ tk, Ext s.heap h₁ → (∀ b ∈ (L :: cellsOf st L), s.heap.get? b = none) → St (envE st q f (.ref c) L) (own.with (L :: cellsOf st L)) s.heap ρ h₁ →
      wpAny (model prog w) (A.deeper (envE st q f (.ref c) L)) (execs (fBody st) (envE st q f (.ref c) L))
        (RetQ s fun h' v => Pers (own.with (L :: cellsOf st L)).m s.heap h' ∧ P h' v) (fun _ _ => False) { s with heap := h₁, toks := tk })
    (done : ∀ h' tk v, Pers own.m s.heap h' → P h' v → R (.ok (.ret v)) { s with heap := h', toks := tk }) :
    codeAny (model prog w) A (.call (.ref f) ⟨vs, kw⟩) R s₀ := by
  have hnd : (binds.map (·.1)).Nodup := hns ▸ hnd'
  refine codeAny_call_function hd (G₀.at_ _ _ ho) rfl hco hgen rfl ⟨c, co, cvs, ctk, rfl, G₀.at_ _ _ hc, hcd, hcq⟩ (hb _ _ _ _ rfl ?_)
  have hkd : ∀ n, ∀ x ∈ binds, (fScope st).names.lookup x.1 = some .local ∨ ((fScope st).names.lookup x.1 = some .cell ∧ ((cellsFrom n (fScope st).names []).lookup x.1).isSome = true) := kindsX hkind
  refine wpAny_newFunctionEnv_cells hk (hkd _) fun env he s' x => ?_
  subst he
  refine ⟨(noLimit G).keeps x.toInCall.keep, codeAny_func ?_⟩
  obtain ⟨h₁, tk, rfl, k⟩ := x.done
  have hL : s.heap.objs.size ≤ s.heap.objs.size := Nat.le_refl _
  have hnone : ∀ b ∈ s.heap.objs.size :: cellsOf st s.heap.objs.size, s.heap.get? b = none := by
    intro b hb
    refine Heap.get?_none_of_le ?_
    rcases List.mem_cons.mp hb with rfl | hb
    · exact Nat.le_refl _
    · obtain ⟨⟨y, d⟩, hy, rfl⟩ := List.mem_map.mp hb
      exact Nat.le_of_lt (x.above y d hy)
  have hbig := top_lt G
  have S : St (envE st q f (.ref c) s.heap.objs.size) (own.with (s.heap.objs.size :: cellsOf st s.heap.objs.size)) s.heap ρ h₁ := by
    refine ⟨hk, Ext.pers k, fun b hb => ?_, fun b hb => ?_, .head _, fun y d e => ?_, fun y z d e e' => apart_inj x.apart e e', ?_, fun y ky => ?_⟩
    · rcases Tr.has_with.mp hb with hb | hb
      · rcases List.mem_cons.mp hb with rfl | hb
        · obtain ⟨o, _, _, ho, _⟩ := x.toInCall.ns
          exact ⟨o, ho⟩
        · obtain ⟨⟨y, d⟩, hy, rfl⟩ := List.mem_map.mp hb
          have hd' := lookup_of_mem_nodup (cellsFrom_names (fScope st).names 0 (s.heap.objs.size + 1) [] [] rfl ▸ hcn) hy
          obtain ⟨o, ho, _⟩ := x.cell y _ hd'
          exact ⟨o, ho⟩
      · obtain ⟨o, ho⟩ := (hown b hb).2
        exact ⟨o, k _ _ ho⟩
    · rcases Tr.has_with.mp hb with hb | hb
      · have : s.heap.objs.size ≤ b := by
          rcases List.mem_cons.mp hb with rfl | hb
          · exact Nat.le_refl _
          · obtain ⟨⟨y, d⟩, hy, rfl⟩ := List.mem_map.mp hb
            exact Nat.le_of_lt (x.above y d hy)
        exact Nat.le_trans hbig this
      · exact (hown b hb).1
    · exact List.mem_append_left _ (.tail _ (List.mem_map.mpr ⟨_, lookup_mem e, rfl⟩))
    · refine ⟨_, x.toInCall.ns, fun y r e l => ?_⟩
      obtain ⟨v, a, b⟩ := hρ.bindL _ (fun _ => none) hnd e l
      exact ⟨v, a, (Vr.offs hnone b).ext k⟩
    · rcases ky with ky | ky
      · have hs := cellsFrom_some (x := y) (fScope st).names (s.heap.objs.size + 1) [] (.inl ky)
        obtain ⟨d, hd⟩ := Option.isSome_iff_exists.mp hs
        refine ⟨d, _, hd, x.cell y d hd, fun r e => ?_⟩
        obtain ⟨v, a, b⟩ := hρ.bindC _ (fun _ => none) hnd e (fun z => by have := ky.symm.trans z; cases this)
        exact ⟨v, a, (Vr.offs hnone b).ext k⟩
      · exfalso
        have := List.all_eq_true.mp hfree _ (lookup_mem ky)
        cases this
  refine wpAny_mono (body _ _ tk k hnone S) (fun fl s' hq => ?_) fun _ _ z => z.elim
  obtain ⟨h', tk', rfl, hp, hP⟩ := hq
  have := done h' tk' (retv fl) (fun b o nb e => hp b o (fun hm => by
    rcases List.mem_append.mp hm with hm | hm
    · have := hnone b hm; rw [e] at this; cases this
    · exact nb hm) e) hP
  cases fl <;> exact this
end
theorem wp_of_peekA' {α : Type} {K : Frag} {M : Model} {A : Around} {E : Value → Shared → Prop} {Q : α → Shared → Prop} {s : Shared} {o : Obj} (X : K.In s.heap) :
    ∀ (t : Sem α) (g : Addr → Sem α), peekA K ⟨M.prog, M.w.params⟩ t = some (o, g) → wpAny M A (g s.heap.objs.size) Q E { s with heap := s.heap.push o } → wpAny M A t Q E s := by
  intro t
  induction t with
  | rule _ k ih => intro g e q Γ p hΓ; exact ih () g e q Γ p hΓ
  | point _ k ih => intro g e q Γ p hΓ; exact ih () g e q Γ p hΓ
  | ask k ih => intro g e q Γ p hΓ; exact ih _ g e q Γ p hΓ
  | load a _ k ih =>
    intro g e q Γ p hΓ
    simp only [peekA] at e
    split at e
    · rename_i ob ho; exact ⟨ob, X _ _ ho, ih ob g e q Γ p hΓ⟩
    · cases e
  | alloc ob k _ =>
    intro g e q
    have e : some (ob, k) = some (o, g) := e
    obtain ⟨e1, e2⟩ := Prod.mk.inj (Option.some.inj e)
    subst e1
    subst e2
    show wpAny M A (alloc ob >>= k) Q E s
    exact wpAny_bind (wpAny_alloc q)
  | _ => intro g e; cases e
section
variable {w : World} {A : Around} {env : Env} {T : Tr} {g : Heap} {ρ : List (Str × V)}
/-- for .. in d.items(), d empty -/
theorem X.forItems0 {s : Shared} {Q : Flow → Shared → Prop} {target o : Expr} {body rest : List Stmt} {apos cpos pos : Pos} {d : Addr} (hA : A.handled = none) (S : St env T g ρ s.heap) (ho : Ev (model prg w) A env T g ρ o (.v (.ref d))) (hd : g.get? d = some (PySem.W.dictOf [] 0)) (hdT : d ∉ T.m) (hds : (d == sysModules) = false)
    (k : ∀ h' tk, St env T g ρ h' → wpAny (model prg w) A (execs rest env) Q NoE { s with heap := h', toks := tk })
    (hbase : attributeBase o (Tc.S "items") env (eval o env) = eval o env := by rfl)
    (hfew : ((backTo cpos (starEach [] env)).all (fun x => !x.1) && (backToKw cpos (keywordEach [] env)).all (fun x => x.1.isSome) && decide (([] : List Expr).length + ([] : List Keyword).length + (if ([] : List Keyword).isEmpty then 0 else 1) < 30)) = true := by rfl)
    (hline : (apos.endLine == cpos.line) = true := by rfl)
    (hs : ∀ x, foldedSetIterable (.Call (.Attribute o (Tc.S "items") apos) [] [] cpos) env x = pure x := by intro _; rfl) :
    wpAny (model prg w) A (execs (.For target (.Call (.Attribute o (Tc.S "items") apos) [] [] cpos) body [] pos :: rest) env) Q NoE s := by
  refine X.cons (wpAny_For ?_ hs)
  refine wpAny_Call_method_lateS hbase hfew hline (ho s _ _ S fun h1 t1 v1 e1 p1 => ?_)
  cases p1
  have S1 := S.ext e1
  have d1 : h1.get? d = some (PySem.W.dictOf [] 0) := S1.pers _ _ hdT hd
  have at1 : ∀ h : Heap, h.get? d = some (PySem.W.dictOf [] 0) → h.DictAt (intKind prg w) d [] 0 := fun h e => ⟨_, _, e, ⟨rfl, rfl, rfl⟩, rfl, (fun _ he => by simp at he), .nil, List.nodup_nil⟩
  refine ⟨"dict", "dict.items", F.plainAttrs_dict, F.slot_dict_items, F.type_dict_items, ⟨_, d1, rfl⟩, fun b q => by cases q; exact ⟨_, d1, rfl⟩, ?_⟩
  refine method_args0 (call_meetsIn F.slot_dict_items ⟨_, d1, rfl⟩ F.entry_dict_items (F.args_dict_items_1 _) (meets_dict_items (intKind prg w) d hds) ⟨⟨[], ?_⟩, ?_⟩)
  · obtain ⟨o, es, r⟩ := at1 h1 d1
    exact ⟨o, es, 0, r⟩
  have e2 : Ext h1 (h1.push { cls := .type "dict_items", data := .fields #[.ref d] }) := Ext.push _
  refine wpAny_pyIter_items (knd := intKind prg w) ⟨_, Heap.get?_push_size _ rfl, rfl, rfl⟩ (at1 _ (e2 _ _ d1)) ?_
  have e3 := e2.trans (Ext.push { cls := .type "dict_itemiterator", data := .fields #[.none, .bool false, .ref d, .int 0 0, .int 0 0, .int 0 0, .none, .none] })
  refine codeAny_forLoop_any (fun _ s' => s' = _) ?_ 0 rfl
  rintro n s' rfl
  refine wpAny_pyNext_items_end (knd := intKind prg w) (kvs := []) (i := 0) hA (Heap.get?_push_size _ rfl) (at1 _ (e3 _ _ d1)) rfl fun h4 he => ?_
  have e4 : Ext h1 h4 := fun b o e => he b o (fun q => by
    have lt := Heap.lt_size e
    have h2 : b = h1.objs.size + 1 := q.trans (Heap.size_push ..)
    rw [h2] at lt
    exact Nat.not_succ_lt_self lt) (e3 _ _ e)
  exact wpAny_execs_nil (k h4 _ (S1.ext e4))
end
end Tc
set_option maxHeartbeats 2000000
namespace Tc
open PySem PySem.Calls PyProof.Rows PySem.W
section
variable {w : World} {A : Around} {env : Env} {T : Tr} {g : Heap} {ρ : List (Str × V)}
theorem add_header_call {k : Nat} {x dx H : Addr} {hs : List (Str × Str)} {nm val : Str} {s : Shared} {vs : List Value} {Q E : Value → Shared → Prop} (F : Fine A (k + 3)) (hn : OkName nm) (hv : okText val) (hvs : val.cps.size ≤ 1000) (hz : hs.length ≤ 1000) (W : Wd w T s.heap) (D : HdH T s.heap x dx H) (xs : Vrs T s.heap vs [.t x H (hs.map hp), .d (.str nm), .d (.str val)])
    (q : ∀ h' tk v vs', (∀ b, v ≠ .ref b) → Pers [H] s.heap h' → h'.PlainList H vs' → Rds T h' vs'.toList ((hs ++ [(nm, val)]).map hp) → Q v { s with heap := h', toks := tk }) : wpAny (model prg w) A (call (.ref 336) vs) Q E s := by
  obtain _ | ⟨xa, _ | ⟨xb, _ | ⟨xc, _ | _⟩⟩⟩ := xs
  rename_i va vb vc
  have hT : T.has H := xa.2.1
  have same := only_same hT
  have eB : Ext s.heap (s.heap.push (PySem.W.dictOf [] 0)) := Ext.push _
  have hDn : s.heap.get? s.heap.objs.size = none := Heap.get?_none_of_le (Nat.le_refl _)
  have hDB : (s.heap.push (PySem.W.dictOf [] 0)).get? s.heap.objs.size = some (PySem.W.dictOf [] 0) := Heap.get?_push_size _ rfl
  generalize hD : s.heap.objs.size = pd at hDn hDB
  generalize hhB : s.heap.push (PySem.W.dictOf [] 0) = hB at eB hDB
  have W' : Wd w T hB := ⟨W.1.ext eB, fun b hb => let ⟨a, o, ho⟩ := W.2 b hb; ⟨a, o, eB _ _ ho⟩⟩
  refine wpAny_call (enterB (s₀ := s) (s := { s with heap := hB }) (own := T.only H) (ρ := [(S "self", .t x H (hs.map hp)), (S "_name", .d (.str nm)), (S "_value", .d (.str val)), (S "_params", .v (.ref pd))]) (binds := [(S "self", va), (S "_name", vb), (S "_value", vc), (S "_params", .ref pd)])
    (P := fun h v => (∀ b, v ≠ .ref b) ∧ ∃ vs', h.PlainList H vs' ∧ Rds T h vs'.toList ((hs ++ [(nm, val)]).map hp)) (ns := [S "self", S "_name", S "_value", S "_params"]) W'.1 W.1 F.go rfl rfl rfl rfl (fun M A E Q hM hq => ?_) rfl rfl rfl rfl rfl (by decide) rfl (by decide) (fun b hb => W'.2 b ((same b).mp hb)) (.cons ((xa.same same).ext eB) (.cons ((xb.same same).ext eB) (.cons ((xc.same same).ext eB) (.cons rfl .nil)))) (fun L h₁ tk _ hno S => ?_) fun h' tk v p ⟨nr, vs', l, r⟩ => q h' tk v vs' nr (eB.pers.trans p) l r)
  · subst hM
    refine wp_of_peekA' (K := topList w.params) (o := PySem.W.dictOf [] 0) W.1.in_ _ _ (by rfl) ?_
    rw [hhB, hD]
    exact wpAny_pure hq
  · have G := W'.1
    have F' := F.in_ (envE (sub (stm 18) 16) (Tc.S "Headers.add_header") 336 (.ref 335) L)
    have D0 : HdH ((T.only H).with (L :: cellsOf (sub (stm 18) 16) L)) hB x dx H := (D.pers (T := T) eB.pers).to fun b hb => by
      rcases Tr.has_with.mp hb with hb | hb
      · exact .inr (hno b hb)
      · exact .inl ((same b).mp hb)
    have hz' : sizeLine = 16777216 := rfl
    have hH0 : ((T.only H).with (L :: cellsOf (sub (stm 18) 16) L)).has H := Tr.has_with.mpr (.inr ((same H).mpr hT))
    have hpd0 : pd ∉ ((T.only H).with (L :: cellsOf (sub (stm 18) 16) L)).m := fun z => by
      rcases List.mem_append.mp z with z | z
      · have := hno pd z; rw [hDB] at this; cases this
      · obtain ⟨_, o, ho⟩ := W.2 H hT
        rw [← List.mem_singleton.mp z, hDn] at ho; cases ho
    refine X.assignOwn S (EvN.list (ds := []) .nil) fun a h2 tk2 hag haT S2 => ?_
    have hHa : H ≠ a := fun z => Tr.off_iff.mp haT (z ▸ hH0)
    have hpda : pd ∉ (((T.only H).with (L :: cellsOf (sub (stm 18) 16) L)).add a).m := fun z => by
      rcases List.mem_cons.mp z with z | z
      · rw [z, hag] at hDB; cases hDB
      · exact hpd0 z
    have D2 := D0.add hag
    refine X.ite (c := true) S2 (EvB.cmpV (Ev.name rfl) Ev.noneC (Op2.isNotNone (b := false) fun h v p => ?_)) (fun _ h3 tk3 S3 => ?_) (fun z => nomatch z)
    · obtain ⟨t, rfl⟩ := p.strE; rfl
    refine X.assign S3 (Ev.convert F' G D2 (Ev.name rfl) (fun h v p => p.1) (Ev.name rfl) hv hvs) fun h4 tk4 S4 => ?_
    refine X.append (ρ' := [(Tc.S "self", .t x H (hs.map hp)), (Tc.S "_name", .d (.str nm)), (Tc.S "_params", .v (.ref pd)), (Tc.S "parts", .o a [.str val])]) S4 (Ev.name (r := .o a []) rfl) (Ev.name (r := .d (.str val)) rfl) (.head _) (by decide) ⟨⟨_, rfl, .t hHa⟩, ⟨_, rfl, .d _⟩, ⟨_, rfl, .v _⟩, ⟨_, rfl, .me⟩, trivial⟩ fun h5 tk5 S5 => X.nil ?_
    refine X.forItems0 F'.han S5 (Ev.name rfl) hDB hpda (beq_eq_false_iff_ne.mpr fun z => ?_) fun h6 tk6 S6 => ?_
    · have : 398 ≤ pd := hD ▸ (Nat.le_of_lt_succ (Nat.succ_le_succ (Nat.le_trans (by decide) (top_lt W.1))))
      rw [z] at this
      exact absurd this (by decide)
    have hjoin : Str.join (Tc.S "; ") [val] = val := rfl
    have hsl : (Tc.S "; ").length = 2 := by decide
    refine X.append (ρ' := [(Tc.S "self", .t x H ((hs ++ [(nm, val)]).map hp))]) S6 (Ev.hdrs G D2 (Ev.name rfl)) (Ev.tuple (ds := [.str nm, .str val]) (.cons (Ev.convert F' G D2 (Ev.name rfl) (fun h v p => p.1) (Ev.name rfl) hn.ok hn.sz) (.cons (EvP.join (sep := Tc.S "; ") (texts := [val]) Ev.str (Ev.name rfl) rfl ?_) .nil)) (show 2 ≤ sizeLine by decide)) (List.mem_cons_of_mem _ (List.mem_append_right _ (.head _))) (by rw [List.length_map]; omega) ⟨⟨_, rfl, ?_⟩, trivial⟩ fun h7 tk7 S7 => X.nil ?_
    · unfold JoinOk Builtin.Str.tooLong
      show (!decide (_ > _)) = true
      have hv2 : val.length ≤ 1000 := hvs
      rw [Bool.not_eq_true', decide_eq_false_iff_not]
      show ¬ (0 + val.length + (Tc.S "; ").length > sizeLine)
      rw [hsl]
      omega
    · rw [List.map_append]; exact .me2
    · obtain ⟨m, hm, kk⟩ := S7.ns
      obtain ⟨u, _, e, _, vs', l', r⟩ := kk (Tc.S "self") _ rfl rfl
      exact ⟨h7, tk7, rfl, S7.pers.drop hag, (fun b z => nomatch z), vs', l', Rds.less (fun b hb => Tr.has_add.mpr (.inr (Tr.has_with.mpr (.inr ((same b).mpr hb))))) r⟩
/-- o.add_header(e1, e2) and o.setdefault(e1, e2), as statements -/
theorem X.hdrCall {s : Shared} {Q : Flow → Shared → Prop} {E : Value → Shared → Prop} {rest : List Stmt} {o e1 e2 : Expr} {name : Str} {apos pos pos' : Pos} {x dx H f : Addr} {of : Obj} {fd : FuncData} {ds ds' : List PyData} {r1 r2 : V} {ρ' : List (Str × V)} (G : TopH w g) (W : HdH T g x dx H) (S : St env T g ρ s.heap)
    (ho : Ev (model prg w) A env T g ρ o (.t x H ds)) (h1 : Ev (model prg w) A env T g ρ e1 r1) (h2 : Ev (model prg w) A env T g ρ e2 r2) (hH : H ∈ T.m) (fit : FitR (V.turn H ds') ρ ρ')
    (hf : (topList w.params).lookup f = some of) (hfd : of.data = .func fd) (hname : ∀ as : List (Str × Value), (∀ m ∈ [Tc.S "_convert_string_type", Tc.S "get", Tc.S "get_all", Tc.S "items", Tc.S "setdefault", Tc.S "add_header"], as.lookup m = none) → as.lookup name = none)
    (hg : plainGet (topList w.params) 339 name = true) (hm : findIn (topList w.params) (.ref 339) name = some (some (.ref f))) (ht : isFn (topList w.params) (.ref f) = true)
    (call : ∀ (s : Shared) vs (Q E : Value → Shared → Prop), Wd w T s.heap → HdH T s.heap x dx H → Vrs T s.heap vs [.t x H ds, r1, r2] → (∀ h' tk v vs', (∀ b, v ≠ .ref b) → Pers [H] s.heap h' → h'.PlainList H vs' → Rds T h' vs'.toList ds' → Q v { s with heap := h', toks := tk }) → wpAny (model prg w) A (PySem.call (.ref f) vs) Q E s)
    (k : ∀ h' tk, St env T g ρ' h' → wpAny (model prg w) A (execs rest env) Q E { s with heap := h', toks := tk })
    {pl : Sem Bool} (he1 : eval (.Call (.Attribute o name apos) [e1, e2] [] pos) env = (do
      let ov ← eval o env
      standAt apos.atName
      let (f, first) ← holding [ov] (getMethod ov name pl)
      callWith pos f first (backTo pos (starEach [e1, e2] env)) []) := by rfl)
    (he : starEach [e1, e2] env = (false, eval e1 env) :: starEach [e2] env := by rfl) (he2 : starEach [e2] env = (false, eval e2 env) :: starEach [] env := by rfl)
    (hi : interactive env = false := by rfl) (hs : swapsWith (.Call (.Attribute o name apos) [e1, e2] [] pos) none pos'.line env = pure false := by rfl) :
    wpAny (model prg w) A (execs (.Expr (.Call (.Attribute o name apos) [e1, e2] [] pos) pos' :: rest) env) Q E s := by
  refine X.cons (wpAny_Expr ?_ hi hs)
  obtain ⟨as, ⟨es, J, at_⟩, ha, hmm⟩ := W.at_
  refine MethodCall_ (pl := pl) (ho s _ _ S fun h1' t1 v1 e1' p1 => ?_) he1
  obtain ⟨rfl, _⟩ := id p1
  obtain ⟨ox, n, K⟩ := (J.pers W.offX.1 W.offD.1 (S.ext e1').pers).at_
  refine method_fn (G.on (S.ext e1')).in_ K (plainGet_of hg).1 (plainGet_of hg).2 hm (beq_iff_eq.mp ht) (by show (lookIn name (PySem.W.dictOf es n)).map _ = _; rw [lookIn_dict, at_.get, hname as hmm]; rfl) ?_
  refine callWith_meth (h₀ := h1') hfd ((G.on (S.ext e1')).at_ _ _ hf) ((EvAs.cons h1 (EvAs.cons h2 .nil he2) he) pos _ _ _ (S.ext e1') fun h2' t2 vs e2' p2 => ⟨e2', ?_⟩) he
  have S2 := (S.ext e1').ext e2'
  have p1' := p1.ext e2'
  refine call _ (.ref x :: vs) _ _ (Wd.of G S2) (W.pers S2.pers) (.cons p1' p2) fun h3 tk3 v vs' nr p3 l3 r3 => ?_
  obtain ⟨_, _, vs0, l2, _⟩ := p1'
  have kk := k h3 tk3 (St.turn S2 hH p3 l2 l3 r3 fit)
  cases v with
  | ref b => exact (nr b rfl).elim
  | _ => exact kk
end
end Tc
set_option maxHeartbeats 2000000
namespace Tc
open PySem PySem.Calls PyProof.Rows PySem.W
theorem St.cut2 {env : Env} {T : Tr} {g h : Heap} {ρ : List (Str × V)} (S : St env T g ρ h) (T1 : Tr) (hL : env.locals ∈ T1.m) (hC : ∀ x c, env.cells.lookup x = some c → c ∈ T1.m) (hs : ∀ b, T1.has b → T.has b) (hρ : ∀ x r, ρ.lookup x = some r → (∃ d, r = .d d) ∨ (∃ v, r = .v v) ∨ ∃ a ds, r = .o a ds ∧ T1.has a) : St env T1 h ρ h := by
  have vr : ∀ x r v, ρ.lookup x = some r → Vr T h v r → Vr T1 h v r := fun x r v e y => by
    rcases hρ x r e with ⟨d, rfl⟩ | ⟨u, rfl⟩ | ⟨a, ds, rfl, ha⟩
    · exact Rd.less hs y
    · exact y
    · obtain ⟨e1, _, vs, l, r⟩ := y
      exact ⟨e1, ha, vs, l, Rds.less hs r⟩
  refine ⟨S.kind, .refl, fun b hb => S.live b (hs b hb), fun b hb => S.high b (hs b hb), hL, hC, S.inj, ?_, fun z kz => ?_⟩
  · obtain ⟨m, hm, k⟩ := S.ns
    exact ⟨m, hm, fun x r e l => let ⟨v, a, b⟩ := k x r e l; ⟨v, a, vr x r v e b⟩⟩
  · obtain ⟨c, w', a, b, k⟩ := S.cl z kz
    exact ⟨c, w', a, b, fun r e => let ⟨v, y, q⟩ := k r e; ⟨v, y, vr z r v e q⟩⟩
section
variable {prog : Program} {w : World} {A : Around} {env : Env} {T : Tr} {g : Heap} {ρ : List (Str × V)}
theorem Cl.typeList {H : Addr} {ds : List PyData} : Cl (model prog w) A (.type "type") (fun _ => True) T [.o H ds] (fun h v => Vr T h v (.v (.type "list"))) := by
  intro s vs Q E _ xs q
  obtain _ | ⟨xx, _ | _⟩ := xs
  obtain ⟨rfl, _, its, hl, _⟩ := xx
  exact call_type_of hl.isList.typeIs (by decide) (q s.heap s.toks _ .refl rfl)
theorem hd_init {n : Nat} {s : Shared} {x dx H : Addr} {R : Result → Shared → Prop} (F : Fine A (n + 1)) (W : Wd w T s.heap) (I : At s.heap x dx 339 []) (hd4 : 398 ≤ dx) (hH4 : 398 ≤ H) (hHd : H ≠ dx) (hH : s.heap.PlainList H #[])
    (done : ∀ h' tk, Pers [dx] s.heap h' → At h' x dx 339 [(Tc.S "_headers", .ref H)] → R (.ok (.ret .none)) { s with heap := h', toks := tk }) :
    codeAny (model prg w) A (.call (.ref 233) ⟨[.ref x, .ref H], []⟩) R s := by
  obtain ⟨es0, J0, at0⟩ := id I
  have hHl : ∃ o, s.heap.get? H = some o := let ⟨_, e⟩ := hH; ⟨_, e⟩
  refine enterC (own := ⟨[dx], [H]⟩) (binds := [(Tc.S "self", .ref x), (Tc.S "headers", .ref H)]) (ρ := [(Tc.S "self", .v (.ref x)), (Tc.S "headers", .o H [])]) (P := fun h' v => v = .none ∧ At h' x dx 339 [(Tc.S "_headers", .ref H)]) W.1 F.go rfl rfl rfl rfl (kp_binds W.1.in_ fun _ => rfl) rfl rfl rfl rfl rfl (by decide) (ns := [Tc.S "self", Tc.S "headers"]) rfl (apartB_nodup rfl) (fun b hb => ?_) (.cons rfl (.cons ⟨rfl, .inr (.head _), _, hH, .nil⟩ .nil)) (fun L h₁ tk e0 hn S0 => ?_) (fun h' tk v p hv => ?_)
  · rcases hb with hb | hb
    · rw [List.mem_singleton.mp hb]; exact ⟨hd4, let ⟨_, e⟩ := J0.dict; ⟨_, e⟩⟩
    · rw [List.mem_singleton.mp hb]; exact ⟨hH4, hHl⟩
  · have hLx : x ≠ L := by
      rintro rfl
      obtain ⟨_, e⟩ := J0.obj
      have := hn x (.head _); rw [e] at this; cases this
    have hLd : dx ≠ L := by
      rintro rfl
      obtain ⟨_, e⟩ := J0.dict
      have := hn dx (.head _); rw [e] at this; cases this
    have hLH : H ≠ L := by
      rintro rfl
      obtain ⟨_, e⟩ := hHl
      have := hn H (.head _); rw [e] at this; cases this
    have F' : Fine (A.deeper (envE (sub (stm 18) 0) (Tc.S "Headers.__init__") 233 (.ref 232) L)) n := F.in_ _
    have S1 : St (envE (sub (stm 18) 0) (Tc.S "Headers.__init__") 233 (.ref 232) L) ⟨[L], [H]⟩ h₁ _ h₁ := S0.cut2 ⟨[L], [H]⟩ (.head _) (fun x c e => by cases e) (fun b hb => by
      rcases hb with hb | hb
      · rw [List.mem_singleton.mp hb]; exact .inl (.head _)
      · exact .inr hb) (fun y r e => by
      rw [List.lookup_cons] at e
      cases q : y == Tc.S "self" with
      | true => rw [q] at e; cases e; exact .inr (.inl ⟨_, rfl⟩)
      | false =>
        rw [q, List.lookup_cons] at e
        cases q2 : y == Tc.S "headers" with
        | true => rw [q2] at e; cases e; exact .inr (.inr ⟨_, _, rfl, .inr (.head _)⟩)
        | false => rw [q2] at e; cases e)
    have G1 := W.1.ext e0
    have I1 := I.pers (l := []) List.not_mem_nil List.not_mem_nil e0.pers
    refine X.assign (r := .o H []) S1 (EvP.ifExp (c := true) (EvB.cmpV (Ev.name rfl) Ev.noneC (Op2.isNotNone (b := false) fun h v p => by obtain ⟨rfl, _⟩ := p; rfl)) (fun _ => Ev.name rfl) (fun q => nomatch q)) fun h2 tk2 S2 => ?_
    refine X.ite (c := false) S2 (EvB.cmpV (EvP.callT (Ev.built G1 rfl rfl) (.cons (Ev.name rfl) .nil) Cl.typeList fun _ _ => trivial) (Ev.built G1 rfl rfl) Op2.isNotType) (fun q => nomatch q) (fun _ h3 tk3 S3 => X.nil ?_)
    have I3 := I1.pers (by exact fun q => hLx (List.mem_singleton.mp q)) (by exact fun q => hLd (List.mem_singleton.mp q)) S3.pers
    refine X.setAttr (G1.on S3) S3.rebase I3 (by exact fun q => hLd (List.mem_singleton.mp q)) hd4 (Ev.name rfl) (Ev.name (r := .o H []) rfl) Stays.vr (fun h4 h5 tk5 v e4 _ _ p5 S5 G5 I5 pv => ?_) rfl rfl rfl rfl rfl (by decide)
    obtain ⟨rfl, _⟩ := pv
    refine X.ite (c := true) S5 (EvB.bool Ev.boolC) (fun _ h6 tk6 S6 => ?_) (fun q => nomatch q)
    refine X.forG (xs := ([] : List (Str × Str))) (rep := hp) (fun _ _ => True) (fun _ => False) S6 trivial (EvIt.listP F'.han (Ev.name (r := .o H []) rfl) rfl fun _ => (fun q => hLH (List.mem_singleton.mp q))) (fun i hi => nomatch hi) fun ρ' h7 tk7 _ S7 => X.nil (X.nil ⟨h7, tk7, rfl, ?_, rfl, ?_⟩)
    · have p1 : Pers [dx, L] s.heap h7 := e0.pers.trans ((S3.pers.more fun b hb => .tail _ hb).trans (e4.pers.trans (p5.trans (S7.pers.more fun b hb => .tail _ hb))))
      refine p1.more fun b hb => ?_
      rcases List.mem_cons.mp hb with rfl | hb
      · exact List.mem_append_right _ (.head _)
      · rw [List.mem_singleton.mp hb]; exact List.mem_append_left _ (.head _)
    · exact I5.pers (by exact fun q => hLx (List.mem_singleton.mp q)) (by exact fun q => hLd (List.mem_singleton.mp q)) S7.pers
  · exact hv.1 ▸ done h' tk p hv.2
/-- y = Headers(e), e a fresh empty list -/
theorem X.assignHdr {n : Nat} {s : Shared} {Q : Flow → Shared → Prop} {E : Value → Shared → Prop} {rest : List Stmt} {y : Str} {yp pos spos : Pos} {fe e : Expr} (F : Fine A (n + 2)) (G : TopH w g) (S : St env T g ρ s.heap) (hf : Ev (model prg w) A env T g ρ fe (.v (.ref 339))) (hE : EvN (model prg w) A env T g ρ e [])
    (k : ∀ x dx H h' tk, g.get? H = none → T.off H → HdH (T.add H) h' x dx H → St env (T.add H) g ((y, .t x H []) :: ρ) h' → wpAny (model prg w) A (execs rest env) Q E { s with heap := h', toks := tk })
    (hy : env.kindOf y = some .local := by rfl) (hs : swapsWith (.Call fe [e] [] pos) (some (.Name y yp)) spos.line env = pure false := by rfl)
    (h1 : eval (.Call fe [e] [] pos) env = (do callWith pos (← eval fe env) [] (backTo pos (starEach [e] env)) (backToKw pos (keywordEach [] env))) := by rfl)
    (he : starEach [e] env = (false, eval e env) :: starEach [] env := by rfl) :
    wpAny (model prg w) A (execs (.Assign [.Name y yp] (.Call fe [e] [] pos) spos :: rest) env) Q E s := by
  refine X.cons (wpAny_Assign_Name ?_ hs)
  refine Call_ (hf s _ _ S fun h1 t1 v1 e1 p1 => ?_) h1
  cases p1
  have S1 := S.ext e1
  refine callWith_K (G.on S1).in_ (by rfl) (args_cons (hE _ _ _ S1 fun h2 t2 H vs e2 hHn hH4 hHl hr => args_nil ?_) he) he rfl
  have S2 := S1.ext e2
  have W2 := Wd.of G S2
  have hvs : vs = #[] := by
    have := hr.length
    rw [Array.length_toList] at this
    exact Array.eq_empty_of_size_eq_zero this
  subst hvs
  refine ⟨W2.1.in_, wpAny_call (make_cls W2.1 (by rfl) (by rfl) (by rfl) fun x dx h3 e3 hx hd hsd hsx hne J => ?_)⟩
  have big : 398 ≤ h2.objs.size := Nat.le_of_lt_succ (Nat.succ_le_succ (Nat.le_trans (by decide) (top_lt W2.1)))
  have W3 : Wd w T h3 := ⟨W2.1.ext e3, fun b hb => let ⟨a, o, ho⟩ := W2.2 b hb; ⟨a, o, e3 _ _ ho⟩⟩
  obtain ⟨nH, hHo⟩ := hHl
  have hHd : H ≠ dx := fun z => by rw [z, show h2.get? dx = none from hd] at hHo; cases hHo
  have hHx : x ≠ H := fun z => by rw [← z, show h2.get? x = none from hx] at hHo; cases hHo
  refine hd_init F.under_cls W3 ⟨[], J, .nil⟩ (Nat.le_trans big hsd) hH4 hHd ⟨nH, e3 _ _ hHo⟩ fun h4 tk4 p4 I4 => ?_
  have e4 : Ext h2 h4 := fun b o e => p4 b o (fun z => by rw [List.mem_singleton.mp z] at e; rw [show h2.get? dx = none from hd] at e; cases e) (e3 _ _ e)
  have e14 : Ext h1 h4 := e2.trans e4
  have S4 : St env (T.add H) g ρ h4 := S1.grow e14 hHn ⟨_, e4 _ _ hHo⟩ hH4
  have D4 : HdH (T.add H) h4 x dx H := by
    refine ⟨⟨_, I4, rfl, fun m hm => ?_⟩, Tr.off_add.mpr ⟨hHx, S2.off hx⟩, Tr.off_add.mpr ⟨hHd.symm, S2.off hd⟩⟩
    have : ([Tc.S "_convert_string_type", Tc.S "get", Tc.S "get_all", Tc.S "items", Tc.S "setdefault", Tc.S "add_header"].all fun m => m != Tc.S "_headers") = true := by decide
    have h2 := List.all_eq_true.mp this m hm
    rw [List.lookup_cons]
    have h3 : (m == Tc.S "_headers") = false := by
      rw [bne] at h2
      cases q : (m == Tc.S "_headers") with
      | false => rfl
      | true => rw [q] at h2; cases h2
    rw [h3]
    rfl
  refine ⟨rfl, store_l (r := .t x H []) S4 hy ⟨rfl, Tr.has_add.mpr (.inl rfl), #[], ⟨nH, e4 _ _ hHo⟩, .nil⟩ fun h5 tk5 S5 p5 => ?_⟩
  exact k x dx H h5 tk5 (S1.gnone hHn) (S1.off hHn) (D4.pers (p5.more fun b hb => List.mem_singleton.mp hb ▸ S4.memL)) S5
/-- y = Whitespace(e) -/
theorem X.assignWs {n : Nat} {s : Shared} {Q : Flow → Shared → Prop} {E : Value → Shared → Prop} {rest : List Stmt} {y : Str} {yp pos spos : Pos} {fe e : Expr} {ws : Str} (F : Fine A (n + 2)) (G : TopH w g) (S : St env T g ρ s.heap) (hf : Ev (model prg w) A env T g ρ fe (.v (.ref 100))) (hE : Ev (model prg w) A env T g ρ e (.d (.str ws))) (hlen : ws.cps.size ≤ 1000)
    (k : ∀ x dx h' tk, WsH T h' x dx (wsOf ws) → St env T g ((y, .v (.ref x)) :: ρ) h' → wpAny (model prg w) A (execs rest env) Q E { s with heap := h', toks := tk })
    (hy : env.kindOf y = some .local := by rfl) (hs : swapsWith (.Call fe [e] [] pos) (some (.Name y yp)) spos.line env = pure false := by rfl)
    (h1 : eval (.Call fe [e] [] pos) env = (do callWith pos (← eval fe env) [] (backTo pos (starEach [e] env)) (backToKw pos (keywordEach [] env))) := by rfl)
    (he : starEach [e] env = (false, eval e env) :: starEach [] env := by rfl) :
    wpAny (model prg w) A (execs (.Assign [.Name y yp] (.Call fe [e] [] pos) spos :: rest) env) Q E s := by
  refine X.assignP S (EvP.ws F G hf hE hlen h1 he) (fun h1 v e1 p1 => ?_) hy hs
  obtain ⟨x, dx, rfl, _, _, W⟩ := p1
  exact ⟨.v (.ref x), rfl, fun h' tk S' p => k x dx h' tk (W.pers p) S'⟩
end
end Tc
set_option maxHeartbeats 2000000
namespace Tc
open PySem PySem.Calls PyProof.Rows PySem.W
noncomputable def dropS (x : Str) (k : Nat) : Str := ⟨(x.cps.toList.drop k).toArray⟩
section
variable {prog : Program} {w : World} {A : Around} {env : Env} {T : Tr} {g : Heap} {ρ ρ' : List (Str × V)}
theorem txt_drop {x : Str} {k : Nat} (h : k ≤ x.length) : Txt.slice x (some (k : Int)) none = dropS x k := by
  rw [slice_from_eq (b := x.length) (by omega) (by omega) rfl]
  unfold dropS
  congr 2
  rw [Int.toNat_natCast]
  refine List.take_of_length_le ?_
  rw [List.length_drop, Array.length_toList]
  show x.length - k ≤ _
  omega
/-- x[k:], x a str -/
theorem Ev.sliceS {a b : Expr} {p pos : Pos} {x : Str} {k : Nat} (ha : Ev (model prog w) A env T g ρ a (.d (.str x))) (hb : Ev (model prog w) A env T g ρ b (.d (.int (k : Nat)))) (hk : k ≤ x.length) (hx : x.length ≤ 1000)
    (hs : ∀ t l, subscripted (.Slice (some b) none none p) false (.str x t) (.ref l) = operate [.ref l, .str x t] (getItem (.str x t) (.ref l)) := by intro _ _; with_unfolding_all rfl)
    (ht : ∀ t r, letTemporaryGo a (.str x t) r = pure () := by intro _ _; with_unfolding_all rfl) : Ev (model prog w) A env T g ρ (.Subscript a (.Slice (some b) none none p) pos) (.d (.str (dropS x k))) := by
  intro s Q E S q
  have hz : sizeLine = 16777216 := rfl
  refine Subscript_ (ha s _ _ S fun h1 t1 v1 e1 p1 => ?_)
  obtain ⟨t, rfl⟩ := p1.strE
  refine wpAny_Slice (evalPart_some_step (hb _ _ _ (S.ext e1) fun h2 t2 v2 e2 p2 => evalPart_none_step (evalPart_none_step ?_)))
  obtain ⟨u, rfl⟩ := p2.intE
  refine tail_of_ItemOn ⟨"str", _, F.slot_str_getitem.lookup, typeIs_str _ _ _, wpAny_getItem_str_slice (l := some ((k : Int), u)) (u := none) (st := none) ⟨_, Heap.get?_push_size _ rfl, rfl, rfl⟩ rfl
    (post_val_or_str ⟨Nat.le_trans (Txt.slice_le x (some (k : Int)) none) (by omega), fun t' k' => ?_⟩)⟩ (hs t _) (ht t)
  have := q (h2.push { cls := .type "slice", data := .fields #[.int k u, .none, .none] }) k' (.str (dropS x k) t') ((e1.trans e2).trans (Ext.push _)) (.str _ _)
  rw [← txt_drop hk] at this
  exact this
/-- x[i], x a str -/
theorem Ev.itemS {a b : Expr} {pos : Pos} {x : Str} {i c : Nat} (ha : Ev (model prog w) A env T g ρ a (.d (.str x))) (hb : Ev (model prog w) A env T g ρ b (.d (.int (i : Nat)))) (hi : x.cps[i]? = some c) (hx : x.length ≤ 1000)
    (hs : ∀ t u, subscripted b false (.str x t) (.int i u) = operate [.str x t, .int i u] (getItem (.str x t) (.int i u)) := by intro _ _; with_unfolding_all rfl)
    (ht : ∀ t r, letTemporaryGo a (.str x t) r = pure () := by intro _ _; with_unfolding_all rfl) : Ev (model prog w) A env T g ρ (.Subscript a b pos) (.d (.str ⟨#[c]⟩)) := by
  intro s Q E S q
  refine Subscript_ (ha s _ _ S fun h1 t1 v1 e1 p1 => hb _ _ _ (S.ext e1) fun h2 t2 v2 e2 p2 => ?_)
  obtain ⟨t, rfl⟩ := p1.strE
  obtain ⟨u, rfl⟩ := p2.intE
  have hlt : i < x.length := (Array.getElem?_eq_some_iff.mp hi).1
  have hj : seqIndex? (i : Int) x.length = some i := by
    unfold seqIndex?
    have : ¬ ((i : Int) < 0) := by omega
    simp only [this]
    simp [hlt]
  refine tail_of_ItemOn ⟨"str", _, F.slot_str_getitem.lookup, typeIs_str _ _ _, P.getItem_str (c := c) (by simp; omega) (by rw [hj]; exact hi) (q h2 _ _ (e1.trans e2) (.str _ _))⟩ (hs t u) (ht t)
theorem Op2.isBool {M : Model} {a b : Bool} {T1 T2 : Tr} : Op2 M A (compareOp .Is) (fun h v => Vr T1 h v (.d (.bool a))) (fun h v => Vr T2 h v (.d (.bool b))) (fun _ v => v = .bool (a == b)) := by
  intro s va vb Q E x y q
  obtain rfl := x.boolE
  obtain rfl := y.boolE
  cases a <;> cases b <;> exact fun _ _ _ => q s.heap s.toks _ .refl rfl
theorem Op2.eqL {ra rb : V} {da db : List PyData} {T1 T2 : Tr} {n : Nat} (hA : Fine A n) (hra : ra.asList = some da) (hrb : rb.asList = some db) (ha : SeqAt.shaped (.list da) = true) (hb : SeqAt.shaped (.list db) = true) : Op2 (model prog w) A (compareOp .Eq) (fun h v => Vr T1 h v ra) (fun h v => Vr T2 h v rb) (fun _ v => v = .bool (PyData.eqv (.list da) (.list db))) := by
  intro s va vb Q E x y q
  obtain ⟨_, rx⟩ := Rd.reads (x.frozen hra)
  obtain ⟨_, ry⟩ := Rd.reads (y.frozen hrb)
  exact eq_dataH rx ry ha hb hA.room (q s.heap s.toks _ .refl rfl)
theorem ints_are {h : Heap} : ∀ {vs : List Value} {ns : List Int}, Rds T h vs (ns.map .int) → IntsAre vs ns
  | _, [], .nil => .nil
  | _, _ :: _, .cons (.int _ t) r => .cons _ t (ints_are r)
theorem weight_ints : ∀ (ns : List Int), (∀ k ∈ ns, 0 ≤ k ∧ k < 16) → PyData.weightAll (ns.map .int) ≤ 6 * ns.length
  | [], _ => Nat.le_refl _
  | k :: ns, h => by
    have ih := weight_ints ns fun x hx => h x (.tail _ hx)
    have hk := h k (.head _)
    rw [List.map_cons, PyData.weightAll, List.length_cons]
    have : PyData.weight (.int k) ≤ 5 := by
      obtain ⟨n, rfl⟩ := Int.eq_ofNat_of_zero_le hk.1
      have : ∀ n < 16, PyData.weight (.int (n : Nat)) ≤ 5 := by decide
      exact this n (by omega)
    omega
theorem lay0_ints {ns : List Int} (h : ∀ k ∈ ns, 0 ≤ k ∧ k < 16) (hn : ns.length ≤ 1000) : PyData.layable0 (.list (ns.map .int)) = true := by
  have hw := weight_ints ns h
  unfold PyData.layable0
  rw [Bool.and_eq_true, Bool.and_eq_true]
  refine ⟨⟨lay_ints ns, ?_⟩, ?_⟩
  · rw [decide_eq_true_eq, PyData.depth, depth_ints]; decide
  · rw [decide_eq_true_eq, PyData.weight]; omega
/-- l.index(e) -/
theorem Ev.index {o e : Expr} {apos pos : Pos} {r : V} {ns : List Int} {k : Int} (ho : Ev (model prog w) A env T g ρ o r) (hr : r.asList = some (ns.map .int)) (he : Ev (model prog w) A env T g ρ e (.d (.int k))) (hk : k ∈ ns) (hb : ∀ k ∈ ns, 0 ≤ k ∧ k < 16) (hn : ns.length ≤ 1000)
    (hbase : attributeBase o (Tc.S "index") env (eval o env) = eval o env := by rfl)
    (hfew : ((backTo pos (starEach [e] env)).all (fun x => !x.1) && (backToKw pos (keywordEach [] env)).all (fun x => x.1.isSome) && decide ([e].length + ([] : List Keyword).length + (if ([] : List Keyword).isEmpty then 0 else 1) < 30)) = true := by rfl)
    (hline : (apos.endLine == pos.line) = true := by rfl) (hst : starEach [e] env = (false, eval e env) :: starEach [] env := by rfl) : Ev (model prog w) A env T g ρ (.Call (.Attribute o (Tc.S "index") apos) [e] [] pos) (.d (.int (ns.idxOf k : Nat))) := by
  intro s Q E S q
  refine wpAny_Call_method_lateS hbase hfew hline (ho s _ _ S fun h1 t1 v1 e1 p1 => ?_)
  obtain ⟨a, its, rfl, ⟨n1, l1⟩, r1⟩ := p1.list hr
  refine ⟨"list", "list.index", F.plainAttrs_list, F.slot_list_index, F.type_list_index, ⟨_, l1, rfl⟩, fun b q => by cases q; exact ⟨_, l1, rfl⟩, ?_⟩
  refine method_args ((EvAs.cons he .nil hst) pos _ _ _ (S.ext e1) fun h2 t2 vs e2 p2 => ?_) hst rfl
  obtain _ | ⟨x, _ | _⟩ := p2
  obtain ⟨u, rfl⟩ := x.intE
  have hl2 : h2.IsList a its.toList.toArray := by
    rw [Array.toArray_toList]
    exact Heap.PlainList.isList ⟨n1, e2 _ _ l1⟩
  exact index_list_ints hl2 (ints_are (Rds.pers e2.pers r1)) (lay0_ints hb hn) hk (q h2 _ _ (e1.trans e2) (.int _ _))
/-- a and b, as a value -/
theorem EvP.and2 {a b : Expr} {pos : Pos} {x y : Bool} (ha : EvP (model prog w) A env T g ρ a fun _ v => v = .bool x) (hb : x = true → EvP (model prog w) A env T g ρ b fun _ v => v = .bool y) : EvP (model prog w) A env T g ρ (.BoolOp .And [a, b] pos) fun _ v => v = .bool (x && y) := by
  intro s Q E S q
  refine BoolOp_and (ha s _ _ S fun h1 t1 v1 e1 p1 => ?_)
  subst p1
  refine wpAny_truthy_bool ?_
  cases x with
  | false => exact q _ _ _ e1 rfl
  | true =>
    rw [if_pos rfl]
    refine BoolOp_one (hb rfl _ _ _ (S.ext e1) fun h2 t2 v2 e2 p2 => q _ _ _ (e1.trans e2) ?_)
    rw [p2, Bool.true_and]
theorem pick_upto' {da : List PyData} {k : Int} (h0 : 0 ≤ k) (h2 : k < 2 ^ 62) (h : Heap) (T : Tr) (its : Array Value) (r : Rds T h its.toList da) : Rds T h (slicePick its none (some k) none).toList (da.take k.toNat) := by
  by_cases h1 : k ≤ da.length
  · exact pick_upto h0 h1 h T its r
  · have hlen := r.length
    rw [Array.length_toList] at hlen
    have e : slicePick its none (some k) none = slicePick its none none none := by
      have eb : sliceBounds none (some k) none its.size = sliceBounds none none none its.size := by
        unfold sliceBounds
        simp
        omega
      unfold slicePick
      rw [eb]
    rw [e, List.take_of_length_le (by omega)]
    exact pick_all h T its r
end
end Tc
set_option maxHeartbeats 4000000
namespace Tc
open PySem PySem.Calls PyProof.Rows PySem.W
/- the lines' leads -/
noncomputable def allRuns : List (List Int) := [[]] ++ ([0, 1, 2, 3] : List Int).map (fun a => [a]) ++ ([0, 1, 2, 3] : List Int).flatMap (fun a => ([0, 1, 2, 3] : List Int).map fun b => [a, b]) ++ ([0, 1, 2, 3] : List Int).flatMap (fun a => ([0, 1, 2, 3] : List Int).flatMap fun b => ([0, 1, 2, 3] : List Int).map fun c => [a, b, c])
theorem small_mem {x : Int} (h : 0 ≤ x ∧ x < 4) : x ∈ ([0, 1, 2, 3] : List Int) := by
  obtain ⟨n, rfl⟩ := Int.eq_ofNat_of_zero_le h.1
  have : ∀ n < 4, ((n : Nat) : Int) ∈ ([0, 1, 2, 3] : List Int) := by decide
  exact this n (by omega)
theorem runs_mem {l : List Int} (hl : l.length ≤ 3) (h : ∀ r ∈ l, 0 ≤ r ∧ r < 4) : l ∈ allRuns := by
  unfold allRuns
  simp only [List.mem_append, List.mem_map, List.mem_flatMap]
  match l, hl, h with
  | [], _, _ => exact .inl (.inl (.inl (.head _)))
  | [a], _, h => exact .inl (.inl (.inr ⟨a, small_mem (h a (.head _)), rfl⟩))
  | [a, b], _, h => exact .inl (.inr ⟨a, small_mem (h a (.head _)), b, small_mem (h b (.tail _ (.head _))), rfl⟩)
  | [a, b, c], _, h => exact .inr ⟨a, small_mem (h a (.head _)), b, small_mem (h b (.tail _ (.head _))), c, small_mem (h c (.tail _ (.tail _ (.head _)))), rfl⟩
  | _ :: _ :: _ :: _ :: _, hl, _ => exact absurd hl (by simp)
noncomputable def zOf (runs : List Int) (behind : Int) : Ws := wsOf (leadS runs behind)
/-- what is so of each lead -/
noncomputable def leadOk (runs : List Int) (behind : Int) : Bool :=
  (leadS runs behind).cps.toList.all (fun c => c == 32 || c == 9) && (zOf runs behind).n == (leadS runs behind).cps.size && decide ((leadS runs behind).cps.size ≤ 20) && decide ((zOf runs behind).count.length ≤ 4) && decide ((zOf runs behind).b ≤ 3)
  && (lrOf (zOf runs behind) == maxL (behind :: runs)) && decide (maxL (behind :: runs) ≤ 3) && ([1, 2, 3, 4].all fun ts => ((inOf (zOf runs behind) ts : Nat) : Int) == colOf runs behind (ts : Nat) && decide (inOf (zOf runs behind) ts ≤ 30))
theorem lead_ok : ∀ r ∈ allRuns, ∀ b ∈ ([0, 1, 2, 3] : List Int), leadOk r b = true := by decide +kernel
/- the names -/
noncomputable def okB (x : Str) : Bool := x.cps.toList.all fun c => decide (32 ≤ c) && decide (c < 127)
theorem okText_of {x : Str} (h : okB x = true) : okText x := fun c hc => by
  have := List.all_eq_true.mp h c hc
  rw [Bool.and_eq_true, decide_eq_true_eq, decide_eq_true_eq] at this
  exact this
noncomputable def okNameB (x : Str) : Bool := okB x && okB (lowerS x) && decide (x.cps.size ≤ 1000) && decide ((lowerS x).cps.size ≤ 1000)
theorem okName_of {x : Str} (h : okNameB x = true) : OkName x := by
  unfold okNameB at h
  rw [Bool.and_eq_true, Bool.and_eq_true, Bool.and_eq_true, decide_eq_true_eq, decide_eq_true_eq] at h
  exact ⟨okText_of h.1.1.1, okText_of h.1.1.2, h.1.2, h.2⟩
noncomputable def kd (x : Int) : Nat := (x.fmod 4).toNat
noncomputable def sp (x : Int) : Nat := ((x.fdiv 4).fmod 4).toNat
theorem kd_lt (x : Int) : kd x < 4 := by have := fmod4 x; unfold kd; omega
theorem sp_lt (x : Int) : sp x < 4 := by have := fmod4 (x.fdiv 4); unfold sp; omega
noncomputable def spelt (i j : Nat) : Str := Str.join (S "") (signs ((spl.getD i []).getD j []))
theorem spelledS_eq (x : Int) : spelledS x = spelt (kd x) (sp x) := rfl
noncomputable def lowNm (i : Nat) : Str := [S "ss", S "fi", S "st", S "ff"].getD i (S "")
noncomputable def upNm (i : Nat) : Str := [S "SS", S "FI", S "ST", S "FF"].getD i (S "")
noncomputable def nmOf (k i : Nat) : Str := if k % 2 = 1 then upNm i else lowNm i
noncomputable def clearly (s : Str) : List Str := (s.cps.toList.filter fun c => b1 (c : Nat) == false).map b3map
theorem name_ok : ∀ i < 4, ∀ j < 4, (match (spelt i j).cps.toList with | [] => false | c :: _ => c != 32 && c != 9) = true ∧ (spelt i j).cps.size ≤ 3 ∧ ((spelt i j).cps.toList.all fun c => decide ((lowerS ⟨#[c]⟩).length ≤ 10)) = true ∧ JoinOk (S "") (clearly (spelt i j)) = true ∧ (clearly (spelt i j)).length ≤ 3 ∧ Str.join (S "") (clearly (spelt i j)) = lowNm i := by decide +kernel
theorem nm_ok : ∀ i < 4, okNameB (lowNm i) = true ∧ okNameB (upNm i) = true ∧ upperS (lowNm i) = upNm i ∧ lowerS (upNm i) = lowNm i ∧ lowerS (lowNm i) = lowNm i := by decide +kernel
theorem nm_inj : ∀ i < 4, ∀ j < 4, lowNm i = lowNm j → i = j := by decide +kernel
theorem nmOf_ok (k : Nat) {i : Nat} (hi : i < 4) : OkName (nmOf k i) := by
  unfold nmOf
  split
  · exact okName_of (nm_ok i hi).2.1
  · exact okName_of (nm_ok i hi).1
theorem nmOf_low (k : Nat) {i : Nat} (hi : i < 4) : lowerS (nmOf k i) = lowNm i := by
  unfold nmOf
  split
  · exact (nm_ok i hi).2.2.2.1
  · exact (nm_ok i hi).2.2.2.2
/- the lines -/
noncomputable def behOf (x : Int) : Int := (x.fdiv 4096).fmod 4
noncomputable def lineT (x : Int) : Str := leadS (runsOf x) (behOf x) ++ spelledS x
theorem wsGo_app : ∀ (cs ds : List Nat) (z : Ws), (∀ c ∈ cs, c = 32 ∨ c = 9) → wsGo (cs ++ ds) z = wsGo ds (wsGo cs z)
  | [], _, _, _ => rfl
  | c :: cs, ds, z, h => by
    have hc := h c (.head _)
    have : ∃ z', z.step c = some z' := by
      unfold Ws.step
      rcases hc with rfl | rfl
      · exact ⟨_, if_pos rfl⟩
      · exact ⟨_, rfl⟩
    obtain ⟨z', e⟩ := this
    have go : ∀ l, wsGo (c :: l) z = wsGo l z' := fun l => by rw [wsGo, e]
    rw [List.cons_append, go, go]
    exact wsGo_app cs ds z' fun c hc => h c (.tail _ hc)
theorem wsGo_stop (d : Nat) (ds : List Nat) (z : Ws) (h : d ≠ 32 ∧ d ≠ 9) : wsGo (d :: ds) z = z := by
  unfold wsGo
  have : z.step d = none := by unfold Ws.step; rw [if_neg h.1, if_neg h.2]
  rw [this]
theorem beh_small (x : Int) : behOf x ∈ ([0, 1, 2, 3] : List Int) := small_mem (fmod4 _)
theorem leadOk_of {runs : List Int} {b : Int} (hl : runs.length ≤ 3) (h : ∀ r ∈ runs, 0 ≤ r ∧ r < 4) (hb : 0 ≤ b ∧ b < 4) : leadOk runs b = true := lead_ok runs (runs_mem hl h) b (small_mem hb)
structure Lead (runs : List Int) (b : Int) : Prop where
  blank : ∀ c ∈ (leadS runs b).cps.toList, c = 32 ∨ c = 9
  n : (zOf runs b).n = (leadS runs b).cps.size
  sz : (leadS runs b).cps.size ≤ 20
  cl : (zOf runs b).count.length ≤ 4
  bs : (zOf runs b).b ≤ 3
  lr : lrOf (zOf runs b) = maxL (b :: runs)
  m3 : maxL (b :: runs) ≤ 3
  col : ∀ ts ∈ [1, 2, 3, 4], ((inOf (zOf runs b) ts : Nat) : Int) = colOf runs b (ts : Nat) ∧ inOf (zOf runs b) ts ≤ 30
theorem Lead.of {runs : List Int} {b : Int} (hl : runs.length ≤ 3) (h : ∀ r ∈ runs, 0 ≤ r ∧ r < 4) (hb : 0 ≤ b ∧ b < 4) : Lead runs b := by
  have e := leadOk_of hl h hb
  unfold leadOk at e
  simp only [Bool.and_eq_true, decide_eq_true_eq, List.all_eq_true, beq_iff_eq, Bool.or_eq_true] at e
  obtain ⟨⟨⟨⟨⟨⟨⟨a, b'⟩, c⟩, d⟩, e⟩, f⟩, g⟩, h'⟩ := e
  exact ⟨a, b', c, d, e, f, g, h'⟩
theorem lead_line (x : Int) : Lead (runsOf x) (behOf x) := Lead.of (runsOf_len x) (runsOf_small x) (fmod4 _)
theorem lz_eq (x : Int) : wsOf (lineT x) = zOf (runsOf x) (behOf x) := by
  have L := lead_line x
  obtain ⟨a, _⟩ := name_ok (kd x) (kd_lt x) (sp x) (sp_lt x)
  unfold wsOf lineT zOf wsOf
  show wsGo ((leadS (runsOf x) (behOf x)).cps ++ (spelledS x).cps).toList _ = _
  rw [Array.toList_append, wsGo_app _ _ _ L.blank, spelledS_eq]
  cases h : (spelt (kd x) (sp x)).cps.toList with
  | nil => rfl
  | cons c cs =>
    rw [h] at a
    have a' : (c != 32 && c != 9) = true := a
    rw [Bool.and_eq_true, bne_iff_ne, bne_iff_ne] at a'
    exact wsGo_stop c cs _ a'
theorem drop_line (x : Int) : dropS (lineT x) (zOf (runsOf x) (behOf x)).n = spelledS x := by
  have L := lead_line x
  unfold dropS lineT
  show (⟨(((leadS (runsOf x) (behOf x)).cps ++ (spelledS x).cps).toList.drop _).toArray⟩ : Str) = _
  rw [L.n, Array.toList_append, List.drop_append_of_le_length (by rw [Array.length_toList]; exact Nat.le_refl _), ← Array.length_toList, List.drop_length, List.nil_append]
theorem line_size (x : Int) : (lineT x).cps.size ≤ 30 := by
  have L := lead_line x
  obtain ⟨_, b, _⟩ := name_ok (kd x) (kd_lt x) (sp x) (sp_lt x)
  show ((leadS (runsOf x) (behOf x)).cps ++ (spelledS x).cps).size ≤ 30
  rw [Array.size_append, spelledS_eq]
  have := L.sz
  omega
end Tc
set_option maxHeartbeats 4000000
namespace Tc
open PySem PySem.Calls PyProof.Rows PySem.W
noncomputable def num (n : Nat) : Str := Str.ofString (toString (n : Int))
noncomputable def valS (ts a b : Nat) : Str := ((((num ts ++ S ",") ++ num a) ++ S ",") ++ num b)
theorem num_ok : ∀ n < 31, okB (num n) = true ∧ (num n).length ≤ 2 := by decide +kernel
theorem num_one : ∀ n < 10, num n = ⟨#[48 + n]⟩ := by decide +kernel
theorem okText_app {x y : Str} (hx : okText x) (hy : okText y) : okText (x ++ y) := fun c hc => by
  have : c ∈ (x.cps ++ y.cps).toList := hc
  rw [Array.toList_append] at this
  rcases List.mem_append.mp this with h | h
  · exact hx c h
  · exact hy c h
theorem len_app (x y : Str) : (x ++ y).length = x.length + y.length := Array.size_append ..
theorem comma_ok : okB (S ",") = true ∧ (S ",").length = 1 ∧ okB (S "0") = true ∧ (S "0").length = 1 := by decide +kernel
structure ValOk (v : Str) : Prop where
  ok : okText v
  lo : 3 ≤ v.length
  hi : v.length ≤ 20
theorem val_ok {ts a b : Nat} (ht : ts < 31) (ha : a < 31) (hb : b < 31) : ValOk (valS ts a b) := by
  have h1 := num_ok ts ht
  have h2 := num_ok a ha
  have h3 := num_ok b hb
  have hc := comma_ok
  unfold valS
  refine ⟨okText_app (okText_app (okText_app (okText_app (okText_of h1.1) (okText_of hc.1)) (okText_of h2.1)) (okText_of hc.1)) (okText_of h3.1), ?_, ?_⟩
  · rw [len_app, len_app, len_app, len_app, hc.2.1]
    have : ∀ n < 31, 1 ≤ (num n).length := by decide +kernel
    have := this ts ht
    omega
  · rw [len_app, len_app, len_app, len_app, hc.2.1]
    omega
theorem val_first {ts a b : Nat} (ht : ts < 10) : (valS ts a b).cps[0]? = some (48 + ts) := by
  have e : ∀ (x y : Str), 0 < x.cps.size → (x ++ y).cps[0]? = x.cps[0]? := fun x y h => by
    show (x.cps ++ y.cps)[0]? = _
    rw [Array.getElem?_append_left h]
  have l : ∀ (x y : Str), 0 < x.cps.size → 0 < (x ++ y).cps.size := fun x y h => by
    show 0 < (x.cps ++ y.cps).size
    rw [Array.size_append]; omega
  have h0 : 0 < (num ts).cps.size := by rw [num_one ts ht]; exact Nat.one_pos
  unfold valS
  rw [e _ _ (l _ _ (l _ _ (l _ _ h0))), e _ _ (l _ _ (l _ _ h0)), e _ _ (l _ _ h0), e _ _ h0, num_one ts ht]
  rfl
theorem val_ne {ts a b : Nat} (ht : ts < 31) (ha : a < 31) (hb : b < 31) : (valS ts a b == S "0") = false := by
  refine beq_eq_false_iff_ne.mpr fun q => ?_
  have := (val_ok ht ha hb).lo
  rw [q, comma_ok.2.2.2] at this
  omega
/- the table -/
noncomputable def zx (x : Int) : Ws := zOf (runsOf x) (behOf x)
noncomputable def wl (zb : Ws) (x : Int) : List Nat := nlwOf (zx x) zb
noncomputable def addVal (nm : Str) (z zb : Ws) (t : List (Str × Str)) (ts : Nat) : List (Str × Str) := t ++ [(nm, valS ts (inOf z ts) (inOf zb ts))]
noncomputable def tblStep (zb : Ws) (ls : List Int) (t : List (Str × Str)) (k : Nat) : List (Str × Str) :=
  (wl zb (ls.getD k 0)).foldl (addVal (nmOf k (kd (ls.getD k 0))) (zx (ls.getD k 0)) zb) (setdef t (nmOf k (kd (ls.getD k 0))) (S "0"))
/-- what a bound's Ws keeps to -/
structure Bnd (zb : Ws) : Prop where
  cl : zb.count.length ≤ 4
  bs : zb.b ≤ 3
  lr : lrOf zb ≤ 3
  col : ∀ ts ∈ [1, 2, 3, 4], inOf zb ts ≤ 30
theorem Lead.bnd {runs : List Int} {b : Int} (L : Lead runs b) : Bnd (zOf runs b) := ⟨L.cl, L.bs, by rw [L.lr]; exact L.m3, fun ts h => (L.col ts h).2⟩
theorem zx_bnd (x : Int) : Bnd (zx x) := (lead_line x).bnd
theorem nlw_fold (z y : Ws) : ∀ (l : List Nat) (acc : List Nat), l.foldl (nlwStep z y) acc = acc ++ (l.filter fun j => decide (inOf z (j + 1) ≥ inOf y (j + 1))).map (· + 1)
  | [], acc => by simp
  | j :: l, acc => by
    rw [List.foldl_cons, nlw_fold z y l, nlwStep]
    by_cases h : inOf z (j + 1) ≥ inOf y (j + 1)
    · rw [if_pos h, List.filter_cons, if_pos (decide_eq_true h), List.map_cons, List.append_assoc]; rfl
    · rw [if_neg h, List.filter_cons, if_neg (by rw [decide_eq_true_eq]; exact h)]
theorem nlwOf_eq (z y : Ws) : nlwOf z y = ((List.range (nlwN z y)).filter fun j => decide (inOf z (j + 1) ≥ inOf y (j + 1))).map (· + 1) := by
  unfold nlwOf
  rw [nlw_fold, List.nil_append]
theorem nlwN_le {z y : Ws} (hz : Bnd z) (hy : Bnd y) : nlwN z y ≤ 4 := by
  have h1 := hz.lr
  have h2 := hy.lr
  unfold nlwN
  omega
theorem wl_mem {zb : Ws} (hb : Bnd zb) {x : Int} {ts : Nat} (h : ts ∈ wl zb x) : ts ∈ [1, 2, 3, 4] := by
  unfold wl at h
  rw [nlwOf_eq] at h
  obtain ⟨j, hj, rfl⟩ := List.mem_map.mp h
  have := List.mem_range.mp (List.mem_filter.mp hj).1
  have h4 := nlwN_le (zx_bnd x) hb
  have : ∀ j < 4, j + 1 ∈ [1, 2, 3, 4] := by decide
  exact this j (by omega)
theorem wl_len {zb : Ws} (hb : Bnd zb) (x : Int) : (wl zb x).length ≤ 4 := by
  unfold wl
  rw [nlwOf_eq, List.length_map]
  have h4 := nlwN_le (zx_bnd x) hb
  exact Nat.le_trans (List.length_filter_le _ _) (by rw [List.length_range]; exact h4)
theorem setdef_len (t : List (Str × Str)) (nm v : Str) : (setdef t nm v).length ≤ t.length + 1 := by
  unfold setdef
  split
  · omega
  · rw [List.length_append]; exact Nat.le_refl _
theorem addVal_len (nm : Str) (z zb : Ws) : ∀ (l : List Nat) (t : List (Str × Str)), (l.foldl (addVal nm z zb) t).length = t.length + l.length
  | [], t => rfl
  | ts :: l, t => by
    rw [List.foldl_cons, addVal_len nm z zb l, addVal, List.length_append, List.length_cons, List.length_cons, List.length_nil]
    omega
end Tc
set_option maxHeartbeats 4000000
namespace Tc
open PySem PySem.Calls PyProof.Rows PySem.W
noncomputable abbrev lawE (L : Addr) : Env := envE (stm 29) (Tc.S "law") 397 (.ref 396) L
section
variable {w : World} {A : Around} {env : Env} {T : Tr} {g : Heap} {ρ ρ' : List (Str × V)}
/-- if, where both ways lead to the same names -/
theorem X.iteN {s : Shared} {Q : Flow → Shared → Prop} {t : Expr} {b o rest : List Stmt} {pos : Pos} {c : Bool} (S : St env T g ρ s.heap) (ht : EvB (model prg w) A env T g ρ t c)
    (yes : c = true → ∀ h' tk, St env T g ρ h' → wpAny (model prg w) A (execs b env) (fun fl s' => fl = .next ∧ ∃ h3 tk3, s' = { s with heap := h3, toks := tk3 } ∧ St env T g ρ' h3) NoE { s with heap := h', toks := tk })
    (no : c = false → ∀ h' tk, St env T g ρ h' → wpAny (model prg w) A (execs o env) (fun fl s' => fl = .next ∧ ∃ h3 tk3, s' = { s with heap := h3, toks := tk3 } ∧ St env T g ρ' h3) NoE { s with heap := h', toks := tk })
    (k : ∀ h' tk, St env T g ρ' h' → wpAny (model prg w) A (execs rest env) Q NoE { s with heap := h', toks := tk }) : wpAny (model prg w) A (execs (.If t b o pos :: rest) env) Q NoE s := by
  refine X.ite S ht (fun hc h1 tk1 S1 => wpAny_mono (yes hc h1 tk1 S1) (fun fl s' h => ?_) fun _ _ z => z) (fun hc h1 tk1 S1 => wpAny_mono (no hc h1 tk1 S1) (fun fl s' h => ?_) fun _ _ z => z)
  · obtain ⟨rfl, h3, tk3, rfl, S3⟩ := h; exact k h3 tk3 S3
  · obtain ⟨rfl, h3, tk3, rfl, S3⟩ := h; exact k h3 tk3 S3
noncomputable abbrev lawN (bx tx H : Addr) (br : List Int) (spr : Int) (ls : List Int) (t : List (Str × Str)) : List (Str × V) := [(Tc.S "lines", .d (il ls)), (Tc.S "broad", .d (il br)), (Tc.S "spare", .d (.int spr)), (Tc.S "bound", .v (.ref bx)), (Tc.S "table", .t tx H (t.map hp))]
theorem law_B {k : Nat} {L bx bd tx td H : Addr} {br : List Int} {spr : Int} {ls : List Int} {s : Shared} {Q : Flow → Shared → Prop} {zb : Ws} (F : Fine A (k + 6)) (G : TopH w g) (S : St (lawE L) T g ρ s.heap) (WB : WsH T g bx bd zb) (HD : HdH T g tx td H) (hH : H ∈ T.m) (hb : Bnd zb) (hls : ls.length ≤ 10) (f0 : Fit ρ (lawN bx tx H br spr ls []))
    (done : ∀ h' tk, St (lawE L) T g (lawN bx tx H br spr ls ((List.range ls.length).foldl (tblStep zb ls) [])) h' → wpAny (model prg w) A (execs ((fBody (stm 29)).drop 9) (lawE L)) Q NoE { s with heap := h', toks := tk }) :
    wpAny (model prg w) A (execs ((fBody (stm 29)).drop 8) (lawE L)) Q NoE s := by
  have hz : sizeLine = 16777216 := rfl
  refine X.forFold (xs := List.range ls.length) (rep := fun (n : Nat) => PyData.int (n : Int)) (tblStep zb ls) (fun t => lawN bx tx H br spr ls t) (fun i t => t.length ≤ 5 * i ∧ ∀ p ∈ t, OkName p.1) [] S f0 ⟨Nat.zero_le _, fun p hp => nomatch hp⟩ ?_ (fun i n hn t g' hI hp S' => ⟨_, Tgt.name, fun h3 tk3 S3 => ?_⟩) (fun hI h3 tk3 S3 => done h3 tk3 S3)
  · refine EvIt.comap (f := fun (n : Nat) => (n : Int)) (EvIt.range1 F.han (Ev.built G rfl rfl) (EvP.callB (Ev.built G rfl rfl) (.cons (Ev.name rfl) .nil) (Cl.len rfl (by rw [List.length_map]; omega)) fun _ _ => trivial) ?_ ?_)
    · rw [List.length_map]; rfl
    · exact range_small (by omega) (by omega) (by omega) (by rw [List.length_map]; omega)
  · have hn' : n < ls.length := List.mem_range.mp (List.mem_of_getElem? hn)
    have hi : i < 10 := by
      have := (List.getElem?_eq_some_iff.mp hn).1
      rw [List.length_range] at this
      omega
    have G' : TopH w g' := G.pers S.high hp
    have WB' := WB.pers hp
    have HD' := HD.pers hp
    generalize hx : ls.getD n 0 = x
    have hd : (ls.map PyData.int)[((n : Nat) : Int).toNat]? = some (.int x) := by
      rw [Int.toNat_natCast, List.getElem?_map, List.getElem?_eq_getElem hn', ← hx, List.getD_eq_getElem?_getD, List.getElem?_eq_getElem hn']
      rfl
    have itm : ∀ {ρ0 : List (Str × V)} {p q r : Pos}, ρ0.lookup (Tc.S "lines") = some (.d (il ls)) → ρ0.lookup (Tc.S "k") = some (.d (.int (n : Nat))) → Ev (model prg w) A (lawE L) T g' ρ0 (.Subscript (.Name (Tc.S "lines") p) (.Name (Tc.S "k") q) r) (.d (.int x)) := fun e1 e2 => Ev.item (Ev.name e1) rfl (Ev.name e2) (by omega) (by omega) hd
    have LL := lead_line x
    have hsz := line_size x
    refine X.assign (r := .d (.str (lineT x))) S3 (Ev.bin (EvP.callD G' rfl rfl (Ev.glob G' rfl) (.cons (EvP.callD G' rfl rfl (Ev.glob G' rfl) (.cons (itm rfl rfl) .nil) (runs_cl F) fun h S => Wd.of G' S) (.cons (Ev.bin (Ev.bin (itm rfl rfl) Ev.int (Op2.fdiv (by decide) (PyProof.noPylong_small (by decide)))) Ev.int (Op2.fmod (by decide))) .nil)) (lead_cl F rfl (runsOf_len x) (runsOf_small x) (fmod4 _)) fun h S => Wd.of G' S) (EvP.callD G' rfl rfl (Ev.glob G' rfl) (.cons (itm rfl rfl) .nil) (spelled_cl F) fun h S => Wd.of G' S) (Op2.addS ?_)) fun h4 tk4 S4 => ?_
    · have : (lineT x).length = (leadS (runsOf x) (behOf x)).length + (spelledS x).length := len_app _ _
      have h2 : (lineT x).length ≤ 30 := hsz
      show (leadS (runsOf x) (behOf x)).length + (spelledS x).length ≤ _
      omega
    refine X.assignWs F G' S4 (Ev.glob G' rfl) (Ev.name rfl) (by omega) fun lx ldx h5 tk5 W5 S5 => ?_
    rw [lz_eq] at W5
    have W5 : WsH T h5 lx ldx (zx x) := W5
    have S6 := S5.rebase
    have G5 := G'.on S5
    have WB5 := WB'.pers S5.pers
    have HD5 := HD'.pers S5.pers
    have p5 := S5.pers
    obtain ⟨nk1, nk2, nk3, nk4, nk5, nk6⟩ := name_ok (kd x) (kd_lt x) (sp x) (sp_lt x)
    rw [← spelledS_eq] at nk1 nk2 nk3 nk4 nk5 nk6
    have hnx : (zx x).n ≤ (lineT x).length := by
      have h1 : (lineT x).length = (leadS (runsOf x) (behOf x)).length + (spelledS x).length := len_app _ _
      have h2 : (zx x).n = (leadS (runsOf x) (behOf x)).length := LL.n
      omega
    refine X.assign (r := .d (.str (lowNm (kd x)))) S6 (Ev.cast (EvP.join (sep := Tc.S "") (texts := clearly (spelledS x)) Ev.str (EvP.compB (ρc := []) (rep := fun (c : Nat) => .str ⟨#[c]⟩) (fun c => [(Tc.S "sign", .d (.str ⟨#[c]⟩))]) (fun c => b1 (c : Nat) == false) (fun c => .str (b3map c)) (EvIt.str F.han (Ev.cast (Ev.sliceS (Ev.name rfl) (Ev.wsN G5 W5 (Ev.name rfl)) hnx (by have h2 : (lineT x).length ≤ 30 := hsz; omega)) (congrArg PyData.str (drop_line x)))) rfl .nil .nil (fun C D c hc => Tgt.name) (fun C D c hc => .inr ⟨_, rfl, EvB.cmpV (EvP.callD G5 rfl rfl (Ev.glob G5 rfl) (.cons (Ev.name rfl) .nil) (in_b1_cl F) fun h S => Wd.of G5 S) Ev.boolC Op2.isBool⟩) (fun C D c hc _ => EvP.callD G5 rfl rfl (Ev.glob G5 rfl) (.cons (Ev.name rfl) .nil) (b3_cl F (Nat.le_trans (of_decide_eq_true (List.all_eq_true.mp nk3 c hc)) (by decide))) fun h S => Wd.of G5 S) (by rw [Array.length_toList]; omega)) (by show some _ = some _; unfold clearly; rw [List.map_map]; rfl) nk4) (congrArg PyData.str nk6)) fun h7 tk7 S7 => ?_
    have hx4 := kd_lt x
    have hnm := nmOf_ok n hx4
    refine X.iteN (c := (((n : Nat) : Int).fmod 2 == 1)) (ρ' := (Tc.S "name", .d (.str (nmOf n (kd x)))) :: (Tc.S "lead", .v (.ref lx)) :: lawN bx tx H br spr ls t) S7 (EvB.cmpV (Ev.bin (Ev.name rfl) Ev.int (Op2.fmod (by decide))) Ev.int Op2.eq) (fun hc h8 tk8 S8 => ?_) (fun hc h8 tk8 S8 => ?_) fun h8 tk8 S8 => ?_
    · have e : n % 2 = 1 := by
        have := eq_of_beq hc
        rw [Int.fmod_eq_emod_of_nonneg _ (by decide)] at this
        omega
      have hup : upperS (lowNm (kd x)) = nmOf n (kd x) := by unfold nmOf; rw [if_pos e]; exact (nm_ok _ hx4).2.2.1
      refine X.assign S8 (EvP.upper (Ev.name rfl) ?_) fun h9 tk9 S9 => X.nil ⟨rfl, h9, tk9, rfl, ?_⟩
      · rw [hup]; exact hnm.sz
      · rw [hup] at S9
        exact S9.fit ⟨rfl, rfl, rfl, rfl, rfl, rfl, rfl, trivial⟩
    · have e : ¬ n % 2 = 1 := by
        have := beq_eq_false_iff_ne.mp hc
        rw [Int.fmod_eq_emod_of_nonneg _ (by decide)] at this
        omega
      have hlo : lowNm (kd x) = nmOf n (kd x) := by unfold nmOf; rw [if_neg e]
      rw [hlo] at S8
      exact X.nil ⟨rfl, h8, tk8, rfl, S8.fit ⟨rfl, rfl, rfl, rfl, rfl, rfl, rfl, trivial⟩⟩
    obtain ⟨hI1, hI2⟩ := hI
    generalize hnmd : nmOf n (kd x) = nm at hnm S8
    have hc0 := comma_ok
    have hl0 := setdef_len t nm (Tc.S "0")
    have hk1 : ∀ p ∈ setdef t nm (Tc.S "0"), OkName p.1 := fun p hp => by
      unfold setdef at hp
      split at hp
      · exact hI2 p hp
      · rcases List.mem_append.mp hp with hp | hp
        · exact hI2 p hp
        · rw [List.mem_singleton.mp hp]; exact hnm
    refine X.hdrCall (f := 329) (ds := t.map Tc.hp) (ds' := (setdef t nm (Tc.S "0")).map Tc.hp) (r1 := .d (.str nm)) (r2 := .d (.str (Tc.S "0"))) (ρ' := (Tc.S "name", .d (.str nm)) :: (Tc.S "lead", .v (.ref lx)) :: lawN bx tx H br spr ls (setdef t nm (Tc.S "0"))) G5 HD5 S8 (Ev.name rfl) (Ev.name rfl) Ev.str hH ⟨⟨_, rfl, .d _⟩, ⟨_, rfl, .v _⟩, ⟨_, rfl, .d _⟩, ⟨_, rfl, .d _⟩, ⟨_, rfl, .d _⟩, ⟨_, rfl, .v _⟩, ⟨_, rfl, .me2⟩, trivial⟩ rfl rfl (fun as h => h _ (by decide)) (by rfl) (by rfl) (by rfl)
      (fun s vs Q E W D xs q => setdefault_call F hnm hI2 (okText_of hc0.2.2.1) (by show (Tc.S "0").length ≤ 1000; rw [hc0.2.2.2]; decide) (by omega) W D xs q) fun h9 tk9 S9 => ?_
    refine X.forFold (xs := wl zb x) (rep := wit (zx x) zb) (addVal nm (zx x) zb) (fun u => (Tc.S "name", .d (.str nm)) :: (Tc.S "lead", .v (.ref lx)) :: lawN bx tx H br spr ls u) (fun j u => u.length ≤ t.length + 1 + j ∧ ∀ p ∈ u, OkName p.1) (setdef t nm (Tc.S "0")) S9 ⟨rfl, rfl, rfl, rfl, rfl, rfl, rfl, trivial⟩ ⟨hl0, hk1⟩ (EvIt.list F.han ?_) (fun j ts hts u g2 hJ hp2 S10 => ⟨_, Tgt.triple F.han, fun h11 tk11 S11 => ?_⟩) (fun hJ h11 tk11 S11 => ?_)
    · obtain ⟨as, ⟨es, J, at_⟩, _, _, _, n1, n2, n3⟩ := W5.ok.at_
      exact EvP.meth (r := .v (.ref lx)) G5 J W5.offX.1 W5.offD.1 (Ev.name rfl) (fun _ _ p => p) (.cons (Ev.name rfl) .nil) rfl rfl (witness_cl F (Nat.le_trans (zx_bnd x).cl (by decide)) (Nat.le_trans (zx_bnd x).bs (by decide)) (Nat.le_trans hb.cl (by decide)) (Nat.le_trans hb.bs (by decide))) (fun h S => ⟨Wd.of G5 S, W5.pers S.pers, WB5.pers S.pers⟩) (by rw [at_.get, n3]) (by rfl) (by rfl) (by rfl)
    · have hmem : ts ∈ wl zb x := List.mem_of_getElem? hts
      have hts4 := wl_mem hb hmem
      have hjl : j < 4 := by
        have := (List.getElem?_eq_some_iff.mp hts).1
        have := wl_len hb x
        omega
      have c1 : inOf (zx x) ts ≤ 30 := (zx_bnd x).col ts hts4
      have c2 : inOf zb ts ≤ 30 := hb.col ts hts4
      have c0 : ts ≤ 4 := by
        have : ∀ ts ∈ [1, 2, 3, 4], ts ≤ 4 := by decide
        exact this ts hts4
      have hv := val_ok (ts := ts) (a := inOf (zx x) ts) (b := inOf zb ts) (by omega) (by omega) (by omega)
      have hn31 : ∀ m < 31, (num m).length ≤ 2 := fun m hm => (num_ok m hm).2
      have l1 := hn31 ts (by omega)
      have l2 := hn31 (inOf (zx x) ts) (by omega)
      have l3 := hn31 (inOf zb ts) (by omega)
      have lc : (Tc.S ",").length = 1 := hc0.2.1
      have str : ∀ {m : Nat} {y : Str} {ρ0 : List (Str × V)} {T0 : Tr} {p q r : Pos}, m < 31 → ρ0.lookup y = some (.d (.int (m : Nat))) → (lawE L).kindOf y = some .local → (y == ("__debug__" : Str)) = false → Ev (model prg w) A (lawE L) T0 g2 ρ0 (.Call (.Name (Tc.S "str") p) [.Name y q] [] r) (.d (.str (num m))) := fun hm e1 e2 e3 => EvP.callT (Ev.built (G5.pers S9.high hp2) rfl rfl) (.cons (Ev.name e1 e2 e3) .nil) (Cl.strInt (by omega)) fun _ _ => trivial
      refine X.hdrCall (f := 336) (ds := u.map Tc.hp) (ds' := (addVal nm (zx x) zb u ts).map Tc.hp) (r1 := .d (.str nm)) (r2 := .d (.str (valS ts (inOf (zx x) ts) (inOf zb ts)))) (ρ' := (Tc.S "name", .d (.str nm)) :: (Tc.S "lead", .v (.ref lx)) :: lawN bx tx H br spr ls (addVal nm (zx x) zb u ts)) (G5.pers S9.high hp2) (HD5.pers hp2) S11 (Ev.name rfl) (Ev.name rfl)
        (Ev.bin (Ev.bin (Ev.bin (Ev.bin (str (by omega) rfl rfl rfl) Ev.str (Op2.addS ?_)) (str (by omega) rfl rfl rfl) (Op2.addS ?_)) Ev.str (Op2.addS ?_)) (str (by omega) rfl rfl rfl) (Op2.addS ?_)) hH ⟨⟨_, rfl, .d _⟩, ⟨_, rfl, .v _⟩, ⟨_, rfl, .d _⟩, ⟨_, rfl, .d _⟩, ⟨_, rfl, .d _⟩, ⟨_, rfl, .v _⟩, ⟨_, rfl, .me2⟩, trivial⟩ rfl rfl (fun as h => h _ (by decide)) (by rfl) (by rfl) (by rfl)
        (fun s vs Q E W D xs q => add_header_call F hnm hv.ok (Nat.le_trans hv.hi (by decide)) (by omega) W D xs q) fun h12 tk12 S12 => X.nil ⟨.inl rfl, h12, tk12, rfl, S12, ?_, ?_⟩
      · show (num ts).length + (Tc.S ",").length ≤ _
        omega
      · show (num ts ++ Tc.S ",").length + (num (inOf (zx x) ts)).length ≤ _
        rw [len_app]; omega
      · show ((num ts ++ Tc.S ",") ++ num (inOf (zx x) ts)).length + (Tc.S ",").length ≤ _
        rw [len_app, len_app]; omega
      · show (((num ts ++ Tc.S ",") ++ num (inOf (zx x) ts)) ++ Tc.S ",").length + (num (inOf zb ts)).length ≤ _
        rw [len_app, len_app, len_app]; omega
      · show (u ++ [_]).length ≤ _
        rw [List.length_append, List.length_singleton]; omega
      · intro p hp
        rcases List.mem_append.mp hp with hp | hp
        · exact hJ.2 p hp
        · rw [List.mem_singleton.mp hp]; exact hnm
    · have hstep : (wl zb x).foldl (addVal nm (zx x) zb) (setdef t nm (Tc.S "0")) = tblStep zb ls t n := by
        unfold tblStep
        rw [hx, hnmd]
      rw [hstep] at S11 hJ
      refine X.nil ⟨.inl rfl, h11, tk11, rfl, (S11.fit (l := lawN bx tx H br spr ls (tblStep zb ls t n)) ⟨rfl, rfl, rfl, rfl, rfl, trivial⟩).base p5, ?_, hJ.2⟩
      have := hJ.1
      have := wl_len hb x
      omega
end
end Tc
set_option maxHeartbeats 4000000
namespace Tc
open PySem PySem.Calls PyProof.Rows PySem.W
noncomputable def dflts : List Int := [0, 480, 8245, 1394, 12843, 1004]
noncomputable def cutN (script : List Int) : List Int := (script.take 6).map fun x => x.fmod (10 ^ 6)
noncomputable def nums (script : List Int) : List Int := cutN script ++ dflts.drop (cutN script).length
noncomputable def broadOf (f : Int) : List Int := ([3 - (f.fdiv 3).fmod 4, f.fmod 4, (f.fdiv 12).fmod 4] : List Int).take (3 - f.fmod 3).toNat
noncomputable def spareOf (f : Int) : Int := (f.fdiv 48).fmod 4
theorem cutN_len (script : List Int) : (cutN script).length ≤ 6 := by
  unfold cutN
  rw [List.length_map, List.length_take]
  omega
theorem nums_len (script : List Int) : (nums script).length = 6 := by
  have := cutN_len script
  unfold nums
  rw [List.length_append, List.length_drop]
  show _ + (6 - _) = 6
  omega
theorem fmod3 (y : Int) : 0 ≤ y.fmod 3 ∧ y.fmod 3 < 3 := ⟨Int.fmod_nonneg_of_pos _ (by decide), Int.fmod_lt_of_pos _ (by decide)⟩
theorem broad_len (f : Int) : (broadOf f).length ≤ 3 := by
  unfold broadOf
  rw [List.length_take]
  exact Nat.min_le_right _ _
theorem broad_small (f : Int) : ∀ r ∈ broadOf f, 0 ≤ r ∧ r < 4 := by
  intro r hr
  have := List.mem_of_mem_take hr
  have h1 := fmod4 (f.fdiv 3)
  have h2 := fmod4 f
  have h3 := fmod4 (f.fdiv 12)
  simp only [List.mem_cons, List.not_mem_nil, or_false] at this
  rcases this with rfl | rfl | rfl <;> omega
theorem lead_bound (f : Int) : Lead (broadOf f) (spareOf f) := Lead.of (broad_len f) (broad_small f) (fmod4 _)
section
variable {w : World} {A : Around} {env : Env} {T : Tr} {g : Heap} {ρ ρ' : List (Str × V)}
theorem law_A {k : Nat} {L : Addr} {rs : V} {script : List Int} {s : Shared} {Q : Flow → Shared → Prop} (F : Fine A (k + 6)) (G : TopH w g) (S : St (lawE L) T g [(Tc.S "script", rs)] s.heap) (hr : rs.asList = some (script.map .int)) (hlen : script.length ≤ 63)
    (done : ∀ bx bd tx td H h' tk, g.get? H = none → TopH w h' → St (lawE L) (T.add H) h' (lawN bx tx H (broadOf ((nums script).getD 0 0)) (spareOf ((nums script).getD 0 0)) ((nums script).drop 1) []) h' → WsH (T.add H) h' bx bd (zOf (broadOf ((nums script).getD 0 0)) (spareOf ((nums script).getD 0 0))) → HdH (T.add H) h' tx td H → Pers (T.add H).m g h' → wpAny (model prg w) A (execs ((fBody (stm 29)).drop 8) (lawE L)) Q NoE { s with heap := h', toks := tk }) :
    wpAny (model prg w) A (execs (fBody (stm 29)) (lawE L)) Q NoE s := by
  have hz : sizeLine = 16777216 := rfl
  have hc6 := cutN_len script
  have hn6 := nums_len script
  refine X.assignCompB (xs := script.take 6) (rep := .int) [] S (fun x => [(Tc.S "x", .d (.int x))]) (fun _ => true) (fun x => .int (x.fmod (10 ^ 6))) (EvIt.list F.han (Ev.cast (EvN.slice (ds := (script.map .int).take 6) (Ev.name rfl) hr .none (.some Ev.int) (by rw [List.length_map]; omega) (pick_upto' (by decide) (by decide))).ev (by rw [List.map_take]))) rfl .nil .nil (fun C D c hc => Tgt.name) (fun C D c hc => .inl ⟨rfl, rfl⟩) (fun C D c hc _ => Ev.bin (Ev.name rfl) (Ev.bin Ev.int Ev.int (Op2.pow (by decide) (by decide))) (Op2.fmod (by decide))) (by rw [List.length_take]; omega) fun h1 tk1 S1 => ?_
  rw [filter_tt] at S1
  have e1 : (script.take 6).map (fun x => PyData.int (x.fmod (10 ^ 6))) = (cutN script).map .int := by unfold cutN; rw [List.map_map]; rfl
  rw [e1] at S1
  refine X.assign (r := .d (il (nums script))) S1 (Ev.cast (EvN.add (Ev.name rfl) rfl (EvN.slice (da := dflts.map .int) (ds := (dflts.map .int).drop (cutN script).length) (EvN.list (ds := dflts.map .int) (.cons Ev.int (.cons Ev.int (.cons Ev.int (.cons Ev.int (.cons Ev.int (.cons Ev.int .nil))))))).ev rfl (.some (EvP.callB (Ev.built G rfl rfl) (.cons (Ev.name rfl) .nil) (Cl.len rfl (by rw [List.length_map]; omega)) fun _ _ => trivial)) .none (by decide) ?_).ev rfl ?_).ev ?_) fun h2 tk2 S2 => ?_
  · intro h T its r
    have := pick_from (da := dflts.map .int) (k := (((cutN script).map PyData.int).length : Nat)) (by omega) (by rw [List.length_map]; show ((cutN script).length : Int) ≤ 6; omega) h T its r
    rw [Int.toNat_natCast, List.length_map] at this
    rw [List.length_map]
    exact this
  · rw [List.length_map, List.length_drop, List.length_map]
    show _ + (6 - _) ≤ _
    omega
  · show PyData.list _ = PyData.list _
    unfold nums
    rw [List.map_append, List.map_drop]
  generalize hfv : (nums script).getD 0 0 = f at done
  have hd0 : ((nums script).map PyData.int)[(0 : Int).toNat]? = some (.int f) := by
    rw [show (0 : Int).toNat = 0 from rfl, List.getElem?_map, ← hfv, List.getD_eq_getElem?_getD, List.getElem?_eq_getElem (by omega)]
    rfl
  refine X.assign S2 (Ev.item (k := 0) (Ev.name rfl) rfl Ev.int (by decide) (by decide) hd0) fun h3 tk3 S3 => ?_
  refine X.assign (r := .d (il ((nums script).drop 1))) S3 (Ev.cast (EvN.slice (da := (nums script).map .int) (ds := ((nums script).map .int).drop 1) (Ev.name rfl) rfl (.some Ev.int) .none (by rw [List.length_map]; omega) (pick_from (k := 1) (by decide) (by rw [List.length_map]; omega))).ev (by show PyData.list _ = PyData.list _; rw [List.map_drop])) fun h4 tk4 S4 => ?_
  have b1 := fmod4 (f.fdiv 3)
  have b2 := fmod3 f
  refine X.assignC (r := .d (il (broadOf f))) S4 ?_ fun h5 tk5 S5 => ?_
  · refine Ev.cast (EvN.ev (EvN.slice (ds := ([.int (3 - (f.fdiv 3).fmod 4), .int (f.fmod 4), .int ((f.fdiv 12).fmod 4)] : List PyData).take (3 - f.fmod 3).toNat) (da := [.int (3 - (f.fdiv 3).fmod 4), .int (f.fmod 4), .int ((f.fdiv 12).fmod 4)]) (EvN.list (ds := [.int (3 - (f.fdiv 3).fmod 4), .int (f.fmod 4), .int ((f.fdiv 12).fmod 4)]) (.cons (Ev.bin Ev.int (Ev.bin (Ev.bin (Ev.name rfl) Ev.int (Op2.fdiv (by decide) (PyProof.noPylong_small (by decide)))) Ev.int (Op2.fmod (by decide))) Op2.sub) (.cons (Ev.bin (Ev.name rfl) Ev.int (Op2.fmod (by decide))) (.cons (Ev.bin (Ev.bin (Ev.name rfl) Ev.int (Op2.fdiv (by decide) (PyProof.noPylong_small (by decide)))) Ev.int (Op2.fmod (by decide))) .nil))) (show 3 ≤ sizeLine by decide)).ev rfl .none (.some (Ev.bin Ev.int (Ev.bin (Ev.name rfl) Ev.int (Op2.fmod (by decide))) Op2.sub)) (show 3 ≤ sizeLine by decide) ?_)) ?_
    · exact pick_upto (k := 3 - f.fmod 3) (by omega) (show 3 - f.fmod 3 ≤ ((3 : Nat) : Int) by omega)
    · show PyData.list _ = PyData.list _
      unfold broadOf
      rw [List.map_take]
      rfl
  refine X.assignC S5 (Ev.bin (Ev.bin (Ev.name rfl) Ev.int (Op2.fdiv (by decide) (PyProof.noPylong_small (by decide)))) Ev.int (Op2.fmod (by decide))) fun h6 tk6 S6 => ?_
  have LB := lead_bound f
  refine X.assignWs (ws := leadS (broadOf f) (spareOf f)) F G S6 (Ev.glob G rfl) ?_ (Nat.le_trans LB.sz (by decide)) fun bx bd h7 tk7 W7 S7 => ?_
  · exact EvP.callD G rfl rfl (Ev.glob G rfl) (.cons (Ev.nameC rfl) (.cons (Ev.nameC rfl) .nil)) (lead_cl F rfl (broad_len f) (broad_small f) (fmod4 _)) fun h S => Wd.of G S
  have S8 := S7.rebase
  have G7 := G.on S7
  refine X.assignHdr F G7 S8 (Ev.glob G7 rfl) (EvN.list (ds := []) .nil) fun tx td H h9 tk9 hHg hHT D9 S9 => ?_
  have W9 : WsH (T.add H) h9 bx bd (zOf (broadOf f) (spareOf f)) := (W7.add hHg).pers S9.pers
  refine done bx bd tx td H h9 tk9 (S7.gnone hHg) (G7.on S9) (S9.rebase.fit ⟨rfl, rfl, rfl, rfl, rfl, trivial⟩) W9 D9 ((S7.pers.more fun b hb => .tail _ hb).trans S9.pers)
end
end Tc
set_option maxHeartbeats 4000000
namespace Tc
open PySem PySem.Calls PyProof.Rows PySem.W
noncomputable def isNought (p : Str × Str) : Bool := p.2 == S "0"
noncomputable def namesOf (tbl : List (Str × Str)) : List Str := (tbl.filter isNought).map (·.1)
noncomputable def bitV (v : Str) : Nat := 2 ^ (4 - ((v.cps[0]?).getD 0 - 48))
noncomputable def rowM (tbl : List (Str × Str)) (nm : Str) : Nat := ((tbl.filter (hits nm)).drop 1).foldl (fun m p => m ||| bitV p.2) 0
structure TblOk (tbl : List (Str × Str)) : Prop where
  len : tbl.length ≤ 100
  nm : ∀ p ∈ tbl, OkName p.1
  val : ∀ nm ∈ namesOf tbl, ∀ p ∈ (tbl.filter (hits nm)).drop 1, ∃ ts ∈ [1, 2, 3, 4], p.2.cps[0]? = some (48 + ts) ∧ p.2.length ≤ 20
theorem bitV_of {v : Str} {ts : Nat} (h : v.cps[0]? = some (48 + ts)) : bitV v = 2 ^ (4 - ts) := by
  unfold bitV
  rw [h]
  show 2 ^ (4 - (48 + ts - 48)) = _
  rw [Nat.add_sub_cancel_left]
theorem bit_ts : ∀ ts ∈ [1, 2, 3, 4], 2 ^ (4 - ts) < 16 ∧ 2 ^ (4 - ((ts : Nat) : Int)).toNat = 2 ^ (4 - ts) ∧ ((ts : Nat) : Int) ∈ ([1, 2, 3, 4] : List Int) ∧ ts < 10 := by decide
theorem names_mem {tbl : List (Str × Str)} {nm : Str} (h : nm ∈ namesOf tbl) : ∃ p ∈ tbl, p.1 = nm := by
  obtain ⟨p, hp, rfl⟩ := List.mem_map.mp h
  exact ⟨p, (List.mem_filter.mp hp).1, rfl⟩
theorem names_hit {tbl : List (Str × Str)} {nm : Str} (h : nm ∈ namesOf tbl) : 1 ≤ (tbl.filter (hits nm)).length := by
  obtain ⟨p, hp, rfl⟩ := names_mem h
  exact List.length_pos_of_mem (List.mem_filter.mpr ⟨hp, beq_self_eq_true _⟩)
noncomputable abbrev rowD (m : Nat) : PyData := il (sz m)
section
variable {w : World} {A : Around} {env : Env} {T : Tr} {g : Heap} {ρ ρ' : List (Str × V)}
theorem Ev.itemsM {k : Nat} {o : Expr} {apos pos : Pos} {x dx H : Addr} {ds : List PyData} (F : Fine A (k + 1)) (G : TopH w g) (W : HdH T g x dx H) (hz : ds.length ≤ 1000) (ho : Ev (model prg w) A env T g ρ o (.t x H ds))
    {pl : Sem Bool} (h1 : eval (.Call (.Attribute o (Tc.S "items") apos) [] [] pos) env = (do
      let ov ← eval o env
      standAt apos.atName
      let (f, first) ← holding [ov] (getMethod ov (Tc.S "items") pl)
      callWith pos f first (backTo pos (starEach [] env)) []) := by rfl) : Ev (model prg w) A env T g ρ (.Call (.Attribute o (Tc.S "items") apos) [] [] pos) (.d (.list ds)) := by
  obtain ⟨as, ⟨es, J, at_⟩, ha, hm⟩ := W.at_
  exact EvP.meth0 G J W.offX.1 W.offD.1 ho (fun _ _ p => p.1) rfl rfl (items_cl F hz) (fun h S => ⟨Wd.of G S, W.pers S.pers⟩) (by rw [at_.get, hm (Tc.S "items") (by decide)]) (by rfl) (by rfl) (by rfl) h1
theorem Ev.getAll {k : Nat} {o e : Expr} {apos pos : Pos} {x dx H : Addr} {hs : List (Str × Str)} {nm : Str} (F : Fine A (k + 2)) (G : TopH w g) (W : HdH T g x dx H) (hn : OkName nm) (hk : ∀ p ∈ hs, OkName p.1) (hz : hs.length ≤ 1000) (ho : Ev (model prg w) A env T g ρ o (.t x H (hs.map hp))) (hE : Ev (model prg w) A env T g ρ e (.d (.str nm)))
    {pl : Sem Bool} (h1 : eval (.Call (.Attribute o (Tc.S "get_all") apos) [e] [] pos) env = (do
      let ov ← eval o env
      standAt apos.atName
      let (f, first) ← holding [ov] (getMethod ov (Tc.S "get_all") pl)
      callWith pos f first (backTo pos (starEach [e] env)) []) := by rfl)
    (he : starEach [e] env = (false, eval e env) :: starEach [] env := by rfl) : Ev (model prg w) A env T g ρ (.Call (.Attribute o (Tc.S "get_all") apos) [e] [] pos) (.d (.list ((hs.filter (hits nm)).map fun p => .str p.2))) := by
  obtain ⟨as, ⟨es, J, at_⟩, ha, hm⟩ := W.at_
  exact EvP.meth G J W.offX.1 W.offD.1 ho (fun _ _ p => p.1) (.cons hE .nil he) rfl rfl (get_all_cl F hn hk hz) (fun h S => ⟨Wd.of G S, W.pers S.pers⟩) (by rw [at_.get, hm (Tc.S "get_all") (by decide)]) (by rfl) (by rfl) (by rfl) h1 he
noncomputable abbrev lawC (a tx H : Addr) (br : List Int) (spr : Int) (ls : List Int) (t : List (Str × Str)) (rows : List Nat) : List (Str × V) := [(Tc.S "lines", .d (il ls)), (Tc.S "broad", .d (il br)), (Tc.S "spare", .d (.int spr)), (Tc.S "table", .t tx H (t.map hp)), (Tc.S "rows", .o a (rows.map rowD))]
theorem law_C {k : Nat} {L bx tx td H : Addr} {br : List Int} {spr : Int} {ls : List Int} {tbl : List (Str × Str)} {s : Shared} {Q : Flow → Shared → Prop} (F : Fine A (k + 6)) (G : TopH w g) (S : St (lawE L) T g (lawN bx tx H br spr ls tbl) s.heap) (HD : HdH T g tx td H) (hT : TblOk tbl)
    (done : ∀ a h' tk, g.get? a = none → T.off a → HdH (T.add a) g tx td H → St (lawE L) (T.add a) g (lawC a tx H br spr ls tbl ((namesOf tbl).map (rowM tbl))) h' → wpAny (model prg w) A (execs ((fBody (stm 29)).drop 12) (lawE L)) Q NoE { s with heap := h', toks := tk }) :
    wpAny (model prg w) A (execs ((fBody (stm 29)).drop 9) (lawE L)) Q NoE s := by
  have hz : sizeLine = 16777216 := rfl
  have hlen := hT.len
  refine X.assignCompB (xs := tbl) (rep := hp) [] S (fun p => [(Tc.S "value", .d (.str p.2)), (Tc.S "name", .d (.str p.1))]) isNought (fun p => .str p.1) (EvIt.list F.han (Ev.itemsM F G HD (by rw [List.length_map]; omega) (Ev.name rfl))) rfl .nil .nil (fun C D p hp => Tgt.pair F.han) (fun C D p hp => .inr ⟨_, rfl, EvB.cmpV (Ev.name rfl) Ev.str Op2.eqS⟩) (fun C D p hp _ => Ev.name rfl) (by omega) fun h1 tk1 S1 => ?_
  have e1 : (tbl.filter isNought).map (fun p => PyData.str p.1) = (namesOf tbl).map .str := by unfold namesOf; rw [List.map_map]; rfl
  rw [e1] at S1
  refine X.assignOwn S1 (EvN.list (ds := []) .nil) fun a h2 tk2 hag haT S2 => ?_
  have D2 := HD.add hag
  have hHT : T.has H := by
    obtain ⟨m, _, kk⟩ := S.ns
    obtain ⟨v, _, y⟩ := kk (Tc.S "table") _ rfl rfl
    exact y.2.1
  have hHa : H ≠ a := fun z => Tr.off_iff.mp haT (z ▸ hHT)
  refine X.forFold (xs := namesOf tbl) (rep := .str) (fun rows nm => rows ++ [rowM tbl nm]) (fun rows => (Tc.S "names", .d (.list ((namesOf tbl).map .str))) :: lawC a tx H br spr ls tbl rows) (fun i rows => rows.length ≤ i) [] S2 ⟨rfl, rfl, rfl, rfl, rfl, rfl, trivial⟩ (Nat.le_refl _) (EvIt.list F.han (Ev.name rfl)) (fun i nm hnm rows g' hI hp' S' => ⟨_, Tgt.name, fun h3 tk3 S3 => ?_⟩) (fun hI h3 tk3 S3 => ?_)
  · have hmem : nm ∈ namesOf tbl := List.mem_of_getElem? hnm
    have hi : i < 100 := by
      have h1 := (List.getElem?_eq_some_iff.mp hnm).1
      have h2 : (namesOf tbl).length ≤ tbl.length := by unfold namesOf; rw [List.length_map]; exact List.length_filter_le _ _
      omega
    have G' : TopH w g' := G.pers S2.high hp'
    have D' := D2.pers hp'
    obtain ⟨p0, hp0, hp0n⟩ := names_mem hmem
    have hok : OkName nm := hp0n ▸ hT.nm p0 hp0
    have hfl : (tbl.filter (hits nm)).length ≤ 100 := Nat.le_trans (List.length_filter_le _ _) hlen
    refine X.assignOwn S3 (EvN.list (ds := []) .nil) fun b h4 tk4 hbg hbT S4 => ?_
    have D4 := D'.add hbg
    have hab : a ≠ b := (Tr.off_add.mp hbT).1.symm
    have hHb : H ≠ b := fun z => Tr.off_iff.mp hbT (Tr.has_add.mpr (.inr (z ▸ hHT)))
    refine X.forFold (xs := (tbl.filter (hits nm)).drop 1) (rep := fun p => .str p.2) (fun m p => m ||| bitV p.2) (fun m => (Tc.S "row", .o b ((sz m).map .int)) :: (Tc.S "name", .d (.str nm)) :: (Tc.S "names", .d (.list ((namesOf tbl).map .str))) :: lawC a tx H br spr ls tbl rows) (fun _ m => m < 16) 0 S4 ⟨rfl, rfl, rfl, rfl, rfl, rfl, rfl, rfl, trivial⟩ (by decide)
      (EvIt.list F.han (Ev.cast (EvN.slice (ds := ((tbl.filter (hits nm)).map fun p => PyData.str p.2).drop 1) (Ev.getAll F G' D4 hok hT.nm (by omega) (Ev.name rfl) (Ev.name rfl)) rfl (.some Ev.int) .none (by rw [List.length_map]; omega) (pick_from (k := 1) (by decide) (by rw [List.length_map]; have := names_hit hmem; omega))).ev (by rw [List.map_drop])))
      (fun j p hpj m g2 hm hp2 S5 => ⟨_, Tgt.name, fun h5 tk5 S6 => ?_⟩) (fun hm h5 tk5 S5 => ?_)
    · obtain ⟨ts, hts, hc, hl⟩ := hT.val nm hmem p (List.mem_of_getElem? hpj)
      obtain ⟨t1, t2, t3, t4⟩ := bit_ts ts hts
      have G2 : TopH w g2 := G'.pers S4.high hp2
      refine X.assign (r := .d (.int (ts : Nat))) S6 (EvP.callT (Ev.built G2 rfl rfl) (.cons (Ev.cast (Ev.itemS (i := 0) (Ev.name rfl) Ev.int hc (by omega)) (congrArg PyData.str (num_one ts t4).symm)) .nil) (Cl.intStr (by omega) (by omega)) fun _ _ => trivial) fun h6 tk6 S7 => ?_
      have hnew := insNew_sz m hm ts t3
      rw [t2, ← bitV_of hc] at hnew
      have hlt : m ||| bitV p.2 < 16 := or_lt _ hm _ (by rw [bitV_of hc]; exact t1)
      refine X.insIfNew (ρ' := (Tc.S "row", .o b ((insNew (sz m) ts).map .int)) :: (Tc.S "name", .d (.str nm)) :: (Tc.S "names", .d (.list ((namesOf tbl).map .str))) :: lawC a tx H br spr ls tbl rows) G2 F (sz_up hm) (sz_lt (b := 0) hm) S7 (Ev.glob G2 rfl) (Ev.glob G2 rfl) (Ev.glob G2 rfl) (fun e he => ?_) (fun e he => ?_) (.head _) ⟨⟨_, rfl, .me⟩, ⟨_, rfl, .d _⟩, ⟨_, rfl, .d _⟩, ⟨_, rfl, .d _⟩, ⟨_, rfl, .d _⟩, ⟨_, rfl, .d _⟩, ⟨_, rfl, .t hHb⟩, ⟨_, rfl, .o hab⟩, trivial⟩ (fun h7 tk7 S8 => ?_) (fun hin h S8 => ?_)
      · simp only [List.mem_cons, List.not_mem_nil, or_false] at he
        rcases he with rfl | rfl | rfl <;> exact Ev.name rfl
      · simp only [List.mem_cons, List.not_mem_nil, or_false] at he
        rcases he with rfl | rfl | rfl <;> exact Ev.name rfl
      · rw [hnew] at S8
        exact ⟨.inl rfl, h7, tk7, rfl, S8, hlt⟩
      · rw [hin]; exact S8.fit ⟨rfl, rfl, rfl, rfl, rfl, rfl, rfl, rfl, trivial⟩
    · have hrow : ((tbl.filter (hits nm)).drop 1).foldl (fun m p => m ||| bitV p.2) 0 = rowM tbl nm := rfl
      rw [hrow] at S5 hm
      have S6 := St.drop (ρ' := (Tc.S "row", .d (rowD (rowM tbl nm))) :: (Tc.S "name", .d (.str nm)) :: (Tc.S "names", .d (.list ((namesOf tbl).map .str))) :: lawC a tx H br spr ls tbl rows) S' S5 hbg hbT ⟨⟨_, rfl, .me⟩, ⟨_, rfl, .d _⟩, ⟨_, rfl, .d _⟩, ⟨_, rfl, .d _⟩, ⟨_, rfl, .d _⟩, ⟨_, rfl, .d _⟩, ⟨_, rfl, .t hHb⟩, ⟨_, rfl, .o hab⟩, trivial⟩
      refine X.append (ρ' := (Tc.S "names", .d (.list ((namesOf tbl).map .str))) :: lawC a tx H br spr ls tbl (rows ++ [rowM tbl nm])) S6 (Ev.name rfl) (Ev.name (r := .d (rowD (rowM tbl nm))) rfl) (.head _) (by rw [List.length_map]; omega) ⟨⟨_, rfl, .d _⟩, ⟨_, rfl, .d _⟩, ⟨_, rfl, .d _⟩, ⟨_, rfl, .d _⟩, ⟨_, rfl, .t hHa⟩, ⟨_, rfl, ?_⟩, trivial⟩ fun h6 tk6 S7 => X.nil ⟨.inl rfl, h6, tk6, rfl, S7, ?_⟩
      · rw [List.map_append]; exact .me
      · rw [List.length_append]; exact Nat.succ_le_succ hI
  · have hfold : ∀ (l : List Str) (acc : List Nat), l.foldl (fun rows nm => rows ++ [rowM tbl nm]) acc = acc ++ l.map (rowM tbl) := by
      intro l
      induction l with
      | nil => intro acc; simp
      | cons x l ih => intro acc; rw [List.foldl_cons, ih, List.append_assoc]; rfl
    rw [hfold, List.nil_append] at S3
    exact done a h3 tk3 hag haT D2 (S3.fit ⟨rfl, rfl, rfl, rfl, rfl, trivial⟩)
end
end Tc
set_option maxHeartbeats 4000000
namespace Tc
open PySem PySem.Calls PyProof.Rows PySem.W
theorem sub_sz : ∀ r < 16, ∀ h < 16, ((sz h).filter (fun s => !(sz r).contains s) == []) = ((r &&& h) == h) := by decide +kernel
theorem and_sz : ∀ mt < 16, ∀ r < 16, (sz mt).filter (fun s => (sz r).contains s) = sz (mt &&& r) := by decide +kernel
theorem full_sz : ∀ m < 16, ((sz m).length == 4) = (m == 15) := by decide +kernel
theorem sz_15 : sz 15 = [1, 2, 3, 4] := by decide +kernel
theorem end_sz {ms : List Nat} (hm : ∀ m ∈ ms, m < 16) {h : Nat} (hh : h < 16) : endOf (ms.map sz) (sz h) = sz (meetOf ms h) := by
  unfold endOf meetOf
  rw [List.foldl_map, ← sz_15]
  suffices ∀ (l : List Nat) (b : Nat), (∀ m ∈ l, m < 16) → b < 16 → l.foldl (fun meet m => if (sz h).filter (fun s => !(sz m).contains s) == [] then meet.filter (fun s => (sz m).contains s) else meet) (sz b) = sz (l.foldl (fun mt mk => if (mk &&& h) == h then mt &&& mk else mt) b) from this ms 15 hm (by decide)
  intro l
  induction l with
  | nil => intro b _ _; rfl
  | cons x l ih =>
    intro b hl hb
    have hx := hl x (.head _)
    rw [List.foldl_cons, List.foldl_cons, sub_sz x hx h hh]
    cases q : (x &&& h) == h with
    | true =>
      rw [if_pos rfl, if_pos rfl, and_sz b hb x hx]
      exact ih _ (fun m hm => hl m (.tail _ hm)) (and_lt _ hb _ hx)
    | false =>
      rw [if_neg Bool.false_ne_true, if_neg Bool.false_ne_true]
      exact ih _ (fun m hm => hl m (.tail _ hm)) hb
noncomputable def addR (ms : List Nat) (rules : List (Nat × Nat)) (m : Nat) : List (Nat × Nat) := if meetOf ms m != m then rules ++ [(m, meetOf ms m)] else rules
noncomputable def gGo (ms : List Nat) : Nat → List (Nat × Nat) → List (Nat × Nat) → Nat → List (Nat × Nat)
  | 0, told, _, _ => told
  | n + 1, told, rules, m => if m == 15 then told ++ [(m, meetOf ms m)] else gGo ms n (told ++ [(m, meetOf ms m)]) (addR ms rules m) (leapGo (addR ms rules m) m sizes4)
theorem leap_lt {rules : List (Nat × Nat)} (h : ∀ r ∈ rules, r.1 < 16 ∧ r.2 < 16) {m : Nat} (hm : m < 16) : ∀ (l : List Int), (∀ x ∈ l, x ∈ sizes4) → leapGo rules m l < 16
  | [], _ => by unfold leapGo; decide
  | x :: l, hl => by
    have ih := leap_lt h hm l fun y hy => hl y (.tail _ hy)
    have hb := (low_bit m hm x (hl x (.head _))).2
    unfold leapGo
    split
    · split
      · exact ledGo_lt h hb
      · exact ih
    · exact ih
section
variable {w : World} {A : Around} {env : Env} {T : Tr} {g : Heap} {ρ ρ' : List (Str × V)}
noncomputable abbrev lawD0 (c tx H : Addr) (br : List Int) (spr : Int) (ls : List Int) (t : List (Str × Str)) (told : List (Nat × Nat)) : List (Str × V) := [(Tc.S "lines", .d (il ls)), (Tc.S "broad", .d (il br)), (Tc.S "spare", .d (.int spr)), (Tc.S "table", .t tx H (t.map hp)), (Tc.S "told", .o c (told.map rl))]
theorem law_D {k : Nat} {L a tx H : Addr} {br : List Int} {spr : Int} {ls : List Int} {tbl : List (Str × Str)} {ms : List Nat} {s : Shared} {Q : Flow → Shared → Prop} (F : Fine A (k + 6)) (G : TopH w g) (S : St (lawE L) T g (lawC a tx H br spr ls tbl ms) s.heap) (hms : ∀ m ∈ ms, m < 16)
    (done : ∀ c d h' tk, g.get? c = none → g.get? d = none → St (lawE L) ((T.add c).add d) g (lawD0 c tx H br spr ls tbl (gGo ms 16 [] [] 0)) h' → wpAny (model prg w) A (execs ((fBody (stm 29)).drop 16) (lawE L)) Q NoE { s with heap := h', toks := tk }) :
    wpAny (model prg w) A (execs ((fBody (stm 29)).drop 12) (lawE L)) Q NoE s := by
  have hz : sizeLine = 16777216 := rfl
  obtain ⟨hHT, haT⟩ : T.has H ∧ T.has a := by
    obtain ⟨m, _, kk⟩ := S.ns
    obtain ⟨v, _, y⟩ := kk (Tc.S "table") _ rfl rfl
    obtain ⟨v2, _, y2⟩ := kk (Tc.S "rows") _ rfl rfl
    exact ⟨y.2.1, y2.2.1⟩
  refine X.assignOwn S (EvN.list (ds := []) .nil) fun c h1 tk1 hcg hcT S1 => ?_
  refine X.assignOwn S1 (EvN.list (ds := []) .nil) fun d h2 tk2 hdg hdT S2 => ?_
  have hHc : H ≠ c := fun z => Tr.off_iff.mp hcT (z ▸ hHT)
  have hac : a ≠ c := fun z => Tr.off_iff.mp hcT (z ▸ haT)
  have hHd : H ≠ d := fun z => Tr.off_iff.mp hdT (Tr.has_add.mpr (.inr (z ▸ hHT)))
  have had : a ≠ d := fun z => Tr.off_iff.mp hdT (Tr.has_add.mpr (.inr (z ▸ haT)))
  have hdc : d ≠ c := (Tr.off_add.mp hdT).1 |>.symm |> fun q => (fun z => q z.symm)
  refine X.assign (r := .d (il (sz 0))) S2 (EvN.list (ds := []) .nil).ev fun h3 tk3 S3 => ?_
  let NM : List (Nat × Nat) → List (Nat × Nat) → Nat → List (Str × V) := fun told rules m => (Tc.S "rows", .o a (ms.map rowD)) :: (Tc.S "rules", .o d (rules.map rl)) :: (Tc.S "held", .d (il (sz m))) :: lawD0 c tx H br spr ls tbl told
  refine X.forG (xs := List.range 16) (rep := fun (n : Nat) => PyData.int (n : Int)) (fun i ρ' => ∃ told rules m, ρ' = NM told rules m ∧ m < 16 ∧ (∀ r ∈ rules, r.1 < 16 ∧ r.2 < 16) ∧ told.length ≤ i ∧ rules.length ≤ i ∧ gGo ms (16 - i) told rules m = gGo ms 16 [] [] 0) (fun ρ' => ∃ told rules m, ρ' = NM told rules m ∧ told = gGo ms 16 [] [] 0) (S3.fit (l := NM [] [] 0) ⟨rfl, rfl, rfl, rfl, rfl, rfl, rfl, rfl, trivial⟩) ⟨[], [], 0, rfl, by decide, (fun r hr => absurd hr List.not_mem_nil), Nat.le_refl _, Nat.le_refl _, rfl⟩
    (EvIt.comap (f := fun (n : Nat) => (n : Int)) (EvIt.range1 F.han (Ev.built G rfl rfl) Ev.int rfl (by decide))) (fun i hi ρ' g' hR hp' S' => ?_) (fun ρ' h4 tk4 hR S4 => ?_)
  · obtain ⟨told, rules, m, rfl, hm, hr, ht1, ht2, hgo⟩ := hR
    rw [List.length_range] at hi
    have G' : TopH w g' := G.pers S3.high hp'
    have hml := sz_len hm
    refine ⟨_, Tgt.name, fun h4 tk4 S4 => ?_⟩
    generalize hme : meetOf ms m = e
    have he16 : e < 16 := hme ▸ meetOf_lt hms m
    have hel := sz_len he16
    refine X.assign (r := .d (il (sz e))) S4 (Ev.cast (EvP.callD G' rfl rfl (Ev.glob G' rfl) (.cons (Ev.name rfl) (.cons (Ev.name rfl) .nil)) (end_cl (rows := ms.map sz) F (by show some _ = some _; rw [List.map_map]; rfl) rfl (by omega)) fun h S => Wd.of G' S) (by rw [end_sz hms hm, hme])) fun h5 tk5 S5 => ?_
    refine X.append (ρ' := (Tc.S "end", .d (il (sz e))) :: NM (told ++ [(m, e)]) rules m) S5 (Ev.name rfl) (Ev.tuple (ds := [il (sz m), il (sz e)]) (.cons (Ev.name rfl) (.cons (Ev.name rfl) .nil)) (show 2 ≤ sizeLine by decide)) (.tail _ (.head _)) (by rw [List.length_map]; omega) ⟨⟨_, rfl, .d _⟩, ⟨_, rfl, .o hac⟩, ⟨_, rfl, .o hdc⟩, ⟨_, rfl, .d _⟩, ⟨_, rfl, .d _⟩, ⟨_, rfl, .d _⟩, ⟨_, rfl, .d _⟩, ⟨_, rfl, .t hHc⟩, ⟨_, rfl, ?_⟩, trivial⟩ fun h6 tk6 S6 => ?_
    · rw [List.map_append]; exact .me
    have hneq : (!(sz e == sz m)) = (e != m) := by
      rw [bne]
      cases q : (e == m) with
      | true => rw [eq_of_beq q]; simp
      | false =>
        have : (sz e == sz m) = false := beq_eq_false_iff_ne.mpr fun z => beq_eq_false_iff_ne.mp q (sz_inj e he16 m hm z)
        rw [this]
    have hR' : ∀ r ∈ addR ms rules m, r.1 < 16 ∧ r.2 < 16 := fun r hr' => by
      unfold addR at hr'
      rw [hme] at hr'
      split at hr'
      · rcases List.mem_append.mp hr' with h | h
        · exact hr r h
        · rw [List.mem_singleton.mp h]; exact ⟨hm, he16⟩
      · exact hr r hr'
    have hRl : (addR ms rules m).length ≤ i + 1 := by
      unfold addR
      split
      · rw [List.length_append]; exact Nat.succ_le_succ ht2
      · omega
    refine X.iteN (c := (e != m)) (ρ' := NM (told ++ [(m, e)]) (addR ms rules m) m) S6 (EvB.cast (EvB.cmpV (Ev.name rfl) (Ev.name rfl) (Op2.neI F)) hneq) (fun hc h7 tk7 S7 => ?_) (fun hc h7 tk7 S7 => ?_) fun h7 tk7 S7 => ?_
    · have ha : addR ms rules m = rules ++ [(m, e)] := by unfold addR; rw [hme, if_pos hc]
      rw [ha]
      refine X.append (ρ' := NM (told ++ [(m, e)]) (rules ++ [(m, e)]) m) S7 (Ev.name rfl) (Ev.tuple (ds := [il (sz m), il (sz e)]) (.cons (Ev.name rfl) (.cons (Ev.name rfl) .nil)) (show 2 ≤ sizeLine by decide)) (.head _) (by rw [List.length_map]; omega) ⟨⟨_, rfl, .o had⟩, ⟨_, rfl, ?_⟩, ⟨_, rfl, .d _⟩, ⟨_, rfl, .d _⟩, ⟨_, rfl, .d _⟩, ⟨_, rfl, .d _⟩, ⟨_, rfl, .t hHd⟩, ⟨_, rfl, .o hdc.symm⟩, trivial⟩ fun h8 tk8 S8 => X.nil ⟨rfl, h8, tk8, rfl, S8⟩
      rw [List.map_append]; exact .me
    · have ha : addR ms rules m = rules := by unfold addR; rw [hme, hc]; rfl
      rw [ha]
      exact X.nil ⟨rfl, h7, tk7, rfl, S7.fit ⟨rfl, rfl, rfl, rfl, rfl, rfl, rfl, rfl, trivial⟩⟩
    have hstep : gGo ms (16 - i) told rules m = if m == 15 then told ++ [(m, e)] else gGo ms (16 - (i + 1)) (told ++ [(m, e)]) (addR ms rules m) (leapGo (addR ms rules m) m sizes4) := by
      obtain ⟨q, hq⟩ : ∃ q, 16 - i = q + 1 := ⟨15 - i, by omega⟩
      rw [hq, gGo, hme, show 16 - (i + 1) = q from by omega]
    refine X.ite (c := (m == 15)) S7 (EvB.cast (EvB.cmpV (EvP.callB (Ev.built G' rfl rfl) (.cons (Ev.name rfl) .nil) (Cl.len (r := .d (il (sz m))) rfl (by rw [List.length_map]; omega)) fun _ _ => trivial) Ev.int Op2.eq) (by rw [List.length_map, ← full_sz m hm]; exact beq_cast _ 4)) (fun hc h8 tk8 S8 => ?_) (fun hc h8 tk8 S8 => ?_)
    · refine X.cons (wpAny_Break ?_)
      refine ⟨h8, tk8, _, rfl, S8, _, _, _, rfl, ?_⟩
      rw [← hgo, hstep, hc, if_pos rfl]
    · refine X.nil (X.assign (r := .d (il (sz (leapGo (addR ms rules m) m sizes4)))) S8 (EvP.callD G' rfl rfl (Ev.glob G' rfl) (.cons (Ev.name rfl) (.cons (Ev.name rfl) .nil)) (leap_cl F rfl hR' rfl hm) fun h S => Wd.of G' S) fun h9 tk9 S9 => X.nil ⟨h9, tk9, NM (told ++ [(m, e)]) (addR ms rules m) (leapGo (addR ms rules m) m sizes4), rfl, S9.fit ⟨rfl, rfl, rfl, rfl, rfl, rfl, rfl, rfl, trivial⟩, _, _, _, rfl, leap_lt hR' hm _ (fun _ h => h), hR', ?_, hRl, ?_⟩)
      · rw [List.length_append]; exact Nat.succ_le_succ ht1
      · rw [← hgo, hstep, hc, if_neg Bool.false_ne_true]
  · rcases hR with ⟨told, rules, m, rfl, hm, hr, ht1, ht2, hgo⟩ | ⟨told, rules, m, rfl, hgo⟩
    · rw [List.length_range, show 16 - 16 = 0 from rfl] at hgo
      have : told = gGo ms 16 [] [] 0 := hgo
      rw [← this] at done
      exact done c d h4 tk4 hcg hdg (S4.fit ⟨rfl, rfl, rfl, rfl, rfl, trivial⟩)
    · rw [← hgo] at done
      exact done c d h4 tk4 hcg hdg (S4.fit ⟨rfl, rfl, rfl, rfl, rfl, trivial⟩)
end
end Tc
set_option maxHeartbeats 4000000
namespace Tc
open PySem PySem.Calls PyProof.Rows PySem.W
theorem maxL_spec : ∀ {l : List Int}, l ≠ [] → maxL l ∈ l ∧ ∀ x ∈ l, x ≤ maxL l
  | [], h => absurd rfl h
  | d :: l, _ => by
    have go : ∀ (l : List Int) (d : Int), (l.foldl max d = d ∨ l.foldl max d ∈ l) ∧ d ≤ l.foldl max d ∧ ∀ x ∈ l, x ≤ l.foldl max d := by
      intro l
      induction l with
      | nil => intro d; exact ⟨.inl rfl, Int.le_refl _, fun x hx => nomatch hx⟩
      | cons y l ih =>
        intro d
        obtain ⟨a, b, c⟩ := ih (max d y)
        rw [List.foldl_cons]
        refine ⟨?_, by omega, fun x hx => ?_⟩
        · rcases a with a | a
          · rcases Int.le_total d y with h | h
            · exact .inr (by rw [a, Int.max_eq_right h]; exact .head _)
            · exact .inl (by rw [a, Int.max_eq_left h])
          · exact .inr (.tail _ a)
        · rcases List.mem_cons.mp hx with rfl | hx
          · omega
          · exact c x hx
    obtain ⟨a, b, c⟩ := go l d
    refine ⟨?_, fun x hx => ?_⟩
    · rcases a with a | a
      · show l.foldl max d ∈ _; rw [a]; exact .head _
      · exact .tail _ a
    · rcases List.mem_cons.mp hx with rfl | hx
      · exact b
      · exact c x hx
theorem maxL_join (br runs : List Int) (spr beh : Int) : maxL (br ++ [spr, beh] ++ runs) = max (maxL (beh :: runs)) (maxL (spr :: br)) := by
  obtain ⟨a1, a2⟩ := maxL_spec (l := br ++ [spr, beh] ++ runs) (by simp)
  obtain ⟨b1, b2⟩ := maxL_spec (l := beh :: runs) (by simp)
  obtain ⟨c1, c2⟩ := maxL_spec (l := spr :: br) (by simp)
  have h1 : maxL (beh :: runs) ≤ maxL (br ++ [spr, beh] ++ runs) := a2 _ (by
    rcases List.mem_cons.mp b1 with h | h
    · rw [h]; simp
    · simp [h])
  have h2 : maxL (spr :: br) ≤ maxL (br ++ [spr, beh] ++ runs) := a2 _ (by
    rcases List.mem_cons.mp c1 with h | h
    · rw [h]; simp
    · simp [h])
  have h3 : maxL (br ++ [spr, beh] ++ runs) ≤ max (maxL (beh :: runs)) (maxL (spr :: br)) := by
    simp only [List.mem_append, List.mem_cons, List.not_mem_nil, or_false] at a1
    rcases a1 with (h | h | h) | h
    · have := c2 _ (.tail _ h); omega
    · have := c2 spr (.head _); omega
    · have := b2 beh (.head _); omega
    · have := b2 _ (.tail _ h); omega
  omega
/-- entries, kinds, masks -/
structure En where
  es : List (Str × Str)
  ks : List Nat
  ms : List Nat
noncomputable def En.open_ (st : En) (nm : Str) (i : Nat) : En := if st.ks.contains i then st else ⟨st.es ++ [(nm, S "0")], st.ks ++ [i], st.ms ++ [0]⟩
noncomputable def En.tell (zb : Ws) (nm : Str) (z : Ws) (i : Nat) (st : En) (j : Nat) : En :=
  if inOf z (j + 1) ≥ inOf zb (j + 1) then ⟨st.es ++ [(nm, valS (j + 1) (inOf z (j + 1)) (inOf zb (j + 1)))], st.ks, st.ms.set (st.ks.idxOf i) (st.ms.getD (st.ks.idxOf i) 0 ||| 2 ^ (4 - (j + 1)))⟩ else st
noncomputable def enStep (zb : Ws) (ls : List Int) (st : En) (k : Nat) : En :=
  (List.range (nlwN (zx (ls.getD k 0)) zb)).foldl (En.tell zb (nmOf k (kd (ls.getD k 0))) (zx (ls.getD k 0)) (kd (ls.getD k 0))) (st.open_ (nmOf k (kd (ls.getD k 0))) (kd (ls.getD k 0)))
noncomputable def kl (l : List Nat) : List Int := l.map fun (n : Nat) => (n : Int)
theorem kl_nl (l : List Nat) : (kl l).map PyData.int = nl l := by unfold kl nl; rw [List.map_map]; rfl
theorem kl_idx (l : List Nat) (k : Nat) : (kl l).idxOf (k : Int) = l.idxOf k := by
  unfold kl
  induction l with
  | nil => rfl
  | cons x l ih =>
    rw [List.map_cons, List.idxOf_cons, List.idxOf_cons, ih, beq_cast]
theorem kl_mem {l : List Nat} {k : Nat} : (k : Int) ∈ kl l ↔ k ∈ l := by
  unfold kl
  rw [List.mem_map]
  exact ⟨fun ⟨x, hx, e⟩ => Int.ofNat_inj.mp e ▸ hx, fun h => ⟨k, h, rfl⟩⟩
theorem kl_has (l : List Nat) (k : Nat) : (kl l).contains (k : Int) = l.contains k := by
  rw [Bool.eq_iff_iff, List.contains_iff_mem, List.contains_iff_mem, kl_mem]
/-- what keeps of the three -/
structure EnOk (i : Nat) (st : En) : Prop where
  len : st.ks.length = st.ms.length
  kl4 : st.ks.length ≤ i
  k4 : ∀ k ∈ st.ks, k < 4
  m16 : ∀ m ∈ st.ms, m < 16
theorem open_ok {i : Nat} {st : En} (h : EnOk i st) (nm : Str) {k : Nat} (hk : k < 4) : EnOk (i + 1) (st.open_ nm k) ∧ k ∈ (st.open_ nm k).ks := by
  unfold En.open_
  split
  · rename_i q
    exact ⟨⟨h.len, Nat.le_succ_of_le h.kl4, h.k4, h.m16⟩, List.contains_iff_mem.mp q⟩
  · refine ⟨⟨?_, ?_, fun x hx => ?_, fun x hx => ?_⟩, List.mem_append_right _ (.head _)⟩
    · show (st.ks ++ [k]).length = (st.ms ++ [0]).length
      rw [List.length_append, List.length_append, h.len]; rfl
    · show (st.ks ++ [k]).length ≤ _
      rw [List.length_append]; exact Nat.succ_le_succ h.kl4
    · rcases List.mem_append.mp hx with hx | hx
      · exact h.k4 x hx
      · rw [List.mem_singleton.mp hx]; exact hk
    · rcases List.mem_append.mp hx with hx | hx
      · exact h.m16 x hx
      · rw [List.mem_singleton.mp hx]; decide
theorem getD_lt {l : List Nat} (h : ∀ m ∈ l, m < 16) (i : Nat) : l.getD i 0 < 16 := by
  rw [List.getD_eq_getElem?_getD]
  cases q : l[i]? with
  | none => exact Nat.zero_lt_succ _
  | some m => exact h m (List.mem_of_getElem? q)
theorem tell_ok {i : Nat} {st : En} (h : EnOk i st) (zb : Ws) (nm : Str) (z : Ws) (k j : Nat) (hj : j < 4) : EnOk i (st.tell zb nm z k j) ∧ (st.tell zb nm z k j).ks = st.ks := by
  unfold En.tell
  split
  · refine ⟨⟨?_, h.kl4, h.k4, fun x hx => ?_⟩, rfl⟩
    · show _ = (st.ms.set _ _).length
      rw [List.length_set]; exact h.len
    · rcases List.mem_or_eq_of_mem_set hx with hx | hx
      · exact h.m16 x hx
      · rw [hx]
        have : ∀ j < 4, 2 ^ (4 - (j + 1)) < 16 := by decide
        exact or_lt _ (getD_lt h.m16 _) _ (this j hj)
  · exact ⟨h, rfl⟩
theorem col_nat {runs : List Int} {b : Int} (LL : Lead runs b) {j : Nat} (hj : j < 4) : colOf runs b (1 + (j : Nat) : Int) = (inOf (zOf runs b) (j + 1) : Nat) ∧ inOf (zOf runs b) (j + 1) ≤ 30 := by
  have : ∀ j < 4, j + 1 ∈ [1, 2, 3, 4] := by decide
  have := LL.col (j + 1) (this j hj)
  rw [show (1 + (j : Nat) : Int) = ((j + 1 : Nat) : Int) from by omega]
  exact ⟨this.1.symm, this.2⟩
theorem nlwN_max {br runs : List Int} {spr beh : Int} (L1 : Lead runs beh) (L2 : Lead br spr) : ((nlwN (zOf runs beh) (zOf br spr) : Nat) : Int) = maxL (br ++ [spr, beh] ++ runs) + 1 := by
  have h1 := lrOf_bd (z := zOf runs beh) (Nat.le_trans L1.cl (by decide)) (Nat.le_trans L1.bs (by decide))
  have h2 := lrOf_bd (z := zOf br spr) (Nat.le_trans L2.cl (by decide)) (Nat.le_trans L2.bs (by decide))
  rw [maxL_join, ← L1.lr, ← L2.lr]
  unfold nlwN
  omega
noncomputable def meants : PyData := .list [.list [.str (S "ss"), .str (S "fi"), .str (S "st"), .str (S "ff")], .list [.str (S "SS"), .str (S "FI"), .str (S "ST"), .str (S "FF")]]
theorem meants_at (n : Nat) {i : Nat} (hi : i < 4) : ∃ row, [PyData.list [.str (S "ss"), .str (S "fi"), .str (S "st"), .str (S "ff")], .list [.str (S "SS"), .str (S "FI"), .str (S "ST"), .str (S "FF")]][((n : Nat) : Int).fmod 2 |>.toNat]? = some (.list row) ∧ row[i]? = some (.str (nmOf n i)) := by
  have h2 : ((n : Nat) : Int).fmod 2 = ((n % 2 : Nat) : Int) := by rw [Int.fmod_eq_emod_of_nonneg _ (by decide)]; omega
  rw [h2, Int.toNat_natCast]
  unfold nmOf
  by_cases e : n % 2 = 1
  · rw [e, if_pos rfl]
    refine ⟨_, rfl, ?_⟩
    match i, hi with
    | 0, _ => rfl
    | 1, _ => rfl
    | 2, _ => rfl
    | 3, _ => rfl
  · have e0 : n % 2 = 0 := by omega
    rw [e0, if_neg (by decide)]
    refine ⟨_, rfl, ?_⟩
    match i, hi with
    | 0, _ => rfl
    | 1, _ => rfl
    | 2, _ => rfl
    | 3, _ => rfl
end Tc
set_option maxHeartbeats 4000000
namespace Tc
open PySem PySem.Calls PyProof.Rows PySem.W
theorem colOf_int {br : List Int} {spr : Int} (LB : Lead br spr) : ([1, 2, 3, 4] : List Int).map (fun s => PyData.int (colOf br spr s)) = nl ((List.range 4).map fun j => inOf (zOf br spr) (j + 1)) := by
  have h : ∀ j < 4, colOf br spr (1 + (j : Nat) : Int) = (inOf (zOf br spr) (j + 1) : Nat) := fun j hj => (col_nat LB hj).1
  have h0 := h 0 (by decide)
  have h1 := h 1 (by decide)
  have h2 := h 2 (by decide)
  have h3 := h 3 (by decide)
  show [PyData.int (colOf br spr 1), PyData.int (colOf br spr 2), PyData.int (colOf br spr 3), PyData.int (colOf br spr 4)] = _
  rw [show colOf br spr 1 = _ from h0, show colOf br spr 2 = _ from h1, show colOf br spr 3 = _ from h2, show colOf br spr 4 = _ from h3]
  rfl
theorem fmod2 (y : Int) : 0 ≤ y.fmod 2 ∧ y.fmod 2 < 2 := ⟨Int.fmod_nonneg_of_pos _ (by decide), Int.fmod_lt_of_pos _ (by decide)⟩
noncomputable def forBody : Stmt → List Stmt
  | .For _ _ b _ _ => b
  | _ => []
noncomputable def bodyE : List Stmt := forBody (((fBody (stm 29))[20]?).getD (.Pass default))
theorem meant_head : ∃ e1 e2 e3 p q r pos, bodyE.drop 3 = .Assign [.Name (S "meant") p] (.Subscript (.Subscript e1 e2 q) e3 r) pos :: bodyE.drop 4 ∧ lit e1 = some meants ∧ (∃ o c p1 p2, e2 = .BinOp (.Name (S "k") p1) .Mod (.Constant (.int 2) o c) p2) ∧ (∃ p1, e3 = .Name (S "kind") p1) ∧ ∀ env, swapsWith (.Subscript (.Subscript e1 e2 q) e3 r) (some (.Name (S "meant") p)) pos.line env = pure false :=
  ⟨_, _, _, _, _, _, _, rfl, by rfl, ⟨_, _, _, _, rfl⟩, ⟨_, rfl⟩, fun _ => by rfl⟩
section
variable {w : World} {A : Around} {env : Env} {T : Tr} {g : Heap} {ρ ρ' : List (Str × V)}
noncomputable abbrev lawE0 (e1 e2 e3 c tx H : Addr) (br : List Int) (spr : Int) (ls : List Int) (t : List (Str × Str)) (told : List (Nat × Nat)) (zb : Ws) (st : En) : List (Str × V) := (Tc.S "entries", .o e1 (st.es.map hp)) :: (Tc.S "kinds", .o e2 (nl st.ks)) :: (Tc.S "masks", .o e3 (nl st.ms)) :: (Tc.S "due", .d (.list (nl ((List.range 4).map fun j => inOf zb (j + 1))))) :: lawD0 c tx H br spr ls t told
theorem law_E {k : Nat} {L c tx H : Addr} {br : List Int} {spr : Int} {ls : List Int} {tbl : List (Str × Str)} {told : List (Nat × Nat)} {s : Shared} {Q : Flow → Shared → Prop} (F : Fine A (k + 6)) (G : TopH w g) (S : St (lawE L) T g (lawD0 c tx H br spr ls tbl told) s.heap) (LB : Lead br spr) (hbl : br.length ≤ 3) (hbs : ∀ r ∈ br, 0 ≤ r ∧ r < 4) (hls : ls.length ≤ 10)
    (done : ∀ e1 e2 e3 h' tk, g.get? e1 = none → g.get? e2 = none → g.get? e3 = none → St (lawE L) (((T.add e1).add e2).add e3) g (lawE0 e1 e2 e3 c tx H br spr ls tbl told (zOf br spr) ((List.range ls.length).foldl (enStep (zOf br spr) ls) ⟨[], [], []⟩)) h' → EnOk ls.length ((List.range ls.length).foldl (enStep (zOf br spr) ls) ⟨[], [], []⟩) → wpAny (model prg w) A (execs ((fBody (stm 29)).drop 21) (lawE L)) Q NoE { s with heap := h', toks := tk }) :
    wpAny (model prg w) A (execs ((fBody (stm 29)).drop 16) (lawE L)) Q NoE s := by
  have hz : sizeLine = 16777216 := rfl
  obtain ⟨hHT, hcT⟩ : T.has H ∧ T.has c := by
    obtain ⟨m, _, kk⟩ := S.ns
    obtain ⟨v, _, y⟩ := kk (Tc.S "table") _ rfl rfl
    obtain ⟨v2, _, y2⟩ := kk (Tc.S "told") _ rfl rfl
    exact ⟨y.2.1, y2.2.1⟩
  refine X.assignOwn S (EvN.list (ds := []) .nil) fun e1 h1 tk1 g1 o1 S1 => ?_
  refine X.assignOwn S1 (EvN.list (ds := []) .nil) fun e2 h2 tk2 g2 o2 S2 => ?_
  refine X.assignOwn S2 (EvN.list (ds := []) .nil) fun e3 h3 tk3 g3 o3 S3 => ?_
  have has1 : ∀ {b}, T.has b → b ≠ e1 := fun hb z => Tr.off_iff.mp o1 (z ▸ hb)
  have has2 : ∀ {b}, (T.add e1).has b → b ≠ e2 := fun hb z => Tr.off_iff.mp o2 (z ▸ hb)
  have has3 : ∀ {b}, ((T.add e1).add e2).has b → b ≠ e3 := fun hb z => Tr.off_iff.mp o3 (z ▸ hb)
  have up1 : ∀ {b}, T.has b → (T.add e1).has b := fun h => Tr.has_add.mpr (.inr h)
  have up2 : ∀ {b}, (T.add e1).has b → ((T.add e1).add e2).has b := fun h => Tr.has_add.mpr (.inr h)
  have n12 : e1 ≠ e2 := has2 (Tr.has_add.mpr (.inl rfl))
  have n13 : e1 ≠ e3 := has3 (up2 (Tr.has_add.mpr (.inl rfl)))
  have n23 : e2 ≠ e3 := has3 (Tr.has_add.mpr (.inl rfl))
  have H1 := has1 hHT
  have H2 := has2 (up1 hHT)
  have H3 := has3 (up2 (up1 hHT))
  have c1 := has1 hcT
  have c2 := has2 (up1 hcT)
  have c3 := has3 (up2 (up1 hcT))
  have hbs' : ∀ r ∈ br, 0 ≤ r ∧ r < 100 := fun r hr => by have := hbs r hr; omega
  refine X.assignCompB (xs := ([1, 2, 3, 4] : List Int)) (rep := .int) [(Tc.S "broad", .d (il br)), (Tc.S "spare", .d (.int spr))] S3 (fun s => [(Tc.S "size", .d (.int s))]) (fun _ => true) (fun s => .int (colOf br spr s)) (EvIt.range2 F.han (Ev.built G rfl rfl) Ev.int Ev.int range_1_5.symm (by decide)) rfl (.cons rfl (.cons rfl .nil)) (.cons rfl rfl (.cons rfl rfl .nil)) (fun C D s hs => Tgt.name) (fun C D s hs => .inl ⟨rfl, rfl⟩) (fun C D s hs _ => EvP.callD G rfl rfl (Ev.glob G rfl) (.cons (Ev.nameC rfl) (.cons (Ev.nameC rfl) (.cons (Ev.name rfl) .nil))) (column_cl F rfl (by omega) (by
    simp only [List.mem_cons, List.not_mem_nil, or_false] at hs
    rcases hs with rfl | rfl | rfl | rfl <;> decide) hbs') fun h S => Wd.of G S) (by decide) fun h4 tk4 S4 => ?_
  rw [filter_tt, colOf_int LB] at S4
  refine X.forFold (xs := List.range ls.length) (rep := fun (n : Nat) => PyData.int (n : Int)) (enStep (zOf br spr) ls) (lawE0 e1 e2 e3 c tx H br spr ls tbl told (zOf br spr)) (fun i st => EnOk i st ∧ st.es.length ≤ 5 * i) ⟨[], [], []⟩ S4 ⟨rfl, rfl, rfl, rfl, rfl, rfl, rfl, rfl, rfl, trivial⟩ ⟨⟨rfl, Nat.le_refl _, (fun k hk => absurd hk List.not_mem_nil), (fun k hk => absurd hk List.not_mem_nil)⟩, Nat.le_refl _⟩ ?_ (fun i n hn st g' hI hp' S' => ⟨_, Tgt.name, fun h5 tk5 S5 => ?_⟩) (fun hI h5 tk5 S5 => ?_)
  · refine EvIt.comap (f := fun (n : Nat) => (n : Int)) (EvIt.range1 F.han (Ev.built G rfl rfl) (EvP.callB (Ev.built G rfl rfl) (.cons (Ev.name rfl) .nil) (Cl.len rfl (by rw [List.length_map]; omega)) fun _ _ => trivial) ?_ ?_)
    · rw [List.length_map]; rfl
    · exact range_small (by omega) (by omega) (by omega) (by rw [List.length_map]; omega)
  · have hn' : n < ls.length := List.mem_range.mp (List.mem_of_getElem? hn)
    have hi : i < 10 := by
      have := (List.getElem?_eq_some_iff.mp hn).1
      rw [List.length_range] at this
      omega
    have G' : TopH w g' := G.pers S4.high hp'
    generalize hx : ls.getD n 0 = x
    have hd : (ls.map PyData.int)[((n : Nat) : Int).toNat]? = some (.int x) := by
      rw [Int.toNat_natCast, List.getElem?_map, List.getElem?_eq_getElem hn', ← hx, List.getD_eq_getElem?_getD, List.getElem?_eq_getElem hn']
      rfl
    have itm : ∀ {ρ0 : List (Str × V)} {p q r : Pos} {T0 : Tr}, ρ0.lookup (Tc.S "lines") = some (.d (il ls)) → ρ0.lookup (Tc.S "k") = some (.d (.int (n : Nat))) → Ev (model prg w) A (lawE L) T0 g' ρ0 (.Subscript (.Name (Tc.S "lines") p) (.Name (Tc.S "k") q) r) (.d (.int x)) := fun e1 e2 => Ev.item (Ev.name e1) rfl (Ev.name e2) (by omega) (by omega) hd
    have LL := lead_line x
    have hx4 := kd_lt x
    have hkx : x.fmod 4 = ((kd x : Nat) : Int) := by have := fmod4 x; unfold kd; omega
    refine X.assign (r := .d (.int (kd x : Nat))) S5 (Ev.cast (Ev.bin (itm rfl rfl) Ev.int (Op2.fmod (by decide))) (congrArg PyData.int hkx)) fun h6 tk6 S6 => ?_
    refine X.assignC (r := .d (il (runsOf x))) S6 (EvP.callD G' rfl rfl (Ev.glob G' rfl) (.cons (itm rfl rfl) .nil) (runs_cl F) fun h S => Wd.of G' S) fun h7 tk7 S7 => ?_
    refine X.assignC (r := .d (.int (behOf x))) S7 (Ev.bin (Ev.bin (itm rfl rfl) Ev.int (Op2.fdiv (by decide) (PyProof.noPylong_small (by decide)))) Ev.int (Op2.fmod (by decide))) fun h8 tk8 S8 => ?_
    obtain ⟨row, hr1, hr2⟩ := meants_at n hx4
    have f2 := fmod2 (n : Int)
    obtain ⟨m1, m2, m3, mp, mq, mr, mpos, mh, ml, ⟨_, _, _, _, rfl⟩, ⟨_, rfl⟩, ms⟩ := meant_head
    show wpAny _ _ (execs (bodyE.drop 3) _) _ _ _
    rw [mh]
    refine X.assign (r := .d (.str (nmOf n (kd x)))) S8 (Ev.item (r := .d (.list row)) (k := ((kd x : Nat) : Int)) (Ev.item (r := .d meants) (k := ((n : Nat) : Int).fmod 2) (lit_ev m1 meants ml) rfl (Ev.bin (Ev.name rfl) Ev.int (Op2.fmod (by decide))) f2.1 (by omega) hr1) rfl (Ev.name rfl) (by omega) (by omega) (by rw [Int.toNat_natCast]; exact hr2)) (fun h9 tk9 S9 => ?_) rfl (ms _)
    generalize hnm : nmOf n (kd x) = nm at S9
    generalize hkd : kd x = kx at S9 hx4
    generalize hzb : zOf br spr = zb at S9
    obtain ⟨hI1, hI2⟩ := hI
    let NE : En → List (Str × V) := fun st => (Tc.S "kind", .d (.int (kx : Nat))) :: (Tc.S "meant", .d (.str nm)) :: (Tc.S "runs", .d (il (runsOf x))) :: (Tc.S "behind", .d (.int (behOf x))) :: lawE0 e1 e2 e3 c tx H br spr ls tbl told zb st
    have S10 := S9.fit (l := NE st) ⟨rfl, rfl, rfl, rfl, rfl, rfl, rfl, rfl, rfl, rfl, rfl, rfl, rfl, trivial⟩
    obtain ⟨hO, hOk⟩ := open_ok hI1 nm hx4
    have hOl : (st.open_ nm kx).es.length ≤ 5 * i + 1 := by
      unfold En.open_
      split
      · omega
      · show (st.es ++ [_]).length ≤ _
        rw [List.length_append]; exact Nat.succ_le_succ hI2
    have hml := hI1.len
    have hkl := hI1.kl4
    refine X.iteN (c := !(kl st.ks).contains ((kx : Nat) : Int)) (ρ' := NE (st.open_ nm kx)) S10 (EvB.cmpV (Ev.name rfl) (Ev.name rfl) (Op2.notInI F (by show some (nl _) = _; rw [kl_nl]))) (fun hc h10 tk10 S11 => ?_) (fun hc h10 tk10 S11 => ?_) fun h10 tk10 S11 => ?_
    · rw [kl_has, Bool.not_eq_true'] at hc
      have ho : st.open_ nm kx = ⟨st.es ++ [(nm, Tc.S "0")], st.ks ++ [kx], st.ms ++ [0]⟩ := by unfold En.open_; rw [hc]; rfl
      rw [ho]
      refine X.append (ρ' := NE ⟨st.es, st.ks ++ [kx], st.ms⟩) S11 (Ev.name rfl) (Ev.name (r := .d (.int (kx : Nat))) rfl) (.tail _ (.head _)) (by rw [nl_length]; omega) ⟨⟨_, rfl, .d _⟩, ⟨_, rfl, .d _⟩, ⟨_, rfl, .d _⟩, ⟨_, rfl, .d _⟩, ⟨_, rfl, .o n12⟩, ⟨_, rfl, ?_⟩, ⟨_, rfl, .o n23.symm⟩, ⟨_, rfl, .d _⟩, ⟨_, rfl, .d _⟩, ⟨_, rfl, .d _⟩, ⟨_, rfl, .d _⟩, ⟨_, rfl, .t H2⟩, ⟨_, rfl, .o c2⟩, trivial⟩ fun h11 tk11 S12 => ?_
      · show V.turn e2 _ _ (.o e2 (nl (st.ks ++ [kx])))
        unfold nl; rw [List.map_append]; exact .me
      refine X.append (ρ' := NE ⟨st.es, st.ks ++ [kx], st.ms ++ [0]⟩) S12 (Ev.name rfl) Ev.int (.head _) (by rw [nl_length]; show st.ms.length < _; omega) ⟨⟨_, rfl, .d _⟩, ⟨_, rfl, .d _⟩, ⟨_, rfl, .d _⟩, ⟨_, rfl, .d _⟩, ⟨_, rfl, .o n13⟩, ⟨_, rfl, .o n23⟩, ⟨_, rfl, ?_⟩, ⟨_, rfl, .d _⟩, ⟨_, rfl, .d _⟩, ⟨_, rfl, .d _⟩, ⟨_, rfl, .d _⟩, ⟨_, rfl, .t H3⟩, ⟨_, rfl, .o c3⟩, trivial⟩ fun h12 tk12 S13 => ?_
      · show V.turn e3 _ _ (.o e3 (nl (st.ms ++ [0])))
        unfold nl; rw [List.map_append]; exact .me
      refine X.append (ρ' := NE ⟨st.es ++ [(nm, Tc.S "0")], st.ks ++ [kx], st.ms ++ [0]⟩) S13 (Ev.name rfl) (Ev.tuple (ds := [.str nm, .str (Tc.S "0")]) (.cons (Ev.name rfl) (.cons Ev.str .nil)) (show 2 ≤ sizeLine by decide)) (.tail _ (.tail _ (.head _))) (by rw [List.length_map]; show st.es.length < _; omega) ⟨⟨_, rfl, .d _⟩, ⟨_, rfl, .d _⟩, ⟨_, rfl, .d _⟩, ⟨_, rfl, .d _⟩, ⟨_, rfl, ?_⟩, ⟨_, rfl, .o n12.symm⟩, ⟨_, rfl, .o n13.symm⟩, ⟨_, rfl, .d _⟩, ⟨_, rfl, .d _⟩, ⟨_, rfl, .d _⟩, ⟨_, rfl, .d _⟩, ⟨_, rfl, .t H1⟩, ⟨_, rfl, .o c1⟩, trivial⟩ fun h13 tk13 S14 => X.nil ⟨rfl, h13, tk13, rfl, S14⟩
      show V.turn e1 _ _ (.o e1 ((st.es ++ [(nm, Tc.S "0")]).map hp))
      rw [List.map_append]; exact .me
    · rw [kl_has, Bool.not_eq_false'] at hc
      have ho : st.open_ nm kx = st := by unfold En.open_; rw [hc]; rfl
      rw [ho]
      exact X.nil ⟨rfl, h10, tk10, rfl, S11⟩
    generalize hst1 : st.open_ nm kx = st1 at S11 hO hOk hOl
    have LLn : (nlwN (zx x) zb : Nat) ≤ 4 := nlwN_le (zx_bnd x) (hzb ▸ LB.bnd)
    have hmx : ((nlwN (zx x) zb : Nat) : Int) = maxL (br ++ [spr, behOf x] ++ runsOf x) + 1 := by rw [← hzb]; exact nlwN_max LL LB
    generalize hnE : nlwN (zx x) zb = nE at LLn hmx
    have hrl := runsOf_len x
    have hlit : ([PyData.int spr, .int (behOf x)] : List PyData).length = 2 := rfl
    refine X.assignCompB (xs := List.range nE) (rep := fun (j : Nat) => PyData.int ((1 : Int) + (j : Nat))) [(Tc.S "runs", .d (il (runsOf x))), (Tc.S "behind", .d (.int (behOf x)))] S11 (fun j => [(Tc.S "size", .d (.int ((1 : Int) + (j : Nat))))]) (fun _ => true) (fun j => .int (colOf (runsOf x) (behOf x) ((1 : Int) + (j : Nat))))
      (EvIt.comap (f := fun (j : Nat) => (1 : Int) + (j : Nat)) (EvIt.range2 (b := maxL (br ++ [spr, behOf x] ++ runsOf x) + 2) F.han (Ev.built G' rfl rfl) Ev.int (Ev.bin (EvP.callB (Ev.built G' rfl rfl) (.cons (r := .d (il (br ++ [spr, behOf x] ++ runsOf x))) (Ev.cast (EvN.add (EvN.add (da := br.map .int) (db := [.int spr, .int (behOf x)]) (Ev.nameC rfl) rfl (EvN.list (ds := [.int spr, .int (behOf x)]) (.cons (Ev.nameC rfl) (.cons (Ev.nameC rfl) .nil)) (show 2 ≤ sizeLine by decide)).ev rfl (by rw [List.length_map, hlit]; omega)).ev rfl (Ev.nameC rfl) rfl (by rw [List.length_append, List.length_map, List.length_map, hlit]; omega)).ev (by show PyData.list _ = PyData.list _; rw [List.map_append, List.map_append]; rfl)) .nil) (Cl.maxL F.han rfl (by rw [List.length_append, List.length_append]; show 0 < br.length + 2 + _; omega)) fun _ _ => trivial) Ev.int Op2.add) ?_ ?_)) rfl (.cons rfl (.cons rfl .nil)) (.cons rfl rfl (.cons rfl rfl .nil)) (fun C D j hj => Tgt.name) (fun C D j hj => .inl ⟨rfl, rfl⟩) (fun C D j hj _ => EvP.callD G' rfl rfl (Ev.glob G' rfl) (.cons (Ev.nameC rfl) (.cons (Ev.nameC rfl) (.cons (Ev.name rfl) .nil))) (column_cl F rfl (by omega) (by have := List.mem_range.mp hj; omega) (fun r hr => by have := runsOf_small x r hr; omega)) fun h S => Wd.of G' S) (by rw [List.length_range]; omega) fun h11 tk11 S12 => ?_
    · have : (maxL (br ++ [spr, behOf x] ++ runsOf x) + 2 - 1).toNat = nE := by omega
      rw [this]
    · exact range_small (by omega) (by omega) (by omega) (by omega)
    have hends : (List.range nE).map (fun j => PyData.int (colOf (runsOf x) (behOf x) ((1 : Int) + (j : Nat)))) = nl ((List.range nE).map fun j => inOf (zx x) (j + 1)) := by
      unfold nl
      rw [List.map_map]
      refine List.map_congr_left fun j hj => ?_
      exact congrArg PyData.int (col_nat LL (Nat.lt_of_lt_of_le (List.mem_range.mp hj) LLn)).1
    rw [filter_tt, hends] at S12
    refine X.forFold (xs := List.range nE) (rep := fun (j : Nat) => PyData.int ((1 : Int) + (j : Nat))) (En.tell zb nm (zx x) kx) (fun u => (Tc.S "ends", .d (.list (nl ((List.range nE).map fun j => inOf (zx x) (j + 1))))) :: NE u) (fun j u => EnOk (i + 1) u ∧ u.ks = st1.ks ∧ u.es.length ≤ 5 * i + 1 + j) st1 S12 ⟨rfl, rfl, rfl, rfl, rfl, rfl, rfl, rfl, rfl, rfl, rfl, rfl, rfl, rfl, trivial⟩ ⟨hO, rfl, hOl⟩
      (EvIt.comap (f := fun (j : Nat) => (1 : Int) + (j : Nat)) (EvIt.range2 (b := (nE : Nat) + 1) F.han (Ev.built G' rfl rfl) Ev.int (Ev.bin (Ev.cast (EvP.callB (Ev.built G' rfl rfl) (.cons (Ev.name rfl) .nil) (Cl.len rfl (by rw [nl_length, List.length_map, List.length_range]; omega)) fun _ _ => trivial) (by rw [nl_length, List.length_map, List.length_range])) Ev.int Op2.add) ?_ ?_)) (fun j jj hjj u g2 hJ hp2 S13 => ⟨_, Tgt.name, fun h12 tk12 S14 => ?_⟩) (fun hJ h12 tk12 S13 => ?_)
    · have : (((nE : Nat) : Int) + 1 - 1).toNat = nE := by omega
      rw [this]
    · exact range_small (by omega) (by omega) (by omega) (by omega)
    · obtain ⟨hJ1, hJ2, hJ3⟩ := hJ
      have hjn : jj < nE := List.mem_range.mp (List.mem_of_getElem? hjj)
      have hj4 : jj < 4 := Nat.lt_of_lt_of_le hjn LLn
      have hjle : j < 4 := by
        have := (List.getElem?_eq_some_iff.mp hjj).1
        rw [List.length_range] at this
        omega
      rw [show ((1 : Int) + (jj : Nat)) = ((jj + 1 : Nat) : Int) from by omega] at S14
      have G2 : TopH w g2 := G'.pers S12.high hp2
      have hidx : (((jj + 1 : Nat) : Int) - 1).toNat = jj := by omega
      have hdE : (nl ((List.range nE).map fun j => inOf (zx x) (j + 1)))[(((jj + 1 : Nat) : Int) - 1).toNat]? = some (.int (inOf (zx x) (jj + 1) : Nat)) := by
        rw [hidx, nl, List.getElem?_map, List.getElem?_map, List.getElem?_range hjn]; rfl
      have hdD : (nl ((List.range 4).map fun j => inOf zb (j + 1)))[(((jj + 1 : Nat) : Int) - 1).toNat]? = some (.int (inOf zb (jj + 1) : Nat)) := by
        rw [hidx, nl, List.getElem?_map, List.getElem?_map, List.getElem?_range hj4]; rfl
      have cE : inOf (zx x) (jj + 1) ≤ 30 := (col_nat LL hj4).2
      have cD : inOf zb (jj + 1) ≤ 30 := by rw [← hzb]; exact (col_nat LB hj4).2
      refine X.ite (c := decide (((inOf (zx x) (jj + 1) : Nat) : Int) ≥ (inOf zb (jj + 1) : Nat))) S14 (EvB.cmpV (Ev.item (Ev.name rfl) rfl (Ev.bin (Ev.name rfl) Ev.int Op2.sub) (by omega) (by omega) hdE) (Ev.item (Ev.name rfl) rfl (Ev.bin (Ev.name rfl) Ev.int Op2.sub) (by omega) (by omega) hdD) Op2.ge) (fun hq h13 tk13 S15 => ?_) (fun hq h13 tk13 S15 => ?_)
      · have hge : inOf (zx x) (jj + 1) ≥ inOf zb (jj + 1) := by have := of_decide_eq_true hq; omega
        have hmem : kx ∈ u.ks := by rw [hJ2]; exact hOk
        have hil : u.ks.idxOf kx < u.ms.length := by rw [← hJ1.len]; exact List.idxOf_lt_length_of_mem hmem
        have htell : u.tell zb nm (zx x) kx jj = ⟨u.es ++ [(nm, valS (jj + 1) (inOf (zx x) (jj + 1)) (inOf zb (jj + 1)))], u.ks, u.ms.set (u.ks.idxOf kx) (u.ms.getD (u.ks.idxOf kx) 0 ||| 2 ^ (4 - (jj + 1)))⟩ := if_pos hge
        have str : ∀ {m : Nat} {e : Expr} {ρ0 : List (Str × V)} {T0 : Tr} {p r : Pos}, m < 31 → Ev (model prg w) A (lawE L) T0 g2 ρ0 e (.d (.int (m : Nat))) → starEach [e] (lawE L) = (false, eval e (lawE L)) :: starEach [] (lawE L) → eval (.Call (.Name (Tc.S "str") p) [e] [] r) (lawE L) = (do callWith r (← eval (.Name (Tc.S "str") p) (lawE L)) [] (backTo r (starEach [e] (lawE L))) (backToKw r (keywordEach [] (lawE L)))) → Ev (model prg w) A (lawE L) T0 g2 ρ0 (.Call (.Name (Tc.S "str") p) [e] [] r) (.d (.str (num m))) := fun hm he h1 h2 => EvP.callT (Ev.built G2 rfl rfl) (.cons he .nil h1) (Cl.strInt (by omega)) (fun _ _ => trivial) h2 h1
        have hn31 : ∀ m < 31, (num m).length ≤ 2 := fun m hm => (num_ok m hm).2
        have l1 := hn31 (jj + 1) (by omega)
        have l2 := hn31 (inOf (zx x) (jj + 1)) (by omega)
        have l3 := hn31 (inOf zb (jj + 1)) (by omega)
        have lc : (Tc.S ",").length = 1 := comma_ok.2.1
        refine X.append (ρ' := (Tc.S "ends", .d (.list (nl ((List.range nE).map fun j => inOf (zx x) (j + 1))))) :: (Tc.S "size", .d (.int ((jj + 1 : Nat) : Int))) :: NE ⟨u.es ++ [(nm, valS (jj + 1) (inOf (zx x) (jj + 1)) (inOf zb (jj + 1)))], u.ks, u.ms⟩) S15 (Ev.name rfl) (Ev.tuple (ds := [.str nm, .str (valS (jj + 1) (inOf (zx x) (jj + 1)) (inOf zb (jj + 1)))]) (.cons (Ev.name rfl) (.cons (Ev.bin (Ev.bin (Ev.bin (Ev.bin (str (by omega) (Ev.name rfl) rfl rfl) Ev.str (Op2.addS ?_)) (str (by omega) (Ev.item (Ev.name rfl) rfl (Ev.bin (Ev.name rfl) Ev.int Op2.sub) (by omega) (by omega) hdE) rfl rfl) (Op2.addS ?_)) Ev.str (Op2.addS ?_)) (str (by omega) (Ev.item (Ev.name rfl) rfl (Ev.bin (Ev.name rfl) Ev.int Op2.sub) (by omega) (by omega) hdD) rfl rfl) (Op2.addS ?_)) .nil)) (show 2 ≤ sizeLine by decide)) (.tail _ (.tail _ (.head _))) (by rw [List.length_map]; omega) ⟨⟨_, rfl, .d _⟩, ⟨_, rfl, .d _⟩, ⟨_, rfl, .d _⟩, ⟨_, rfl, .d _⟩, ⟨_, rfl, .d _⟩, ⟨_, rfl, .d _⟩, ⟨_, rfl, ?_⟩, ⟨_, rfl, .o n12.symm⟩, ⟨_, rfl, .o n13.symm⟩, ⟨_, rfl, .d _⟩, ⟨_, rfl, .d _⟩, ⟨_, rfl, .d _⟩, ⟨_, rfl, .d _⟩, ⟨_, rfl, .t H1⟩, ⟨_, rfl, .o c1⟩, trivial⟩ fun h14 tk14 S16 => ?_
        · show (num (jj + 1)).length + (Tc.S ",").length ≤ _
          omega
        · show (num (jj + 1) ++ Tc.S ",").length + (num (inOf (zx x) (jj + 1))).length ≤ _
          rw [len_app]; omega
        · show ((num (jj + 1) ++ Tc.S ",") ++ num (inOf (zx x) (jj + 1))).length + (Tc.S ",").length ≤ _
          rw [len_app, len_app]; omega
        · show (((num (jj + 1) ++ Tc.S ",") ++ num (inOf (zx x) (jj + 1))) ++ Tc.S ",").length + (num (inOf zb (jj + 1))).length ≤ _
          rw [len_app, len_app, len_app]; omega
        · show V.turn e1 _ _ (.o e1 ((u.es ++ [(nm, valS (jj + 1) (inOf (zx x) (jj + 1)) (inOf zb (jj + 1)))]).map hp))
          rw [List.map_append]; exact .me
        have hk16 : ∀ q ∈ kl u.ks, 0 ≤ q ∧ q < 16 := fun q hq => by
          obtain ⟨y, hy, rfl⟩ := List.mem_map.mp hq
          have := hJ1.k4 y hy
          omega
        have hkn : (kl u.ks).length ≤ 1000 := by unfold kl; rw [List.length_map]; have := hJ1.kl4; omega
        have idx : ∀ {T0 : Tr} {ρ0 : List (Str × V)} {p q r t : Pos}, ρ0.lookup (Tc.S "kinds") = some (.o e2 (nl u.ks)) → ρ0.lookup (Tc.S "kind") = some (.d (.int (kx : Nat))) → (t.endLine == r.line) = true → Ev (model prg w) A (lawE L) T0 g2 ρ0 (.Call (.Attribute (.Name (Tc.S "kinds") p) (Tc.S "index") t) [.Name (Tc.S "kind") q] [] r) (.d (.int (u.ks.idxOf kx : Nat))) := fun a b hl => Ev.cast (Ev.index (ns := kl u.ks) (Ev.name a) (by show some (nl _) = _; rw [kl_nl]) (Ev.name b) (kl_mem.mpr hmem) hk16 hkn rfl rfl hl rfl) (by rw [kl_idx])
        have hm16 := getD_lt hJ1.m16 (u.ks.idxOf kx)
        have hdM : (nl u.ms)[((u.ks.idxOf kx : Nat) : Int).toNat]? = some (.int (u.ms.getD (u.ks.idxOf kx) 0 : Nat)) := by
          rw [Int.toNat_natCast, nl, List.getElem?_map, List.getD_eq_getElem?_getD, List.getElem?_eq_getElem hil]; rfl
        have hpw : ∀ jj < 4, (2 : Int) ^ ((4 : Int) - ((jj + 1 : Nat) : Int)).toNat = ((2 ^ (4 - (jj + 1)) : Nat) : Int) ∧ 2 ^ (4 - (jj + 1)) < 16 := by decide
        have hib : Builtin.Int.intBits 2 = 2 := by decide
        have hml2 : u.ks.idxOf kx < (nl u.ms).length := by rw [nl_length]; exact hil
        refine X.setItem (d := .int ((u.ms.getD (u.ks.idxOf kx) 0 ||| 2 ^ (4 - (jj + 1)) : Nat))) (j := u.ks.idxOf kx) (ds := nl u.ms) (ρ' := (Tc.S "ends", .d (.list (nl ((List.range nE).map fun j => inOf (zx x) (j + 1))))) :: NE ⟨u.es ++ [(nm, valS (jj + 1) (inOf (zx x) (jj + 1)) (inOf zb (jj + 1)))], u.ks, u.ms.set (u.ks.idxOf kx) (u.ms.getD (u.ks.idxOf kx) 0 ||| 2 ^ (4 - (jj + 1)))⟩) S16 (Ev.name rfl) (idx rfl rfl rfl)
          (Ev.cast (Ev.bin (Ev.item (Ev.name rfl) rfl (idx rfl rfl rfl) (by omega) (by have := hJ1.kl4; have := hJ1.len; omega) hdM) (Ev.bin Ev.int (Ev.bin Ev.int (Ev.name rfl) Op2.sub) (Op2.pow (by omega) (by rw [hib]; omega))) Op2.bor) ?_) (.head _) hml2 (by have := hJ1.kl4; have := hJ1.len; omega)
          ⟨⟨_, rfl, .d _⟩, ⟨_, rfl, .d _⟩, ⟨_, rfl, .d _⟩, ⟨_, rfl, .d _⟩, ⟨_, rfl, .d _⟩, ⟨_, rfl, .o n13⟩, ⟨_, rfl, .o n23⟩, ⟨_, rfl, ?_⟩, ⟨_, rfl, .d _⟩, ⟨_, rfl, .d _⟩, ⟨_, rfl, .d _⟩, ⟨_, rfl, .d _⟩, ⟨_, rfl, .t H3⟩, ⟨_, rfl, .o c3⟩, trivial⟩ fun h15 tk15 S17 => X.nil (X.nil ⟨.inl rfl, h15, tk15, rfl, ?_⟩)
        · rw [(hpw jj hj4).1, bor_nat _ hm16 _ (hpw jj hj4).2]
        · have : nl (u.ms.set (u.ks.idxOf kx) (u.ms.getD (u.ks.idxOf kx) 0 ||| 2 ^ (4 - (jj + 1)))) = (nl u.ms).set (u.ks.idxOf kx) (.int ((u.ms.getD (u.ks.idxOf kx) 0 ||| 2 ^ (4 - (jj + 1)) : Nat))) := by
            rw [nl, List.map_set]
            rfl
          show V.turn e3 _ _ (.o e3 (nl (u.ms.set (u.ks.idxOf kx) (u.ms.getD (u.ks.idxOf kx) 0 ||| 2 ^ (4 - (jj + 1))))))
          rw [this]
          exact .me
        · rw [htell]
          obtain ⟨q1, q2⟩ := tell_ok hJ1 zb nm (zx x) kx jj hj4
          rw [htell] at q1 q2
          exact ⟨S17, q1, q2.trans hJ2, by show (u.es ++ [_]).length ≤ _; rw [List.length_append]; exact Nat.succ_le_succ hJ3⟩
      · have hge : ¬ inOf (zx x) (jj + 1) ≥ inOf zb (jj + 1) := by have := of_decide_eq_false hq; omega
        have htell : u.tell zb nm (zx x) kx jj = u := if_neg hge
        refine X.nil (X.nil ⟨.inl rfl, h13, tk13, rfl, ?_⟩)
        rw [htell]
        exact ⟨S15.fit ⟨rfl, rfl, rfl, rfl, rfl, rfl, rfl, rfl, rfl, rfl, rfl, rfl, rfl, rfl, trivial⟩, hJ1, hJ2, by omega⟩
    · have hstep : (List.range nE).foldl (En.tell zb nm (zx x) kx) st1 = enStep zb ls st n := by
        unfold enStep
        rw [hx, hnm, hkd, hst1, hnE]
      rw [hstep] at S13 hJ
      rw [List.length_range] at hJ
      refine X.nil ⟨.inl rfl, h12, tk12, rfl, ?_, hJ.1, by have := hJ.2.2; omega⟩
      exact S13.fit ⟨rfl, rfl, rfl, rfl, rfl, rfl, rfl, rfl, rfl, trivial⟩
  · exact done e1 e2 e3 h5 tk5 g1 g2 g3 S5 (by have := hI.1; rw [List.length_range] at this; exact this)
end
end Tc
set_option maxHeartbeats 4000000
namespace Tc
open PySem PySem.Calls PyProof.Rows PySem.W
theorem strOk_of {x : Str} (h : okText x) : PyData.strOk x = true := by
  unfold PyData.strOk
  rw [← Array.all_toList, List.all_eq_true]
  intro c hc
  have := h c hc
  exact decide_eq_true (by omega)
theorem lay_hp : ∀ (l : List (Str × Str)), (∀ p ∈ l, okText p.1 ∧ okText p.2) → PyData.canLayAll0 (l.map hp) = true
  | [], _ => rfl
  | p :: l, h => by
    obtain ⟨a, b⟩ := h p (.head _)
    rw [List.map_cons, PyData.canLayAll0, lay_hp l fun q hq => h q (.tail _ hq)]
    show ((PyData.strOk p.1 && (PyData.strOk p.2 && true)) && true) = true
    rw [strOk_of a, strOk_of b]; rfl
theorem depth_hp : ∀ (l : List (Str × Str)), PyData.depthAll (l.map hp) ≤ 1
  | [] => Nat.zero_le _
  | p :: l => by
    rw [List.map_cons, PyData.depthAll]
    have := depth_hp l
    have h2 : (hp p).depth ≤ 1 := by
      show max 0 (max 0 0) + 1 ≤ 1
      decide
    omega
theorem shaped_hp {l : List (Str × Str)} (h : ∀ p ∈ l, okText p.1 ∧ okText p.2) : SeqAt.shaped (.list (l.map hp)) = true := by
  unfold SeqAt.shaped
  rw [Bool.and_eq_true]
  refine ⟨lay_hp l h, decide_eq_true ?_⟩
  rw [PyData.depth]
  have := depth_hp l
  omega
theorem lay_rl : ∀ (l : List (Nat × Nat)), PyData.canLayAll0 (l.map rl) = true
  | [] => rfl
  | p :: l => by
    rw [List.map_cons, PyData.canLayAll0, lay_rl l]
    show ((PyData.canLayAll0 ((sz p.1).map .int) && (PyData.canLayAll0 ((sz p.2).map .int) && true)) && true) = true
    rw [lay_ints, lay_ints]; rfl
theorem depth_rl : ∀ (l : List (Nat × Nat)), PyData.depthAll (l.map rl) ≤ 2
  | [] => Nat.zero_le _
  | p :: l => by
    rw [List.map_cons, PyData.depthAll]
    have := depth_rl l
    have h2 : (rl p).depth ≤ 2 := by
      show max (PyData.depthAll ((sz p.1).map .int) + 1) (max (PyData.depthAll ((sz p.2).map .int) + 1) 0) + 1 ≤ 2
      rw [depth_ints, depth_ints]
      decide
    omega
theorem shaped_rl (l : List (Nat × Nat)) : SeqAt.shaped (.list (l.map rl)) = true := by
  unfold SeqAt.shaped
  rw [Bool.and_eq_true]
  refine ⟨lay_rl l, decide_eq_true ?_⟩
  rw [PyData.depth]
  have := depth_rl l
  omega
noncomputable def tblOf (zb : Ws) (ls : List Int) : List (Str × Str) := (List.range ls.length).foldl (tblStep zb ls) []
noncomputable def rowsM (tbl : List (Str × Str)) : List Nat := (namesOf tbl).map (rowM tbl)
noncomputable def enOf (zb : Ws) (ls : List Int) : En := (List.range ls.length).foldl (enStep zb ls) ⟨[], [], []⟩
/-- the plain law -/
structure Plain (zb : Ws) (ls : List Int) : Prop where
  tbl : TblOk (tblOf zb ls)
  ok : ∀ p ∈ tblOf zb ls, okText p.1 ∧ okText p.2
  rows : ∀ m ∈ rowsM (tblOf zb ls), m < 16
  es : (enOf zb ls).es = tblOf zb ls
  told : gGo (rowsM (tblOf zb ls)) 16 [] [] 0 = byDef (enOf zb ls).ms
section
variable {w : World} {A : Around} {env : Env} {T : Tr} {g : Heap} {ρ ρ' : List (Str × V)}
theorem Op2.eqRl {k : Nat} {c : Addr} {l : List (Nat × Nat)} {T1 T2 : Tr} (F : Fine A k) : Op2 (model prg w) A (compareOp .Eq) (fun h v => Vr T1 h v (.o c (l.map rl))) (fun h v => Vr T2 h v (.d (.list (l.map rl)))) (fun _ v => v = .bool true) := by
  have := Op2.eqL (prog := prg) (w := w) (T1 := T1) (T2 := T2) (ra := .o c (l.map rl)) (rb := .d (.list (l.map rl))) F rfl rfl (shaped_rl l) (shaped_rl l)
  rw [SeqAt.eqv_refl (.list (l.map rl)) (lay_rl l)] at this
  exact this
theorem Op2.eqHp {k : Nat} {c : Addr} {l : List (Str × Str)} {T1 T2 : Tr} (F : Fine A k) (h : ∀ p ∈ l, okText p.1 ∧ okText p.2) : Op2 (model prg w) A (compareOp .Eq) (fun h v => Vr T1 h v (.d (.list (l.map hp)))) (fun h v => Vr T2 h v (.o c (l.map hp))) (fun _ v => v = .bool true) := by
  have := Op2.eqL (prog := prg) (w := w) (T1 := T1) (T2 := T2) (ra := .d (.list (l.map hp))) (rb := .o c (l.map hp)) F rfl rfl (shaped_hp h) (shaped_hp h)
  rw [SeqAt.eqv_refl (.list (l.map hp)) (lay_hp l h)] at this
  exact this
theorem law_cl {k : Nat} {rs : V} {script : List Int} (plain : ∀ f ls, ls.length = 5 → Plain (zOf (broadOf f) (spareOf f)) ls) (F : Fine A (k + 7)) (hr : rs.asList = some (script.map .int)) (hlen : script.length ≤ 63) : Cl (model prg w) A (.ref 397) (Wd w T) T [rs] (fun _ v => v = .bool true) := by
  refine Cl.mk (ρ := [(Tc.S "script", rs)]) F rfl rfl rfl rfl (fun s vs G xs => ?_) (fun L T' g h₁ tk s₀ G F' hT hst S => ?_)
  · obtain _ | ⟨xa, _ | _⟩ := xs
    rename_i va
    exact ⟨[(Tc.S "script", va)], kp_binds G.in_ fun _ => rfl, .cons xa .nil, rfl⟩
  refine law_A F' G S hr hlen fun bx bd tx td H h1 tk1 hHg G1 S1 W1 D1 p1 => ?_
  have hln : ((nums script).drop 1).length = 5 := by rw [List.length_drop, nums_len]
  generalize (nums script).getD 0 0 = f at S1 W1
  generalize (nums script).drop 1 = ls at S1 hln
  have P := plain f ls hln
  have LB := lead_bound f
  refine law_B F' G1 S1 W1 D1 (.head _) LB.bnd (by omega) ⟨rfl, rfl, rfl, rfl, rfl, trivial⟩ fun h2 tk2 S2 => ?_
  have ht : (List.range ls.length).foldl (tblStep (zOf (broadOf f) (spareOf f)) ls) [] = tblOf (zOf (broadOf f) (spareOf f)) ls := rfl
  rw [ht] at S2
  generalize htb : tblOf (zOf (broadOf f) (spareOf f)) ls = tbl at S2
  have PT := P.tbl
  have PO := P.ok
  have PR := P.rows
  have PE := P.es
  have PG := P.told
  rw [htb] at PT PO PR PE PG
  refine law_C F' G1 S2 D1 PT fun a h3 tk3 hag haT D3 S3 => ?_
  refine law_D F' G1 S3 PR fun c d h4 tk4 hcg hdg S4 => ?_
  have hgg : gGo ((namesOf tbl).map (rowM tbl)) 16 [] [] 0 = gGo (rowsM tbl) 16 [] [] 0 := rfl
  rw [hgg] at S4
  generalize gGo (rowsM tbl) 16 [] [] 0 = told at S4 PG
  refine law_E F' G1 S4 LB (broad_len f) (broad_small f) (by omega) fun e1 e2 e3 h5 tk5 g1 g2 g3 S5 E5 => ?_
  have he : (List.range ls.length).foldl (enStep (zOf (broadOf f) (spareOf f)) ls) ⟨[], [], []⟩ = enOf (zOf (broadOf f) (spareOf f)) ls := rfl
  rw [he] at S5 E5
  generalize enOf (zOf (broadOf f) (spareOf f)) ls = en at S5 E5 PE PG
  have D5 : HdH ((((((T'.add H).add a).add c).add d).add e1).add e2 |>.add e3) h1 tx td H := ((((D3.add hcg).add hdg).add g1).add g2).add g3
  obtain ⟨ens, enk, enm⟩ := en
  have PE' : ens = tbl := PE
  subst PE'
  have PG' : told = byDef enm := PG
  have hbd := by_def_cl (T := ((((((T'.add H).add a).add c).add d).add e1).add e2).add e3) (w := w) (masks := enm) (rr := .o e3 (nl enm)) F' rfl E5.m16
  rw [← PG'] at hbd
  refine X.ret S5 (EvP.and2 (x := true) (y := true) (EvP.cmp (Ev.itemsM F' G1 D5 (by rw [List.length_map]; have := PT.len; omega) (Ev.name rfl)) (Ev.name rfl) (Op2.eqHp F' PO)) fun _ => EvP.cmp (Ev.name rfl) (EvP.callD G1 rfl rfl (Ev.glob G1 rfl) (.cons (Ev.name rfl) .nil) hbd fun h S => Wd.of G1 S) (Op2.eqRl F')) fun h6 tk6 v S6 hv => ⟨h6, tk6, rfl, ?_, hv⟩
  exact (p1.trans ((((((S6.pers.drop g3).drop g2).drop g1).drop hdg).drop hcg).drop hag)).drop hHg
end
end Tc
set_option maxHeartbeats 4000000
namespace Tc
open PySem PySem.Calls PyProof.Rows PySem.W
noncomputable def same (low : Str) (p : Str × Str) : Bool := lowerS p.1 == low
noncomputable def IsVal (v : Str) : Prop := (∃ ts ∈ [1, 2, 3, 4], v.cps[0]? = some (48 + ts)) ∧ v.length ≤ 20 ∧ (v == S "0") = false ∧ okText v
/-- one kind's part of the table -/
noncomputable def Part (t : List (Str × Str)) (low : Str) (m : Nat) : Prop := ∃ h vs, t.filter (same low) = h :: vs ∧ isNought h = true ∧ (∀ p ∈ vs, IsVal p.2) ∧ m = vs.foldl (fun m p => m ||| bitV p.2) 0
structure Inv (t : List (Str × Str)) (st : En) : Prop where
  es : st.es = t
  of : ∀ p ∈ t, OkName p.1 ∧ okText p.2 ∧ ∃ i ∈ st.ks, lowerS p.1 = lowNm i
  nd : st.ks.Nodup
  ln : st.ks.length = st.ms.length
  k4 : ∀ i ∈ st.ks, i < 4
  nm : (namesOf t).map lowerS = st.ks.map lowNm
  pt : ∀ i ∈ st.ks, Part t (lowNm i) (st.ms.getD (st.ks.idxOf i) 0)
theorem Inv.nil : Inv [] ⟨[], [], []⟩ := ⟨rfl, (fun p hp => absurd hp List.not_mem_nil), List.nodup_nil, rfl, (fun p hp => absurd hp List.not_mem_nil), rfl, (fun p hp => absurd hp List.not_mem_nil)⟩
theorem namesOf_app (t u : List (Str × Str)) : namesOf (t ++ u) = namesOf t ++ namesOf u := by
  unfold namesOf
  rw [List.filter_append, List.map_append]
theorem hits_same {nm low : Str} (h : lowerS nm = low) : hits nm = same low := by
  funext p
  unfold hits same
  rw [h]
theorem find_ks {t : List (Str × Str)} {st : En} (I : Inv t st) {nm : Str} {i : Nat} (hi : i < 4) (hn : lowerS nm = lowNm i) : (t.find? (hits nm)).isSome = st.ks.contains i := by
  rw [Bool.eq_iff_iff, List.contains_iff_mem, List.find?_isSome, hits_same hn]
  constructor
  · rintro ⟨p, hp, hs⟩
    obtain ⟨_, _, j, hj, e⟩ := I.of p hp
    have : lowNm j = lowNm i := e.symm.trans (eq_of_beq hs)
    exact nm_inj j (I.k4 j hj) i hi this ▸ hj
  · intro h
    obtain ⟨hd, vs, e, _⟩ := I.pt i h
    have : hd ∈ t.filter (same (lowNm i)) := by rw [e]; exact .head _
    exact ⟨hd, (List.mem_filter.mp this).1, (List.mem_filter.mp this).2⟩
theorem nought_ok : okText (S "0") := okText_of comma_ok.2.2.1
theorem inv_open {t : List (Str × Str)} {st : En} (I : Inv t st) {nm : Str} {i : Nat} (hi : i < 4) (hn : lowerS nm = lowNm i) (ho : OkName nm) : Inv (setdef t nm (S "0")) (st.open_ nm i) ∧ i ∈ (st.open_ nm i).ks := by
  have hf := find_ks I hi hn
  unfold setdef En.open_
  rw [hf]
  cases hc : st.ks.contains i with
  | true =>
    rw [if_pos rfl, if_pos rfl]
    exact ⟨I, List.contains_iff_mem.mp hc⟩
  | false =>
    rw [if_neg Bool.false_ne_true, if_neg Bool.false_ne_true]
    have hni : i ∉ st.ks := fun h => by rw [List.contains_iff_mem.mpr h] at hc; cases hc
    refine ⟨⟨by rw [I.es], fun p hp => ?_, ?_, ?_, fun j hj => ?_, ?_, fun j hj => ?_⟩, List.mem_append_right _ (.head _)⟩
    · rcases List.mem_append.mp hp with hp | hp
      · obtain ⟨a, b, j, hj, e⟩ := I.of p hp
        exact ⟨a, b, j, List.mem_append_left _ hj, e⟩
      · rw [List.mem_singleton.mp hp]
        exact ⟨ho, nought_ok, i, List.mem_append_right _ (.head _), hn⟩
    · refine List.nodup_append.mpr ⟨I.nd, by simp, fun a ha b hb z => ?_⟩
      rw [List.mem_singleton.mp hb] at z
      exact hni (z ▸ ha)
    · show (st.ks ++ [i]).length = (st.ms ++ [0]).length
      rw [List.length_append, List.length_append, I.ln]; rfl
    · rcases List.mem_append.mp hj with hj | hj
      · exact I.k4 j hj
      · rw [List.mem_singleton.mp hj]; exact hi
    · show (namesOf (t ++ [(nm, S "0")])).map lowerS = (st.ks ++ [i]).map lowNm
      rw [namesOf_app, List.map_append, List.map_append, I.nm]
      have : namesOf [(nm, S "0")] = [nm] := by
        unfold namesOf isNought
        rw [List.filter_cons]
        simp
      rw [this, List.map_cons, hn]
      rfl
    · have idxL : ∀ j ∈ st.ks, (st.ks ++ [i]).idxOf j = st.ks.idxOf j := fun j hj => by rw [List.idxOf_append, if_pos hj]
      rcases List.mem_append.mp hj with hj | hj
      · obtain ⟨hd, vs, e1, e2, e3, e4⟩ := I.pt j hj
        have hne : i ≠ j := fun z => hni (z ▸ hj)
        have hs : same (lowNm j) (nm, S "0") = false := by
          unfold same
          rw [hn]
          exact beq_eq_false_iff_ne.mpr fun z => hne (nm_inj i hi j (I.k4 j hj) z)
        refine ⟨hd, vs, ?_, e2, e3, ?_⟩
        · rw [List.filter_append, e1, List.filter_cons, hs]; simp
        · show (st.ms ++ [0]).getD ((st.ks ++ [i]).idxOf j) 0 = _
          rw [idxL j hj, ← e4, List.getD_eq_getElem?_getD, List.getD_eq_getElem?_getD, List.getElem?_append_left]
          rw [← I.ln]
          exact List.idxOf_lt_length_of_mem hj
      · have hj' := List.mem_singleton.mp hj
        subst hj'
        have hs : same (lowNm j) (nm, S "0") = true := by
          unfold same
          rw [hn]
          exact beq_self_eq_true _
        have hfl : t.filter (same (lowNm j)) = [] := by
          rw [List.filter_eq_nil_iff]
          intro p hp hq
          have : (t.find? (hits nm)).isSome = true := List.find?_isSome.mpr ⟨p, hp, by rw [hits_same hn]; exact hq⟩
          rw [hf, hc] at this
          cases this
        refine ⟨(nm, S "0"), [], ?_, ?_, (fun p hp => absurd hp List.not_mem_nil), ?_⟩
        · rw [List.filter_append, hfl, List.filter_cons, hs]; rfl
        · exact beq_self_eq_true (S "0")
        · show (st.ms ++ [0]).getD ((st.ks ++ [j]).idxOf j) 0 = _
          rw [List.idxOf_append, if_neg hni, List.idxOf_cons_self, List.getD_eq_getElem?_getD, Nat.zero_add, I.ln, List.getElem?_append_right (Nat.le_refl _), Nat.sub_self]
          rfl
theorem inv_val {t : List (Str × Str)} {st : En} (I : Inv t st) {nm : Str} {i : Nat} (hi : i ∈ st.ks) (hn : lowerS nm = lowNm i) (ho : OkName nm) {v : Str} (hv : IsVal v) : Inv (t ++ [(nm, v)]) ⟨st.es ++ [(nm, v)], st.ks, st.ms.set (st.ks.idxOf i) (st.ms.getD (st.ks.idxOf i) 0 ||| bitV v)⟩ := by
  have hil : st.ks.idxOf i < st.ms.length := by rw [← I.ln]; exact List.idxOf_lt_length_of_mem hi
  refine ⟨by show st.es ++ _ = _; rw [I.es], fun p hp => ?_, I.nd, by show _ = (st.ms.set _ _).length; rw [List.length_set]; exact I.ln, I.k4, ?_, fun j hj => ?_⟩
  · rcases List.mem_append.mp hp with hp | hp
    · exact I.of p hp
    · rw [List.mem_singleton.mp hp]
      exact ⟨ho, hv.2.2.2, i, hi, hn⟩
  · show (namesOf (t ++ [(nm, v)])).map lowerS = _
    rw [namesOf_app]
    have : namesOf [(nm, v)] = [] := by
      unfold namesOf isNought
      rw [List.filter_cons, hv.2.2.1]
      rfl
    rw [this, List.append_nil]
    exact I.nm
  · obtain ⟨hd, vs, e1, e2, e3, e4⟩ := I.pt j hj
    show Part (t ++ [(nm, v)]) (lowNm j) ((st.ms.set (st.ks.idxOf i) (st.ms.getD (st.ks.idxOf i) 0 ||| bitV v)).getD (st.ks.idxOf j) 0)
    by_cases hij : i = j
    · subst hij
      have hs : same (lowNm i) (nm, v) = true := by
        unfold same
        rw [hn]
        exact beq_self_eq_true _
      refine ⟨hd, vs ++ [(nm, v)], ?_, e2, fun p hp => ?_, ?_⟩
      · rw [List.filter_append, e1, List.filter_cons, hs]; rfl
      · rcases List.mem_append.mp hp with hp | hp
        · exact e3 p hp
        · rw [List.mem_singleton.mp hp]; exact hv
      · rw [List.foldl_append, ← e4, List.getD_eq_getElem?_getD, List.getElem?_set_self hil]
        rfl
    · have hs : same (lowNm j) (nm, v) = false := by
        unfold same
        rw [hn]
        exact beq_eq_false_iff_ne.mpr fun z => hij (nm_inj i (I.k4 i hi) j (I.k4 j hj) z)
      have hne : st.ks.idxOf i ≠ st.ks.idxOf j := fun z => by
        have h1 := List.getElem?_eq_getElem (List.idxOf_lt_length_of_mem hi)
        have h2 := List.getElem?_eq_getElem (List.idxOf_lt_length_of_mem hj)
        rw [List.getElem_idxOf] at h1 h2
        rw [z, h2] at h1
        exact hij (Option.some.inj h1).symm
      refine ⟨hd, vs, ?_, e2, e3, ?_⟩
      · rw [List.filter_append, e1, List.filter_cons, hs]; simp
      · rw [← e4, List.getD_eq_getElem?_getD, List.getElem?_set_ne hne, List.getD_eq_getElem?_getD]
theorem isVal {ts a b : Nat} (ht : ts ∈ [1, 2, 3, 4]) (ha : a ≤ 30) (hb : b ≤ 30) : IsVal (valS ts a b) := by
  have h10 := (bit_ts ts ht).2.2.2
  have v := val_ok (ts := ts) (a := a) (b := b) (by omega) (by omega) (by omega)
  exact ⟨⟨ts, ht, val_first h10⟩, v.hi, val_ne (by omega) (by omega) (by omega), v.ok⟩
theorem fold_filter {α : Type} (f : α → Nat → α) (p : Nat → Bool) : ∀ (l : List Nat) (a : α), ((l.filter p).map (· + 1)).foldl f a = l.foldl (fun a j => if p j then f a (j + 1) else a) a
  | [], _ => rfl
  | x :: l, a => by
    rw [List.filter_cons, List.foldl_cons]
    cases h : p x with
    | true => rw [if_pos rfl, if_pos rfl, List.map_cons, List.foldl_cons, fold_filter f p l]
    | false => rw [if_neg Bool.false_ne_true, if_neg Bool.false_ne_true, fold_filter f p l]
theorem inv_fold {zb z : Ws} (hz : Bnd z) (hb : Bnd zb) {nm : Str} {i : Nat} (hi4 : i < 4) (hn : lowerS nm = lowNm i) (ho : OkName nm) : ∀ (l : List Nat) (t : List (Str × Str)) (st : En), (∀ j ∈ l, j < 4) → Inv t st → i ∈ st.ks →
    Inv (l.foldl (fun a j => if decide (inOf z (j + 1) ≥ inOf zb (j + 1)) then addVal nm z zb a (j + 1) else a) t) (l.foldl (En.tell zb nm z i) st)
  | [], _, _, _, I, _ => I
  | j :: l, t, st, hl, I, hi => by
    have hj := hl j (.head _)
    have h14 : ∀ j < 4, j + 1 ∈ [1, 2, 3, 4] := by decide
    have hts := h14 j hj
    rw [List.foldl_cons, List.foldl_cons]
    refine inv_fold hz hb hi4 hn ho l _ _ (fun x hx => hl x (.tail _ hx)) ?_ ?_
    · unfold En.tell
      by_cases h : inOf z (j + 1) ≥ inOf zb (j + 1)
      · rw [if_pos (decide_eq_true h), if_pos h]
        have hv := isVal (ts := j + 1) hts (hz.col _ hts) (hb.col _ hts)
        have := inv_val I hi hn ho hv
        rw [bitV_of (val_first (bit_ts _ hts).2.2.2)] at this
        exact this
      · rw [if_neg (by rw [decide_eq_true_eq]; exact h), if_neg h]
        exact I
    · unfold En.tell
      split <;> exact hi
theorem inv_step {zb : Ws} (hb : Bnd zb) (ls : List Int) {t : List (Str × Str)} {st : En} (I : Inv t st) (k : Nat) : Inv (tblStep zb ls t k) (enStep zb ls st k) := by
  unfold tblStep enStep
  generalize ls.getD k 0 = x
  have hx := kd_lt x
  obtain ⟨I1, hi⟩ := inv_open I hx (nmOf_low k hx) (nmOf_ok k hx)
  unfold wl
  rw [nlwOf_eq, fold_filter]
  exact inv_fold (zx_bnd x) hb hx (nmOf_low k hx) (nmOf_ok k hx) _ _ _ (fun j hj => Nat.lt_of_lt_of_le (List.mem_range.mp hj) (nlwN_le (zx_bnd x) hb)) I1 hi
theorem tblStep_len {zb : Ws} (hb : Bnd zb) (ls : List Int) (t : List (Str × Str)) (k : Nat) : (tblStep zb ls t k).length ≤ t.length + 5 := by
  unfold tblStep
  rw [addVal_len]
  have := wl_len hb (ls.getD k 0)
  have := setdef_len t (nmOf k (kd (ls.getD k 0))) (S "0")
  omega
theorem inv_all {zb : Ws} (hb : Bnd zb) (ls : List Int) : ∀ n, Inv ((List.range n).foldl (tblStep zb ls) []) ((List.range n).foldl (enStep zb ls) ⟨[], [], []⟩) ∧ ((List.range n).foldl (tblStep zb ls) []).length ≤ 5 * n
  | 0 => ⟨Inv.nil, Nat.le_refl _⟩
  | n + 1 => by
    obtain ⟨a, b⟩ := inv_all hb ls n
    rw [List.range_succ, List.foldl_append, List.foldl_append]
    refine ⟨inv_step hb ls a n, ?_⟩
    have := tblStep_len hb ls ((List.range n).foldl (tblStep zb ls) []) n
    show (tblStep zb ls _ n).length ≤ _
    omega
theorem rows_eq {t : List (Str × Str)} {st : En} (I : Inv t st) : rowsM t = st.ms := by
  have h1 : rowsM t = ((namesOf t).map lowerS).map fun low => ((t.filter (same low)).drop 1).foldl (fun m p => m ||| bitV p.2) 0 := by
    unfold rowsM
    rw [List.map_map]
    refine List.map_congr_left fun nm _ => ?_
    unfold rowM
    rw [hits_same (nm := nm) rfl]
    rfl
  rw [h1, I.nm, List.map_map]
  refine List.ext_getElem (by rw [List.length_map]; exact I.ln) fun q h1 h2 => ?_
  rw [List.length_map] at h1
  rw [List.getElem_map]
  have hm : st.ks[q] ∈ st.ks := List.getElem_mem h1
  obtain ⟨hd, vs, e1, e2, e3, e4⟩ := I.pt _ hm
  show ((t.filter (same (lowNm st.ks[q]))).drop 1).foldl _ 0 = _
  rw [e1, List.drop_one, List.tail_cons, ← e4, I.nd.idxOf_getElem q h1, List.getD_eq_getElem?_getD, List.getElem?_eq_getElem h2]
  rfl
end Tc
set_option maxHeartbeats 4000000
set_option synthInstance.maxSize 1024
set_option synthInstance.maxHeartbeats 400000
namespace Tc
open PySem PySem.Calls PyProof.Rows PySem.W
theorem step_test : ∀ g < 16, ∀ p < 16, (decide ((sz p).length < (sz g).length) && ((sz p).filter (fun s => !(sz g).contains s) == [])) = ((p &&& g) == p && p != g) := by decide +kernel
noncomputable def Resp (R : List (Nat × Nat)) (h : Nat) : Prop := ∀ r ∈ R, r.1 &&& h = r.1 → r.1 ≠ h → r.2 &&& h = r.2
noncomputable abbrev Sub (a b : Nat) : Prop := a &&& b = a
theorem sub_or : ∀ a < 16, ∀ b < 16, Sub a (a ||| b) := by decide +kernel
theorem sub_refl : ∀ a < 16, Sub a a := by decide +kernel
theorem sub_tr : ∀ a < 16, ∀ b < 16, ∀ c < 16, Sub a b → Sub b c → Sub a c := fun a _ b _ c _ (h : a &&& b = a) (k : b &&& c = b) => show a &&& c = a from
  (congrArg (· &&& c) h.symm).trans ((Nat.and_assoc a b c).trans ((congrArg (a &&& ·) k).trans h))
theorem sub_eq : ∀ a < 16, ∀ b < 16, Sub a b → (sz a).length = (sz b).length → a = b := by decide +kernel
theorem sub_lt : ∀ a < 16, ∀ b < 16, Sub a b → (sz a).length ≠ (sz b).length → (sz a).length < (sz b).length := by decide +kernel
theorem sub_anti : ∀ a < 16, ∀ b < 16, Sub a b → Sub b a → a = b := by decide +kernel
theorem or_sub : ∀ a < 16, ∀ b < 16, ∀ c < 16, Sub a c → Sub b c → Sub (a ||| b) c := fun a _ b _ c _ (h : a &&& c = a) (k : b &&& c = b) => show (a ||| b) &&& c = a ||| b from
  (Nat.and_or_distrib_right a b c).trans (by rw [h, k])
theorem or_same : ∀ a < 16, ∀ b < 16, a ||| b = a → Sub b a := by decide +kernel
theorem sz_pos : ∀ a < 16, a ≠ 0 → 1 ≤ (sz a).length := by decide +kernel
noncomputable def Lt16 (R : List (Nat × Nat)) : Prop := ∀ r ∈ R, r.1 < 16 ∧ r.2 < 16
theorem stepM_eq {g : Nat} {r : Nat × Nat} (hg : g < 16) (hr : r.1 < 16) : stepM g r = if (r.1 &&& g) == r.1 && r.1 != g then g ||| r.2 else g := by
  unfold stepM
  rw [step_test g hg r.1 hr]
theorem step_up {g : Nat} {r : Nat × Nat} (hg : g < 16) (hr : r.1 < 16 ∧ r.2 < 16) : Sub g (stepM g r) := by
  rw [stepM_eq hg hr.1]
  split
  · exact sub_or g hg _ hr.2
  · exact sub_refl g hg
theorem round_up : ∀ {R : List (Nat × Nat)} {g : Nat}, g < 16 → Lt16 R → Sub g (R.foldl stepM g)
  | [], g, hg, _ => sub_refl g hg
  | r :: R, g, hg, h => by
    have hr := h r (.head _)
    have h1 := stepM_lt hg hr.2
    have hR : Lt16 R := fun q hq => h q (.tail _ hq)
    show Sub g (R.foldl stepM (stepM g r))
    exact sub_tr g hg _ h1 _ (round_lt h1 hR) (step_up hg hr) (round_up h1 hR)
theorem round_fix : ∀ {R : List (Nat × Nat)} {g : Nat}, g < 16 → Lt16 R → R.foldl stepM g = g → ∀ r ∈ R, stepM g r = g
  | [], _, _, _, _, _, hr => absurd hr List.not_mem_nil
  | r :: R, g, hg, h, e, q, hq => by
    have hr := h r (.head _)
    have h1 := stepM_lt hg hr.2
    have hR : Lt16 R := fun q hq => h q (.tail _ hq)
    have e' : R.foldl stepM (stepM g r) = g := e
    have s1 := step_up hg hr
    have s2 := round_up h1 hR
    rw [e'] at s2
    have eq := sub_anti _ h1 g hg s2 s1
    rw [eq] at e'
    rcases List.mem_cons.mp hq with rfl | hq
    · exact eq
    · exact round_fix hg hR e' q hq
theorem fix_resp {R : List (Nat × Nat)} {g : Nat} (hg : g < 16) (h : Lt16 R) (e : R.foldl stepM g = g) : Resp R g := fun r hr a b => by
  have := round_fix hg h e r hr
  rw [stepM_eq hg (h r hr).1, if_pos (by rw [Bool.and_eq_true, beq_iff_eq, bne_iff_ne]; exact ⟨a, b⟩)] at this
  exact or_same g hg _ (h r hr).2 this
theorem round_in {h : Nat} (hh : h < 16) : ∀ {R : List (Nat × Nat)} {g : Nat}, g < 16 → Lt16 R → Resp R h → Sub g h → Sub (R.foldl stepM g) h
  | [], _, _, _, _, s => s
  | r :: R, g, hg, hl, hr, s => by
    have h16 := hl r (.head _)
    have h1 := stepM_lt hg h16.2
    show Sub (R.foldl stepM (stepM g r)) h
    refine round_in hh h1 (fun q hq => hl q (.tail _ hq)) (fun q hq => hr q (.tail _ hq)) ?_
    rw [stepM_eq hg h16.1]
    split
    · rename_i c
      rw [Bool.and_eq_true, beq_iff_eq, bne_iff_ne] at c
      have hp : Sub r.1 h := sub_tr _ h16.1 g hg h hh c.1 s
      have hne : r.1 ≠ h := fun z => c.2 (sub_anti _ h16.1 g hg c.1 (by rw [z]; exact s))
      exact or_sub g hg _ h16.2 h hh s (hr r (.head _) hp hne)
    · exact s
theorem led_in {h : Nat} (hh : h < 16) {R : List (Nat × Nat)} (hl : Lt16 R) (hr : Resp R h) : ∀ (n g : Nat), g < 16 → Sub g h → Sub (ledGo R n g) h
  | 0, _, _, s => s
  | n + 1, g, hg, s => by
    unfold ledGo
    have s1 := round_in hh hg hl hr s
    split
    · exact s1
    · exact led_in hh hl hr n _ (round_lt hg hl) s1
theorem led_up {R : List (Nat × Nat)} (hl : Lt16 R) : ∀ (n g : Nat), g < 16 → Sub g (ledGo R n g)
  | 0, g, hg => sub_refl g hg
  | n + 1, g, hg => by
    unfold ledGo
    have h1 := round_lt hg hl
    have s1 := round_up hg hl
    split
    · exact s1
    · exact sub_tr g hg _ h1 _ (ledGo_lt hl h1) s1 (led_up hl n _ h1)
theorem led_resp {R : List (Nat × Nat)} (hl : Lt16 R) : ∀ (n g : Nat), g < 16 → 5 ≤ (sz g).length + n → Resp R (ledGo R n g)
  | 0, g, hg, h => by have := sz_len hg; omega
  | n + 1, g, hg, h => by
    unfold ledGo
    have h1 := round_lt hg hl
    have s1 := round_up hg hl
    split
    · rename_i c
      have e := sub_eq g hg _ h1 s1 (beq_iff_eq.mp c).symm
      rw [← e]
      exact fix_resp hg hl e.symm
    · rename_i c
      have := sub_lt g hg _ h1 s1 fun z => c (beq_iff_eq.mpr z.symm)
      exact led_resp hl n _ h1 (by omega)
/- the leap -/
theorem new_bit : ∀ m < 16, ∀ x ∈ sizes4, (upto (sz m) x == below (sz m) x) = (m &&& bit x == 0) := by decide +kernel
theorem low_eq : ∀ a < 16, ∀ m < 16, ∀ x ∈ sizes4, (sz (lowM a x) == sz (lowM m x)) = (lowM a x == lowM m x) := by decide +kernel
theorem start_ok : ∀ m < 16, ∀ x ∈ sizes4, lowM m x ||| bit x < 16 ∧ lowM m x ||| bit x ≠ 0 ∧ 1 ≤ (sz (lowM m x ||| bit x)).length := by decide +kernel
theorem d1 : ∀ m < 16, ∀ g < 16, ∀ x ∈ sizes4, m &&& bit x = 0 → lowM g x = lowM m x → Sub (lowM m x ||| bit x) g → m < g := by decide +kernel
theorem d2 : ∀ m < 16, ∀ h < 16, m < h → ∃ x ∈ sizes4, m &&& bit x = 0 ∧ Sub (lowM m x ||| bit x) h ∧ lowM h x = lowM m x := by decide +kernel
theorem d4 : ∀ a < 16, ∀ b < 16, Sub a b → a ≤ b := by decide +kernel
theorem d5' : ∀ m < 16, ∀ x ∈ sizes4, ∀ h < 16, lowM h x = lowM m x → ∀ g < 16, (Sub (lowM m x ||| bit x) g ∧ Sub g h) → lowM g x = lowM m x := by decide +kernel
theorem d5 : ∀ m < 16, ∀ g < 16, ∀ h < 16, ∀ x ∈ sizes4, (Sub (lowM m x ||| bit x) g ∧ Sub g h ∧ lowM h x = lowM m x) → lowM g x = lowM m x := fun m hm g hg h hh x hx k => d5' m hm x hx h hh k.2.2 g hg ⟨k.1, k.2.1⟩
theorem d6' : ∀ m < 16, ∀ x ∈ sizes4, m &&& bit x = 0 → ∀ y ∈ sizes4, x < y → ∀ g < 16, lowM g y = lowM m y → ∀ h < 16, (Sub (lowM m x ||| bit x) h ∧ lowM h x = lowM m x) → g < h := by decide +kernel
theorem d6 : ∀ m < 16, ∀ g < 16, ∀ h < 16, ∀ x ∈ sizes4, ∀ y ∈ sizes4, (x < y ∧ lowM g y = lowM m y ∧ m &&& bit x = 0 ∧ Sub (lowM m x ||| bit x) h ∧ lowM h x = lowM m x) → g < h := fun m hm g hg h hh x hx y hy k => d6' m hm x hx k.2.2.1 y hy k.1 g hg k.2.1 h hh k.2.2.2
/-- the least such number above m -/
noncomputable def Next (R : List (Nat × Nat)) (m n : Nat) : Prop := m < n ∧ n < 16 ∧ Resp R n ∧ ∀ h, m < h → h < n → ¬ Resp R h
theorem least (P : Nat → Prop) : ∀ n, P n → ∃ k, P k ∧ ∀ j, j < k → ¬ P j := by
  intro n
  induction n using Nat.strongRecOn with
  | _ n ih =>
    intro hn
    by_cases h : ∃ j, j < n ∧ P j
    · obtain ⟨j, hj, pj⟩ := h
      exact ih j hj pj
    · exact ⟨n, hn, fun j hj pj => h ⟨j, hj, pj⟩⟩
theorem full_resp {R : List (Nat × Nat)} (hl : Lt16 R) : Resp R 15 := fun r hr _ _ => by
  have : ∀ e < 16, e &&& 15 = e := by decide
  exact this _ (hl r hr).2
theorem next_is {R : List (Nat × Nat)} (hl : Lt16 R) {m : Nat} (hm : m < 15) : ∃ n, Next R m n := by
  obtain ⟨k, ⟨h1, h2⟩, h3⟩ := least (fun n => m < n ∧ Resp R n) 15 ⟨hm, full_resp hl⟩
  have hk : k ≤ 15 := Nat.le_of_not_lt fun z => h3 15 z ⟨hm, full_resp hl⟩
  exact ⟨k, h1, by omega, h2, fun h a b c => h3 h b ⟨a, c⟩⟩
noncomputable def gAt (R : List (Nat × Nat)) (m : Nat) (x : Int) : Nat := ledGo R 4 (lowM m x ||| bit x)
noncomputable def okAt (R : List (Nat × Nat)) (m : Nat) (x : Int) : Bool := m &&& bit x == 0 && lowM (gAt R m x) x == lowM m x
theorem leap_cons {R : List (Nat × Nat)} (hl : Lt16 R) {m : Nat} (hm : m < 16) {x : Int} (hx : x ∈ sizes4) (l : List Int) : leapGo R m (x :: l) = if okAt R m x then gAt R m x else leapGo R m l := by
  have hg : gAt R m x < 16 := ledGo_lt hl (start_ok m hm x hx).1
  rw [leapGo, new_bit m hm x hx]
  unfold okAt
  show (if (m &&& bit x == 0) = true then (if (sz (lowM (gAt R m x) x) == sz (lowM m x)) = true then gAt R m x else leapGo R m l) else leapGo R m l) = _
  rw [low_eq _ hg m hm x hx]
  cases m &&& bit x == 0 <;> cases lowM (gAt R m x) x == lowM m x <;> rfl
theorem gAt_ok {R : List (Nat × Nat)} (hl : Lt16 R) {m : Nat} (hm : m < 16) {x : Int} (hx : x ∈ sizes4) : gAt R m x < 16 ∧ Resp R (gAt R m x) ∧ Sub (lowM m x ||| bit x) (gAt R m x) := by
  obtain ⟨a, _, c⟩ := start_ok m hm x hx
  exact ⟨ledGo_lt hl a, led_resp hl 4 _ a (by omega), led_up hl 4 _ a⟩
theorem leap_at {R : List (Nat × Nat)} (hl : Lt16 R) {m n : Nat} (hm : m < 16) (hn : Next R m n) {x : Int} (hx : x ∈ sizes4) (hb : m &&& bit x = 0) (hs : Sub (lowM m x ||| bit x) n) (hlo : lowM n x = lowM m x) :
    (okAt R m x = true ∧ gAt R m x = n) ∧ ∀ y ∈ sizes4, x < y → okAt R m y = false := by
  obtain ⟨n1, n2, n3, n4⟩ := hn
  obtain ⟨g1, g2, g3⟩ := gAt_ok hl hm hx
  have s : Sub (gAt R m x) n := led_in n2 hl n3 4 _ (start_ok m hm x hx).1 hs
  have hlow := d5 m hm _ g1 n n2 x hx ⟨g3, s, hlo⟩
  refine ⟨⟨?_, ?_⟩, fun y hy hxy => ?_⟩
  · unfold okAt
    rw [hlow, hb]; simp
  · have lt := d1 m hm _ g1 x hx hb hlow g3
    have le := d4 _ g1 n n2 s
    rcases Nat.lt_or_ge (gAt R m x) n with h | h
    · exact (n4 _ lt h g2).elim
    · omega
  · obtain ⟨y1, y2, y3⟩ := gAt_ok hl hm hy
    cases c : okAt R m y with
    | false => rfl
    | true =>
      unfold okAt at c
      rw [Bool.and_eq_true, beq_iff_eq, beq_iff_eq] at c
      have lt := d1 m hm _ y1 y hy c.1 c.2 y3
      have gt := d6 m hm _ y1 n n2 x hx y hy ⟨hxy, c.2, hb, hs, hlo⟩
      exact (n4 _ lt gt y2).elim
theorem leap_next {R : List (Nat × Nat)} (hl : Lt16 R) {m : Nat} (hm : m < 15) : Next R m (leapGo R m sizes4) := by
  obtain ⟨n, hn⟩ := next_is hl hm
  have hm' : m < 16 := by omega
  obtain ⟨x, hx, hb, hs, hlo⟩ := d2 m hm' n hn.2.1 hn.1
  obtain ⟨⟨a, b⟩, c⟩ := leap_at hl hm' hn hx hb hs hlo
  have e4 := leap_cons hl hm' (x := 4) (by decide) [3, 2, 1]
  have e3 := leap_cons hl hm' (x := 3) (by decide) [2, 1]
  have e2 := leap_cons hl hm' (x := 2) (by decide) [1]
  have e1 := leap_cons hl hm' (x := 1) (by decide) []
  have key : leapGo R m sizes4 = n := by
    show leapGo R m [4, 3, 2, 1] = n
    simp only [List.mem_cons, List.not_mem_nil, or_false] at hx
    rcases hx with rfl | rfl | rfl | rfl
    · rw [e4, a, if_pos rfl, b]
    · rw [e4, c 4 (by decide) (by decide), if_neg Bool.false_ne_true, e3, a, if_pos rfl, b]
    · rw [e4, c 4 (by decide) (by decide), if_neg Bool.false_ne_true, e3, c 3 (by decide) (by decide), if_neg Bool.false_ne_true, e2, a, if_pos rfl, b]
    · rw [e4, c 4 (by decide) (by decide), if_neg Bool.false_ne_true, e3, c 3 (by decide) (by decide), if_neg Bool.false_ne_true, e2, c 2 (by decide) (by decide), if_neg Bool.false_ne_true, e1, a, if_pos rfl, b]
  rw [key]
  exact hn
end Tc
set_option maxHeartbeats 4000000
namespace Tc
open PySem PySem.Calls PyProof.Rows PySem.W
noncomputable def Dn (ms : List Nat) (n : Nat) : List (Nat × Nat) × List (Nat × Nat) := (List.range n).foldl (defStep ms) ([], [])
theorem Dn_succ (ms : List Nat) (n : Nat) : Dn ms (n + 1) = defStep ms (Dn ms n) n := by
  unfold Dn
  rw [List.range_succ, List.foldl_append]
  rfl
/-- a base's premises are below n -/
noncomputable def Below' (R : List (Nat × Nat)) (n : Nat) : Prop := ∀ r ∈ R, r.1 < n ∧ r.2 < 16
theorem bad_resp {R : List (Nat × Nat)} {h : Nat} (hb : Below' R h) : (R.filter (badFor h) == []) = true ↔ Resp R h := by
  rw [beq_iff_eq, List.filter_eq_nil_iff]
  constructor
  · intro H r hr a _
    have := H r hr
    unfold badFor at this
    rw [a, beq_self_eq_true, Bool.true_and, bne_iff_ne] at this
    exact Decidable.not_not.mp this
  · intro H r hr q
    unfold badFor at q
    rw [Bool.and_eq_true, beq_iff_eq, bne_iff_ne] at q
    exact q.2 (H r hr q.1 (Nat.ne_of_lt (hb r hr).1))
theorem def_yes {ms : List Nat} {st : List (Nat × Nat) × List (Nat × Nat)} {h : Nat} (hb : Below' st.2 h) (hr : Resp st.2 h) : defStep ms st h = (st.1 ++ [(h, meetOf ms h)], addR ms st.2 h) := by
  unfold defStep addR
  rw [if_pos ((bad_resp hb).mpr hr)]
theorem def_no {ms : List Nat} {st : List (Nat × Nat) × List (Nat × Nat)} {h : Nat} (hb : Below' st.2 h) (hr : ¬ Resp st.2 h) : defStep ms st h = st := by
  unfold defStep
  rw [if_neg fun z => hr ((bad_resp hb).mp z)]
theorem addR_below {ms : List Nat} (hm : ∀ m ∈ ms, m < 16) {R : List (Nat × Nat)} {m : Nat} (hb : Below' R m) : Below' (addR ms R m) (m + 1) := fun r hr => by
  unfold addR at hr
  split at hr
  · rcases List.mem_append.mp hr with h | h
    · have := hb r h; exact ⟨by omega, this.2⟩
    · rw [List.mem_singleton.mp h]; exact ⟨Nat.lt_succ_self _, meetOf_lt hm m⟩
  · have := hb r hr; exact ⟨by omega, this.2⟩
theorem Below'.up {R : List (Nat × Nat)} {m n : Nat} (hb : Below' R m) (h : m ≤ n) : Below' R n := fun r hr => ⟨Nat.lt_of_lt_of_le (hb r hr).1 h, (hb r hr).2⟩
/-- what is passed over changes nothing -/
theorem skip {ms : List Nat} {a : Nat} (hb : Below' (Dn ms a).2 a) : ∀ (d : Nat), (∀ h, a ≤ h → h < a + d → ¬ Resp (Dn ms a).2 h) → Dn ms (a + d) = Dn ms a
  | 0, _ => rfl
  | d + 1, H => by
    have ih := skip hb d fun h h1 h2 => H h h1 (by omega)
    rw [← Nat.add_assoc, Dn_succ, ih]
    exact def_no (hb.up (Nat.le_add_right _ _)) (H (a + d) (Nat.le_add_right _ _) (by omega))
theorem ganter {ms : List Nat} (hm : ∀ m ∈ ms, m < 16) : ∀ (n m : Nat) (told rules : List (Nat × Nat)), Dn ms m = (told, rules) → m < 16 → Below' rules m → Resp rules m → 16 ≤ n + m → gGo ms n told rules m = (Dn ms 16).1
  | 0, m, _, _, _, h16, _, _, hn => by omega
  | n + 1, m, told, rules, hD, h16, hb, hr, hn => by
    have hD1 : Dn ms (m + 1) = (told ++ [(m, meetOf ms m)], addR ms rules m) := by
      rw [Dn_succ, hD]
      exact def_yes (st := (told, rules)) hb hr
    unfold gGo
    by_cases h15 : m = 15
    · subst h15
      rw [if_pos (beq_self_eq_true _), hD1]
    · rw [if_neg (by rw [beq_iff_eq]; exact h15)]
      have hb1 := addR_below hm hb
      have hl : Lt16 (addR ms rules m) := fun r hr => by have := hb1 r hr; exact ⟨by omega, this.2⟩
      obtain ⟨n1, n2, n3, n4⟩ := leap_next hl (m := m) (by omega)
      generalize leapGo (addR ms rules m) m sizes4 = m' at n1 n2 n3 n4
      have hsk : Dn ms m' = Dn ms (m + 1) := by
        have := skip (ms := ms) (a := m + 1) (by rw [hD1]; exact hb1) (m' - (m + 1)) fun h h1 h2 => by
          rw [hD1]
          exact n4 h (by omega) (by omega)
        rw [show m + 1 + (m' - (m + 1)) = m' from by omega] at this
        exact this
      exact ganter hm n m' _ _ (hsk.trans hD1) n2 (hb1.up n1) n3 (by omega)
theorem gGo_byDef {ms : List Nat} (hm : ∀ m ∈ ms, m < 16) : gGo ms 16 [] [] 0 = byDef ms :=
  ganter hm 16 0 [] [] rfl (by decide) (fun r hr => absurd hr List.not_mem_nil) (fun r hr => absurd hr List.not_mem_nil) (by decide)
theorem plain (f : Int) (ls : List Int) (hls : ls.length = 5) : Plain (zOf (broadOf f) (spareOf f)) ls := by
  have hb := (lead_bound f).bnd
  generalize zOf (broadOf f) (spareOf f) = zb at hb
  obtain ⟨I, hlen⟩ := inv_all hb ls ls.length
  have I : Inv (tblOf zb ls) (enOf zb ls) := I
  have hlen : (tblOf zb ls).length ≤ 5 * ls.length := hlen
  have m16 : ∀ m ∈ (enOf zb ls).ms, m < 16 := fun m hm => by
    obtain ⟨q, hq, e⟩ := List.mem_iff_getElem.mp hm
    have hq' : q < (enOf zb ls).ks.length := by rw [I.ln]; exact hq
    obtain ⟨hd, vs, e1, e2, e3, e4⟩ := I.pt _ (List.getElem_mem hq')
    rw [I.nd.idxOf_getElem q hq', List.getD_eq_getElem?_getD, List.getElem?_eq_getElem hq] at e4
    have e5 : m = vs.foldl (fun m p => m ||| bitV p.2) 0 := e.symm.trans e4
    rw [e5]
    have : ∀ (l : List (Str × Str)) (a : Nat), a < 16 → (∀ p ∈ l, IsVal p.2) → l.foldl (fun m p => m ||| bitV p.2) a < 16 := by
      intro l
      induction l with
      | nil => exact fun a h _ => h
      | cons p l ih =>
        intro a ha hv
        obtain ⟨⟨ts, hts, hc⟩, _⟩ := hv p (.head _)
        exact ih _ (or_lt _ ha _ (by rw [bitV_of hc]; exact (bit_ts ts hts).1)) fun q hq => hv q (.tail _ hq)
    exact this vs 0 (by decide) e3
  have hrows := rows_eq I
  refine ⟨⟨by omega, fun p hp => (I.of p hp).1, fun nm hnm p hp => ?_⟩, fun p hp => ⟨(I.of p hp).1.ok, (I.of p hp).2.1⟩, by rw [hrows]; exact m16, I.es, by rw [hrows]; exact gGo_byDef m16⟩
  have : lowerS nm ∈ (namesOf (tblOf zb ls)).map lowerS := List.mem_map_of_mem hnm
  rw [I.nm] at this
  obtain ⟨i, hi, e⟩ := List.mem_map.mp this
  obtain ⟨hd, vs, e1, e2, e3, e4⟩ := I.pt i hi
  rw [hits_same e.symm, e1, List.drop_one, List.tail_cons] at hp
  obtain ⟨⟨ts, hts, hc⟩, hl, _⟩ := e3 p hp
  exact ⟨ts, hts, hc, hl⟩
theorem law_true {w : World} {A : Around} {T : Tr} {k : Nat} {rs : V} {script : List Int} (F : Fine A (k + 7)) (hr : rs.asList = some (script.map .int)) (hlen : script.length ≤ 63) : Cl (model prg w) A (.ref 397) (Wd w T) T [rs] (fun _ v => v = .bool true) := law_cl plain F hr hlen
end Tc
namespace Tc
open PySem PySem.Calls PyProof.Rows PySem.W
section
variable {w : World} {A : Around} {E : Value → Shared → Prop} {s : Shared} {K : Type} [DecidableEq K] {knd : KeyKind prg w K}
noncomputable def Nx (s s' : Shared) (k t : Nat) : Prop := ∃ h', s' = { s with heap := h', toks := s.toks + t } ∧ h'.objs.size = s.heap.objs.size + k ∧ (∀ a, a < s.heap.objs.size → h'.get? a = s.heap.get? a) ∧ h'.life = s.heap.life
theorem Nx.refl (s : Shared) : Nx s s 0 0 := ⟨s.heap, rfl, rfl, fun _ _ => rfl, rfl⟩
theorem Nx.trans {s s1 s2 : Shared} {k t k' t' : Nat} (x : Nx s s1 k t) (y : Nx s1 s2 k' t') : Nx s s2 (k + k') (t + t') := by
  obtain ⟨h1, rfl, a1, b1, c1⟩ := x
  obtain ⟨h2, rfl, a2, b2, c2⟩ := y
  refine ⟨h2, by simp [Nat.add_assoc], ?_, fun a ha => ?_, c2.trans c1⟩
  · rw [a2]; show h1.objs.size + k' = _; rw [a1, Nat.add_assoc]
  · rw [b2 a (by show a < h1.objs.size; omega)]; exact b1 a ha
theorem fresh_idx {kvs : List (K × Value)} {k : K} (h : k ∉ kvs.map (·.1)) : (kvs.findIdx? fun kv => decide (kv.1 = k)) = none := by
  rw [List.findIdx?_eq_none_iff]
  intro x hx
  have : x.1 ≠ k := fun e => h (e ▸ List.mem_map_of_mem hx)
  simpa using this
theorem dictOf_push {h : Heap} {d : Addr} {kvs : List (K × Value)} {k : K} {key v : Value} {o : Obj} {es ep} (ho : h.get? d = some o) (hc : o.ExactDict) (hd : o.data = .dict es ep) (hk : KeysOf knd es) (hp : Pairs knd es.toList kvs) (hn : (kvs.map (·.1)).Nodup) (hkey : knd.is k key = true) (hf : k ∉ kvs.map (·.1)) :
    (h.update d (Obj.mapDictKeys (·.push ⟨knd.hash k, key, v⟩))).DictOf knd d (kvs ++ [(k, v)]) := by
  refine ⟨_, _, ep + 1, Heap.get?_update_self _ ho (Obj.isFreed_of_dict (Obj.data_mapDictKeys hd _)), hc.mapDictKeys _, Obj.data_mapDictKeys hd _, hk.push hkey _, ?_, ?_⟩
  · have := hp.append hkey (knd.hash k) v
    obtain ⟨l⟩ := es
    simpa using this
  · rw [List.map_append, List.nodup_append]
    refine ⟨hn, by simp, ?_⟩
    intro a ha b hb
    simp only [List.map_cons, List.map_nil, List.mem_singleton] at hb
    subst hb
    exact fun e => hf (e ▸ ha)
theorem life_update (h : Heap) (a : Addr) (f : Obj → Obj) : (h.update a f).life = h.life := by cases h; rfl
theorem dictPut_new {d : Addr} {kvs : List (K × Value)} {k : K} {key v : Value} {Q : Unit → Shared → Prop} (hkey : knd.is k key = true) (hm : s.heap.DictOf knd d kvs) (hf : k ∉ kvs.map (·.1)) (hsz : kvs.length ≤ sizeLine)
    (hQ : ∀ h', h'.DictOf knd d (kvs ++ [(k, v)]) → Heap.SameBut d s.heap h' → h'.life = s.heap.life → Q () { s with heap := h' }) :
    wpAny (model prg w) A (dictPut d (knd.hash k) key v) Q E s := by
  obtain ⟨o, es, ep, ho, hc, hd, hk, hp, hn⟩ := hm
  have hes : es.size ≤ sizeLine := by have e1 := hp.length; have e2 : es.toList.length = es.size := by simp
                                      omega
  have hidx : (es.findIdx? fun e => knd.is k e.key) = none := by
    rw [← fresh_idx hf, ← hp.findIdx k]; obtain ⟨l⟩ := es; simp
  unfold dictPut
  refine wpAny_bind (wpAny_dictFind_of hkey ho hd hk ?_)
  rw [hidx]
  exact wpAny_updateDictKeys (hz := hes) ho hd (hQ _ (dictOf_push ho hc hd hk hp hn hkey hf) (Heap.SameBut.update ..) (life_update ..))
theorem dictSet_new {d : Addr} {kvs : List (K × Value)} {k : K} {key v : Value} {Q : Unit → Shared → Prop} (hkey : knd.is k key = true) (hm : s.heap.DictOf knd d kvs) (hf : k ∉ kvs.map (·.1)) (hsz : kvs.length ≤ sizeLine)
    (hQ : ∀ h', h'.DictOf knd d (kvs ++ [(k, v)]) → Heap.SameBut d s.heap h' → h'.life = s.heap.life → Q () { s with heap := h', toks := s.toks + 1 }) :
    wpAny (model prg w) A (dictSet d key v) Q E s := by
  obtain ⟨o, es, ep, ho, hc, hd, hk, hp, hn⟩ := hm
  have hes : es.size ≤ sizeLine := by have e1 := hp.length; have e2 : es.toList.length = es.size := by simp
                                      omega
  have hidx : (es.findIdx? fun e => knd.is k e.key) = none := by
    rw [← fresh_idx hf, ← hp.findIdx k]; obtain ⟨l⟩ := es; simp
  unfold dictSet
  try with_reducible refine wpAny_holding ?_
  refine wpAny_bind (knd.pyHash hkey ?_)
  unfold dictSetHashed
  try with_reducible refine wpAny_holding ?_
  refine wpAny_bind (wpAny_dictFind_of (s := { s with toks := s.toks + 1 }) hkey ho hd hk ?_)
  rw [hidx]
  refine wpAny_bind (wpAny_rule (wpAny_updateDictKeys (hz := hes) (s := { s with toks := s.toks + 1 }) ho hd (hQ _ (dictOf_push ho hc hd hk hp hn hkey hf) (Heap.SameBut.update ..) (life_update ..))))
theorem Pairs.nth {es : List DictEntry} {kvs : List (K × Value)} (h : Pairs knd es kvs) : ∀ i, i < es.length → ∃ e kv, es[i]? = some e ∧ kvs[i]? = some kv ∧ knd.is kv.1 e.key = true ∧ e.val = kv.2 := by
  induction h with
  | nil => intro i hi; exact absurd hi (Nat.not_lt_zero _)
  | @cons e kv es kvs h1 h2 _ ih =>
    intro i hi
    cases i with
    | zero => exact ⟨e, kv, rfl, rfl, h1, h2⟩
    | succ i => exact ih i (by simpa using hi)
theorem spec_dict_iter : typeLookup (.type "dict") (S "__iter__") = pure (some (.builtin "dict.__iter__")) := by kernel_rfl
theorem merge_new {d a : Addr} {kvs kvs' : List (K × Value)} {Q : Unit → Shared → Prop} (hm : s.heap.DictOf knd d kvs) (hm' : s.heap.DictOf knd a kvs') (hne : kvs ≠ []) (hda : d ≠ a) (hsys : a ≠ sysModules) (hn : ((kvs ++ kvs').map (·.1)).Nodup) (hsz : kvs.length + kvs'.length ≤ sizeLine)
    (hQ : ∀ h', h'.DictOf knd d (kvs ++ kvs') → Heap.SameBut d s.heap h' → h'.life = s.heap.life → Q () { s with heap := h' }) :
    wpAny (model prg w) A (mergeMapping d (.ref a) false) Q E s := by
  have hty : s.TypeIs (.ref a) "dict" := hm'.typeIs
  obtain ⟨o, es, ep, ho, hc, hd, hk, hp, hn1⟩ := id hm
  obtain ⟨o', es', ep', ho', hc', hd', hk', hp', hn'⟩ := hm'
  unfold mergeMapping
  have hi : isSubtype (.type "dict") (.type "dict") = pure true := by kernel_rfl
  have hb : (some (Value.builtin "dict.__iter__") == some (Value.builtin "dict.__iter__")) = true := by decide +kernel
  have hs2 : (a == sysModules) = false := by simpa using hsys
  have hes : es.isEmpty = false := by
    have e1 := hp.length
    cases kvs with
    | nil => exact absurd rfl hne
    | cons x l => rw [List.length_cons] at e1
                  obtain ⟨l'⟩ := es
                  cases l' with
                  | nil => simp at e1
                  | cons => rfl
  refine wpAny_bind (wpAny_isInstance hty hi ?_)
  dsimp only
  rw [if_pos rfl]
  refine wpAny_bind (wpAny_specialOf hty spec_dict_iter ?_)
  refine wpAny_bind (wpAny_pure ?_)
  rw [hb]
  dsimp only
  rw [hs2, if_neg Bool.false_ne_true]
  refine wpAny_bind (wpAny_dictEntries ho hd ?_)
  rw [hes, if_neg Bool.false_ne_true]
  refine wpAny_bind (wpAny_dictEntries ho' hd' ?_)
  refine wpAny_bind (wpAny_dictEpoch ho' hd' ?_)
  have hl' : es'.size = kvs'.length := by rw [← hp'.length]; simp
  refine wpAny_bind ?_
  rw [List.range_eq_range']
  refine wpAny_forIn_list _ (fun rest _ s' => ∃ i h', rest = List.range' i (es'.size - i) ∧ i ≤ es'.size ∧ h'.DictOf knd d (kvs ++ kvs'.take i) ∧ Heap.SameBut d s.heap h' ∧ h'.life = s.heap.life ∧ s' = { s with heap := h' }) _ ?_ ?_ _ _
    ⟨0, s.heap, by rw [Nat.sub_zero], Nat.zero_le _, by simpa using hm, Heap.SameBut.refl _ _, rfl, rfl⟩
  · rintro x rest b s' ⟨i, h', hr, hi, hD, hS, hL, rfl⟩
    have hlt : i < es'.size := by
      rcases Nat.lt_or_ge i es'.size with q | q
      · exact q
      · rw [Nat.sub_eq_zero_of_le q] at hr; exact nomatch hr
    rw [show es'.size - i = (es'.size - (i + 1)) + 1 by omega, List.range'_succ] at hr
    injection hr with hx hr
    subst hx
    obtain ⟨e, kv, he, hkv, hik, hv⟩ := Pairs.nth hp' x (by simpa using hlt)
    have he' : es'[x]? = some e := by rw [← he]; simp
    have ha : h'.get? a = some o' := by rw [hS.2 a (Ne.symm hda)]; exact ho'
    obtain ⟨k0, hk0, hh⟩ := hk' e (Array.mem_of_getElem? he')
    have hk0 : k0 = kv.1 := knd.inj _ _ _ hk0 hik
    have htk : kvs'.take (x + 1) = kvs'.take x ++ [kv] := by rw [List.take_add_one, hkv]; rfl
    have hnew : kv.1 ∉ (kvs ++ kvs'.take x).map (·.1) := by
      have hn2 : ((kvs ++ kvs'.take x ++ [kv]) ++ kvs'.drop (x + 1)).map (·.1) = (kvs ++ kvs').map (·.1) := by
        rw [List.append_assoc kvs, ← htk, List.append_assoc, List.take_append_drop]
      have hn3 := hn
      rw [← hn2, List.map_append, List.map_append, List.nodup_append, List.nodup_append] at hn3
      exact fun q => hn3.1.2.2 _ q _ (.head _) rfl
    refine wpAny_bind (wpAny_dictEntries (s := { s with heap := h' }) ha hd' ?_)
    rw [he']
    dsimp only
    refine wpAny_bind (wpAny_holding ?_)
    rw [if_neg Bool.false_ne_true, hh, hk0]
    refine dictPut_new (kvs := kvs ++ kvs'.take x) hik hD hnew (by rw [List.length_append, List.length_take]; omega) fun h2 hD2 hS2 hL2 => ?_
    refine wpAny_bind (wpAny_dictEpoch (s := { s with heap := h2 }) (by rw [hS2.2 a (Ne.symm hda)]; exact ha) hd' ?_)
    rw [show (ep' != ep') = false by simp, if_neg Bool.false_ne_true]
    have hq : (kv.1, e.val) = kv := by rw [hv]
    rw [hq] at hD2
    exact wpAny_pure ⟨x + 1, h2, hr, hlt, by rw [htk, ← List.append_assoc]; exact hD2, hS.trans hS2, hL2.trans hL, rfl⟩
  · rintro b s' ⟨i, h', hr, hi, hD, hS, hL, rfl⟩
    have hge : es'.size ≤ i := by
      rcases Nat.lt_or_ge i es'.size with q | q
      · rw [show es'.size - i = (es'.size - (i + 1)) + 1 by omega, List.range'_succ] at hr; exact nomatch hr
      · exact q
    rw [List.take_of_length_le (by omega)] at hD
    exact wpAny_pure (hQ h' hD hS hL)
end
section
variable {w : World} {A : Around} {E : Value → Shared → Prop} {s : Shared}
noncomputable def ent (kvs : List (Int × Value)) : List (Int × Option Str) := kvs.map fun p => (p.1, strOf p.2)
noncomputable def ents (l : List (Int × Str)) : List (Int × Option Str) := l.map fun q => (q.1, some q.2)
theorem ent_keys {kvs : List (Int × Value)} {l : List (Int × Str)} (h : ent kvs = ents l) : kvs.map (·.1) = l.map (·.1) := by
  have := congrArg (List.map (·.1)) h
  rw [ent, ents, List.map_map, List.map_map] at this
  exact this
theorem ent_app {a b : List (Int × Value)} : ent (a ++ b) = ent a ++ ent b := by simp [ent]
theorem ents_app {a b : List (Int × Str)} : ents (a ++ b) = ents a ++ ents b := by simp [ents]
theorem ent_len {kvs : List (Int × Value)} {l : List (Int × Str)} (h : ent kvs = ents l) : kvs.length = l.length := by
  have := congrArg List.length h
  simpa [ent, ents] using this
/-- a pair of plain constants -/
noncomputable def Cst (w : World) (p : Sem Value × Sem Value) (q : Int × Str) : Prop :=
  (∀ {A : Around} {E : Value → Shared → Prop} {s : Shared} {Q : Value → Shared → Prop}, Q (.int q.1 s.toks) { s with toks := s.toks + 1 } → wpAny (model prg w) A p.1 Q E s) ∧
  ∀ {A : Around} {E : Value → Shared → Prop} {s : Shared} {Q : Value → Shared → Prop}, Q (.str q.2 s.toks) { s with toks := s.toks + 1 } → wpAny (model prg w) A p.2 Q E s
inductive Csts (w : World) : List (Sem Value × Sem Value) → List (Int × Str) → Prop
  | nil : Csts w [] []
  | cons {p q ps qs} : Cst w p q → Csts w ps qs → Csts w (p :: ps) (q :: qs)
theorem Csts.length {ps qs} (h : Csts w ps qs) : ps.length = qs.length := by induction h with
  | nil => rfl
  | cons _ _ ih => simp [ih]
theorem Csts.snoc {ps qs p q} (h : Csts w ps qs) (c : Cst w p q) : Csts w (ps ++ [p]) (qs ++ [q]) := by induction h with
  | nil => exact .cons c .nil
  | cons c' _ ih => exact .cons c' ih
theorem longFill {d : Addr} {pairs : List (Sem Value × Sem Value)} {ql : List (Int × Str)} (hc : Csts w pairs ql) : ∀ {s : Shared} {kvs : List (Int × Value)} {Q : PUnit → Shared → Prop}, s.heap.DictOf (intKind prg w) d kvs → ((kvs.map (·.1)) ++ ql.map (·.1)).Nodup → kvs.length + ql.length ≤ sizeLine →
    (∀ h' kvs', ent kvs' = ents ql → h'.DictOf (intKind prg w) d (kvs ++ kvs') → Heap.SameBut d s.heap h' → h'.life = s.heap.life → Q ⟨⟩ { s with heap := h', toks := s.toks + 3 * ql.length }) →
    wpAny (model prg w) A (forIn pairs PUnit.unit fun (x : Sem Value × Sem Value) (_ : PUnit) => (do
        let kv ← x.1
        let vv ← holding [kv] x.2
        holding [kv, vv] (dictSet d kv vv)
        pure (ForInStep.yield PUnit.unit) : Sem (ForInStep PUnit))) Q E s := by
  induction hc with
  | nil =>
    intro s kvs Q hm _ _ hQ
    rw [List.forIn_nil]
    exact wpAny_pure (hQ s.heap [] rfl (by simpa using hm) (Heap.SameBut.refl _ _) rfl)
  | @cons p q ps qs c _ ih =>
    intro s kvs Q hm hn hsz hQ
    rw [List.map_cons, List.nodup_append] at hn
    obtain ⟨hn1, hn2, hn3⟩ := hn
    rw [List.nodup_cons] at hn2
    have hfr : q.1 ∉ kvs.map (·.1) := fun m => hn3 _ m _ (.head _) rfl
    rw [List.length_cons] at hsz
    rw [List.forIn_cons]
    refine wpAny_bind (wpAny_bind (c.1 ?_))
    refine wpAny_bind (wpAny_holding (c.2 ?_))
    refine wpAny_bind (wpAny_holding (dictSet_new (knd := intKind prg w) (k := q.1) (by simp [intKind, Value.isInt]) hm hfr (by omega) fun h1 hm1 hs1 hl1 => wpAny_pure ?_))
    refine ih hm1 ?_ (by rw [List.length_append]; simp; omega) fun h2 kvs' he hm2 hs2 hl2 => ?_
    · rw [List.map_append, List.append_assoc, List.nodup_append]
      refine ⟨hn1, ?_, fun a ha b hb => ?_⟩
      · rw [List.map_cons, List.map_nil, List.singleton_append, List.nodup_cons]; exact hn2
      · simp only [List.map_cons, List.map_nil, List.singleton_append] at hb
        exact hn3 a ha b hb
    · have := hQ h2 ((q.1, .str q.2 (s.toks + 1)) :: kvs') (by simp only [ent, ents, List.map_cons] at he ⊢; rw [he]; rfl) (by rw [List.append_assoc] at hm2; exact hm2) (hs1.trans hs2) (hl2.trans hl1)
      have e : s.toks + 1 + 1 + 1 + 3 * qs.length = s.toks + 3 * (q :: qs).length := by rw [List.length_cons]; omega
      rw [← e] at this
      exact this
inductive Vls : List (Value × Value) → List (Int × Str) → Prop
  | nil : Vls [] []
  | cons {t u q ps qs} : Vls ps qs → Vls ((.int q.1 t, .str q.2 u) :: ps) (q :: qs)
theorem Vls.length {ps qs} (h : Vls ps qs) : ps.length = qs.length := by induction h with
  | nil => rfl
  | cons _ ih => simp [ih]
theorem evals_csts {pairs : List (Sem Value × Sem Value)} {ql : List (Int × Str)} (hc : Csts w pairs ql) : ∀ {s : Shared} {Q : List (Value × Value) → Shared → Prop},
    (∀ vs, Vls vs ql → Q vs { s with toks := s.toks + 2 * ql.length }) → wpAny (model prg w) A (evalPairs pairs) Q E s := by
  induction hc with
  | nil => intro s Q hQ; exact evalPairs_nil (hQ [] .nil)
  | @cons p q ps qs c _ ih =>
    intro s Q hQ
    refine evalPairs_cons (c.1 (c.2 (ih fun vs hv => ?_)))
    have := hQ _ (.cons (t := s.toks) (u := s.toks + 1) (q := q) hv)
    have e : s.toks + 1 + 1 + 2 * qs.length = s.toks + 2 * (q :: qs).length := by rw [List.length_cons]; omega
    rw [← e] at this
    exact this
theorem storeVls {d : Addr} {vs : List (Value × Value)} {ql : List (Int × Str)} (hc : Vls vs ql) : ∀ {s : Shared} {kvs : List (Int × Value)} {Q : PUnit → Shared → Prop}, s.heap.DictOf (intKind prg w) d kvs → ((kvs.map (·.1)) ++ ql.map (·.1)).Nodup → kvs.length + ql.length ≤ sizeLine →
    (∀ h' kvs', ent kvs' = ents ql → h'.DictOf (intKind prg w) d (kvs ++ kvs') → Heap.SameBut d s.heap h' → h'.life = s.heap.life → Q ⟨⟩ { s with heap := h', toks := s.toks + ql.length }) →
    wpAny (model prg w) A (forIn vs PUnit.unit fun (x : Value × Value) (_ : PUnit) => (do dictSet d x.1 x.2; pure (ForInStep.yield PUnit.unit) : Sem (ForInStep PUnit))) Q E s := by
  induction hc with
  | nil =>
    intro s kvs Q hm _ _ hQ
    rw [List.forIn_nil]
    exact wpAny_pure (hQ s.heap [] rfl (by simpa using hm) (Heap.SameBut.refl _ _) rfl)
  | @cons t u q ps qs _ ih =>
    intro s kvs Q hm hn hsz hQ
    rw [List.map_cons, List.nodup_append] at hn
    obtain ⟨hn1, hn2, hn3⟩ := hn
    rw [List.nodup_cons] at hn2
    have hfr : q.1 ∉ kvs.map (·.1) := fun m => hn3 _ m _ (.head _) rfl
    rw [List.length_cons] at hsz
    rw [List.forIn_cons]
    refine wpAny_bind (wpAny_bind (dictSet_new (knd := intKind prg w) (k := q.1) (by simp [intKind, Value.isInt]) hm hfr (by omega) fun h1 hm1 hs1 hl1 => wpAny_pure ?_))
    refine ih hm1 ?_ (by rw [List.length_append]; simp; omega) fun h2 kvs' he hm2 hs2 hl2 => ?_
    · rw [List.map_append, List.append_assoc, List.nodup_append]
      refine ⟨hn1, ?_, fun a ha b hb => ?_⟩
      · rw [List.map_cons, List.map_nil, List.singleton_append, List.nodup_cons]; exact hn2
      · simp only [List.map_cons, List.map_nil, List.singleton_append] at hb
        exact hn3 a ha b hb
    · have := hQ h2 ((q.1, .str q.2 u) :: kvs') (by simp only [ent, ents, List.map_cons] at he ⊢; rw [he]; rfl) (by rw [List.append_assoc] at hm2; exact hm2) (hs1.trans hs2) (hl2.trans hl1)
      have e : s.toks + 1 + qs.length = s.toks + (q :: qs).length := by rw [List.length_cons]; omega
      rw [← e] at this
      exact this
theorem sub_new {pairs : List (Sem Value × Sem Value)} {ql : List (Int × Str)} {Q : Addr → Shared → Prop} (hc : Csts w pairs ql) (hn : (ql.map (·.1)).Nodup) (hsz : ql.length ≤ sizeLine)
    (hQ : ∀ s' kvs, Nx s s' 1 (3 * ql.length) → ent kvs = ents ql → s'.heap.DictOf (intKind prg w) s.heap.objs.size kvs → Q s.heap.objs.size s') :
    wpAny (model prg w) A (subDict pairs) Q E s := by
  have hsame : ∀ {h' : Heap}, Heap.SameBut s.heap.objs.size (s.heap.push { cls := .type "dict", data := .dict #[] }) h' → h'.life = s.heap.life → Nx s { s with heap := h', toks := s.toks + 3 * ql.length } 1 (3 * ql.length) := by
    intro h' hs hl
    refine ⟨h', rfl, by rw [hs.1, Heap.size_push], fun a ha => ?_, hl⟩
    rw [hs.2 a (Nat.ne_of_lt ha)]
    have hx : (s.heap.push { cls := .type "dict", data := .dict #[] }).objs[a]? = s.heap.objs[a]? := by
      generalize s.heap = g at ha ⊢
      cases g
      simp only [Heap.push]
      rw [Array.getElem?_push, if_neg (Nat.ne_of_lt ha)]
    unfold Heap.get?
    rw [hx]
  unfold subDict
  refine wpAny_bind (wpAny_alloc ?_)
  refine wpAny_bind (wpAny_holding ?_)
  have hl := hc.length
  by_cases h15 : pairs.length ≤ 15
  · rw [if_pos h15]
    refine wpAny_bind (evals_csts hc fun vs hv => ?_)
    refine wpAny_holding (wpAny_bind (storeVls hv (kvs := []) (Heap.DictOf.new _) (by simpa using hn) (by simpa using hsz) fun h' kvs' he hm hs hl => wpAny_pure ?_))
    refine wpAny_pure ?_
    have := hQ { s with heap := h', toks := s.toks + 3 * ql.length } kvs' (hsame hs (hl.trans (by rfl))) he (by simpa using hm)
    have e : s.toks + 2 * ql.length + ql.length = s.toks + 3 * ql.length := by omega
    rw [← e] at this
    exact this
  · rw [if_neg h15]
    refine wpAny_bind (wpAny_rule ?_)
    refine wpAny_bind (longFill hc (kvs := []) (Heap.DictOf.new _) (by simpa using hn) (by simpa using hsz) fun h' kvs' he hm hs hl => wpAny_pure ?_)
    refine wpAny_pure ?_
    exact hQ { s with heap := h', toks := s.toks + 3 * ql.length } kvs' (hsame hs (hl.trans (by rfl))) he (by simpa using hm)
end
end Tc
namespace Tc
open PySem PySem.Calls PyProof.Rows PySem.W
section
variable {w : World} {A : Around} {E : Value → Shared → Prop} {s : Shared}
noncomputable def Acc (w : World) (s : Shared) (main : Option Addr) (acc : List (Int × Str)) (s' : Shared) : Prop :=
  (main = none ∧ acc = [] ∧ s' = s) ∨ (main = some s.heap.objs.size ∧ acc ≠ [] ∧ ∃ kvs, ent kvs = ents acc ∧ s'.heap.DictOf (intKind prg w) s.heap.objs.size kvs ∧ Nx s s' (acc.length / 17) (3 * acc.length))
noncomputable def Full (w : World) (s : Shared) (m : Option Addr) (acc : List (Int × Str)) (n : Nat) (s' : Shared) : Prop :=
  m = some s.heap.objs.size ∧ ∃ kvs, ent kvs = ents acc ∧ s'.heap.DictOf (intKind prg w) s.heap.objs.size kvs ∧ Nx s s' n (3 * acc.length)
noncomputable def flushE (run : List (Sem Value × Sem Value)) (main : Option Addr) : Sem (Option Addr) := match main with
  | none => do
    let a ← subDict run
    pure (some a)
  | some d => do
    let sub ← holding [Value.ref d] (subDict run)
    (holding [Value.ref d, Value.ref sub] (mergeMapping d (Value.ref sub) false)).onRaise fun x => do
      let _ ← holding [Value.ref d, x] (runValue (Code.builtin "proto.let_go" { }))
      pure ()
    pure (some d)
theorem flush_wp {run : List (Sem Value × Sem Value)} {rl acc : List (Int × Str)} {main : Option Addr} {s' : Shared} {R : Option Addr → Shared → Prop} (hA : Acc w s main acc s') (hcr : Csts w run rl) (hne : rl ≠ []) (hn : ((acc ++ rl).map (·.1)).Nodup) (hsz : acc.length + rl.length ≤ sizeLine) (hlow : 2 ≤ s.heap.objs.size)
    (hR : ∀ s'' kvs, ent kvs = ents (acc ++ rl) → s''.heap.DictOf (intKind prg w) s.heap.objs.size kvs → Nx s s'' (acc.length / 17 + 1) (3 * (acc ++ rl).length) → R (some s.heap.objs.size) s'') :
    wpAny (model prg w) A (flushE run main) R E s' := by
  have hnr : (rl.map (·.1)).Nodup := by rw [List.map_append, List.nodup_append] at hn; exact hn.2.1
  rcases hA with ⟨rfl, rfl, rfl⟩ | ⟨rfl, hacc, kvs, he, hD, hN⟩
  · refine wpAny_bind (sub_new hcr hnr (by omega) fun s2 kvs hN he hD => wpAny_pure ?_)
    exact hR s2 kvs he hD (by simpa using hN)
  · obtain ⟨h1, rfl, hz, hk1, hl1⟩ := id hN
    refine wpAny_bind (wpAny_holding (sub_new hcr hnr (by omega) fun s2 kvs2 hN2 he2 hD2 => ?_))
    obtain ⟨h2, rfl, hz2, hk2, hl2⟩ := id hN2
    have hlt : s.heap.objs.size < h1.objs.size := by
      obtain ⟨o, _, _, ho, _⟩ := hD
      exact Heap.lt_size ho
    have hD1 : h2.DictOf (intKind prg w) s.heap.objs.size kvs := by
      obtain ⟨o, es, ep, ho, r⟩ := hD
      exact ⟨o, es, ep, by rw [hk2 _ hlt]; exact ho, r⟩
    have e1 := ent_len he
    have e2 := ent_len he2
    refine wpAny_bind (wpAny_onRaise (wpAny_holding (merge_new (knd := intKind prg w) (kvs := kvs) (kvs' := kvs2) hD1 hD2 (fun e => hacc (by rw [e] at e1; exact List.length_eq_zero_iff.mp e1.symm)) (by show s.heap.objs.size ≠ h1.objs.size; omega) (by show h1.objs.size ≠ 1; omega) (by rw [List.map_append, ent_keys he, ent_keys he2, ← List.map_append]; exact hn) (by omega) fun h3 hD3 hS3 hl3 => ?_)))
    refine wpAny_pure (hR _ (kvs ++ kvs2) (by rw [ent_app, ents_app, he, he2]) hD3 ⟨h3, ?_, ?_, fun a ha => ?_, ?_⟩)
    · show ({ s with heap := h3, toks := s.toks + 3 * acc.length + 3 * rl.length } : Shared) = _
      rw [List.length_append, Nat.mul_add, Nat.add_assoc]
    · rw [hS3.1]; show h2.objs.size = _; rw [hz2]; show h1.objs.size + 1 = _; rw [hz, Nat.add_assoc]
    · rw [hS3.2 a (Nat.ne_of_lt ha)]; show h2.get? a = _; rw [hk2 a (by show a < h1.objs.size; omega)]; exact hk1 a ha
    · exact hl3.trans (hl2.trans hl1)
theorem display_wp {pairs : List (Sem Value × Sem Value)} {ql : List (Int × Str)} {Q : Value → Shared → Prop} (hc : Csts w pairs ql) (hne : ql ≠ []) (hn : (ql.map (·.1)).Nodup) (hsz : ql.length ≤ sizeLine) (hr : ql.length % 17 ≠ 0) (hlow : 2 ≤ s.heap.objs.size)
    (hQ : ∀ s' kvs, ent kvs = ents ql → s'.heap.DictOf (intKind prg w) s.heap.objs.size kvs → Nx s s' (ql.length / 17 + 1) (3 * ql.length) → Q (.ref s.heap.objs.size) s') :
    wpAny (model prg w) A (dictDisplay (pairs.map fun p => (some p.1, p.2))) Q E s := by
  unfold dictDisplay
  dsimp only
  refine wpAny_bind ?_
  refine wpAny_forIn_list _ (fun rest b s' => ∃ acc rl ps qs, rest = ps.map (fun p => (some p.1, p.2)) ∧ Csts w ps qs ∧ Csts w b.2 rl ∧ rl.length < 17 ∧ acc.length % 17 = 0 ∧ Acc w s b.1 acc s' ∧ ql = acc ++ rl ++ qs) _ ?_ ?_ _ _ ⟨[], [], pairs, ql, rfl, hc, .nil, by decide, rfl, .inl ⟨rfl, rfl, rfl⟩, rfl⟩
  · rintro x rest ⟨main, run⟩ s' ⟨acc, rl, ps, qs, hrest, hcp, hcr, hlt, h17, hA, hql⟩
    cases hcp with
    | nil => exact nomatch hrest
    | @cons p q ps qs c hcp =>
      rw [List.map_cons] at hrest
      injection hrest with hx hrest
      subst hx
      dsimp only at hcr hA ⊢
      have hcl := hcr.length
      by_cases h16 : rl.length = 16
      · have hb : ((run ++ [(p.1, p.2)]).length == 17) = true := by rw [List.length_append, hcl, h16]; rfl
        have hbe : (run ++ [(p.1, p.2)]).isEmpty = false := by cases run <;> rfl
        rw [if_pos hb, hbe, if_neg Bool.false_ne_true]
        refine wpAny_bind ?_
        have hq2 : acc ++ rl ++ q :: qs = (acc ++ (rl ++ [q])) ++ qs := by simp
        have hn2 : ((acc ++ (rl ++ [q])).map (·.1)).Nodup := by
          have hn' := hn
          rw [hql, hq2, List.map_append, List.nodup_append] at hn'
          exact hn'.1
        have hz2 : acc.length + (rl ++ [q]).length ≤ sizeLine := by
          have := congrArg List.length (hql.trans hq2)
          rw [List.length_append, List.length_append] at this
          omega
        refine flush_wp hA (hcr.snoc c) (by simp) hn2 hz2 hlow fun s2 kvs he hD hN => ?_
        have hl17 : (acc ++ (rl ++ [q])).length = acc.length + 17 := by simp [h16]
        refine wpAny_pure ⟨acc ++ (rl ++ [q]), [], ps, qs, hrest, hcp, .nil, by decide, by rw [hl17]; omega, .inr ⟨rfl, by simp, kvs, he, hD, ?_⟩, by rw [hql, hq2]; simp⟩
        rw [show (acc ++ (rl ++ [q])).length / 17 = acc.length / 17 + 1 by rw [hl17]; omega]
        exact hN
      · have hb : ((run ++ [(p.1, p.2)]).length == 17) = false := by rw [List.length_append, hcl]; simp; omega
        rw [hb, if_neg Bool.false_ne_true]
        exact wpAny_pure ⟨acc, rl ++ [q], ps, qs, hrest, hcp, hcr.snoc c, by simp; omega, h17, hA, by rw [hql]; simp⟩
  · rintro ⟨main, run⟩ s' ⟨acc, rl, ps, qs, hrest, hcp, hcr, hlt, h17, hA, hql⟩
    cases hcp with
    | cons => exact nomatch hrest
    | nil =>
      dsimp only at hcr hA ⊢
      rw [List.append_nil] at hql
      subst hql
      have hrl : rl ≠ [] := by
        rintro rfl
        rw [List.append_nil] at hr
        exact hr h17
      have hbe : run.isEmpty = false := by
        have := hcr.length
        cases run with
        | nil => exact absurd (List.length_eq_zero_iff.mp this.symm) hrl
        | cons => rfl
      rw [hbe, if_neg Bool.false_ne_true]
      refine wpAny_bind ?_
      rw [List.length_append] at hsz
      refine flush_wp hA hcr hrl hn hsz hlow fun s2 kvs he hD hN => ?_
      refine wpAny_pure (hQ s2 kvs he hD ?_)
      rw [show (acc ++ rl).length / 17 = acc.length / 17 by rw [List.length_append]; omega]
      exact hN
end
end Tc
namespace Tc
open PySem PySem.Calls PyProof.Rows PySem.W
/-- wp, under a head that whnf does not open -/
structure WpS (M : Model) (Γ : Ctx) {α : Type} (x : Sem α) (Q : α → Pos → Shared → Prop) (E : Value → Pos → Shared → Prop) (p : Pos) (s : Shared) : Prop where
  out : Sem.wp M Γ x Q E p s
/-- the pairs of a display of constants -/
noncomputable def b3pairs : List (Option Expr) → List Expr → Option (List (Int × Str))
  | some (.Constant (.int i) _ _) :: ks, .Constant (.str s) _ _ :: vs => (b3pairs ks vs).map ((i, s) :: ·)
  | [], [] => some []
  | _, _ => none
noncomputable def isB3 : Stmt → Option (List (Int × Str))
  | .Assign [.Name x _] (.Dict ks vs _) _ => if x = "b3_exceptions" then b3pairs ks vs else none
  | _ => none
noncomputable def incr : Int → List Int → Bool
  | _, [] => true
  | a, b :: r => decide (a < b) && incr b r
theorem incr_lt : ∀ (r : List Int) (a : Int), incr a r = true → (∀ x ∈ r, a < x) ∧ r.Nodup
  | [], _, _ => ⟨fun _ h => (nomatch h), .nil⟩
  | b :: r, a, h => by
    obtain ⟨h1, h2⟩ := Bool.and_eq_true_iff.mp h
    have h1 := of_decide_eq_true h1
    obtain ⟨k1, k2⟩ := incr_lt r b h2
    refine ⟨fun x hx => ?_, List.nodup_cons.mpr ⟨fun hb => ?_, k2⟩⟩
    · cases hx with
      | head => exact h1
      | tail _ hx => exact Int.lt_trans h1 (k1 x hx)
    · exact absurd (k1 b hb) (Int.lt_irrefl b)
theorem b3pairs_of : ∀ (ks : List (Option Expr)) (vs : List Expr) {ql : List (Int × Str)}, b3pairs ks vs = some ql →
    ((ks.zip vs).filterMap fun
    | (some (.Constant (.int i) _ _), .Constant (.str s) _ _) => some (i, s)
    | _ => none) = ql ∧ ∀ (w : World) (env : Env) (q : Pos), ∃ pairs, (evalEachOpt ks env).zip ((evalEach vs env).map fun v => do let x ← v; standAt q; pure x) = pairs.map (fun p => (some p.1, p.2)) ∧ Csts w pairs ql := by
  intro ks vs
  induction ks generalizing vs with
  | nil =>
    intro ql h
    cases vs with
    | nil => cases h; exact ⟨rfl, fun w env q => ⟨[], rfl, .nil⟩⟩
    | cons => cases h
  | cons k ks ih =>
    intro ql h
    unfold b3pairs at h
    split at h
    · rename_i i kk kp ks2 x vk vp vs2 hk
      injection hk with hk1 hk2
      subst hk1 hk2
      cases hb : b3pairs ks vs2 with
      | none => rw [hb] at h; cases h
      | some ql2 =>
        rw [hb] at h
        cases h
        obtain ⟨h1, h2⟩ := ih vs2 hb
        refine ⟨?_, fun w env q => ?_⟩
        · rw [List.zip_cons_cons, List.filterMap_cons]
          exact congrArg ((i, x) :: ·) h1
        · obtain ⟨pairs, e, c⟩ := h2 w env q
          refine ⟨(eval (.Constant (.int i) kk kp) env, do let x ← eval (.Constant (.str x) vk vp) env; standAt q; pure x) :: pairs, ?_, .cons ⟨fun h => wpAny_Constant_int (k := kk) (pos := kp) (env := env) h, fun h => wpAny_bind (wpAny_Constant_str (k := vk) (pos := vp) (env := env) (wpAny_bind (wpAny_standAt (wpAny_pure h))))⟩ c⟩
          rw [arm_evalEachOpt_cons, arm_evalEach_cons, List.map_cons, List.zip_cons_cons, List.map_cons, e]
          rfl
    · rename_i hk; cases hk
    · cases h
theorem isB3_of {st : Stmt} {ql : List (Int × Str)} (h : isB3 st = some ql) : b3of st = ql ∧ ∃ p ks vs q pos, st = .Assign [.Name "b3_exceptions" p] (.Dict ks vs q) pos ∧ b3pairs ks vs = some ql := by
  unfold isB3 at h
  split at h
  · rename_i x p ks vs q pos
    split at h
    · rename_i hx
      subst hx
      exact ⟨(b3pairs_of ks vs h).1, p, ks, vs, q, pos, rfl, h⟩
    · cases h
  · cases h
theorem b3_is : (isB3 (stm 11)).isSome = true := by kernel_rfl
theorem b3_form_of {st : Stmt} (h : (isB3 st).isSome = true) : ∃ p ks vs q pos, st = .Assign [.Name "b3_exceptions" p] (.Dict ks vs q) pos ∧ b3pairs ks vs = some (b3of st) := by
  cases e : isB3 st with
  | none => rw [e] at h; cases h
  | some ql => have := isB3_of e; rw [← this.1] at this; exact this.2
theorem b3_form : ∃ p ks vs q pos, stm 11 = .Assign [.Name "b3_exceptions" p] (.Dict ks vs q) pos ∧ b3pairs ks vs = some b3list := b3_form_of b3_is
theorem b3_len : b3list.length = 650 := by kernel_rfl
theorem b3_incr : incr 0 (b3list.map (·.1)) = true := by kernel_rfl
theorem b3_nodup : (b3list.map (·.1)).Nodup := (incr_lt _ _ b3_incr).2
theorem wp_Assign_Name {M : Model} {Γ : Ctx} {env : Env} {x pos' value pos} {Q : Flow → Pos → Shared → Prop} {E : Value → Pos → Shared → Prop} {p : Pos} {s : Shared}
    (h : Sem.wp M Γ (eval value env) (fun v _ s₁ => ∀ p, Sem.wp M Γ (storeName env x v) (fun _ p s => Q .next p s) E p s₁) E pos s)
    (hs : swapsWith value (some (.Name x pos')) pos.line env = pure false) :
    Sem.wp M Γ (exec (.Assign [.Name x pos'] value pos) env) Q E p s := by
  simp only [exec_Assign_Name env x pos' value pos hs, Sem.wp_bind', Sem.wp_cmd_standAt, Sem.wp_bindName, Sem.wp_pure']
  exact Sem.wp_mono M Γ _ (fun v _ s₁ h₁ => h₁ _) (fun _ _ _ h' => h') _ _ h
theorem b3_exec_of {w : World} {Γ : Ctx} {A : Around} (hA : Γ.In A) {env : Env} {Q : Flow → Pos → Shared → Prop} {E : Value → Pos → Shared → Prop} {p : Pos} {s : Shared} (hlow : 2 ≤ s.heap.objs.size)
    {pp : Pos} {ks : List (Option Expr)} {vs : List Expr} {q pos : Pos} {ql : List (Int × Str)} (hb : b3pairs ks vs = some ql) (hl : ql.length = 650) (hn : (ql.map (·.1)).Nodup)
    (hQ : ∀ s' kvs, ent kvs = ents ql → s'.heap.DictOf (intKind prg w) s.heap.objs.size kvs → Nx s s' 39 1950 → ∀ p, Sem.wp (model prg w) Γ (storeName env "b3_exceptions" (.ref s.heap.objs.size)) (fun _ p s => Q .next p s) E p s') :
    Sem.wp (model prg w) Γ (exec (.Assign [.Name "b3_exceptions" pp] (.Dict ks vs q) pos) env) Q E p s := by
  refine wp_Assign_Name ?_ rfl
  rw [arm_eval_Dict]
  obtain ⟨pairs, e, c⟩ := (b3pairs_of ks vs hb).2 w env q
  rw [e]
  simp only [Sem.wp_bind', Sem.wp_cmd_standAt]
  have hd : wpAny (model prg w) A (dictDisplay (pairs.map fun p => (some p.1, p.2))) (fun v s₁ => ∀ p, Sem.wp (model prg w) Γ (storeName env "b3_exceptions" v) (fun _ p s => Q .next p s) E p s₁) (fun _ _ => False) s :=
    display_wp c (by intro h; rw [h] at hl; cases hl) hn (by rw [hl]; decide) (by rw [hl]; decide) hlow (by rw [hl]; exact hQ)
  exact Sem.wp_mono _ _ _ (fun v p s h => h) (fun _ _ _ h => h.elim) _ _ (hd Γ _ hA)
/-- the statement b3_exceptions = {..} -/
theorem b3_exec {w : World} {Γ : Ctx} {A : Around} (hA : Γ.In A) {env : Env} {Q : Flow → Pos → Shared → Prop} {E : Value → Pos → Shared → Prop} {p : Pos} {s : Shared} {st : Stmt} (hs : (isB3 st).isSome = true) (he : b3of st = b3list) (hlow : 2 ≤ s.heap.objs.size)
    (hQ : ∀ s' kvs, ent kvs = ents b3list → s'.heap.DictOf (intKind prg w) s.heap.objs.size kvs → Nx s s' 39 1950 → ∀ p, WpS (model prg w) Γ (storeName env "b3_exceptions" (.ref s.heap.objs.size)) (fun _ p s => Q .next p s) E p s') :
    WpS (model prg w) Γ (exec st env) Q E p s := by
  obtain ⟨pp, ks, vs, q, pos, e, hb⟩ := b3_form_of hs
  subst e
  rw [he] at hb
  exact ⟨b3_exec_of hA hlow hb b3_len b3_nodup fun s' kvs a b c p => (hQ s' kvs a b c p).out⟩
theorem WpS.app {M : Model} {Γ : Ctx} {env : Env} {Q : Flow → Pos → Shared → Prop} {E : Value → Pos → Shared → Prop} {l2 : List Stmt} : ∀ {l1 : List Stmt} {p : Pos} {s : Shared},
    WpS M Γ (execs l1 env) (fun f p s => match f with | .next => WpS M Γ (execs l2 env) Q E p s | f => Q f p s) E p s → WpS M Γ (execs (l1 ++ l2) env) Q E p s
  | [], p, s, h => h.out
  | st :: l1, p, s, h => by
    have h := h.out
    rw [arm_execs_cons, Sem.wp_bind'] at h
    refine ⟨?_⟩
    rw [List.cons_append, arm_execs_cons, Sem.wp_bind']
    refine Sem.wp_mono M Γ _ (fun f p s hf => ?_) (fun _ _ _ x => x) _ _ h
    cases f with
    | next => exact (WpS.app ⟨hf⟩).out
    | _ => exact hf
end Tc
namespace Tc
open PySem PySem.W
section
variable (den : Code → Sem Fin) (P : Program) (w : World) (base : List Frame) (short : Code → Option Obj)
/-- a run over a tree heap, of the commands that this top uses -/
noncomputable def mgo : Nat → BT → Nat → Nat → Sem Fin → Code → Pos → List Frame → Option (BT × Nat × Nat × Flow × Code × Pos)
  | 0, _, _, _, _, _, _, _ => none
  | f + 1, t, n, k, cur, c, p, pre => match cur with
    | .pure (.done fl) => match pre with
      | [] => some (t, n, k, fl, c, p)
      | .ret kk _ _ _ c' p' _ :: pre' => mgo f t n k (kk (.ok fl)) c' p' pre'
      | _ => none
    | .pure (.again c') => match c'.quiet with
      | true => match short c' with
        | none => mgo f t n k (den c') c' p pre
        | some o => match ((t.ins n o).get n).isSome with
          | true => match pre with
            | .ret kk _ _ _ c0 p0 _ :: pre' => mgo f (t.ins n o) (n + 1) k (kk (.ok (.ret (.ref n)))) c0 p0 pre'
            | _ => none
          | false => none
      | false => none
    | .raise e => match pre with
      | .ret kk _ _ _ c' p' _ :: pre' => mgo f t n k (kk (.error e)) c' p' pre'
      | _ => none
    | .rule _ kk => mgo f t n k (kk ()) c p pre
    | .at p' kk => mgo f t n k (kk ()) c p' pre
    | .load a _ kk => match Nat.blt a n with
      | true => match t.get a with
        | some o => match alive o with
          | some o' => mgo f t n k (kk o') c p pre
          | none => none
        | none => none
      | false => none
    | .update a _ g kk => match Nat.blt a n with
      | true => match t.get a with
        | some o => match alive o with
          | some _ => mgo f (t.set a g) n k (kk ()) c p pre
          | none => none
        | none => none
      | false => none
    | .alloc o kk => match ((t.ins n o).get n).isSome with
      | true => mgo f (t.ins n o) (n + 1) k (kk n) c p pre
      | false => none
    | .loadIfAlive a kk => match Nat.blt a n with
      | true => match t.get a with
        | some o => mgo f t n k (kk (alive o)) c p pre
        | none => none
      | false => mgo f t n k (kk none) c p pre
    | .point _ kk => mgo f t n k (kk ()) c p pre
    | .fresh kk => mgo f t n (k + 1) (kk k) c p pre
    | .ask kk => mgo f t n k (kk ⟨P, w.params⟩) c p pre
    | .call c' h g l kk => mgo f t n k (den c') c' p (.ret kk h g l c p [] :: pre)
    | .handled own kk => mgo f t n k (kk (topHandled (if own then ownFrames (pre ++ base) else pre ++ base))) c p pre
    | .stack kk => mgo f t n k (kk ((c, p) :: (pre ++ base).map Frame.where_)) c p pre
    | .thread kk => mgo f t n k (kk 0) c p pre
    | _ => none
end
/-- what short says of a code: it makes an object and returns it -/
noncomputable def ShortOk (M : Model) (short : Code → Option Obj) : Prop := ∀ c o, short c = some o → ∀ (base : List Frame) (p : Pos) (s : Shared), ∃ s', Reach M base s (M.den c) c p [] s' (.ret (.ok (.ret (.ref s.heap.objs.size)))) ∧ s' = { s with heap := s.heap.push o }
theorem mgo_reach {M : Model} {base : List Frame} {life : Life} {gens : Array GenState} {drawn : Drawn} {os : OsState} {short : Code → Option Obj} (hS : ShortOk M short) : ∀ (f : Nat) (t : BT) (n k : Nat) (cur : Sem Fin) (c : Code) (p : Pos) (pre : List Frame) {t' : BT} {n' k' : Nat} {fl : Flow} {c' : Code} {p' : Pos},
    mgo M.den M.prog M.w base short f t n k cur c p pre = some (t', n', k', fl, c', p') → Reach M base ⟨absHeap t n life, gens, drawn, k, os⟩ cur c p pre ⟨absHeap t' n' life, gens, drawn, k', os⟩ (.ret (.ok fl))
  | 0, t, n, k, cur, c, p, pre, t', n', k', fl, c', p', h => by cases h
  | f + 1, t, n, k, cur, c, p, pre, t', n', k', fl, c', p', h => by
    cases cur with
    | pure fin =>
      cases fin with
      | done g =>
        cases pre with
        | nil => simp only [mgo, Option.some.injEq, Prod.mk.injEq] at h; obtain ⟨rfl, rfl, rfl, rfl, rfl, rfl⟩ := h; exact .exit ⟨rfl, rfl⟩
        | cons fr pre =>
          cases fr with
          | ret kk h0 g0 l0 c0 p0 kp0 => exact .step (step_leaf_ret M _ c p (pre ++ base) (.ok g) kk h0 g0 l0 c0 p0 kp0) (mgo_reach hS f _ _ _ _ _ _ _ h)
          | gen => simp only [mgo] at h; cases h
      | again c0 =>
        cases hq : c0.quiet with
        | false => simp only [mgo, hq] at h; cases h
        | true =>
          refine .step (step_again M _ c p (pre ++ base) c0 hq) ?_
          cases hs : short c0 with
          | none => simp only [mgo, hq, hs] at h; exact mgo_reach hS f _ _ _ _ _ _ _ h
          | some o =>
            cases e : ((t.ins n o).get n).isSome with
            | false => simp only [mgo, hq, hs, e] at h; cases h
            | true =>
              cases pre with
              | nil => simp only [mgo, hq, hs, e] at h; cases h
              | cons fr pre =>
                cases fr with
                | gen => simp only [mgo, hq, hs, e] at h; cases h
                | ret kk h0 g0 l0 c1 p1 kp0 =>
                  simp only [mgo, hq, hs, e] at h
                  obtain ⟨s', r, rfl⟩ := hS c0 o hs ((.ret kk h0 g0 l0 c1 p1 kp0 :: pre) ++ base) p ⟨absHeap t n life, gens, drawn, k, os⟩
                  refine Reach.under (pre := []) r fun t' c' p' pre' hx => ?_
                  obtain ⟨rfl, rfl⟩ := hx
                  refine .step (step_leaf_ret M _ c' p' (pre ++ base) (.ok (.ret (.ref _))) kk h0 g0 l0 c1 p1 kp0) ?_
                  have hh : (⟨(absHeap t n life).push o, gens, drawn, k, os⟩ : Shared) = ⟨absHeap (t.ins n o) (n + 1) life, gens, drawn, k, os⟩ := by rw [absHeap_ins e]
                  show Reach M base ⟨(absHeap t n life).push o, gens, drawn, k, os⟩ _ _ _ _ _ _
                  rw [hh]
                  have hz : (absHeap t n life).objs.size = n := absHeap_size ..
                  show Reach M base _ (kk (.ok (.ret (.ref (absHeap t n life).objs.size)))) _ _ _ _ _
                  rw [hz]
                  exact mgo_reach hS f _ _ _ _ _ _ _ h
    | raise e =>
      cases pre with
      | nil => simp only [mgo] at h; cases h
      | cons fr pre =>
        cases fr with
        | ret kk h0 g0 l0 c0 p0 kp0 => exact .step (step_leaf_ret M _ c p (pre ++ base) (.error e) kk h0 g0 l0 c0 p0 kp0) (mgo_reach hS f _ _ _ _ _ _ _ h)
        | gen => simp only [mgo] at h; cases h
    | rule tag kk => exact .step (step_rule M _ c p (pre ++ base) tag kk) (mgo_reach hS f _ _ _ _ _ _ _ h)
    | «at» p0 kk => exact .step (step_at M _ c p (pre ++ base) p0 kk) (mgo_reach hS f _ _ _ _ _ _ _ h)
    | load a part kk =>
      cases e : Nat.blt a n with
      | false => simp only [mgo, e] at h; cases h
      | true =>
        have lt : a < n := Nat.le_of_ble_eq_true e
        cases g : t.get a with
        | none => simp only [mgo, e, g] at h; cases h
        | some o =>
          cases al : alive o with
          | none => simp only [mgo, e, g, al] at h; cases h
          | some o' =>
            simp only [mgo, e, g, al] at h
            exact .step (step_load M _ c p (pre ++ base) part kk ((abs_get lt g).trans al)) (mgo_reach hS f _ _ _ _ _ _ _ h)
    | update a part g0 kk =>
      cases e : Nat.blt a n with
      | false => simp only [mgo, e] at h; cases h
      | true =>
        have lt : a < n := Nat.le_of_ble_eq_true e
        cases g : t.get a with
        | none => simp only [mgo, e, g] at h; cases h
        | some o =>
          cases al : alive o with
          | none => simp only [mgo, e, g, al] at h; cases h
          | some o' =>
            simp only [mgo, e, g, al] at h
            refine .step (step_update M ⟨absHeap t n life, gens, drawn, k, os⟩ c p (pre ++ base) part g0 kk (a := a) (by rw [abs_get lt g, al]; rfl)) ?_
            rw [← absHeap_set g]
            exact mgo_reach hS f _ _ _ _ _ _ _ h
    | alloc o kk =>
      cases e : ((t.ins n o).get n).isSome with
      | false => simp only [mgo, e] at h; cases h
      | true =>
        simp only [mgo, e] at h
        refine .step (step_alloc M ⟨absHeap t n life, gens, drawn, k, os⟩ c p (pre ++ base) o kk) ?_
        rw [← absHeap_ins e, absHeap_size]
        exact mgo_reach hS f _ _ _ _ _ _ _ h
    | loadIfAlive a kk =>
      refine .step (step_loadIfAlive M ⟨absHeap t n life, gens, drawn, k, os⟩ c p (pre ++ base) a kk) ?_
      cases e : Nat.blt a n with
      | false =>
        simp only [mgo, e] at h
        have lt : ¬ a < n := fun q => by rw [show Nat.blt a n = true from Nat.ble_eq_true_of_le q] at e; cases e
        rw [abs_get_none lt]
        exact mgo_reach hS f _ _ _ _ _ _ _ h
      | true =>
        have lt : a < n := Nat.le_of_ble_eq_true e
        cases g : t.get a with
        | none => simp only [mgo, e, g] at h; cases h
        | some o =>
          simp only [mgo, e, g] at h
          rw [abs_get lt g]
          exact mgo_reach hS f _ _ _ _ _ _ _ h
    | point l kk => exact .step (step_point M _ c p (pre ++ base) l kk) (mgo_reach hS f _ _ _ _ _ _ _ h)
    | fresh kk => exact .step (step_fresh M ⟨absHeap t n life, gens, drawn, k, os⟩ c p (pre ++ base) kk) (mgo_reach hS f _ _ _ _ _ _ _ h)
    | ask kk => exact .step (step_ask M _ c p (pre ++ base) kk) (mgo_reach hS f _ _ _ _ _ _ _ h)
    | call c0 h0 g l kk => exact .step (step_call M _ c p (pre ++ base) c0 h0 g l kk) (mgo_reach hS f _ _ _ _ _ _ _ h)
    | handled own kk => exact .step (step_handled M _ c p (pre ++ base) own kk) (mgo_reach hS f _ _ _ _ _ _ _ h)
    | stack kk => exact .step (step_stack M _ c p (pre ++ base) kk) (mgo_reach hS f _ _ _ _ _ _ _ h)
    | thread kk => exact .step (step_thread M _ c p (pre ++ base) kk) (mgo_reach hS f _ _ _ _ _ _ _ h)
    | unsupported | finish | register | choose | os | newGen | genState | resume | «yield» | fork | await => simp only [mgo] at h; cases h
noncomputable abbrev dn (x : Sem Flow) : Sem Fin := x.bind fun f => .pure (.done f)
/-- what a run shows, said as wp -/
theorem mgo_wp {M : Model} {base : List Frame} {short : Code → Option Obj} (hS : ShortOk M short) {life : Life} {gens : Array GenState} {drawn : Drawn} {os : OsState} {f : Nat} {t : BT} {n k : Nat} {x : Sem Flow} {c : Code} {p : Pos} {t' : BT} {n' k' : Nat} {fl : Flow} {c' : Code} {p' : Pos}
    (h : mgo M.den M.prog M.w base short f t n k (dn x) c p [] = some (t', n', k', fl, c', p')) {Q : Flow → Pos → Shared → Prop} {E : Value → Pos → Shared → Prop} (hQ : ∀ p, Q fl p ⟨absHeap t' n' life, gens, drawn, k', os⟩) :
    Sem.wp M (Ctx.of c base) x Q E p ⟨absHeap t n life, gens, drawn, k, os⟩ := by
  have r := (wp_iff_reach (M := M) (base := base) (c := c) (dn x) (fun r s' => r = .ok fl ∧ s' = ⟨absHeap t' n' life, gens, drawn, k', os⟩) p ⟨absHeap t n life, gens, drawn, k, os⟩).mpr ⟨_, _, mgo_reach hS f _ _ _ _ _ _ _ h, rfl, rfl⟩
  rw [Sem.wp_bind] at r
  refine Sem.wp_mono M _ x (fun a p1 s1 hh => ?_) (fun e p1 s1 hh => ?_) p _ r
  · obtain ⟨e1, e2⟩ : (Except.ok a : Result) = .ok fl ∧ s1 = _ := hh
    injection e1 with e1
    subst e1 e2
    exact hQ p1
  · exact nomatch hh.1
end Tc
namespace Tc
open PySem PySem.W PySem.Calls PyProof.Rows
/-- list(x) makes an empty list first -/
noncomputable def shortL : Code → Option Obj
  | .builtin id ⟨[.type n, _], []⟩ => if id = "list.__new__" then (if n = "list" then some { cls := .type "list", data := .seq #[] } else none) else none
  | _ => none
theorem code_new {w : World} {A : Around} {a : Value} {s : Shared} {R : Result → Shared → Prop} (h : R (.ok (.ret (.ref s.heap.objs.size))) { s with heap := s.heap.push { cls := .type "list", data := .seq #[] } }) :
    codeAny (model prg w) A (.builtin "list.__new__" ⟨[.type "list", a], []⟩) R s := by
  refine codeAny_builtin_stack F.entry_list_new rfl fun p st => ?_
  rw [Around.under_plainId F.plain_list_new _]
  have hsub := sub_list_self
  have hown := owner_list_new
  obtain ⟨hp, g, d, tk, os⟩ := s
  simp only [hown]
  wp_walk
  exact h
theorem shortL_ok (w : World) : ShortOk (model prg w) shortL := by
  intro c o hc base p s
  have : ∃ a, c = .builtin "list.__new__" ⟨[.type "list", a], []⟩ ∧ o = { cls := .type "list", data := .seq #[] } := by
    unfold shortL at hc
    split at hc
    · split at hc
      · split at hc
        · rename_i id n a h1 h2
          subst h1 h2
          exact ⟨a, rfl, (Option.some.inj hc).symm⟩
        · cases hc
      · cases hc
    · cases hc
  obtain ⟨a, rfl, rfl⟩ := this
  have q := code_new (w := w) (A := ⟨(Ctx.of (.builtin "list.__new__" ⟨[.type "list", a], []⟩) base).handled, frameCount (Ctx.of (.builtin "list.__new__" ⟨[.type "list", a], []⟩) base).below, none, none, unitsOf (Ctx.of (.builtin "list.__new__" ⟨[.type "list", a], []⟩) base).below⟩) (a := a) (s := s) (R := fun r s' => r = .ok (.ret (.ref s.heap.objs.size)) ∧ s' = { s with heap := s.heap.push { cls := .type "list", data := .seq #[] } }) ⟨rfl, rfl⟩
  have q2 := q (Ctx.of (.builtin "list.__new__" ⟨[.type "list", a], []⟩) base) p rfl ⟨rfl, Nat.le_refl _, fun _ e => (nomatch e), fun _ e => (nomatch e), Nat.le_refl _⟩
  obtain ⟨r, s', hr, rfl, rfl⟩ := (wp_iff_reach (M := model prg w) (base := base) _ _ p s).mp ((wpCode_iff_wp ..).mp q2)
  exact ⟨_, hr, rfl⟩
end Tc
namespace Tc
section
open PySem PySem.W
noncomputable def ms0_3 (P : Params) : Obj := ⟨(.type "dict"), none, .dict #[ek P (S "__name__") 165 (.str (S "__main__") 164), ek P (S "__doc__") 166 .none, ek P (S "__package__") 167 .none, ek P (S "__loader__") 168 (.builtin "__main__.__loader__#opaque"), ek P (S "__spec__") 169 .none, ek P (S "__annotations__") 170 (.ref 6), ek P (S "__builtins__") 171 (.ref 4), ek P (S "__file__") 173 (.str (S "/claim/cut.py") 172), ek P (S "__cached__") 174 .none, ek P (S "_sre") 275 (.ref 12)] 10, #[]⟩
noncomputable def mpre_29 (P : Params) : Obj := ⟨.none, none, .fields #[], #[]⟩
noncomputable def m0_3 (P : Params) : Obj := ⟨(.type "dict"), none, .dict #[ek P (S "__name__") 165 (.str (S "__main__") 164), ek P (S "__doc__") 166 .none, ek P (S "__package__") 167 .none, ek P (S "__loader__") 168 (.builtin "__main__.__loader__#opaque"), ek P (S "__spec__") 169 .none, ek P (S "__annotations__") 170 (.ref 6), ek P (S "__builtins__") 171 (.ref 4), ek P (S "__file__") 173 (.str (S "/claim/cut.py") 172), ek P (S "__cached__") 174 .none, ek P (S "_sre") 275 (.ref 12), ek P (S "_wall") 288 (.ref 38)] 11, #[]⟩
noncomputable def m0_29 (P : Params) : Obj := ⟨.none, none, .fields #[(.int (2) 0), (.int (0) 0), (.ref 37)], #[]⟩
noncomputable def m2_3 (P : Params) : Obj := ⟨(.type "dict"), none, .dict #[ek P (S "__name__") 165 (.str (S "cpy313.tabnanny") 289), ek P (S "__doc__") 166 .none, ek P (S "__package__") 167 .none, ek P (S "__loader__") 168 (.builtin "__main__.__loader__#opaque"), ek P (S "__spec__") 169 .none, ek P (S "__annotations__") 170 (.ref 6), ek P (S "__builtins__") 171 (.ref 4), ek P (S "__file__") 173 (.str (S "/claim/cut.py") 172), ek P (S "__cached__") 174 .none, ek P (S "_sre") 275 (.ref 12), ek P (S "_wall") 288 (.ref 38), ek P (S "Whitespace") 391 (.ref 100)] 12, #[]⟩
noncomputable def m2_29 (P : Params) : Obj := ⟨.none, none, .fields #[(.int (2) 0), (.int (0) 0), (.ref 37), (.int (6) 0), (.int (0) 0), (.ref 44)], #[]⟩
noncomputable def m7_3 (P : Params) : Obj := ⟨(.type "dict"), none, .dict #[ek P (S "__name__") 165 (.str (S "cpy313.stringprep") 435), ek P (S "__doc__") 166 .none, ek P (S "__package__") 167 .none, ek P (S "__loader__") 168 (.builtin "__main__.__loader__#opaque"), ek P (S "__spec__") 169 .none, ek P (S "__annotations__") 170 (.ref 6), ek P (S "__builtins__") 171 (.ref 4), ek P (S "__file__") 173 (.str (S "/claim/cut.py") 172), ek P (S "__cached__") 174 .none, ek P (S "_sre") 275 (.ref 12), ek P (S "_wall") 288 (.ref 38), ek P (S "Whitespace") 391 (.ref 100), ek P (S "bisect_right") 407 (.ref 113), ek P (S "insort_left") 420 (.ref 122), ek P (S "bisect_left") 434 (.ref 131)] 15, #[]⟩
noncomputable def m7_29 (P : Params) : Obj := ⟨.none, none, .fields #[(.int (2) 0), (.int (0) 0), (.ref 37), (.int (6) 0), (.int (0) 0), (.ref 44), (.int (60) 0), (.int (0) 0), (.ref 112), (.int (80) 0), (.int (0) 0), (.ref 121), (.int (86) 0), (.int (0) 0), (.ref 130)], #[]⟩
noncomputable def m8_3 (P : Params) : Obj := ⟨(.type "dict"), none, .dict #[ek P (S "__name__") 165 (.str (S "cpy313.stringprep") 435), ek P (S "__doc__") 166 .none, ek P (S "__package__") 167 .none, ek P (S "__loader__") 168 (.builtin "__main__.__loader__#opaque"), ek P (S "__spec__") 169 .none, ek P (S "__annotations__") 170 (.ref 6), ek P (S "__builtins__") 171 (.ref 4), ek P (S "__file__") 173 (.str (S "/claim/cut.py") 172), ek P (S "__cached__") 174 .none, ek P (S "_sre") 275 (.ref 12), ek P (S "_wall") 288 (.ref 38), ek P (S "Whitespace") 391 (.ref 100), ek P (S "bisect_right") 407 (.ref 113), ek P (S "insort_left") 420 (.ref 122), ek P (S "bisect_left") 434 (.ref 131), ek P (S "b1_set") 496 (.ref 139)] 16, #[]⟩
noncomputable def m9_3 (P : Params) : Obj := ⟨(.type "dict"), none, .dict #[ek P (S "__name__") 165 (.str (S "cpy313.stringprep") 435), ek P (S "__doc__") 166 .none, ek P (S "__package__") 167 .none, ek P (S "__loader__") 168 (.builtin "__main__.__loader__#opaque"), ek P (S "__spec__") 169 .none, ek P (S "__annotations__") 170 (.ref 6), ek P (S "__builtins__") 171 (.ref 4), ek P (S "__file__") 173 (.str (S "/claim/cut.py") 172), ek P (S "__cached__") 174 .none, ek P (S "_sre") 275 (.ref 12), ek P (S "_wall") 288 (.ref 38), ek P (S "Whitespace") 391 (.ref 100), ek P (S "bisect_right") 407 (.ref 113), ek P (S "insort_left") 420 (.ref 122), ek P (S "bisect_left") 434 (.ref 131), ek P (S "b1_set") 496 (.ref 139), ek P (S "in_table_b1") 503 (.ref 149)] 17, #[]⟩
noncomputable def m9_29 (P : Params) : Obj := ⟨.none, none, .fields #[(.int (2) 0), (.int (0) 0), (.ref 37), (.int (6) 0), (.int (0) 0), (.ref 44), (.int (60) 0), (.int (0) 0), (.ref 112), (.int (80) 0), (.int (0) 0), (.ref 121), (.int (86) 0), (.int (0) 0), (.ref 130), (.int (108) 0), (.int (0) 0), (.ref 148)], #[]⟩
noncomputable def m10_3 (P : Params) : Obj := ⟨(.type "dict"), none, .dict #[ek P (S "__name__") 165 (.str (S "cpy313.stringprep") 435), ek P (S "__doc__") 166 .none, ek P (S "__package__") 167 .none, ek P (S "__loader__") 168 (.builtin "__main__.__loader__#opaque"), ek P (S "__spec__") 169 .none, ek P (S "__annotations__") 170 (.ref 6), ek P (S "__builtins__") 171 (.ref 4), ek P (S "__file__") 173 (.str (S "/claim/cut.py") 172), ek P (S "__cached__") 174 .none, ek P (S "_sre") 275 (.ref 12), ek P (S "_wall") 288 (.ref 38), ek P (S "Whitespace") 391 (.ref 100), ek P (S "bisect_right") 407 (.ref 113), ek P (S "insort_left") 420 (.ref 122), ek P (S "bisect_left") 434 (.ref 131), ek P (S "b1_set") 496 (.ref 139), ek P (S "in_table_b1") 503 (.ref 149), ek P (S "b3_exceptions") 2454 (.ref 150)] 18, #[]⟩
noncomputable def m16_3 (P : Params) : Obj := ⟨(.type "dict"), none, .dict #[ek P (S "__name__") 165 (.str (S "cpy313.wsgiref.headers") 2463), ek P (S "__doc__") 166 .none, ek P (S "__package__") 167 .none, ek P (S "__loader__") 168 (.builtin "__main__.__loader__#opaque"), ek P (S "__spec__") 169 .none, ek P (S "__annotations__") 170 (.ref 6), ek P (S "__builtins__") 171 (.ref 4), ek P (S "__file__") 173 (.str (S "/claim/cut.py") 172), ek P (S "__cached__") 174 .none, ek P (S "_sre") 275 (.ref 12), ek P (S "_wall") 288 (.ref 38), ek P (S "Whitespace") 391 (.ref 100), ek P (S "bisect_right") 407 (.ref 113), ek P (S "insort_left") 420 (.ref 122), ek P (S "bisect_left") 434 (.ref 131), ek P (S "b1_set") 496 (.ref 139), ek P (S "in_table_b1") 503 (.ref 149), ek P (S "b3_exceptions") 2454 (.ref 150), ek P (S "map_table_b3") 2462 (.ref 195), ek P (S "tspecials") 2498 (.ref 200), ek P (S "_name_disallowed_re") 2524 (.ref 205), ek P (S "_value_disallowed_re") 2558 (.ref 210), ek P (S "_formatparam") 2568 (.ref 218)] 23, #[]⟩
noncomputable def m16_29 (P : Params) : Obj := ⟨.none, none, .fields #[(.int (2) 0), (.int (0) 0), (.ref 37), (.int (6) 0), (.int (0) 0), (.ref 44), (.int (60) 0), (.int (0) 0), (.ref 112), (.int (80) 0), (.int (0) 0), (.ref 121), (.int (86) 0), (.int (0) 0), (.ref 130), (.int (108) 0), (.int (0) 0), (.ref 148), (.int (111) 0), (.int (0) 0), (.ref 194), (.int (120) 0), (.int (0) 0), (.ref 217)], #[]⟩
noncomputable def m17_3 (P : Params) : Obj := ⟨(.type "dict"), none, .dict #[ek P (S "__name__") 165 (.str (S "cpy313.wsgiref.headers") 2463), ek P (S "__doc__") 166 .none, ek P (S "__package__") 167 .none, ek P (S "__loader__") 168 (.builtin "__main__.__loader__#opaque"), ek P (S "__spec__") 169 .none, ek P (S "__annotations__") 170 (.ref 6), ek P (S "__builtins__") 171 (.ref 4), ek P (S "__file__") 173 (.str (S "/claim/cut.py") 172), ek P (S "__cached__") 174 .none, ek P (S "_sre") 275 (.ref 12), ek P (S "_wall") 288 (.ref 38), ek P (S "Whitespace") 391 (.ref 100), ek P (S "bisect_right") 407 (.ref 113), ek P (S "insort_left") 420 (.ref 122), ek P (S "bisect_left") 434 (.ref 131), ek P (S "b1_set") 496 (.ref 139), ek P (S "in_table_b1") 503 (.ref 149), ek P (S "b3_exceptions") 2454 (.ref 150), ek P (S "map_table_b3") 2462 (.ref 195), ek P (S "tspecials") 2498 (.ref 200), ek P (S "_name_disallowed_re") 2524 (.ref 205), ek P (S "_value_disallowed_re") 2558 (.ref 210), ek P (S "_formatparam") 2568 (.ref 218), ek P (S "Headers") 2726 (.ref 339)] 24, #[]⟩
noncomputable def m17_29 (P : Params) : Obj := ⟨.none, none, .fields #[(.int (2) 0), (.int (0) 0), (.ref 37), (.int (6) 0), (.int (0) 0), (.ref 44), (.int (60) 0), (.int (0) 0), (.ref 112), (.int (80) 0), (.int (0) 0), (.ref 121), (.int (86) 0), (.int (0) 0), (.ref 130), (.int (108) 0), (.int (0) 0), (.ref 148), (.int (111) 0), (.int (0) 0), (.ref 194), (.int (120) 0), (.int (0) 0), (.ref 217), (.int (129) 0), (.int (0) 0), (.ref 224)], #[]⟩
noncomputable def tr_s0 (P : Params) : BT := (.node (o0 P) (.node (o1 P) (.node (ms0_3 P) (.node (o7 P) (.node (o15 P) .nil .nil) (.node (o23 P) .nil .nil)) (.node (o11 P) (.node (o19 P) .nil .nil) (.node (o27 P) .nil .nil))) (.node (o5 P) (.node (o9 P) (.node (o17 P) .nil .nil) (.node (o25 P) .nil .nil)) (.node (o13 P) (.node (o21 P) .nil .nil) .nil))) (.node (o2 P) (.node (o4 P) (.node (o8 P) (.node (o16 P) .nil .nil) (.node (o24 P) .nil .nil)) (.node (o12 P) (.node (o20 P) .nil .nil) .nil)) (.node (o6 P) (.node (o10 P) (.node (o18 P) .nil .nil) (.node (o26 P) .nil .nil)) (.node (o14 P) (.node (o22 P) .nil .nil) .nil))))
noncomputable def tr_pre (P : Params) : BT := (.node (o0 P) (.node (o1 P) (.node (ms0_3 P) (.node (o7 P) (.node (o15 P) (.node (o31 P) .nil .nil) .nil) (.node (o23 P) .nil .nil)) (.node (o11 P) (.node (o19 P) .nil .nil) (.node (o27 P) .nil .nil))) (.node (o5 P) (.node (o9 P) (.node (o17 P) .nil .nil) (.node (o25 P) .nil .nil)) (.node (o13 P) (.node (o21 P) .nil .nil) (.node (mpre_29 P) .nil .nil)))) (.node (o2 P) (.node (o4 P) (.node (o8 P) (.node (o16 P) .nil .nil) (.node (o24 P) .nil .nil)) (.node (o12 P) (.node (o20 P) .nil .nil) (.node (o28 P) .nil .nil))) (.node (o6 P) (.node (o10 P) (.node (o18 P) .nil .nil) (.node (o26 P) .nil .nil)) (.node (o14 P) (.node (o22 P) .nil .nil) (.node (o30 P) .nil .nil)))))
noncomputable def tr_0 (P : Params) : BT := (.node (o0 P) (.node (o1 P) (.node (m0_3 P) (.node (o7 P) (.node (o15 P) (.node (o31 P) .nil .nil) .nil) (.node (o23 P) .nil .nil)) (.node (o11 P) (.node (o19 P) (.node (o35 P) .nil .nil) .nil) (.node (o27 P) .nil .nil))) (.node (o5 P) (.node (o9 P) (.node (o17 P) (.node (o33 P) .nil .nil) .nil) (.node (o25 P) .nil .nil)) (.node (o13 P) (.node (o21 P) (.node (o37 P) .nil .nil) .nil) (.node (m0_29 P) .nil .nil)))) (.node (o2 P) (.node (o4 P) (.node (o8 P) (.node (o16 P) (.node (o32 P) .nil .nil) .nil) (.node (o24 P) .nil .nil)) (.node (o12 P) (.node (o20 P) (.node (o36 P) .nil .nil) .nil) (.node (o28 P) .nil .nil))) (.node (o6 P) (.node (o10 P) (.node (o18 P) (.node (o34 P) .nil .nil) .nil) (.node (o26 P) .nil .nil)) (.node (o14 P) (.node (o22 P) (.node (o38 P) .nil .nil) .nil) (.node (o30 P) .nil .nil)))))
noncomputable def tr_2 (P : Params) : BT := (.node (o0 P) (.node (o1 P) (.node (m2_3 P) (.node (o7 P) (.node (o15 P) (.node (o31 P) (.node (o63 P) .nil .nil) (.node (o95 P) .nil .nil)) (.node (o47 P) (.node (o79 P) .nil .nil) .nil)) (.node (o23 P) (.node (o39 P) (.node (o71 P) .nil .nil) (.node (o103 P) .nil .nil)) (.node (o55 P) (.node (o87 P) .nil .nil) .nil))) (.node (o11 P) (.node (o19 P) (.node (o35 P) (.node (o67 P) .nil .nil) (.node (o99 P) .nil .nil)) (.node (o51 P) (.node (o83 P) .nil .nil) .nil)) (.node (o27 P) (.node (o43 P) (.node (o75 P) .nil .nil) .nil) (.node (o59 P) (.node (o91 P) .nil .nil) .nil)))) (.node (o5 P) (.node (o9 P) (.node (o17 P) (.node (o33 P) (.node (o65 P) .nil .nil) (.node (o97 P) .nil .nil)) (.node (o49 P) (.node (o81 P) .nil .nil) .nil)) (.node (o25 P) (.node (o41 P) (.node (o73 P) .nil .nil) .nil) (.node (o57 P) (.node (o89 P) .nil .nil) .nil))) (.node (o13 P) (.node (o21 P) (.node (o37 P) (.node (o69 P) .nil .nil) (.node (o101 P) .nil .nil)) (.node (o53 P) (.node (o85 P) .nil .nil) .nil)) (.node (m2_29 P) (.node (o45 P) (.node (o77 P) .nil .nil) .nil) (.node (o61 P) (.node (o93 P) .nil .nil) .nil))))) (.node (o2 P) (.node (o4 P) (.node (o8 P) (.node (o16 P) (.node (o32 P) (.node (o64 P) .nil .nil) (.node (o96 P) .nil .nil)) (.node (o48 P) (.node (o80 P) .nil .nil) .nil)) (.node (o24 P) (.node (o40 P) (.node (o72 P) .nil .nil) (.node (o104 P) .nil .nil)) (.node (o56 P) (.node (o88 P) .nil .nil) .nil))) (.node (o12 P) (.node (o20 P) (.node (o36 P) (.node (o68 P) .nil .nil) (.node (o100 P) .nil .nil)) (.node (o52 P) (.node (o84 P) .nil .nil) .nil)) (.node (o28 P) (.node (o44 P) (.node (o76 P) .nil .nil) .nil) (.node (o60 P) (.node (o92 P) .nil .nil) .nil)))) (.node (o6 P) (.node (o10 P) (.node (o18 P) (.node (o34 P) (.node (o66 P) .nil .nil) (.node (o98 P) .nil .nil)) (.node (o50 P) (.node (o82 P) .nil .nil) .nil)) (.node (o26 P) (.node (o42 P) (.node (o74 P) .nil .nil) .nil) (.node (o58 P) (.node (o90 P) .nil .nil) .nil))) (.node (o14 P) (.node (o22 P) (.node (o38 P) (.node (o70 P) .nil .nil) (.node (o102 P) .nil .nil)) (.node (o54 P) (.node (o86 P) .nil .nil) .nil)) (.node (o30 P) (.node (o46 P) (.node (o78 P) .nil .nil) .nil) (.node (o62 P) (.node (o94 P) .nil .nil) .nil))))))
noncomputable def tr_7 (P : Params) : BT := (.node (o0 P) (.node (o1 P) (.node (m7_3 P) (.node (o7 P) (.node (o15 P) (.node (o31 P) (.node (o63 P) (.node (o127 P) .nil .nil) .nil) (.node (o95 P) .nil .nil)) (.node (o47 P) (.node (o79 P) .nil .nil) (.node (o111 P) .nil .nil))) (.node (o23 P) (.node (o39 P) (.node (o71 P) .nil .nil) (.node (o103 P) .nil .nil)) (.node (o55 P) (.node (o87 P) .nil .nil) (.node (o119 P) .nil .nil)))) (.node (o11 P) (.node (o19 P) (.node (o35 P) (.node (o67 P) (.node (o131 P) .nil .nil) .nil) (.node (o99 P) .nil .nil)) (.node (o51 P) (.node (o83 P) .nil .nil) (.node (o115 P) .nil .nil))) (.node (o27 P) (.node (o43 P) (.node (o75 P) .nil .nil) (.node (o107 P) .nil .nil)) (.node (o59 P) (.node (o91 P) .nil .nil) (.node (o123 P) .nil .nil))))) (.node (o5 P) (.node (o9 P) (.node (o17 P) (.node (o33 P) (.node (o65 P) (.node (o129 P) .nil .nil) .nil) (.node (o97 P) .nil .nil)) (.node (o49 P) (.node (o81 P) .nil .nil) (.node (o113 P) .nil .nil))) (.node (o25 P) (.node (o41 P) (.node (o73 P) .nil .nil) (.node (o105 P) .nil .nil)) (.node (o57 P) (.node (o89 P) .nil .nil) (.node (o121 P) .nil .nil)))) (.node (o13 P) (.node (o21 P) (.node (o37 P) (.node (o69 P) .nil .nil) (.node (o101 P) .nil .nil)) (.node (o53 P) (.node (o85 P) .nil .nil) (.node (o117 P) .nil .nil))) (.node (m7_29 P) (.node (o45 P) (.node (o77 P) .nil .nil) (.node (o109 P) .nil .nil)) (.node (o61 P) (.node (o93 P) .nil .nil) (.node (o125 P) .nil .nil)))))) (.node (o2 P) (.node (o4 P) (.node (o8 P) (.node (o16 P) (.node (o32 P) (.node (o64 P) (.node (o128 P) .nil .nil) .nil) (.node (o96 P) .nil .nil)) (.node (o48 P) (.node (o80 P) .nil .nil) (.node (o112 P) .nil .nil))) (.node (o24 P) (.node (o40 P) (.node (o72 P) .nil .nil) (.node (o104 P) .nil .nil)) (.node (o56 P) (.node (o88 P) .nil .nil) (.node (o120 P) .nil .nil)))) (.node (o12 P) (.node (o20 P) (.node (o36 P) (.node (o68 P) .nil .nil) (.node (o100 P) .nil .nil)) (.node (o52 P) (.node (o84 P) .nil .nil) (.node (o116 P) .nil .nil))) (.node (o28 P) (.node (o44 P) (.node (o76 P) .nil .nil) (.node (o108 P) .nil .nil)) (.node (o60 P) (.node (o92 P) .nil .nil) (.node (o124 P) .nil .nil))))) (.node (o6 P) (.node (o10 P) (.node (o18 P) (.node (o34 P) (.node (o66 P) (.node (o130 P) .nil .nil) .nil) (.node (o98 P) .nil .nil)) (.node (o50 P) (.node (o82 P) .nil .nil) (.node (o114 P) .nil .nil))) (.node (o26 P) (.node (o42 P) (.node (o74 P) .nil .nil) (.node (o106 P) .nil .nil)) (.node (o58 P) (.node (o90 P) .nil .nil) (.node (o122 P) .nil .nil)))) (.node (o14 P) (.node (o22 P) (.node (o38 P) (.node (o70 P) .nil .nil) (.node (o102 P) .nil .nil)) (.node (o54 P) (.node (o86 P) .nil .nil) (.node (o118 P) .nil .nil))) (.node (o30 P) (.node (o46 P) (.node (o78 P) .nil .nil) (.node (o110 P) .nil .nil)) (.node (o62 P) (.node (o94 P) .nil .nil) (.node (o126 P) .nil .nil)))))))
noncomputable def tr_8 (P : Params) : BT := (.node (o0 P) (.node (o1 P) (.node (m8_3 P) (.node (o7 P) (.node (o15 P) (.node (o31 P) (.node (o63 P) (.node (o127 P) .nil .nil) .nil) (.node (o95 P) .nil .nil)) (.node (o47 P) (.node (o79 P) .nil .nil) (.node (o111 P) .nil .nil))) (.node (o23 P) (.node (o39 P) (.node (o71 P) (.node (o135 P) .nil .nil) .nil) (.node (o103 P) .nil .nil)) (.node (o55 P) (.node (o87 P) .nil .nil) (.node (o119 P) .nil .nil)))) (.node (o11 P) (.node (o19 P) (.node (o35 P) (.node (o67 P) (.node (o131 P) .nil .nil) .nil) (.node (o99 P) .nil .nil)) (.node (o51 P) (.node (o83 P) .nil .nil) (.node (o115 P) .nil .nil))) (.node (o27 P) (.node (o43 P) (.node (o75 P) (.node (o139 P) .nil .nil) .nil) (.node (o107 P) .nil .nil)) (.node (o59 P) (.node (o91 P) .nil .nil) (.node (o123 P) .nil .nil))))) (.node (o5 P) (.node (o9 P) (.node (o17 P) (.node (o33 P) (.node (o65 P) (.node (o129 P) .nil .nil) .nil) (.node (o97 P) .nil .nil)) (.node (o49 P) (.node (o81 P) .nil .nil) (.node (o113 P) .nil .nil))) (.node (o25 P) (.node (o41 P) (.node (o73 P) (.node (o137 P) .nil .nil) .nil) (.node (o105 P) .nil .nil)) (.node (o57 P) (.node (o89 P) .nil .nil) (.node (o121 P) .nil .nil)))) (.node (o13 P) (.node (o21 P) (.node (o37 P) (.node (o69 P) (.node (o133 P) .nil .nil) .nil) (.node (o101 P) .nil .nil)) (.node (o53 P) (.node (o85 P) .nil .nil) (.node (o117 P) .nil .nil))) (.node (m7_29 P) (.node (o45 P) (.node (o77 P) (.node (o141 P) .nil .nil) .nil) (.node (o109 P) .nil .nil)) (.node (o61 P) (.node (o93 P) .nil .nil) (.node (o125 P) .nil .nil)))))) (.node (o2 P) (.node (o4 P) (.node (o8 P) (.node (o16 P) (.node (o32 P) (.node (o64 P) (.node (o128 P) .nil .nil) .nil) (.node (o96 P) .nil .nil)) (.node (o48 P) (.node (o80 P) .nil .nil) (.node (o112 P) .nil .nil))) (.node (o24 P) (.node (o40 P) (.node (o72 P) (.node (o136 P) .nil .nil) .nil) (.node (o104 P) .nil .nil)) (.node (o56 P) (.node (o88 P) .nil .nil) (.node (o120 P) .nil .nil)))) (.node (o12 P) (.node (o20 P) (.node (o36 P) (.node (o68 P) (.node (o132 P) .nil .nil) .nil) (.node (o100 P) .nil .nil)) (.node (o52 P) (.node (o84 P) .nil .nil) (.node (o116 P) .nil .nil))) (.node (o28 P) (.node (o44 P) (.node (o76 P) (.node (o140 P) .nil .nil) .nil) (.node (o108 P) .nil .nil)) (.node (o60 P) (.node (o92 P) .nil .nil) (.node (o124 P) .nil .nil))))) (.node (o6 P) (.node (o10 P) (.node (o18 P) (.node (o34 P) (.node (o66 P) (.node (o130 P) .nil .nil) .nil) (.node (o98 P) .nil .nil)) (.node (o50 P) (.node (o82 P) .nil .nil) (.node (o114 P) .nil .nil))) (.node (o26 P) (.node (o42 P) (.node (o74 P) (.node (o138 P) .nil .nil) .nil) (.node (o106 P) .nil .nil)) (.node (o58 P) (.node (o90 P) .nil .nil) (.node (o122 P) .nil .nil)))) (.node (o14 P) (.node (o22 P) (.node (o38 P) (.node (o70 P) (.node (o134 P) .nil .nil) .nil) (.node (o102 P) .nil .nil)) (.node (o54 P) (.node (o86 P) .nil .nil) (.node (o118 P) .nil .nil))) (.node (o30 P) (.node (o46 P) (.node (o78 P) (.node (o142 P) .nil .nil) .nil) (.node (o110 P) .nil .nil)) (.node (o62 P) (.node (o94 P) .nil .nil) (.node (o126 P) .nil .nil)))))))
noncomputable def tr_9 (P : Params) : BT := (.node (o0 P) (.node (o1 P) (.node (m9_3 P) (.node (o7 P) (.node (o15 P) (.node (o31 P) (.node (o63 P) (.node (o127 P) .nil .nil) .nil) (.node (o95 P) .nil .nil)) (.node (o47 P) (.node (o79 P) (.node (o143 P) .nil .nil) .nil) (.node (o111 P) .nil .nil))) (.node (o23 P) (.node (o39 P) (.node (o71 P) (.node (o135 P) .nil .nil) .nil) (.node (o103 P) .nil .nil)) (.node (o55 P) (.node (o87 P) .nil .nil) (.node (o119 P) .nil .nil)))) (.node (o11 P) (.node (o19 P) (.node (o35 P) (.node (o67 P) (.node (o131 P) .nil .nil) .nil) (.node (o99 P) .nil .nil)) (.node (o51 P) (.node (o83 P) (.node (o147 P) .nil .nil) .nil) (.node (o115 P) .nil .nil))) (.node (o27 P) (.node (o43 P) (.node (o75 P) (.node (o139 P) .nil .nil) .nil) (.node (o107 P) .nil .nil)) (.node (o59 P) (.node (o91 P) .nil .nil) (.node (o123 P) .nil .nil))))) (.node (o5 P) (.node (o9 P) (.node (o17 P) (.node (o33 P) (.node (o65 P) (.node (o129 P) .nil .nil) .nil) (.node (o97 P) .nil .nil)) (.node (o49 P) (.node (o81 P) (.node (o145 P) .nil .nil) .nil) (.node (o113 P) .nil .nil))) (.node (o25 P) (.node (o41 P) (.node (o73 P) (.node (o137 P) .nil .nil) .nil) (.node (o105 P) .nil .nil)) (.node (o57 P) (.node (o89 P) .nil .nil) (.node (o121 P) .nil .nil)))) (.node (o13 P) (.node (o21 P) (.node (o37 P) (.node (o69 P) (.node (o133 P) .nil .nil) .nil) (.node (o101 P) .nil .nil)) (.node (o53 P) (.node (o85 P) (.node (o149 P) .nil .nil) .nil) (.node (o117 P) .nil .nil))) (.node (m9_29 P) (.node (o45 P) (.node (o77 P) (.node (o141 P) .nil .nil) .nil) (.node (o109 P) .nil .nil)) (.node (o61 P) (.node (o93 P) .nil .nil) (.node (o125 P) .nil .nil)))))) (.node (o2 P) (.node (o4 P) (.node (o8 P) (.node (o16 P) (.node (o32 P) (.node (o64 P) (.node (o128 P) .nil .nil) .nil) (.node (o96 P) .nil .nil)) (.node (o48 P) (.node (o80 P) (.node (o144 P) .nil .nil) .nil) (.node (o112 P) .nil .nil))) (.node (o24 P) (.node (o40 P) (.node (o72 P) (.node (o136 P) .nil .nil) .nil) (.node (o104 P) .nil .nil)) (.node (o56 P) (.node (o88 P) .nil .nil) (.node (o120 P) .nil .nil)))) (.node (o12 P) (.node (o20 P) (.node (o36 P) (.node (o68 P) (.node (o132 P) .nil .nil) .nil) (.node (o100 P) .nil .nil)) (.node (o52 P) (.node (o84 P) (.node (o148 P) .nil .nil) .nil) (.node (o116 P) .nil .nil))) (.node (o28 P) (.node (o44 P) (.node (o76 P) (.node (o140 P) .nil .nil) .nil) (.node (o108 P) .nil .nil)) (.node (o60 P) (.node (o92 P) .nil .nil) (.node (o124 P) .nil .nil))))) (.node (o6 P) (.node (o10 P) (.node (o18 P) (.node (o34 P) (.node (o66 P) (.node (o130 P) .nil .nil) .nil) (.node (o98 P) .nil .nil)) (.node (o50 P) (.node (o82 P) (.node (o146 P) .nil .nil) .nil) (.node (o114 P) .nil .nil))) (.node (o26 P) (.node (o42 P) (.node (o74 P) (.node (o138 P) .nil .nil) .nil) (.node (o106 P) .nil .nil)) (.node (o58 P) (.node (o90 P) .nil .nil) (.node (o122 P) .nil .nil)))) (.node (o14 P) (.node (o22 P) (.node (o38 P) (.node (o70 P) (.node (o134 P) .nil .nil) .nil) (.node (o102 P) .nil .nil)) (.node (o54 P) (.node (o86 P) .nil .nil) (.node (o118 P) .nil .nil))) (.node (o30 P) (.node (o46 P) (.node (o78 P) (.node (o142 P) .nil .nil) .nil) (.node (o110 P) .nil .nil)) (.node (o62 P) (.node (o94 P) .nil .nil) (.node (o126 P) .nil .nil)))))))
noncomputable def tr_10 (P : Params) (X : Nat → Obj) : BT := (.node (o0 P) (.node (o1 P) (.node (m10_3 P) (.node (o7 P) (.node (o15 P) (.node (o31 P) (.node (o63 P) (.node (o127 P) .nil .nil) .nil) (.node (o95 P) (.node (X 159) .nil .nil) .nil)) (.node (o47 P) (.node (o79 P) (.node (o143 P) .nil .nil) .nil) (.node (o111 P) (.node (X 175) .nil .nil) .nil))) (.node (o23 P) (.node (o39 P) (.node (o71 P) (.node (o135 P) .nil .nil) .nil) (.node (o103 P) (.node (X 167) .nil .nil) .nil)) (.node (o55 P) (.node (o87 P) (.node (X 151) .nil .nil) .nil) (.node (o119 P) (.node (X 183) .nil .nil) .nil)))) (.node (o11 P) (.node (o19 P) (.node (o35 P) (.node (o67 P) (.node (o131 P) .nil .nil) .nil) (.node (o99 P) (.node (X 163) .nil .nil) .nil)) (.node (o51 P) (.node (o83 P) (.node (o147 P) .nil .nil) .nil) (.node (o115 P) (.node (X 179) .nil .nil) .nil))) (.node (o27 P) (.node (o43 P) (.node (o75 P) (.node (o139 P) .nil .nil) .nil) (.node (o107 P) (.node (X 171) .nil .nil) .nil)) (.node (o59 P) (.node (o91 P) (.node (X 155) .nil .nil) .nil) (.node (o123 P) (.node (X 187) .nil .nil) .nil))))) (.node (o5 P) (.node (o9 P) (.node (o17 P) (.node (o33 P) (.node (o65 P) (.node (o129 P) .nil .nil) .nil) (.node (o97 P) (.node (X 161) .nil .nil) .nil)) (.node (o49 P) (.node (o81 P) (.node (o145 P) .nil .nil) .nil) (.node (o113 P) (.node (X 177) .nil .nil) .nil))) (.node (o25 P) (.node (o41 P) (.node (o73 P) (.node (o137 P) .nil .nil) .nil) (.node (o105 P) (.node (X 169) .nil .nil) .nil)) (.node (o57 P) (.node (o89 P) (.node (X 153) .nil .nil) .nil) (.node (o121 P) (.node (X 185) .nil .nil) .nil)))) (.node (o13 P) (.node (o21 P) (.node (o37 P) (.node (o69 P) (.node (o133 P) .nil .nil) .nil) (.node (o101 P) (.node (X 165) .nil .nil) .nil)) (.node (o53 P) (.node (o85 P) (.node (o149 P) .nil .nil) .nil) (.node (o117 P) (.node (X 181) .nil .nil) .nil))) (.node (m9_29 P) (.node (o45 P) (.node (o77 P) (.node (o141 P) .nil .nil) .nil) (.node (o109 P) (.node (X 173) .nil .nil) .nil)) (.node (o61 P) (.node (o93 P) (.node (X 157) .nil .nil) .nil) (.node (o125 P) .nil .nil)))))) (.node (o2 P) (.node (o4 P) (.node (o8 P) (.node (o16 P) (.node (o32 P) (.node (o64 P) (.node (o128 P) .nil .nil) .nil) (.node (o96 P) (.node (X 160) .nil .nil) .nil)) (.node (o48 P) (.node (o80 P) (.node (o144 P) .nil .nil) .nil) (.node (o112 P) (.node (X 176) .nil .nil) .nil))) (.node (o24 P) (.node (o40 P) (.node (o72 P) (.node (o136 P) .nil .nil) .nil) (.node (o104 P) (.node (X 168) .nil .nil) .nil)) (.node (o56 P) (.node (o88 P) (.node (X 152) .nil .nil) .nil) (.node (o120 P) (.node (X 184) .nil .nil) .nil)))) (.node (o12 P) (.node (o20 P) (.node (o36 P) (.node (o68 P) (.node (o132 P) .nil .nil) .nil) (.node (o100 P) (.node (X 164) .nil .nil) .nil)) (.node (o52 P) (.node (o84 P) (.node (o148 P) .nil .nil) .nil) (.node (o116 P) (.node (X 180) .nil .nil) .nil))) (.node (o28 P) (.node (o44 P) (.node (o76 P) (.node (o140 P) .nil .nil) .nil) (.node (o108 P) (.node (X 172) .nil .nil) .nil)) (.node (o60 P) (.node (o92 P) (.node (X 156) .nil .nil) .nil) (.node (o124 P) (.node (X 188) .nil .nil) .nil))))) (.node (o6 P) (.node (o10 P) (.node (o18 P) (.node (o34 P) (.node (o66 P) (.node (o130 P) .nil .nil) .nil) (.node (o98 P) (.node (X 162) .nil .nil) .nil)) (.node (o50 P) (.node (o82 P) (.node (o146 P) .nil .nil) .nil) (.node (o114 P) (.node (X 178) .nil .nil) .nil))) (.node (o26 P) (.node (o42 P) (.node (o74 P) (.node (o138 P) .nil .nil) .nil) (.node (o106 P) (.node (X 170) .nil .nil) .nil)) (.node (o58 P) (.node (o90 P) (.node (X 154) .nil .nil) .nil) (.node (o122 P) (.node (X 186) .nil .nil) .nil)))) (.node (o14 P) (.node (o22 P) (.node (o38 P) (.node (o70 P) (.node (o134 P) .nil .nil) .nil) (.node (o102 P) (.node (X 166) .nil .nil) .nil)) (.node (o54 P) (.node (o86 P) (.node (X 150) .nil .nil) .nil) (.node (o118 P) (.node (X 182) .nil .nil) .nil))) (.node (o30 P) (.node (o46 P) (.node (o78 P) (.node (o142 P) .nil .nil) .nil) (.node (o110 P) (.node (X 174) .nil .nil) .nil)) (.node (o62 P) (.node (o94 P) (.node (X 158) .nil .nil) .nil) (.node (o126 P) .nil .nil)))))))
noncomputable def tr_16 (P : Params) (X : Nat → Obj) : BT := (.node (o0 P) (.node (o1 P) (.node (m16_3 P) (.node (o7 P) (.node (o15 P) (.node (o31 P) (.node (o63 P) (.node (o127 P) .nil .nil) (.node (o191 P) .nil .nil)) (.node (o95 P) (.node (X 159) .nil .nil) .nil)) (.node (o47 P) (.node (o79 P) (.node (o143 P) .nil .nil) (.node (o207 P) .nil .nil)) (.node (o111 P) (.node (X 175) .nil .nil) .nil))) (.node (o23 P) (.node (o39 P) (.node (o71 P) (.node (o135 P) .nil .nil) (.node (o199 P) .nil .nil)) (.node (o103 P) (.node (X 167) .nil .nil) .nil)) (.node (o55 P) (.node (o87 P) (.node (X 151) .nil .nil) (.node (o215 P) .nil .nil)) (.node (o119 P) (.node (X 183) .nil .nil) .nil)))) (.node (o11 P) (.node (o19 P) (.node (o35 P) (.node (o67 P) (.node (o131 P) .nil .nil) (.node (o195 P) .nil .nil)) (.node (o99 P) (.node (X 163) .nil .nil) .nil)) (.node (o51 P) (.node (o83 P) (.node (o147 P) .nil .nil) (.node (o211 P) .nil .nil)) (.node (o115 P) (.node (X 179) .nil .nil) .nil))) (.node (o27 P) (.node (o43 P) (.node (o75 P) (.node (o139 P) .nil .nil) (.node (o203 P) .nil .nil)) (.node (o107 P) (.node (X 171) .nil .nil) .nil)) (.node (o59 P) (.node (o91 P) (.node (X 155) .nil .nil) .nil) (.node (o123 P) (.node (X 187) .nil .nil) .nil))))) (.node (o5 P) (.node (o9 P) (.node (o17 P) (.node (o33 P) (.node (o65 P) (.node (o129 P) .nil .nil) (.node (o193 P) .nil .nil)) (.node (o97 P) (.node (X 161) .nil .nil) .nil)) (.node (o49 P) (.node (o81 P) (.node (o145 P) .nil .nil) (.node (o209 P) .nil .nil)) (.node (o113 P) (.node (X 177) .nil .nil) .nil))) (.node (o25 P) (.node (o41 P) (.node (o73 P) (.node (o137 P) .nil .nil) (.node (o201 P) .nil .nil)) (.node (o105 P) (.node (X 169) .nil .nil) .nil)) (.node (o57 P) (.node (o89 P) (.node (X 153) .nil .nil) (.node (o217 P) .nil .nil)) (.node (o121 P) (.node (X 185) .nil .nil) .nil)))) (.node (o13 P) (.node (o21 P) (.node (o37 P) (.node (o69 P) (.node (o133 P) .nil .nil) (.node (o197 P) .nil .nil)) (.node (o101 P) (.node (X 165) .nil .nil) .nil)) (.node (o53 P) (.node (o85 P) (.node (o149 P) .nil .nil) (.node (o213 P) .nil .nil)) (.node (o117 P) (.node (X 181) .nil .nil) .nil))) (.node (m16_29 P) (.node (o45 P) (.node (o77 P) (.node (o141 P) .nil .nil) (.node (o205 P) .nil .nil)) (.node (o109 P) (.node (X 173) .nil .nil) .nil)) (.node (o61 P) (.node (o93 P) (.node (X 157) .nil .nil) .nil) (.node (o125 P) (.node (o189 P) .nil .nil) .nil)))))) (.node (o2 P) (.node (o4 P) (.node (o8 P) (.node (o16 P) (.node (o32 P) (.node (o64 P) (.node (o128 P) .nil .nil) (.node (o192 P) .nil .nil)) (.node (o96 P) (.node (X 160) .nil .nil) .nil)) (.node (o48 P) (.node (o80 P) (.node (o144 P) .nil .nil) (.node (o208 P) .nil .nil)) (.node (o112 P) (.node (X 176) .nil .nil) .nil))) (.node (o24 P) (.node (o40 P) (.node (o72 P) (.node (o136 P) .nil .nil) (.node (o200 P) .nil .nil)) (.node (o104 P) (.node (X 168) .nil .nil) .nil)) (.node (o56 P) (.node (o88 P) (.node (X 152) .nil .nil) (.node (o216 P) .nil .nil)) (.node (o120 P) (.node (X 184) .nil .nil) .nil)))) (.node (o12 P) (.node (o20 P) (.node (o36 P) (.node (o68 P) (.node (o132 P) .nil .nil) (.node (o196 P) .nil .nil)) (.node (o100 P) (.node (X 164) .nil .nil) .nil)) (.node (o52 P) (.node (o84 P) (.node (o148 P) .nil .nil) (.node (o212 P) .nil .nil)) (.node (o116 P) (.node (X 180) .nil .nil) .nil))) (.node (o28 P) (.node (o44 P) (.node (o76 P) (.node (o140 P) .nil .nil) (.node (o204 P) .nil .nil)) (.node (o108 P) (.node (X 172) .nil .nil) .nil)) (.node (o60 P) (.node (o92 P) (.node (X 156) .nil .nil) .nil) (.node (o124 P) (.node (X 188) .nil .nil) .nil))))) (.node (o6 P) (.node (o10 P) (.node (o18 P) (.node (o34 P) (.node (o66 P) (.node (o130 P) .nil .nil) (.node (o194 P) .nil .nil)) (.node (o98 P) (.node (X 162) .nil .nil) .nil)) (.node (o50 P) (.node (o82 P) (.node (o146 P) .nil .nil) (.node (o210 P) .nil .nil)) (.node (o114 P) (.node (X 178) .nil .nil) .nil))) (.node (o26 P) (.node (o42 P) (.node (o74 P) (.node (o138 P) .nil .nil) (.node (o202 P) .nil .nil)) (.node (o106 P) (.node (X 170) .nil .nil) .nil)) (.node (o58 P) (.node (o90 P) (.node (X 154) .nil .nil) (.node (o218 P) .nil .nil)) (.node (o122 P) (.node (X 186) .nil .nil) .nil)))) (.node (o14 P) (.node (o22 P) (.node (o38 P) (.node (o70 P) (.node (o134 P) .nil .nil) (.node (o198 P) .nil .nil)) (.node (o102 P) (.node (X 166) .nil .nil) .nil)) (.node (o54 P) (.node (o86 P) (.node (X 150) .nil .nil) (.node (o214 P) .nil .nil)) (.node (o118 P) (.node (X 182) .nil .nil) .nil))) (.node (o30 P) (.node (o46 P) (.node (o78 P) (.node (o142 P) .nil .nil) (.node (o206 P) .nil .nil)) (.node (o110 P) (.node (X 174) .nil .nil) .nil)) (.node (o62 P) (.node (o94 P) (.node (X 158) .nil .nil) .nil) (.node (o126 P) (.node (o190 P) .nil .nil) .nil)))))))
noncomputable def tr_17 (P : Params) (X : Nat → Obj) : BT := (.node (o0 P) (.node (o1 P) (.node (m17_3 P) (.node (o7 P) (.node (o15 P) (.node (o31 P) (.node (o63 P) (.node (o127 P) (.node (o255 P) .nil .nil) .nil) (.node (o191 P) (.node (o319 P) .nil .nil) .nil)) (.node (o95 P) (.node (X 159) (.node (o287 P) .nil .nil) .nil) (.node (o223 P) .nil .nil))) (.node (o47 P) (.node (o79 P) (.node (o143 P) (.node (o271 P) .nil .nil) .nil) (.node (o207 P) (.node (o335 P) .nil .nil) .nil)) (.node (o111 P) (.node (X 175) (.node (o303 P) .nil .nil) .nil) (.node (o239 P) .nil .nil)))) (.node (o23 P) (.node (o39 P) (.node (o71 P) (.node (o135 P) (.node (o263 P) .nil .nil) .nil) (.node (o199 P) (.node (o327 P) .nil .nil) .nil)) (.node (o103 P) (.node (X 167) (.node (o295 P) .nil .nil) .nil) (.node (o231 P) .nil .nil))) (.node (o55 P) (.node (o87 P) (.node (X 151) (.node (o279 P) .nil .nil) .nil) (.node (o215 P) (.node (o343 P) .nil .nil) .nil)) (.node (o119 P) (.node (X 183) (.node (o311 P) .nil .nil) .nil) (.node (o247 P) .nil .nil))))) (.node (o11 P) (.node (o19 P) (.node (o35 P) (.node (o67 P) (.node (o131 P) (.node (o259 P) .nil .nil) .nil) (.node (o195 P) (.node (o323 P) .nil .nil) .nil)) (.node (o99 P) (.node (X 163) (.node (o291 P) .nil .nil) .nil) (.node (o227 P) .nil .nil))) (.node (o51 P) (.node (o83 P) (.node (o147 P) (.node (o275 P) .nil .nil) .nil) (.node (o211 P) (.node (o339 P) .nil .nil) .nil)) (.node (o115 P) (.node (X 179) (.node (o307 P) .nil .nil) .nil) (.node (o243 P) .nil .nil)))) (.node (o27 P) (.node (o43 P) (.node (o75 P) (.node (o139 P) (.node (o267 P) .nil .nil) .nil) (.node (o203 P) (.node (o331 P) .nil .nil) .nil)) (.node (o107 P) (.node (X 171) (.node (o299 P) .nil .nil) .nil) (.node (o235 P) .nil .nil))) (.node (o59 P) (.node (o91 P) (.node (X 155) (.node (o283 P) .nil .nil) .nil) (.node (o219 P) .nil .nil)) (.node (o123 P) (.node (X 187) (.node (o315 P) .nil .nil) .nil) (.node (o251 P) .nil .nil)))))) (.node (o5 P) (.node (o9 P) (.node (o17 P) (.node (o33 P) (.node (o65 P) (.node (o129 P) (.node (o257 P) .nil .nil) .nil) (.node (o193 P) (.node (o321 P) .nil .nil) .nil)) (.node (o97 P) (.node (X 161) (.node (o289 P) .nil .nil) .nil) (.node (o225 P) .nil .nil))) (.node (o49 P) (.node (o81 P) (.node (o145 P) (.node (o273 P) .nil .nil) .nil) (.node (o209 P) (.node (o337 P) .nil .nil) .nil)) (.node (o113 P) (.node (X 177) (.node (o305 P) .nil .nil) .nil) (.node (o241 P) .nil .nil)))) (.node (o25 P) (.node (o41 P) (.node (o73 P) (.node (o137 P) (.node (o265 P) .nil .nil) .nil) (.node (o201 P) (.node (o329 P) .nil .nil) .nil)) (.node (o105 P) (.node (X 169) (.node (o297 P) .nil .nil) .nil) (.node (o233 P) .nil .nil))) (.node (o57 P) (.node (o89 P) (.node (X 153) (.node (o281 P) .nil .nil) .nil) (.node (o217 P) .nil .nil)) (.node (o121 P) (.node (X 185) (.node (o313 P) .nil .nil) .nil) (.node (o249 P) .nil .nil))))) (.node (o13 P) (.node (o21 P) (.node (o37 P) (.node (o69 P) (.node (o133 P) (.node (o261 P) .nil .nil) .nil) (.node (o197 P) (.node (o325 P) .nil .nil) .nil)) (.node (o101 P) (.node (X 165) (.node (o293 P) .nil .nil) .nil) (.node (o229 P) .nil .nil))) (.node (o53 P) (.node (o85 P) (.node (o149 P) (.node (o277 P) .nil .nil) .nil) (.node (o213 P) (.node (o341 P) .nil .nil) .nil)) (.node (o117 P) (.node (X 181) (.node (o309 P) .nil .nil) .nil) (.node (o245 P) .nil .nil)))) (.node (m17_29 P) (.node (o45 P) (.node (o77 P) (.node (o141 P) (.node (o269 P) .nil .nil) .nil) (.node (o205 P) (.node (o333 P) .nil .nil) .nil)) (.node (o109 P) (.node (X 173) (.node (o301 P) .nil .nil) .nil) (.node (o237 P) .nil .nil))) (.node (o61 P) (.node (o93 P) (.node (X 157) (.node (o285 P) .nil .nil) .nil) (.node (o221 P) .nil .nil)) (.node (o125 P) (.node (o189 P) (.node (o317 P) .nil .nil) .nil) (.node (o253 P) .nil .nil))))))) (.node (o2 P) (.node (o4 P) (.node (o8 P) (.node (o16 P) (.node (o32 P) (.node (o64 P) (.node (o128 P) (.node (o256 P) .nil .nil) .nil) (.node (o192 P) (.node (o320 P) .nil .nil) .nil)) (.node (o96 P) (.node (X 160) (.node (o288 P) .nil .nil) .nil) (.node (o224 P) .nil .nil))) (.node (o48 P) (.node (o80 P) (.node (o144 P) (.node (o272 P) .nil .nil) .nil) (.node (o208 P) (.node (o336 P) .nil .nil) .nil)) (.node (o112 P) (.node (X 176) (.node (o304 P) .nil .nil) .nil) (.node (o240 P) .nil .nil)))) (.node (o24 P) (.node (o40 P) (.node (o72 P) (.node (o136 P) (.node (o264 P) .nil .nil) .nil) (.node (o200 P) (.node (o328 P) .nil .nil) .nil)) (.node (o104 P) (.node (X 168) (.node (o296 P) .nil .nil) .nil) (.node (o232 P) .nil .nil))) (.node (o56 P) (.node (o88 P) (.node (X 152) (.node (o280 P) .nil .nil) .nil) (.node (o216 P) .nil .nil)) (.node (o120 P) (.node (X 184) (.node (o312 P) .nil .nil) .nil) (.node (o248 P) .nil .nil))))) (.node (o12 P) (.node (o20 P) (.node (o36 P) (.node (o68 P) (.node (o132 P) (.node (o260 P) .nil .nil) .nil) (.node (o196 P) (.node (o324 P) .nil .nil) .nil)) (.node (o100 P) (.node (X 164) (.node (o292 P) .nil .nil) .nil) (.node (o228 P) .nil .nil))) (.node (o52 P) (.node (o84 P) (.node (o148 P) (.node (o276 P) .nil .nil) .nil) (.node (o212 P) (.node (o340 P) .nil .nil) .nil)) (.node (o116 P) (.node (X 180) (.node (o308 P) .nil .nil) .nil) (.node (o244 P) .nil .nil)))) (.node (o28 P) (.node (o44 P) (.node (o76 P) (.node (o140 P) (.node (o268 P) .nil .nil) .nil) (.node (o204 P) (.node (o332 P) .nil .nil) .nil)) (.node (o108 P) (.node (X 172) (.node (o300 P) .nil .nil) .nil) (.node (o236 P) .nil .nil))) (.node (o60 P) (.node (o92 P) (.node (X 156) (.node (o284 P) .nil .nil) .nil) (.node (o220 P) .nil .nil)) (.node (o124 P) (.node (X 188) (.node (o316 P) .nil .nil) .nil) (.node (o252 P) .nil .nil)))))) (.node (o6 P) (.node (o10 P) (.node (o18 P) (.node (o34 P) (.node (o66 P) (.node (o130 P) (.node (o258 P) .nil .nil) .nil) (.node (o194 P) (.node (o322 P) .nil .nil) .nil)) (.node (o98 P) (.node (X 162) (.node (o290 P) .nil .nil) .nil) (.node (o226 P) .nil .nil))) (.node (o50 P) (.node (o82 P) (.node (o146 P) (.node (o274 P) .nil .nil) .nil) (.node (o210 P) (.node (o338 P) .nil .nil) .nil)) (.node (o114 P) (.node (X 178) (.node (o306 P) .nil .nil) .nil) (.node (o242 P) .nil .nil)))) (.node (o26 P) (.node (o42 P) (.node (o74 P) (.node (o138 P) (.node (o266 P) .nil .nil) .nil) (.node (o202 P) (.node (o330 P) .nil .nil) .nil)) (.node (o106 P) (.node (X 170) (.node (o298 P) .nil .nil) .nil) (.node (o234 P) .nil .nil))) (.node (o58 P) (.node (o90 P) (.node (X 154) (.node (o282 P) .nil .nil) .nil) (.node (o218 P) .nil .nil)) (.node (o122 P) (.node (X 186) (.node (o314 P) .nil .nil) .nil) (.node (o250 P) .nil .nil))))) (.node (o14 P) (.node (o22 P) (.node (o38 P) (.node (o70 P) (.node (o134 P) (.node (o262 P) .nil .nil) .nil) (.node (o198 P) (.node (o326 P) .nil .nil) .nil)) (.node (o102 P) (.node (X 166) (.node (o294 P) .nil .nil) .nil) (.node (o230 P) .nil .nil))) (.node (o54 P) (.node (o86 P) (.node (X 150) (.node (o278 P) .nil .nil) .nil) (.node (o214 P) (.node (o342 P) .nil .nil) .nil)) (.node (o118 P) (.node (X 182) (.node (o310 P) .nil .nil) .nil) (.node (o246 P) .nil .nil)))) (.node (o30 P) (.node (o46 P) (.node (o78 P) (.node (o142 P) (.node (o270 P) .nil .nil) .nil) (.node (o206 P) (.node (o334 P) .nil .nil) .nil)) (.node (o110 P) (.node (X 174) (.node (o302 P) .nil .nil) .nil) (.node (o238 P) .nil .nil))) (.node (o62 P) (.node (o94 P) (.node (X 158) (.node (o286 P) .nil .nil) .nil) (.node (o222 P) .nil .nil)) (.node (o126 P) (.node (o190 P) (.node (o318 P) .nil .nil) .nil) (.node (o254 P) .nil .nil))))))))
noncomputable def tr_fin (P : Params) (X : Nat → Obj) : BT := (.node (o0 P) (.node (o1 P) (.node (o3 P) (.node (o7 P) (.node (o15 P) (.node (o31 P) (.node (o63 P) (.node (o127 P) (.node (o255 P) .nil .nil) (.node (o383 P) .nil .nil)) (.node (o191 P) (.node (o319 P) .nil .nil) .nil)) (.node (o95 P) (.node (X 159) (.node (o287 P) .nil .nil) .nil) (.node (o223 P) (.node (o351 P) .nil .nil) .nil))) (.node (o47 P) (.node (o79 P) (.node (o143 P) (.node (o271 P) .nil .nil) .nil) (.node (o207 P) (.node (o335 P) .nil .nil) .nil)) (.node (o111 P) (.node (X 175) (.node (o303 P) .nil .nil) .nil) (.node (o239 P) (.node (o367 P) .nil .nil) .nil)))) (.node (o23 P) (.node (o39 P) (.node (o71 P) (.node (o135 P) (.node (o263 P) .nil .nil) (.node (o391 P) .nil .nil)) (.node (o199 P) (.node (o327 P) .nil .nil) .nil)) (.node (o103 P) (.node (X 167) (.node (o295 P) .nil .nil) .nil) (.node (o231 P) (.node (o359 P) .nil .nil) .nil))) (.node (o55 P) (.node (o87 P) (.node (X 151) (.node (o279 P) .nil .nil) .nil) (.node (o215 P) (.node (o343 P) .nil .nil) .nil)) (.node (o119 P) (.node (X 183) (.node (o311 P) .nil .nil) .nil) (.node (o247 P) (.node (o375 P) .nil .nil) .nil))))) (.node (o11 P) (.node (o19 P) (.node (o35 P) (.node (o67 P) (.node (o131 P) (.node (o259 P) .nil .nil) (.node (o387 P) .nil .nil)) (.node (o195 P) (.node (o323 P) .nil .nil) .nil)) (.node (o99 P) (.node (X 163) (.node (o291 P) .nil .nil) .nil) (.node (o227 P) (.node (o355 P) .nil .nil) .nil))) (.node (o51 P) (.node (o83 P) (.node (o147 P) (.node (o275 P) .nil .nil) .nil) (.node (o211 P) (.node (o339 P) .nil .nil) .nil)) (.node (o115 P) (.node (X 179) (.node (o307 P) .nil .nil) .nil) (.node (o243 P) (.node (o371 P) .nil .nil) .nil)))) (.node (o27 P) (.node (o43 P) (.node (o75 P) (.node (o139 P) (.node (o267 P) .nil .nil) (.node (o395 P) .nil .nil)) (.node (o203 P) (.node (o331 P) .nil .nil) .nil)) (.node (o107 P) (.node (X 171) (.node (o299 P) .nil .nil) .nil) (.node (o235 P) (.node (o363 P) .nil .nil) .nil))) (.node (o59 P) (.node (o91 P) (.node (X 155) (.node (o283 P) .nil .nil) .nil) (.node (o219 P) (.node (o347 P) .nil .nil) .nil)) (.node (o123 P) (.node (X 187) (.node (o315 P) .nil .nil) .nil) (.node (o251 P) (.node (o379 P) .nil .nil) .nil)))))) (.node (o5 P) (.node (o9 P) (.node (o17 P) (.node (o33 P) (.node (o65 P) (.node (o129 P) (.node (o257 P) .nil .nil) (.node (o385 P) .nil .nil)) (.node (o193 P) (.node (o321 P) .nil .nil) .nil)) (.node (o97 P) (.node (X 161) (.node (o289 P) .nil .nil) .nil) (.node (o225 P) (.node (o353 P) .nil .nil) .nil))) (.node (o49 P) (.node (o81 P) (.node (o145 P) (.node (o273 P) .nil .nil) .nil) (.node (o209 P) (.node (o337 P) .nil .nil) .nil)) (.node (o113 P) (.node (X 177) (.node (o305 P) .nil .nil) .nil) (.node (o241 P) (.node (o369 P) .nil .nil) .nil)))) (.node (o25 P) (.node (o41 P) (.node (o73 P) (.node (o137 P) (.node (o265 P) .nil .nil) (.node (o393 P) .nil .nil)) (.node (o201 P) (.node (o329 P) .nil .nil) .nil)) (.node (o105 P) (.node (X 169) (.node (o297 P) .nil .nil) .nil) (.node (o233 P) (.node (o361 P) .nil .nil) .nil))) (.node (o57 P) (.node (o89 P) (.node (X 153) (.node (o281 P) .nil .nil) .nil) (.node (o217 P) (.node (o345 P) .nil .nil) .nil)) (.node (o121 P) (.node (X 185) (.node (o313 P) .nil .nil) .nil) (.node (o249 P) (.node (o377 P) .nil .nil) .nil))))) (.node (o13 P) (.node (o21 P) (.node (o37 P) (.node (o69 P) (.node (o133 P) (.node (o261 P) .nil .nil) (.node (o389 P) .nil .nil)) (.node (o197 P) (.node (o325 P) .nil .nil) .nil)) (.node (o101 P) (.node (X 165) (.node (o293 P) .nil .nil) .nil) (.node (o229 P) (.node (o357 P) .nil .nil) .nil))) (.node (o53 P) (.node (o85 P) (.node (o149 P) (.node (o277 P) .nil .nil) .nil) (.node (o213 P) (.node (o341 P) .nil .nil) .nil)) (.node (o117 P) (.node (X 181) (.node (o309 P) .nil .nil) .nil) (.node (o245 P) (.node (o373 P) .nil .nil) .nil)))) (.node (o29 P) (.node (o45 P) (.node (o77 P) (.node (o141 P) (.node (o269 P) .nil .nil) (.node (o397 P) .nil .nil)) (.node (o205 P) (.node (o333 P) .nil .nil) .nil)) (.node (o109 P) (.node (X 173) (.node (o301 P) .nil .nil) .nil) (.node (o237 P) (.node (o365 P) .nil .nil) .nil))) (.node (o61 P) (.node (o93 P) (.node (X 157) (.node (o285 P) .nil .nil) .nil) (.node (o221 P) (.node (o349 P) .nil .nil) .nil)) (.node (o125 P) (.node (o189 P) (.node (o317 P) .nil .nil) .nil) (.node (o253 P) (.node (o381 P) .nil .nil) .nil))))))) (.node (o2 P) (.node (o4 P) (.node (o8 P) (.node (o16 P) (.node (o32 P) (.node (o64 P) (.node (o128 P) (.node (o256 P) .nil .nil) (.node (o384 P) .nil .nil)) (.node (o192 P) (.node (o320 P) .nil .nil) .nil)) (.node (o96 P) (.node (X 160) (.node (o288 P) .nil .nil) .nil) (.node (o224 P) (.node (o352 P) .nil .nil) .nil))) (.node (o48 P) (.node (o80 P) (.node (o144 P) (.node (o272 P) .nil .nil) .nil) (.node (o208 P) (.node (o336 P) .nil .nil) .nil)) (.node (o112 P) (.node (X 176) (.node (o304 P) .nil .nil) .nil) (.node (o240 P) (.node (o368 P) .nil .nil) .nil)))) (.node (o24 P) (.node (o40 P) (.node (o72 P) (.node (o136 P) (.node (o264 P) .nil .nil) (.node (o392 P) .nil .nil)) (.node (o200 P) (.node (o328 P) .nil .nil) .nil)) (.node (o104 P) (.node (X 168) (.node (o296 P) .nil .nil) .nil) (.node (o232 P) (.node (o360 P) .nil .nil) .nil))) (.node (o56 P) (.node (o88 P) (.node (X 152) (.node (o280 P) .nil .nil) .nil) (.node (o216 P) (.node (o344 P) .nil .nil) .nil)) (.node (o120 P) (.node (X 184) (.node (o312 P) .nil .nil) .nil) (.node (o248 P) (.node (o376 P) .nil .nil) .nil))))) (.node (o12 P) (.node (o20 P) (.node (o36 P) (.node (o68 P) (.node (o132 P) (.node (o260 P) .nil .nil) (.node (o388 P) .nil .nil)) (.node (o196 P) (.node (o324 P) .nil .nil) .nil)) (.node (o100 P) (.node (X 164) (.node (o292 P) .nil .nil) .nil) (.node (o228 P) (.node (o356 P) .nil .nil) .nil))) (.node (o52 P) (.node (o84 P) (.node (o148 P) (.node (o276 P) .nil .nil) .nil) (.node (o212 P) (.node (o340 P) .nil .nil) .nil)) (.node (o116 P) (.node (X 180) (.node (o308 P) .nil .nil) .nil) (.node (o244 P) (.node (o372 P) .nil .nil) .nil)))) (.node (o28 P) (.node (o44 P) (.node (o76 P) (.node (o140 P) (.node (o268 P) .nil .nil) (.node (o396 P) .nil .nil)) (.node (o204 P) (.node (o332 P) .nil .nil) .nil)) (.node (o108 P) (.node (X 172) (.node (o300 P) .nil .nil) .nil) (.node (o236 P) (.node (o364 P) .nil .nil) .nil))) (.node (o60 P) (.node (o92 P) (.node (X 156) (.node (o284 P) .nil .nil) .nil) (.node (o220 P) (.node (o348 P) .nil .nil) .nil)) (.node (o124 P) (.node (X 188) (.node (o316 P) .nil .nil) .nil) (.node (o252 P) (.node (o380 P) .nil .nil) .nil)))))) (.node (o6 P) (.node (o10 P) (.node (o18 P) (.node (o34 P) (.node (o66 P) (.node (o130 P) (.node (o258 P) .nil .nil) (.node (o386 P) .nil .nil)) (.node (o194 P) (.node (o322 P) .nil .nil) .nil)) (.node (o98 P) (.node (X 162) (.node (o290 P) .nil .nil) .nil) (.node (o226 P) (.node (o354 P) .nil .nil) .nil))) (.node (o50 P) (.node (o82 P) (.node (o146 P) (.node (o274 P) .nil .nil) .nil) (.node (o210 P) (.node (o338 P) .nil .nil) .nil)) (.node (o114 P) (.node (X 178) (.node (o306 P) .nil .nil) .nil) (.node (o242 P) (.node (o370 P) .nil .nil) .nil)))) (.node (o26 P) (.node (o42 P) (.node (o74 P) (.node (o138 P) (.node (o266 P) .nil .nil) (.node (o394 P) .nil .nil)) (.node (o202 P) (.node (o330 P) .nil .nil) .nil)) (.node (o106 P) (.node (X 170) (.node (o298 P) .nil .nil) .nil) (.node (o234 P) (.node (o362 P) .nil .nil) .nil))) (.node (o58 P) (.node (o90 P) (.node (X 154) (.node (o282 P) .nil .nil) .nil) (.node (o218 P) (.node (o346 P) .nil .nil) .nil)) (.node (o122 P) (.node (X 186) (.node (o314 P) .nil .nil) .nil) (.node (o250 P) (.node (o378 P) .nil .nil) .nil))))) (.node (o14 P) (.node (o22 P) (.node (o38 P) (.node (o70 P) (.node (o134 P) (.node (o262 P) .nil .nil) (.node (o390 P) .nil .nil)) (.node (o198 P) (.node (o326 P) .nil .nil) .nil)) (.node (o102 P) (.node (X 166) (.node (o294 P) .nil .nil) .nil) (.node (o230 P) (.node (o358 P) .nil .nil) .nil))) (.node (o54 P) (.node (o86 P) (.node (X 150) (.node (o278 P) .nil .nil) .nil) (.node (o214 P) (.node (o342 P) .nil .nil) .nil)) (.node (o118 P) (.node (X 182) (.node (o310 P) .nil .nil) .nil) (.node (o246 P) (.node (o374 P) .nil .nil) .nil)))) (.node (o30 P) (.node (o46 P) (.node (o78 P) (.node (o142 P) (.node (o270 P) .nil .nil) .nil) (.node (o206 P) (.node (o334 P) .nil .nil) .nil)) (.node (o110 P) (.node (X 174) (.node (o302 P) .nil .nil) .nil) (.node (o238 P) (.node (o366 P) .nil .nil) .nil))) (.node (o62 P) (.node (o94 P) (.node (X 158) (.node (o286 P) .nil .nil) .nil) (.node (o222 P) (.node (o350 P) .nil .nil) .nil)) (.node (o126 P) (.node (o190 P) (.node (o318 P) .nil .nil) .nil) (.node (o254 P) (.node (o382 P) .nil .nil) .nil))))))))
end
end Tc
namespace Tc
open PySem PySem.W
theorem opn (w : World) : (fencedOpening treeTable prg w 900).map (fun s => (s.heap, s.gens, s.drawn, s.toks)) = some (absHeap (tr_s0 w.params) 28 {}, #[], {}, 276) := by kernel_rfl
end Tc
namespace Tc
open PySem PySem.W PySem.Calls PyProof.Rows
/-- the heap behind the top: X stands for the objects of b3_exceptions -/
noncomputable abbrev Hf (P : Params) (X : Nat → Obj) (life : Life) : Heap := absHeap (tr_fin P X) 398 life
noncomputable abbrev Hs (P : Params) (life : Life) : Heap := absHeap (tr_s0 P) 28 life
section
variable (P : Params) (X : Nat → Obj) (life : Life)
theorem fin_accounted : (Hf P X life).accountedOkI (importedModules prg.main.body) = true := by kernel_rfl
theorem fin_statics : staticsOk (importedModules prg.main.body) (Hs P life) (Hf P X life) = true := by kernel_rfl
theorem fin_names : namesBound prg (Hf P X life) = true := by kernel_rfl
theorem fin_laid : laidKept (Hs P life) (Hf P X life) = true := by kernel_rfl
theorem fin_main : (Hf P X life).isNs mainGlobals = true := by kernel_rfl
theorem fin_bns : (Hf P X life).isNs builtinsNs = true := by kernel_rfl
theorem fin_blt : (Hf P X life).bltView = bltViewBooted := by kernel_rfl
theorem fin_bmain : (Hf P X life).bmainOk = true := by kernel_rfl
theorem s0_main : (Hs P life).isNs mainGlobals = true := by kernel_rfl
theorem s0_ann : (Hs P life).nsMap mainGlobals "__annotations__" = some (.ref 6) := by kernel_rfl
noncomputable def oldOnes : List Nat := [0, 1, 4, 5, 7, 8, 9, 10, 11, 12, 13, 14, 15, 16, 17, 18, 19, 20, 21, 22, 23, 24, 25, 26, 27]
theorem fin_old : oldOnes.map (tr_fin P X).get = oldOnes.map (tr_s0 P).get := by kernel_rfl
end
end Tc
namespace Tc
open PySem PySem.W PySem.Calls PyProof.Rows
theorem old_mem_all : (List.range 28).all (fun b => b == 3 || b == 2 || b == 6 || oldOnes.contains b) = true := by decide
theorem old_mem (b : Nat) (lt : b < 28) (h3 : b ≠ 3) (h2 : b ≠ 2) (h6 : b ≠ 6) : b ∈ oldOnes := by
  have h := List.all_eq_true.mp old_mem_all b (List.mem_range.mpr lt)
  rw [beq_false_of_ne h3, beq_false_of_ne h2, beq_false_of_ne h6] at h
  exact List.contains_iff_mem.mp h
theorem ran {w : World} {X : Nat → Obj} {k : Nat} {os : OsState}
    (run : ∃ n t, schedN (denote table) prg w n (.single ⟨Hs w.params {}, #[], {}, 276, os⟩ (topStub prg)) = .running (.single ⟨Hf w.params X {}, #[], {}, k, os⟩ t) ∧ through t = true) :
    TopRan prg w ⟨Hs w.params {}, #[], {}, 276, os⟩ ⟨Hf w.params X {}, #[], {}, k, os⟩ := by
  refine ⟨run, rfl, rfl, ?_, Heap.accountedI_of_ok (fin_accounted _ _ _), statics_of_ok (fin_statics _ _ _), Pin.keysAreStrs_of (fin_main _ _ _), fun x hx => (Pin.builtinOf_eq (fin_bns _ _ _) x).trans (Heap.of_bltView (fin_bns _ _ _) (fin_blt _ _ _) x hx), ?_, fun g hg => (nomatch hg), names_of_bound (fin_names _ _ _), laid_of_kept (fin_laid _ _ _)⟩
  · intro b o hb hn
    have hb : (Hs w.params {}).get? b = some o := hb
    have lt : b < 28 := by
      have := Heap.lt_size hb
      rwa [absHeap_size] at this
    have h3 : b ≠ 3 := fun q => hn (.inl q)
    have h2 : b ≠ 2 := fun q => hn (.inr (.inl q))
    have h6 : b ≠ 6 := fun q => hn (.inr (.inr (by subst q; exact (Pin.globalOf_eq (s0_main _ _) _).trans (s0_ann _ _))))
    have hm : b ∈ oldOnes := old_mem b lt h3 h2 h6
    have e : (tr_fin w.params X).get b = (tr_s0 w.params).get b := List.map_inj_left.mp (fin_old w.params X) b hm
    show (Hf w.params X {}).get? b = some o
    unfold Heap.get? at hb ⊢
    rw [absHeap_at, if_pos lt] at hb
    rw [absHeap_at, if_pos (Nat.lt_trans lt (by decide)), e]
    exact hb
  · obtain ⟨bm, ob, a, _, c, d, f, _⟩ := Heap.bmainOk_spec (fin_bmain w.params X {})
    exact ⟨bm, ob, (Pin.globalOf_eq (fin_main _ _ _) _).trans a, c, d, f⟩
end Tc
namespace Tc
open PySem PySem.W PySem.Calls PyProof.Rows
section
variable {den : Code → Sem Fin} {prog : Program} {w : World}
theorem runNI_runs : ∀ (n : Nat) (s : Shared) (t : Thread) {s1 : Shared} {t1 : Thread}, runNI den prog w n s t = .running s1 t1 → runNK den prog w n s t = .running s1 t1
  | 0, _, _, _, _, h => h
  | n + 1, s, t, s1, t1, h => by
    unfold runNI at h
    unfold runNK
    cases hl : t.loud with
    | true => rw [stepI_loud _ _ _ hl] at h; cases h
    | false =>
      rw [stepI_quiet _ _ _ hl] at h
      cases hs : stepK den prog w s t with
      | halt o s2 => rw [hs] at h; cases h
      | go s2 t2 => rw [hs] at h; exact runNI_runs n s2 t2 h
theorem no_frames : ∀ {st : List Frame}, forgetAll st = [] → st = []
  | [], _ => rfl
  | fr :: st, h => by cases fr <;> cases h
theorem through_of {t : Thread} {f : Flow} {c : Code} {p : Pos} (h : t.forget = Thread.forget ⟨.pure (.done f), c, p, []⟩) : through t = true := by
  obtain ⟨cur, code, pos, st⟩ := t
  injection h with h1 _ _ h4
  have h4 := no_frames h4
  subst h1 h4
  rfl
end
theorem sched_of_reach {w : World} {p : Program} {s s' : Shared} {t : Sem Fin} {c : Code} {pos : Pos} {f : Flow} (hr : s.asleep) (hg : s'.gens = #[]) (h : Reach (model p w) [] s t c pos [] s' (.ret (.ok f))) :
    ∃ n t', schedN (denote table) p w n (.single s ⟨t, c, pos, []⟩) = .running (.single s' t') ∧ through t' = true := by
  obtain ⟨n, t', c', p', pre', hn, rfl, rfl⟩ := h.runN
  have hh : (model p w).runN (n + 1) s ⟨t, c, pos, [] ++ []⟩ = .halted (outcomeOf (.ok f)) s' := by
    rw [runN_snoc hn, List.append_nil, step_leaf_nil]
    have : leftWithCleanup s'.gens = false := by rw [hg]; simp [leftWithCleanup]
    simp only [finish, this, Bool.false_eq_true, if_false]
  obtain ⟨s2, h2, hf, hc⟩ := runNI_real (denote table) p w (show runNI (denote table) p w (n + 1) s ⟨t, c, pos, []⟩ = .halted (outcomeOf (.ok f)) s' from hh) rfl
  have hne : ∀ k s₂, runN (denote table) p w k s ⟨t, c, pos, []⟩ ≠ .halted (.unsupported "lifetime:generator-with-cleanup-left-suspended") s₂ := by
    intro k s₂ hk
    have a := runN_mono (denote table) p w (n + 1) k s _ _ _ h2
    have b := runN_mono (denote table) p w k (n + 1) s _ _ s₂ hk
    rw [Nat.add_comm, b] at a
    injection a with a1 _
    cases a1
  have e := runNK_same (denote table) p w n (s₁ := s) (s₂ := s) (t₁ := ⟨t, c, pos, []⟩) (t₂ := ⟨t, c, pos, []⟩) rfl rfl
  rw [show runNK (denote table) p w n s ⟨t, c, pos, []⟩ = .running s' ⟨leafOf (.ok f), c', p', []⟩ from runNI_runs n s ⟨t, c, pos, []⟩ hn] at e
  cases hx : runN (denote table) p w n s ⟨t, c, pos, []⟩ with
  | halted o s3 => rw [hx] at e; cases e
  | running s3 t3 =>
    rw [hx] at e
    injection e with e1 e2
    obtain rfl : s3 = s' := Shared.eq_of_forget_eq e1.symm hg
    exact ⟨n, t3, (schedN_eq_runN (denote table) p w s _ hr ⟨hc, hne⟩ n).trans (congrArg Run.lift hx), through_of e2.symm⟩
end Tc
namespace Tc
open PySem PySem.W
noncomputable def bodyT : List Stmt := behindTheImports prg
noncomputable def benv : Env := { scope := prg.main.scope, locals := 3, globals := 3, cells := [], code := .ref 30, frame := some 31 }
noncomputable def bcode : Code := .body bodyT benv
noncomputable abbrev B1 : List Frame := [topFrame default]
theorem run_a (w : World) (p : Pos) : mgo (denote treeTable) prg w B1 shortL 100 (tr_pre w.params) 32 282 (dn (execs (bodyT.take 1) benv)) bcode p [] = some (tr_0 w.params, 39, 289, .next, bcode, ⟨2, 0, 4, 12⟩) := by kernel_rfl
end Tc
namespace Tc
open PySem PySem.W
theorem run_b0 (w : World) (p : Pos) : mgo (denote treeTable) prg (w.withFollow "special-get-raises" false) B1 shortL 700 (tr_0 (w.withFollow "special-get-raises" false).params) 39 289 (dn (execs ((bodyT.drop 1).take 2) benv)) bcode p [] = some (tr_2 (w.withFollow "special-get-raises" false).params, 105, 392, .next, bcode, ⟨6, 0, 58, 16⟩) := by kernel_rfl
theorem run_b1 (w : World) (p : Pos) : mgo (denote treeTable) prg (w.withFollow "special-get-raises" true) B1 shortL 700 (tr_0 (w.withFollow "special-get-raises" true).params) 39 289 (dn (execs ((bodyT.drop 1).take 2) benv)) bcode p [] = some (tr_2 (w.withFollow "special-get-raises" true).params, 105, 392, .next, bcode, ⟨6, 0, 58, 16⟩) := by kernel_rfl
theorem run_b (w : World) (p : Pos) : mgo (denote treeTable) prg w B1 shortL 700 (tr_0 w.params) 39 289 (dn (execs ((bodyT.drop 1).take 2) benv)) bcode p [] = some (tr_2 w.params, 105, 392, .next, bcode, ⟨6, 0, 58, 16⟩) :=
  byRow2 "special-get-raises" (P := fun w => mgo (denote treeTable) prg w B1 shortL 700 (tr_0 w.params) 39 289 (dn (execs ((bodyT.drop 1).take 2) benv)) bcode p [] = some (tr_2 w.params, 105, 392, .next, bcode, ⟨6, 0, 58, 16⟩)) (fun w => run_b0 w p) (fun w => run_b1 w p) w
end Tc
namespace Tc
open PySem PySem.W
theorem run_c (w : World) (p : Pos) : mgo (denote treeTable) prg w B1 shortL 700 (tr_2 w.params) 105 392 (dn (execs ((bodyT.drop 3).take 5) benv)) bcode p [] = some (tr_7 w.params, 132, 437, .next, bcode, ⟨106, 0, 106, 8⟩) := by kernel_rfl
end Tc
namespace Tc
open PySem PySem.W
theorem run_d (w : World) (X : Nat → Obj) (p : Pos) : mgo (denote treeTable) prg w B1 shortL 700 (tr_10 w.params X) 189 2455 (dn (execs ((bodyT.drop 11).take 6) benv)) bcode p [] = some (tr_16 w.params X, 219, 2569, .next, bcode, ⟨120, 0, 128, 20⟩) := by kernel_rfl
end Tc
namespace Tc
open PySem PySem.W
theorem run_e (w : World) (X : Nat → Obj) (p : Pos) : mgo (denote treeTable) prg w B1 shortL 900 (tr_16 w.params X) 219 2569 (dn (execs ((bodyT.drop 17).take 1) benv)) bcode p [] = some (tr_17 w.params X, 344, 2727, .next, bcode, ⟨129, 0, 215, 93⟩) := by kernel_rfl
end Tc
namespace Tc
open PySem PySem.W
theorem run_f_false (w : World) (p : Pos) : mgo (denote treeTable) prg (w.withFollow "special-get-raises" false) B1 shortL 1200 (tr_7 (w.withFollow "special-get-raises" false).params) 132 437 (dn (execs ((bodyT.drop 8).take 2) benv)) bcode p [] = some (tr_9 (w.withFollow "special-get-raises" false).params, 150, 504, .next, bcode, ⟨108, 0, 109, 30⟩) := by kernel_rfl
theorem run_f_true (w : World) (p : Pos) : mgo (denote treeTable) prg (w.withFollow "special-get-raises" true) B1 shortL 1200 (tr_7 (w.withFollow "special-get-raises" true).params) 132 437 (dn (execs ((bodyT.drop 8).take 2) benv)) bcode p [] = some (tr_9 (w.withFollow "special-get-raises" true).params, 150, 504, .next, bcode, ⟨108, 0, 109, 30⟩) := by kernel_rfl
theorem run_f (w : World) (p : Pos) : mgo (denote treeTable) prg w B1 shortL 1200 (tr_7 w.params) 132 437 (dn (execs ((bodyT.drop 8).take 2) benv)) bcode p [] = some (tr_9 w.params, 150, 504, .next, bcode, ⟨108, 0, 109, 30⟩) :=
  byRow2 "special-get-raises" (P := fun w => mgo (denote treeTable) prg w B1 shortL 1200 (tr_7 w.params) 132 437 (dn (execs ((bodyT.drop 8).take 2) benv)) bcode p [] = some (tr_9 w.params, 150, 504, .next, bcode, ⟨108, 0, 109, 30⟩)) (fun w => run_f_false w p) (fun w => run_f_true w p) w
end Tc
namespace Tc
open PySem PySem.W
theorem run_g (w : World) (X : Nat → Obj) (p : Pos) : mgo (denote treeTable) prg w B1 shortL 500 (tr_17 w.params X) 344 2727 (dn (execs ((bodyT.drop 18).take 11) benv)) bcode p [] = some (tr_fin w.params X, 398, 2795, .next, bcode, ⟨267, 0, 323, 73⟩) := by kernel_rfl
theorem body_len : bodyT.length = 29 := by kernel_rfl
end Tc
namespace Tc
open PySem PySem.Calls PyProof.Rows PySem.W
/-- between the display and its name's store -/
noncomputable def tr_9b (P : Params) (X : Nat → Obj) : BT := (.node (o0 P) (.node (o1 P) (.node (m9_3 P) (.node (o7 P) (.node (o15 P) (.node (o31 P) (.node (o63 P) (.node (o127 P) .nil .nil) .nil) (.node (o95 P) (.node (X 159) .nil .nil) .nil)) (.node (o47 P) (.node (o79 P) (.node (o143 P) .nil .nil) .nil) (.node (o111 P) (.node (X 175) .nil .nil) .nil))) (.node (o23 P) (.node (o39 P) (.node (o71 P) (.node (o135 P) .nil .nil) .nil) (.node (o103 P) (.node (X 167) .nil .nil) .nil)) (.node (o55 P) (.node (o87 P) (.node (X 151) .nil .nil) .nil) (.node (o119 P) (.node (X 183) .nil .nil) .nil)))) (.node (o11 P) (.node (o19 P) (.node (o35 P) (.node (o67 P) (.node (o131 P) .nil .nil) .nil) (.node (o99 P) (.node (X 163) .nil .nil) .nil)) (.node (o51 P) (.node (o83 P) (.node (o147 P) .nil .nil) .nil) (.node (o115 P) (.node (X 179) .nil .nil) .nil))) (.node (o27 P) (.node (o43 P) (.node (o75 P) (.node (o139 P) .nil .nil) .nil) (.node (o107 P) (.node (X 171) .nil .nil) .nil)) (.node (o59 P) (.node (o91 P) (.node (X 155) .nil .nil) .nil) (.node (o123 P) (.node (X 187) .nil .nil) .nil))))) (.node (o5 P) (.node (o9 P) (.node (o17 P) (.node (o33 P) (.node (o65 P) (.node (o129 P) .nil .nil) .nil) (.node (o97 P) (.node (X 161) .nil .nil) .nil)) (.node (o49 P) (.node (o81 P) (.node (o145 P) .nil .nil) .nil) (.node (o113 P) (.node (X 177) .nil .nil) .nil))) (.node (o25 P) (.node (o41 P) (.node (o73 P) (.node (o137 P) .nil .nil) .nil) (.node (o105 P) (.node (X 169) .nil .nil) .nil)) (.node (o57 P) (.node (o89 P) (.node (X 153) .nil .nil) .nil) (.node (o121 P) (.node (X 185) .nil .nil) .nil)))) (.node (o13 P) (.node (o21 P) (.node (o37 P) (.node (o69 P) (.node (o133 P) .nil .nil) .nil) (.node (o101 P) (.node (X 165) .nil .nil) .nil)) (.node (o53 P) (.node (o85 P) (.node (o149 P) .nil .nil) .nil) (.node (o117 P) (.node (X 181) .nil .nil) .nil))) (.node (m9_29 P) (.node (o45 P) (.node (o77 P) (.node (o141 P) .nil .nil) .nil) (.node (o109 P) (.node (X 173) .nil .nil) .nil)) (.node (o61 P) (.node (o93 P) (.node (X 157) .nil .nil) .nil) (.node (o125 P) .nil .nil)))))) (.node (o2 P) (.node (o4 P) (.node (o8 P) (.node (o16 P) (.node (o32 P) (.node (o64 P) (.node (o128 P) .nil .nil) .nil) (.node (o96 P) (.node (X 160) .nil .nil) .nil)) (.node (o48 P) (.node (o80 P) (.node (o144 P) .nil .nil) .nil) (.node (o112 P) (.node (X 176) .nil .nil) .nil))) (.node (o24 P) (.node (o40 P) (.node (o72 P) (.node (o136 P) .nil .nil) .nil) (.node (o104 P) (.node (X 168) .nil .nil) .nil)) (.node (o56 P) (.node (o88 P) (.node (X 152) .nil .nil) .nil) (.node (o120 P) (.node (X 184) .nil .nil) .nil)))) (.node (o12 P) (.node (o20 P) (.node (o36 P) (.node (o68 P) (.node (o132 P) .nil .nil) .nil) (.node (o100 P) (.node (X 164) .nil .nil) .nil)) (.node (o52 P) (.node (o84 P) (.node (o148 P) .nil .nil) .nil) (.node (o116 P) (.node (X 180) .nil .nil) .nil))) (.node (o28 P) (.node (o44 P) (.node (o76 P) (.node (o140 P) .nil .nil) .nil) (.node (o108 P) (.node (X 172) .nil .nil) .nil)) (.node (o60 P) (.node (o92 P) (.node (X 156) .nil .nil) .nil) (.node (o124 P) (.node (X 188) .nil .nil) .nil))))) (.node (o6 P) (.node (o10 P) (.node (o18 P) (.node (o34 P) (.node (o66 P) (.node (o130 P) .nil .nil) .nil) (.node (o98 P) (.node (X 162) .nil .nil) .nil)) (.node (o50 P) (.node (o82 P) (.node (o146 P) .nil .nil) .nil) (.node (o114 P) (.node (X 178) .nil .nil) .nil))) (.node (o26 P) (.node (o42 P) (.node (o74 P) (.node (o138 P) .nil .nil) .nil) (.node (o106 P) (.node (X 170) .nil .nil) .nil)) (.node (o58 P) (.node (o90 P) (.node (X 154) .nil .nil) .nil) (.node (o122 P) (.node (X 186) .nil .nil) .nil)))) (.node (o14 P) (.node (o22 P) (.node (o38 P) (.node (o70 P) (.node (o134 P) .nil .nil) .nil) (.node (o102 P) (.node (X 166) .nil .nil) .nil)) (.node (o54 P) (.node (o86 P) (.node (X 150) .nil .nil) .nil) (.node (o118 P) (.node (X 182) .nil .nil) .nil))) (.node (o30 P) (.node (o46 P) (.node (o78 P) (.node (o142 P) .nil .nil) .nil) (.node (o110 P) (.node (X 174) .nil .nil) .nil)) (.node (o62 P) (.node (o94 P) (.node (X 158) .nil .nil) .nil) (.node (o126 P) .nil .nil)))))))
noncomputable def lows : List Nat := List.range 150
noncomputable def news : List Nat := List.range' 150 39
theorem b9_old (P : Params) (X : Nat → Obj) : lows.map (tr_9b P X).get = lows.map (tr_9 P).get := by kernel_rfl
theorem b9_alive (P : Params) : lows.all (fun i => ((tr_9 P).get i).any fun o => (alive o).isSome) = true := by kernel_rfl
theorem b9_new (P : Params) (X : Nat → Obj) : news.map (tr_9b P X).get = news.map fun i => some (X i) := by kernel_rfl
theorem alive_eq {o o' : Obj} (h : alive o = some o') : o' = o := by
  obtain ⟨c, d, dt, sl⟩ := o
  cases dt <;> first | (injection h with h; exact h.symm) | cases h
theorem get?_objs {h : Heap} {a : Nat} {o : Obj} (e : h.get? a = some o) : h.objs[a]? = some o := by
  unfold Heap.get? at e
  split at e
  · cases e
  · exact e
theorem heap_9b {P : Params} {life : Life} {h' : Heap} (hs : h'.objs.size = 189) (hk : ∀ a, a < 150 → h'.get? a = (absHeap (tr_9 P) 150 life).get? a) (hl : h'.life = life) :
    h' = absHeap (tr_9b P (fun i => (h'.objs[i]?).getD default)) 189 life := by
  generalize hX : (fun i => (h'.objs[i]?).getD default : Nat → Obj) = X
  have : h'.objs = (absHeap (tr_9b P X) 189 life).objs := by
    refine Array.ext_getElem? fun i => ?_
    rw [absHeap_at]
    by_cases h1 : i < 189
    · rw [if_pos h1]
      by_cases h2 : i < 150
      · have e1 : (tr_9b P X).get i = (tr_9 P).get i := List.map_inj_left.mp (b9_old P X) i (List.mem_range.mpr h2)
        have e2 := List.all_eq_true.mp (b9_alive P) i (List.mem_range.mpr h2)
        obtain ⟨o, ho, ha⟩ : ∃ o, (tr_9 P).get i = some o ∧ (alive o).isSome = true := by
          cases e : (tr_9 P).get i with
          | none => rw [e] at e2; cases e2
          | some o => rw [e] at e2; exact ⟨o, rfl, e2⟩
        obtain ⟨o', ho'⟩ := Option.isSome_iff_exists.mp ha
        have e3 := hk i h2
        rw [abs_get h2 ho, ho', alive_eq ho'] at e3
        rw [get?_objs e3, e1, ho]
        rfl
      · have e1 : (tr_9b P X).get i = some (X i) := List.map_inj_left.mp (b9_new P X) i (List.mem_range'_1.mpr ⟨by omega, by omega⟩)
        rw [e1, ← hX]
        show _ = some ((h'.objs[i]?).getD default)
        cases e : h'.objs[i]? with
        | none => rw [Array.getElem?_eq_none_iff] at e; omega
        | some o => rfl
    · rw [if_neg h1, Array.getElem?_eq_none_iff]; omega
  obtain ⟨ob, lf⟩ := h'
  subst hl
  exact congrArg (Heap.mk · lf) this
theorem store_b3 (w : World) (X : Nat → Obj) (p : Pos) : mgo (denote treeTable) prg w B1 shortL 60 (tr_9b w.params X) 189 2454 (dn ((storeName benv "b3_exceptions" (.ref 150)).bind fun _ => .pure .next)) bcode p [] = some (tr_10 w.params X, 189, 2455, .next, bcode, p) := by kernel_rfl
theorem b3_stm : (bodyT.drop 10).take 1 = [stm 11] := by kernel_rfl
theorem block0 : blockStart bodyT benv = .pure () := by kernel_rfl
end Tc
namespace Tc
open PySem PySem.Calls PyProof.Rows PySem.W
theorem WpS.split {M : Model} {Γ : Ctx} {env : Env} {Q : Flow → Pos → Shared → Prop} {E : Value → Pos → Shared → Prop} {p : Pos} {s : Shared} (l : List Stmt) (a b c : Nat) (hc : a + b = c)
    (h : WpS M Γ (execs ((l.drop a).take b) env) (fun f p s => match f with | .next => WpS M Γ (execs (l.drop c) env) Q E p s | f => Q f p s) E p s) : WpS M Γ (execs (l.drop a) env) Q E p s := by
  subst hc
  have e : l.drop a = (l.drop a).take b ++ l.drop (a + b) := by rw [← List.drop_drop, List.take_append_drop]
  rw [e]
  exact WpS.app h
theorem WpS.last {M : Model} {Γ : Ctx} {env : Env} {Q : Flow → Pos → Shared → Prop} {E : Value → Pos → Shared → Prop} {p : Pos} {s : Shared} (l : List Stmt) (a : Nat) (hl : l.length ≤ a) (h : Q .next p s) : WpS M Γ (execs (l.drop a) env) Q E p s := by
  rw [List.drop_eq_nil_of_le hl]
  exact ⟨h⟩
theorem WpS.one {M : Model} {Γ : Ctx} {env : Env} {Q : Flow → Pos → Shared → Prop} {E : Value → Pos → Shared → Prop} {p : Pos} {s : Shared} {l : List Stmt} {st : Stmt} (hl : l = [st])
    (h : WpS M Γ (exec st env) Q E p s) : WpS M Γ (execs l env) Q E p s := by
  subst hl
  refine ⟨?_⟩
  rw [arm_execs_cons, Sem.wp_bind']
  refine Sem.wp_mono M Γ _ (fun f p s hf => ?_) (fun _ _ _ x => x) _ _ h.out
  cases f <;> exact hf
theorem mgo_wps {w : World} {P : Program} {base : List Frame} {short : Code → Option Obj} (hS : ShortOk (model P w) short) {life : Life} {gens : Array GenState} {drawn : Drawn} {os : OsState} {f : Nat} {t : BT} {n k : Nat} {x : Sem Flow} {c : Code} {p : Pos} {t' : BT} {n' k' : Nat} {fl : Flow} {c' : Code} {p' : Pos}
    (h : mgo (denote treeTable) P w base short f t n k (dn x) c p [] = some (t', n', k', fl, c', p')) {Q : Flow → Pos → Shared → Prop} {E : Value → Pos → Shared → Prop} (hQ : ∀ p, Q fl p ⟨absHeap t' n' life, gens, drawn, k', os⟩) :
    WpS (model P w) (Ctx.of c base) x Q E p ⟨absHeap t n life, gens, drawn, k, os⟩ := by
  rw [← table_eq_tree] at h
  exact ⟨mgo_wp (M := model P w) hS h hQ⟩
theorem in_of (code : Code) (base : List Frame) : (Ctx.of code base).In ⟨(Ctx.of code base).handled, frameCount (Ctx.of code base).below + code.weight, none, none, (Ctx.of code base).units⟩ :=
  ⟨rfl, Nat.le_refl _, fun _ e => (nomatch e), fun _ e => (nomatch e), Nat.le_refl _⟩
theorem fin_150 (P : Params) (X : Nat → Obj) : (tr_fin P X).get 150 = some (X 150) := by kernel_rfl
theorem nine_150 (P : Params) (X : Nat → Obj) : (tr_9b P X).get 150 = some (X 150) := by kernel_rfl
theorem b3_fin {w : World} {X : Nat → Obj} {life : Life} (h : B3 w (absHeap (tr_9b w.params X) 189 life)) : B3 w (Hf w.params X life) :=
  h.at fun o e => by
    rw [abs_get (by decide) (nine_150 _ _)] at e
    rw [abs_get (by decide) (fin_150 _ _)]
    exact e
theorem body_wps (w : World) (os : OsState) {Q : Flow → Pos → Shared → Prop} {E : Value → Pos → Shared → Prop} (hQ : ∀ X p, B3 w (Hf w.params X {}) → Q .next p ⟨Hf w.params X {}, #[], {}, 2795, os⟩) (p : Pos) :
    WpS (model prg w) (Ctx.of bcode B1) (execs (bodyT.drop 0) benv) Q E p ⟨absHeap (tr_pre w.params) 32 {}, #[], {}, 282, os⟩ := by
  refine WpS.split bodyT 0 1 1 rfl (mgo_wps (shortL_ok w) (run_a w p) fun p => ?_)
  refine WpS.split bodyT 1 2 3 rfl (mgo_wps (shortL_ok w) (run_b w p) fun p => ?_)
  refine WpS.split bodyT 3 5 8 rfl (mgo_wps (shortL_ok w) (run_c w p) fun p => ?_)
  refine WpS.split bodyT 8 2 10 rfl (mgo_wps (shortL_ok w) (run_f w p) fun p => ?_)
  refine WpS.split bodyT 10 1 11 rfl (WpS.one b3_stm (b3_exec (in_of _ _) b3_is rfl ?_ fun s' kvs he hD hN p => ?_))
  · rw [absHeap_size]; decide
  obtain ⟨h', rfl, hz, hk, hl⟩ := hN
  rw [absHeap_size] at hD hz hk ⊢
  have hh := heap_9b (P := w.params) hz hk hl
  generalize (fun i => (h'.objs[i]?).getD default : Nat → Obj) = X at hh
  subst hh
  have hB := b3_fin (w := w) (X := X) ⟨kvs, hD, he⟩
  have hs := mgo_wps (shortL_ok w) (store_b3 w X p) (life := {}) (gens := #[]) (drawn := {}) (os := os) (Q := fun f p s => f = .next ∧ s = ⟨absHeap (tr_10 w.params X) 189 {}, #[], {}, 2455, os⟩) (E := E) fun p => ⟨rfl, rfl⟩
  have hs := hs.out
  rw [Sem.wp_bind] at hs
  refine ⟨Sem.wp_mono _ _ _ (fun _ p s h => ?_) (fun _ _ _ h => h) _ _ hs⟩
  obtain ⟨_, rfl⟩ := h
  refine WpS.split bodyT 11 6 17 rfl (mgo_wps (shortL_ok w) (run_d w X p) fun p => ?_)
  refine WpS.split bodyT 17 1 18 rfl (mgo_wps (shortL_ok w) (run_e w X p) fun p => ?_)
  refine WpS.split bodyT 18 11 29 rfl (mgo_wps (shortL_ok w) (run_g w X p) fun p => ?_)
  exact WpS.last bodyT 29 (Nat.le_of_eq body_len) (hQ X p hB)
end Tc
namespace Tc
open PySem PySem.Calls PyProof.Rows PySem.W
section
variable (den : Code → Sem Fin) (P : Program) (w : World)
/-- so many steps, no more -/
noncomputable def mgoS : Nat → BT → Nat → Nat → Sem Fin → Code → Pos → List Frame → Option (BT × Nat × Nat × Sem Fin × Code × Pos × List Frame)
  | 0, t, n, k, cur, c, p, pre => some (t, n, k, cur, c, p, pre)
  | f + 1, t, n, k, cur, c, p, pre => match cur with
    | .rule _ kk => mgoS f t n k (kk ()) c p pre
    | .at p' kk => mgoS f t n k (kk ()) c p' pre
    | .load a _ kk => match Nat.blt a n with
      | true => match t.get a with
        | some o => match alive o with
          | some o' => mgoS f t n k (kk o') c p pre
          | none => none
        | none => none
      | false => none
    | .update a _ g kk => match Nat.blt a n with
      | true => match t.get a with
        | some o => match alive o with
          | some _ => mgoS f (t.set a g) n k (kk ()) c p pre
          | none => none
        | none => none
      | false => none
    | .alloc o kk => match ((t.ins n o).get n).isSome with
      | true => mgoS f (t.ins n o) (n + 1) k (kk n) c p pre
      | false => none
    | .point _ kk => mgoS f t n k (kk ()) c p pre
    | .fresh kk => mgoS f t n (k + 1) (kk k) c p pre
    | .ask kk => mgoS f t n k (kk ⟨P, w.params⟩) c p pre
    | .call c' h g l kk => mgoS f t n k (den c') c' p (.ret kk h g l c p [] :: pre)
    | _ => none
end
theorem mgoS_reach {M : Model} {base : List Frame} {life : Life} {gens : Array GenState} {drawn : Drawn} {os : OsState} {s' : Shared} {e : End} : ∀ (f : Nat) (t : BT) (n k : Nat) (cur : Sem Fin) (c : Code) (p : Pos) (pre : List Frame) {t' : BT} {n' k' : Nat} {cur' : Sem Fin} {c' : Code} {p' : Pos} {pre' : List Frame},
    mgoS M.den M.prog M.w f t n k cur c p pre = some (t', n', k', cur', c', p', pre') → Reach M base ⟨absHeap t' n' life, gens, drawn, k', os⟩ cur' c' p' pre' s' e → Reach M base ⟨absHeap t n life, gens, drawn, k, os⟩ cur c p pre s' e
  | 0, t, n, k, cur, c, p, pre, t', n', k', cur', c', p', pre', h, r => by cases h; exact r
  | f + 1, t, n, k, cur, c, p, pre, t', n', k', cur', c', p', pre', h, r => by
    cases cur with
    | rule tag kk => exact .step (step_rule M _ c p (pre ++ base) tag kk) (mgoS_reach f _ _ _ _ _ _ _ h r)
    | «at» p0 kk => exact .step (step_at M _ c p (pre ++ base) p0 kk) (mgoS_reach f _ _ _ _ _ _ _ h r)
    | load a part kk =>
      cases e1 : Nat.blt a n with
      | false => simp only [mgoS, e1] at h; cases h
      | true =>
        have lt : a < n := Nat.le_of_ble_eq_true e1
        cases g : t.get a with
        | none => simp only [mgoS, e1, g] at h; cases h
        | some o =>
          cases al : alive o with
          | none => simp only [mgoS, e1, g, al] at h; cases h
          | some o' =>
            simp only [mgoS, e1, g, al] at h
            exact .step (step_load M _ c p (pre ++ base) part kk ((abs_get lt g).trans al)) (mgoS_reach f _ _ _ _ _ _ _ h r)
    | update a part g0 kk =>
      cases e1 : Nat.blt a n with
      | false => simp only [mgoS, e1] at h; cases h
      | true =>
        have lt : a < n := Nat.le_of_ble_eq_true e1
        cases g : t.get a with
        | none => simp only [mgoS, e1, g] at h; cases h
        | some o =>
          cases al : alive o with
          | none => simp only [mgoS, e1, g, al] at h; cases h
          | some o' =>
            simp only [mgoS, e1, g, al] at h
            refine .step (step_update M ⟨absHeap t n life, gens, drawn, k, os⟩ c p (pre ++ base) part g0 kk (a := a) (by rw [abs_get lt g, al]; rfl)) ?_
            rw [← absHeap_set g]
            exact mgoS_reach f _ _ _ _ _ _ _ h r
    | alloc o kk =>
      cases e1 : ((t.ins n o).get n).isSome with
      | false => simp only [mgoS, e1] at h; cases h
      | true =>
        simp only [mgoS, e1] at h
        refine .step (step_alloc M ⟨absHeap t n life, gens, drawn, k, os⟩ c p (pre ++ base) o kk) ?_
        rw [← absHeap_ins e1, absHeap_size]
        exact mgoS_reach f _ _ _ _ _ _ _ h r
    | point l kk => exact .step (step_point M _ c p (pre ++ base) l kk) (mgoS_reach f _ _ _ _ _ _ _ h r)
    | fresh kk => exact .step (step_fresh M ⟨absHeap t n life, gens, drawn, k, os⟩ c p (pre ++ base) kk) (mgoS_reach f _ _ _ _ _ _ _ h r)
    | ask kk => exact .step (step_ask M _ c p (pre ++ base) kk) (mgoS_reach f _ _ _ _ _ _ _ h r)
    | call c0 h0 g l kk => exact .step (step_call M _ c p (pre ++ base) c0 h0 g l kk) (mgoS_reach f _ _ _ _ _ _ _ h r)
    | pure | raise | loadIfAlive | handled | stack | thread | unsupported | finish | register | choose | os | newGen | genState | resume | «yield» | fork | await => simp only [mgoS] at h; cases h
/-- up to the body -/
theorem run_stub (w : World) : mgoS (denote treeTable) prg w 12 (tr_s0 w.params) 28 276 (topStub prg).cur (.builtin "claim.caller" {}) default [] = some (tr_pre w.params, 32, 282, denote treeTable bcode, bcode, default, B1) := by kernel_rfl
theorem body_reach {w : World} {b : List Stmt} {env : Env} {base : List Frame} {s : Shared} {p : Pos} {R : Shared → Prop} (hb : blockStart b env = .pure ())
    (h : WpS (model prg w) (Ctx.of (.body b env) base) (execs b env) (fun f _ s2 => f = .next ∧ R s2) (fun _ _ _ => False) p s) :
    ∃ s', Reach (model prg w) base s (denote table (.body b env)) (.body b env) p [] s' (.ret (.ok .next)) ∧ R s' := by
  obtain ⟨r, s', hr, rfl, hR⟩ := (wp_iff_reach (M := model prg w) (base := base) (c := .body b env) (denote table (.body b env)) (fun r s' => r = .ok .next ∧ R s') p s).mp (by
    have e : denote table (.body b env) = (Sem.pure ()).bind (fun _ => ((execs b env).onRaise (leaving env)).bind fun f => (Sem.pure (Fin.done f) : Sem Fin)) := by rw [← hb]; rfl
    rw [e, Sem.wp_bind, Sem.wp_pure, Sem.wp_bind, Sem.wp_onRaise]
    refine Sem.wp_mono _ _ _ (fun f p s h => ?_) (fun _ _ _ h => h.elim) _ _ h.out
    obtain ⟨rfl, h⟩ := h
    exact ⟨rfl, h⟩)
  exact ⟨s', hr, hR⟩
theorem top_reach (w : World) (os : OsState) : ∃ X, B3 w (Hf w.params X {}) ∧ Reach (model prg w) [] ⟨Hs w.params {}, #[], {}, 276, os⟩ (topStub prg).cur (.builtin "claim.caller" {}) default [] ⟨Hf w.params X {}, #[], {}, 2795, os⟩ (.ret (.ok (.ret .none))) := by
  obtain ⟨s', hr, X, hB, rfl⟩ := body_reach (w := w) (b := bodyT) (env := benv) (base := B1) (p := default) (s := ⟨absHeap (tr_pre w.params) 32 {}, #[], {}, 282, os⟩) (R := fun s' => ∃ X, B3 w (Hf w.params X {}) ∧ s' = ⟨Hf w.params X {}, #[], {}, 2795, os⟩) block0
    (body_wps w os (fun X p hB => ⟨rfl, X, hB, rfl⟩) default)
  refine ⟨X, hB, ?_⟩
  have hs := run_stub w
  rw [← table_eq_tree] at hs
  refine mgoS_reach (M := model prg w) 12 _ _ _ _ _ _ _ hs ?_
  refine Reach.under (pre := []) (B := B1) (base := []) hr fun t' c' p' pre' hx => ?_
  obtain ⟨rfl, rfl⟩ := hx
  exact .step (step_leaf_ret _ _ c' p' [] (.ok .next) topAfter none false [] (.builtin "claim.caller" {}) default []) (.exit ⟨rfl, rfl⟩)
theorem top_ran (w : World) (os : OsState) : ∃ X, B3 w (Hf w.params X {}) ∧ TopRan prg w ⟨Hs w.params {}, #[], {}, 276, os⟩ ⟨Hf w.params X {}, #[], {}, 2795, os⟩ := by
  obtain ⟨X, hB, hr⟩ := top_reach w os
  exact ⟨X, hB, ran (sched_of_reach (p := prg) ⟨rfl, rfl⟩ rfl hr)⟩
end Tc
namespace Tc
open PySem PySem.Calls PyProof.Rows PySem.W
theorem top_ats (P : Params) (X : Nat → Obj) : (topList P).map (fun p => (tr_fin P X).get p.1) = (topList P).map (fun p => some p.2) := by kernel_rfl
theorem top_live (P : Params) : (topList P).all (fun p => (alive p.2).isSome && Nat.blt p.1 398) = true := by kernel_rfl
theorem mem_lookup : ∀ (l : List (Nat × Obj)) (i : Nat) (o : Obj), l.lookup i = some o → (i, o) ∈ l
  | [], _, _, e => by cases e
  | (j, q) :: l, i, o, e => by
    rw [List.lookup_cons] at e
    cases hb : i == j with
    | true => rw [hb] at e; cases e; rw [eq_of_beq hb]; exact .head _
    | false => rw [hb] at e; exact .tail _ (mem_lookup l i o e)
theorem topH_fin {w : World} {X : Nat → Obj} {life : Life} (hB : B3 w (Hf w.params X life)) : TopH w (Hf w.params X life) := ⟨fun i o e => by
  have hm := mem_lookup _ _ _ e
  have h1 : (tr_fin w.params X).get i = some o := List.map_inj_left.mp (top_ats w.params X) (i, o) hm
  obtain ⟨h2, h3⟩ := Bool.and_eq_true_iff.mp (List.all_eq_true.mp (top_live w.params) (i, o) hm)
  obtain ⟨o', ho⟩ := Option.isSome_iff_exists.mp h2
  have := alive_eq ho
  subst this
  rw [abs_get (Nat.le_of_ble_eq_true h3) h1]
  exact ho, hB⟩
theorem behind (w : World) : (∃ s, AfterRun (opening prg) w s) ∧ ∀ s, AfterRun (opening prg) w s → ∃ s₀, fenceModules? prg s = some s₀ ∧ s₀.gens = #[] ∧
    ∃ s₁, TopRan prg w s₀ s₁ ∧ s₁.asleep ∧ s₁.gens = #[] ∧ ∃ X, TopH w s₁.heap ∧ s₁.heap = Hf w.params X {} := by
  have h := opn w
  rw [← table_eq_tree] at h
  obtain ⟨⟨heap, gens, drawn, toks, os⟩, h2, e⟩ := Option.map_eq_some_iff.mp h
  obtain ⟨s, h4, h5⟩ := Option.bind_eq_some_iff.mp h2
  have A := AfterImport.of_importEnds h4
  refine ⟨⟨s, A⟩, fun s' hs' => ?_⟩
  obtain rfl : s' = s := AfterImport.unique hs' A
  simp only [Prod.mk.injEq] at e
  obtain ⟨rfl, rfl, rfl, rfl⟩ := e
  obtain ⟨X, hB, hT⟩ := top_ran w os
  exact ⟨_, h5, rfl, _, hT, ⟨rfl, rfl⟩, rfl, X, topH_fin hB, rfl⟩
end Tc
namespace Tc
open PySem PySem.Calls PyProof.Rows PySem.W
noncomputable abbrev law0 : OpenLaw := PySem.Challenge.rw_tc0098_01
theorem items_int : ∀ xs : List WData, WShape.hasItems [] xs .int = true → ∃ l : List Int, xs = l.map .int
  | [], _ => ⟨[], rfl⟩
  | x :: xs, h => by
    obtain ⟨h1, h2⟩ := Bool.and_eq_true_iff.mp h
    obtain ⟨l, rfl⟩ := items_int xs h2
    cases x with
    | int i => exact ⟨i :: l, rfl⟩
    | _ => exact nomatch (show false = true from h1)
theorem args_form {args : List WData} (h : WShape.hasAll [] args [.list .int] = true) : ∃ l : List Int, args = [.list (l.map .int)] := by
  obtain ⟨d, r, rfl, h1, h2⟩ := hasAllW_cons h
  have hr : r = [] := by
    cases r with
    | nil => rfl
    | cons x r => exact nomatch (show false = true from h2)
  subst hr
  cases d with
  | list xs =>
    have h3 : (WShape.hasItems [] xs .int || false) = true := h1
    rw [Bool.or_false] at h3
    obtain ⟨l, rfl⟩ := items_int xs h3
    exact ⟨l, rfl⟩
  | _ => exact nomatch (show false = true from h1)
theorem pre_len {l : List Int} (h : WTm.holds [] law0.pre { args := [.list (l.map .int)] } = true) : l.length ≤ 63 := by
  refine Decidable.byContradiction fun hl => ?_
  have e : WTm.value [] (.lt (.lit (.int 63)) (.len (.arg 0))) { args := [.list (l.map .int)] } = some (.bool (decide ((63 : Int) < ((l.map WData.int).length : Int)))) := by simp only [WTm.value]; rfl
  have hd : decide ((63 : Int) < ((l.map WData.int).length : Int)) = true := by
    rw [List.length_map]
    exact decide_eq_true (by omega)
  rw [hd] at e
  have e2 : WTm.value [] law0.pre { args := [.list (l.map .int)] } = some (.bool false) := by
    show WTm.value [] (.and (.not (.lt (.lit (.int 63)) (.len (.arg 0)))) (.lit (.bool true))) _ = _
    have e1 : WTm.value [] (.not (.lt (.lit (.int 63)) (.len (.arg 0)))) { args := [.list (l.map .int)] } = some (.bool false) := by rw [WTm.value, e]; rfl
    rw [WTm.value, e1]
  unfold WTm.holds at h
  rw [e2] at h
  cases h
theorem reads_ints {cl : Str → Option Addr} {h : Heap} : ∀ {l : List Int} {vs : List Value} {as : List Addr}, ReadsAllW [] cl h vs (l.map .int) as → Rds noT h vs (l.map .int)
  | [], _, _, r => by cases r; exact .nil
  | i :: l, _, _, r => by
    cases r with
    | cons a b => cases a; exact .cons (.int _ _) (reads_ints b)
theorem reads_list {w : World} {s s₁ : Shared} {vs : List Value} {as : List Addr} {l : List Int} (L : Laid [] w s s₁ [.list (l.map .int)] vs as) : Vrs noT s₁.heap vs [.d (.list (l.map .int))] := by
  have hr := L.reads
  have hnew : ∀ a ∈ as, s.heap.get? a = none := fun a ha => L.new ha
  have hlist : ∀ a o its n, s.heap.get? a = none → s₁.heap.get? a = some o → o.cls = .type "list" → o.data = .seq its n → o = { cls := .type "list", data := .seq its } := fun a o its n h1 h2 h3 h4 => L.list h1 h2 h3 h4
  clear L
  cases hr with
  | cons x y =>
    cases y
    cases x with
    | list ho hc hd hr =>
      have e := hlist _ _ _ _ (hnew _ (List.mem_append_left _ (.head _))) ho hc hd
      subst e
      exact .cons (show Rd noT _ _ (.list (l.map .int)) from .list ⟨List.not_mem_nil, List.not_mem_nil⟩ ⟨_, ho⟩ (reads_ints hr)) .nil
theorem post_true (args : List WData) : law0.row.toRowW.claim.post args (.bool true) args = true := by
  have e : WTm.value [] (.eq .res (.lit (.bool true))) { args := args, res := some (.bool true), after := args } = some (.bool true) := by
    simp only [WTm.value]
    rw [PySem.W.same]
    rfl
  show (WShape.has [] (.bool true) .bool && WTm.holds [] (.eq .res (.lit (.bool true))) { args := args, res := some (.bool true), after := args }) = true
  unfold WTm.holds
  rw [e]
  rfl
theorem fine_caller : Fine callerA (0 + 7) := ⟨by decide, rfl, by decide⟩
theorem fin_law (P : Params) (X : Nat → Obj) (life : Life) : (Hf P X life).nsMap mainGlobals "law" = some (.ref 397) := by kernel_rfl
theorem the_law : prg.theDef "law" = some (fPar (stm 29), fBody (stm 29), fScope (stm 29)) := by kernel_rfl
theorem law_defs : (fPar (stm 29)).defaults = [] ∧ kwWritten? (fPar (stm 29)).kwonlyargs (fPar (stm 29)).kw_defaults = some [] := ⟨by kernel_rfl, by kernel_rfl⟩
theorem pinned {w : World} {X : Nat → Obj} {life : Life} (hT : TopH w (Hf w.params X life)) : isTheDefsW prg (Hf w.params X life) "law" :=
  ⟨397, o397 w.params, _, _, _, _, (Pin.globalOf_eq (fin_main _ _ _) _).trans (fin_law _ _ _), hT.at_ 397 _ rfl, rfl, the_law, rfl, rfl, rfl, rfl, rfl, rfl, rfl, rfl,
    .inl ⟨law_defs.1, rfl⟩, [], law_defs.2, .inl ⟨rfl, rfl⟩⟩
theorem opens : prg.bare ∧ opensWell prg = true := ⟨⟨rfl, rfl, rfl, rfl, rfl, by decide +kernel⟩, by decide +kernel⟩
theorem hold (hw : law0.row.toRowW.promised) : law0.row.toRowW.claim.HoldsOpenBy (callStub law0.row.name) (if law0.row.pinned then [law0.row.name] else []) law0.row.keeps law0.row.writes := by
  refine ⟨⟨opens.1, opens.2, rfl⟩, hw.witness, fun w => ⟨(behind w).1, fun s' hs' => ?_⟩⟩
  obtain ⟨s₀, hf, hg0, s, hT, hz, hgens, X, hH, hX⟩ := (behind w).2 s' hs'
  refine ⟨s₀, hf, hg0, s, hT, fun n hn => ?_, fun x hx => (nomatch hx), fun x hx => (nomatch hx), ?_⟩
  · have : n = "law" := List.mem_singleton.mp hn
    subst this
    rw [hX] at hH ⊢
    exact pinned hH
  refine ClaimW.callFrom_of_specG (c := law0.row.toRowW.claim) (tree := fun vs => do match ← nsGet mainNs law0.row.name with
      | some f => do ret (← PySem.call f vs)
      | none => unsupported "claim.caller:no-such-global") hz hgens fun args hpre hlay ord hord => ?_
  obtain ⟨⟨vs, s₁⟩, hlaid⟩ := Option.isSome_iff_exists.mp (layAllW_isSome (R := []) (cl := classAt s.heap) (P := w.params) (ord := ord) (fun c hc => (nomatch hc)) args [.list .int] s (pre_splitW (r := law0.row.toRowW) hpre).1)
  have keeps := layAllW_keeps _ _ _ hlaid
  have hal := layAllW_rest _ _ _ hlaid
  obtain ⟨as, hrd, hin, hold⟩ := reads_layAllW hord _ _ _ hlaid hlay s₁.heap (fun _ _ e => e)
  have L : Laid [] w s s₁ args vs as := ⟨⟨ord, hord, hlaid⟩, hrd, hin, hold, keeps, hal.1.trans hgens, hal.2.2.1⟩
  obtain ⟨l, rfl⟩ := args_form (pre_splitW (r := law0.row.toRowW) hpre).1
  have hlen : l.length ≤ 63 := pre_len (pre_splitW (r := law0.row.toRowW) hpre).2
  have hns : s₁.heap.Ns mainGlobals (s.heap.nsMap mainGlobals) := by
    have hm : s.heap.isNs mainGlobals = true := by rw [hX]; exact fin_main _ _ _
    obtain ⟨o, es, ep, ho, r⟩ := Heap.Ns.of_isNs hm
    exact ⟨o, es, ep, keeps _ _ ho, r⟩
  have hl : s.heap.nsMap mainGlobals "law" = some (.ref 397) := by rw [hX]; exact fin_law _ _ _
  have hH1 : TopH w s₁.heap := hH.ext keeps
  refine ⟨vs, s₁, hlaid, wpAny_bind (wpAny_nsGet hns ?_)⟩
  rw [show law0.row.name = "law" from rfl, hl]
  refine wpAny_bind ?_
  refine law_true (w := w) (A := callerA) (T := noT) (k := 0) (rs := .d (.list (l.map .int))) (script := l) fine_caller rfl hlen s₁ vs _ _ ⟨hH1, fun b hb => by rcases hb with h | h <;> cases h⟩ (reads_list L) fun h' tk v ext hv => ?_
  subst hv
  refine wpAny_pure ?_
  have g : GoodWG law0.row.toRowW.claim (classAt s.heap) (ExcName.means s.heap) [.list (l.map .int)] s₁ (.ok (.ret (.bool true))) { s₁ with heap := h', toks := tk } := by
    refine ⟨.inl ⟨.bool true, .bool true, [], rfl, fun cls => rfl, .bool true, post_true _, fun _ => ⟨.nil, fun a ha => (nomatch ha)⟩⟩, .of_keep ext, rfl, ?_⟩
    exact .of_eq L.gens
  have z := g.laid (c := law0.row.toRowW.claim) rfl rfl (ident_freeW rfl rfl rfl) L
  exact ⟨_, rfl, z.1, z.2.1, z.2.2, fun q => (nomatch (show false = true from q))⟩
end Tc
namespace Tc
open PySem PySem.W PyProof.Rows
theorem and_on {a b : Bool} (x : a = true) (y : b = true) : (a && b) = true := by rw [x, y]; rfl
theorem said_looks : looksOpen PySem.Challenge.rw_tc0098_01.row.prog = true := by
  unfold looksOpen
  iterate 5 (refine and_on ?_ (by decide +kernel))
  decide +kernel
theorem said_row : PySem.Challenge.rw_tc0098_01.row.wellSaid = true := by
  unfold OpenRow.wellSaid OpenRow.partSaid
  iterate 2 (refine and_on ?_ (by decide +kernel))
  iterate 13 (refine and_on ?_ (by decide +kernel))
  exact said_looks
theorem said_all : PySem.Challenge.rw_tc0098_01.wellSaid = true := by
  unfold OpenLaw.wellSaid
  iterate 18 (refine and_on ?_ (by decide +kernel))
  exact said_row
end Tc
open PySem PySem.W PyProof.Rows
theorem PySem.Challenge.cw_tc0098_01_holds : PySem.Challenge.rw_tc0098_01.Holds := by
  have hw : PySem.Challenge.rw_tc0098_01.row.toRowW.promised := ⟨[.list []], by decide +kernel, by decide +kernel⟩
  exact ⟨Tc.said_all, Tc.said_row, hw, Tc.hold hw⟩
