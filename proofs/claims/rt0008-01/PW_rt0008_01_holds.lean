import PyProof.Rows.All
import Open.Pieces
import PyProof.SetScanFacts
import PyProof.SetKind
import Open.Line
import Wide.All
import OpenK.AllK
import Wide.FinOn
import Lean
import PySem.Challenge.RW_rt0008_01
set_option Elab.async false
section
open PySem PySem.W PySem.Challenge PyProof.Rows
set_option maxRecDepth 100000
set_option maxHeartbeats 0
set_option Elab.async false
set_option linter.unusedVariables false
namespace Mine
noncomputable abbrev pw := pw_rt0008_01
noncomputable abbrev ann : Option Value := some (.ref 6)
/-- a dict's entry under a written name -/
noncomputable abbrev E (P : Params) (x : Str) (t : Tok) (v : Value) : DictEntry := ⟨PyData.keyHash P x, .str x t, v⟩
/-- a frozenset object with the data D -/
noncomputable abbrev fz (D : Data) : Obj := ⟨.type "frozenset", none, D, #[]⟩
noncomputable def stB (i : Nat) : Stmt := (behindTheImports pw).getD i default
noncomputable def fdP (i : Nat) : Arguments := match pw.main.body[i]? with | some (.FunctionDef _ a ..) => a | _ => default
noncomputable def fdB (i : Nat) : List Stmt := match pw.main.body[i]? with | some (.FunctionDef _ _ b ..) => b | _ => []
noncomputable def fdS (i : Nat) : Scope := match pw.main.body[i]? with | some (.FunctionDef _ _ _ _ _ _ sc ..) => sc | _ => default
noncomputable def envT : Env := { scope := pw.main.scope, locals := mainNs, globals := mainNs, cells := [], code := .ref 30, frame := some 31 }
noncomputable def o0v0 (P : Params) : Obj := ⟨(.type "dict"), none, (.dict #[E P "__name__" 1 (.str "builtins" 160), E P "__doc__" 2 (.builtin "builtins.__doc__:str#opaque"), E P "__package__" 3 (.builtin "builtins.__package__:str#opaque"), E P "__loader__" 4 (.builtin "builtins.__loader__:shared#opaque"), E P "__spec__" 5 (.builtin "builtins.__spec__#opaque"), E P "__build_class__" 6 (.builtin "__build_class__"), E P "__import__" 7 (.builtin "__import__"), E P "abs" 8 (.builtin "abs"), E P "all" 9 (.builtin "all"), E P "any" 10 (.builtin "any"), E P "ascii" 11 (.builtin "ascii"), E P "bin" 12 (.builtin "bin"), E P "breakpoint" 13 (.builtin "breakpoint"), E P "callable" 14 (.builtin "callable"), E P "chr" 15 (.builtin "chr"), E P "compile" 16 (.builtin "compile"), E P "delattr" 17 (.builtin "delattr"), E P "dir" 18 (.builtin "dir"), E P "divmod" 19 (.builtin "divmod"), E P "eval" 20 (.builtin "eval"), E P "exec" 21 (.builtin "exec"), E P "format" 22 (.builtin "format"), E P "getattr" 23 (.builtin "getattr"), E P "globals" 24 (.builtin "globals"), E P "hasattr" 25 (.builtin "hasattr"), E P "hash" 26 (.builtin "hash"), E P "hex" 27 (.builtin "hex"), E P "id" 28 (.builtin "id"), E P "input" 29 (.builtin "input"), E P "isinstance" 30 (.builtin "isinstance"), E P "issubclass" 31 (.builtin "issubclass"), E P "iter" 32 (.builtin "iter"), E P "aiter" 33 (.builtin "aiter"), E P "len" 34 (.builtin "len"), E P "locals" 35 (.builtin "locals"), E P "max" 36 (.builtin "max"), E P "min" 37 (.builtin "min"), E P "next" 38 (.builtin "next"), E P "anext" 39 (.builtin "anext"), E P "oct" 40 (.builtin "oct"), E P "ord" 41 (.builtin "ord"), E P "pow" 42 (.builtin "pow"), E P "print" 43 (.builtin "print"), E P "repr" 44 (.builtin "repr"), E P "round" 45 (.builtin "round"), E P "setattr" 46 (.builtin "setattr"), E P "sorted" 47 (.builtin "sorted"), E P "sum" 48 (.builtin "sum"), E P "vars" 49 (.builtin "vars"), E P "None" 50 .none, E P "Ellipsis" 51 .ellipsis, E P "NotImplemented" 52 .notImplemented, E P "False" 53 (.bool false), E P "True" 54 (.bool true), E P "bool" 55 (.type "bool"), E P "memoryview" 56 (.type "memoryview"), E P "bytearray" 57 (.type "bytearray"), E P "bytes" 58 (.type "bytes"), E P "classmethod" 59 (.type "classmethod"), E P "complex" 60 (.type "complex"), E P "dict" 61 (.type "dict"), E P "enumerate" 62 (.type "enumerate"), E P "filter" 63 (.type "filter"), E P "float" 64 (.type "float"), E P "frozenset" 65 (.type "frozenset"), E P "property" 66 (.type "property"), E P "int" 67 (.type "int"), E P "list" 68 (.type "list"), E P "map" 69 (.type "map"), E P "object" 70 (.type "object"), E P "range" 71 (.type "range"), E P "reversed" 72 (.type "reversed"), E P "set" 73 (.type "set"), E P "slice" 74 (.type "slice"), E P "staticmethod" 75 (.type "staticmethod"), E P "str" 76 (.type "str"), E P "super" 77 (.type "super"), E P "tuple" 78 (.type "tuple"), E P "type" 79 (.type "type"), E P "zip" 80 (.type "zip"), E P "__debug__" 81 (.bool true), E P "BaseException" 82 (.type "BaseException"), E P "BaseExceptionGroup" 83 (.type "BaseExceptionGroup"), E P "Exception" 84 (.type "Exception"), E P "GeneratorExit" 85 (.type "GeneratorExit"), E P "KeyboardInterrupt" 86 (.type "KeyboardInterrupt"), E P "SystemExit" 87 (.type "SystemExit"), E P "ArithmeticError" 88 (.type "ArithmeticError"), E P "AssertionError" 89 (.type "AssertionError"), E P "AttributeError" 90 (.type "AttributeError"), E P "BufferError" 91 (.type "BufferError"), E P "EOFError" 92 (.type "EOFError"), E P "ImportError" 93 (.type "ImportError"), E P "LookupError" 94 (.type "LookupError"), E P "MemoryError" 95 (.type "MemoryError"), E P "NameError" 96 (.type "NameError"), E P "OSError" 97 (.type "OSError"), E P "ReferenceError" 98 (.type "ReferenceError"), E P "RuntimeError" 99 (.type "RuntimeError"), E P "StopAsyncIteration" 100 (.type "StopAsyncIteration"), E P "StopIteration" 101 (.type "StopIteration"), E P "SyntaxError" 102 (.type "SyntaxError"), E P "SystemError" 103 (.type "SystemError"), E P "TypeError" 104 (.type "TypeError"), E P "ValueError" 105 (.type "ValueError"), E P "Warning" 106 (.type "Warning"), E P "FloatingPointError" 107 (.type "FloatingPointError"), E P "OverflowError" 108 (.type "OverflowError"), E P "ZeroDivisionError" 109 (.type "ZeroDivisionError"), E P "BytesWarning" 110 (.type "BytesWarning"), E P "DeprecationWarning" 111 (.type "DeprecationWarning"), E P "EncodingWarning" 112 (.type "EncodingWarning"), E P "FutureWarning" 113 (.type "FutureWarning"), E P "ImportWarning" 114 (.type "ImportWarning"), E P "PendingDeprecationWarning" 115 (.type "PendingDeprecationWarning"), E P "ResourceWarning" 116 (.type "ResourceWarning"), E P "RuntimeWarning" 117 (.type "RuntimeWarning"), E P "SyntaxWarning" 118 (.type "SyntaxWarning"), E P "UnicodeWarning" 119 (.type "UnicodeWarning"), E P "UserWarning" 120 (.type "UserWarning"), E P "BlockingIOError" 121 (.type "BlockingIOError"), E P "ChildProcessError" 122 (.type "ChildProcessError"), E P "ConnectionError" 123 (.type "ConnectionError"), E P "FileExistsError" 124 (.type "FileExistsError"), E P "FileNotFoundError" 125 (.type "FileNotFoundError"), E P "InterruptedError" 126 (.type "InterruptedError"), E P "IsADirectoryError" 127 (.type "IsADirectoryError"), E P "NotADirectoryError" 128 (.type "NotADirectoryError"), E P "PermissionError" 129 (.type "PermissionError"), E P "ProcessLookupError" 130 (.type "ProcessLookupError"), E P "TimeoutError" 131 (.type "TimeoutError"), E P "IndentationError" 132 (.type "IndentationError"), E P "_IncompleteInputError" 133 (.type "_IncompleteInputError"), E P "IndexError" 134 (.type "IndexError"), E P "KeyError" 135 (.type "KeyError"), E P "ModuleNotFoundError" 136 (.type "ModuleNotFoundError"), E P "NotImplementedError" 137 (.type "NotImplementedError"), E P "PythonFinalizationError" 138 (.type "PythonFinalizationError"), E P "RecursionError" 139 (.type "RecursionError"), E P "UnboundLocalError" 140 (.type "UnboundLocalError"), E P "UnicodeError" 141 (.type "UnicodeError"), E P "BrokenPipeError" 142 (.type "BrokenPipeError"), E P "ConnectionAbortedError" 143 (.type "ConnectionAbortedError"), E P "ConnectionRefusedError" 144 (.type "ConnectionRefusedError"), E P "ConnectionResetError" 145 (.type "ConnectionResetError"), E P "TabError" 146 (.type "TabError"), E P "UnicodeDecodeError" 147 (.type "UnicodeDecodeError"), E P "UnicodeEncodeError" 148 (.type "UnicodeEncodeError"), E P "UnicodeTranslateError" 149 (.type "UnicodeTranslateError"), E P "ExceptionGroup" 150 (.type "ExceptionGroup"), E P "EnvironmentError" 151 (.type "OSError"), E P "IOError" 152 (.type "OSError"), E P "open" 153 (.builtin "open"), E P "quit" 154 (.builtin "builtins.quit#opaque"), E P "exit" 155 (.builtin "builtins.exit#opaque"), E P "copyright" 156 (.builtin "builtins.copyright#opaque"), E P "credits" 157 (.builtin "builtins.credits#opaque"), E P "license" 158 (.builtin "builtins.license#opaque"), E P "help" 159 (.builtin "builtins.help#opaque")] 159), #[]⟩
noncomputable def o1v0 (P : Params) : Obj := ⟨(.type "dict"), none, (.dict #[E P "builtins" 162 (.ref 4), E P "__main__" 163 (.ref 5), E P "_sre" 244 (.ref 12)] 3), #[]⟩
noncomputable def o2v0 (P : Params) : Obj := ⟨.none, none, (.dict #[E P "\x69mport.loaded._sre" 183 (.bool true), E P "class._frozen_importlib.BuiltinImporter" 185 (.ref 14), E P "watched.\x69mport" 206 (.ref 18), E P "class._frozen_importlib.ModuleSpec" 216 (.ref 22), E P "sys.modules.booked-epoch" 245 (.int 3 0), E P "\x69mport.later-laid._sre" 270 (.bool true), E P "watched.library" 272 (.ref 27), E P "watched.library-objects" 0 (.str "\x0c" 0), E P "watched.library-deep._sre" 273 (.str "\x04\x00\x00\x0b\x04\x00\x00\x0b\x04\x00\x00\x03\x04\x00\x00\x0b\x08\x04dict\x02" 0)] 9), #[]⟩
noncomputable def o3v0 (P : Params) : Obj := ⟨(.type "dict"), none, (.dict #[E P "__name__" 165 (.str "__main__" 164), E P "__doc__" 166 .none, E P "__package__" 167 .none, E P "__loader__" 168 (.builtin "__main__.__loader__#opaque"), E P "__spec__" 169 .none, E P "__annotations__" 170 (.ref 6), E P "__builtins__" 171 (.ref 4), E P "__file__" 173 (.str "/claim/cut.py" 172), E P "__cached__" 174 .none, E P "_sre" 275 (.ref 12)] 10), #[]⟩
noncomputable def o4v0 (P : Params) : Obj := ⟨(.type "module"), (some 0), .plain, #[]⟩
noncomputable def o5v0 (P : Params) : Obj := ⟨(.type "module"), (some 3), .plain, #[]⟩
noncomputable def o6v0 (P : Params) : Obj := ⟨(.type "dict"), none, (.dict #[] 0), #[]⟩
noncomputable def o7v0 (P : Params) : Obj := ⟨(.type "tuple"), none, (.seq #[] 0), #[]⟩
noncomputable def o8v0 (P : Params) : Obj := ⟨.none, none, (.fields #[]), #[]⟩
noncomputable def o9v0 (P : Params) : Obj := ⟨(.type "code"), none, (.fields #[(.str "<module>" 176), (.str "<module>" 177), (.str "/claim/cut.py" 178), (.int 1 0), (.int 0 0), (.int 0 0), (.int 0 0), (.int 0 0), (.ref 7), (.bool false), (.int 175 0), (.ref 8), .none, .none, .none, .none, (.int 179 0), (.int 1 0), (.str "/claim/cut.py" 180)]), #[]⟩
noncomputable def o10v0 (P : Params) : Obj := ⟨(.type "frame"), none, .plain, #[(some (.ref 9)), (some (.ref 3)), (some (.ref 3)), none, (some (.str "__main__" 164)), none, (some (.ref 0))]⟩
noncomputable def o11v0 (P : Params) : Obj := ⟨(.type "dict"), none, (.dict #[E P "__name__" 247 (.str "_sre" 246), E P "__doc__" 248 .none, E P "__package__" 250 (.str "" 249), E P "__loader__" 251 (.builtin "off-the-table:_sre.__loader__:shared#opaque"), E P "__spec__" 252 (.builtin "off-the-table:_sre.__spec__:shared#opaque"), E P "compile" 253 (.builtin "_sre.compile"), E P "template" 254 (.builtin "off-the-table:_sre.template:shared#opaque"), E P "getcodesize" 255 (.builtin "off-the-table:_sre.getcodesize:shared#opaque"), E P "ascii_iscased" 256 (.builtin "off-the-table:_sre.ascii_iscased:shared#opaque"), E P "unicode_iscased" 257 (.builtin "off-the-table:_sre.unicode_iscased:shared#opaque"), E P "ascii_tolower" 258 (.builtin "off-the-table:_sre.ascii_tolower:shared#opaque"), E P "unicode_tolower" 259 (.builtin "off-the-table:_sre.unicode_tolower:shared#opaque"), E P "MAGIC" 261 (.int 20230612 260), E P "CODESIZE" 263 (.int 4 262), E P "MAXREPEAT" 265 (.int 4294967295 264), E P "MAXGROUPS" 267 (.int 1073741823 266), E P "copyright" 269 (.str " SRE 2.2.2 Copyright (c) 1997-2002 by Secret Labs AB " 268)] 17), #[]⟩
noncomputable def o12v0 (P : Params) : Obj := ⟨(.type "module"), (some 11), .plain, #[]⟩
noncomputable def o13v0 (P : Params) : Obj := ⟨(.type "dict"), none, (.dict #[E P "__module__" 189 (.str "_frozen_importlib" 186), E P "__firstlineno__" 190 (.int 971 187), E P "__doc__" 191 (.builtin "_frozen_importlib.BuiltinImporter.__doc__:str#opaque"), E P "_ORIGIN" 192 (.str "built-in" 188), E P "find_spec" 193 (.builtin "_frozen_importlib.BuiltinImporter.find_spec#opaque"), E P "create_module" 194 (.builtin "_frozen_importlib.BuiltinImporter.create_module#opaque"), E P "exec_module" 195 (.builtin "_frozen_importlib.BuiltinImporter.exec_module#opaque"), E P "get_code" 196 (.builtin "_frozen_importlib.BuiltinImporter.get_code#opaque"), E P "get_source" 197 (.builtin "_frozen_importlib.BuiltinImporter.get_source#opaque"), E P "is_package" 198 (.builtin "_frozen_importlib.BuiltinImporter.is_package#opaque"), E P "load_module" 199 (.builtin "_frozen_importlib.BuiltinImporter.load_module#opaque"), E P "__static_attributes__" 200 (.ref 15), E P "__dict__" 202 (.ref 16), E P "__weakref__" 204 (.ref 17)] 14), #[]⟩
noncomputable def o14v0 (P : Params) : Obj := ⟨(.type "type"), none, (.cls { name := "BuiltinImporter", bases := [(.type "object")], mro := [(.ref 14), (.type "object")], ns := 13, qualname := "BuiltinImporter", hasDict := true, slotNames := [], subclasses := [], abstract := false, collection := none, hasDel := false }), #[]⟩
noncomputable def o15v0 (P : Params) : Obj := ⟨(.type "tuple"), none, (.seq #[] 0), #[]⟩
noncomputable def o16v0 (P : Params) : Obj := ⟨(.type "getset_descriptor"), none, (.fields #[(.str "__dict__" 201), (.ref 14), (.builtin "function.__dict__"), (.builtin "function.__dict__#set")]), #[]⟩
noncomputable def o17v0 (P : Params) : Obj := ⟨(.type "getset_descriptor"), none, (.fields #[(.str "__weakref__" 203), (.ref 14), (.builtin "ExceptionGroup.__weakref__"), .none]), #[]⟩
noncomputable def o18v0 (P : Params) : Obj := ⟨.none, none, (.seq #[(.int 13 0), (.str (⟨⟨(nat_lit 6) :: (nat_lit 189) :: (nat_lit 10) :: (nat_lit 95) :: (nat_lit 95) :: (nat_lit 109) :: (nat_lit 111) :: (nat_lit 100) :: (nat_lit 117) :: (nat_lit 108) :: (nat_lit 101) :: (nat_lit 95) :: (nat_lit 95) :: (nat_lit 6) :: (nat_lit 186) :: (nat_lit 17) :: (nat_lit 95) :: (nat_lit 102) :: (nat_lit 114) :: (nat_lit 111) :: (nat_lit 122) :: (nat_lit 101) :: (nat_lit 110) :: (nat_lit 95) :: (nat_lit 105) :: (nat_lit 109) :: (nat_lit 112) :: (nat_lit 111) :: (nat_lit 114) :: (nat_lit 116) :: (nat_lit 108) :: (nat_lit 105) :: (nat_lit 98) :: (nat_lit 6) :: (nat_lit 190) :: (nat_lit 15) :: (nat_lit 95) :: (nat_lit 95) :: (nat_lit 102) :: (nat_lit 105) :: (nat_lit 114) :: (nat_lit 115) :: (nat_lit 116) :: (nat_lit 108) :: (nat_lit 105) :: (nat_lit 110) :: (nat_lit 101) :: (nat_lit 110) :: (nat_lit 111) :: (nat_lit 95) :: (nat_lit 95) :: (nat_lit 4) :: (nat_lit 187) :: (nat_lit 0) :: (nat_lit 971) :: (nat_lit 6) :: (nat_lit 191) :: (nat_lit 7) :: (nat_lit 95) :: (nat_lit 95) :: (nat_lit 100) :: (nat_lit 111) :: (nat_lit 99) :: (nat_lit 95) :: (nat_lit 95) :: (nat_lit 9) :: (nat_lit 52) :: (nat_lit 95) :: (nat_lit 102) :: (nat_lit 114) :: (nat_lit 111) :: (nat_lit 122) :: (nat_lit 101) :: (nat_lit 110) :: (nat_lit 95) :: (nat_lit 105) :: (nat_lit 109) :: (nat_lit 112) :: (nat_lit 111) :: (nat_lit 114) :: (nat_lit 116) :: (nat_lit 108) :: (nat_lit 105) :: (nat_lit 98) :: (nat_lit 46) :: (nat_lit 66) :: (nat_lit 117) :: (nat_lit 105) :: (nat_lit 108) :: (nat_lit 116) :: (nat_lit 105) :: (nat_lit 110) :: (nat_lit 73) :: (nat_lit 109) :: (nat_lit 112) :: (nat_lit 111) :: (nat_lit 114) :: (nat_lit 116) :: (nat_lit 101) :: (nat_lit 114) :: (nat_lit 46) :: (nat_lit 95) :: (nat_lit 95) :: (nat_lit 100) :: (nat_lit 111) :: (nat_lit 99) :: (nat_lit 95) :: (nat_lit 95) :: (nat_lit 58) :: (nat_lit 115) :: (nat_lit 116) :: (nat_lit 114) :: (nat_lit 35) :: (nat_lit 111) :: (nat_lit 112) :: (nat_lit 97) :: (nat_lit 113) :: (nat_lit 117) :: (nat_lit 101) :: (nat_lit 6) :: (nat_lit 192) :: (nat_lit 7) :: (nat_lit 95) :: (nat_lit 79) :: (nat_lit 82) :: (nat_lit 73) :: (nat_lit 71) :: (nat_lit 73) :: (nat_lit 78) :: (nat_lit 6) :: (nat_lit 188) :: (nat_lit 8) :: (nat_lit 98) :: (nat_lit 117) :: (nat_lit 105) :: (nat_lit 108) :: (nat_lit 116) :: (nat_lit 45) :: (nat_lit 105) :: (nat_lit 110) :: (nat_lit 6) :: (nat_lit 193) :: (nat_lit 9) :: (nat_lit 102) :: (nat_lit 105) :: (nat_lit 110) :: (nat_lit 100) :: (nat_lit 95) :: (nat_lit 115) :: (nat_lit 112) :: (nat_lit 101) :: (nat_lit 99) :: (nat_lit 9) :: (nat_lit 50) :: (nat_lit 95) :: (nat_lit 102) :: (nat_lit 114) :: (nat_lit 111) :: (nat_lit 122) :: (nat_lit 101) :: (nat_lit 110) :: (nat_lit 95) :: (nat_lit 105) :: (nat_lit 109) :: (nat_lit 112) :: (nat_lit 111) :: (nat_lit 114) :: (nat_lit 116) :: (nat_lit 108) :: (nat_lit 105) :: (nat_lit 98) :: (nat_lit 46) :: (nat_lit 66) :: (nat_lit 117) :: (nat_lit 105) :: (nat_lit 108) :: (nat_lit 116) :: (nat_lit 105) :: (nat_lit 110) :: (nat_lit 73) :: (nat_lit 109) :: (nat_lit 112) :: (nat_lit 111) :: (nat_lit 114) :: (nat_lit 116) :: (nat_lit 101) :: (nat_lit 114) :: (nat_lit 46) :: (nat_lit 102) :: (nat_lit 105) :: (nat_lit 110) :: (nat_lit 100) :: (nat_lit 95) :: (nat_lit 115) :: (nat_lit 112) :: (nat_lit 101) :: (nat_lit 99) :: (nat_lit 35) :: (nat_lit 111) :: (nat_lit 112) :: (nat_lit 97) :: (nat_lit 113) :: (nat_lit 117) :: (nat_lit 101) :: (nat_lit 6) :: (nat_lit 194) :: (nat_lit 13) :: (nat_lit 99) :: (nat_lit 114) :: (nat_lit 101) :: (nat_lit 97) :: (nat_lit 116) :: (nat_lit 101) :: (nat_lit 95) :: (nat_lit 109) :: (nat_lit 111) :: (nat_lit 100) :: (nat_lit 117) :: (nat_lit 108) :: (nat_lit 101) :: (nat_lit 9) :: (nat_lit 54) :: (nat_lit 95) :: (nat_lit 102) :: (nat_lit 114) :: (nat_lit 111) :: (nat_lit 122) :: (nat_lit 101) :: (nat_lit 110) :: (nat_lit 95) :: (nat_lit 105) :: (nat_lit 109) :: (nat_lit 112) :: (nat_lit 111) :: (nat_lit 114) :: (nat_lit 116) :: (nat_lit 108) :: (nat_lit 105) :: (nat_lit 98) :: (nat_lit 46) :: (nat_lit 66) :: (nat_lit 117) :: (nat_lit 105) :: (nat_lit 108) :: (nat_lit 116) :: (nat_lit 105) :: (nat_lit 110) :: (nat_lit 73) :: (nat_lit 109) :: (nat_lit 112) :: (nat_lit 111) :: (nat_lit 114) :: (nat_lit 116) :: (nat_lit 101) :: (nat_lit 114) :: (nat_lit 46) :: (nat_lit 99) :: (nat_lit 114) :: (nat_lit 101) :: (nat_lit 97) :: (nat_lit 116) :: (nat_lit 101) :: (nat_lit 95) :: (nat_lit 109) :: (nat_lit 111) :: (nat_lit 100) :: (nat_lit 117) :: (nat_lit 108) :: (nat_lit 101) :: (nat_lit 35) :: (nat_lit 111) :: (nat_lit 112) :: (nat_lit 97) :: (nat_lit 113) :: (nat_lit 117) :: (nat_lit 101) :: (nat_lit 6) :: (nat_lit 195) :: (nat_lit 11) :: (nat_lit 101) :: (nat_lit 120) :: (nat_lit 101) :: (nat_lit 99) :: (nat_lit 95) :: (nat_lit 109) :: (nat_lit 111) :: (nat_lit 100) :: (nat_lit 117) :: (nat_lit 108) :: (nat_lit 101) :: (nat_lit 9) :: (nat_lit 52) :: (nat_lit 95) :: (nat_lit 102) :: (nat_lit 114) :: (nat_lit 111) :: (nat_lit 122) :: (nat_lit 101) :: (nat_lit 110) :: (nat_lit 95) :: (nat_lit 105) :: (nat_lit 109) :: (nat_lit 112) :: (nat_lit 111) :: (nat_lit 114) :: (nat_lit 116) :: (nat_lit 108) :: (nat_lit 105) :: (nat_lit 98) :: (nat_lit 46) :: (nat_lit 66) :: (nat_lit 117) :: (nat_lit 105) :: (nat_lit 108) :: (nat_lit 116) :: (nat_lit 105) :: (nat_lit 110) :: (nat_lit 73) :: (nat_lit 109) :: (nat_lit 112) :: (nat_lit 111) :: (nat_lit 114) :: (nat_lit 116) :: (nat_lit 101) :: (nat_lit 114) :: (nat_lit 46) :: (nat_lit 101) :: (nat_lit 120) :: (nat_lit 101) :: (nat_lit 99) :: (nat_lit 95) :: (nat_lit 109) :: (nat_lit 111) :: (nat_lit 100) :: (nat_lit 117) :: (nat_lit 108) :: (nat_lit 101) :: (nat_lit 35) :: (nat_lit 111) :: (nat_lit 112) :: (nat_lit 97) :: (nat_lit 113) :: (nat_lit 117) :: (nat_lit 101) :: (nat_lit 6) :: (nat_lit 196) :: (nat_lit 8) :: (nat_lit 103) :: (nat_lit 101) :: (nat_lit 116) :: (nat_lit 95) :: (nat_lit 99) :: (nat_lit 111) :: (nat_lit 100) :: (nat_lit 101) :: (nat_lit 9) :: (nat_lit 49) :: (nat_lit 95) :: (nat_lit 102) :: (nat_lit 114) :: (nat_lit 111) :: (nat_lit 122) :: (nat_lit 101) :: (nat_lit 110) :: (nat_lit 95) :: (nat_lit 105) :: (nat_lit 109) :: (nat_lit 112) :: (nat_lit 111) :: (nat_lit 114) :: (nat_lit 116) :: (nat_lit 108) :: (nat_lit 105) :: (nat_lit 98) :: (nat_lit 46) :: (nat_lit 66) :: (nat_lit 117) :: (nat_lit 105) :: (nat_lit 108) :: (nat_lit 116) :: (nat_lit 105) :: (nat_lit 110) :: (nat_lit 73) :: (nat_lit 109) :: (nat_lit 112) :: (nat_lit 111) :: (nat_lit 114) :: (nat_lit 116) :: (nat_lit 101) :: (nat_lit 114) :: (nat_lit 46) :: (nat_lit 103) :: (nat_lit 101) :: (nat_lit 116) :: (nat_lit 95) :: (nat_lit 99) :: (nat_lit 111) :: (nat_lit 100) :: (nat_lit 101) :: (nat_lit 35) :: (nat_lit 111) :: (nat_lit 112) :: (nat_lit 97) :: (nat_lit 113) :: (nat_lit 117) :: (nat_lit 101) :: (nat_lit 6) :: (nat_lit 197) :: (nat_lit 10) :: (nat_lit 103) :: (nat_lit 101) :: (nat_lit 116) :: (nat_lit 95) :: (nat_lit 115) :: (nat_lit 111) :: (nat_lit 117) :: (nat_lit 114) :: (nat_lit 99) :: (nat_lit 101) :: (nat_lit 9) :: (nat_lit 51) :: (nat_lit 95) :: (nat_lit 102) :: (nat_lit 114) :: (nat_lit 111) :: (nat_lit 122) :: (nat_lit 101) :: (nat_lit 110) :: (nat_lit 95) :: (nat_lit 105) :: (nat_lit 109) :: (nat_lit 112) :: (nat_lit 111) :: (nat_lit 114) :: (nat_lit 116) :: (nat_lit 108) :: (nat_lit 105) :: (nat_lit 98) :: (nat_lit 46) :: (nat_lit 66) :: (nat_lit 117) :: (nat_lit 105) :: (nat_lit 108) :: (nat_lit 116) :: (nat_lit 105) :: (nat_lit 110) :: (nat_lit 73) :: (nat_lit 109) :: (nat_lit 112) :: (nat_lit 111) :: (nat_lit 114) :: (nat_lit 116) :: (nat_lit 101) :: (nat_lit 114) :: (nat_lit 46) :: (nat_lit 103) :: (nat_lit 101) :: (nat_lit 116) :: (nat_lit 95) :: (nat_lit 115) :: (nat_lit 111) :: (nat_lit 117) :: (nat_lit 114) :: (nat_lit 99) :: (nat_lit 101) :: (nat_lit 35) :: (nat_lit 111) :: (nat_lit 112) :: (nat_lit 97) :: (nat_lit 113) :: (nat_lit 117) :: (nat_lit 101) :: (nat_lit 6) :: (nat_lit 198) :: (nat_lit 10) :: (nat_lit 105) :: (nat_lit 115) :: (nat_lit 95) :: (nat_lit 112) :: (nat_lit 97) :: (nat_lit 99) :: (nat_lit 107) :: (nat_lit 97) :: (nat_lit 103) :: (nat_lit 101) :: (nat_lit 9) :: (nat_lit 51) :: (nat_lit 95) :: (nat_lit 102) :: (nat_lit 114) :: (nat_lit 111) :: (nat_lit 122) :: (nat_lit 101) :: (nat_lit 110) :: (nat_lit 95) :: (nat_lit 105) :: (nat_lit 109) :: (nat_lit 112) :: (nat_lit 111) :: (nat_lit 114) :: (nat_lit 116) :: (nat_lit 108) :: (nat_lit 105) :: (nat_lit 98) :: (nat_lit 46) :: (nat_lit 66) :: (nat_lit 117) :: (nat_lit 105) :: (nat_lit 108) :: (nat_lit 116) :: (nat_lit 105) :: (nat_lit 110) :: (nat_lit 73) :: (nat_lit 109) :: (nat_lit 112) :: (nat_lit 111) :: (nat_lit 114) :: (nat_lit 116) :: (nat_lit 101) :: (nat_lit 114) :: (nat_lit 46) :: (nat_lit 105) :: (nat_lit 115) :: (nat_lit 95) :: (nat_lit 112) :: (nat_lit 97) :: (nat_lit 99) :: (nat_lit 107) :: (nat_lit 97) :: (nat_lit 103) :: (nat_lit 101) :: (nat_lit 35) :: (nat_lit 111) :: (nat_lit 112) :: (nat_lit 97) :: (nat_lit 113) :: (nat_lit 117) :: (nat_lit 101) :: (nat_lit 6) :: (nat_lit 199) :: (nat_lit 11) :: (nat_lit 108) :: (nat_lit 111) :: (nat_lit 97) :: (nat_lit 100) :: (nat_lit 95) :: (nat_lit 109) :: (nat_lit 111) :: (nat_lit 100) :: (nat_lit 117) :: (nat_lit 108) :: (nat_lit 101) :: (nat_lit 9) :: (nat_lit 52) :: (nat_lit 95) :: (nat_lit 102) :: (nat_lit 114) :: (nat_lit 111) :: (nat_lit 122) :: (nat_lit 101) :: (nat_lit 110) :: (nat_lit 95) :: (nat_lit 105) :: (nat_lit 109) :: (nat_lit 112) :: (nat_lit 111) :: (nat_lit 114) :: (nat_lit 116) :: (nat_lit 108) :: (nat_lit 105) :: (nat_lit 98) :: (nat_lit 46) :: (nat_lit 66) :: (nat_lit 117) :: (nat_lit 105) :: (nat_lit 108) :: (nat_lit 116) :: (nat_lit 105) :: (nat_lit 110) :: (nat_lit 73) :: (nat_lit 109) :: (nat_lit 112) :: (nat_lit 111) :: (nat_lit 114) :: (nat_lit 116) :: (nat_lit 101) :: (nat_lit 114) :: (nat_lit 46) :: (nat_lit 108) :: (nat_lit 111) :: (nat_lit 97) :: (nat_lit 100) :: (nat_lit 95) :: (nat_lit 109) :: (nat_lit 111) :: (nat_lit 100) :: (nat_lit 117) :: (nat_lit 108) :: (nat_lit 101) :: (nat_lit 35) :: (nat_lit 111) :: (nat_lit 112) :: (nat_lit 97) :: (nat_lit 113) :: (nat_lit 117) :: (nat_lit 101) :: (nat_lit 6) :: (nat_lit 200) :: (nat_lit 21) :: (nat_lit 95) :: (nat_lit 95) :: (nat_lit 115) :: (nat_lit 116) :: (nat_lit 97) :: (nat_lit 116) :: (nat_lit 105) :: (nat_lit 99) :: (nat_lit 95) :: (nat_lit 97) :: (nat_lit 116) :: (nat_lit 116) :: (nat_lit 114) :: (nat_lit 105) :: (nat_lit 98) :: (nat_lit 117) :: (nat_lit 116) :: (nat_lit 101) :: (nat_lit 115) :: (nat_lit 95) :: (nat_lit 95) :: (nat_lit 4) :: (nat_lit 0) :: (nat_lit 0) :: (nat_lit 15) :: (nat_lit 6) :: (nat_lit 202) :: (nat_lit 8) :: (nat_lit 95) :: (nat_lit 95) :: (nat_lit 100) :: (nat_lit 105) :: (nat_lit 99) :: (nat_lit 116) :: (nat_lit 95) :: (nat_lit 95) :: (nat_lit 4) :: (nat_lit 0) :: (nat_lit 0) :: (nat_lit 16) :: (nat_lit 6) :: (nat_lit 204) :: (nat_lit 11) :: (nat_lit 95) :: (nat_lit 95) :: (nat_lit 119) :: (nat_lit 101) :: (nat_lit 97) :: (nat_lit 107) :: (nat_lit 114) :: (nat_lit 101) :: (nat_lit 102) :: (nat_lit 95) :: (nat_lit 95) :: (nat_lit 4) :: (nat_lit 0) :: (nat_lit 0) :: (nat_lit 17) :: []⟩⟩ : Str) 0), (.bool true), (.bool true), (.str "" 205), (.int 21 0), (.str (⟨⟨(nat_lit 6) :: (nat_lit 227) :: (nat_lit 10) :: (nat_lit 95) :: (nat_lit 95) :: (nat_lit 109) :: (nat_lit 111) :: (nat_lit 100) :: (nat_lit 117) :: (nat_lit 108) :: (nat_lit 101) :: (nat_lit 95) :: (nat_lit 95) :: (nat_lit 6) :: (nat_lit 217) :: (nat_lit 17) :: (nat_lit 95) :: (nat_lit 102) :: (nat_lit 114) :: (nat_lit 111) :: (nat_lit 122) :: (nat_lit 101) :: (nat_lit 110) :: (nat_lit 95) :: (nat_lit 105) :: (nat_lit 109) :: (nat_lit 112) :: (nat_lit 111) :: (nat_lit 114) :: (nat_lit 116) :: (nat_lit 108) :: (nat_lit 105) :: (nat_lit 98) :: (nat_lit 6) :: (nat_lit 228) :: (nat_lit 15) :: (nat_lit 95) :: (nat_lit 95) :: (nat_lit 102) :: (nat_lit 105) :: (nat_lit 114) :: (nat_lit 115) :: (nat_lit 116) :: (nat_lit 108) :: (nat_lit 105) :: (nat_lit 110) :: (nat_lit 101) :: (nat_lit 110) :: (nat_lit 111) :: (nat_lit 95) :: (nat_lit 95) :: (nat_lit 4) :: (nat_lit 218) :: (nat_lit 0) :: (nat_lit 562) :: (nat_lit 6) :: (nat_lit 229) :: (nat_lit 7) :: (nat_lit 95) :: (nat_lit 95) :: (nat_lit 100) :: (nat_lit 111) :: (nat_lit 99) :: (nat_lit 95) :: (nat_lit 95) :: (nat_lit 9) :: (nat_lit 47) :: (nat_lit 95) :: (nat_lit 102) :: (nat_lit 114) :: (nat_lit 111) :: (nat_lit 122) :: (nat_lit 101) :: (nat_lit 110) :: (nat_lit 95) :: (nat_lit 105) :: (nat_lit 109) :: (nat_lit 112) :: (nat_lit 111) :: (nat_lit 114) :: (nat_lit 116) :: (nat_lit 108) :: (nat_lit 105) :: (nat_lit 98) :: (nat_lit 46) :: (nat_lit 77) :: (nat_lit 111) :: (nat_lit 100) :: (nat_lit 117) :: (nat_lit 108) :: (nat_lit 101) :: (nat_lit 83) :: (nat_lit 112) :: (nat_lit 101) :: (nat_lit 99) :: (nat_lit 46) :: (nat_lit 95) :: (nat_lit 95) :: (nat_lit 100) :: (nat_lit 111) :: (nat_lit 99) :: (nat_lit 95) :: (nat_lit 95) :: (nat_lit 58) :: (nat_lit 115) :: (nat_lit 116) :: (nat_lit 114) :: (nat_lit 35) :: (nat_lit 111) :: (nat_lit 112) :: (nat_lit 97) :: (nat_lit 113) :: (nat_lit 117) :: (nat_lit 101) :: (nat_lit 6) :: (nat_lit 230) :: (nat_lit 8) :: (nat_lit 95) :: (nat_lit 95) :: (nat_lit 105) :: (nat_lit 110) :: (nat_lit 105) :: (nat_lit 116) :: (nat_lit 95) :: (nat_lit 95) :: (nat_lit 9) :: (nat_lit 44) :: (nat_lit 95) :: (nat_lit 102) :: (nat_lit 114) :: (nat_lit 111) :: (nat_lit 122) :: (nat_lit 101) :: (nat_lit 110) :: (nat_lit 95) :: (nat_lit 105) :: (nat_lit 109) :: (nat_lit 112) :: (nat_lit 111) :: (nat_lit 114) :: (nat_lit 116) :: (nat_lit 108) :: (nat_lit 105) :: (nat_lit 98) :: (nat_lit 46) :: (nat_lit 77) :: (nat_lit 111) :: (nat_lit 100) :: (nat_lit 117) :: (nat_lit 108) :: (nat_lit 101) :: (nat_lit 83) :: (nat_lit 112) :: (nat_lit 101) :: (nat_lit 99) :: (nat_lit 46) :: (nat_lit 95) :: (nat_lit 95) :: (nat_lit 105) :: (nat_lit 110) :: (nat_lit 105) :: (nat_lit 116) :: (nat_lit 95) :: (nat_lit 95) :: (nat_lit 35) :: (nat_lit 111) :: (nat_lit 112) :: (nat_lit 97) :: (nat_lit 113) :: (nat_lit 117) :: (nat_lit 101) :: (nat_lit 6) :: (nat_lit 231) :: (nat_lit 8) :: (nat_lit 95) :: (nat_lit 95) :: (nat_lit 114) :: (nat_lit 101) :: (nat_lit 112) :: (nat_lit 114) :: (nat_lit 95) :: (nat_lit 95) :: (nat_lit 9) :: (nat_lit 44) :: (nat_lit 95) :: (nat_lit 102) :: (nat_lit 114) :: (nat_lit 111) :: (nat_lit 122) :: (nat_lit 101) :: (nat_lit 110) :: (nat_lit 95) :: (nat_lit 105) :: (nat_lit 109) :: (nat_lit 112) :: (nat_lit 111) :: (nat_lit 114) :: (nat_lit 116) :: (nat_lit 108) :: (nat_lit 105) :: (nat_lit 98) :: (nat_lit 46) :: (nat_lit 77) :: (nat_lit 111) :: (nat_lit 100) :: (nat_lit 117) :: (nat_lit 108) :: (nat_lit 101) :: (nat_lit 83) :: (nat_lit 112) :: (nat_lit 101) :: (nat_lit 99) :: (nat_lit 46) :: (nat_lit 95) :: (nat_lit 95) :: (nat_lit 114) :: (nat_lit 101) :: (nat_lit 112) :: (nat_lit 114) :: (nat_lit 95) :: (nat_lit 95) :: (nat_lit 35) :: (nat_lit 111) :: (nat_lit 112) :: (nat_lit 97) :: (nat_lit 113) :: (nat_lit 117) :: (nat_lit 101) :: (nat_lit 6) :: (nat_lit 232) :: (nat_lit 6) :: (nat_lit 95) :: (nat_lit 95) :: (nat_lit 101) :: (nat_lit 113) :: (nat_lit 95) :: (nat_lit 95) :: (nat_lit 9) :: (nat_lit 42) :: (nat_lit 95) :: (nat_lit 102) :: (nat_lit 114) :: (nat_lit 111) :: (nat_lit 122) :: (nat_lit 101) :: (nat_lit 110) :: (nat_lit 95) :: (nat_lit 105) :: (nat_lit 109) :: (nat_lit 112) :: (nat_lit 111) :: (nat_lit 114) :: (nat_lit 116) :: (nat_lit 108) :: (nat_lit 105) :: (nat_lit 98) :: (nat_lit 46) :: (nat_lit 77) :: (nat_lit 111) :: (nat_lit 100) :: (nat_lit 117) :: (nat_lit 108) :: (nat_lit 101) :: (nat_lit 83) :: (nat_lit 112) :: (nat_lit 101) :: (nat_lit 99) :: (nat_lit 46) :: (nat_lit 95) :: (nat_lit 95) :: (nat_lit 101) :: (nat_lit 113) :: (nat_lit 95) :: (nat_lit 95) :: (nat_lit 35) :: (nat_lit 111) :: (nat_lit 112) :: (nat_lit 97) :: (nat_lit 113) :: (nat_lit 117) :: (nat_lit 101) :: (nat_lit 6) :: (nat_lit 233) :: (nat_lit 6) :: (nat_lit 99) :: (nat_lit 97) :: (nat_lit 99) :: (nat_lit 104) :: (nat_lit 101) :: (nat_lit 100) :: (nat_lit 9) :: (nat_lit 42) :: (nat_lit 95) :: (nat_lit 102) :: (nat_lit 114) :: (nat_lit 111) :: (nat_lit 122) :: (nat_lit 101) :: (nat_lit 110) :: (nat_lit 95) :: (nat_lit 105) :: (nat_lit 109) :: (nat_lit 112) :: (nat_lit 111) :: (nat_lit 114) :: (nat_lit 116) :: (nat_lit 108) :: (nat_lit 105) :: (nat_lit 98) :: (nat_lit 46) :: (nat_lit 77) :: (nat_lit 111) :: (nat_lit 100) :: (nat_lit 117) :: (nat_lit 108) :: (nat_lit 101) :: (nat_lit 83) :: (nat_lit 112) :: (nat_lit 101) :: (nat_lit 99) :: (nat_lit 46) :: (nat_lit 99) :: (nat_lit 97) :: (nat_lit 99) :: (nat_lit 104) :: (nat_lit 101) :: (nat_lit 100) :: (nat_lit 35) :: (nat_lit 111) :: (nat_lit 112) :: (nat_lit 97) :: (nat_lit 113) :: (nat_lit 117) :: (nat_lit 101) :: (nat_lit 6) :: (nat_lit 234) :: (nat_lit 6) :: (nat_lit 112) :: (nat_lit 97) :: (nat_lit 114) :: (nat_lit 101) :: (nat_lit 110) :: (nat_lit 116) :: (nat_lit 9) :: (nat_lit 42) :: (nat_lit 95) :: (nat_lit 102) :: (nat_lit 114) :: (nat_lit 111) :: (nat_lit 122) :: (nat_lit 101) :: (nat_lit 110) :: (nat_lit 95) :: (nat_lit 105) :: (nat_lit 109) :: (nat_lit 112) :: (nat_lit 111) :: (nat_lit 114) :: (nat_lit 116) :: (nat_lit 108) :: (nat_lit 105) :: (nat_lit 98) :: (nat_lit 46) :: (nat_lit 77) :: (nat_lit 111) :: (nat_lit 100) :: (nat_lit 117) :: (nat_lit 108) :: (nat_lit 101) :: (nat_lit 83) :: (nat_lit 112) :: (nat_lit 101) :: (nat_lit 99) :: (nat_lit 46) :: (nat_lit 112) :: (nat_lit 97) :: (nat_lit 114) :: (nat_lit 101) :: (nat_lit 110) :: (nat_lit 116) :: (nat_lit 35) :: (nat_lit 111) :: (nat_lit 112) :: (nat_lit 97) :: (nat_lit 113) :: (nat_lit 117) :: (nat_lit 101) :: (nat_lit 6) :: (nat_lit 235) :: (nat_lit 12) :: (nat_lit 104) :: (nat_lit 97) :: (nat_lit 115) :: (nat_lit 95) :: (nat_lit 108) :: (nat_lit 111) :: (nat_lit 99) :: (nat_lit 97) :: (nat_lit 116) :: (nat_lit 105) :: (nat_lit 111) :: (nat_lit 110) :: (nat_lit 9) :: (nat_lit 48) :: (nat_lit 95) :: (nat_lit 102) :: (nat_lit 114) :: (nat_lit 111) :: (nat_lit 122) :: (nat_lit 101) :: (nat_lit 110) :: (nat_lit 95) :: (nat_lit 105) :: (nat_lit 109) :: (nat_lit 112) :: (nat_lit 111) :: (nat_lit 114) :: (nat_lit 116) :: (nat_lit 108) :: (nat_lit 105) :: (nat_lit 98) :: (nat_lit 46) :: (nat_lit 77) :: (nat_lit 111) :: (nat_lit 100) :: (nat_lit 117) :: (nat_lit 108) :: (nat_lit 101) :: (nat_lit 83) :: (nat_lit 112) :: (nat_lit 101) :: (nat_lit 99) :: (nat_lit 46) :: (nat_lit 104) :: (nat_lit 97) :: (nat_lit 115) :: (nat_lit 95) :: (nat_lit 108) :: (nat_lit 111) :: (nat_lit 99) :: (nat_lit 97) :: (nat_lit 116) :: (nat_lit 105) :: (nat_lit 111) :: (nat_lit 110) :: (nat_lit 35) :: (nat_lit 111) :: (nat_lit 112) :: (nat_lit 97) :: (nat_lit 113) :: (nat_lit 117) :: (nat_lit 101) :: (nat_lit 6) :: (nat_lit 236) :: (nat_lit 21) :: (nat_lit 95) :: (nat_lit 95) :: (nat_lit 115) :: (nat_lit 116) :: (nat_lit 97) :: (nat_lit 116) :: (nat_lit 105) :: (nat_lit 99) :: (nat_lit 95) :: (nat_lit 97) :: (nat_lit 116) :: (nat_lit 116) :: (nat_lit 114) :: (nat_lit 105) :: (nat_lit 98) :: (nat_lit 117) :: (nat_lit 116) :: (nat_lit 101) :: (nat_lit 115) :: (nat_lit 95) :: (nat_lit 95) :: (nat_lit 4) :: (nat_lit 0) :: (nat_lit 0) :: (nat_lit 23) :: (nat_lit 6) :: (nat_lit 238) :: (nat_lit 8) :: (nat_lit 95) :: (nat_lit 95) :: (nat_lit 100) :: (nat_lit 105) :: (nat_lit 99) :: (nat_lit 116) :: (nat_lit 95) :: (nat_lit 95) :: (nat_lit 4) :: (nat_lit 0) :: (nat_lit 0) :: (nat_lit 24) :: (nat_lit 6) :: (nat_lit 240) :: (nat_lit 11) :: (nat_lit 95) :: (nat_lit 95) :: (nat_lit 119) :: (nat_lit 101) :: (nat_lit 97) :: (nat_lit 107) :: (nat_lit 114) :: (nat_lit 101) :: (nat_lit 102) :: (nat_lit 95) :: (nat_lit 95) :: (nat_lit 4) :: (nat_lit 0) :: (nat_lit 0) :: (nat_lit 25) :: (nat_lit 6) :: (nat_lit 241) :: (nat_lit 8) :: (nat_lit 95) :: (nat_lit 95) :: (nat_lit 104) :: (nat_lit 97) :: (nat_lit 115) :: (nat_lit 104) :: (nat_lit 95) :: (nat_lit 95) :: (nat_lit 0) :: []⟩⟩ : Str) 0), (.bool true), (.bool true), (.str "" 242)] 1), #[]⟩
noncomputable def o19v0 (P : Params) : Obj := ⟨(.type "list"), none, (.seq #[] 0), #[]⟩
noncomputable def o20v0 (P : Params) : Obj := ⟨(.type "dict"), none, (.dict #[E P "name" 208 (.str "_sre" 207), E P "loader" 209 (.ref 14), E P "origin" 210 (.str "built-in" 184), E P "loader_state" 211 .none, E P "submodule_search_locations" 212 .none, E P "_uninitialized_submodules" 213 (.ref 19), E P "_set_fileattr" 214 (.bool false), E P "_cached" 215 .none, E P "_initializing" 243 (.bool false)] 9), #[]⟩
noncomputable def o21v0 (P : Params) : Obj := ⟨(.type "dict"), none, (.dict #[E P "__module__" 227 (.str "_frozen_importlib" 217), E P "__firstlineno__" 228 (.int 562 218), E P "__doc__" 229 (.builtin "_frozen_importlib.ModuleSpec.__doc__:str#opaque"), E P "__init__" 230 (.builtin "_frozen_importlib.ModuleSpec.__init__#opaque"), E P "__repr__" 231 (.builtin "_frozen_importlib.ModuleSpec.__repr__#opaque"), E P "__eq__" 232 (.builtin "_frozen_importlib.ModuleSpec.__eq__#opaque"), E P "cached" 233 (.builtin "_frozen_importlib.ModuleSpec.cached#opaque"), E P "parent" 234 (.builtin "_frozen_importlib.ModuleSpec.parent#opaque"), E P "has_location" 235 (.builtin "_frozen_importlib.ModuleSpec.has_location#opaque"), E P "__static_attributes__" 236 (.ref 23), E P "__dict__" 238 (.ref 24), E P "__weakref__" 240 (.ref 25), E P "__hash__" 241 .none] 13), #[]⟩
noncomputable def o22v0 (P : Params) : Obj := ⟨(.type "type"), none, (.cls { name := "ModuleSpec", bases := [(.type "object")], mro := [(.ref 22), (.type "object")], ns := 21, qualname := "ModuleSpec", hasDict := true, slotNames := [], subclasses := [], abstract := false, collection := none, hasDel := false }), #[]⟩
noncomputable def o23v0 (P : Params) : Obj := ⟨(.type "tuple"), none, (.seq #[(.str "_cached" 219), (.str "_set_fileattr" 220), (.str "_uninitialized_submodules" 221), (.str "loader" 222), (.str "loader_state" 223), (.str "name" 224), (.str "origin" 225), (.str "submodule_search_locations" 226)] 0), #[]⟩
noncomputable def o24v0 (P : Params) : Obj := ⟨(.type "getset_descriptor"), none, (.fields #[(.str "__dict__" 237), (.ref 22), (.builtin "function.__dict__"), (.builtin "function.__dict__#set")]), #[]⟩
noncomputable def o25v0 (P : Params) : Obj := ⟨(.type "getset_descriptor"), none, (.fields #[(.str "__weakref__" 239), (.ref 22), (.builtin "ExceptionGroup.__weakref__"), .none]), #[]⟩
noncomputable def o26v0 (P : Params) : Obj := ⟨(.ref 22), (some 20), .plain, #[]⟩
noncomputable def o27v0 (P : Params) : Obj := ⟨.none, none, (.seq #[(.int 11 0), (.str (⟨#[6, 247, 8, 95, 95, 110, 97, 109, 101, 95, 95, 6, 246, 4, 95, 115, 114, 101, 6, 248, 7, 95, 95, 100, 111, 99, 95, 95, 0, 6, 250, 11, 95, 95, 112, 97, 99, 107, 97, 103, 101, 95, 95, 6, 249, 0, 6, 251, 10, 95, 95, 108, 111, 97, 100, 101, 114, 95, 95, 4, 0, 0, 14, 6, 252, 8, 95, 95, 115, 112, 101, 99, 95, 95, 4, 0, 0, 26, 6, 253, 7, 99, 111, 109, 112, 105, 108, 101, 9, 12, 95, 115, 114, 101, 46, 99, 111, 109, 112, 105, 108, 101, 6, 254, 8, 116, 101, 109, 112, 108, 97, 116, 101, 9, 13, 95, 115, 114, 101, 46, 116, 101, 109, 112, 108, 97, 116, 101, 6, 255, 11, 103, 101, 116, 99, 111, 100, 101, 115, 105, 122, 101, 9, 16, 95, 115, 114, 101, 46, 103, 101, 116, 99, 111, 100, 101, 115, 105, 122, 101, 6, 256, 13, 97, 115, 99, 105, 105, 95, 105, 115, 99, 97, 115, 101, 100, 9, 18, 95, 115, 114, 101, 46, 97, 115, 99, 105, 105, 95, 105, 115, 99, 97, 115, 101, 100, 6, 257, 15, 117, 110, 105, 99, 111, 100, 101, 95, 105, 115, 99, 97, 115, 101, 100, 9, 20, 95, 115, 114, 101, 46, 117, 110, 105, 99, 111, 100, 101, 95, 105, 115, 99, 97, 115, 101, 100, 6, 258, 13, 97, 115, 99, 105, 105, 95, 116, 111, 108, 111, 119, 101, 114, 9, 18, 95, 115, 114, 101, 46, 97, 115, 99, 105, 105, 95, 116, 111, 108, 111, 119, 101, 114, 6, 259, 15, 117, 110, 105, 99, 111, 100, 101, 95, 116, 111, 108, 111, 119, 101, 114, 9, 20, 95, 115, 114, 101, 46, 117, 110, 105, 99, 111, 100, 101, 95, 116, 111, 108, 111, 119, 101, 114, 6, 261, 5, 77, 65, 71, 73, 67, 4, 260, 0, 20230612, 6, 263, 8, 67, 79, 68, 69, 83, 73, 90, 69, 4, 262, 0, 4, 6, 265, 9, 77, 65, 88, 82, 69, 80, 69, 65, 84, 4, 264, 0, 4294967295, 6, 267, 9, 77, 65, 88, 71, 82, 79, 85, 80, 83, 4, 266, 0, 1073741823, 6, 269, 9, 99, 111, 112, 121, 114, 105, 103, 104, 116, 6, 268, 53, 32, 83, 82, 69, 32, 50, 46, 50, 46, 50, 32, 67, 111, 112, 121, 114, 105, 103, 104, 116, 32, 40, 99, 41, 32, 49, 57, 57, 55, 45, 50, 48, 48, 50, 32, 98, 121, 32, 83, 101, 99, 114, 101, 116, 32, 76, 97, 98, 115, 32, 65, 66, 32]⟩ : Str) 0), (.bool true), (.bool false), (.str "_sre" 271)] 0), #[]⟩
noncomputable def h0 (P : Params) : Heap := ⟨#[o0v0 P, o1v0 P, o2v0 P, o3v0 P, o4v0 P, o5v0 P, o6v0 P, o7v0 P, o8v0 P, o9v0 P, o10v0 P, o11v0 P, o12v0 P, o13v0 P, o14v0 P, o15v0 P, o16v0 P, o17v0 P, o18v0 P, o19v0 P, o20v0 P, o21v0 P, o22v0 P, o23v0 P, o24v0 P, o25v0 P, o26v0 P, o27v0 P], {}⟩
-- cut 0: step 0 toks 276 gens 0 code claim.caller depth 0 pos { line := 0, col := 0, endLine := 0, endCol := 0 }
noncomputable def o28v0 (P : Params) : Obj := ⟨(.type "tuple"), none, (.seq #[] 0), #[]⟩
noncomputable def o29v0 (P : Params) : Obj := ⟨.none, none, (.fields #[]), #[]⟩
noncomputable def o30v0 (P : Params) : Obj := ⟨(.type "code"), none, (.fields #[(.str "<module>" 277), (.str "<module>" 278), (.str "/claim/cut.py" 279), (.int 1 0), (.int 0 0), (.int 0 0), (.int 0 0), (.int 0 0), (.ref 28), (.bool false), (.int 276 0), (.ref 29), .none, .none, .none, .none, (.int 280 0), (.int 1 0), (.str "/claim/cut.py" 281)]), #[]⟩
noncomputable def o31v0 (P : Params) : Obj := ⟨(.type "frame"), none, .plain, #[(some (.ref 30)), (some (.ref 3)), (some (.ref 3)), none, (some (.str "__main__" 164)), none, (some (.ref 0))]⟩
noncomputable def hpre (P : Params) : Heap := ⟨#[o0v0 P, o1v0 P, o2v0 P, o3v0 P, o4v0 P, o5v0 P, o6v0 P, o7v0 P, o8v0 P, o9v0 P, o10v0 P, o11v0 P, o12v0 P, o13v0 P, o14v0 P, o15v0 P, o16v0 P, o17v0 P, o18v0 P, o19v0 P, o20v0 P, o21v0 P, o22v0 P, o23v0 P, o24v0 P, o25v0 P, o26v0 P, o27v0 P, o28v0 P, o29v0 P, o30v0 P, o31v0 P], {}⟩
-- cut pre: step 12 toks 282 gens 0 code body depth 1 pos { line := 0, col := 0, endLine := 0, endCol := 0 }
noncomputable def o3v1 (P : Params) : Obj := ⟨(.type "dict"), none, (.dict #[E P "__name__" 165 (.str "cpy313.tomllib._parser" 282), E P "__doc__" 166 .none, E P "__package__" 167 .none, E P "__loader__" 168 (.builtin "__main__.__loader__#opaque"), E P "__spec__" 169 .none, E P "__annotations__" 170 (.ref 6), E P "__builtins__" 171 (.ref 4), E P "__file__" 173 (.str "/claim/cut.py" 172), E P "__cached__" 174 .none, E P "_sre" 275 (.ref 12)] 10), #[]⟩
noncomputable def hp1 (P : Params) : Heap := ⟨#[o0v0 P, o1v0 P, o2v0 P, o3v1 P, o4v0 P, o5v0 P, o6v0 P, o7v0 P, o8v0 P, o9v0 P, o10v0 P, o11v0 P, o12v0 P, o13v0 P, o14v0 P, o15v0 P, o16v0 P, o17v0 P, o18v0 P, o19v0 P, o20v0 P, o21v0 P, o22v0 P, o23v0 P, o24v0 P, o25v0 P, o26v0 P, o27v0 P, o28v0 P, o29v0 P, o30v0 P, o31v0 P], {}⟩
-- cut p1: step 21 toks 284 gens 0 code body depth 1 pos { line := 2, col := 0, endLine := 2, endCol := 8 }
noncomputable def o29v1 (P : Params) : Obj := ⟨.none, none, (.fields #[(.int 3 0), (.int 23 0), (.ref 36)]), #[]⟩
noncomputable def o32v0 (P : Params) : Obj := ⟨(.type "range"), none, (.fields #[(.int 0 285), (.int 32 284), (.int 1 286)]), #[]⟩
noncomputable def o33v0 (P : Params) : Obj := ⟨(.type "range_iterator"), none, (.fields #[(.int 0 0), (.int 32 0), (.int 1 0)]), #[]⟩
noncomputable def o34v0 (P : Params) : Obj := ⟨(.type "tuple"), none, (.seq #[] 0), #[]⟩
noncomputable def o35v0 (P : Params) : Obj := ⟨.none, none, (.fields #[]), #[]⟩
noncomputable def o36v0 (P : Params) : Obj := ⟨(.type "code"), none, (.fields #[(.str "<genexpr>" 287), (.str "<genexpr>" 288), (.str "/claim/cut.py" 289), (.int 3 0), (.int 1 0), (.int 0 0), (.int 0 0), (.int 35 0), (.ref 34), (.bool true), (.int 276 0), (.ref 35), .none, .none, .none, .none, (.int 290 0), (.int 3 0), (.str "/claim/cut.py" 291)]), #[]⟩
noncomputable def o37v0 (P : Params) : Obj := ⟨(.type "frame"), none, (.dict #[E P ".0" 292 (.ref 33)] 1), #[]⟩
noncomputable def o38v0 (P : Params) : Obj := ⟨(.type "generator"), none, (.fields #[(.int 0 0), (.str "<genexpr>" 293), (.str "<genexpr>" 294)]), #[]⟩
noncomputable def hL1 (P : Params) (D39 : Data) : Heap := ⟨#[o0v0 P, o1v0 P, o2v0 P, o3v1 P, o4v0 P, o5v0 P, o6v0 P, o7v0 P, o8v0 P, o9v0 P, o10v0 P, o11v0 P, o12v0 P, o13v0 P, o14v0 P, o15v0 P, o16v0 P, o17v0 P, o18v0 P, o19v0 P, o20v0 P, o21v0 P, o22v0 P, o23v0 P, o24v0 P, o25v0 P, o26v0 P, o27v0 P, o28v0 P, o29v1 P, o30v0 P, o31v0 P, o32v0 P, o33v0 P, o34v0 P, o35v0 P, o36v0 P, o37v0 P, o38v0 P, (fz D39)], {}⟩
-- cut L1: step 107 toks 295 gens 1 code set.update.loop depth 4 pos { line := 3, col := 13, endLine := 3, endCol := 51 }
noncomputable def o33v1 (P : Params) : Obj := ⟨(.type "range_iterator"), none, (.fields #[(.int 1 0), (.int 31 0), (.int 1 0)]), #[]⟩
noncomputable def o37v1 (P : Params) : Obj := ⟨(.type "frame"), none, (.dict #[E P ".0" 292 (.ref 33), E P "i" 296 (.int 0 295)] 2), #[]⟩
noncomputable def hA (P : Params) (D39 : Data) : Heap := ⟨#[o0v0 P, o1v0 P, o2v0 P, o3v1 P, o4v0 P, o5v0 P, o6v0 P, o7v0 P, o8v0 P, o9v0 P, o10v0 P, o11v0 P, o12v0 P, o13v0 P, o14v0 P, o15v0 P, o16v0 P, o17v0 P, o18v0 P, o19v0 P, o20v0 P, o21v0 P, o22v0 P, o23v0 P, o24v0 P, o25v0 P, o26v0 P, o27v0 P, o28v0 P, o29v1 P, o30v0 P, o31v0 P, o32v0 P, o33v1 P, o34v0 P, o35v0 P, o36v0 P, o37v1 P, o38v0 P, (fz D39)], {}⟩
-- cut A: step 160 toks 299 gens 1 code set.update.loop depth 4 pos { line := 3, col := 13, endLine := 3, endCol := 51 }
noncomputable def o33v2 (P : Params) : Obj := ⟨(.type "range_iterator"), none, (.fields #[(.int 32 0), (.int 0 0), (.int 1 0)]), #[]⟩
noncomputable def o37v2 (P : Params) : Obj := ⟨(.type "frame"), none, (.dict #[E P ".0" 292 (.ref 33), E P "i" 296 (.int 31 419)] 2), #[]⟩
noncomputable def o40v0 (P : Params) : Obj := ⟨(.type "tuple"), none, (.seq #[] 0), #[]⟩
noncomputable def o41v0 (P : Params) : Obj := ⟨(.type "StopIteration"), none, (.fields #[(.ref 40), .none, .none, .none, (.bool false), .none]), #[]⟩
noncomputable def o42v0 (P : Params) : Obj := ⟨(.type "tuple"), none, (.seq #[] 0), #[]⟩
noncomputable def o43v0 (P : Params) : Obj := ⟨(.type "StopIteration"), none, (.fields #[(.ref 42), .none, .none, .none, (.bool false), .none]), #[]⟩
noncomputable def hX1 (P : Params) (D39 : Data) : Heap := ⟨#[o0v0 P, o1v0 P, o2v0 P, o3v1 P, o4v0 P, o5v0 P, o6v0 P, o7v0 P, o8v0 P, o9v0 P, o10v0 P, o11v0 P, o12v0 P, o13v0 P, o14v0 P, o15v0 P, o16v0 P, o17v0 P, o18v0 P, o19v0 P, o20v0 P, o21v0 P, o22v0 P, o23v0 P, o24v0 P, o25v0 P, o26v0 P, o27v0 P, o28v0 P, o29v1 P, o30v0 P, o31v0 P, o32v0 P, o33v2 P, o34v0 P, o35v0 P, o36v0 P, o37v2 P, o38v0 P, (fz D39), o40v0 P, o41v0 P, o42v0 P, o43v0 P], {}⟩
-- cut X1: step 1966 toks 423 gens 1 code set.update.loop depth 4 pos { line := 3, col := 13, endLine := 3, endCol := 51 }
noncomputable def o45v0 (P : Params) : Obj := ⟨(.type "str_ascii_iterator"), none, (.fields #[(.str "\x7f" 424), (.int 0 0)]), #[]⟩
noncomputable def hL2 (P : Params) (D39 D44 : Data) : Heap := ⟨#[o0v0 P, o1v0 P, o2v0 P, o3v1 P, o4v0 P, o5v0 P, o6v0 P, o7v0 P, o8v0 P, o9v0 P, o10v0 P, o11v0 P, o12v0 P, o13v0 P, o14v0 P, o15v0 P, o16v0 P, o17v0 P, o18v0 P, o19v0 P, o20v0 P, o21v0 P, o22v0 P, o23v0 P, o24v0 P, o25v0 P, o26v0 P, o27v0 P, o28v0 P, o29v1 P, o30v0 P, o31v0 P, o32v0 P, o33v2 P, o34v0 P, o35v0 P, o36v0 P, o37v2 P, o38v0 P, (fz D39), o40v0 P, o41v0 P, o42v0 P, o43v0 P, (fz D44), o45v0 P], {}⟩
-- cut L2: step 2004 toks 425 gens 1 code set.update.loop depth 4 pos { line := 3, col := 54, endLine := 3, endCol := 73 }
noncomputable def o45v1 (P : Params) : Obj := ⟨(.type "str_ascii_iterator"), none, (.fields #[(.str "\x7f" 424), (.int 1 0)]), #[]⟩
noncomputable def hN2 (P : Params) (D39 D44 : Data) : Heap := ⟨#[o0v0 P, o1v0 P, o2v0 P, o3v1 P, o4v0 P, o5v0 P, o6v0 P, o7v0 P, o8v0 P, o9v0 P, o10v0 P, o11v0 P, o12v0 P, o13v0 P, o14v0 P, o15v0 P, o16v0 P, o17v0 P, o18v0 P, o19v0 P, o20v0 P, o21v0 P, o22v0 P, o23v0 P, o24v0 P, o25v0 P, o26v0 P, o27v0 P, o28v0 P, o29v1 P, o30v0 P, o31v0 P, o32v0 P, o33v2 P, o34v0 P, o35v0 P, o36v0 P, o37v2 P, o38v0 P, (fz D39), o40v0 P, o41v0 P, o42v0 P, o43v0 P, (fz D44), o45v1 P], {}⟩
-- cut N2: step 2021 toks 427 gens 1 code set.update.loop depth 4 pos { line := 3, col := 54, endLine := 3, endCol := 73 }
noncomputable def o45v2 (P : Params) : Obj := ⟨(.type "str_ascii_iterator"), none, (.fields #[.none, (.int 1 0)]), #[]⟩
noncomputable def o46v0 (P : Params) : Obj := ⟨(.type "tuple"), none, (.seq #[] 0), #[]⟩
noncomputable def o47v0 (P : Params) : Obj := ⟨(.type "StopIteration"), none, (.fields #[(.ref 46), .none, .none, .none, (.bool false), .none]), #[]⟩
noncomputable def hX2 (P : Params) (D39 D44 : Data) : Heap := ⟨#[o0v0 P, o1v0 P, o2v0 P, o3v1 P, o4v0 P, o5v0 P, o6v0 P, o7v0 P, o8v0 P, o9v0 P, o10v0 P, o11v0 P, o12v0 P, o13v0 P, o14v0 P, o15v0 P, o16v0 P, o17v0 P, o18v0 P, o19v0 P, o20v0 P, o21v0 P, o22v0 P, o23v0 P, o24v0 P, o25v0 P, o26v0 P, o27v0 P, o28v0 P, o29v1 P, o30v0 P, o31v0 P, o32v0 P, o33v2 P, o34v0 P, o35v0 P, o36v0 P, o37v2 P, o38v0 P, (fz D39), o40v0 P, o41v0 P, o42v0 P, o43v0 P, (fz D44), o45v2 P, o46v0 P, o47v0 P], {}⟩
-- cut X2: step 2041 toks 427 gens 1 code set.update.loop depth 4 pos { line := 3, col := 54, endLine := 3, endCol := 73 }
noncomputable def hU1 (P : Params) (D39 D44 D48 : Data) : Heap := ⟨#[o0v0 P, o1v0 P, o2v0 P, o3v1 P, o4v0 P, o5v0 P, o6v0 P, o7v0 P, o8v0 P, o9v0 P, o10v0 P, o11v0 P, o12v0 P, o13v0 P, o14v0 P, o15v0 P, o16v0 P, o17v0 P, o18v0 P, o19v0 P, o20v0 P, o21v0 P, o22v0 P, o23v0 P, o24v0 P, o25v0 P, o26v0 P, o27v0 P, o28v0 P, o29v1 P, o30v0 P, o31v0 P, o32v0 P, o33v2 P, o34v0 P, o35v0 P, o36v0 P, o37v2 P, o38v0 P, (fz D39), o40v0 P, o41v0 P, o42v0 P, o43v0 P, (fz D44), o45v2 P, o46v0 P, o47v0 P, (fz D48)], {}⟩
-- cut U1: step 2091 toks 427 gens 1 code frozenset.__or__ depth 2 pos { line := 3, col := 13, endLine := 3, endCol := 73 }
noncomputable def o3v2 (P : Params) : Obj := ⟨(.type "dict"), none, (.dict #[E P "__name__" 165 (.str "cpy313.tomllib._parser" 282), E P "__doc__" 166 .none, E P "__package__" 167 .none, E P "__loader__" 168 (.builtin "__main__.__loader__#opaque"), E P "__spec__" 169 .none, E P "__annotations__" 170 (.ref 6), E P "__builtins__" 171 (.ref 4), E P "__file__" 173 (.str "/claim/cut.py" 172), E P "__cached__" 174 .none, E P "_sre" 275 (.ref 12), E P "ASCII_CTRL" 427 (.ref 48)] 11), #[]⟩
noncomputable def hP1 (P : Params) (D39 D44 D48 : Data) : Heap := ⟨#[o0v0 P, o1v0 P, o2v0 P, o3v2 P, o4v0 P, o5v0 P, o6v0 P, o7v0 P, o8v0 P, o9v0 P, o10v0 P, o11v0 P, o12v0 P, o13v0 P, o14v0 P, o15v0 P, o16v0 P, o17v0 P, o18v0 P, o19v0 P, o20v0 P, o21v0 P, o22v0 P, o23v0 P, o24v0 P, o25v0 P, o26v0 P, o27v0 P, o28v0 P, o29v1 P, o30v0 P, o31v0 P, o32v0 P, o33v2 P, o34v0 P, o35v0 P, o36v0 P, o37v2 P, o38v0 P, (fz D39), o40v0 P, o41v0 P, o42v0 P, o43v0 P, (fz D44), o45v2 P, o46v0 P, o47v0 P, (fz D48)], {}⟩
-- cut P1: step 2100 toks 428 gens 1 code body depth 1 pos { line := 3, col := 0, endLine := 3, endCol := 10 }
noncomputable def o50v0 (P : Params) : Obj := ⟨(.type "str_ascii_iterator"), none, (.fields #[(.str "\t" 428), (.int 0 0)]), #[]⟩
noncomputable def hL3 (P : Params) (D39 D44 D48 D49 : Data) : Heap := ⟨#[o0v0 P, o1v0 P, o2v0 P, o3v2 P, o4v0 P, o5v0 P, o6v0 P, o7v0 P, o8v0 P, o9v0 P, o10v0 P, o11v0 P, o12v0 P, o13v0 P, o14v0 P, o15v0 P, o16v0 P, o17v0 P, o18v0 P, o19v0 P, o20v0 P, o21v0 P, o22v0 P, o23v0 P, o24v0 P, o25v0 P, o26v0 P, o27v0 P, o28v0 P, o29v1 P, o30v0 P, o31v0 P, o32v0 P, o33v2 P, o34v0 P, o35v0 P, o36v0 P, o37v2 P, o38v0 P, (fz D39), o40v0 P, o41v0 P, o42v0 P, o43v0 P, (fz D44), o45v2 P, o46v0 P, o47v0 P, (fz D48), (fz D49), o50v0 P], {}⟩
-- cut L3: step 2121 toks 429 gens 1 code set.update.loop depth 4 pos { line := 4, col := 39, endLine := 4, endCol := 54 }
noncomputable def o50v1 (P : Params) : Obj := ⟨(.type "str_ascii_iterator"), none, (.fields #[(.str "\t" 428), (.int 1 0)]), #[]⟩
noncomputable def hN3 (P : Params) (D39 D44 D48 D49 : Data) : Heap := ⟨#[o0v0 P, o1v0 P, o2v0 P, o3v2 P, o4v0 P, o5v0 P, o6v0 P, o7v0 P, o8v0 P, o9v0 P, o10v0 P, o11v0 P, o12v0 P, o13v0 P, o14v0 P, o15v0 P, o16v0 P, o17v0 P, o18v0 P, o19v0 P, o20v0 P, o21v0 P, o22v0 P, o23v0 P, o24v0 P, o25v0 P, o26v0 P, o27v0 P, o28v0 P, o29v1 P, o30v0 P, o31v0 P, o32v0 P, o33v2 P, o34v0 P, o35v0 P, o36v0 P, o37v2 P, o38v0 P, (fz D39), o40v0 P, o41v0 P, o42v0 P, o43v0 P, (fz D44), o45v2 P, o46v0 P, o47v0 P, (fz D48), (fz D49), o50v1 P], {}⟩
-- cut N3: step 2138 toks 431 gens 1 code set.update.loop depth 4 pos { line := 4, col := 39, endLine := 4, endCol := 54 }
noncomputable def o50v2 (P : Params) : Obj := ⟨(.type "str_ascii_iterator"), none, (.fields #[.none, (.int 1 0)]), #[]⟩
noncomputable def o51v0 (P : Params) : Obj := ⟨(.type "tuple"), none, (.seq #[] 0), #[]⟩
noncomputable def o52v0 (P : Params) : Obj := ⟨(.type "StopIteration"), none, (.fields #[(.ref 51), .none, .none, .none, (.bool false), .none]), #[]⟩
noncomputable def hX3 (P : Params) (D39 D44 D48 D49 : Data) : Heap := ⟨#[o0v0 P, o1v0 P, o2v0 P, o3v2 P, o4v0 P, o5v0 P, o6v0 P, o7v0 P, o8v0 P, o9v0 P, o10v0 P, o11v0 P, o12v0 P, o13v0 P, o14v0 P, o15v0 P, o16v0 P, o17v0 P, o18v0 P, o19v0 P, o20v0 P, o21v0 P, o22v0 P, o23v0 P, o24v0 P, o25v0 P, o26v0 P, o27v0 P, o28v0 P, o29v1 P, o30v0 P, o31v0 P, o32v0 P, o33v2 P, o34v0 P, o35v0 P, o36v0 P, o37v2 P, o38v0 P, (fz D39), o40v0 P, o41v0 P, o42v0 P, o43v0 P, (fz D44), o45v2 P, o46v0 P, o47v0 P, (fz D48), (fz D49), o50v2 P, o51v0 P, o52v0 P], {}⟩
-- cut X3: step 2158 toks 431 gens 1 code set.update.loop depth 4 pos { line := 4, col := 39, endLine := 4, endCol := 54 }
noncomputable def hU2 (P : Params) (D39 D44 D48 D49 D53 : Data) : Heap := ⟨#[o0v0 P, o1v0 P, o2v0 P, o3v2 P, o4v0 P, o5v0 P, o6v0 P, o7v0 P, o8v0 P, o9v0 P, o10v0 P, o11v0 P, o12v0 P, o13v0 P, o14v0 P, o15v0 P, o16v0 P, o17v0 P, o18v0 P, o19v0 P, o20v0 P, o21v0 P, o22v0 P, o23v0 P, o24v0 P, o25v0 P, o26v0 P, o27v0 P, o28v0 P, o29v1 P, o30v0 P, o31v0 P, o32v0 P, o33v2 P, o34v0 P, o35v0 P, o36v0 P, o37v2 P, o38v0 P, (fz D39), o40v0 P, o41v0 P, o42v0 P, o43v0 P, (fz D44), o45v2 P, o46v0 P, o47v0 P, (fz D48), (fz D49), o50v2 P, o51v0 P, o52v0 P, (fz D53)], {}⟩
-- cut U2: step 2220 toks 431 gens 1 code frozenset.__sub__ depth 2 pos { line := 4, col := 26, endLine := 4, endCol := 54 }
noncomputable def o3v3 (P : Params) : Obj := ⟨(.type "dict"), none, (.dict #[E P "__name__" 165 (.str "cpy313.tomllib._parser" 282), E P "__doc__" 166 .none, E P "__package__" 167 .none, E P "__loader__" 168 (.builtin "__main__.__loader__#opaque"), E P "__spec__" 169 .none, E P "__annotations__" 170 (.ref 6), E P "__builtins__" 171 (.ref 4), E P "__file__" 173 (.str "/claim/cut.py" 172), E P "__cached__" 174 .none, E P "_sre" 275 (.ref 12), E P "ASCII_CTRL" 427 (.ref 48), E P "ILLEGAL_BASIC_STR_CHARS" 431 (.ref 53)] 12), #[]⟩
noncomputable def hP2 (P : Params) (D39 D44 D48 D49 D53 : Data) : Heap := ⟨#[o0v0 P, o1v0 P, o2v0 P, o3v3 P, o4v0 P, o5v0 P, o6v0 P, o7v0 P, o8v0 P, o9v0 P, o10v0 P, o11v0 P, o12v0 P, o13v0 P, o14v0 P, o15v0 P, o16v0 P, o17v0 P, o18v0 P, o19v0 P, o20v0 P, o21v0 P, o22v0 P, o23v0 P, o24v0 P, o25v0 P, o26v0 P, o27v0 P, o28v0 P, o29v1 P, o30v0 P, o31v0 P, o32v0 P, o33v2 P, o34v0 P, o35v0 P, o36v0 P, o37v2 P, o38v0 P, (fz D39), o40v0 P, o41v0 P, o42v0 P, o43v0 P, (fz D44), o45v2 P, o46v0 P, o47v0 P, (fz D48), (fz D49), o50v2 P, o51v0 P, o52v0 P, (fz D53)], {}⟩
-- cut P2: step 2229 toks 432 gens 1 code body depth 1 pos { line := 4, col := 0, endLine := 4, endCol := 23 }
noncomputable def o3v4 (P : Params) : Obj := ⟨(.type "dict"), none, (.dict #[E P "__name__" 165 (.str "cpy313.tomllib._parser" 282), E P "__doc__" 166 .none, E P "__package__" 167 .none, E P "__loader__" 168 (.builtin "__main__.__loader__#opaque"), E P "__spec__" 169 .none, E P "__annotations__" 170 (.ref 6), E P "__builtins__" 171 (.ref 4), E P "__file__" 173 (.str "/claim/cut.py" 172), E P "__cached__" 174 .none, E P "_sre" 275 (.ref 12), E P "ASCII_CTRL" 427 (.ref 48), E P "ILLEGAL_BASIC_STR_CHARS" 431 (.ref 53), E P "ILLEGAL_LITERAL_STR_CHARS" 432 (.ref 53)] 13), #[]⟩
noncomputable def hP3 (P : Params) (D39 D44 D48 D49 D53 : Data) : Heap := ⟨#[o0v0 P, o1v0 P, o2v0 P, o3v4 P, o4v0 P, o5v0 P, o6v0 P, o7v0 P, o8v0 P, o9v0 P, o10v0 P, o11v0 P, o12v0 P, o13v0 P, o14v0 P, o15v0 P, o16v0 P, o17v0 P, o18v0 P, o19v0 P, o20v0 P, o21v0 P, o22v0 P, o23v0 P, o24v0 P, o25v0 P, o26v0 P, o27v0 P, o28v0 P, o29v1 P, o30v0 P, o31v0 P, o32v0 P, o33v2 P, o34v0 P, o35v0 P, o36v0 P, o37v2 P, o38v0 P, (fz D39), o40v0 P, o41v0 P, o42v0 P, o43v0 P, (fz D44), o45v2 P, o46v0 P, o47v0 P, (fz D48), (fz D49), o50v2 P, o51v0 P, o52v0 P, (fz D53)], {}⟩
-- cut P3: step 2239 toks 433 gens 1 code body depth 1 pos { line := 5, col := 0, endLine := 5, endCol := 25 }
noncomputable def o3v5 (P : Params) : Obj := ⟨(.type "dict"), none, (.dict #[E P "__name__" 165 (.str "cpy313.tomllib._parser" 282), E P "__doc__" 166 .none, E P "__package__" 167 .none, E P "__loader__" 168 (.builtin "__main__.__loader__#opaque"), E P "__spec__" 169 .none, E P "__annotations__" 170 (.ref 6), E P "__builtins__" 171 (.ref 4), E P "__file__" 173 (.str "/claim/cut.py" 172), E P "__cached__" 174 .none, E P "_sre" 275 (.ref 12), E P "ASCII_CTRL" 427 (.ref 48), E P "ILLEGAL_BASIC_STR_CHARS" 431 (.ref 53), E P "ILLEGAL_LITERAL_STR_CHARS" 432 (.ref 53), E P "ILLEGAL_COMMENT_CHARS" 433 (.ref 53)] 14), #[]⟩
noncomputable def hP4 (P : Params) (D39 D44 D48 D49 D53 : Data) : Heap := ⟨#[o0v0 P, o1v0 P, o2v0 P, o3v5 P, o4v0 P, o5v0 P, o6v0 P, o7v0 P, o8v0 P, o9v0 P, o10v0 P, o11v0 P, o12v0 P, o13v0 P, o14v0 P, o15v0 P, o16v0 P, o17v0 P, o18v0 P, o19v0 P, o20v0 P, o21v0 P, o22v0 P, o23v0 P, o24v0 P, o25v0 P, o26v0 P, o27v0 P, o28v0 P, o29v1 P, o30v0 P, o31v0 P, o32v0 P, o33v2 P, o34v0 P, o35v0 P, o36v0 P, o37v2 P, o38v0 P, (fz D39), o40v0 P, o41v0 P, o42v0 P, o43v0 P, (fz D44), o45v2 P, o46v0 P, o47v0 P, (fz D48), (fz D49), o50v2 P, o51v0 P, o52v0 P, (fz D53)], {}⟩
-- cut P4: step 2249 toks 434 gens 1 code body depth 1 pos { line := 6, col := 0, endLine := 6, endCol := 21 }
noncomputable def o55v0 (P : Params) : Obj := ⟨(.type "str_ascii_iterator"), none, (.fields #[(.str " \t" 434), (.int 0 0)]), #[]⟩
noncomputable def hL4 (P : Params) (D39 D44 D48 D49 D53 D54 : Data) : Heap := ⟨#[o0v0 P, o1v0 P, o2v0 P, o3v5 P, o4v0 P, o5v0 P, o6v0 P, o7v0 P, o8v0 P, o9v0 P, o10v0 P, o11v0 P, o12v0 P, o13v0 P, o14v0 P, o15v0 P, o16v0 P, o17v0 P, o18v0 P, o19v0 P, o20v0 P, o21v0 P, o22v0 P, o23v0 P, o24v0 P, o25v0 P, o26v0 P, o27v0 P, o28v0 P, o29v1 P, o30v0 P, o31v0 P, o32v0 P, o33v2 P, o34v0 P, o35v0 P, o36v0 P, o37v2 P, o38v0 P, (fz D39), o40v0 P, o41v0 P, o42v0 P, o43v0 P, (fz D44), o45v2 P, o46v0 P, o47v0 P, (fz D48), (fz D49), o50v2 P, o51v0 P, o52v0 P, (fz D53), (fz D54), o55v0 P], {}⟩
-- cut L4: step 2268 toks 435 gens 1 code set.update.loop depth 4 pos { line := 7, col := 10, endLine := 7, endCol := 26 }
noncomputable def o55v1 (P : Params) : Obj := ⟨(.type "str_ascii_iterator"), none, (.fields #[(.str " \t" 434), (.int 1 0)]), #[]⟩
noncomputable def hN4a (P : Params) (D39 D44 D48 D49 D53 D54 : Data) : Heap := ⟨#[o0v0 P, o1v0 P, o2v0 P, o3v5 P, o4v0 P, o5v0 P, o6v0 P, o7v0 P, o8v0 P, o9v0 P, o10v0 P, o11v0 P, o12v0 P, o13v0 P, o14v0 P, o15v0 P, o16v0 P, o17v0 P, o18v0 P, o19v0 P, o20v0 P, o21v0 P, o22v0 P, o23v0 P, o24v0 P, o25v0 P, o26v0 P, o27v0 P, o28v0 P, o29v1 P, o30v0 P, o31v0 P, o32v0 P, o33v2 P, o34v0 P, o35v0 P, o36v0 P, o37v2 P, o38v0 P, (fz D39), o40v0 P, o41v0 P, o42v0 P, o43v0 P, (fz D44), o45v2 P, o46v0 P, o47v0 P, (fz D48), (fz D49), o50v2 P, o51v0 P, o52v0 P, (fz D53), (fz D54), o55v1 P], {}⟩
-- cut N4a: step 2285 toks 437 gens 1 code set.update.loop depth 4 pos { line := 7, col := 10, endLine := 7, endCol := 26 }
noncomputable def o55v2 (P : Params) : Obj := ⟨(.type "str_ascii_iterator"), none, (.fields #[(.str " \t" 434), (.int 2 0)]), #[]⟩
noncomputable def hN4b (P : Params) (D39 D44 D48 D49 D53 D54 : Data) : Heap := ⟨#[o0v0 P, o1v0 P, o2v0 P, o3v5 P, o4v0 P, o5v0 P, o6v0 P, o7v0 P, o8v0 P, o9v0 P, o10v0 P, o11v0 P, o12v0 P, o13v0 P, o14v0 P, o15v0 P, o16v0 P, o17v0 P, o18v0 P, o19v0 P, o20v0 P, o21v0 P, o22v0 P, o23v0 P, o24v0 P, o25v0 P, o26v0 P, o27v0 P, o28v0 P, o29v1 P, o30v0 P, o31v0 P, o32v0 P, o33v2 P, o34v0 P, o35v0 P, o36v0 P, o37v2 P, o38v0 P, (fz D39), o40v0 P, o41v0 P, o42v0 P, o43v0 P, (fz D44), o45v2 P, o46v0 P, o47v0 P, (fz D48), (fz D49), o50v2 P, o51v0 P, o52v0 P, (fz D53), (fz D54), o55v2 P], {}⟩
-- cut N4b: step 2307 toks 439 gens 1 code set.update.loop depth 4 pos { line := 7, col := 10, endLine := 7, endCol := 26 }
noncomputable def o55v3 (P : Params) : Obj := ⟨(.type "str_ascii_iterator"), none, (.fields #[.none, (.int 2 0)]), #[]⟩
noncomputable def o56v0 (P : Params) : Obj := ⟨(.type "tuple"), none, (.seq #[] 0), #[]⟩
noncomputable def o57v0 (P : Params) : Obj := ⟨(.type "StopIteration"), none, (.fields #[(.ref 56), .none, .none, .none, (.bool false), .none]), #[]⟩
noncomputable def hX4 (P : Params) (D39 D44 D48 D49 D53 D54 : Data) : Heap := ⟨#[o0v0 P, o1v0 P, o2v0 P, o3v5 P, o4v0 P, o5v0 P, o6v0 P, o7v0 P, o8v0 P, o9v0 P, o10v0 P, o11v0 P, o12v0 P, o13v0 P, o14v0 P, o15v0 P, o16v0 P, o17v0 P, o18v0 P, o19v0 P, o20v0 P, o21v0 P, o22v0 P, o23v0 P, o24v0 P, o25v0 P, o26v0 P, o27v0 P, o28v0 P, o29v1 P, o30v0 P, o31v0 P, o32v0 P, o33v2 P, o34v0 P, o35v0 P, o36v0 P, o37v2 P, o38v0 P, (fz D39), o40v0 P, o41v0 P, o42v0 P, o43v0 P, (fz D44), o45v2 P, o46v0 P, o47v0 P, (fz D48), (fz D49), o50v2 P, o51v0 P, o52v0 P, (fz D53), (fz D54), o55v3 P, o56v0 P, o57v0 P], {}⟩
-- cut X4: step 2327 toks 439 gens 1 code set.update.loop depth 4 pos { line := 7, col := 10, endLine := 7, endCol := 26 }
noncomputable def o3v6 (P : Params) : Obj := ⟨(.type "dict"), none, (.dict #[E P "__name__" 165 (.str "cpy313.tomllib._parser" 282), E P "__doc__" 166 .none, E P "__package__" 167 .none, E P "__loader__" 168 (.builtin "__main__.__loader__#opaque"), E P "__spec__" 169 .none, E P "__annotations__" 170 (.ref 6), E P "__builtins__" 171 (.ref 4), E P "__file__" 173 (.str "/claim/cut.py" 172), E P "__cached__" 174 .none, E P "_sre" 275 (.ref 12), E P "ASCII_CTRL" 427 (.ref 48), E P "ILLEGAL_BASIC_STR_CHARS" 431 (.ref 53), E P "ILLEGAL_LITERAL_STR_CHARS" 432 (.ref 53), E P "ILLEGAL_COMMENT_CHARS" 433 (.ref 53), E P "TOML_WS" 439 (.ref 54)] 15), #[]⟩
noncomputable def hP5 (P : Params) (D39 D44 D48 D49 D53 D54 : Data) : Heap := ⟨#[o0v0 P, o1v0 P, o2v0 P, o3v6 P, o4v0 P, o5v0 P, o6v0 P, o7v0 P, o8v0 P, o9v0 P, o10v0 P, o11v0 P, o12v0 P, o13v0 P, o14v0 P, o15v0 P, o16v0 P, o17v0 P, o18v0 P, o19v0 P, o20v0 P, o21v0 P, o22v0 P, o23v0 P, o24v0 P, o25v0 P, o26v0 P, o27v0 P, o28v0 P, o29v1 P, o30v0 P, o31v0 P, o32v0 P, o33v2 P, o34v0 P, o35v0 P, o36v0 P, o37v2 P, o38v0 P, (fz D39), o40v0 P, o41v0 P, o42v0 P, o43v0 P, (fz D44), o45v2 P, o46v0 P, o47v0 P, (fz D48), (fz D49), o50v2 P, o51v0 P, o52v0 P, (fz D53), (fz D54), o55v3 P, o56v0 P, o57v0 P], {}⟩
-- cut P5: step 2345 toks 440 gens 1 code body depth 1 pos { line := 7, col := 0, endLine := 7, endCol := 7 }
noncomputable def o59v0 (P : Params) : Obj := ⟨(.type "str_ascii_iterator"), none, (.fields #[(.str "\n" 440), (.int 0 0)]), #[]⟩
noncomputable def hL5 (P : Params) (D39 D44 D48 D49 D53 D54 D58 : Data) : Heap := ⟨#[o0v0 P, o1v0 P, o2v0 P, o3v6 P, o4v0 P, o5v0 P, o6v0 P, o7v0 P, o8v0 P, o9v0 P, o10v0 P, o11v0 P, o12v0 P, o13v0 P, o14v0 P, o15v0 P, o16v0 P, o17v0 P, o18v0 P, o19v0 P, o20v0 P, o21v0 P, o22v0 P, o23v0 P, o24v0 P, o25v0 P, o26v0 P, o27v0 P, o28v0 P, o29v1 P, o30v0 P, o31v0 P, o32v0 P, o33v2 P, o34v0 P, o35v0 P, o36v0 P, o37v2 P, o38v0 P, (fz D39), o40v0 P, o41v0 P, o42v0 P, o43v0 P, (fz D44), o45v2 P, o46v0 P, o47v0 P, (fz D48), (fz D49), o50v2 P, o51v0 P, o52v0 P, (fz D53), (fz D54), o55v3 P, o56v0 P, o57v0 P, (fz D58), o59v0 P], {}⟩
-- cut L5: step 2366 toks 441 gens 1 code set.update.loop depth 4 pos { line := 8, col := 32, endLine := 8, endCol := 47 }
noncomputable def o59v1 (P : Params) : Obj := ⟨(.type "str_ascii_iterator"), none, (.fields #[(.str "\n" 440), (.int 1 0)]), #[]⟩
noncomputable def hN5 (P : Params) (D39 D44 D48 D49 D53 D54 D58 : Data) : Heap := ⟨#[o0v0 P, o1v0 P, o2v0 P, o3v6 P, o4v0 P, o5v0 P, o6v0 P, o7v0 P, o8v0 P, o9v0 P, o10v0 P, o11v0 P, o12v0 P, o13v0 P, o14v0 P, o15v0 P, o16v0 P, o17v0 P, o18v0 P, o19v0 P, o20v0 P, o21v0 P, o22v0 P, o23v0 P, o24v0 P, o25v0 P, o26v0 P, o27v0 P, o28v0 P, o29v1 P, o30v0 P, o31v0 P, o32v0 P, o33v2 P, o34v0 P, o35v0 P, o36v0 P, o37v2 P, o38v0 P, (fz D39), o40v0 P, o41v0 P, o42v0 P, o43v0 P, (fz D44), o45v2 P, o46v0 P, o47v0 P, (fz D48), (fz D49), o50v2 P, o51v0 P, o52v0 P, (fz D53), (fz D54), o55v3 P, o56v0 P, o57v0 P, (fz D58), o59v1 P], {}⟩
-- cut N5: step 2383 toks 443 gens 1 code set.update.loop depth 4 pos { line := 8, col := 32, endLine := 8, endCol := 47 }
noncomputable def o59v2 (P : Params) : Obj := ⟨(.type "str_ascii_iterator"), none, (.fields #[.none, (.int 1 0)]), #[]⟩
noncomputable def o60v0 (P : Params) : Obj := ⟨(.type "tuple"), none, (.seq #[] 0), #[]⟩
noncomputable def o61v0 (P : Params) : Obj := ⟨(.type "StopIteration"), none, (.fields #[(.ref 60), .none, .none, .none, (.bool false), .none]), #[]⟩
noncomputable def hX5 (P : Params) (D39 D44 D48 D49 D53 D54 D58 : Data) : Heap := ⟨#[o0v0 P, o1v0 P, o2v0 P, o3v6 P, o4v0 P, o5v0 P, o6v0 P, o7v0 P, o8v0 P, o9v0 P, o10v0 P, o11v0 P, o12v0 P, o13v0 P, o14v0 P, o15v0 P, o16v0 P, o17v0 P, o18v0 P, o19v0 P, o20v0 P, o21v0 P, o22v0 P, o23v0 P, o24v0 P, o25v0 P, o26v0 P, o27v0 P, o28v0 P, o29v1 P, o30v0 P, o31v0 P, o32v0 P, o33v2 P, o34v0 P, o35v0 P, o36v0 P, o37v2 P, o38v0 P, (fz D39), o40v0 P, o41v0 P, o42v0 P, o43v0 P, (fz D44), o45v2 P, o46v0 P, o47v0 P, (fz D48), (fz D49), o50v2 P, o51v0 P, o52v0 P, (fz D53), (fz D54), o55v3 P, o56v0 P, o57v0 P, (fz D58), o59v2 P, o60v0 P, o61v0 P], {}⟩
-- cut X5: step 2403 toks 443 gens 1 code set.update.loop depth 4 pos { line := 8, col := 32, endLine := 8, endCol := 47 }
noncomputable def hU3 (P : Params) (D39 D44 D48 D49 D53 D54 D58 D62 : Data) : Heap := ⟨#[o0v0 P, o1v0 P, o2v0 P, o3v6 P, o4v0 P, o5v0 P, o6v0 P, o7v0 P, o8v0 P, o9v0 P, o10v0 P, o11v0 P, o12v0 P, o13v0 P, o14v0 P, o15v0 P, o16v0 P, o17v0 P, o18v0 P, o19v0 P, o20v0 P, o21v0 P, o22v0 P, o23v0 P, o24v0 P, o25v0 P, o26v0 P, o27v0 P, o28v0 P, o29v1 P, o30v0 P, o31v0 P, o32v0 P, o33v2 P, o34v0 P, o35v0 P, o36v0 P, o37v2 P, o38v0 P, (fz D39), o40v0 P, o41v0 P, o42v0 P, o43v0 P, (fz D44), o45v2 P, o46v0 P, o47v0 P, (fz D48), (fz D49), o50v2 P, o51v0 P, o52v0 P, (fz D53), (fz D54), o55v3 P, o56v0 P, o57v0 P, (fz D58), o59v2 P, o60v0 P, o61v0 P, (fz D62)], {}⟩
-- cut U3: step 2450 toks 443 gens 1 code frozenset.__or__ depth 2 pos { line := 8, col := 22, endLine := 8, endCol := 47 }
noncomputable def o3v7 (P : Params) : Obj := ⟨(.type "dict"), none, (.dict #[E P "__name__" 165 (.str "cpy313.tomllib._parser" 282), E P "__doc__" 166 .none, E P "__package__" 167 .none, E P "__loader__" 168 (.builtin "__main__.__loader__#opaque"), E P "__spec__" 169 .none, E P "__annotations__" 170 (.ref 6), E P "__builtins__" 171 (.ref 4), E P "__file__" 173 (.str "/claim/cut.py" 172), E P "__cached__" 174 .none, E P "_sre" 275 (.ref 12), E P "ASCII_CTRL" 427 (.ref 48), E P "ILLEGAL_BASIC_STR_CHARS" 431 (.ref 53), E P "ILLEGAL_LITERAL_STR_CHARS" 432 (.ref 53), E P "ILLEGAL_COMMENT_CHARS" 433 (.ref 53), E P "TOML_WS" 439 (.ref 54), E P "TOML_WS_AND_NEWLINE" 443 (.ref 62)] 16), #[]⟩
noncomputable def hP6 (P : Params) (D39 D44 D48 D49 D53 D54 D58 D62 : Data) : Heap := ⟨#[o0v0 P, o1v0 P, o2v0 P, o3v7 P, o4v0 P, o5v0 P, o6v0 P, o7v0 P, o8v0 P, o9v0 P, o10v0 P, o11v0 P, o12v0 P, o13v0 P, o14v0 P, o15v0 P, o16v0 P, o17v0 P, o18v0 P, o19v0 P, o20v0 P, o21v0 P, o22v0 P, o23v0 P, o24v0 P, o25v0 P, o26v0 P, o27v0 P, o28v0 P, o29v1 P, o30v0 P, o31v0 P, o32v0 P, o33v2 P, o34v0 P, o35v0 P, o36v0 P, o37v2 P, o38v0 P, (fz D39), o40v0 P, o41v0 P, o42v0 P, o43v0 P, (fz D44), o45v2 P, o46v0 P, o47v0 P, (fz D48), (fz D49), o50v2 P, o51v0 P, o52v0 P, (fz D53), (fz D54), o55v3 P, o56v0 P, o57v0 P, (fz D58), o59v2 P, o60v0 P, o61v0 P, (fz D62)], {}⟩
-- cut P6: step 2459 toks 444 gens 1 code body depth 1 pos { line := 8, col := 0, endLine := 8, endCol := 19 }
noncomputable def o3v8 (P : Params) : Obj := ⟨(.type "dict"), none, (.dict #[E P "__name__" 165 (.str "cpy313.tomllib._parser" 282), E P "__doc__" 166 .none, E P "__package__" 167 .none, E P "__loader__" 168 (.builtin "__main__.__loader__#opaque"), E P "__spec__" 169 .none, E P "__annotations__" 170 (.ref 6), E P "__builtins__" 171 (.ref 4), E P "__file__" 173 (.str "/claim/cut.py" 172), E P "__cached__" 174 .none, E P "_sre" 275 (.ref 12), E P "ASCII_CTRL" 427 (.ref 48), E P "ILLEGAL_BASIC_STR_CHARS" 431 (.ref 53), E P "ILLEGAL_LITERAL_STR_CHARS" 432 (.ref 53), E P "ILLEGAL_COMMENT_CHARS" 433 (.ref 53), E P "TOML_WS" 439 (.ref 54), E P "TOML_WS_AND_NEWLINE" 443 (.ref 62), E P "TOMLDecodeError" 461 (.ref 72)] 17), #[]⟩
noncomputable def o29v2 (P : Params) : Obj := ⟨.none, none, (.fields #[(.int 3 0), (.int 23 0), (.ref 36), (.int 9 0), (.int 0 0), (.ref 68)]), #[]⟩
noncomputable def o63v0 (P : Params) : Obj := ⟨(.type "tuple"), none, (.seq #[(.type "ValueError")] 0), #[]⟩
noncomputable def o64v0 (P : Params) : Obj := ⟨(.type "builtin_function_or_method"), none, (.fields #[(.builtin "type.__prepare__"), (.type "type")]), #[]⟩
noncomputable def o65v0 (P : Params) : Obj := ⟨(.type "dict"), none, (.dict #[E P "__module__" 451 (.str "cpy313.tomllib._parser" 282), E P "__qualname__" 453 (.str "TOMLDecodeError" 452), E P "__firstlineno__" 455 (.int 9 454), E P "__static_attributes__" 456 (.ref 70)] 4), #[]⟩
noncomputable def o66v0 (P : Params) : Obj := ⟨(.type "tuple"), none, (.seq #[] 0), #[]⟩
noncomputable def o67v0 (P : Params) : Obj := ⟨.none, none, (.fields #[]), #[]⟩
noncomputable def o68v0 (P : Params) : Obj := ⟨(.type "code"), none, (.fields #[(.str "TOMLDecodeError" 446), (.str "TOMLDecodeError" 447), (.str "/claim/cut.py" 448), (.int 9 0), (.int 0 0), (.int 0 0), (.int 0 0), (.int 0 0), (.ref 66), (.bool false), (.int 276 0), (.ref 67), .none, .none, .none, .none, (.int 449 0), (.int 9 0), (.str "/claim/cut.py" 450)]), #[]⟩
noncomputable def o69v0 (P : Params) : Obj := ⟨(.type "frame"), none, .plain, #[(some (.ref 68)), (some (.ref 3)), (some (.ref 65)), none, (some (.str "cpy313.tomllib._parser" 282)), none, (some (.ref 0))]⟩
noncomputable def o70v0 (P : Params) : Obj := ⟨(.type "tuple"), none, (.seq #[] 0), #[]⟩
noncomputable def o71v0 (P : Params) : Obj := ⟨(.type "dict"), none, (.dict #[E P "__module__" 451 (.str "cpy313.tomllib._parser" 282), E P "__firstlineno__" 455 (.int 9 454), E P "__static_attributes__" 456 (.ref 70), E P "__weakref__" 458 (.ref 73), E P "__doc__" 459 .none] 3), #[]⟩
noncomputable def o72v0 (P : Params) : Obj := ⟨(.type "type"), none, (.cls { name := "TOMLDecodeError", bases := [(.type "ValueError")], mro := [(.ref 72), (.type "ValueError"), (.type "Exception"), (.type "BaseException"), (.type "object")], ns := 71, qualname := "TOMLDecodeError", hasDict := true, slotNames := [], subclasses := [], abstract := false, collection := none, hasDel := false }), #[(some (.ref 63)), none, (some (.str "TOMLDecodeError" 444)), (some (.str "TOMLDecodeError" 452)), (some (.builtin "ValueError.__new__")), (some (.bool true))]⟩
noncomputable def o73v0 (P : Params) : Obj := ⟨(.type "getset_descriptor"), none, (.fields #[(.str "__weakref__" 457), (.ref 72), (.builtin "ExceptionGroup.__weakref__"), .none]), #[]⟩
noncomputable def o74v0 (P : Params) : Obj := ⟨(.type "super"), none, (.fields #[(.ref 72), (.ref 72), (.ref 72)]), #[]⟩
noncomputable def o75v0 (P : Params) : Obj := ⟨(.type "builtin_function_or_method"), none, (.fields #[(.builtin "object.__init_subclass__"), (.ref 72)]), #[]⟩
noncomputable def hP7 (P : Params) (D39 D44 D48 D49 D53 D54 D58 D62 : Data) : Heap := ⟨#[o0v0 P, o1v0 P, o2v0 P, o3v8 P, o4v0 P, o5v0 P, o6v0 P, o7v0 P, o8v0 P, o9v0 P, o10v0 P, o11v0 P, o12v0 P, o13v0 P, o14v0 P, o15v0 P, o16v0 P, o17v0 P, o18v0 P, o19v0 P, o20v0 P, o21v0 P, o22v0 P, o23v0 P, o24v0 P, o25v0 P, o26v0 P, o27v0 P, o28v0 P, o29v2 P, o30v0 P, o31v0 P, o32v0 P, o33v2 P, o34v0 P, o35v0 P, o36v0 P, o37v2 P, o38v0 P, (fz D39), o40v0 P, o41v0 P, o42v0 P, o43v0 P, (fz D44), o45v2 P, o46v0 P, o47v0 P, (fz D48), (fz D49), o50v2 P, o51v0 P, o52v0 P, (fz D53), (fz D54), o55v3 P, o56v0 P, o57v0 P, (fz D58), o59v2 P, o60v0 P, o61v0 P, (fz D62), o63v0 P, o64v0 P, o65v0 P, o66v0 P, o67v0 P, o68v0 P, o69v0 P, o70v0 P, o71v0 P, o72v0 P, o73v0 P, o74v0 P, o75v0 P], {}⟩
-- cut P7: step 2645 toks 462 gens 1 code body depth 1 pos { line := 9, col := 0, endLine := 10, endCol := 8 }
noncomputable def o3v9 (P : Params) : Obj := ⟨(.type "dict"), none, (.dict #[E P "__name__" 165 (.str "re" 558), E P "__doc__" 166 .none, E P "__package__" 167 .none, E P "__loader__" 168 (.builtin "__main__.__loader__#opaque"), E P "__spec__" 169 .none, E P "__annotations__" 170 (.ref 6), E P "__builtins__" 171 (.ref 4), E P "__file__" 173 (.str "/claim/cut.py" 172), E P "__cached__" 174 .none, E P "_sre" 275 (.ref 12), E P "ASCII_CTRL" 427 (.ref 48), E P "ILLEGAL_BASIC_STR_CHARS" 431 (.ref 53), E P "ILLEGAL_LITERAL_STR_CHARS" 432 (.ref 53), E P "ILLEGAL_COMMENT_CHARS" 433 (.ref 53), E P "TOML_WS" 439 (.ref 54), E P "TOML_WS_AND_NEWLINE" 443 (.ref 62), E P "TOMLDecodeError" 461 (.ref 72), E P "skip_chars" 470 (.ref 82), E P "skip_until" 482 (.ref 89), E P "skip_comment" 491 (.ref 96), E P "skip_comments_and_array_ws" 500 (.ref 103), E P "parse_literal_str" 509 (.ref 110), E P "suffixed_err" 519 (.ref 117), E P "_twin_re_1" 557 (.ref 122)] 24), #[]⟩
noncomputable def o29v3 (P : Params) : Obj := ⟨.none, none, (.fields #[(.int 3 0), (.int 23 0), (.ref 36), (.int 9 0), (.int 0 0), (.ref 68), (.int 11 0), (.int 0 0), (.ref 81), (.int 18 0), (.int 0 0), (.ref 88), (.int 30 0), (.int 0 0), (.ref 95), (.int 38 0), (.int 0 0), (.ref 102), (.int 45 0), (.int 0 0), (.ref 109), (.int 50 0), (.int 0 0), (.ref 116)]), #[]⟩
noncomputable def o76v0 (P : Params) : Obj := ⟨(.type "tuple"), none, (.seq #[] 0), #[]⟩
noncomputable def o77v0 (P : Params) : Obj := ⟨.none, none, (.fields #[]), #[]⟩
noncomputable def o78v0 (P : Params) : Obj := ⟨(.type "tuple"), none, (.seq #[(.str "src" 465), (.str "pos" 466), (.str "chars" 467)] 0), #[]⟩
noncomputable def o79v0 (P : Params) : Obj := ⟨(.type "tuple"), none, (.seq #[] 0), #[]⟩
noncomputable def o80v0 (P : Params) : Obj := ⟨.none, none, (.func { name := "skip_chars", qualname := "skip_chars", params := fdP 9, body := .stmts (fdB 9), scope := fdS 9, globals := 0, closure := [], defaults := .none, kwdefaults := .none, doc := .none, pyModule := .none, annotations := none, code := .none, closureTuple := .none, builtins := 0 }), #[]⟩
noncomputable def o81v0 (P : Params) : Obj := ⟨(.type "code"), none, (.fields #[(.str "skip_chars" 462), (.str "skip_chars" 463), (.str "/claim/cut.py" 464), (.int 11 0), (.int 3 0), (.int 0 0), (.int 0 0), (.int 3 0), (.ref 76), (.bool true), (.int 276 0), (.ref 77), .none, (.ref 78), (.ref 79), (.ref 80), (.int 468 0), (.int 11 0), (.str "/claim/cut.py" 469)]), #[]⟩
noncomputable def o82v0 (P : Params) : Obj := ⟨(.type "function"), none, (.func { name := "skip_chars", qualname := "skip_chars", params := fdP 9, body := .stmts (fdB 9), scope := fdS 9, globals := 3, closure := [], defaults := .none, kwdefaults := .none, doc := .none, pyModule := (.str "cpy313.tomllib._parser" 282), annotations := none, code := (.ref 81), closureTuple := .none, builtins := 0 }), #[]⟩
noncomputable def o83v0 (P : Params) : Obj := ⟨(.type "tuple"), none, (.seq #[] 0), #[]⟩
noncomputable def o84v0 (P : Params) : Obj := ⟨.none, none, (.fields #[]), #[]⟩
noncomputable def o85v0 (P : Params) : Obj := ⟨(.type "tuple"), none, (.seq #[(.str "src" 474), (.str "pos" 475), (.str "expect" 476), (.str "error_on" 477), (.str "error_on_eof" 478), (.str "new_pos" 479)] 0), #[]⟩
noncomputable def o86v0 (P : Params) : Obj := ⟨(.type "tuple"), none, (.seq #[] 0), #[]⟩
noncomputable def o87v0 (P : Params) : Obj := ⟨.none, none, (.func { name := "skip_until", qualname := "skip_until", params := fdP 10, body := .stmts (fdB 10), scope := fdS 10, globals := 0, closure := [], defaults := .none, kwdefaults := .none, doc := .none, pyModule := .none, annotations := none, code := .none, closureTuple := .none, builtins := 0 }), #[]⟩
noncomputable def o88v0 (P : Params) : Obj := ⟨(.type "code"), none, (.fields #[(.str "skip_until" 471), (.str "skip_until" 472), (.str "/claim/cut.py" 473), (.int 18 0), (.int 3 0), (.int 0 0), (.int 2 0), (.int 3 0), (.ref 83), (.bool true), (.int 276 0), (.ref 84), .none, (.ref 85), (.ref 86), (.ref 87), (.int 480 0), (.int 18 0), (.str "/claim/cut.py" 481)]), #[]⟩
noncomputable def o89v0 (P : Params) : Obj := ⟨(.type "function"), none, (.func { name := "skip_until", qualname := "skip_until", params := fdP 10, body := .stmts (fdB 10), scope := fdS 10, globals := 3, closure := [], defaults := .none, kwdefaults := .none, doc := .none, pyModule := (.str "cpy313.tomllib._parser" 282), annotations := none, code := (.ref 88), closureTuple := .none, builtins := 0 }), #[]⟩
noncomputable def o90v0 (P : Params) : Obj := ⟨(.type "tuple"), none, (.seq #[] 0), #[]⟩
noncomputable def o91v0 (P : Params) : Obj := ⟨.none, none, (.fields #[]), #[]⟩
noncomputable def o92v0 (P : Params) : Obj := ⟨(.type "tuple"), none, (.seq #[(.str "src" 486), (.str "pos" 487), (.str "char" 488)] 0), #[]⟩
noncomputable def o93v0 (P : Params) : Obj := ⟨(.type "tuple"), none, (.seq #[] 0), #[]⟩
noncomputable def o94v0 (P : Params) : Obj := ⟨.none, none, (.func { name := "skip_comment", qualname := "skip_comment", params := fdP 11, body := .stmts (fdB 11), scope := fdS 11, globals := 0, closure := [], defaults := .none, kwdefaults := .none, doc := .none, pyModule := .none, annotations := none, code := .none, closureTuple := .none, builtins := 0 }), #[]⟩
noncomputable def o95v0 (P : Params) : Obj := ⟨(.type "code"), none, (.fields #[(.str "skip_comment" 483), (.str "skip_comment" 484), (.str "/claim/cut.py" 485), (.int 30 0), (.int 2 0), (.int 0 0), (.int 0 0), (.int 3 0), (.ref 90), (.bool true), (.int 276 0), (.ref 91), .none, (.ref 92), (.ref 93), (.ref 94), (.int 489 0), (.int 30 0), (.str "/claim/cut.py" 490)]), #[]⟩
noncomputable def o96v0 (P : Params) : Obj := ⟨(.type "function"), none, (.func { name := "skip_comment", qualname := "skip_comment", params := fdP 11, body := .stmts (fdB 11), scope := fdS 11, globals := 3, closure := [], defaults := .none, kwdefaults := .none, doc := .none, pyModule := (.str "cpy313.tomllib._parser" 282), annotations := none, code := (.ref 95), closureTuple := .none, builtins := 0 }), #[]⟩
noncomputable def o97v0 (P : Params) : Obj := ⟨(.type "tuple"), none, (.seq #[] 0), #[]⟩
noncomputable def o98v0 (P : Params) : Obj := ⟨.none, none, (.fields #[]), #[]⟩
noncomputable def o99v0 (P : Params) : Obj := ⟨(.type "tuple"), none, (.seq #[(.str "src" 495), (.str "pos" 496), (.str "pos_before_skip" 497)] 0), #[]⟩
noncomputable def o100v0 (P : Params) : Obj := ⟨(.type "tuple"), none, (.seq #[] 0), #[]⟩
noncomputable def o101v0 (P : Params) : Obj := ⟨.none, none, (.func { name := "skip_comments_and_array_ws", qualname := "skip_comments_and_array_ws", params := fdP 12, body := .stmts (fdB 12), scope := fdS 12, globals := 0, closure := [], defaults := .none, kwdefaults := .none, doc := .none, pyModule := .none, annotations := none, code := .none, closureTuple := .none, builtins := 0 }), #[]⟩
noncomputable def o102v0 (P : Params) : Obj := ⟨(.type "code"), none, (.fields #[(.str "skip_comments_and_array_ws" 492), (.str "skip_comments_and_array_ws" 493), (.str "/claim/cut.py" 494), (.int 38 0), (.int 2 0), (.int 0 0), (.int 0 0), (.int 3 0), (.ref 97), (.bool true), (.int 276 0), (.ref 98), .none, (.ref 99), (.ref 100), (.ref 101), (.int 498 0), (.int 38 0), (.str "/claim/cut.py" 499)]), #[]⟩
noncomputable def o103v0 (P : Params) : Obj := ⟨(.type "function"), none, (.func { name := "skip_comments_and_array_ws", qualname := "skip_comments_and_array_ws", params := fdP 12, body := .stmts (fdB 12), scope := fdS 12, globals := 3, closure := [], defaults := .none, kwdefaults := .none, doc := .none, pyModule := (.str "cpy313.tomllib._parser" 282), annotations := none, code := (.ref 102), closureTuple := .none, builtins := 0 }), #[]⟩
noncomputable def o104v0 (P : Params) : Obj := ⟨(.type "tuple"), none, (.seq #[] 0), #[]⟩
noncomputable def o105v0 (P : Params) : Obj := ⟨.none, none, (.fields #[]), #[]⟩
noncomputable def o106v0 (P : Params) : Obj := ⟨(.type "tuple"), none, (.seq #[(.str "src" 504), (.str "pos" 505), (.str "start_pos" 506)] 0), #[]⟩
noncomputable def o107v0 (P : Params) : Obj := ⟨(.type "tuple"), none, (.seq #[] 0), #[]⟩
noncomputable def o108v0 (P : Params) : Obj := ⟨.none, none, (.func { name := "parse_literal_str", qualname := "parse_literal_str", params := fdP 13, body := .stmts (fdB 13), scope := fdS 13, globals := 0, closure := [], defaults := .none, kwdefaults := .none, doc := .none, pyModule := .none, annotations := none, code := .none, closureTuple := .none, builtins := 0 }), #[]⟩
noncomputable def o109v0 (P : Params) : Obj := ⟨(.type "code"), none, (.fields #[(.str "parse_literal_str" 501), (.str "parse_literal_str" 502), (.str "/claim/cut.py" 503), (.int 45 0), (.int 2 0), (.int 0 0), (.int 0 0), (.int 3 0), (.ref 104), (.bool true), (.int 276 0), (.ref 105), .none, (.ref 106), (.ref 107), (.ref 108), (.int 507 0), (.int 45 0), (.str "/claim/cut.py" 508)]), #[]⟩
noncomputable def o110v0 (P : Params) : Obj := ⟨(.type "function"), none, (.func { name := "parse_literal_str", qualname := "parse_literal_str", params := fdP 13, body := .stmts (fdB 13), scope := fdS 13, globals := 3, closure := [], defaults := .none, kwdefaults := .none, doc := .none, pyModule := (.str "cpy313.tomllib._parser" 282), annotations := none, code := (.ref 109), closureTuple := .none, builtins := 0 }), #[]⟩
noncomputable def o111v0 (P : Params) : Obj := ⟨(.type "tuple"), none, (.seq #[] 0), #[]⟩
noncomputable def o112v0 (P : Params) : Obj := ⟨.none, none, (.fields #[]), #[]⟩
noncomputable def o113v0 (P : Params) : Obj := ⟨(.type "tuple"), none, (.seq #[(.str "src" 513), (.str "pos" 514), (.str "msg" 515), (.str "coord_repr" 516)] 0), #[]⟩
noncomputable def o114v0 (P : Params) : Obj := ⟨(.type "tuple"), none, (.seq #[] 0), #[]⟩
noncomputable def o115v0 (P : Params) : Obj := ⟨.none, none, (.func { name := "suffixed_err", qualname := "suffixed_err", params := fdP 14, body := .stmts (fdB 14), scope := fdS 14, globals := 0, closure := [], defaults := .none, kwdefaults := .none, doc := .none, pyModule := .none, annotations := none, code := .none, closureTuple := .none, builtins := 0 }), #[]⟩
noncomputable def o116v0 (P : Params) : Obj := ⟨(.type "code"), none, (.fields #[(.str "suffixed_err" 510), (.str "suffixed_err" 511), (.str "/claim/cut.py" 512), (.int 50 0), (.int 3 0), (.int 0 0), (.int 0 0), (.int 3 0), (.ref 111), (.bool true), (.int 276 0), (.ref 112), .none, (.ref 113), (.ref 114), (.ref 115), (.int 517 0), (.int 50 0), (.str "/claim/cut.py" 518)]), #[]⟩
noncomputable def o117v0 (P : Params) : Obj := ⟨(.type "function"), none, (.func { name := "suffixed_err", qualname := "suffixed_err", params := fdP 14, body := .stmts (fdB 14), scope := fdS 14, globals := 3, closure := [], defaults := .none, kwdefaults := .none, doc := .none, pyModule := (.str "cpy313.tomllib._parser" 282), annotations := none, code := (.ref 116), closureTuple := .none, builtins := 0 }), #[]⟩
noncomputable def o118v0 (P : Params) : Obj := ⟨(.type "list"), none, (.seq #[(.int 14 523), (.int 14 524), (.int 4 525), (.int 1 526), (.int 1 527), (.int 9 528), (.int 0 529), (.int 64 530), (.int 0 531), (.int 1342177280 532), (.int 0 533), (.int 0 534), (.int 0 535), (.int 0 536), (.int 0 537), (.int 17 538), (.int 0 539), (.int 13 540), (.int 11 541), (.int 9 542), (.int 0 543), (.int 64 544), (.int 0 545), (.int 1342177280 546), (.int 0 547), (.int 0 548), (.int 0 549), (.int 0 550), (.int 0 551), (.int 17 552), (.int 1 553), (.int 1 554)] 0), #[]⟩
noncomputable def o119v0 (P : Params) : Obj := ⟨(.type "dict"), none, (.dict #[] 0), #[]⟩
noncomputable def o120v0 (P : Params) : Obj := ⟨(.type "tuple"), none, (.seq #[.none, .none] 0), #[]⟩
noncomputable def o121v0 (P : Params) : Obj := ⟨(.type "tuple"), none, (.seq #[(.int 14 0), (.int 14 0), (.int 4 0), (.int 1 0), (.int 1 0), (.int 9 0), (.int 0 0), (.int 64 0), (.int 0 0), (.int 1342177280 0), (.int 0 0), (.int 0 0), (.int 0 0), (.int 0 0), (.int 0 0), (.int 17 0), (.int 0 0), (.int 13 0), (.int 11 0), (.int 9 0), (.int 0 0), (.int 64 0), (.int 0 0), (.int 1342177280 0), (.int 0 0), (.int 0 0), (.int 0 0), (.int 0 0), (.int 0 0), (.int 17 0), (.int 1 0), (.int 1 0)] 0), #[]⟩
noncomputable def o122v0 (P : Params) : Obj := ⟨(.type "re.Pattern"), none, (.fields #[(.str "([&~|])" 521), (.int 32 556), (.int 1 0), .none, .none, (.ref 121), (.int 0 0)]), #[]⟩
noncomputable def hP15 (P : Params) (D39 D44 D48 D49 D53 D54 D58 D62 : Data) : Heap := ⟨#[o0v0 P, o1v0 P, o2v0 P, o3v9 P, o4v0 P, o5v0 P, o6v0 P, o7v0 P, o8v0 P, o9v0 P, o10v0 P, o11v0 P, o12v0 P, o13v0 P, o14v0 P, o15v0 P, o16v0 P, o17v0 P, o18v0 P, o19v0 P, o20v0 P, o21v0 P, o22v0 P, o23v0 P, o24v0 P, o25v0 P, o26v0 P, o27v0 P, o28v0 P, o29v3 P, o30v0 P, o31v0 P, o32v0 P, o33v2 P, o34v0 P, o35v0 P, o36v0 P, o37v2 P, o38v0 P, (fz D39), o40v0 P, o41v0 P, o42v0 P, o43v0 P, (fz D44), o45v2 P, o46v0 P, o47v0 P, (fz D48), (fz D49), o50v2 P, o51v0 P, o52v0 P, (fz D53), (fz D54), o55v3 P, o56v0 P, o57v0 P, (fz D58), o59v2 P, o60v0 P, o61v0 P, (fz D62), o63v0 P, o64v0 P, o65v0 P, o66v0 P, o67v0 P, o68v0 P, o69v0 P, o70v0 P, o71v0 P, o72v0 P, o73v0 P, o74v0 P, o75v0 P, o76v0 P, o77v0 P, o78v0 P, o79v0 P, o80v0 P, o81v0 P, o82v0 P, o83v0 P, o84v0 P, o85v0 P, o86v0 P, o87v0 P, o88v0 P, o89v0 P, o90v0 P, o91v0 P, o92v0 P, o93v0 P, o94v0 P, o95v0 P, o96v0 P, o97v0 P, o98v0 P, o99v0 P, o100v0 P, o101v0 P, o102v0 P, o103v0 P, o104v0 P, o105v0 P, o106v0 P, o107v0 P, o108v0 P, o109v0 P, o110v0 P, o111v0 P, o112v0 P, o113v0 P, o114v0 P, o115v0 P, o116v0 P, o117v0 P, o118v0 P, o119v0 P, o120v0 P, o121v0 P, o122v0 P], {}⟩
-- cut P15: step 2925 toks 560 gens 1 code body depth 1 pos { line := 63, col := 0, endLine := 63, endCol := 8 }
noncomputable def o3v10 (P : Params) : Obj := ⟨(.type "dict"), none, (.dict #[E P "__name__" 165 (.str "re" 558), E P "__doc__" 166 .none, E P "__package__" 167 .none, E P "__loader__" 168 (.builtin "__main__.__loader__#opaque"), E P "__spec__" 169 .none, E P "__annotations__" 170 (.ref 6), E P "__builtins__" 171 (.ref 4), E P "__file__" 173 (.str "/claim/cut.py" 172), E P "__cached__" 174 .none, E P "_sre" 275 (.ref 12), E P "ASCII_CTRL" 427 (.ref 48), E P "ILLEGAL_BASIC_STR_CHARS" 431 (.ref 53), E P "ILLEGAL_LITERAL_STR_CHARS" 432 (.ref 53), E P "ILLEGAL_COMMENT_CHARS" 433 (.ref 53), E P "TOML_WS" 439 (.ref 54), E P "TOML_WS_AND_NEWLINE" 443 (.ref 62), E P "TOMLDecodeError" 461 (.ref 72), E P "skip_chars" 470 (.ref 82), E P "skip_until" 482 (.ref 89), E P "skip_comment" 491 (.ref 96), E P "skip_comments_and_array_ws" 500 (.ref 103), E P "parse_literal_str" 509 (.ref 110), E P "suffixed_err" 519 (.ref 117), E P "_twin_re_1" 557 (.ref 122), E P "_special_chars_map" 705 (.ref 124)] 25), #[]⟩
noncomputable def o123v0 (P : Params) : Obj := ⟨(.type "bytes_iterator"), none, (.fields #[.none, (.int 24 0)]), #[]⟩
noncomputable def o124v0 (P : Params) : Obj := ⟨(.type "dict"), none, (.dict #[⟨40, (.int 40 561), (.str "\\(" 565)⟩, ⟨41, (.int 41 567), (.str "\\)" 571)⟩, ⟨91, (.int 91 573), (.str "\\[" 577)⟩, ⟨93, (.int 93 579), (.str "\\]" 583)⟩, ⟨123, (.int 123 585), (.str "\\{" 589)⟩, ⟨125, (.int 125 591), (.str "\\}" 595)⟩, ⟨63, (.int 63 597), (.str "\\?" 601)⟩, ⟨42, (.int 42 603), (.str "\\*" 607)⟩, ⟨43, (.int 43 609), (.str "\\+" 613)⟩, ⟨45, (.int 45 615), (.str "\\-" 619)⟩, ⟨124, (.int 124 621), (.str "\\|" 625)⟩, ⟨94, (.int 94 627), (.str "\\^" 631)⟩, ⟨36, (.int 36 633), (.str "\\$" 637)⟩, ⟨92, (.int 92 639), (.str "\\\\" 643)⟩, ⟨46, (.int 46 645), (.str "\\." 649)⟩, ⟨38, (.int 38 651), (.str "\\&" 655)⟩, ⟨126, (.int 126 657), (.str "\\~" 661)⟩, ⟨35, (.int 35 663), (.str "\\#" 667)⟩, ⟨32, (.int 32 669), (.str "\\ " 673)⟩, ⟨9, (.int 9 675), (.str "\\\t" 679)⟩, ⟨10, (.int 10 681), (.str "\\\n" 685)⟩, ⟨13, (.int 13 687), (.str "\\\r" 691)⟩, ⟨11, (.int 11 693), (.str "\\\x0b" 697)⟩, ⟨12, (.int 12 699), (.str "\\\x0c" 703)⟩] 24), #[]⟩
noncomputable def o125v0 (P : Params) : Obj := ⟨(.type "dict"), none, (.dict #[] 2), #[]⟩
noncomputable def o126v0 (P : Params) : Obj := ⟨(.type "tuple"), none, (.seq #[] 0), #[]⟩
noncomputable def o127v0 (P : Params) : Obj := ⟨(.type "StopIteration"), none, (.fields #[(.ref 126), .none, .none, .none, (.bool false), .none]), #[]⟩
noncomputable def hP16 (P : Params) (D39 D44 D48 D49 D53 D54 D58 D62 : Data) : Heap := ⟨#[o0v0 P, o1v0 P, o2v0 P, o3v10 P, o4v0 P, o5v0 P, o6v0 P, o7v0 P, o8v0 P, o9v0 P, o10v0 P, o11v0 P, o12v0 P, o13v0 P, o14v0 P, o15v0 P, o16v0 P, o17v0 P, o18v0 P, o19v0 P, o20v0 P, o21v0 P, o22v0 P, o23v0 P, o24v0 P, o25v0 P, o26v0 P, o27v0 P, o28v0 P, o29v3 P, o30v0 P, o31v0 P, o32v0 P, o33v2 P, o34v0 P, o35v0 P, o36v0 P, o37v2 P, o38v0 P, (fz D39), o40v0 P, o41v0 P, o42v0 P, o43v0 P, (fz D44), o45v2 P, o46v0 P, o47v0 P, (fz D48), (fz D49), o50v2 P, o51v0 P, o52v0 P, (fz D53), (fz D54), o55v3 P, o56v0 P, o57v0 P, (fz D58), o59v2 P, o60v0 P, o61v0 P, (fz D62), o63v0 P, o64v0 P, o65v0 P, o66v0 P, o67v0 P, o68v0 P, o69v0 P, o70v0 P, o71v0 P, o72v0 P, o73v0 P, o74v0 P, o75v0 P, o76v0 P, o77v0 P, o78v0 P, o79v0 P, o80v0 P, o81v0 P, o82v0 P, o83v0 P, o84v0 P, o85v0 P, o86v0 P, o87v0 P, o88v0 P, o89v0 P, o90v0 P, o91v0 P, o92v0 P, o93v0 P, o94v0 P, o95v0 P, o96v0 P, o97v0 P, o98v0 P, o99v0 P, o100v0 P, o101v0 P, o102v0 P, o103v0 P, o104v0 P, o105v0 P, o106v0 P, o107v0 P, o108v0 P, o109v0 P, o110v0 P, o111v0 P, o112v0 P, o113v0 P, o114v0 P, o115v0 P, o116v0 P, o117v0 P, o118v0 P, o119v0 P, o120v0 P, o121v0 P, o122v0 P, o123v0 P, o124v0 P, o125v0 P, o126v0 P, o127v0 P], {}⟩
-- cut P16: step 4167 toks 706 gens 1 code body depth 1 pos { line := 64, col := 0, endLine := 64, endCol := 18 }
noncomputable def o3v11 (P : Params) : Obj := ⟨(.type "dict"), none, (.dict #[E P "__name__" 165 (.str "law_rt0008_01" 758), E P "__doc__" 166 .none, E P "__package__" 167 .none, E P "__loader__" 168 (.builtin "__main__.__loader__#opaque"), E P "__spec__" 169 .none, E P "__annotations__" 170 (.ref 6), E P "__builtins__" 171 (.ref 4), E P "__file__" 173 (.str "/claim/cut.py" 172), E P "__cached__" 174 .none, E P "_sre" 275 (.ref 12), E P "ASCII_CTRL" 427 (.ref 48), E P "ILLEGAL_BASIC_STR_CHARS" 431 (.ref 53), E P "ILLEGAL_LITERAL_STR_CHARS" 432 (.ref 53), E P "ILLEGAL_COMMENT_CHARS" 433 (.ref 53), E P "TOML_WS" 439 (.ref 54), E P "TOML_WS_AND_NEWLINE" 443 (.ref 62), E P "TOMLDecodeError" 461 (.ref 72), E P "skip_chars" 470 (.ref 82), E P "skip_until" 482 (.ref 89), E P "skip_comment" 491 (.ref 96), E P "skip_comments_and_array_ws" 500 (.ref 103), E P "parse_literal_str" 509 (.ref 110), E P "suffixed_err" 519 (.ref 117), E P "_twin_re_1" 557 (.ref 122), E P "_special_chars_map" 705 (.ref 124), E P "escape" 712 (.ref 134), E P "_translate" 733 (.ref 141), E P "_PLACEHOLDER_LEN" 737 (.int 12 736), E P "_shorten" 747 (.ref 148), E P "unorderable_list_difference" 757 (.ref 155), E P "_law_text" 766 (.ref 162), E P "_law_read" 776 (.ref 169), E P "_law_takes" 782 (.ref 174), E P "_law_right" 788 (.ref 179), E P "law" 794 (.ref 184)] 35), #[]⟩
noncomputable def o29v4 (P : Params) : Obj := ⟨.none, none, (.fields #[(.int 3 0), (.int 23 0), (.ref 36), (.int 9 0), (.int 0 0), (.ref 68), (.int 11 0), (.int 0 0), (.ref 81), (.int 18 0), (.int 0 0), (.ref 88), (.int 30 0), (.int 0 0), (.ref 95), (.int 38 0), (.int 0 0), (.ref 102), (.int 45 0), (.int 0 0), (.ref 109), (.int 50 0), (.int 0 0), (.ref 116), (.int 65 0), (.int 0 0), (.ref 133), (.int 72 0), (.int 0 0), (.ref 140), (.int 136 0), (.int 0 0), (.ref 147), (.int 141 0), (.int 0 0), (.ref 154), (.int 151 0), (.int 0 0), (.ref 161), (.int 153 0), (.int 0 0), (.ref 168), (.int 159 0), (.int 0 0), (.ref 173), (.int 166 0), (.int 0 0), (.ref 178), (.int 180 0), (.int 0 0), (.ref 183)]), #[]⟩
noncomputable def o128v0 (P : Params) : Obj := ⟨(.type "tuple"), none, (.seq #[] 0), #[]⟩
noncomputable def o129v0 (P : Params) : Obj := ⟨.none, none, (.fields #[]), #[]⟩
noncomputable def o130v0 (P : Params) : Obj := ⟨(.type "tuple"), none, (.seq #[(.str "pattern" 709)] 0), #[]⟩
noncomputable def o131v0 (P : Params) : Obj := ⟨(.type "tuple"), none, (.seq #[] 0), #[]⟩
noncomputable def o132v0 (P : Params) : Obj := ⟨.none, none, (.func { name := "escape", qualname := "escape", params := fdP 18, body := .stmts (fdB 18), scope := fdS 18, globals := 0, closure := [], defaults := .none, kwdefaults := .none, doc := .none, pyModule := .none, annotations := none, code := .none, closureTuple := .none, builtins := 0 }), #[]⟩
noncomputable def o133v0 (P : Params) : Obj := ⟨(.type "code"), none, (.fields #[(.str "escape" 706), (.str "escape" 707), (.str "/claim/cut.py" 708), (.int 65 0), (.int 1 0), (.int 0 0), (.int 0 0), (.int 3 0), (.ref 128), (.bool true), (.int 276 0), (.ref 129), .none, (.ref 130), (.ref 131), (.ref 132), (.int 710 0), (.int 65 0), (.str "/claim/cut.py" 711)]), #[]⟩
noncomputable def o134v0 (P : Params) : Obj := ⟨(.type "function"), none, (.func { name := "escape", qualname := "escape", params := fdP 18, body := .stmts (fdB 18), scope := fdS 18, globals := 3, closure := [], defaults := .none, kwdefaults := .none, doc := .none, pyModule := (.str "re" 558), annotations := none, code := (.ref 133), closureTuple := .none, builtins := 0 }), #[]⟩
noncomputable def o135v0 (P : Params) : Obj := ⟨(.type "tuple"), none, (.seq #[] 0), #[]⟩
noncomputable def o136v0 (P : Params) : Obj := ⟨.none, none, (.fields #[]), #[]⟩
noncomputable def o137v0 (P : Params) : Obj := ⟨(.type "tuple"), none, (.seq #[(.str "pat" 718), (.str "STAR" 719), (.str "QUESTION_MARK" 720), (.str "res" 721), (.str "add" 722), (.str "i" 723), (.str "n" 724), (.str "c" 725), (.str "j" 726), (.str "stuff" 727), (.str "chunks" 728), (.str "k" 729), (.str "chunk" 730)] 0), #[]⟩
noncomputable def o138v0 (P : Params) : Obj := ⟨(.type "tuple"), none, (.seq #[] 0), #[]⟩
noncomputable def o139v0 (P : Params) : Obj := ⟨.none, none, (.func { name := "_translate", qualname := "_translate", params := fdP 20, body := .stmts (fdB 20), scope := fdS 20, globals := 0, closure := [], defaults := .none, kwdefaults := .none, doc := .none, pyModule := .none, annotations := none, code := .none, closureTuple := .none, builtins := 0 }), #[]⟩
noncomputable def o140v0 (P : Params) : Obj := ⟨(.type "code"), none, (.fields #[(.str "_translate" 715), (.str "_translate" 716), (.str "/claim/cut.py" 717), (.int 72 0), (.int 3 0), (.int 0 0), (.int 0 0), (.int 3 0), (.ref 135), (.bool true), (.int 276 0), (.ref 136), .none, (.ref 137), (.ref 138), (.ref 139), (.int 731 0), (.int 72 0), (.str "/claim/cut.py" 732)]), #[]⟩
noncomputable def o141v0 (P : Params) : Obj := ⟨(.type "function"), none, (.func { name := "_translate", qualname := "_translate", params := fdP 20, body := .stmts (fdB 20), scope := fdS 20, globals := 3, closure := [], defaults := .none, kwdefaults := .none, doc := .none, pyModule := (.str "cpy313.fnmatch" 713), annotations := none, code := (.ref 140), closureTuple := .none, builtins := 0 }), #[]⟩
noncomputable def o142v0 (P : Params) : Obj := ⟨(.type "tuple"), none, (.seq #[] 0), #[]⟩
noncomputable def o143v0 (P : Params) : Obj := ⟨.none, none, (.fields #[]), #[]⟩
noncomputable def o144v0 (P : Params) : Obj := ⟨(.type "tuple"), none, (.seq #[(.str "s" 741), (.str "prefixlen" 742), (.str "suffixlen" 743), (.str "skip" 744)] 0), #[]⟩
noncomputable def o145v0 (P : Params) : Obj := ⟨(.type "tuple"), none, (.seq #[] 0), #[]⟩
noncomputable def o146v0 (P : Params) : Obj := ⟨.none, none, (.func { name := "_shorten", qualname := "_shorten", params := fdP 23, body := .stmts (fdB 23), scope := fdS 23, globals := 0, closure := [], defaults := .none, kwdefaults := .none, doc := .none, pyModule := .none, annotations := none, code := .none, closureTuple := .none, builtins := 0 }), #[]⟩
noncomputable def o147v0 (P : Params) : Obj := ⟨(.type "code"), none, (.fields #[(.str "_shorten" 738), (.str "_shorten" 739), (.str "/claim/cut.py" 740), (.int 136 0), (.int 3 0), (.int 0 0), (.int 0 0), (.int 3 0), (.ref 142), (.bool true), (.int 276 0), (.ref 143), .none, (.ref 144), (.ref 145), (.ref 146), (.int 745 0), (.int 136 0), (.str "/claim/cut.py" 746)]), #[]⟩
noncomputable def o148v0 (P : Params) : Obj := ⟨(.type "function"), none, (.func { name := "_shorten", qualname := "_shorten", params := fdP 23, body := .stmts (fdB 23), scope := fdS 23, globals := 3, closure := [], defaults := .none, kwdefaults := .none, doc := .none, pyModule := (.str "cpy313.unittest.util" 734), annotations := none, code := (.ref 147), closureTuple := .none, builtins := 0 }), #[]⟩
noncomputable def o149v0 (P : Params) : Obj := ⟨(.type "tuple"), none, (.seq #[] 0), #[]⟩
noncomputable def o150v0 (P : Params) : Obj := ⟨.none, none, (.fields #[]), #[]⟩
noncomputable def o151v0 (P : Params) : Obj := ⟨(.type "tuple"), none, (.seq #[(.str "expected" 751), (.str "actual" 752), (.str "missing" 753), (.str "item" 754)] 0), #[]⟩
noncomputable def o152v0 (P : Params) : Obj := ⟨(.type "tuple"), none, (.seq #[] 0), #[]⟩
noncomputable def o153v0 (P : Params) : Obj := ⟨.none, none, (.func { name := "unorderable_list_difference", qualname := "unorderable_list_difference", params := fdP 24, body := .stmts (fdB 24), scope := fdS 24, globals := 0, closure := [], defaults := .none, kwdefaults := .none, doc := .none, pyModule := .none, annotations := none, code := .none, closureTuple := .none, builtins := 0 }), #[]⟩
noncomputable def o154v0 (P : Params) : Obj := ⟨(.type "code"), none, (.fields #[(.str "unorderable_list_difference" 748), (.str "unorderable_list_difference" 749), (.str "/claim/cut.py" 750), (.int 141 0), (.int 2 0), (.int 0 0), (.int 0 0), (.int 3 0), (.ref 149), (.bool true), (.int 276 0), (.ref 150), .none, (.ref 151), (.ref 152), (.ref 153), (.int 755 0), (.int 141 0), (.str "/claim/cut.py" 756)]), #[]⟩
noncomputable def o155v0 (P : Params) : Obj := ⟨(.type "function"), none, (.func { name := "unorderable_list_difference", qualname := "unorderable_list_difference", params := fdP 24, body := .stmts (fdB 24), scope := fdS 24, globals := 3, closure := [], defaults := .none, kwdefaults := .none, doc := .none, pyModule := (.str "cpy313.unittest.util" 734), annotations := none, code := (.ref 154), closureTuple := .none, builtins := 0 }), #[]⟩
noncomputable def o156v0 (P : Params) : Obj := ⟨(.type "tuple"), none, (.seq #[] 0), #[]⟩
noncomputable def o157v0 (P : Params) : Obj := ⟨.none, none, (.fields #[]), #[]⟩
noncomputable def o158v0 (P : Params) : Obj := ⟨(.type "tuple"), none, (.seq #[(.str "x" 763)] 0), #[]⟩
noncomputable def o159v0 (P : Params) : Obj := ⟨(.type "tuple"), none, (.seq #[] 0), #[]⟩
noncomputable def o160v0 (P : Params) : Obj := ⟨.none, none, (.func { name := "_law_text", qualname := "_law_text", params := fdP 26, body := .stmts (fdB 26), scope := fdS 26, globals := 0, closure := [], defaults := .none, kwdefaults := .none, doc := .none, pyModule := .none, annotations := none, code := .none, closureTuple := .none, builtins := 0 }), #[]⟩
noncomputable def o161v0 (P : Params) : Obj := ⟨(.type "code"), none, (.fields #[(.str "_law_text" 760), (.str "_law_text" 761), (.str "/claim/cut.py" 762), (.int 151 0), (.int 1 0), (.int 0 0), (.int 0 0), (.int 3 0), (.ref 156), (.bool true), (.int 276 0), (.ref 157), .none, (.ref 158), (.ref 159), (.ref 160), (.int 764 0), (.int 151 0), (.str "/claim/cut.py" 765)]), #[]⟩
noncomputable def o162v0 (P : Params) : Obj := ⟨(.type "function"), none, (.func { name := "_law_text", qualname := "_law_text", params := fdP 26, body := .stmts (fdB 26), scope := fdS 26, globals := 3, closure := [], defaults := .none, kwdefaults := .none, doc := .none, pyModule := (.str "law_rt0008_01" 758), annotations := none, code := (.ref 161), closureTuple := .none, builtins := 0 }), #[]⟩
noncomputable def o163v0 (P : Params) : Obj := ⟨(.type "tuple"), none, (.seq #[] 0), #[]⟩
noncomputable def o164v0 (P : Params) : Obj := ⟨.none, none, (.fields #[]), #[]⟩
noncomputable def o165v0 (P : Params) : Obj := ⟨(.type "tuple"), none, (.seq #[(.str "text" 770), (.str "place" 771), (.str "texts" 772), (.str "one" 773)] 0), #[]⟩
noncomputable def o166v0 (P : Params) : Obj := ⟨(.type "tuple"), none, (.seq #[] 0), #[]⟩
noncomputable def o167v0 (P : Params) : Obj := ⟨.none, none, (.func { name := "_law_read", qualname := "_law_read", params := fdP 27, body := .stmts (fdB 27), scope := fdS 27, globals := 0, closure := [], defaults := .none, kwdefaults := .none, doc := .none, pyModule := .none, annotations := none, code := .none, closureTuple := .none, builtins := 0 }), #[]⟩
noncomputable def o168v0 (P : Params) : Obj := ⟨(.type "code"), none, (.fields #[(.str "_law_read" 767), (.str "_law_read" 768), (.str "/claim/cut.py" 769), (.int 153 0), (.int 1 0), (.int 0 0), (.int 0 0), (.int 3 0), (.ref 163), (.bool true), (.int 276 0), (.ref 164), .none, (.ref 165), (.ref 166), (.ref 167), (.int 774 0), (.int 153 0), (.str "/claim/cut.py" 775)]), #[]⟩
noncomputable def o169v0 (P : Params) : Obj := ⟨(.type "function"), none, (.func { name := "_law_read", qualname := "_law_read", params := fdP 27, body := .stmts (fdB 27), scope := fdS 27, globals := 3, closure := [], defaults := .none, kwdefaults := .none, doc := .none, pyModule := (.str "law_rt0008_01" 758), annotations := none, code := (.ref 168), closureTuple := .none, builtins := 0 }), #[]⟩
noncomputable def o170v0 (P : Params) : Obj := ⟨(.type "tuple"), none, (.seq #[] 0), #[]⟩
noncomputable def o171v0 (P : Params) : Obj := ⟨.none, none, (.fields #[]), #[]⟩
noncomputable def o172v0 (P : Params) : Obj := ⟨.none, none, (.func { name := "_law_takes", qualname := "_law_takes", params := fdP 28, body := .stmts (fdB 28), scope := fdS 28, globals := 0, closure := [], defaults := .none, kwdefaults := .none, doc := .none, pyModule := .none, annotations := none, code := .none, closureTuple := .none, builtins := 0 }), #[]⟩
noncomputable def o173v0 (P : Params) : Obj := ⟨(.type "code"), none, (.fields #[(.str "_law_takes" 777), (.str "_law_takes" 778), (.str "/claim/cut.py" 779), (.int 159 0), (.int 2 0), (.int 0 0), (.int 0 0), (.int 3 0), (.ref 170), (.bool true), (.int 276 0), (.ref 171), .none, .none, .none, (.ref 172), (.int 780 0), (.int 159 0), (.str "/claim/cut.py" 781)]), #[]⟩
noncomputable def o174v0 (P : Params) : Obj := ⟨(.type "function"), none, (.func { name := "_law_takes", qualname := "_law_takes", params := fdP 28, body := .stmts (fdB 28), scope := fdS 28, globals := 3, closure := [], defaults := .none, kwdefaults := .none, doc := .none, pyModule := (.str "law_rt0008_01" 758), annotations := none, code := (.ref 173), closureTuple := .none, builtins := 0 }), #[]⟩
noncomputable def o175v0 (P : Params) : Obj := ⟨(.type "tuple"), none, (.seq #[] 0), #[]⟩
noncomputable def o176v0 (P : Params) : Obj := ⟨.none, none, (.fields #[]), #[]⟩
noncomputable def o177v0 (P : Params) : Obj := ⟨.none, none, (.func { name := "_law_right", qualname := "_law_right", params := fdP 29, body := .stmts (fdB 29), scope := fdS 29, globals := 0, closure := [], defaults := .none, kwdefaults := .none, doc := .none, pyModule := .none, annotations := none, code := .none, closureTuple := .none, builtins := 0 }), #[]⟩
noncomputable def o178v0 (P : Params) : Obj := ⟨(.type "code"), none, (.fields #[(.str "_law_right" 783), (.str "_law_right" 784), (.str "/claim/cut.py" 785), (.int 166 0), (.int 4 0), (.int 0 0), (.int 0 0), (.int 3 0), (.ref 175), (.bool true), (.int 276 0), (.ref 176), .none, .none, .none, (.ref 177), (.int 786 0), (.int 166 0), (.str "/claim/cut.py" 787)]), #[]⟩
noncomputable def o179v0 (P : Params) : Obj := ⟨(.type "function"), none, (.func { name := "_law_right", qualname := "_law_right", params := fdP 29, body := .stmts (fdB 29), scope := fdS 29, globals := 3, closure := [], defaults := .none, kwdefaults := .none, doc := .none, pyModule := (.str "law_rt0008_01" 758), annotations := none, code := (.ref 178), closureTuple := .none, builtins := 0 }), #[]⟩
noncomputable def o180v0 (P : Params) : Obj := ⟨(.type "tuple"), none, (.seq #[] 0), #[]⟩
noncomputable def o181v0 (P : Params) : Obj := ⟨.none, none, (.fields #[]), #[]⟩
noncomputable def o182v0 (P : Params) : Obj := ⟨.none, none, (.func { name := "law", qualname := "law", params := fdP 30, body := .stmts (fdB 30), scope := fdS 30, globals := 0, closure := [], defaults := .none, kwdefaults := .none, doc := .none, pyModule := .none, annotations := none, code := .none, closureTuple := .none, builtins := 0 }), #[]⟩
noncomputable def o183v0 (P : Params) : Obj := ⟨(.type "code"), none, (.fields #[(.str "law" 789), (.str "law" 790), (.str "/claim/cut.py" 791), (.int 180 0), (.int 1 0), (.int 0 0), (.int 0 0), (.int 3 0), (.ref 180), (.bool true), (.int 276 0), (.ref 181), .none, .none, .none, (.ref 182), (.int 792 0), (.int 180 0), (.str "/claim/cut.py" 793)]), #[]⟩
noncomputable def o184v0 (P : Params) : Obj := ⟨(.type "function"), none, (.func { name := "law", qualname := "law", params := fdP 30, body := .stmts (fdB 30), scope := fdS 30, globals := 3, closure := [], defaults := .none, kwdefaults := .none, doc := .none, pyModule := (.str "law_rt0008_01" 758), annotations := none, code := (.ref 183), closureTuple := .none, builtins := 0 }), #[]⟩
noncomputable def hP29 (P : Params) (D39 D44 D48 D49 D53 D54 D58 D62 : Data) : Heap := ⟨#[o0v0 P, o1v0 P, o2v0 P, o3v11 P, o4v0 P, o5v0 P, o6v0 P, o7v0 P, o8v0 P, o9v0 P, o10v0 P, o11v0 P, o12v0 P, o13v0 P, o14v0 P, o15v0 P, o16v0 P, o17v0 P, o18v0 P, o19v0 P, o20v0 P, o21v0 P, o22v0 P, o23v0 P, o24v0 P, o25v0 P, o26v0 P, o27v0 P, o28v0 P, o29v4 P, o30v0 P, o31v0 P, o32v0 P, o33v2 P, o34v0 P, o35v0 P, o36v0 P, o37v2 P, o38v0 P, (fz D39), o40v0 P, o41v0 P, o42v0 P, o43v0 P, (fz D44), o45v2 P, o46v0 P, o47v0 P, (fz D48), (fz D49), o50v2 P, o51v0 P, o52v0 P, (fz D53), (fz D54), o55v3 P, o56v0 P, o57v0 P, (fz D58), o59v2 P, o60v0 P, o61v0 P, (fz D62), o63v0 P, o64v0 P, o65v0 P, o66v0 P, o67v0 P, o68v0 P, o69v0 P, o70v0 P, o71v0 P, o72v0 P, o73v0 P, o74v0 P, o75v0 P, o76v0 P, o77v0 P, o78v0 P, o79v0 P, o80v0 P, o81v0 P, o82v0 P, o83v0 P, o84v0 P, o85v0 P, o86v0 P, o87v0 P, o88v0 P, o89v0 P, o90v0 P, o91v0 P, o92v0 P, o93v0 P, o94v0 P, o95v0 P, o96v0 P, o97v0 P, o98v0 P, o99v0 P, o100v0 P, o101v0 P, o102v0 P, o103v0 P, o104v0 P, o105v0 P, o106v0 P, o107v0 P, o108v0 P, o109v0 P, o110v0 P, o111v0 P, o112v0 P, o113v0 P, o114v0 P, o115v0 P, o116v0 P, o117v0 P, o118v0 P, o119v0 P, o120v0 P, o121v0 P, o122v0 P, o123v0 P, o124v0 P, o125v0 P, o126v0 P, o127v0 P, o128v0 P, o129v0 P, o130v0 P, o131v0 P, o132v0 P, o133v0 P, o134v0 P, o135v0 P, o136v0 P, o137v0 P, o138v0 P, o139v0 P, o140v0 P, o141v0 P, o142v0 P, o143v0 P, o144v0 P, o145v0 P, o146v0 P, o147v0 P, o148v0 P, o149v0 P, o150v0 P, o151v0 P, o152v0 P, o153v0 P, o154v0 P, o155v0 P, o156v0 P, o157v0 P, o158v0 P, o159v0 P, o160v0 P, o161v0 P, o162v0 P, o163v0 P, o164v0 P, o165v0 P, o166v0 P, o167v0 P, o168v0 P, o169v0 P, o170v0 P, o171v0 P, o172v0 P, o173v0 P, o174v0 P, o175v0 P, o176v0 P, o177v0 P, o178v0 P, o179v0 P, o180v0 P, o181v0 P, o182v0 P, o183v0 P, o184v0 P], {}⟩
-- cut P29: step 4476 toks 795 gens 1 code body depth 1 pos { line := 180, col := 0, endLine := 185, endCol := 98 }
noncomputable def hF (P : Params) (D39 D44 D48 D49 D53 D54 D58 D62 : Data) : Heap := ⟨#[o0v0 P, o1v0 P, o2v0 P, o3v11 P, o4v0 P, o5v0 P, o6v0 P, o7v0 P, o8v0 P, o9v0 P, o10v0 P, o11v0 P, o12v0 P, o13v0 P, o14v0 P, o15v0 P, o16v0 P, o17v0 P, o18v0 P, o19v0 P, o20v0 P, o21v0 P, o22v0 P, o23v0 P, o24v0 P, o25v0 P, o26v0 P, o27v0 P, o28v0 P, o29v4 P, o30v0 P, o31v0 P, o32v0 P, o33v2 P, o34v0 P, o35v0 P, o36v0 P, o37v2 P, o38v0 P, (fz D39), o40v0 P, o41v0 P, o42v0 P, o43v0 P, (fz D44), o45v2 P, o46v0 P, o47v0 P, (fz D48), (fz D49), o50v2 P, o51v0 P, o52v0 P, (fz D53), (fz D54), o55v3 P, o56v0 P, o57v0 P, (fz D58), o59v2 P, o60v0 P, o61v0 P, (fz D62), o63v0 P, o64v0 P, o65v0 P, o66v0 P, o67v0 P, o68v0 P, o69v0 P, o70v0 P, o71v0 P, o72v0 P, o73v0 P, o74v0 P, o75v0 P, o76v0 P, o77v0 P, o78v0 P, o79v0 P, o80v0 P, o81v0 P, o82v0 P, o83v0 P, o84v0 P, o85v0 P, o86v0 P, o87v0 P, o88v0 P, o89v0 P, o90v0 P, o91v0 P, o92v0 P, o93v0 P, o94v0 P, o95v0 P, o96v0 P, o97v0 P, o98v0 P, o99v0 P, o100v0 P, o101v0 P, o102v0 P, o103v0 P, o104v0 P, o105v0 P, o106v0 P, o107v0 P, o108v0 P, o109v0 P, o110v0 P, o111v0 P, o112v0 P, o113v0 P, o114v0 P, o115v0 P, o116v0 P, o117v0 P, o118v0 P, o119v0 P, o120v0 P, o121v0 P, o122v0 P, o123v0 P, o124v0 P, o125v0 P, o126v0 P, o127v0 P, o128v0 P, o129v0 P, o130v0 P, o131v0 P, o132v0 P, o133v0 P, o134v0 P, o135v0 P, o136v0 P, o137v0 P, o138v0 P, o139v0 P, o140v0 P, o141v0 P, o142v0 P, o143v0 P, o144v0 P, o145v0 P, o146v0 P, o147v0 P, o148v0 P, o149v0 P, o150v0 P, o151v0 P, o152v0 P, o153v0 P, o154v0 P, o155v0 P, o156v0 P, o157v0 P, o158v0 P, o159v0 P, o160v0 P, o161v0 P, o162v0 P, o163v0 P, o164v0 P, o165v0 P, o166v0 P, o167v0 P, o168v0 P, o169v0 P, o170v0 P, o171v0 P, o172v0 P, o173v0 P, o174v0 P, o175v0 P, o176v0 P, o177v0 P, o178v0 P, o179v0 P, o180v0 P, o181v0 P, o182v0 P, o183v0 P, o184v0 P], {}⟩
-- cut F: step 4477 toks 795 gens 1 code claim.caller depth 0 pos { line := 0, col := 0, endLine := 0, endCol := 0 }
/-- the generator's loop: i items taken -/
noncomputable def og33 (i : Nat) : Obj := ⟨.type "range_iterator", none, .fields #[.int i 0, .int ((32 - i : Nat) : Int) 0, .int 1 0], #[]⟩
noncomputable def og37 (P : Params) (i : Nat) : Obj := ⟨.type "frame", none, .dict #[E P ".0" 292 (.ref 33), E P "i" 296 (.int ((i - 1 : Nat) : Int) (291 + 4 * i))] 2, #[]⟩
noncomputable def hG (P : Params) (i : Nat) (D39 : Data) : Heap := ⟨#[o0v0 P, o1v0 P, o2v0 P, o3v1 P, o4v0 P, o5v0 P, o6v0 P, o7v0 P, o8v0 P, o9v0 P, o10v0 P, o11v0 P, o12v0 P, o13v0 P, o14v0 P, o15v0 P, o16v0 P, o17v0 P, o18v0 P, o19v0 P, o20v0 P, o21v0 P, o22v0 P, o23v0 P, o24v0 P, o25v0 P, o26v0 P, o27v0 P, o28v0 P, o29v1 P, o30v0 P, o31v0 P, o32v0 P, og33 i, o34v0 P, o35v0 P, o36v0 P, og37 P i, o38v0 P, (fz D39)], {}⟩
end Mine
end

section
open PySem PySem.W PySem.Challenge PyProof.Rows
set_option maxRecDepth 100000
set_option Elab.async false
set_option linter.unusedVariables false
namespace Mine
noncomputable abbrev go (w : World) (n : Nat) (s : Shared) (t : Thread) : Option (Shared × Thread) := topGo treeTable pw w 28 ann n s t

theorem go_zero (w : World) (s : Shared) (t : Thread) : go w 0 s t = some (s, t) := rfl
theorem go_add {w : World} : ∀ {n m : Nat} {s s₁ : Shared} {t t₁ : Thread} {r : Option (Shared × Thread)}, go w n s t = some (s₁, t₁) → go w m s₁ t₁ = r → go w (n + m) s t = r
  | 0, m, s, s₁, t, t₁, r, h, k => by
    obtain ⟨rfl, rfl⟩ : s = s₁ ∧ t = t₁ := by simpa [go, topGo] using h
    rw [Nat.zero_add]; exact k
  | n + 1, m, s, s₁, t, t₁, r, h, k => by
    rw [show n + 1 + m = (n + m) + 1 by omega]
    unfold go topGo at h ⊢
    cases ht : through t with
    | true => rw [ht] at h; cases h
    | false =>
      rw [ht] at h
      cases hk : stepOk 28 ann t with
      | false => rw [hk] at h; cases h
      | true =>
        rw [hk] at h
        cases hs : step (denote treeTable) pw w s t with
        | halt o s' => rw [hs] at h; cases h
        | go s' t' => rw [hs] at h; exact go_add (n := n) h k

/-- at most b steps lead from one state to another -/
noncomputable def Go (w : World) (b : Nat) (s : Shared) (t : Thread) (s' : Shared) (t' : Thread) : Prop := ∃ n, n ≤ b ∧ go w n s t = some (s', t')
theorem Go.of {w : World} {n : Nat} {s s' : Shared} {t t' : Thread} (h : go w n s t = some (s', t')) : Go w n s t s' t' := ⟨n, Nat.le_refl _, h⟩
theorem Go.refl {w : World} {s : Shared} {t : Thread} : Go w 0 s t s t := ⟨0, Nat.le_refl _, rfl⟩
theorem Go.trans {w : World} {b c : Nat} {s s₁ s₂ : Shared} {t t₁ t₂ : Thread} (x : Go w b s t s₁ t₁) (y : Go w c s₁ t₁ s₂ t₂) : Go w (b + c) s t s₂ t₂ :=
  let ⟨n, hn, h⟩ := x; let ⟨m, hm, k⟩ := y; ⟨n + m, Nat.add_le_add hn hm, go_add h k⟩
theorem Go.le {w : World} {b c : Nat} {s s' : Shared} {t t' : Thread} (x : Go w b s t s' t') (h : b ≤ c) : Go w c s t s' t' := let ⟨n, hn, k⟩ := x; ⟨n, Nat.le_trans hn h, k⟩

/-- a tree, with whatever stands behind it and whatever it holds, goes from s to s' and hands on a -/
noncomputable def SGo (w : World) (c : Code) (p : Pos) (stk : List Frame) (b : Nat) {α : Type} (m : Sem α) (s s' : Shared) (a : α) : Prop :=
  ∀ (vs : List Value) (K : α → Sem Fin), Go w b s ⟨(m.keep vs).bind K, c, p, stk⟩ s' ⟨K a, c, p, stk⟩

section
variable {w : World} {c : Code} {p : Pos} {stk : List Frame} {α β : Type} {s s' s₁ : Shared}
theorem SGo.at {m : Sem α} {a : α} {b : Nat} (x : SGo w c p stk b m s s' a) (K : α → Sem Fin) : Go w b s ⟨m.bind K, c, p, stk⟩ s' ⟨K a, c, p, stk⟩ := by
  have := x [] K
  rw [Sem.keep_nil] at this
  exact this
theorem SGo.pure {a : α} : SGo w c p stk 0 (pure a : Sem α) s s a := fun vs K => Go.refl
theorem SGo.bind {m : Sem α} {f : α → Sem β} {a : α} {d : β} {i j : Nat} (x : SGo w c p stk i m s s₁ a) (y : SGo w c p stk j (f a) s₁ s' d) : SGo w c p stk (i + j) (m >>= f) s s' d := fun vs K => by
  have := (x vs fun a => ((f a).keep vs).bind K).trans (y vs K)
  rw [← Sem.bind_assoc, ← Sem.keep_bind] at this
  exact this
theorem SGo.le {m : Sem α} {a : α} {i j : Nat} (x : SGo w c p stk i m s s' a) (h : i ≤ j) : SGo w c p stk j m s s' a := fun vs K => (x vs K).le h
theorem SGo.keep {us : List Value} {m : Sem α} {a : α} {i : Nat} (x : SGo w c p stk i m s s' a) : SGo w c p stk i (m.keep us) s s' a := fun vs K => by
  rw [Sem.keep_keep]
  exact x (vs ++ us) K
theorem SGo.holding {us : List Value} {m : Sem α} {a : α} {i : Nat} (x : SGo w c p stk i m s s' a) : SGo w c p stk i (PySem.holding us m) s s' a := by
  rw [holding_eq_keep]
  exact x.keep
theorem go_one {s s' : Shared} {t t' : Thread} (h : through t = false) (hk : stepOk 28 ann t = true) (hs : step (denote treeTable) pw w s t = .go s' t') : go w 1 s t = some (s', t') := by
  unfold go topGo
  rw [h, hk, hs]
  rfl
theorem SGo.load {a : Addr} {q : Option Value} {o : Obj} (h : s.heap.get? a = some o) : SGo w c p stk 1 (loadPart a q) s s o := fun vs K => Go.of (n := 1) (by
  show go w 1 s ⟨.load a q fun x => (Sem.pure x).bind K, c, p, stk⟩ = _
  refine go_one (Bool.and_false _) rfl ?_
  obtain ⟨hp, g, d, k, os⟩ := s
  simp only [step]
  rw [show hp.get? a = some o from h]
  rfl)
theorem SGo.load' {a : Addr} {o : Obj} (h : s.heap.get? a = some o) : SGo w c p stk 1 (PySem.load a) s s o := SGo.load h
theorem SGo.update {a : Addr} {f : Obj → Obj} {o : Obj} (h : s.heap.get? a = some o) (ha : 28 ≤ a) : SGo w c p stk 1 (PySem.update a f) s { s with heap := s.heap.update a f } () := fun vs K => Go.of (n := 1) (by
  have hk : stepOk 28 ann ⟨.update a none f fun x => (Sem.pure x).bind K, c, p, stk⟩ = true := by
    show (true && (Nat.ble 28 a || _ || _ || _)) = true
    rw [Nat.ble_eq_true_of_le ha]; rfl
  show go w 1 s ⟨.update a none f fun x => (Sem.pure x).bind K, c, p, stk⟩ = _
  refine go_one (Bool.and_false _) hk ?_
  obtain ⟨hp, g, d, k, os⟩ := s
  simp only [step]
  rw [show (hp.get? a).isSome = true by rw [show hp.get? a = some o from h]; rfl]
  rfl)
theorem SGo.rule {t : String} : SGo w c p stk 1 (PySem.rule t) s s () := fun vs K => Go.of (n := 1) (go_one (Bool.and_false _) rfl rfl)
theorem SGo.point : SGo w c p stk 1 PySem.point s s () := fun vs K => Go.of (n := 1) (go_one (Bool.and_false _) rfl rfl)
theorem SGo.ask : SGo w c p stk 1 PySem.ask s s ⟨pw, w.params⟩ := fun vs K => Go.of (n := 1) (go_one (Bool.and_false _) rfl rfl)
theorem SGo.alloc {o : Obj} : SGo w c p stk 1 (PySem.alloc o) s { s with heap := s.heap.push o } s.heap.objs.size := fun vs K => Go.of (n := 1) (go_one (Bool.and_false _) rfl rfl)
theorem SGo.ite_pos {q : Prop} [Decidable q] {x y : Sem α} {a : α} {i : Nat} (h : q) (g : SGo w c p stk i x s s' a) : SGo w c p stk i (if q then x else y) s s' a := by rw [if_pos h]; exact g
theorem SGo.ite_neg {q : Prop} [Decidable q] {x y : Sem α} {a : α} {i : Nat} (h : ¬ q) (g : SGo w c p stk i y s s' a) : SGo w c p stk i (if q then x else y) s s' a := by rw [if_neg h]; exact g
end
end Mine
end

section
open PySem PySem.W PySem.Challenge PyProof.Rows
set_option maxRecDepth 100000
set_option Elab.async false
set_option linter.unusedVariables false
namespace Mine
/-- the probe's road behind the hash's bits -/
noncomputable def hop (M i : Nat) : Nat := (i * 5 + 1) % M
noncomputable def hops (M : Nat) : Nat → Nat → Nat
  | 0, i => i
  | n + 1, i => hops M n (hop M i)
noncomputable def cov (M : Nat) : Nat → Nat → Nat → Nat
  | 0, _, acc => acc
  | n + 1, i, acc => cov M n (hop M i) (acc ||| (1 <<< i))
theorem cov_bit (M : Nat) : ∀ (n i acc j : Nat), (cov M n i acc).testBit j = true → acc.testBit j = true ∨ ∃ k, k < n ∧ hops M k i = j
  | 0, i, acc, j, h => .inl h
  | n + 1, i, acc, j, h => by
    rcases cov_bit M n (hop M i) (acc ||| (1 <<< i)) j h with q | ⟨k, hk, e⟩
    · rw [Nat.testBit_or, Bool.or_eq_true] at q
      rcases q with q | q
      · exact .inl q
      · refine .inr ⟨0, Nat.succ_pos _, ?_⟩
        rw [Nat.testBit_shiftLeft] at q
        simp only [Bool.and_eq_true, decide_eq_true_eq] at q
        obtain ⟨q1, q2⟩ := q
        have : j - i = 0 := by
          rcases Nat.eq_zero_or_pos (j - i) with z | z
          · exact z
          · exfalso
            rw [show (1 : Nat) = 2 ^ 0 from rfl, Nat.testBit_two_pow] at q2
            simp at q2; omega
        show i = j
        omega
    · exact .inr ⟨k + 1, Nat.succ_lt_succ hk, e⟩
theorem cov_all {M : Nat} (c : ((List.range M).all fun i => cov M M i 0 == 2 ^ M - 1) = true) {i j : Nat} (hi : i < M) (hj : j < M) : ∃ k, k < M ∧ hops M k i = j := by
  have := List.all_eq_true.mp c i (List.mem_range.mpr hi)
  rw [beq_iff_eq] at this
  have b : (cov M M i 0).testBit j = true := by rw [this, Nat.testBit_two_pow_sub_one]; exact decide_eq_true hj
  rcases cov_bit M M i 0 j b with q | q
  · rw [Nat.zero_testBit] at q; cases q
  · exact q
theorem cov8 : ((List.range 8).all fun i => cov 8 8 i 0 == 2 ^ 8 - 1) = true := by decide +kernel
theorem cov128 : ((List.range 128).all fun i => cov 128 128 i 0 == 2 ^ 128 - 1) = true := by decide +kernel

/-- where the road stands after so many leaps -/
noncomputable def road (mask : Nat) : Nat → Nat × Nat → Nat × Nat
  | 0, x => x
  | n + 1, x => road mask n (SetTable.leap mask x.1 x.2)
theorem road_snd (mask : Nat) : ∀ (n : Nat) (x : Nat × Nat), (road mask n x).2 = x.2 / 32 ^ n
  | 0, x => by simp [road]
  | n + 1, x => by
    rw [road, road_snd mask n]
    show x.2 / 32 / 32 ^ n = _
    rw [Nat.div_div_eq_div_mul, Nat.pow_succ, Nat.mul_comm]
theorem road_add (mask : Nat) : ∀ (n m : Nat) (x : Nat × Nat), road mask (n + m) x = road mask m (road mask n x)
  | 0, m, x => by rw [Nat.zero_add]; rfl
  | n + 1, m, x => by rw [Nat.succ_add, road, road_add mask n m]; rfl
theorem road_hops (mask : Nat) : ∀ (n i : Nat), road mask n (i, 0) = (hops (mask + 1) n i, 0)
  | 0, i => rfl
  | n + 1, i => by
    rw [road]
    show road mask n ((i * 5 + 1 + 0 / 32) % (mask + 1), 0 / 32) = _
    rw [show 0 / 32 = 0 from rfl, Nat.add_zero, road_hops mask n]
    rfl
theorem road_fst_lt (mask : Nat) : ∀ (n : Nat) (x : Nat × Nat), x.1 < mask + 1 → (road mask n x).1 < mask + 1
  | 0, x, h => h
  | n + 1, x, h => road_fst_lt mask n _ (Nat.mod_lt _ (Nat.succ_pos _))
/-- a search that finds nothing has met a taken place at every leap -/
theorem free_none (mask : Nat) (owner : Array (Option Nat)) : ∀ (n i p : Nat), SetTable.layClean.free mask owner n i p = none → ∀ t, t < n → owner.getD (road mask t (i, p)).1 (some 0) ≠ none
  | 0, i, p, h, t, ht => absurd ht (Nat.not_lt_zero _)
  | n + 1, i, p, h, t, ht => by
    unfold SetTable.layClean.free at h
    split at h
    · cases h
    · rename_i hf
      cases t with
      | zero =>
        intro q
        have hm : 0 ∈ List.range (SetTable.runEnd mask i + 1 - i) := by
          rw [List.mem_range]
          unfold SetTable.runEnd
          split <;> omega
        have := List.find?_eq_none.mp hf 0 hm
        rw [Nat.add_zero] at this
        rw [show owner.getD i (some 0) = none from q] at this
        exact this rfl
      | succ t => exact free_none mask owner n _ _ h t (Nat.lt_of_succ_lt_succ ht)
theorem free_at (mask : Nat) (owner : Array (Option Nat)) : ∀ (n i p j : Nat), SetTable.layClean.free mask owner n i p = some j → owner.getD j (some 0) = none
  | 0, i, p, j, h => by unfold SetTable.layClean.free at h; cases h
  | n + 1, i, p, j, h => by
    unfold SetTable.layClean.free at h
    split at h
    · rename_i k hk
      obtain rfl := Option.some.inj h
      have := List.find?_some hk
      exact Option.isNone_iff_eq_none.mp this
    · exact free_at mask owner n _ _ j h
theorem bits_lt (h : Int) : SetTable.bits h < 2 ^ 64 := by
  unfold SetTable.bits
  have a := Int.emod_nonneg h (show (2 ^ 64 : Int) ≠ 0 by decide)
  have b := Int.emod_lt_of_pos h (show (0 : Int) < 2 ^ 64 by decide)
  omega
theorem free_some {mask : Nat} (c : ((List.range (mask + 1)).all fun i => cov (mask + 1) (mask + 1) i 0 == 2 ^ (mask + 1) - 1) = true) (owner : Array (Option Nat)) (j : Nat) (hj : j < mask + 1) (hn : owner.getD j (some 0) = none) (h : Int) :
    ∃ k, SetTable.layClean.free mask owner (SetTable.turns mask) (SetTable.bits h % (mask + 1)) (SetTable.bits h) = some k ∧ owner.getD k (some 0) = none := by
  cases e : SetTable.layClean.free mask owner (SetTable.turns mask) (SetTable.bits h % (mask + 1)) (SetTable.bits h) with
  | some k => exact ⟨k, rfl, free_at _ _ _ _ _ _ e⟩
  | none =>
    exfalso
    have all := free_none mask owner _ _ _ e
    have z : (road mask 13 (SetTable.bits h % (mask + 1), SetTable.bits h)).2 = 0 := by
      rw [road_snd]
      exact Nat.div_eq_of_lt (Nat.lt_trans (bits_lt h) (by decide))
    have l : (road mask 13 (SetTable.bits h % (mask + 1), SetTable.bits h)).1 < mask + 1 := road_fst_lt _ _ _ (Nat.mod_lt _ (Nat.succ_pos _))
    obtain ⟨k, hk, ek⟩ := cov_all c l hj
    have := all (13 + k) (by unfold SetTable.turns; omega)
    rw [road_add] at this
    rw [show road mask 13 (SetTable.bits h % (mask + 1), SetTable.bits h) = ((road mask 13 (SetTable.bits h % (mask + 1), SetTable.bits h)).1, 0) from Prod.ext rfl z, road_hops] at this
    exact this (by rw [← hn, ← ek])
end Mine
end

section
open PySem PySem.W PySem.Challenge PyProof.Rows
set_option maxRecDepth 100000
set_option Elab.async false
set_option linter.unusedVariables false
namespace Mine
theorem fm_len : ∀ {l : List (Option Nat)}, (∀ x ∈ l, x ≠ none) → (l.filterMap id).length = l.length
  | [], _ => rfl
  | some a :: r, h => by simp only [List.filterMap_cons, id, List.length_cons]; rw [fm_len fun x hx => h x (.tail _ hx)]
  | none :: r, h => absurd rfl (h none (.head _))
theorem fm_set : ∀ {l : List (Option Nat)} {j k : Nat}, l[j]? = some none → ((l.set j (some k)).filterMap id).Perm (k :: l.filterMap id)
  | [], j, k, h => by simp at h
  | x :: r, 0, k, h => by
    simp only [List.getElem?_cons_zero, Option.some.injEq] at h
    subst h
    simp
  | x :: r, j + 1, k, h => by
    simp only [List.getElem?_cons_succ] at h
    have ih := fm_set (k := k) h
    cases x with
    | none => simpa using ih
    | some a =>
      simp only [List.set_cons_succ, List.filterMap_cons, id]
      exact (ih.cons a).trans (List.Perm.swap ..)
noncomputable def LayInv (mask : Nat) (owner : Array (Option Nat)) (k : Nat) : Prop := owner.size = mask + 1 ∧ (owner.toList.filterMap id).Perm (List.range k)
theorem getD_none {owner : Array (Option Nat)} {j : Nat} (h : owner.getD j (some 0) = none) : owner[j]? = some none := by
  rw [Array.getD_eq_getD_getElem?] at h
  cases q : owner[j]? with
  | none => rw [q] at h; cases h
  | some a => rw [q] at h; exact congrArg some h
theorem inv_room {mask : Nat} {owner : Array (Option Nat)} {k : Nat} (I : LayInv mask owner k) (hk : k < mask + 1) : ∃ j, j < mask + 1 ∧ owner.getD j (some 0) = none := by
  by_cases h : ∀ x ∈ owner.toList, x ≠ none
  · exfalso
    have a := fm_len h
    have b := I.2.length_eq
    rw [List.length_range] at b
    have a' : (List.filterMap id owner.toList).length = owner.size := a.trans Array.length_toList
    rw [I.1] at a'
    omega
  · have ⟨x, hx⟩ := Classical.not_forall.mp h
    have ⟨hm, hn⟩ := Classical.not_imp.mp hx
    have hn : x = none := Classical.not_not.mp hn
    subst hn
    obtain ⟨j, hj, e⟩ := List.getElem_of_mem hm
    rw [Array.length_toList] at hj
    refine ⟨j, by rw [← I.1]; exact hj, ?_⟩
    rw [Array.getD_eq_getD_getElem?, ← Array.getElem?_toList, List.getElem?_eq_getElem (by rw [Array.length_toList]; exact hj), e]
    rfl
noncomputable def layStep (mask : Nat) (acc : Option (Array (Option Nat) × Nat)) (h : Int) : Option (Array (Option Nat) × Nat) := do
  let (owner, k) ← acc
  let j ← SetTable.layClean.free mask owner (SetTable.turns mask) (SetTable.bits h % (mask + 1)) (SetTable.bits h)
  pure (owner.setIfInBounds j (some k), k + 1)
theorem lay_fold {mask : Nat} (c : ((List.range (mask + 1)).all fun i => cov (mask + 1) (mask + 1) i 0 == 2 ^ (mask + 1) - 1) = true) : ∀ (l : List Int) (owner : Array (Option Nat)) (k : Nat), LayInv mask owner k → k + l.length ≤ mask + 1 →
    ∃ owner', l.foldl (layStep mask) (some (owner, k)) = some (owner', k + l.length) ∧ LayInv mask owner' (k + l.length)
  | [], owner, k, I, _ => ⟨owner, rfl, I⟩
  | h :: r, owner, k, I, hl => by
    rw [List.length_cons] at hl
    obtain ⟨j, hj, hn⟩ := inv_room I (by omega)
    obtain ⟨q, eq, nq⟩ := free_some c owner j hj hn h
    have I' : LayInv mask (owner.setIfInBounds q (some k)) (k + 1) := by
      refine ⟨by rw [Array.size_setIfInBounds]; exact I.1, ?_⟩
      rw [Array.toList_setIfInBounds]
      refine (fm_set (by rw [Array.getElem?_toList]; exact getD_none nq)).trans ?_
      rw [List.range_succ]
      exact (I.2.cons k).trans (List.perm_append_singleton k _).symm
    obtain ⟨o', e, J⟩ := lay_fold c r _ (k + 1) I' (by omega)
    refine ⟨o', ?_, by rw [List.length_cons, show k + (r.length + 1) = k + 1 + r.length by omega]; exact J⟩
    rw [List.foldl_cons]
    have : layStep mask (some (owner, k)) h = some (owner.setIfInBounds q (some k), k + 1) := by
      unfold layStep
      show (SetTable.layClean.free mask owner (SetTable.turns mask) (SetTable.bits h % (mask + 1)) (SetTable.bits h)).bind _ = _
      rw [eq]
      rfl
    rw [this, e, List.length_cons, show k + (r.length + 1) = k + 1 + r.length by omega]
theorem layClean_ok {mask : Nat} (c : ((List.range (mask + 1)).all fun i => cov (mask + 1) (mask + 1) i 0 == 2 ^ (mask + 1) - 1) = true) (hashes : Array Int) (hn : hashes.size ≤ mask + 1) :
    ∃ owner, SetTable.layClean mask hashes = some owner ∧ LayInv mask owner hashes.size := by
  have I₀ : LayInv mask (Array.replicate (mask + 1) none) 0 := ⟨Array.size_replicate, by
    rw [Array.toList_replicate]
    have : ∀ n, (List.replicate n (none : Option Nat)).filterMap id = [] := fun n => by
      induction n with
      | zero => rfl
      | succ n ih => rw [List.replicate_succ, List.filterMap_cons]; exact ih
    rw [this]; exact .nil⟩
  obtain ⟨o, e, I⟩ := lay_fold c hashes.toList _ 0 I₀ (by rw [Array.length_toList]; omega)
  rw [Nat.zero_add, Array.length_toList] at e I
  refine ⟨o, ?_, I⟩
  unfold SetTable.layClean
  rw [← Array.foldl_toList]
  show (hashes.toList.foldl (layStep mask) (some (Array.replicate (mask + 1) none, 0))).map (·.1) = _
  rw [e]
  rfl
theorem live_snd (n : Nat) (owner : Array (Option Nat)) (h : owner.size = n) : ((List.range n).filterMap fun j => (owner.getD j none).map (j, ·)).map (·.2) = owner.toList.filterMap id := by
  rw [List.map_filterMap]
  have : owner.toList = (List.range n).map fun j => owner.getD j none := by
    apply List.ext_getElem?
    intro i
    rw [Array.getElem?_toList, List.getElem?_map]
    by_cases hi : i < n
    · rw [List.getElem?_range hi, Array.getElem?_eq_getElem (h ▸ hi)]
      simp [Array.getD, h ▸ hi]
    · rw [List.getElem?_eq_none (by rw [List.length_range]; omega), Array.getElem?_eq_none (by omega)]
      rfl
  rw [this, List.filterMap_map]
  congr 1
  funext j
  show ((owner.getD j none).map (j, ·)).map (·.2) = id (owner.getD j none)
  cases owner.getD j none <;> rfl
theorem laid_ok {mask : Nat} (c : ((List.range (mask + 1)).all fun i => cov (mask + 1) (mask + 1) i 0 == 2 ^ (mask + 1) - 1) = true) (finger moves : Nat) (led plain : Bool) (hashes : Array Int) (hn : hashes.size ≤ mask + 1) :
    ∃ place order : Array Nat, SetTable.laid mask finger moves led plain hashes = some ({ mask, place, dummies := #[], finger, led, moves, plain }, order) ∧ place.size = hashes.size ∧ order.toList.Perm (List.range hashes.size) := by
  obtain ⟨o, e, I⟩ := layClean_ok c hashes hn
  refine ⟨(((List.range (mask + 1)).filterMap fun j => (o.getD j none).map (j, ·)).map (·.1)).toArray, (((List.range (mask + 1)).filterMap fun j => (o.getD j none).map (j, ·)).map (·.2)).toArray, ?_, ?_, ?_⟩
  · unfold SetTable.laid
    rw [e]
    rfl
  · have := I.2.length_eq
    rw [← live_snd (mask + 1) o I.1, List.length_map, List.length_range] at this
    rw [List.size_toArray, List.length_map]
    exact this
  · show (((List.range (mask + 1)).filterMap fun j => (o.getD j none).map (j, ·)).map (·.2)).Perm _
    rw [live_snd (mask + 1) o I.1]
    exact I.2
theorem order_perm {α : Type} (es : Array α) (order : Array Nat) (h : order.toList.Perm (List.range es.size)) : (order.filterMap (es[·]?)).toList.Perm es.toList := by
  rw [Array.toList_filterMap]
  refine (h.filterMap _).trans ?_
  rw [← Array.length_toList]
  have : (fun i => es[i]?) = fun i => es.toList[i]? := funext fun i => Array.getElem?_toList.symm
  rw [this, List.filterMap_getElem?_range_length]
end Mine
end

section
open PySem PySem.W PySem.Challenge PyProof.Rows
set_option maxRecDepth 100000
set_option Elab.async false
set_option linter.unusedVariables false
namespace Mine
theorem objs_of_get {h : Heap} {a : Addr} {o : Obj} (e : h.get? a = some o) : h.objs[a]? = some o := by
  unfold Heap.get? at e
  split at e
  · cases e
  · exact e
theorem update_congr {h : Heap} {a : Addr} {o : Obj} {f g : Obj → Obj} (e : h.get? a = some o) (q : f o = g o) : h.update a f = h.update a g := by
  have e' := objs_of_get e
  obtain ⟨objs, l⟩ := h
  show Heap.mk _ _ = Heap.mk _ _
  congr 1
  apply Array.ext_getElem?
  intro i
  rw [Array.getElem?_modify, Array.getElem?_modify]
  by_cases hi : a = i
  · subst hi
    rw [if_pos rfl, if_pos rfl]
    show (objs[a]?).map f = (objs[a]?).map g
    rw [show objs[a]? = some o from e']
    exact congrArg some q
  · rw [if_neg hi, if_neg hi]
theorem update_update (h : Heap) (a : Addr) (f g : Obj → Obj) : (h.update a f).update a g = h.update a fun o => g (f o) := by
  obtain ⟨objs, l⟩ := h
  show Heap.mk _ _ = Heap.mk _ _
  congr 1
  apply Array.ext_getElem?
  intro i
  rw [Array.getElem?_modify, Array.getElem?_modify, Array.getElem?_modify]
  by_cases hi : a = i
  · subst hi
    rw [if_pos rfl, if_pos rfl, if_pos rfl]
    cases objs[a]? <;> rfl
  · rw [if_neg hi, if_neg hi, if_neg hi]
/-- the set object at a now holds D -/
noncomputable def setAt (s : Shared) (a : Addr) (D : Data) : Shared := { s with heap := s.heap.update a fun _ => fz D }
theorem setAt_get {s : Shared} {a : Addr} {o : Obj} {D : Data} {es ep t} (e : s.heap.get? a = some o) (hD : D = .set es ep t) : (setAt s a D).heap.get? a = some (fz D) := by
  subst hD
  exact Heap.get?_update_self _ e rfl
theorem setAt_ne {s : Shared} {a b : Addr} {D : Data} (h : b ≠ a) : (setAt s a D).heap.get? b = s.heap.get? b := Heap.get?_update_ne _ _ _ _ h
theorem setAt_setAt {s : Shared} {a : Addr} {D D' : Data} : setAt (setAt s a D) a D' = setAt s a D' := by
  unfold setAt
  rw [update_update]

noncomputable abbrev kh (P : Params) (c : Nat) : Int := PyData.keyHash P ⟨#[c]⟩
noncomputable abbrev el (P : Params) (x : Nat × Nat) : Int × Value := (kh P x.1, .str ⟨#[x.1]⟩ x.2)
/-- D is a set of the one-sign texts xs (sign, token), in some order -/
noncomputable def SetD (P : Params) (xs : List (Nat × Nat)) (D : Data) : Prop := ∃ es ep t, D = .set es ep t ∧ t.fits es.size = true ∧ es.toList.Perm (xs.map (el P))
/-- .. in a clean table of that size -/
noncomputable def SetC (P : Params) (xs : List (Nat × Nat)) (m : Nat) (D : Data) : Prop := ∃ es ep t, D = .set es ep t ∧ t.fits es.size = true ∧ es.toList.Perm (xs.map (el P)) ∧ t.mask = m ∧ t.dummies = #[]
theorem SetC.d {P : Params} {xs : List (Nat × Nat)} {m : Nat} {D : Data} (h : SetC P xs m D) : SetD P xs D := let ⟨es, ep, t, a, b, c, _⟩ := h; ⟨es, ep, t, a, b, c⟩
theorem perm_size {P : Params} {xs : List (Nat × Nat)} {es : Array (Int × Value)} (p : es.toList.Perm (xs.map (el P))) : es.size = xs.length := by
  have := p.length_eq
  rw [Array.length_toList, List.length_map] at this
  exact this
theorem perm_scan {P : Params} {xs : List (Nat × Nat)} {es : Array (Int × Value)} (p : es.toList.Perm (xs.map (el P))) : es.all (fun e => e.2.scannable) = true ∧ es.all (fun e => isExactStrKey e.2) = true := by
  constructor <;>
  · rw [← Array.all_toList, List.all_eq_true]
    intro e he
    obtain ⟨x, _, rfl⟩ := List.mem_map.mp (p.mem_iff.mp he)
    rfl
theorem perm_byScan {P : Params} {xs : List (Nat × Nat)} {es : Array (Int × Value)} (p : es.toList.Perm (xs.map (el P))) (hx : xs.length < 4000) (x : Str) (t : Tok) : byScan (.str x t) es = true := by
  unfold byScan
  rw [(perm_scan p).1, perm_size p]
  simp only [Value.scannable, Bool.true_and, Bool.and_true, decide_eq_true_eq]
  exact Nat.lt_trans hx (by decide)
theorem perm_absent {P : Params} {xs : List (Nat × Nat)} {es : Array (Int × Value)} (p : es.toList.Perm (xs.map (el P))) {c : Nat} (hc : c ∉ xs.map (·.1)) : es.findIdx? (fun e => e.2.isStr ⟨#[c]⟩) = none := by
  have : es.findIdx? (fun e => e.2.isStr ⟨#[c]⟩) = es.toList.findIdx? (fun e => e.2.isStr ⟨#[c]⟩) := by cases es; simp
  rw [this, List.findIdx?_eq_none_iff]
  intro e he
  obtain ⟨x, hx, rfl⟩ := List.mem_map.mp (p.mem_iff.mp he)
  show ((⟨#[x.1]⟩ : Str) == ⟨#[c]⟩) = false
  rw [beq_eq_false_iff_ne]
  intro q
  apply hc
  rw [List.mem_map]
  refine ⟨x, hx, ?_⟩
  have := congrArg (fun s : Str => s.cps.toList) q
  simpa using this

section
variable {w : World} {cd : Code} {p : Pos} {stk : List Frame} {s : Shared} {a : Addr} {es : Array (Int × Value)} {ep : Nat} {t : SetTable}
theorem sg_state (ho : s.heap.get? a = some (fz (.set es ep t))) (hf : t.fits es.size = true) : SGo w cd p stk 1 (setState a) s s (es, ep, t) := by
  unfold setState
  refine SGo.bind (i := 1) (j := 0) (SGo.load' ho) ?_
  have hc : (t.place.size != es.size || decide (t.fill > t.mask)) = false := by
    simp only [SetTable.fits, Bool.and_eq_true, beq_iff_eq, decide_eq_true_eq] at hf
    simp [hf.1, Nat.not_lt.mpr hf.2]
  dsimp only
  rw [hc]
  exact SGo.pure
theorem sg_entries (ho : s.heap.get? a = some (fz (.set es ep t))) (hf : t.fits es.size = true) : SGo w cd p stk 1 (setEntries a) s s es := by
  unfold setEntries
  exact SGo.bind (i := 1) (j := 0) (sg_state ho hf) SGo.pure
theorem sg_epoch (ho : s.heap.get? a = some (fz (.set es ep t))) (hf : t.fits es.size = true) : SGo w cd p stk 1 (setEpoch a) s s ep := by
  unfold setEpoch
  exact SGo.bind (i := 1) (j := 0) (sg_state ho hf) SGo.pure
theorem sg_store {es' : Array (Int × Value)} {t' : SetTable} (ho : s.heap.get? a = some (fz (.set es ep t))) (ha : 28 ≤ a) (hz : es'.size ≤ 4096) : SGo w cd p stk 2 (storeSet a es' t') s (setAt s a (.set es' (ep + 1) t')) () := by
  unfold storeSet
  refine SGo.bind (i := 1) (j := 1) (SGo.load' ho) ?_
  dsimp only
  rw [if_neg (Nat.not_lt.mpr (Nat.le_trans hz (by decide)))]
  have := SGo.update (w := w) (c := cd) (p := p) (stk := stk) (f := Obj.putSet es' t') ho ha
  rw [update_congr (g := fun _ => fz (.set es' (ep + 1) t')) ho rfl] at this
  exact this
theorem sg_gave {b : Bool} : SGo w cd p stk 1 (match b with | true => rule "set.scan.the-table-gave-way" | false => pure ()) s s () := by
  cases b
  · exact SGo.pure.le (by decide)
  · exact SGo.rule
theorem sg_add {P : Params} {xs : List (Nat × Nat)} {D : Data} {c tk : Nat} (hD : SetD P xs D) (hc : c ∉ xs.map (·.1)) (hx : xs.length < 4000) (ho : s.heap.get? a = some (fz D)) (ha : 28 ≤ a) :
    ∃ D', SetD P (xs ++ [(c, tk)]) D' ∧ SGo w cd p stk 8 (setAddHashed a (.str ⟨#[c]⟩ tk) (kh P c)) s (setAt s a D') true := by
  obtain ⟨es, ep, t, rfl, hf, hp⟩ := hD
  have hperm := layNew_perm t es (kh P c) (.str ⟨#[c]⟩ tk)
  have hfits := layNew_fits t es (kh P c) (.str ⟨#[c]⟩ tk)
  have key : ∃ D', SetD P (xs ++ [(c, tk)]) D' ∧ SGo w cd p stk 7 (setAddByScan a (.str ⟨#[c]⟩ tk) (kh P c) es t) s (setAt s a D') (some true) := by
    unfold setAddByScan
    generalize hL : layNew t es (kh P c) (.str ⟨#[c]⟩ tk) = L at hperm hfits
    obtain ⟨es1, t1, wasDummy, gave⟩ := L
    dsimp only at hperm hfits
    rw [Array.toList_push] at hperm
    have hp1 : es1.toList.Perm ((xs ++ [(c, tk)]).map (el P)) := by
      rw [List.map_append]
      exact hperm.trans (hp.append_right _)
    have hz1 : es1.size ≤ 4096 := by rw [perm_size hp1, List.length_append]; simp; omega
    have hscan : SGo w cd p stk 0 (setScan a (.str ⟨#[c]⟩ tk) (kh P c) true es) s s ScanMet.absent := by
      unfold setScan
      dsimp only
      rw [if_pos (perm_scan hp).2]
      unfold setScanStrs
      rw [perm_absent hp hc]
      exact SGo.pure
    have tail : ∀ t2 : SetTable, t2.fits es1.size = true → ∃ D', SetD P (xs ++ [(c, tk)]) D' ∧ SGo w cd p stk 5 (do
        storeSet a es1 t2
        if (!wasDummy && t2.tooFull) = true then do
            (match (relayAll t2 es1 (SetTable.grown es1.size)).2.2 with | true => rule "set.scan.the-table-gave-way" | false => pure ())
            storeSet a (relayAll t2 es1 (SetTable.grown es1.size)).1 (relayAll t2 es1 (SetTable.grown es1.size)).2.1
            pure (some true)
          else pure (some true)) s (setAt s a D') (some true) := by
      intro t2 hf2
      cases hb : (!wasDummy && t2.tooFull) with
      | false =>
        refine ⟨_, ⟨es1, ep + 1, t2, rfl, hf2, hp1⟩, ?_⟩
        refine SGo.bind (i := 2) (j := 3) (sg_store ho ha hz1) ?_
        rw [if_neg Bool.false_ne_true]
        exact SGo.pure.le (by decide)
      | true =>
        have hpr := relayAll_perm t2 es1 (SetTable.grown es1.size)
        have hfr := relayAll_fits t2 es1 (SetTable.grown es1.size)
        generalize hR : relayAll t2 es1 (SetTable.grown es1.size) = R at hpr hfr
        obtain ⟨es2, t3, gave2⟩ := R
        dsimp only at hpr hfr
        have hz2 : es2.size ≤ 4096 := by rw [perm_size (hpr.trans hp1), List.length_append]; simp; omega
        refine ⟨_, ⟨es2, ep + 1 + 1, t3, rfl, hfr, hpr.trans hp1⟩, ?_⟩
        refine SGo.bind (i := 2) (j := 3) (sg_store ho ha hz1) ?_
        rw [if_pos rfl]
        refine SGo.bind (i := 1) (j := 2) sg_gave ?_
        have := sg_store (w := w) (cd := cd) (p := p) (stk := stk) (es' := es2) (t' := t3) (setAt_get ho (D := .set es1 (ep + 1) t2) rfl) ha hz2
        rw [setAt_setAt] at this
        exact SGo.bind (i := 2) (j := 0) this SGo.pure
    have hfin : ∀ byValue : Bool, (if byValue = true then t1 else { t1 with plain := false }).fits es1.size = true := by
      intro b
      cases b
      · exact SetTable.fits_plain_off hfits
      · exact hfits
    obtain ⟨D', hD', hg⟩ := tail (if (if t1.plain then false else true) = true then t1 else { t1 with plain := false }) (hfin _)
    refine ⟨D', hD', ?_⟩
    refine SGo.bind (i := 1) (j := 6) SGo.rule ?_
    refine SGo.bind (i := 0) (j := 6) hscan ?_
    dsimp only
    refine SGo.bind (i := 1) (j := 5) sg_gave ?_
    cases hpl : t1.plain with
    | true =>
      rw [hpl] at hg
      rw [if_pos rfl]
      refine SGo.bind (i := 0) (j := 5) (a := false) (s₁ := s) ?_ ?_
      · rw [hashByValue_scannable 8 rfl]
        exact SGo.pure
      · exact hg
    | false =>
      rw [hpl] at hg
      rw [if_neg Bool.false_ne_true]
      exact SGo.bind (i := 0) (j := 5) (a := true) SGo.pure hg
  obtain ⟨D', hD', hg⟩ := key
  refine ⟨D', hD', ?_⟩
  unfold setAddHashed
  refine SGo.holding ?_
  rw [show (100000 : Nat) = 99999 + 1 from rfl]
  unfold setAddHashedIn
  refine SGo.bind (i := 1) (j := 7) (sg_state ho hf) ?_
  dsimp only
  rw [perm_byScan hp hx, if_pos rfl]
  exact SGo.bind (i := 7) (j := 0) hg SGo.pure
end
end Mine
end

section
open PySem PySem.W PySem.Challenge PyProof.Rows
set_option maxRecDepth 100000
set_option Elab.async false
set_option linter.unusedVariables false
namespace Mine
noncomputable abbrev CovOk (m : Nat) : Prop := ((List.range (m + 1)).all fun i => cov (m + 1) (m + 1) i 0 == 2 ^ (m + 1) - 1) = true
section
variable {w : World} {cd : Code} {p : Pos} {stk : List Frame} {s : Shared} {a o : Addr} {P : Params} {xs : List (Nat × Nat)} {D : Data}
/-- the fresh table, and the one that room is made in -/
noncomputable def F0 (led : Bool) : Data := .set #[] 0 (SetTable.fresh 0 0 led)
noncomputable def F1 (led : Bool) : Data := .set #[] 1 { SetTable.fresh 0 1 led with mask := 127 }
theorem relay_empty (led : Bool) (k : Nat) (hk : SetTable.sizeAbove k = 128) : (SetTable.fresh 0 0 led).relaid #[] k = some ({ SetTable.fresh 0 1 led with mask := 127 }, #[]) := by
  unfold SetTable.relaid
  rw [hk]
  cases led <;> decide +kernel
theorem sg_roomBig {led : Bool} {n k : Nat} (ho : s.heap.get? a = some (fz (F0 led))) (ha : 28 ≤ a) (hr : (SetTable.fresh 0 0 led).roomFor n = some k) (hk : SetTable.sizeAbove k = 128) : SGo w cd p stk 4 (setRoomFor a n) s (setAt s a (F1 led)) () := by
  unfold setRoomFor setRelay
  refine SGo.bind (i := 1) (j := 3) (sg_state ho rfl) ?_
  dsimp only
  rw [hr]
  dsimp only
  refine SGo.bind (i := 1) (j := 2) (sg_state ho rfl) ?_
  dsimp only
  rw [hk, if_neg (by decide)]
  rw [show (Array.map (fun x : Int × Value => x.1) #[]) = #[] from Array.map_empty, relay_empty led k hk]
  refine SGo.bind (i := 0) (j := 2) (a := (#[], _)) (s₁ := s) (SGo.pure) ?_
  exact sg_store ho ha (Nat.zero_le _)
theorem sg_roomNone {es : Array (Int × Value)} {ep : Nat} {t : SetTable} {n : Nat} (ho : s.heap.get? a = some (fz (.set es ep t))) (hf : t.fits es.size = true) (hr : t.roomFor n = none) : SGo w cd p stk 1 (setRoomFor a n) s s () := by
  unfold setRoomFor
  refine SGo.bind (i := 1) (j := 0) (sg_state ho hf) ?_
  dsimp only
  rw [hr]
  exact SGo.pure
/-- the copy of a whole set into an empty table of m + 1 places -/
theorem sg_mergeTail {m : Nat} {e : Nat} {ts : SetTable} {eo : Array (Int × Value)} {to : SetTable} {rest : Sem Unit} (cv : CovOk m) (hm : ts.mask = m) (h1 : ts.place = #[]) (h2 : ts.dummies = #[]) (ho : s.heap.get? a = some (fz (.set #[] e ts))) (ha : 28 ≤ a)
    (hp : eo.toList.Perm (xs.map (el P))) (hft : to.fits eo.size = true) (hx : xs.length ≤ m) (hx2 : xs.length ≤ 4000) :
    ∃ D', SetC P xs m D' ∧ SGo w cd p stk 3 (do
      let x ← setState a
      match x with
      | (_, _, ts) =>
        match ts.road to with
        | .slotForSlot => storeSet a eo { to with finger := ts.finger, led := ts.led && to.led, moves := ts.moves, plain := ts.plain && to.plain }
        | .clean => do
          let x ← (do
            let x : Option (SetTable × Array Nat) := SetTable.laid ts.mask ts.finger ts.moves (ts.led && to.led) (ts.plain && to.plain) (eo.map (·.1))
            match x with
            | some (t, order) =>
              let es' := order.filterMap (eo[·]?)
              if (es'.size != eo.size) = true then do
                let _ ← (unsupported "internal:set-table-lost-an-element" : Sem PUnit)
                pure (es', t)
              else pure (es', t)
            | _ => (unsupported "internal:set-table-without-room" : Sem (Array (Int × Value) × SetTable)))
          match x with
          | (es, t) => storeSet a es t
        | .oneByOne => rest) s (setAt s a D') () := by
  have hfs : ts.fits (#[] : Array (Int × Value)).size = true := by simp [SetTable.fits, SetTable.fill, h1, h2]
  have hfill : ts.fill = 0 := by simp [SetTable.fill, h1, h2]
  have hsz := perm_size hp
  have hsz4 : eo.size ≤ 4096 := by rw [hsz]; omega
  cases hr : (ts.mask == to.mask && to.dummies.isEmpty) with
  | true =>
    have hroad : ts.road to = .slotForSlot := by unfold SetTable.road; rw [hfill, hr]; rfl
    obtain ⟨hm1, hd1⟩ := Bool.and_eq_true_iff.mp hr
    refine ⟨_, ⟨eo, e + 1, { to with finger := ts.finger, led := ts.led && to.led, moves := ts.moves, plain := ts.plain && to.plain }, rfl, hft, hp, ?_, ?_⟩, ?_⟩
    · rw [← hm]; exact (beq_iff_eq.mp hm1).symm
    · exact Array.isEmpty_iff.mp hd1
    · refine SGo.bind (i := 1) (j := 2) (sg_state ho hfs) ?_
      dsimp only
      rw [hroad]
      exact sg_store ho ha hsz4
  | false =>
    have hroad : ts.road to = .clean := by unfold SetTable.road; rw [hfill, hr]; rfl
    have hsm : (eo.map (·.1)).size = xs.length := by rw [Array.size_map, hsz]
    subst hm
    obtain ⟨place, order, el', e1, e2⟩ := laid_ok cv ts.finger ts.moves (ts.led && to.led) (ts.plain && to.plain) (eo.map (·.1)) (by rw [hsm]; omega)
    rw [Array.size_map] at e1 e2
    have hpo := order_perm eo order e2
    have hso : (order.filterMap (eo[·]?)).size = eo.size := by rw [← Array.length_toList, hpo.length_eq, Array.length_toList]
    refine ⟨_, ⟨order.filterMap (eo[·]?), e + 1, { mask := ts.mask, place, dummies := #[], finger := ts.finger, led := ts.led && to.led, moves := ts.moves, plain := ts.plain && to.plain }, rfl, ?_, hpo.trans hp, rfl, rfl⟩, ?_⟩
    · rw [hso]
      unfold SetTable.fits SetTable.fill
      simp [e1, hsz, hx]
    · refine SGo.bind (i := 1) (j := 2) (sg_state ho hfs) ?_
      dsimp only
      rw [hroad]
      dsimp only
      rw [el']
      dsimp only
      rw [if_neg (by rw [hso]; simp)]
      refine SGo.bind (i := 0) (j := 2) (a := (order.filterMap (eo[·]?), _)) (s₁ := s) SGo.pure ?_
      exact sg_store ho ha (by rw [hso]; exact hsz4)
theorem sg_copyBig {led : Bool} {k : Nat} {each : Sem Unit} (hne : a ≠ o) (hD : SetD P xs D) (ho : s.heap.get? a = some (fz (F0 led))) (hos : s.heap.get? o = some (fz D)) (ha : 28 ≤ a) (hx0 : xs ≠ []) (hx : xs.length ≤ 127)
    (hr : (SetTable.fresh 0 0 led).roomFor xs.length = some k) (hk : SetTable.sizeAbove k = 128) : ∃ D', SetC P xs 127 D' ∧ SGo w cd p stk 8 (setMerge a o each) s (setAt s a D') () := by
  obtain ⟨eo, epo, to, rfl, hft, hp⟩ := hD
  have hsz := perm_size hp
  have hne0 : eo.isEmpty = false := by
    cases hq : eo.isEmpty with
    | false => rfl
    | true =>
      have := Array.isEmpty_iff.mp hq
      rw [this] at hsz
      exact absurd (List.length_eq_zero_iff.mp hsz.symm) hx0
  have g1 : (setAt s a (F1 led)).heap.get? a = some (fz (F1 led)) := setAt_get ho rfl
  obtain ⟨D', hD', hg⟩ := sg_mergeTail (w := w) (cd := cd) (p := p) (stk := stk) (P := P) (xs := xs) (to := to) (eo := eo) (rest := (do
                  let __do_lift ← setWalkUnseen o [a] (some a)
                  forIn __do_lift PUnit.unit fun x __s =>
                      match x with
                      | (h, x) => do
                        let _ ← holding [x] (setAddHashed a x h)
                        each
                        let __do_lift ← setState o
                        if (__do_lift.snd.fst != epo) = true then do
                            let _ ← (unsupported "set.changed-during-merge" : Sem PUnit)
                            pure (ForInStep.yield PUnit.unit)
                          else pure (ForInStep.yield PUnit.unit)
                  pure ())) cov128 rfl rfl rfl g1 ha hp hft hx (by omega)
  rw [setAt_setAt] at hg
  refine ⟨D', hD', ?_⟩
  unfold setMerge
  rw [if_neg (by simpa using hne)]
  refine SGo.bind (i := 1) (j := 7) (sg_state hos hft) ?_
  dsimp only
  rw [hne0, if_neg Bool.false_ne_true]
  refine SGo.bind (i := 4) (j := 3) (sg_roomBig ho ha (by rw [hsz]; exact hr) hk) ?_
  exact hg
theorem sg_copySmall {led : Bool} {each : Sem Unit} (hne : a ≠ o) (hD : SetD P xs D) (ho : s.heap.get? a = some (fz (F0 led))) (hos : s.heap.get? o = some (fz D)) (ha : 28 ≤ a) (hx0 : xs ≠ []) (hx : xs.length ≤ 4)
    : ∃ D', SetC P xs 7 D' ∧ SGo w cd p stk 8 (setMerge a o each) s (setAt s a D') () := by
  obtain ⟨eo, epo, to, rfl, hft, hp⟩ := hD
  have hsz := perm_size hp
  have hne0 : eo.isEmpty = false := by
    cases hq : eo.isEmpty with
    | false => rfl
    | true =>
      have := Array.isEmpty_iff.mp hq
      rw [this] at hsz
      exact absurd (List.length_eq_zero_iff.mp hsz.symm) hx0
  obtain ⟨D', hD', hg⟩ := sg_mergeTail (w := w) (cd := cd) (p := p) (stk := stk) (P := P) (xs := xs) (to := to) (eo := eo) (rest := (do
                  let __do_lift ← setWalkUnseen o [a] (some a)
                  forIn __do_lift PUnit.unit fun x __s =>
                      match x with
                      | (h, x) => do
                        let _ ← holding [x] (setAddHashed a x h)
                        each
                        let __do_lift ← setState o
                        if (__do_lift.snd.fst != epo) = true then do
                            let _ ← (unsupported "set.changed-during-merge" : Sem PUnit)
                            pure (ForInStep.yield PUnit.unit)
                          else pure (ForInStep.yield PUnit.unit)
                  pure ())) cov8 rfl rfl rfl ho ha hp hft (by omega) (by omega)
  refine ⟨D', hD', ?_⟩
  unfold setMerge
  rw [if_neg (by simpa using hne)]
  refine SGo.bind (i := 1) (j := 7) (sg_state hos hft) ?_
  dsimp only
  rw [hne0, if_neg Bool.false_ne_true]
  have hr : (SetTable.fresh 0 0 led).roomFor eo.size = none := by
    unfold SetTable.roomFor
    rw [if_neg]
    rw [hsz]
    show ¬ (0 + 0 + xs.length) * 5 ≥ 7 * 3
    omega
  refine SGo.bind (i := 1) (j := 6) (sg_roomNone ho rfl hr) ?_
  exact hg.le (by decide)
/-- a set of one text is walked -/
theorem sg_walk1 {x : Nat × Nat} {l : List Addr} {f : Option Addr} {es ep t} (hp : es.toList.Perm ([x].map (el P))) (hf : t.fits es.size = true) (ho : s.heap.get? o = some (fz (.set es ep t))) : SGo w cd p stk 6 (setWalkUnseen o l f) s s #[el P x] := by
  have hes : es = #[el P x] := by
    have := List.perm_singleton.mp hp
    cases es; simp at this; simp [this]
  subst hes
  unfold setWalkUnseen
  refine SGo.bind (i := 1) (j := 5) (sg_state ho hf) ?_
  dsimp only
  refine SGo.bind (i := 1) (j := 4) (a := w.params.followText "set-order") (s₁ := s) ?_ ?_
  · unfold setsByText
    exact SGo.bind (i := 1) (j := 0) SGo.ask SGo.pure
  rw [if_pos (by simp)]
  unfold setWalk
  refine SGo.bind (i := 1) (j := 3) (sg_state ho hf) ?_
  dsimp only
  refine SGo.bind (i := 1) (j := 2) (a := w.params.followText "set-order") (s₁ := s) ?_ ?_
  · unfold setsByText
    exact SGo.bind (i := 1) (j := 0) SGo.ask SGo.pure
  cases hb : w.params.followText "set-order" with
  | true =>
    rw [if_pos rfl]
    refine SGo.bind (i := 1) (j := 1) SGo.ask ?_
    have : pickOrder (w.params.setOrder o ep) #[el P x] = #[el P x] := by
      unfold pickOrder
      show pickOrder.go (w.params.setOrder o ep) 1 0 [el P x] #[] = _
      unfold pickOrder.go
      simp only [List.length_singleton, Nat.mod_one, List.getElem?_cons_zero]
      rfl
    show SGo w cd p stk 1 (pure (pickOrder (w.params.setOrder o ep) #[el P x])) s s _
    rw [this]
    exact SGo.pure.le (by decide)
  | false =>
    rw [if_neg Bool.false_ne_true]
    refine SGo.ite_neg ?_ ?_
    · show ¬ ((!t.plain && decide ((#[el P x] : Array (Int × Value)).size > 1)) = true)
      simp
    · refine SGo.bind (i := 0) (j := 2) (a := ()) (s₁ := s) ?_ (SGo.pure.le (by decide))
      show SGo w cd p stk 0 (if (!t.led && decide ((#[el P x] : Array (Int × Value)).size > 1)) = true then unsupported "set:maker-not-led" else pure ()) s s ()
      rw [if_neg (by simp)]
      exact SGo.pure
end
end Mine
end

section
open PySem PySem.W PySem.Challenge PyProof.Rows
set_option maxRecDepth 100000
set_option Elab.async false
set_option linter.unusedVariables false
namespace Mine
theorem mro_fz : builtinMro "frozenset" = some [.type "frozenset", .type "object"] := by kernel_rfl
theorem push_modify {α : Type} (xs : Array α) (x y : α) : (xs.push x).modify xs.size (fun _ => y) = xs.push y := by
  apply Array.ext_getElem?
  intro i
  rw [Array.getElem?_modify, Array.getElem?_push, Array.getElem?_push]
  by_cases h : i = xs.size
  · subst h; simp
  · rw [if_neg (fun q => h q.symm), if_neg h, if_neg h]
theorem setAt_push (s : Shared) (D D' : Data) : setAt { s with heap := s.heap.push (fz D) } s.heap.objs.size D' = { s with heap := s.heap.push (fz D') } := by
  obtain ⟨⟨objs, l⟩, g, d, k, os⟩ := s
  show Shared.mk (Heap.mk _ _) _ _ _ _ = Shared.mk (Heap.mk _ _) _ _ _ _
  rw [push_modify]
section
variable {w : World} {cd : Code} {p : Pos} {stk : List Frame} {s : Shared} {a l r : Addr} {P : Params} {xs : List (Nat × Nat)} {D Dl Dr : Data}
theorem sg_typeOf (h : s.heap.get? a = some (fz D)) : SGo w cd p stk 1 (typeOf (.ref a)) s s (.type "frozenset") := by
  unfold typeOf
  exact SGo.bind (i := 1) (j := 0) (SGo.load h) SGo.pure
theorem sg_inst {b : Value} (h : s.heap.get? a = some (fz D)) : SGo w cd p stk 1 (isInstance (.ref a) b) s s (([.type "frozenset", .type "object"] : List Value).contains b) := by
  unfold isInstance
  refine SGo.bind (i := 1) (j := 0) (sg_typeOf h) ?_
  unfold isSubtype mroOf
  dsimp only
  rw [mro_fz]
  exact SGo.pure
theorem sg_anySet (h : s.heap.get? a = some (fz D)) : SGo w cd p stk 2 (Builtin.Frozenset.isAnySet (.ref a)) s s true := by
  unfold Builtin.Frozenset.isAnySet
  unfold orM
  refine SGo.bind (i := 1) (j := 1) (sg_inst h) ?_
  exact sg_inst h
theorem sg_base (h : s.heap.get? a = some (fz D)) : SGo w cd p stk 1 (Builtin.Frozenset.baseOf a) s s (.type "frozenset") := by
  unfold Builtin.Frozenset.baseOf
  exact SGo.bind (i := 1) (j := 0) (sg_inst h) SGo.pure
theorem sg_newSet : SGo w cd p stk 2 (newSet (.type "frozenset")) s { s with heap := s.heap.push (fz (F0 (!(w.params.followText "set-order")))) } (.ref s.heap.objs.size) := by
  unfold newSet
  refine SGo.bind (i := 1) (j := 1) (a := w.params.followText "set-order") (s₁ := s) ?_ ?_
  · unfold setsByText
    exact SGo.bind (i := 1) (j := 0) SGo.ask SGo.pure
  · unfold newObj
    dsimp only
    rw [if_neg (by decide)]
    unfold newObjAsIs
    exact SGo.bind (i := 1) (j := 0) SGo.alloc SGo.pure
theorem get_push {o : Obj} {b : Addr} {x : Obj} (h : s.heap.get? b = some x) : (s.heap.push o).get? b = some x := Heap.get?_push_of_some _ h
theorem lt_of_get {b : Addr} {x : Obj} (h : s.heap.get? b = some x) : b < s.heap.objs.size := Heap.lt_size h
noncomputable abbrev copyMask (n : Nat) : Nat := if n * 5 < 21 then 7 else 127
/-- a copy of a set -/
theorem sg_copyOf (hD : SetD P xs D) (h : s.heap.get? l = some (fz D)) (hs : 28 ≤ s.heap.objs.size) (hn : xs.length = 2 ∨ xs.length = 32 ∨ xs.length = 33) :
    ∃ D', SetC P xs (copyMask xs.length) D' ∧ SGo w cd p stk 11 (Builtin.Frozenset.copyOf l) s { s with heap := s.heap.push (fz D') } (.ref s.heap.objs.size) := by
  have hne : s.heap.objs.size ≠ l := Nat.ne_of_gt (lt_of_get h)
  have g0 : ({ s with heap := s.heap.push (fz (F0 (!(w.params.followText "set-order")))) } : Shared).heap.get? s.heap.objs.size = some (fz (F0 (!(w.params.followText "set-order")))) := Heap.get?_push_size _ rfl
  have g1 : ({ s with heap := s.heap.push (fz (F0 (!(w.params.followText "set-order")))) } : Shared).heap.get? l = some (fz D) := get_push h
  have hx0 : xs ≠ [] := by rintro rfl; simp at hn
  have key : ∃ D', SetC P xs (copyMask xs.length) D' ∧ SGo w cd p stk 8 (setMerge s.heap.objs.size l) { s with heap := s.heap.push (fz (F0 (!(w.params.followText "set-order")))) } { s with heap := s.heap.push (fz D') } () := by
    rcases hn with hn | hn | hn
    · obtain ⟨D', a, b⟩ := sg_copySmall (w := w) (cd := cd) (p := p) (stk := stk) (each := pure ()) hne hD g0 g1 hs hx0 (by omega)
      rw [setAt_push] at b
      exact ⟨D', by rw [hn]; exact a, b⟩
    · obtain ⟨D', a, b⟩ := sg_copyBig (w := w) (cd := cd) (p := p) (stk := stk) (k := 64) (each := pure ()) hne hD g0 g1 hs hx0 (by omega) (by rw [hn]; rfl) (by decide +kernel)
      rw [setAt_push] at b
      exact ⟨D', by rw [hn]; exact a, b⟩
    · obtain ⟨D', a, b⟩ := sg_copyBig (w := w) (cd := cd) (p := p) (stk := stk) (k := 66) (each := pure ()) hne hD g0 g1 hs hx0 (by omega) (by rw [hn]; rfl) (by decide +kernel)
      rw [setAt_push] at b
      exact ⟨D', by rw [hn]; exact a, b⟩
  obtain ⟨D', a, b⟩ := key
  refine ⟨D', a, ?_⟩
  unfold Builtin.Frozenset.copyOf
  refine SGo.bind (i := 1) (j := 10) (sg_base h) ?_
  refine SGo.bind (i := 2) (j := 8) sg_newSet ?_
  refine SGo.bind (i := 0) (j := 8) (a := s.heap.objs.size) SGo.pure ?_
  exact SGo.bind (i := 8) (j := 0) b SGo.pure
theorem forIn_one {α : Type} (x : α) (f : α → PUnit → Sem (ForInStep PUnit)) : (forIn (#[x] : Array α) PUnit.unit f : Sem PUnit) = (f x PUnit.unit >>= fun r => match r with | .done b => pure b | .yield b => pure b) := by
  rw [← Array.forIn_toList]
  show forIn [x] PUnit.unit f = _
  rw [List.forIn_cons]
  congr 1
  funext r
  cases r
  · rfl
  · exact List.forIn_nil
/-- one more text is merged into a set that is not empty -/
theorem sg_merge1 {x : Nat × Nat} {m : Nat} {id : String} {was : Nat} {es : Array (Int × Value)} {ep : Nat} {t : SetTable} (hne : a ≠ r) (hD : SetC P xs m D) (hx0 : xs ≠ []) (hx : xs.length < 4000) (hroom : (xs.length + 1) * 5 < m * 3) (hc : x.1 ∉ xs.map (·.1))
    (hp : es.toList.Perm ([x].map (el P))) (hf : t.fits es.size = true) (ho : s.heap.get? a = some (fz D)) (hr : s.heap.get? r = some (fz (.set es ep t))) (ha : 28 ≤ a) :
    ∃ D', SetD P (xs ++ [x]) D' ∧ SGo w cd p stk 20 (setMerge a r (Builtin.Frozenset.unchanged id r ep)) s (setAt s a D') () := by
  obtain ⟨eD, epD, tD, rfl, hfD, hpD, hm, hd⟩ := hD
  have hes : es = #[el P x] := by
    have := List.perm_singleton.mp hp
    cases es; simp at this; simp [this]
  obtain ⟨D', hD', hg⟩ := sg_add (w := w) (cd := cd) (p := p) (stk := stk) (c := x.1) (tk := x.2) ⟨eD, epD, tD, rfl, hfD, hpD⟩ hc hx ho ha
  have hs2 : (setAt s a D').heap.get? r = some (fz (.set es ep t)) := (setAt_ne (Ne.symm hne)).trans hr
  refine ⟨D', hD', ?_⟩
  have hpl : tD.place.size = eD.size := by
    simp only [SetTable.fits, Bool.and_eq_true, beq_iff_eq, decide_eq_true_eq] at hfD
    exact hfD.1
  have hpos : 0 < xs.length := List.length_pos_iff.mpr hx0
  unfold setMerge
  rw [if_neg (by simpa using hne)]
  refine SGo.bind (i := 1) (j := 19) (sg_state hr hf) ?_
  dsimp only
  rw [show es.isEmpty = false by rw [hes]; rfl, if_neg Bool.false_ne_true]
  refine SGo.bind (i := 1) (j := 18) (sg_roomNone ho hfD ?_) ?_
  · unfold SetTable.roomFor
    rw [if_neg]
    rw [hes]
    show ¬ (tD.place.size + tD.dummies.size + 1) * 5 ≥ tD.mask * 3
    rw [hpl, perm_size hpD, hd, hm]
    simp only [List.size_toArray, List.length_nil]
    omega
  refine SGo.bind (i := 1) (j := 17) (sg_state ho hfD) ?_
  dsimp only
  have hroad : tD.road t = .oneByOne := by
    unfold SetTable.road
    rw [if_pos]
    show (tD.place.size + tD.dummies.size != 0) = true
    rw [hpl, perm_size hpD]
    simp only [bne_iff_ne, ne_eq]
    omega
  rw [hroad]
  dsimp only
  refine SGo.bind (i := 6) (j := 11) (sg_walk1 hp hf hr) ?_
  refine SGo.bind (i := 11) (j := 0) (a := ()) (s₁ := setAt s a D') ?_ SGo.pure
  rw [forIn_one]
  refine SGo.bind (i := 11) (j := 0) (a := ForInStep.yield PUnit.unit) (s₁ := setAt s a D') ?_ SGo.pure
  show SGo w cd p stk 11 (do
    let _ ← holding [Value.str ⟨#[x.1]⟩ x.2] (setAddHashed a (Value.str ⟨#[x.1]⟩ x.2) (kh P x.1))
    Builtin.Frozenset.unchanged id r ep
    let q ← setState r
    if (q.snd.fst != ep) = true then do
        let _ ← (unsupported "set.changed-during-merge" : Sem PUnit)
        pure (ForInStep.yield PUnit.unit)
      else pure (ForInStep.yield PUnit.unit)) s _ _
  refine SGo.bind (i := 8) (j := 3) (SGo.holding hg) ?_
  refine SGo.bind (i := 1) (j := 2) (a := ()) (s₁ := setAt s a D') ?_ ?_
  · unfold Builtin.Frozenset.unchanged
    refine SGo.bind (i := 1) (j := 0) (sg_epoch hs2 hf) ?_
    rw [if_neg (by simp)]
    exact SGo.pure
  · refine SGo.bind (i := 1) (j := 1) (sg_state hs2 hf) ?_
    rw [if_neg (by simp)]
    exact SGo.pure.le (by decide)
end
end Mine
end

section
open PySem PySem.W PySem.Challenge PyProof.Rows
set_option maxRecDepth 100000
set_option Elab.async false
set_option linter.unusedVariables false
namespace Mine
section
variable {w : World} {cd : Code} {p : Pos} {stk : List Frame} {s : Shared} {a l r : Addr} {P : Params} {xs : List (Nat × Nat)} {D Dl Dr : Data}
theorem push_setAt {s : Shared} {D₁ D₂ : Data} : setAt { s with heap := s.heap.push (fz D₁) } s.heap.objs.size D₂ = { s with heap := s.heap.push (fz D₂) } := setAt_push s D₁ D₂
theorem sg_or {x : Nat × Nat} (hl : SetD P xs Dl) (hr : SetD P [x] Dr) (hn : xs.length = 2 ∨ xs.length = 32) (hc : x.1 ∉ xs.map (·.1)) (gl : s.heap.get? l = some (fz Dl)) (gr : s.heap.get? r = some (fz Dr)) (hlr : l ≠ r) (hs : 28 ≤ s.heap.objs.size) :
    ∃ D', SetD P (xs ++ [x]) D' ∧ SGo w cd p stk 50 (Builtin.«frozenset.__or__» ⟨[.ref l, .ref r], []⟩) s { s with heap := s.heap.push (fz D') } (.done (.ret (.ref s.heap.objs.size))) := by
  obtain ⟨D₁, hC, hcp⟩ := sg_copyOf (w := w) (cd := cd) (p := p) (stk := stk) hl gl hs (by omega)
  have hx0 : xs ≠ [] := by rintro rfl; simp at hn
  have hne : s.heap.objs.size ≠ r := Nat.ne_of_gt (lt_of_get gr)
  obtain ⟨es, ep, t, rfl, hf, hp⟩ := hr
  have g1 : ({ s with heap := s.heap.push (fz D₁) } : Shared).heap.get? s.heap.objs.size = some (fz D₁) := by
    obtain ⟨_, _, _, rfl, _⟩ := hC
    exact Heap.get?_push_size _ rfl
  have g2 : ({ s with heap := s.heap.push (fz D₁) } : Shared).heap.get? r = some (fz (.set es ep t)) := get_push gr
  obtain ⟨D₂, hD₂, hm⟩ := sg_merge1 (w := w) (cd := cd) (p := p) (stk := stk) (id := toString "frozenset." ++ toString "__or__") (was := ep) hne hC hx0 (by omega) (by rcases hn with h | h <;> (rw [h]; decide)) hc hp hf g1 g2 hs
  rw [push_setAt] at hm
  refine ⟨D₂, hD₂, ?_⟩
  refine SGo.bind (i := 0) (j := 50) (a := (Value.ref l, Value.ref r)) (s₁ := s) ?_ ?_
  · exact SGo.pure
  refine SGo.bind (i := 4) (j := 46) (a := true) (s₁ := s) ?_ ?_
  · unfold andM
    exact SGo.bind (i := 2) (j := 2) (sg_anySet gl) (sg_anySet gr)
  rw [if_neg (by simp)]
  refine SGo.bind (i := 0) (j := 46) (a := l) (s₁ := s) SGo.pure ?_
  refine SGo.bind (i := 46) (j := 0) (a := Value.ref s.heap.objs.size) ?_ SGo.pure
  refine SGo.bind (i := 11) (j := 35) hcp ?_
  rw [if_pos (by simpa using Ne.symm hlr)]
  refine SGo.bind (i := 35) (j := 0) (a := ()) ?_ SGo.pure
  refine SGo.holding ?_
  unfold Builtin.Frozenset.updateFrom
  refine SGo.bind (i := 2) (j := 33) (sg_anySet g2) ?_
  rw [if_pos rfl]
  refine SGo.bind (i := 0) (j := 33) (a := r) SGo.pure ?_
  unfold Builtin.Frozenset.merge
  refine SGo.bind (i := 1) (j := 32) (sg_epoch g2 hf) ?_
  exact hm.le (by decide)
end
end Mine
end

section
open PySem PySem.W PySem.Challenge PyProof.Rows
set_option maxRecDepth 100000
set_option Elab.async false
set_option linter.unusedVariables false
namespace Mine
theorem kerEq (w : World) (b : Bool) (h : Heap) (g : Array GenState) (d : Drawn) (k : Nat) (os : OsState) (cd : Code) (p : Pos) (F : Frame) (stk : List Frame) (vs : List Value) (K : Bool → Sem Fin) :
    go (w.withFollow "special-get-raises" b) 4 ⟨h, g, d, k, os⟩ ⟨((eqBool (.str ⟨#[9]⟩ 333) (.str ⟨#[9]⟩ 429)).keep vs).bind K, cd, p, F :: stk⟩ = some (⟨h, g, d, k, os⟩, ⟨K true, cd, p, F :: stk⟩) := by
  cases b <;> kernel_rfl
theorem sg_eq (w : World) (s : Shared) (cd : Code) (p : Pos) (F : Frame) (stk : List Frame) : SGo w cd p (F :: stk) 4 (eqBool (.str ⟨#[9]⟩ 333) (.str ⟨#[9]⟩ 429)) s s true := fun vs K => by
  have := kerEq w (w.params.followText "special-get-raises") s.heap s.gens s.drawn s.toks s.os cd p F stk vs K
  rw [World.withFollow_self] at this
  exact Go.of this
theorem eraseAt_list {α : Type} (xs : Array α) (i : Nat) : (SetTable.eraseAt xs i).toList = xs.toList.take i ++ xs.toList.drop (i + 1) := by
  unfold SetTable.eraseAt
  simp [Array.toList_append, Array.toList_extract, List.extract_eq_take_drop]
  exact List.take_of_length_le (Nat.le_of_eq (by rw [List.length_drop, Array.length_toList]))
section
variable {w : World} {cd : Code} {p : Pos} {stk : List Frame} {s : Shared} {a l r : Addr} {P : Params} {xs ys : List (Nat × Nat)} {D Dl Dr : Data}
theorem sg_discard {c ty tx : Nat} {m : Nat} (heq : ∀ s, SGo w cd p stk 4 (eqBool (.str ⟨#[c]⟩ ty) (.str ⟨#[c]⟩ tx)) s s true) (hD : SetC P xs m D) (hx : xs.length < 4000) (hxs : xs.Perm ((c, ty) :: ys)) (hc : c ∉ ys.map (·.1)) (hm : 8 ≤ m) (hxm : xs.length ≤ m)
    (ho : s.heap.get? a = some (fz D)) (ha : 28 ≤ a) :
    ∃ D', SetD P ys D' ∧ SGo w cd p stk 20 (setDiscardHashed a (.str ⟨#[c]⟩ tx) (kh P c)) s (setAt s a D') true ∧ (∀ {s' : Shared}, s'.heap.get? a = some (fz D') → SGo w cd p stk 1 (setTidy a) s' s' ()) := by
  obtain ⟨es, ep, t, rfl, hf, hp, hmk, hdm⟩ := hD
  have hany : ∃ e ∈ es.toList, e.2.isStr ⟨#[c]⟩ = true := by
    refine ⟨el P (c, ty), hp.mem_iff.mpr (List.mem_map.mpr ⟨(c, ty), hxs.mem_iff.mpr (.head _), rfl⟩), ?_⟩
    show ((⟨#[c]⟩ : Str) == ⟨#[c]⟩) = true
    exact beq_self_eq_true _
  obtain ⟨i, hi⟩ : ∃ i, es.toList.findIdx? (fun e => e.2.isStr ⟨#[c]⟩) = some i := by
    cases hq : es.toList.findIdx? (fun e => e.2.isStr ⟨#[c]⟩) with
    | some i => exact ⟨i, rfl⟩
    | none =>
      obtain ⟨e, he, hs⟩ := hany
      have := List.findIdx?_eq_none_iff.mp hq e he
      rw [hs] at this; cases this
  obtain ⟨hlt, hpi, _⟩ := List.findIdx?_eq_some_iff_getElem.mp hi
  have hel : es.toList[i] = el P (c, ty) := by
    obtain ⟨x, hx1, hx2⟩ := List.mem_map.mp (hp.mem_iff.mp (List.getElem_mem hlt))
    rw [← hx2] at hpi ⊢
    have : x.1 = c := by
      have := beq_iff_eq.mp (show ((⟨#[x.1]⟩ : Str) == ⟨#[c]⟩) = true from hpi)
      have := congrArg (fun s : Str => s.cps.toList) this
      simpa using this
    rcases List.mem_cons.mp (hxs.mem_iff.mp hx1) with q | q
    · rw [q]
    · exact absurd (List.mem_map.mpr ⟨x, q, this⟩) hc
  have hidx : es.findIdx? (fun e => e.2.isStr ⟨#[c]⟩) = some i := by rw [← hi]; cases es; simp
  have hget : es[i]? = some (kh P c, .str ⟨#[c]⟩ ty) := by rw [← Array.getElem?_toList, List.getElem?_eq_getElem hlt, hel]
  have hpl : t.place.size = es.size := by
    simp only [SetTable.fits, Bool.and_eq_true, beq_iff_eq, decide_eq_true_eq] at hf
    exact hf.1
  have hsz := perm_size hp
  rw [Array.length_toList] at hlt
  have hperm : (SetTable.eraseAt es i).toList.Perm (ys.map (el P)) := by
    rw [eraseAt_list]
    have h1 : es.toList.Perm (el P (c, ty) :: (es.toList.take i ++ es.toList.drop (i + 1))) := by
      conv => lhs; rw [← List.take_append_drop i es.toList]
      rw [List.drop_eq_getElem_cons (by rw [Array.length_toList]; exact hlt), hel]
      exact List.perm_middle
    have h2 : (xs.map (el P)).Perm (el P (c, ty) :: ys.map (el P)) := hxs.map _
    exact (h1.symm.trans (hp.trans h2)).cons_inv
  have hsz' : (SetTable.eraseAt es i).size = ys.length := perm_size hperm
  have hxl : xs.length = ys.length + 1 := by rw [hxs.length_eq]; rfl
  obtain ⟨j, hj⟩ : ∃ j, t.place[i]? = some j := ⟨_, Array.getElem?_eq_getElem (by rw [hpl]; exact hlt)⟩
  have hdrop : t.drop i = { t with place := SetTable.eraseAt t.place i, dummies := SetTable.insertAt t.dummies (SetTable.below t.dummies j) j } := by
    unfold SetTable.drop; rw [hj]
  have hds : (SetTable.insertAt t.dummies (SetTable.below t.dummies j) j).size = 1 := by
    rw [hdm]
    unfold SetTable.insertAt
    simp
  have hps : (SetTable.eraseAt t.place i).size = ys.length := by
    rw [← Array.length_toList, eraseAt_list, List.length_append, List.length_take, List.length_drop, Array.length_toList, hpl, hsz]
    omega
  have hfit : (t.drop i).fits (SetTable.eraseAt es i).size = true := by
    rw [hdrop, hsz']
    unfold SetTable.fits SetTable.fill
    simp only [hps, hds, hmk, beq_self_eq_true, Bool.true_and, decide_eq_true_eq]
    omega
  refine ⟨_, ⟨SetTable.eraseAt es i, ep + 1, t.drop i, rfl, hfit, hperm⟩, ?_, ?_⟩
  · unfold setDiscardHashed
    refine SGo.bind (i := 10) (j := 10) (a := some i) (s₁ := s) ?_ ?_
    · unfold setFind
      rw [show (100000 : Nat) = 99999 + 1 from rfl]
      unfold setFindIn
      refine SGo.bind (i := 1) (j := 9) (sg_state ho hf) ?_
      dsimp only
      rw [perm_byScan hp hx, if_pos rfl]
      refine SGo.bind (i := 1) (j := 8) SGo.rule ?_
      refine SGo.bind (i := 8) (j := 0) (a := ScanMet.found i) (s₁ := s) ?_ SGo.pure
      unfold setScan
      dsimp only
      rw [if_pos (perm_scan hp).2]
      unfold setScanStrs
      rw [hidx]
      dsimp only
      rw [hget]
      dsimp only
      refine SGo.bind (i := 1) (j := 7) (sg_epoch ho hf) ?_
      refine SGo.bind (i := 4) (j := 3) (heq s) ?_
      rw [if_neg (by simp)]
      refine SGo.bind (i := 1) (j := 2) (sg_epoch ho hf) ?_
      rw [if_neg (by simp), if_pos rfl]
      exact SGo.pure.le (by decide)
    · dsimp only
      refine SGo.bind (i := 1) (j := 9) (sg_state ho hf) ?_
      dsimp only
      refine SGo.bind (i := 2) (j := 7) (sg_store ho ha (by rw [hsz']; omega)) ?_
      exact SGo.bind (i := 1) (j := 6) SGo.point (SGo.pure.le (by decide))
  · intro s' hg
    unfold setTidy
    refine SGo.bind (i := 1) (j := 0) (sg_state hg hfit) ?_
    dsimp only
    rw [if_neg]
    · exact SGo.pure
    · rw [hdrop]
      unfold SetTable.tooManyDummies
      simp only [hds, hmk, decide_eq_true_eq]
      omega

theorem sg_sub {c ty tx : Nat} (heq : ∀ s, SGo w cd p stk 4 (eqBool (.str ⟨#[c]⟩ ty) (.str ⟨#[c]⟩ tx)) s s true) (hl : SetD P xs Dl) (hr : SetD P [(c, tx)] Dr) (hn : xs.length = 33) (hxs : xs.Perm ((c, ty) :: ys)) (hc : c ∉ ys.map (·.1))
    (gl : s.heap.get? l = some (fz Dl)) (gr : s.heap.get? r = some (fz Dr)) (hlr : l ≠ r) (hs : 28 ≤ s.heap.objs.size) :
    ∃ D', SetD P ys D' ∧ SGo w cd p stk 70 (Builtin.«frozenset.__sub__» ⟨[.ref l, .ref r], []⟩) s { s with heap := s.heap.push (fz D') } (.done (.ret (.ref s.heap.objs.size))) := by
  obtain ⟨D₁, hC, hcp⟩ := sg_copyOf (w := w) (cd := cd) (p := p) (stk := stk) hl gl hs (by omega)
  have hne : s.heap.objs.size ≠ r := Nat.ne_of_gt (lt_of_get gr)
  have hxl : xs.length = ys.length + 1 := by rw [hxs.length_eq]; rfl
  obtain ⟨el', epl, tl, rfl, hfl, hpl⟩ := hl
  obtain ⟨es, ep, t, rfl, hf, hp⟩ := hr
  have hes : es = #[el P (c, tx)] := by
    have := List.perm_singleton.mp hp
    cases es; simp at this; simp [this]
  have g1 : ({ s with heap := s.heap.push (fz D₁) } : Shared).heap.get? s.heap.objs.size = some (fz D₁) := by
    obtain ⟨_, _, _, rfl, _⟩ := hC
    exact Heap.get?_push_size _ rfl
  have g2 : ({ s with heap := s.heap.push (fz D₁) } : Shared).heap.get? r = some (fz (.set es ep t)) := get_push gr
  have hC' : SetC P xs 127 D₁ := by rw [hn] at hC; exact hC
  obtain ⟨D₂, hD₂, hd, htidy⟩ := sg_discard (w := w) (cd := cd) (p := p) (stk := stk) (tx := tx) heq hC' (by omega) hxs hc (by decide) (by omega) g1 hs
  rw [push_setAt] at hd
  have g3 : ({ s with heap := s.heap.push (fz D₂) } : Shared).heap.get? s.heap.objs.size = some (fz D₂) := by
    obtain ⟨_, _, _, rfl, _⟩ := hD₂
    exact Heap.get?_push_size _ rfl
  have g4 : ({ s with heap := s.heap.push (fz D₂) } : Shared).heap.get? r = some (fz (.set es ep t)) := get_push gr
  refine ⟨D₂, hD₂, ?_⟩
  refine SGo.bind (i := 0) (j := 70) (a := (Value.ref l, Value.ref r)) (s₁ := s) SGo.pure ?_
  dsimp only
  refine SGo.bind (i := 4) (j := 66) (a := true) (s₁ := s) ?_ ?_
  · unfold andM
    exact SGo.bind (i := 2) (j := 2) (sg_anySet gl) (sg_anySet gr)
  rw [if_neg (by simp)]
  refine SGo.bind (i := 0) (j := 66) (a := l) (s₁ := s) SGo.pure ?_
  refine SGo.bind (i := 66) (j := 0) (a := Value.ref s.heap.objs.size) ?_ SGo.pure
  unfold Builtin.Frozenset.difference
  refine SGo.bind (i := 2) (j := 64) (sg_anySet gr) ?_
  rw [if_neg (by simp)]
  dsimp only
  refine SGo.bind (i := 0) (j := 64) (a := r) (s₁ := s) SGo.pure ?_
  rw [if_neg (by simp)]
  rw [if_pos rfl]
  refine SGo.bind (i := 1) (j := 63) (a := 1) (s₁ := s) ?_ ?_
  · unfold Builtin.Frozenset.sizeOf
    refine SGo.bind (i := 1) (j := 0) (sg_entries gr hf) ?_
    rw [hes]
    exact SGo.pure
  refine SGo.bind (i := 1) (j := 62) (a := 33) (s₁ := s) ?_ ?_
  · unfold Builtin.Frozenset.sizeOf
    refine SGo.bind (i := 1) (j := 0) (sg_entries gl hfl) ?_
    rw [perm_size hpl, hn]
    exact SGo.pure
  rw [if_pos (by decide)]
  refine SGo.bind (i := 1) (j := 61) SGo.rule ?_
  refine SGo.bind (i := 11) (j := 50) hcp ?_
  refine SGo.bind (i := 0) (j := 50) (a := s.heap.objs.size) (s₁ := { s with heap := s.heap.push (fz D₁) }) SGo.pure ?_
  refine SGo.bind (i := 50) (j := 0) (a := ()) (s₁ := { s with heap := s.heap.push (fz D₂) }) (SGo.holding ?_) SGo.pure
  unfold Builtin.Frozenset.differenceUpdate
  rw [if_neg (by simpa using Ne.symm hne)]
  refine SGo.bind (i := 2) (j := 48) (sg_anySet g2) ?_
  dsimp only
  rw [if_pos rfl]
  refine SGo.bind (i := 0) (j := 48) (a := r) (s₁ := { s with heap := s.heap.push (fz D₁) }) SGo.pure ?_
  refine SGo.bind (i := 1) (j := 47) (a := 1) (s₁ := { s with heap := s.heap.push (fz D₁) }) ?_ ?_
  · unfold Builtin.Frozenset.sizeOf
    refine SGo.bind (i := 1) (j := 0) (sg_entries g2 hf) ?_
    rw [hes]
    exact SGo.pure
  obtain ⟨e1, ep1, t1, rfl, hf1, hp1, _⟩ := hC'
  refine SGo.bind (i := 1) (j := 46) (a := 33) (s₁ := { s with heap := s.heap.push (fz (.set e1 ep1 t1)) }) ?_ ?_
  · unfold Builtin.Frozenset.sizeOf
    refine SGo.bind (i := 1) (j := 0) (sg_entries g1 hf1) ?_
    rw [perm_size hp1, hn]
    exact SGo.pure
  rw [if_neg (by decide)]
  refine SGo.bind (i := 1) (j := 45) (sg_epoch g2 hf) ?_
  refine SGo.bind (i := 44) (j := 1) (a := ()) (s₁ := { s with heap := s.heap.push (fz D₂) }) (SGo.holding ?_) (htidy g3)
  refine SGo.bind (i := 6) (j := 38) (sg_walk1 hp hf g2) ?_
  refine SGo.bind (i := 38) (j := 0) (a := ()) (s₁ := { s with heap := s.heap.push (fz D₂) }) ?_ SGo.pure
  rw [forIn_one]
  refine SGo.bind (i := 38) (j := 0) (a := ForInStep.yield PUnit.unit) (s₁ := { s with heap := s.heap.push (fz D₂) }) ?_ SGo.pure
  refine SGo.bind (i := 20) (j := 18) (SGo.holding hd) ?_
  refine SGo.bind (i := 1) (j := 17) (a := ()) (s₁ := { s with heap := s.heap.push (fz D₂) }) ?_ (SGo.pure.le (by decide))
  unfold Builtin.Frozenset.unchanged
  refine SGo.bind (i := 1) (j := 0) (sg_epoch g4 hf) ?_
  rw [if_neg (by simp)]
  exact SGo.pure
end
end Mine
end

section
open PySem PySem.W PySem.Challenge PyProof.Rows
set_option maxRecDepth 100000
set_option maxHeartbeats 0
set_option Elab.async false
set_option linter.unusedVariables false
set_option profiler true
set_option profiler.threshold 300
namespace Mine
open PySem.W.Fast
noncomputable abbrev tbQ := tw14364793385576792824
noncomputable abbrev goQ (w : World) (n : Nat) (s : Shared) (t : Thread) : Option (Shared × Thread) := tw15667345088766844465 tbQ pw w 28 ann n s t
theorem goQ_eq : go = goQ := by unfold go goQ; rw [te15667345088766844465, te14364793385576792824]
noncomputable abbrev sh (h : Heap) (g : Array GenState) (k : Nat) (os : OsState) : Shared := ⟨h, g, {}, k, os⟩
noncomputable abbrev bodyC : Code := .body (behindTheImports pw) envT
noncomputable abbrev stT (i : Nat) (K : Flow → Sem Fin) (H : Value → Sem Fin) : Sem Fin := (execs [stB i] envT).wrap K H id id
noncomputable abbrev stQ (i : Nat) (K : Flow → Sem Fin) (H : Value → Sem Fin) : Sem Fin := (tw12563942051412417395 [stB i] envT).wrap K H id id
theorem stQ_eq : stT = stQ := by unfold stT stQ; rw [te12563942051412417395]
noncomputable abbrev denQ (c : Code) : Sem Fin := tw11892475500146522536 tbQ c
noncomputable abbrev denT (c : Code) : Sem Fin := denote treeTable c
theorem denQ_eq : denT = denQ := by unfold denT denQ; rw [te11892475500146522536, te14364793385576792824]
noncomputable abbrev loopC (a it : Addr) : Code := .builtin "set.update.loop" ⟨[.ref a, .ref it], []⟩
noncomputable abbrev nextT (it : Addr) (K : Option Value → Sem Fin) : Sem Fin := (pyNext (.ref it)).bind K
noncomputable abbrev nextQ (it : Addr) (K : Option Value → Sem Fin) : Sem Fin := R.bindR (tw9404975358583537561 (.ref it)) K
theorem nextQ_eq : nextT = nextQ := by unfold nextT nextQ; rw [te9404975358583537561, R.bindR_eq]
noncomputable abbrev fr (k : Result → Sem Fin) (l : List Value) (c : Code) (p : Pos) (kp : List Value) : Frame := .ret k none false l c p kp
/-- the frames above a set's building loop -/
noncomputable abbrev stkS (x : Value) (p : Pos) (k1 k2 k3 : Result → Sem Fin) (l1 l2 l3 q1 q2 q3 : List Value) : List Frame :=
  [fr k1 l1 (.builtin "frozenset.__new__" ⟨[.type "frozenset", x], []⟩) p q1, fr k2 l2 (.builtin "type.__call__" ⟨[.type "frozenset", x], []⟩) p q2, fr k3 l3 bodyC p q3, topFrame default]
noncomputable def genE : Expr := match stB 1 with | .Assign _ (.BinOp (.Call _ [g] _ _) _ _ _) _ => g | _ => default
noncomputable def genS : Scope := match genE with | .GeneratorExp _ _ sc _ => sc | _ => default
noncomputable def envG : Env := { scope := genS, locals := 37, globals := 3, cells := [], qual := "<genexpr>.", code := .ref 36, frame := some 37 }
noncomputable def G0 : GenState := .fresh (.compStart genE 0 (.ref 33) .none envG)
noncomputable abbrev posL1 : Pos := ⟨3, 13, 3, 51⟩
noncomputable def dead : Thread := ⟨.pure (.done .next), default, default, []⟩
noncomputable def wf (w : World) (b c : Bool) : World := (w.withFollow "comprehension-iter-twice" b).withFollow "special-get-raises" c
noncomputable def rA (w : World) (os : OsState) (K : Flow → Sem Fin) (H : Value → Sem Fin) : Shared × Thread := (goQ w 86 (sh (hp1 w.params) #[] 284 os) ⟨stQ 1 K H, bodyC, ⟨2, 0, 2, 8⟩, [topFrame default]⟩).getD ({}, dead)
noncomputable abbrev F0w (w : World) : Data := F0 (!(w.params.followText "set-order"))
theorem kA (w : World) (b : Bool) (os : OsState) (K : Flow → Sem Fin) (H : Value → Sem Fin) : go (w.withFollow "special-get-raises" b) 86 (sh (hp1 w.params) #[] 284 os) ⟨stT 1 K H, bodyC, ⟨2, 0, 2, 8⟩, [topFrame default]⟩ =
  some (sh (hL1 w.params (F0w w)) #[G0] 295 os, ⟨denT (loopC 39 38), loopC 39 38, posL1, (rA (w.withFollow "special-get-raises" b) os K H).2.stack⟩) := by
  rw [goQ_eq, stQ_eq, denQ_eq]; cases b <;> kernel_rfl
noncomputable def kOf : Frame → Result → Sem Fin
  | .ret k .. => k
  | _ => fun _ => .pure (.done .next)
noncomputable def lOf : Frame → List Value
  | .ret _ _ _ l .. => l
  | _ => []
noncomputable def qOf : Frame → List Value
  | .ret _ _ _ _ _ _ q => q
  | _ => []
noncomputable def fAt (l : List Frame) (i : Nat) : Frame := l.getD i (topFrame default)
noncomputable abbrev shape (x : Value) (p : Pos) (l : List Frame) : List Frame := stkS x p (kOf (fAt l 0)) (kOf (fAt l 1)) (kOf (fAt l 2)) (lOf (fAt l 0)) (lOf (fAt l 1)) (lOf (fAt l 2)) (qOf (fAt l 0)) (qOf (fAt l 1)) (qOf (fAt l 2))
theorem kA_stk (w : World) (b : Bool) (os : OsState) (K : Flow → Sem Fin) (H : Value → Sem Fin) : (rA (w.withFollow "special-get-raises" b) os K H).2.stack = shape (.ref 38) posL1 (rA (w.withFollow "special-get-raises" b) os K H).2.stack := by
  cases b <;> kernel_rfl
section
variable (w : World) (b : Bool) (os : OsState) (k1 k2 k3 : Result → Sem Fin) (l1 l2 l3 q1 q2 q3 : List Value) (D : Data) (K : Option Value → Sem Fin)
noncomputable def rN (w : World) (os : OsState) : Shared × Thread := (goQ (wf w true true) 46 (sh (hL1 w.params (F0 true)) #[G0] 295 os) ⟨nextQ 38 fun _ => .pure (.done .next), loopC 39 38, posL1, stkS (.ref 38) posL1 (fun _ => .pure (.done .next)) (fun _ => .pure (.done .next)) (fun _ => .pure (.done .next)) [] [] [] [] [] []⟩).getD ({}, dead)
/-- the generator asleep at its yield -/
noncomputable def Gs (w : World) (os : OsState) : GenState := (rN w os).1.gens.getD 0 .finished
theorem kN0t (c : Bool) : go (wf w true c) 46 (sh (hL1 w.params D) #[G0] 295 os) ⟨nextT 38 K, loopC 39 38, posL1, stkS (.ref 38) posL1 k1 k2 k3 l1 l2 l3 q1 q2 q3⟩ =
  some (sh (hG w.params 1 D) #[Gs w os] 298 os, ⟨K (some (.str ⟨#[0]⟩ 297)), loopC 39 38, posL1, stkS (.ref 38) posL1 k1 k2 k3 l1 l2 l3 q1 q2 q3⟩) := by
  rw [goQ_eq, nextQ_eq]; cases c <;> kernel_rfl
theorem kN0f (c : Bool) : go (wf w false c) 56 (sh (hL1 w.params D) #[G0] 295 os) ⟨nextT 38 K, loopC 39 38, posL1, stkS (.ref 38) posL1 k1 k2 k3 l1 l2 l3 q1 q2 q3⟩ =
  some (sh (hG w.params 1 D) #[Gs w os] 298 os, ⟨K (some (.str ⟨#[0]⟩ 297)), loopC 39 38, posL1, stkS (.ref 38) posL1 k1 k2 k3 l1 l2 l3 q1 q2 q3⟩) := by
  rw [goQ_eq, nextQ_eq]; cases c <;> kernel_rfl
theorem kNi : ((List.range 31).map fun i => go w 45 (sh (hG w.params (i + 1) D) #[Gs w os] (299 + 4 * i) os) ⟨nextT 38 K, loopC 39 38, posL1, stkS (.ref 38) posL1 k1 k2 k3 l1 l2 l3 q1 q2 q3⟩) =
  (List.range 31).map fun i => some (sh (hG w.params (i + 2) D) #[Gs w os] (302 + 4 * i) os, ⟨K (some (.str ⟨#[i + 1]⟩ (301 + 4 * i))), loopC 39 38, posL1, stkS (.ref 38) posL1 k1 k2 k3 l1 l2 l3 q1 q2 q3⟩) := by
  rw [goQ_eq, nextQ_eq]; kernel_rfl
theorem kNe : go w 30 (sh (hG w.params 32 D) #[Gs w os] 423 os) ⟨nextT 38 K, loopC 39 38, posL1, stkS (.ref 38) posL1 k1 k2 k3 l1 l2 l3 q1 q2 q3⟩ =
  some (sh (hX1 w.params D) #[.finished] 423 os, ⟨K none, loopC 39 38, posL1, stkS (.ref 38) posL1 k1 k2 k3 l1 l2 l3 q1 q2 q3⟩) := by
  rw [goQ_eq, nextQ_eq]; kernel_rfl
end
noncomputable abbrev doneN : Sem Fin := .pure (.done (.ret .none))
noncomputable abbrev posL2 : Pos := ⟨3, 54, 3, 73⟩
noncomputable abbrev posU1 : Pos := ⟨3, 13, 3, 73⟩
noncomputable abbrev orC (a b : Addr) : Code := .builtin "frozenset.__or__" ⟨[.ref a, .ref b], []⟩
noncomputable abbrev subC (a b : Addr) : Code := .builtin "frozenset.__sub__" ⟨[.ref a, .ref b], []⟩
section
variable (w : World) (b : Bool) (os : OsState) (K : Flow → Sem Fin) (H : Value → Sem Fin)
noncomputable abbrev S3 (x : Array (Int × Value) × Nat × SetTable) : Data := .set x.1 x.2.1 x.2.2
noncomputable abbrev XT := Array (Int × Value) × Nat × SetTable
noncomputable abbrev w' (w : World) (b : Bool) : World := w.withFollow "special-get-raises" b
noncomputable def rC : Shared × Thread := (goQ (w' w b) 38 (sh (hX1 w.params (F0 true)) #[.finished] 423 os) ⟨doneN, loopC 39 38, posL1, (rA (w' w b) os K H).2.stack⟩).getD ({}, dead)
theorem kC (x : XT) : go (w' w b) 38 (sh (hX1 w.params (S3 x)) #[.finished] 423 os) ⟨doneN, loopC 39 38, posL1, (rA (w' w b) os K H).2.stack⟩ =
  some (sh (hL2 w.params (S3 x) (F0w w)) #[.finished] 425 os, ⟨denT (loopC 44 45), loopC 44 45, posL2, (rC w b os K H).2.stack⟩) := by
  rw [goQ_eq, denQ_eq]; cases b <;> kernel_rfl
theorem kC_stk : (rC w b os K H).2.stack = shape (.str ⟨#[127]⟩ 424) posL2 (rC w b os K H).2.stack := by
  cases b <;> kernel_rfl
noncomputable def rD : Shared × Thread := (goQ (w' w b) 18 (sh (hX2 w.params (F0 true) (F0 true)) #[.finished] 427 os) ⟨doneN, loopC 44 45, posL2, (rC w b os K H).2.stack⟩).getD ({}, dead)
theorem kD (x y : XT) : go (w' w b) 18 (sh (hX2 w.params (S3 x) (S3 y)) #[.finished] 427 os) ⟨doneN, loopC 44 45, posL2, (rC w b os K H).2.stack⟩ =
  some (sh (hX2 w.params (S3 x) (S3 y)) #[.finished] 427 os, ⟨denT (orC 39 44), orC 39 44, posU1, (rD w b os K H).2.stack⟩) := by
  rw [goQ_eq, denQ_eq]; cases b <;> kernel_rfl
theorem kD_stk : (rD w b os K H).2.stack = fAt (rD w b os K H).2.stack 0 :: (rD w b os K H).2.stack.tail := by
  cases b <;> kernel_rfl
theorem kE (x y z : XT) : go (w' w b) 9 (sh (hU1 w.params (S3 x) (S3 y) (S3 z)) #[.finished] 427 os) ⟨.pure (.done (.ret (.ref 48))), orC 39 44, posU1, (rD w b os K H).2.stack⟩ =
  some (sh (hP1 w.params (S3 x) (S3 y) (S3 z)) #[.finished] 428 os, ⟨K .next, bodyC, ⟨3, 0, 3, 10⟩, [topFrame default]⟩) := by
  rw [goQ_eq]; cases b <;> kernel_rfl
end
end Mine
end

section
open PySem PySem.W PySem.Challenge PyProof.Rows
set_option maxRecDepth 100000
set_option maxHeartbeats 0
set_option Elab.async false
set_option linter.unusedVariables false
namespace Mine
open PySem.W.Fast
theorem kHash (w : World) (b : Bool) (c t : Nat) (h : Heap) (g : Array GenState) (d : Drawn) (k : Nat) (os : OsState) (cd : Code) (p : Pos) (F : Frame) (stk : List Frame) (vs : List Value) (K : Int → Sem Fin) :
    go (w.withFollow "special-get-raises" b) 7 ⟨h, g, d, k, os⟩ ⟨((pyHash (.str ⟨#[c]⟩ t)).keep vs).bind K, cd, p, F :: stk⟩ = some (⟨h, g, d, k + 1, os⟩, ⟨K (kh w.params c), cd, p, F :: stk⟩) := by
  cases b <;> kernel_rfl
theorem sg_hash {w : World} {c t : Nat} {s : Shared} {cd : Code} {p : Pos} {F : Frame} {stk : List Frame} : SGo w cd p (F :: stk) 7 (pyHash (.str ⟨#[c]⟩ t)) s { s with toks := s.toks + 1 } (kh w.params c) := fun vs K => by
  have := kHash w (w.params.followText "special-get-raises") c t s.heap s.gens s.drawn s.toks s.os cd p F stk vs K
  rw [World.withFollow_self] at this
  exact Go.of this
theorem go_again (w : World) (s : Shared) (a it : Addr) (p : Pos) (k : Result → Sem Fin) (l : List Value) (c₀ : Code) (p₀ : Pos) (q : List Value) (stk : List Frame) :
    go w 1 s ⟨.pure (.again (loopC a it)), loopC a it, p, fr k l c₀ p₀ q :: stk⟩ = some (s, ⟨denT (loopC a it), loopC a it, p, fr k l c₀ p₀ q :: stk⟩) := by
  kernel_rfl
/-- what the loop does behind its next -/
noncomputable def loopF (a it : Addr) : Option Value → Sem Fin
  | some x => (holding [x] (setAdd a x)).bind fun _ => .pure (.again (loopC a it))
  | none => doneN
theorem entry_loop : entryFor treeTable "set.update.loop" = some Builtin.«set.update.loop» := by kernel_rfl
theorem entry_or : entryFor treeTable "frozenset.__or__" = some Builtin.«frozenset.__or__» := by kernel_rfl
theorem entry_sub : entryFor treeTable "frozenset.__sub__" = some Builtin.«frozenset.__sub__» := by kernel_rfl
theorem den_loop (a it : Addr) : denT (loopC a it) = nextT it (loopF a it) := by
  unfold denT denote
  dsimp only
  rw [entry_loop]
  dsimp only
  unfold Builtin.«set.update.loop»
  show (pyNext (.ref it)).bind _ = (pyNext (.ref it)).bind _
  congr 1
  funext x
  cases x <;> rfl
theorem den_or (a b : Addr) : denT (orC a b) = Builtin.«frozenset.__or__» ⟨[.ref a, .ref b], []⟩ := by
  unfold denT denote
  dsimp only
  rw [entry_or]
theorem den_sub (a b : Addr) : denT (subC a b) = Builtin.«frozenset.__sub__» ⟨[.ref a, .ref b], []⟩ := by
  unfold denT denote
  dsimp only
  rw [entry_sub]
/-- one add of the loop, and back to its head -/
theorem loop_add {w : World} {s : Shared} {a it : Addr} {xs : List (Nat × Nat)} {D : Data} {c tk : Nat} {p : Pos} {k : Result → Sem Fin} {l : List Value} {c₀ : Code} {p₀ : Pos} {q : List Value} {stk : List Frame}
    (hD : SetD w.params xs D) (hc : c ∉ xs.map (·.1)) (hx : xs.length < 4000) (ho : s.heap.get? a = some (fz D)) (ha : 28 ≤ a) :
    ∃ D', SetD w.params (xs ++ [(c, tk)]) D' ∧ Go w 16 s ⟨loopF a it (some (.str ⟨#[c]⟩ tk)), loopC a it, p, fr k l c₀ p₀ q :: stk⟩ (setAt { s with toks := s.toks + 1 } a D') ⟨denT (loopC a it), loopC a it, p, fr k l c₀ p₀ q :: stk⟩ := by
  obtain ⟨D', hD', hg⟩ := sg_add (w := w) (cd := loopC a it) (p := p) (stk := fr k l c₀ p₀ q :: stk) (s := { s with toks := s.toks + 1 }) (tk := tk) hD hc hx ho ha
  refine ⟨D', hD', ?_⟩
  have h1 : SGo w (loopC a it) p (fr k l c₀ p₀ q :: stk) 15 (holding [Value.str ⟨#[c]⟩ tk] (setAdd a (.str ⟨#[c]⟩ tk))) s (setAt { s with toks := s.toks + 1 } a D') true := by
    unfold setAdd
    exact SGo.holding (SGo.holding (SGo.bind (i := 7) (j := 8) sg_hash hg))
  exact (h1.at fun _ => .pure (.again (loopC a it))).trans (Go.of (go_again ..))

/-- the signs that the generator hands on, with their tokens -/
noncomputable def xsG (i : Nat) : List (Nat × Nat) := (List.range i).map fun c => (c, 297 + 4 * c)
theorem xsG_succ (i : Nat) : xsG (i + 1) = xsG i ++ [(i, 297 + 4 * i)] := by unfold xsG; rw [List.range_succ, List.map_append]; rfl
theorem xsG_not (i : Nat) : i ∉ (xsG i).map (·.1) := by
  unfold xsG
  rw [List.map_map]
  intro h
  obtain ⟨x, hx, e⟩ := List.mem_map.mp h
  rw [List.mem_range] at hx
  have : x = i := e
  omega
theorem xsG_len (i : Nat) : (xsG i).length = i := by unfold xsG; rw [List.length_map, List.length_range]
theorem hG_get (P : Params) (i : Nat) (D : Data) {e n t} (hD : D = .set e n t) : (hG P i D).get? 39 = some (fz D) := by subst hD; kernel_rfl
theorem hG_set (P : Params) (i : Nat) (D D' : Data) (g : Array GenState) (k : Nat) (os : OsState) : setAt (sh (hG P i D) g k os) 39 D' = sh (hG P i D') g k os := by kernel_rfl
section
variable (w : World) (os : OsState) (k1 k2 k3 : Result → Sem Fin) (l1 l2 l3 q1 q2 q3 : List Value)
noncomputable abbrev thG (K : Sem Fin) : Thread := ⟨K, loopC 39 38, posL1, stkS (.ref 38) posL1 k1 k2 k3 l1 l2 l3 q1 q2 q3⟩
theorem turn0 : ∃ D', SetD w.params (xsG 1) D' ∧ Go w 80 (sh (hL1 w.params (F0w w)) #[G0] 295 os) (thG k1 k2 k3 l1 l2 l3 q1 q2 q3 (denT (loopC 39 38))) (sh (hG w.params 1 D') #[Gs w os] 299 os) (thG k1 k2 k3 l1 l2 l3 q1 q2 q3 (denT (loopC 39 38))) := by
  have h0 : SetD w.params [] (F0w w) := ⟨#[], 0, _, rfl, rfl, .nil⟩
  obtain ⟨D', hD', hg⟩ := loop_add (w := w) (s := sh (hG w.params 1 (F0w w)) #[Gs w os] 298 os) (a := 39) (it := 38) (c := 0) (tk := 297) (p := posL1) (k := k1) (l := l1) (c₀ := .builtin "frozenset.__new__" ⟨[.type "frozenset", .ref 38], []⟩) (p₀ := posL1) (q := q1) (stk := (stkS (.ref 38) posL1 k1 k2 k3 l1 l2 l3 q1 q2 q3).tail)
    h0 (by simp) (by decide) (hG_get _ _ _ rfl) (by decide)
  refine ⟨D', hD', ?_⟩
  have hn : Go w 56 (sh (hL1 w.params (F0w w)) #[G0] 295 os) (thG k1 k2 k3 l1 l2 l3 q1 q2 q3 (denT (loopC 39 38))) (sh (hG w.params 1 (F0w w)) #[Gs w os] 298 os) (thG k1 k2 k3 l1 l2 l3 q1 q2 q3 (loopF 39 38 (some (.str ⟨#[0]⟩ 297)))) := by
    rw [den_loop]
    have e : wf w (w.params.followText "comprehension-iter-twice") (w.params.followText "special-get-raises") = w := by
      unfold wf
      rw [World.withFollow_self]
      exact World.withFollow_self w _
    cases hb : w.params.followText "comprehension-iter-twice" with
    | true =>
      have := kN0t w os k1 k2 k3 l1 l2 l3 q1 q2 q3 (F0w w) (loopF 39 38) (w.params.followText "special-get-raises")
      rw [hb] at e
      rw [e] at this
      exact (Go.of this).le (by decide)
    | false =>
      have := kN0f w os k1 k2 k3 l1 l2 l3 q1 q2 q3 (F0w w) (loopF 39 38) (w.params.followText "special-get-raises")
      rw [hb] at e
      rw [e] at this
      exact Go.of this
  have hg' : Go w 16 (sh (hG w.params 1 (F0w w)) #[Gs w os] 298 os) (thG k1 k2 k3 l1 l2 l3 q1 q2 q3 (loopF 39 38 (some (.str ⟨#[0]⟩ 297)))) (sh (hG w.params 1 D') #[Gs w os] 299 os) (thG k1 k2 k3 l1 l2 l3 q1 q2 q3 (denT (loopC 39 38))) := by
    rw [← hG_set w.params 1 (F0w w) D' #[Gs w os] 299 os]
    exact hg
  exact (hn.trans hg').le (by decide)
theorem turnI {i : Nat} (hi : i < 31) {D : Data} (hD : SetD w.params (xsG (i + 1)) D) : ∃ D', SetD w.params (xsG (i + 2)) D' ∧ Go w 61 (sh (hG w.params (i + 1) D) #[Gs w os] (299 + 4 * i) os) (thG k1 k2 k3 l1 l2 l3 q1 q2 q3 (denT (loopC 39 38))) (sh (hG w.params (i + 2) D') #[Gs w os] (299 + 4 * (i + 1)) os) (thG k1 k2 k3 l1 l2 l3 q1 q2 q3 (denT (loopC 39 38))) := by
  have hget : (hG w.params (i + 2) D).get? 39 = some (fz D) := by obtain ⟨_, _, _, e, _⟩ := hD; exact hG_get _ _ _ e
  obtain ⟨D', hD', hg⟩ := loop_add (w := w) (s := sh (hG w.params (i + 2) D) #[Gs w os] (302 + 4 * i) os) (a := 39) (it := 38) (c := i + 1) (tk := 301 + 4 * i) (p := posL1) (k := k1) (l := l1) (c₀ := .builtin "frozenset.__new__" ⟨[.type "frozenset", .ref 38], []⟩) (p₀ := posL1) (q := q1) (stk := (stkS (.ref 38) posL1 k1 k2 k3 l1 l2 l3 q1 q2 q3).tail)
    hD (xsG_not (i + 1)) (by rw [xsG_len]; omega) hget (by decide)
  refine ⟨D', by rw [xsG_succ (i + 1)]; rw [show 297 + 4 * (i + 1) = 301 + 4 * i by omega]; exact hD', ?_⟩
  have hk := kNi w os k1 k2 k3 l1 l2 l3 q1 q2 q3 D (loopF 39 38)
  have hk' := congrArg (fun l => l[i]?) hk
  simp only [List.getElem?_map, List.getElem?_range hi, Option.map_some] at hk'
  have hn : Go w 45 (sh (hG w.params (i + 1) D) #[Gs w os] (299 + 4 * i) os) (thG k1 k2 k3 l1 l2 l3 q1 q2 q3 (denT (loopC 39 38))) (sh (hG w.params (i + 2) D) #[Gs w os] (302 + 4 * i) os) (thG k1 k2 k3 l1 l2 l3 q1 q2 q3 (loopF 39 38 (some (.str ⟨#[i + 1]⟩ (301 + 4 * i))))) := by
    rw [den_loop]
    exact Go.of (Option.some.inj hk')
  have hg' : Go w 16 (sh (hG w.params (i + 2) D) #[Gs w os] (302 + 4 * i) os) (thG k1 k2 k3 l1 l2 l3 q1 q2 q3 (loopF 39 38 (some (.str ⟨#[i + 1]⟩ (301 + 4 * i))))) (sh (hG w.params (i + 2) D') #[Gs w os] (299 + 4 * (i + 1)) os) (thG k1 k2 k3 l1 l2 l3 q1 q2 q3 (denT (loopC 39 38))) := by
    rw [← hG_set w.params (i + 2) D D' #[Gs w os] (299 + 4 * (i + 1)) os]
    rw [show 299 + 4 * (i + 1) = 302 + 4 * i + 1 by omega]
    exact hg
  exact hn.trans hg'
theorem turns : ∀ (i : Nat), i ≤ 31 → ∃ D', SetD w.params (xsG (i + 1)) D' ∧ Go w (80 + 61 * i) (sh (hL1 w.params (F0w w)) #[G0] 295 os) (thG k1 k2 k3 l1 l2 l3 q1 q2 q3 (denT (loopC 39 38))) (sh (hG w.params (i + 1) D') #[Gs w os] (299 + 4 * i) os) (thG k1 k2 k3 l1 l2 l3 q1 q2 q3 (denT (loopC 39 38)))
  | 0, _ => turn0 w os k1 k2 k3 l1 l2 l3 q1 q2 q3
  | i + 1, h => by
    obtain ⟨D, hD, hg⟩ := turns i (by omega)
    obtain ⟨D', hD', hg'⟩ := turnI w os k1 k2 k3 l1 l2 l3 q1 q2 q3 (i := i) (by omega) hD
    exact ⟨D', hD', (hg.trans hg').le (by omega)⟩
/-- the whole loop over the generator -/
theorem loop1 : ∃ D', SetD w.params (xsG 32) D' ∧ Go w 2001 (sh (hL1 w.params (F0w w)) #[G0] 295 os) (thG k1 k2 k3 l1 l2 l3 q1 q2 q3 (denT (loopC 39 38))) (sh (hX1 w.params D') #[.finished] 423 os) (thG k1 k2 k3 l1 l2 l3 q1 q2 q3 doneN) := by
  obtain ⟨D, hD, hg⟩ := turns w os k1 k2 k3 l1 l2 l3 q1 q2 q3 31 (Nat.le_refl _)
  refine ⟨D, hD, (hg.trans (c := 30) ?_).le (by decide)⟩
  rw [den_loop]
  exact Go.of (kNe w os k1 k2 k3 l1 l2 l3 q1 q2 q3 D (loopF 39 38))
end
end Mine
end

section
open PySem PySem.W PySem.Challenge PyProof.Rows
set_option maxRecDepth 100000
set_option maxHeartbeats 0
set_option Elab.async false
set_option linter.unusedVariables false
namespace Mine
open PySem.W.Fast

noncomputable abbrev th2 (k1 k2 k3 : Result → Sem Fin) (l1 l2 l3 q1 q2 q3 : List Value) (K : Sem Fin) : Thread := ⟨K, loopC 44 45, posL2, stkS (.str ⟨#[127]⟩ 424) posL2 k1 k2 k3 l1 l2 l3 q1 q2 q3⟩
theorem kN2_0 (w : World) (os : OsState) (k1 k2 k3 : Result → Sem Fin) (l1 l2 l3 q1 q2 q3 : List Value) (D39 : Data) (D : Data) (K : Option Value → Sem Fin) : go w 10 (sh (hL2 w.params D39 D) #[.finished] 425 os) (th2 k1 k2 k3 l1 l2 l3 q1 q2 q3 (nextT 45 K)) = some (sh (hN2 w.params D39 D) #[.finished] 426 os, (th2 k1 k2 k3 l1 l2 l3 q1 q2 q3 (K (some (.str ⟨#[127]⟩ 425))))) := by
  rw [goQ_eq, nextQ_eq]; kernel_rfl
theorem kX2 (w : World) (os : OsState) (k1 k2 k3 : Result → Sem Fin) (l1 l2 l3 q1 q2 q3 : List Value) (D39 : Data) (D : Data) (K : Option Value → Sem Fin) : go w 15 (sh (hN2 w.params D39 D) #[.finished] 427 os) (th2 k1 k2 k3 l1 l2 l3 q1 q2 q3 (nextT 45 K)) = some (sh (hX2 w.params D39 D) #[.finished] 427 os, (th2 k1 k2 k3 l1 l2 l3 q1 q2 q3 (K none))) := by
  rw [goQ_eq, nextQ_eq]; kernel_rfl
theorem g_hN2 (P : Params) (D39 : Data) (D : Data) {e n t} (hD : D = .set e n t) : (hN2 P D39 D).get? 44 = some (fz D) := by subst hD; kernel_rfl
theorem s_hN2 (P : Params) (D39 : Data) (D D' : Data) (g : Array GenState) (k : Nat) (os : OsState) : setAt (sh (hN2 P D39 D) g k os) 44 D' = sh (hN2 P D39 D') g k os := by kernel_rfl
theorem loop2 (w : World) (os : OsState) (k1 k2 k3 : Result → Sem Fin) (l1 l2 l3 q1 q2 q3 : List Value) (D39 : Data) : ∃ D', SetD w.params [(127, 425)] D' ∧ Go w 41 (sh (hL2 w.params D39 (F0w w)) #[.finished] 425 os) (th2 k1 k2 k3 l1 l2 l3 q1 q2 q3 (denT (loopC 44 45))) (sh (hX2 w.params D39 D') #[.finished] 427 os) (th2 k1 k2 k3 l1 l2 l3 q1 q2 q3 (doneN)) := by
  have d0 : SetD w.params [] (F0w w) := ⟨#[], 0, _, rfl, rfl, .nil⟩
  have gg0 : (hN2 w.params D39 (F0w w)).get? 44 = some (fz (F0w w)) := by obtain ⟨_, _, _, e, _⟩ := d0; exact g_hN2 _ D39 _ e
  obtain ⟨D1, d1, hg0⟩ := loop_add (w := w) (s := sh (hN2 w.params D39 (F0w w)) #[.finished] 426 os) (a := 44) (it := 45) (c := 127) (tk := 425) (p := posL2) (k := k1) (l := l1) (c₀ := .builtin "frozenset.__new__" ⟨[.type "frozenset", .str ⟨#[127]⟩ 424], []⟩) (p₀ := posL2) (q := q1) (stk := (stkS (.str ⟨#[127]⟩ 424) posL2 k1 k2 k3 l1 l2 l3 q1 q2 q3).tail) d0 (by simp) (by simp) gg0 (by decide)
  have n0 : Go w 10 (sh (hL2 w.params D39 (F0w w)) #[.finished] 425 os) (th2 k1 k2 k3 l1 l2 l3 q1 q2 q3 (denT (loopC 44 45))) (sh (hN2 w.params D39 (F0w w)) #[.finished] 426 os) (th2 k1 k2 k3 l1 l2 l3 q1 q2 q3 (loopF 44 45 (some (.str ⟨#[127]⟩ 425)))) := by
    rw [den_loop]
    exact Go.of (kN2_0 w os k1 k2 k3 l1 l2 l3 q1 q2 q3 D39 (F0w w) _)
  have m0 : Go w 16 (sh (hN2 w.params D39 (F0w w)) #[.finished] 426 os) (th2 k1 k2 k3 l1 l2 l3 q1 q2 q3 (loopF 44 45 (some (.str ⟨#[127]⟩ 425)))) (sh (hN2 w.params D39 D1) #[.finished] 427 os) (th2 k1 k2 k3 l1 l2 l3 q1 q2 q3 (denT (loopC 44 45))) := by
    rw [← s_hN2 w.params D39 (F0w w) D1 #[.finished] 427 os]
    exact hg0
  have x : Go w 15 (sh (hN2 w.params D39 D1) #[.finished] 427 os) (th2 k1 k2 k3 l1 l2 l3 q1 q2 q3 (denT (loopC 44 45))) (sh (hX2 w.params D39 D1) #[.finished] 427 os) (th2 k1 k2 k3 l1 l2 l3 q1 q2 q3 (doneN)) := by
    rw [den_loop]
    exact Go.of (kX2 w os k1 k2 k3 l1 l2 l3 q1 q2 q3 D39 D1 _)
  exact ⟨D1, d1, ((n0.trans m0).trans x).le (by decide)⟩
noncomputable abbrev posL3 : Pos := ⟨4, 39, 4, 54⟩
noncomputable abbrev posU2 : Pos := ⟨4, 26, 4, 54⟩
noncomputable abbrev posL4 : Pos := ⟨7, 10, 7, 26⟩
noncomputable abbrev posL5 : Pos := ⟨8, 32, 8, 47⟩
noncomputable abbrev posU3 : Pos := ⟨8, 22, 8, 47⟩
noncomputable abbrev th3 (k1 k2 k3 : Result → Sem Fin) (l1 l2 l3 q1 q2 q3 : List Value) (K : Sem Fin) : Thread := ⟨K, loopC 49 50, posL3, stkS (.str ⟨#[9]⟩ 428) posL3 k1 k2 k3 l1 l2 l3 q1 q2 q3⟩
theorem kN3_0 (w : World) (os : OsState) (k1 k2 k3 : Result → Sem Fin) (l1 l2 l3 q1 q2 q3 : List Value) (D39 : Data) (D44 : Data) (D48 : Data) (D : Data) (K : Option Value → Sem Fin) : go w 10 (sh (hL3 w.params D39 D44 D48 D) #[.finished] 429 os) (th3 k1 k2 k3 l1 l2 l3 q1 q2 q3 (nextT 50 K)) = some (sh (hN3 w.params D39 D44 D48 D) #[.finished] 430 os, (th3 k1 k2 k3 l1 l2 l3 q1 q2 q3 (K (some (.str ⟨#[9]⟩ 429))))) := by
  rw [goQ_eq, nextQ_eq]; kernel_rfl
theorem kX3 (w : World) (os : OsState) (k1 k2 k3 : Result → Sem Fin) (l1 l2 l3 q1 q2 q3 : List Value) (D39 : Data) (D44 : Data) (D48 : Data) (D : Data) (K : Option Value → Sem Fin) : go w 15 (sh (hN3 w.params D39 D44 D48 D) #[.finished] 431 os) (th3 k1 k2 k3 l1 l2 l3 q1 q2 q3 (nextT 50 K)) = some (sh (hX3 w.params D39 D44 D48 D) #[.finished] 431 os, (th3 k1 k2 k3 l1 l2 l3 q1 q2 q3 (K none))) := by
  rw [goQ_eq, nextQ_eq]; kernel_rfl
theorem g_hN3 (P : Params) (D39 : Data) (D44 : Data) (D48 : Data) (D : Data) {e n t} (hD : D = .set e n t) : (hN3 P D39 D44 D48 D).get? 49 = some (fz D) := by subst hD; kernel_rfl
theorem s_hN3 (P : Params) (D39 : Data) (D44 : Data) (D48 : Data) (D D' : Data) (g : Array GenState) (k : Nat) (os : OsState) : setAt (sh (hN3 P D39 D44 D48 D) g k os) 49 D' = sh (hN3 P D39 D44 D48 D') g k os := by kernel_rfl
theorem loop3 (w : World) (os : OsState) (k1 k2 k3 : Result → Sem Fin) (l1 l2 l3 q1 q2 q3 : List Value) (D39 : Data) (D44 : Data) (D48 : Data) : ∃ D', SetD w.params [(9, 429)] D' ∧ Go w 41 (sh (hL3 w.params D39 D44 D48 (F0w w)) #[.finished] 429 os) (th3 k1 k2 k3 l1 l2 l3 q1 q2 q3 (denT (loopC 49 50))) (sh (hX3 w.params D39 D44 D48 D') #[.finished] 431 os) (th3 k1 k2 k3 l1 l2 l3 q1 q2 q3 (doneN)) := by
  have d0 : SetD w.params [] (F0w w) := ⟨#[], 0, _, rfl, rfl, .nil⟩
  have gg0 : (hN3 w.params D39 D44 D48 (F0w w)).get? 49 = some (fz (F0w w)) := by obtain ⟨_, _, _, e, _⟩ := d0; exact g_hN3 _ D39 D44 D48 _ e
  obtain ⟨D1, d1, hg0⟩ := loop_add (w := w) (s := sh (hN3 w.params D39 D44 D48 (F0w w)) #[.finished] 430 os) (a := 49) (it := 50) (c := 9) (tk := 429) (p := posL3) (k := k1) (l := l1) (c₀ := .builtin "frozenset.__new__" ⟨[.type "frozenset", .str ⟨#[9]⟩ 428], []⟩) (p₀ := posL3) (q := q1) (stk := (stkS (.str ⟨#[9]⟩ 428) posL3 k1 k2 k3 l1 l2 l3 q1 q2 q3).tail) d0 (by simp) (by simp) gg0 (by decide)
  have n0 : Go w 10 (sh (hL3 w.params D39 D44 D48 (F0w w)) #[.finished] 429 os) (th3 k1 k2 k3 l1 l2 l3 q1 q2 q3 (denT (loopC 49 50))) (sh (hN3 w.params D39 D44 D48 (F0w w)) #[.finished] 430 os) (th3 k1 k2 k3 l1 l2 l3 q1 q2 q3 (loopF 49 50 (some (.str ⟨#[9]⟩ 429)))) := by
    rw [den_loop]
    exact Go.of (kN3_0 w os k1 k2 k3 l1 l2 l3 q1 q2 q3 D39 D44 D48 (F0w w) _)
  have m0 : Go w 16 (sh (hN3 w.params D39 D44 D48 (F0w w)) #[.finished] 430 os) (th3 k1 k2 k3 l1 l2 l3 q1 q2 q3 (loopF 49 50 (some (.str ⟨#[9]⟩ 429)))) (sh (hN3 w.params D39 D44 D48 D1) #[.finished] 431 os) (th3 k1 k2 k3 l1 l2 l3 q1 q2 q3 (denT (loopC 49 50))) := by
    rw [← s_hN3 w.params D39 D44 D48 (F0w w) D1 #[.finished] 431 os]
    exact hg0
  have x : Go w 15 (sh (hN3 w.params D39 D44 D48 D1) #[.finished] 431 os) (th3 k1 k2 k3 l1 l2 l3 q1 q2 q3 (denT (loopC 49 50))) (sh (hX3 w.params D39 D44 D48 D1) #[.finished] 431 os) (th3 k1 k2 k3 l1 l2 l3 q1 q2 q3 (doneN)) := by
    rw [den_loop]
    exact Go.of (kX3 w os k1 k2 k3 l1 l2 l3 q1 q2 q3 D39 D44 D48 D1 _)
  exact ⟨D1, d1, ((n0.trans m0).trans x).le (by decide)⟩
noncomputable abbrev th4 (k1 k2 k3 : Result → Sem Fin) (l1 l2 l3 q1 q2 q3 : List Value) (K : Sem Fin) : Thread := ⟨K, loopC 54 55, posL4, stkS (.str ⟨#[32, 9]⟩ 434) posL4 k1 k2 k3 l1 l2 l3 q1 q2 q3⟩
theorem kN4_0 (w : World) (os : OsState) (k1 k2 k3 : Result → Sem Fin) (l1 l2 l3 q1 q2 q3 : List Value) (D39 : Data) (D44 : Data) (D48 : Data) (D49 : Data) (D53 : Data) (D : Data) (K : Option Value → Sem Fin) : go w 10 (sh (hL4 w.params D39 D44 D48 D49 D53 D) #[.finished] 435 os) (th4 k1 k2 k3 l1 l2 l3 q1 q2 q3 (nextT 55 K)) = some (sh (hN4a w.params D39 D44 D48 D49 D53 D) #[.finished] 436 os, (th4 k1 k2 k3 l1 l2 l3 q1 q2 q3 (K (some (.str ⟨#[32]⟩ 435))))) := by
  rw [goQ_eq, nextQ_eq]; kernel_rfl
theorem kN4_1 (w : World) (os : OsState) (k1 k2 k3 : Result → Sem Fin) (l1 l2 l3 q1 q2 q3 : List Value) (D39 : Data) (D44 : Data) (D48 : Data) (D49 : Data) (D53 : Data) (D : Data) (K : Option Value → Sem Fin) : go w 10 (sh (hN4a w.params D39 D44 D48 D49 D53 D) #[.finished] 437 os) (th4 k1 k2 k3 l1 l2 l3 q1 q2 q3 (nextT 55 K)) = some (sh (hN4b w.params D39 D44 D48 D49 D53 D) #[.finished] 438 os, (th4 k1 k2 k3 l1 l2 l3 q1 q2 q3 (K (some (.str ⟨#[9]⟩ 437))))) := by
  rw [goQ_eq, nextQ_eq]; kernel_rfl
theorem kX4 (w : World) (os : OsState) (k1 k2 k3 : Result → Sem Fin) (l1 l2 l3 q1 q2 q3 : List Value) (D39 : Data) (D44 : Data) (D48 : Data) (D49 : Data) (D53 : Data) (D : Data) (K : Option Value → Sem Fin) : go w 15 (sh (hN4b w.params D39 D44 D48 D49 D53 D) #[.finished] 439 os) (th4 k1 k2 k3 l1 l2 l3 q1 q2 q3 (nextT 55 K)) = some (sh (hX4 w.params D39 D44 D48 D49 D53 D) #[.finished] 439 os, (th4 k1 k2 k3 l1 l2 l3 q1 q2 q3 (K none))) := by
  rw [goQ_eq, nextQ_eq]; kernel_rfl
theorem g_hN4a (P : Params) (D39 : Data) (D44 : Data) (D48 : Data) (D49 : Data) (D53 : Data) (D : Data) {e n t} (hD : D = .set e n t) : (hN4a P D39 D44 D48 D49 D53 D).get? 54 = some (fz D) := by subst hD; kernel_rfl
theorem s_hN4a (P : Params) (D39 : Data) (D44 : Data) (D48 : Data) (D49 : Data) (D53 : Data) (D D' : Data) (g : Array GenState) (k : Nat) (os : OsState) : setAt (sh (hN4a P D39 D44 D48 D49 D53 D) g k os) 54 D' = sh (hN4a P D39 D44 D48 D49 D53 D') g k os := by kernel_rfl
theorem g_hN4b (P : Params) (D39 : Data) (D44 : Data) (D48 : Data) (D49 : Data) (D53 : Data) (D : Data) {e n t} (hD : D = .set e n t) : (hN4b P D39 D44 D48 D49 D53 D).get? 54 = some (fz D) := by subst hD; kernel_rfl
theorem s_hN4b (P : Params) (D39 : Data) (D44 : Data) (D48 : Data) (D49 : Data) (D53 : Data) (D D' : Data) (g : Array GenState) (k : Nat) (os : OsState) : setAt (sh (hN4b P D39 D44 D48 D49 D53 D) g k os) 54 D' = sh (hN4b P D39 D44 D48 D49 D53 D') g k os := by kernel_rfl
theorem loop4 (w : World) (os : OsState) (k1 k2 k3 : Result → Sem Fin) (l1 l2 l3 q1 q2 q3 : List Value) (D39 : Data) (D44 : Data) (D48 : Data) (D49 : Data) (D53 : Data) : ∃ D', SetD w.params [(32, 435), (9, 437)] D' ∧ Go w 67 (sh (hL4 w.params D39 D44 D48 D49 D53 (F0w w)) #[.finished] 435 os) (th4 k1 k2 k3 l1 l2 l3 q1 q2 q3 (denT (loopC 54 55))) (sh (hX4 w.params D39 D44 D48 D49 D53 D') #[.finished] 439 os) (th4 k1 k2 k3 l1 l2 l3 q1 q2 q3 (doneN)) := by
  have d0 : SetD w.params [] (F0w w) := ⟨#[], 0, _, rfl, rfl, .nil⟩
  have gg0 : (hN4a w.params D39 D44 D48 D49 D53 (F0w w)).get? 54 = some (fz (F0w w)) := by obtain ⟨_, _, _, e, _⟩ := d0; exact g_hN4a _ D39 D44 D48 D49 D53 _ e
  obtain ⟨D1, d1, hg0⟩ := loop_add (w := w) (s := sh (hN4a w.params D39 D44 D48 D49 D53 (F0w w)) #[.finished] 436 os) (a := 54) (it := 55) (c := 32) (tk := 435) (p := posL4) (k := k1) (l := l1) (c₀ := .builtin "frozenset.__new__" ⟨[.type "frozenset", .str ⟨#[32, 9]⟩ 434], []⟩) (p₀ := posL4) (q := q1) (stk := (stkS (.str ⟨#[32, 9]⟩ 434) posL4 k1 k2 k3 l1 l2 l3 q1 q2 q3).tail) d0 (by simp) (by simp) gg0 (by decide)
  have n0 : Go w 10 (sh (hL4 w.params D39 D44 D48 D49 D53 (F0w w)) #[.finished] 435 os) (th4 k1 k2 k3 l1 l2 l3 q1 q2 q3 (denT (loopC 54 55))) (sh (hN4a w.params D39 D44 D48 D49 D53 (F0w w)) #[.finished] 436 os) (th4 k1 k2 k3 l1 l2 l3 q1 q2 q3 (loopF 54 55 (some (.str ⟨#[32]⟩ 435)))) := by
    rw [den_loop]
    exact Go.of (kN4_0 w os k1 k2 k3 l1 l2 l3 q1 q2 q3 D39 D44 D48 D49 D53 (F0w w) _)
  have m0 : Go w 16 (sh (hN4a w.params D39 D44 D48 D49 D53 (F0w w)) #[.finished] 436 os) (th4 k1 k2 k3 l1 l2 l3 q1 q2 q3 (loopF 54 55 (some (.str ⟨#[32]⟩ 435)))) (sh (hN4a w.params D39 D44 D48 D49 D53 D1) #[.finished] 437 os) (th4 k1 k2 k3 l1 l2 l3 q1 q2 q3 (denT (loopC 54 55))) := by
    rw [← s_hN4a w.params D39 D44 D48 D49 D53 (F0w w) D1 #[.finished] 437 os]
    exact hg0
  have gg1 : (hN4b w.params D39 D44 D48 D49 D53 D1).get? 54 = some (fz D1) := by obtain ⟨_, _, _, e, _⟩ := d1; exact g_hN4b _ D39 D44 D48 D49 D53 _ e
  obtain ⟨D2, d2, hg1⟩ := loop_add (w := w) (s := sh (hN4b w.params D39 D44 D48 D49 D53 D1) #[.finished] 438 os) (a := 54) (it := 55) (c := 9) (tk := 437) (p := posL4) (k := k1) (l := l1) (c₀ := .builtin "frozenset.__new__" ⟨[.type "frozenset", .str ⟨#[32, 9]⟩ 434], []⟩) (p₀ := posL4) (q := q1) (stk := (stkS (.str ⟨#[32, 9]⟩ 434) posL4 k1 k2 k3 l1 l2 l3 q1 q2 q3).tail) d1 (by simp) (by simp) gg1 (by decide)
  have n1 : Go w 10 (sh (hN4a w.params D39 D44 D48 D49 D53 D1) #[.finished] 437 os) (th4 k1 k2 k3 l1 l2 l3 q1 q2 q3 (denT (loopC 54 55))) (sh (hN4b w.params D39 D44 D48 D49 D53 D1) #[.finished] 438 os) (th4 k1 k2 k3 l1 l2 l3 q1 q2 q3 (loopF 54 55 (some (.str ⟨#[9]⟩ 437)))) := by
    rw [den_loop]
    exact Go.of (kN4_1 w os k1 k2 k3 l1 l2 l3 q1 q2 q3 D39 D44 D48 D49 D53 D1 _)
  have m1 : Go w 16 (sh (hN4b w.params D39 D44 D48 D49 D53 D1) #[.finished] 438 os) (th4 k1 k2 k3 l1 l2 l3 q1 q2 q3 (loopF 54 55 (some (.str ⟨#[9]⟩ 437)))) (sh (hN4b w.params D39 D44 D48 D49 D53 D2) #[.finished] 439 os) (th4 k1 k2 k3 l1 l2 l3 q1 q2 q3 (denT (loopC 54 55))) := by
    rw [← s_hN4b w.params D39 D44 D48 D49 D53 D1 D2 #[.finished] 439 os]
    exact hg1
  have x : Go w 15 (sh (hN4b w.params D39 D44 D48 D49 D53 D2) #[.finished] 439 os) (th4 k1 k2 k3 l1 l2 l3 q1 q2 q3 (denT (loopC 54 55))) (sh (hX4 w.params D39 D44 D48 D49 D53 D2) #[.finished] 439 os) (th4 k1 k2 k3 l1 l2 l3 q1 q2 q3 (doneN)) := by
    rw [den_loop]
    exact Go.of (kX4 w os k1 k2 k3 l1 l2 l3 q1 q2 q3 D39 D44 D48 D49 D53 D2 _)
  exact ⟨D2, d2, (((n0.trans m0).trans (n1.trans m1)).trans x).le (by decide)⟩
noncomputable abbrev th5 (k1 k2 k3 : Result → Sem Fin) (l1 l2 l3 q1 q2 q3 : List Value) (K : Sem Fin) : Thread := ⟨K, loopC 58 59, posL5, stkS (.str ⟨#[10]⟩ 440) posL5 k1 k2 k3 l1 l2 l3 q1 q2 q3⟩
theorem kN5_0 (w : World) (os : OsState) (k1 k2 k3 : Result → Sem Fin) (l1 l2 l3 q1 q2 q3 : List Value) (D39 : Data) (D44 : Data) (D48 : Data) (D49 : Data) (D53 : Data) (D54 : Data) (D : Data) (K : Option Value → Sem Fin) : go w 10 (sh (hL5 w.params D39 D44 D48 D49 D53 D54 D) #[.finished] 441 os) (th5 k1 k2 k3 l1 l2 l3 q1 q2 q3 (nextT 59 K)) = some (sh (hN5 w.params D39 D44 D48 D49 D53 D54 D) #[.finished] 442 os, (th5 k1 k2 k3 l1 l2 l3 q1 q2 q3 (K (some (.str ⟨#[10]⟩ 441))))) := by
  rw [goQ_eq, nextQ_eq]; kernel_rfl
theorem kX5 (w : World) (os : OsState) (k1 k2 k3 : Result → Sem Fin) (l1 l2 l3 q1 q2 q3 : List Value) (D39 : Data) (D44 : Data) (D48 : Data) (D49 : Data) (D53 : Data) (D54 : Data) (D : Data) (K : Option Value → Sem Fin) : go w 15 (sh (hN5 w.params D39 D44 D48 D49 D53 D54 D) #[.finished] 443 os) (th5 k1 k2 k3 l1 l2 l3 q1 q2 q3 (nextT 59 K)) = some (sh (hX5 w.params D39 D44 D48 D49 D53 D54 D) #[.finished] 443 os, (th5 k1 k2 k3 l1 l2 l3 q1 q2 q3 (K none))) := by
  rw [goQ_eq, nextQ_eq]; kernel_rfl
theorem g_hN5 (P : Params) (D39 : Data) (D44 : Data) (D48 : Data) (D49 : Data) (D53 : Data) (D54 : Data) (D : Data) {e n t} (hD : D = .set e n t) : (hN5 P D39 D44 D48 D49 D53 D54 D).get? 58 = some (fz D) := by subst hD; kernel_rfl
theorem s_hN5 (P : Params) (D39 : Data) (D44 : Data) (D48 : Data) (D49 : Data) (D53 : Data) (D54 : Data) (D D' : Data) (g : Array GenState) (k : Nat) (os : OsState) : setAt (sh (hN5 P D39 D44 D48 D49 D53 D54 D) g k os) 58 D' = sh (hN5 P D39 D44 D48 D49 D53 D54 D') g k os := by kernel_rfl
theorem loop5 (w : World) (os : OsState) (k1 k2 k3 : Result → Sem Fin) (l1 l2 l3 q1 q2 q3 : List Value) (D39 : Data) (D44 : Data) (D48 : Data) (D49 : Data) (D53 : Data) (D54 : Data) : ∃ D', SetD w.params [(10, 441)] D' ∧ Go w 41 (sh (hL5 w.params D39 D44 D48 D49 D53 D54 (F0w w)) #[.finished] 441 os) (th5 k1 k2 k3 l1 l2 l3 q1 q2 q3 (denT (loopC 58 59))) (sh (hX5 w.params D39 D44 D48 D49 D53 D54 D') #[.finished] 443 os) (th5 k1 k2 k3 l1 l2 l3 q1 q2 q3 (doneN)) := by
  have d0 : SetD w.params [] (F0w w) := ⟨#[], 0, _, rfl, rfl, .nil⟩
  have gg0 : (hN5 w.params D39 D44 D48 D49 D53 D54 (F0w w)).get? 58 = some (fz (F0w w)) := by obtain ⟨_, _, _, e, _⟩ := d0; exact g_hN5 _ D39 D44 D48 D49 D53 D54 _ e
  obtain ⟨D1, d1, hg0⟩ := loop_add (w := w) (s := sh (hN5 w.params D39 D44 D48 D49 D53 D54 (F0w w)) #[.finished] 442 os) (a := 58) (it := 59) (c := 10) (tk := 441) (p := posL5) (k := k1) (l := l1) (c₀ := .builtin "frozenset.__new__" ⟨[.type "frozenset", .str ⟨#[10]⟩ 440], []⟩) (p₀ := posL5) (q := q1) (stk := (stkS (.str ⟨#[10]⟩ 440) posL5 k1 k2 k3 l1 l2 l3 q1 q2 q3).tail) d0 (by simp) (by simp) gg0 (by decide)
  have n0 : Go w 10 (sh (hL5 w.params D39 D44 D48 D49 D53 D54 (F0w w)) #[.finished] 441 os) (th5 k1 k2 k3 l1 l2 l3 q1 q2 q3 (denT (loopC 58 59))) (sh (hN5 w.params D39 D44 D48 D49 D53 D54 (F0w w)) #[.finished] 442 os) (th5 k1 k2 k3 l1 l2 l3 q1 q2 q3 (loopF 58 59 (some (.str ⟨#[10]⟩ 441)))) := by
    rw [den_loop]
    exact Go.of (kN5_0 w os k1 k2 k3 l1 l2 l3 q1 q2 q3 D39 D44 D48 D49 D53 D54 (F0w w) _)
  have m0 : Go w 16 (sh (hN5 w.params D39 D44 D48 D49 D53 D54 (F0w w)) #[.finished] 442 os) (th5 k1 k2 k3 l1 l2 l3 q1 q2 q3 (loopF 58 59 (some (.str ⟨#[10]⟩ 441)))) (sh (hN5 w.params D39 D44 D48 D49 D53 D54 D1) #[.finished] 443 os) (th5 k1 k2 k3 l1 l2 l3 q1 q2 q3 (denT (loopC 58 59))) := by
    rw [← s_hN5 w.params D39 D44 D48 D49 D53 D54 (F0w w) D1 #[.finished] 443 os]
    exact hg0
  have x : Go w 15 (sh (hN5 w.params D39 D44 D48 D49 D53 D54 D1) #[.finished] 443 os) (th5 k1 k2 k3 l1 l2 l3 q1 q2 q3 (denT (loopC 58 59))) (sh (hX5 w.params D39 D44 D48 D49 D53 D54 D1) #[.finished] 443 os) (th5 k1 k2 k3 l1 l2 l3 q1 q2 q3 (doneN)) := by
    rw [den_loop]
    exact Go.of (kX5 w os k1 k2 k3 l1 l2 l3 q1 q2 q3 D39 D44 D48 D49 D53 D54 D1 _)
  exact ⟨D1, d1, ((n0.trans m0).trans x).le (by decide)⟩
section
variable (w : World) (b : Bool) (os : OsState) (K : Flow → Sem Fin) (H : Value → Sem Fin)

noncomputable def rP2 : Shared × Thread := (goQ (w' w b) 21 (sh (hP1 w.params (F0 true) (F0 true) (F0 true)) #[.finished] 428 os) ⟨stQ 2 K H, bodyC, ⟨3, 0, 3, 10⟩, [topFrame default]⟩).getD ({}, dead)
theorem kP2 (x39 x44 x48 : XT) : go (w' w b) 21 (sh (hP1 w.params (S3 x39) (S3 x44) (S3 x48)) #[.finished] 428 os) ⟨stT 2 K H, bodyC, ⟨3, 0, 3, 10⟩, [topFrame default]⟩ = some (sh (hL3 w.params (S3 x39) (S3 x44) (S3 x48) (F0w w)) #[.finished] 429 os, ⟨denT (loopC 49 50), loopC 49 50, posL3, (rP2 w b os K H).2.stack⟩) := by
  rw [goQ_eq, stQ_eq, denQ_eq]; cases b <;> kernel_rfl
theorem kP2_stk : (rP2 w b os K H).2.stack = shape (.str ⟨#[9]⟩ 428) posL3 (rP2 w b os K H).2.stack := by
  cases b <;> kernel_rfl
noncomputable def rS2 : Shared × Thread := (goQ (w' w b) 18 (sh (hX3 w.params (F0 true) (F0 true) (F0 true) (F0 true)) #[.finished] 431 os) ⟨doneN, loopC 49 50, posL3, (rP2 w b os K H).2.stack⟩).getD ({}, dead)
theorem kS2 (x39 x44 x48 x49 : XT) : go (w' w b) 18 (sh (hX3 w.params (S3 x39) (S3 x44) (S3 x48) (S3 x49)) #[.finished] 431 os) ⟨doneN, loopC 49 50, posL3, (rP2 w b os K H).2.stack⟩ = some (sh (hX3 w.params (S3 x39) (S3 x44) (S3 x48) (S3 x49)) #[.finished] 431 os, ⟨denT (subC 48 49), subC 48 49, posU2, (rS2 w b os K H).2.stack⟩) := by
  rw [goQ_eq, denQ_eq]; cases b <;> kernel_rfl
theorem kS2_stk : (rS2 w b os K H).2.stack = fAt (rS2 w b os K H).2.stack 0 :: (rS2 w b os K H).2.stack.tail := by
  cases b <;> kernel_rfl
theorem kE2 (x39 x44 x48 x49 x53 : XT) : go (w' w b) 9 (sh (hU2 w.params (S3 x39) (S3 x44) (S3 x48) (S3 x49) (S3 x53)) #[.finished] 431 os) ⟨.pure (.done (.ret (.ref 53))), subC 48 49, posU2, (rS2 w b os K H).2.stack⟩ = some (sh (hP2 w.params (S3 x39) (S3 x44) (S3 x48) (S3 x49) (S3 x53)) #[.finished] 432 os, ⟨K .next, bodyC, ⟨4, 0, 4, 23⟩, [topFrame default]⟩) := by
  rw [goQ_eq]; cases b <;> kernel_rfl
theorem kP3 (x39 x44 x48 x49 x53 : XT) : go w 10 (sh (hP2 w.params (S3 x39) (S3 x44) (S3 x48) (S3 x49) (S3 x53)) #[.finished] 432 os) ⟨stT 3 K H, bodyC, ⟨4, 0, 4, 23⟩, [topFrame default]⟩ = some (sh (hP3 w.params (S3 x39) (S3 x44) (S3 x48) (S3 x49) (S3 x53)) #[.finished] 433 os, ⟨K .next, bodyC, ⟨5, 0, 5, 25⟩, [topFrame default]⟩) := by
  rw [goQ_eq, stQ_eq]; kernel_rfl
theorem kP4 (x39 x44 x48 x49 x53 : XT) : go w 10 (sh (hP3 w.params (S3 x39) (S3 x44) (S3 x48) (S3 x49) (S3 x53)) #[.finished] 433 os) ⟨stT 4 K H, bodyC, ⟨5, 0, 5, 25⟩, [topFrame default]⟩ = some (sh (hP4 w.params (S3 x39) (S3 x44) (S3 x48) (S3 x49) (S3 x53)) #[.finished] 434 os, ⟨K .next, bodyC, ⟨6, 0, 6, 21⟩, [topFrame default]⟩) := by
  rw [goQ_eq, stQ_eq]; kernel_rfl
noncomputable def rP5 : Shared × Thread := (goQ (w' w b) 19 (sh (hP4 w.params (F0 true) (F0 true) (F0 true) (F0 true) (F0 true)) #[.finished] 434 os) ⟨stQ 5 K H, bodyC, ⟨6, 0, 6, 21⟩, [topFrame default]⟩).getD ({}, dead)
theorem kP5 (x39 x44 x48 x49 x53 : XT) : go (w' w b) 19 (sh (hP4 w.params (S3 x39) (S3 x44) (S3 x48) (S3 x49) (S3 x53)) #[.finished] 434 os) ⟨stT 5 K H, bodyC, ⟨6, 0, 6, 21⟩, [topFrame default]⟩ = some (sh (hL4 w.params (S3 x39) (S3 x44) (S3 x48) (S3 x49) (S3 x53) (F0w w)) #[.finished] 435 os, ⟨denT (loopC 54 55), loopC 54 55, posL4, (rP5 w b os K H).2.stack⟩) := by
  rw [goQ_eq, stQ_eq, denQ_eq]; cases b <;> kernel_rfl
theorem kP5_stk : (rP5 w b os K H).2.stack = shape (.str ⟨#[32, 9]⟩ 434) posL4 (rP5 w b os K H).2.stack := by
  cases b <;> kernel_rfl
theorem kE5 (x39 x44 x48 x49 x53 x54 : XT) : go (w' w b) 18 (sh (hX4 w.params (S3 x39) (S3 x44) (S3 x48) (S3 x49) (S3 x53) (S3 x54)) #[.finished] 439 os) ⟨doneN, loopC 54 55, posL4, (rP5 w b os K H).2.stack⟩ = some (sh (hP5 w.params (S3 x39) (S3 x44) (S3 x48) (S3 x49) (S3 x53) (S3 x54)) #[.finished] 440 os, ⟨K .next, bodyC, ⟨7, 0, 7, 7⟩, [topFrame default]⟩) := by
  rw [goQ_eq]; cases b <;> kernel_rfl
noncomputable def rP6 : Shared × Thread := (goQ (w' w b) 21 (sh (hP5 w.params (F0 true) (F0 true) (F0 true) (F0 true) (F0 true) (F0 true)) #[.finished] 440 os) ⟨stQ 6 K H, bodyC, ⟨7, 0, 7, 7⟩, [topFrame default]⟩).getD ({}, dead)
theorem kP6 (x39 x44 x48 x49 x53 x54 : XT) : go (w' w b) 21 (sh (hP5 w.params (S3 x39) (S3 x44) (S3 x48) (S3 x49) (S3 x53) (S3 x54)) #[.finished] 440 os) ⟨stT 6 K H, bodyC, ⟨7, 0, 7, 7⟩, [topFrame default]⟩ = some (sh (hL5 w.params (S3 x39) (S3 x44) (S3 x48) (S3 x49) (S3 x53) (S3 x54) (F0w w)) #[.finished] 441 os, ⟨denT (loopC 58 59), loopC 58 59, posL5, (rP6 w b os K H).2.stack⟩) := by
  rw [goQ_eq, stQ_eq, denQ_eq]; cases b <;> kernel_rfl
theorem kP6_stk : (rP6 w b os K H).2.stack = shape (.str ⟨#[10]⟩ 440) posL5 (rP6 w b os K H).2.stack := by
  cases b <;> kernel_rfl
noncomputable def rS6 : Shared × Thread := (goQ (w' w b) 18 (sh (hX5 w.params (F0 true) (F0 true) (F0 true) (F0 true) (F0 true) (F0 true) (F0 true)) #[.finished] 443 os) ⟨doneN, loopC 58 59, posL5, (rP6 w b os K H).2.stack⟩).getD ({}, dead)
theorem kS6 (x39 x44 x48 x49 x53 x54 x58 : XT) : go (w' w b) 18 (sh (hX5 w.params (S3 x39) (S3 x44) (S3 x48) (S3 x49) (S3 x53) (S3 x54) (S3 x58)) #[.finished] 443 os) ⟨doneN, loopC 58 59, posL5, (rP6 w b os K H).2.stack⟩ = some (sh (hX5 w.params (S3 x39) (S3 x44) (S3 x48) (S3 x49) (S3 x53) (S3 x54) (S3 x58)) #[.finished] 443 os, ⟨denT (orC 54 58), orC 54 58, posU3, (rS6 w b os K H).2.stack⟩) := by
  rw [goQ_eq, denQ_eq]; cases b <;> kernel_rfl
theorem kS6_stk : (rS6 w b os K H).2.stack = fAt (rS6 w b os K H).2.stack 0 :: (rS6 w b os K H).2.stack.tail := by
  cases b <;> kernel_rfl
theorem kE6 (x39 x44 x48 x49 x53 x54 x58 x62 : XT) : go (w' w b) 9 (sh (hU3 w.params (S3 x39) (S3 x44) (S3 x48) (S3 x49) (S3 x53) (S3 x54) (S3 x58) (S3 x62)) #[.finished] 443 os) ⟨.pure (.done (.ret (.ref 62))), orC 54 58, posU3, (rS6 w b os K H).2.stack⟩ = some (sh (hP6 w.params (S3 x39) (S3 x44) (S3 x48) (S3 x49) (S3 x53) (S3 x54) (S3 x58) (S3 x62)) #[.finished] 444 os, ⟨K .next, bodyC, ⟨8, 0, 8, 19⟩, [topFrame default]⟩) := by
  rw [goQ_eq]; cases b <;> kernel_rfl
end
end Mine
end

section
open PySem PySem.W PySem.Challenge PyProof.Rows
set_option maxRecDepth 100000
set_option maxHeartbeats 0
set_option Elab.async false
set_option linter.unusedVariables false
namespace Mine
open PySem.W.Fast
theorem self' (w : World) : w' w (w.params.followText "special-get-raises") = w := World.withFollow_self w _
theorem SetD.tri {P : Params} {xs : List (Nat × Nat)} {D : Data} (h : SetD P xs D) : ∃ x : XT, D = S3 x := let ⟨es, ep, t, e, _⟩ := h; ⟨(es, ep, t), e⟩
noncomputable abbrev th0 (w : World) (K : Sem Fin) (p : Pos) : Thread := ⟨K, bodyC, p, [topFrame default]⟩
/-- the 33 signs, then the 32 without the tab -/
noncomputable def xs48 : List (Nat × Nat) := xsG 32 ++ [(127, 425)]
noncomputable def xs53 : List (Nat × Nat) := xs48.filter (·.1 != 9)
noncomputable def xs54 : List (Nat × Nat) := [(32, 435), (9, 437)]
noncomputable def xs62 : List (Nat × Nat) := xs54 ++ [(10, 441)]
section
variable (w : World) (os : OsState) (K : Flow → Sem Fin) (H : Value → Sem Fin)
theorem g1a (P : Params) (x y : XT) : (hX2 P (S3 x) (S3 y)).get? 39 = some (fz (S3 x)) := by kernel_rfl
theorem g1b (P : Params) (x y : XT) : (hX2 P (S3 x) (S3 y)).get? 44 = some (fz (S3 y)) := by kernel_rfl
theorem u1 (P : Params) (x y : XT) (D : Data) : (hX2 P (S3 x) (S3 y)).push (fz D) = hU1 P (S3 x) (S3 y) D := by kernel_rfl
theorem n1 (P : Params) (x y : XT) : (hX2 P (S3 x) (S3 y)).objs.size = 48 := by kernel_rfl
theorem piece1 : ∃ x39 x44 x48 : XT, SetD w.params xs48 (S3 x48) ∧ Go w 2300 (sh (hp1 w.params) #[] 284 os) (th0 w (stT 1 K H) ⟨2, 0, 2, 8⟩) (sh (hP1 w.params (S3 x39) (S3 x44) (S3 x48)) #[.finished] 428 os) (th0 w (K .next) ⟨3, 0, 3, 10⟩) := by
  generalize hb : w.params.followText "special-get-raises" = b
  have e : w.withFollow "special-get-raises" b = w := by rw [← hb]; exact self' w
  have hA := kA w b os K H
  have hAs := kA_stk w b os K H
  rw [e] at hA hAs
  rw [hAs] at hA
  obtain ⟨D39, d39, l1⟩ := loop1 w os (kOf (fAt (rA w os K H).2.stack 0)) (kOf (fAt (rA w os K H).2.stack 1)) (kOf (fAt (rA w os K H).2.stack 2)) (lOf (fAt (rA w os K H).2.stack 0)) (lOf (fAt (rA w os K H).2.stack 1)) (lOf (fAt (rA w os K H).2.stack 2)) (qOf (fAt (rA w os K H).2.stack 0)) (qOf (fAt (rA w os K H).2.stack 1)) (qOf (fAt (rA w os K H).2.stack 2))
  obtain ⟨x39, rfl⟩ := d39.tri
  have hC := kC w b os K H x39
  have hCs := kC_stk w b os K H
  unfold w' at hC
  rw [e, hAs, hCs] at hC
  obtain ⟨D44, d44, l2⟩ := loop2 w os (kOf (fAt (rC w b os K H).2.stack 0)) (kOf (fAt (rC w b os K H).2.stack 1)) (kOf (fAt (rC w b os K H).2.stack 2)) (lOf (fAt (rC w b os K H).2.stack 0)) (lOf (fAt (rC w b os K H).2.stack 1)) (lOf (fAt (rC w b os K H).2.stack 2)) (qOf (fAt (rC w b os K H).2.stack 0)) (qOf (fAt (rC w b os K H).2.stack 1)) (qOf (fAt (rC w b os K H).2.stack 2)) (S3 x39)
  obtain ⟨x44, rfl⟩ := d44.tri
  have hD := kD w b os K H x39 x44
  unfold w' at hD
  rw [e, hCs] at hD
  obtain ⟨D48, d48, o⟩ := sg_or (w := w) (cd := orC 39 44) (p := posU1) (stk := (rD w b os K H).2.stack) (s := sh (hX2 w.params (S3 x39) (S3 x44)) #[.finished] 427 os) d39 d44 (Or.inr (xsG_len 32)) (by decide) (g1a ..) (g1b ..) (by decide) (by show 28 ≤ (hX2 w.params (S3 x39) (S3 x44)).objs.size; rw [n1]; decide)
  obtain ⟨x48, rfl⟩ := d48.tri
  have hE := kE w b os K H x39 x44 x48
  unfold w' at hE
  rw [e] at hE
  have o' := o.at (fun r => Sem.pure r)
  rw [Sem.bind_pure, ← den_or] at o'
  have es : ({ sh (hX2 w.params (S3 x39) (S3 x44)) #[.finished] 427 os with heap := (hX2 w.params (S3 x39) (S3 x44)).push (fz (S3 x48)) } : Shared) = sh (hU1 w.params (S3 x39) (S3 x44) (S3 x48)) #[.finished] 427 os := by rw [u1]
  rw [es, n1] at o'
  refine ⟨x39, x44, x48, d48, ?_⟩
  exact (((((Go.of hA).trans l1).trans (Go.of hC)).trans l2).trans (((Go.of hD).trans o').trans (Go.of hE))).le (by decide)
theorem g2a (P : Params) (x39 x44 x48 x49 : XT) : (hX3 P (S3 x39) (S3 x44) (S3 x48) (S3 x49)).get? 48 = some (fz (S3 x48)) := by kernel_rfl
theorem g2b (P : Params) (x39 x44 x48 x49 : XT) : (hX3 P (S3 x39) (S3 x44) (S3 x48) (S3 x49)).get? 49 = some (fz (S3 x49)) := by kernel_rfl
theorem u2 (P : Params) (x39 x44 x48 x49 : XT) (D : Data) : (hX3 P (S3 x39) (S3 x44) (S3 x48) (S3 x49)).push (fz D) = hU2 P (S3 x39) (S3 x44) (S3 x48) (S3 x49) D := by kernel_rfl
theorem n2 (P : Params) (x39 x44 x48 x49 : XT) : (hX3 P (S3 x39) (S3 x44) (S3 x48) (S3 x49)).objs.size = 53 := by kernel_rfl
theorem perm53 : xs48.Perm ((9, 333) :: xs53) := by decide
theorem piece2 (x39 x44 x48 : XT) (d48 : SetD w.params xs48 (S3 x48)) : ∃ x49 x53 : XT, SetD w.params xs53 (S3 x53) ∧ Go w 2300 (sh (hP1 w.params (S3 x39) (S3 x44) (S3 x48)) #[.finished] 428 os) (th0 w (stT 2 K H) ⟨3, 0, 3, 10⟩) (sh (hP2 w.params (S3 x39) (S3 x44) (S3 x48) (S3 x49) (S3 x53)) #[.finished] 432 os) (th0 w (K .next) ⟨4, 0, 4, 23⟩) := by
  generalize hb : w.params.followText "special-get-raises" = b
  have e : w.withFollow "special-get-raises" b = w := by rw [← hb]; exact self' w
  have hA := kP2 w b os K H x39 x44 x48
  have hAs := kP2_stk w b os K H
  unfold w' at hA
  rw [e, hAs] at hA
  obtain ⟨D49, d49, l1⟩ := loop3 w os (kOf (fAt (rP2 w b os K H).2.stack 0)) (kOf (fAt (rP2 w b os K H).2.stack 1)) (kOf (fAt (rP2 w b os K H).2.stack 2)) (lOf (fAt (rP2 w b os K H).2.stack 0)) (lOf (fAt (rP2 w b os K H).2.stack 1)) (lOf (fAt (rP2 w b os K H).2.stack 2)) (qOf (fAt (rP2 w b os K H).2.stack 0)) (qOf (fAt (rP2 w b os K H).2.stack 1)) (qOf (fAt (rP2 w b os K H).2.stack 2)) (S3 x39) (S3 x44) (S3 x48)
  obtain ⟨x49, rfl⟩ := d49.tri
  have hD := kS2 w b os K H x39 x44 x48 x49
  have hDs := kS2_stk w b os K H
  unfold w' at hD
  rw [e, hAs] at hD
  obtain ⟨D53, d53, o⟩ := sg_sub (w := w) (cd := subC 48 49) (p := posU2) (stk := (rS2 w b os K H).2.stack) (s := sh (hX3 w.params (S3 x39) (S3 x44) (S3 x48) (S3 x49)) #[.finished] 431 os) (c := 9) (ty := 333) (tx := 429) (ys := xs53) (fun s => by rw [hDs]; exact sg_eq w s _ _ _ _) d48 d49 (by decide) perm53 (by decide) (g2a ..) (g2b ..) (by decide) (by show 28 ≤ (hX3 w.params (S3 x39) (S3 x44) (S3 x48) (S3 x49)).objs.size; rw [n2]; decide)
  obtain ⟨x53, rfl⟩ := d53.tri
  have hE := kE2 w b os K H x39 x44 x48 x49 x53
  unfold w' at hE
  rw [e] at hE
  have o' := o.at (fun r => Sem.pure r)
  rw [Sem.bind_pure, ← den_sub] at o'
  have es : ({ sh (hX3 w.params (S3 x39) (S3 x44) (S3 x48) (S3 x49)) #[.finished] 431 os with heap := (hX3 w.params (S3 x39) (S3 x44) (S3 x48) (S3 x49)).push (fz (S3 x53)) } : Shared) = sh (hU2 w.params (S3 x39) (S3 x44) (S3 x48) (S3 x49) (S3 x53)) #[.finished] 431 os := by rw [u2]
  rw [es, n2] at o'
  refine ⟨x49, x53, d53, ?_⟩
  exact (((Go.of hA).trans l1).trans (((Go.of hD).trans o').trans (Go.of hE))).le (by decide)
theorem piece3 (x39 x44 x48 x49 x53 : XT) : Go w 2300 (sh (hP2 w.params (S3 x39) (S3 x44) (S3 x48) (S3 x49) (S3 x53)) #[.finished] 432 os) (th0 w (stT 3 K H) ⟨4, 0, 4, 23⟩) (sh (hP3 w.params (S3 x39) (S3 x44) (S3 x48) (S3 x49) (S3 x53)) #[.finished] 433 os) (th0 w (K .next) ⟨5, 0, 5, 25⟩) := (Go.of (kP3 w os K H x39 x44 x48 x49 x53)).le (by decide)
theorem piece4 (x39 x44 x48 x49 x53 : XT) : Go w 2300 (sh (hP3 w.params (S3 x39) (S3 x44) (S3 x48) (S3 x49) (S3 x53)) #[.finished] 433 os) (th0 w (stT 4 K H) ⟨5, 0, 5, 25⟩) (sh (hP4 w.params (S3 x39) (S3 x44) (S3 x48) (S3 x49) (S3 x53)) #[.finished] 434 os) (th0 w (K .next) ⟨6, 0, 6, 21⟩) := (Go.of (kP4 w os K H x39 x44 x48 x49 x53)).le (by decide)
theorem piece5 (x39 x44 x48 x49 x53 : XT) : ∃ x54 : XT, SetD w.params xs54 (S3 x54) ∧ Go w 2300 (sh (hP4 w.params (S3 x39) (S3 x44) (S3 x48) (S3 x49) (S3 x53)) #[.finished] 434 os) (th0 w (stT 5 K H) ⟨6, 0, 6, 21⟩) (sh (hP5 w.params (S3 x39) (S3 x44) (S3 x48) (S3 x49) (S3 x53) (S3 x54)) #[.finished] 440 os) (th0 w (K .next) ⟨7, 0, 7, 7⟩) := by
  generalize hb : w.params.followText "special-get-raises" = b
  have e : w.withFollow "special-get-raises" b = w := by rw [← hb]; exact self' w
  have hA := kP5 w b os K H x39 x44 x48 x49 x53
  have hAs := kP5_stk w b os K H
  unfold w' at hA
  rw [e, hAs] at hA
  obtain ⟨D54, d54, l1⟩ := loop4 w os (kOf (fAt (rP5 w b os K H).2.stack 0)) (kOf (fAt (rP5 w b os K H).2.stack 1)) (kOf (fAt (rP5 w b os K H).2.stack 2)) (lOf (fAt (rP5 w b os K H).2.stack 0)) (lOf (fAt (rP5 w b os K H).2.stack 1)) (lOf (fAt (rP5 w b os K H).2.stack 2)) (qOf (fAt (rP5 w b os K H).2.stack 0)) (qOf (fAt (rP5 w b os K H).2.stack 1)) (qOf (fAt (rP5 w b os K H).2.stack 2)) (S3 x39) (S3 x44) (S3 x48) (S3 x49) (S3 x53)
  obtain ⟨x54, rfl⟩ := d54.tri
  have hE := kE5 w b os K H x39 x44 x48 x49 x53 x54
  unfold w' at hE
  rw [e, hAs] at hE
  exact ⟨x54, d54, (((Go.of hA).trans l1).trans (Go.of hE)).le (by decide)⟩
theorem g6a (P : Params) (x39 x44 x48 x49 x53 x54 x58 : XT) : (hX5 P (S3 x39) (S3 x44) (S3 x48) (S3 x49) (S3 x53) (S3 x54) (S3 x58)).get? 54 = some (fz (S3 x54)) := by kernel_rfl
theorem g6b (P : Params) (x39 x44 x48 x49 x53 x54 x58 : XT) : (hX5 P (S3 x39) (S3 x44) (S3 x48) (S3 x49) (S3 x53) (S3 x54) (S3 x58)).get? 58 = some (fz (S3 x58)) := by kernel_rfl
theorem u6 (P : Params) (x39 x44 x48 x49 x53 x54 x58 : XT) (D : Data) : (hX5 P (S3 x39) (S3 x44) (S3 x48) (S3 x49) (S3 x53) (S3 x54) (S3 x58)).push (fz D) = hU3 P (S3 x39) (S3 x44) (S3 x48) (S3 x49) (S3 x53) (S3 x54) (S3 x58) D := by kernel_rfl
theorem n6 (P : Params) (x39 x44 x48 x49 x53 x54 x58 : XT) : (hX5 P (S3 x39) (S3 x44) (S3 x48) (S3 x49) (S3 x53) (S3 x54) (S3 x58)).objs.size = 62 := by kernel_rfl
theorem piece6 (x39 x44 x48 x49 x53 x54 : XT) (d54 : SetD w.params xs54 (S3 x54)) : ∃ x58 x62 : XT, SetD w.params xs62 (S3 x62) ∧ Go w 2300 (sh (hP5 w.params (S3 x39) (S3 x44) (S3 x48) (S3 x49) (S3 x53) (S3 x54)) #[.finished] 440 os) (th0 w (stT 6 K H) ⟨7, 0, 7, 7⟩) (sh (hP6 w.params (S3 x39) (S3 x44) (S3 x48) (S3 x49) (S3 x53) (S3 x54) (S3 x58) (S3 x62)) #[.finished] 444 os) (th0 w (K .next) ⟨8, 0, 8, 19⟩) := by
  generalize hb : w.params.followText "special-get-raises" = b
  have e : w.withFollow "special-get-raises" b = w := by rw [← hb]; exact self' w
  have hA := kP6 w b os K H x39 x44 x48 x49 x53 x54
  have hAs := kP6_stk w b os K H
  unfold w' at hA
  rw [e, hAs] at hA
  obtain ⟨D58, d58, l1⟩ := loop5 w os (kOf (fAt (rP6 w b os K H).2.stack 0)) (kOf (fAt (rP6 w b os K H).2.stack 1)) (kOf (fAt (rP6 w b os K H).2.stack 2)) (lOf (fAt (rP6 w b os K H).2.stack 0)) (lOf (fAt (rP6 w b os K H).2.stack 1)) (lOf (fAt (rP6 w b os K H).2.stack 2)) (qOf (fAt (rP6 w b os K H).2.stack 0)) (qOf (fAt (rP6 w b os K H).2.stack 1)) (qOf (fAt (rP6 w b os K H).2.stack 2)) (S3 x39) (S3 x44) (S3 x48) (S3 x49) (S3 x53) (S3 x54)
  obtain ⟨x58, rfl⟩ := d58.tri
  have hD := kS6 w b os K H x39 x44 x48 x49 x53 x54 x58
  unfold w' at hD
  rw [e, hAs] at hD
  obtain ⟨D62, d62, o⟩ := sg_or (w := w) (cd := orC 54 58) (p := posU3) (stk := (rS6 w b os K H).2.stack) (s := sh (hX5 w.params (S3 x39) (S3 x44) (S3 x48) (S3 x49) (S3 x53) (S3 x54) (S3 x58)) #[.finished] 443 os) d54 d58 (Or.inl rfl) (by decide) (g6a ..) (g6b ..) (by decide) (by show 28 ≤ (hX5 w.params (S3 x39) (S3 x44) (S3 x48) (S3 x49) (S3 x53) (S3 x54) (S3 x58)).objs.size; rw [n6]; decide)
  obtain ⟨x62, rfl⟩ := d62.tri
  have hE := kE6 w b os K H x39 x44 x48 x49 x53 x54 x58 x62
  unfold w' at hE
  rw [e] at hE
  have o' := o.at (fun r => Sem.pure r)
  rw [Sem.bind_pure, ← den_or] at o'
  have es : ({ sh (hX5 w.params (S3 x39) (S3 x44) (S3 x48) (S3 x49) (S3 x53) (S3 x54) (S3 x58)) #[.finished] 443 os with heap := (hX5 w.params (S3 x39) (S3 x44) (S3 x48) (S3 x49) (S3 x53) (S3 x54) (S3 x58)).push (fz (S3 x62)) } : Shared) = sh (hU3 w.params (S3 x39) (S3 x44) (S3 x48) (S3 x49) (S3 x53) (S3 x54) (S3 x58) (S3 x62)) #[.finished] 443 os := by rw [u6]
  rw [es, n6] at o'
  refine ⟨x58, x62, d62, ?_⟩
  exact (((Go.of hA).trans l1).trans (((Go.of hD).trans o').trans (Go.of hE))).le (by decide)
/-- the states behind the sixth piece: which sets the world made is not said, only what lies in them -/
noncomputable abbrev hEnd (P : Params) (x : Fin 8 → XT) : Heap := hP6 P (S3 (x 0)) (S3 (x 1)) (S3 (x 2)) (S3 (x 3)) (S3 (x 4)) (S3 (x 5)) (S3 (x 6)) (S3 (x 7))
end
end Mine
end

section
open PySem PySem.W PySem.Challenge PyProof.Rows
set_option maxRecDepth 100000
set_option maxHeartbeats 0
set_option Elab.async false
set_option linter.unusedVariables false
set_option profiler true
set_option profiler.threshold 300
namespace Mine
open PySem.W.Fast
/-- n statements from the i-th on -/
noncomputable abbrev rsT (i n : Nat) (K : Flow → Sem Fin) (H : Value → Sem Fin) : Sem Fin := (execs (((behindTheImports pw).drop i).take n) envT).wrap K H id id
noncomputable abbrev rsQ (i n : Nat) (K : Flow → Sem Fin) (H : Value → Sem Fin) : Sem Fin := (tw12563942051412417395 (((behindTheImports pw).drop i).take n) envT).wrap K H id id
theorem rsQ_eq : rsT = rsQ := by unfold rsT rsQ; rw [te12563942051412417395]
noncomputable abbrev hE6 (P : Params) (a b c d e f g h : XT) : Heap := hP6 P (S3 a) (S3 b) (S3 c) (S3 d) (S3 e) (S3 f) (S3 g) (S3 h)
noncomputable abbrev hE15 (P : Params) (a b c d e f g h : XT) : Heap := hP15 P (S3 a) (S3 b) (S3 c) (S3 d) (S3 e) (S3 f) (S3 g) (S3 h)
noncomputable abbrev hE16 (P : Params) (a b c d e f g h : XT) : Heap := hP16 P (S3 a) (S3 b) (S3 c) (S3 d) (S3 e) (S3 f) (S3 g) (S3 h)
noncomputable abbrev hE29 (P : Params) (a b c d e f g h : XT) : Heap := hP29 P (S3 a) (S3 b) (S3 c) (S3 d) (S3 e) (S3 f) (S3 g) (S3 h)
section
variable (w : World) (os : OsState) (K : Flow → Sem Fin) (H : Value → Sem Fin) (a b c d e f g h : XT)
theorem kF1 : go w 466 (sh (hE6 w.params a b c d e f g h) #[.finished] 444 os) (th0 w (rsT 7 9 K H) ⟨8, 0, 8, 19⟩) = some (sh (hE15 w.params a b c d e f g h) #[.finished] 560 os, th0 w (K .next) ⟨63, 0, 63, 8⟩) := by
  rw [goQ_eq, rsQ_eq]; kernel_rfl
theorem kF3 : go w 309 (sh (hE16 w.params a b c d e f g h) #[.finished] 706 os) (th0 w (rsT 17 13 K H) ⟨64, 0, 64, 18⟩) = some (sh (hE29 w.params a b c d e f g h) #[.finished] 795 os, th0 w (K .next) ⟨180, 0, 185, 98⟩) := by
  rw [goQ_eq, rsQ_eq]; kernel_rfl
end
end Mine
end

section
open PySem PySem.W PySem.Challenge PyProof.Rows
set_option maxRecDepth 100000
set_option maxHeartbeats 0
set_option Elab.async false
set_option linter.unusedVariables false
set_option profiler true
set_option profiler.threshold 300
namespace Mine
open PySem.W.Fast
section
variable (w : World) (os : OsState) (K : Flow → Sem Fin) (H : Value → Sem Fin) (a b c d e f g h : XT)
theorem kF2tt : go (wf w true true) 1242 (sh (hE15 w.params a b c d e f g h) #[.finished] 560 os) (th0 w (rsT 16 1 K H) ⟨63, 0, 63, 8⟩) = some (sh (hE16 w.params a b c d e f g h) #[.finished] 706 os, th0 w (K .next) ⟨64, 0, 64, 18⟩) := by
  rw [goQ_eq, rsQ_eq]; kernel_rfl
theorem kF2tf : go (wf w true false) 1242 (sh (hE15 w.params a b c d e f g h) #[.finished] 560 os) (th0 w (rsT 16 1 K H) ⟨63, 0, 63, 8⟩) = some (sh (hE16 w.params a b c d e f g h) #[.finished] 706 os, th0 w (K .next) ⟨64, 0, 64, 18⟩) := by
  rw [goQ_eq, rsQ_eq]; kernel_rfl
theorem kF2ft : go (wf w false true) 1252 (sh (hE15 w.params a b c d e f g h) #[.finished] 560 os) (th0 w (rsT 16 1 K H) ⟨63, 0, 63, 8⟩) = some (sh (hE16 w.params a b c d e f g h) #[.finished] 706 os, th0 w (K .next) ⟨64, 0, 64, 18⟩) := by
  rw [goQ_eq, rsQ_eq]; kernel_rfl
theorem kF2ff : go (wf w false false) 1252 (sh (hE15 w.params a b c d e f g h) #[.finished] 560 os) (th0 w (rsT 16 1 K H) ⟨63, 0, 63, 8⟩) = some (sh (hE16 w.params a b c d e f g h) #[.finished] 706 os, th0 w (K .next) ⟨64, 0, 64, 18⟩) := by
  rw [goQ_eq, rsQ_eq]; kernel_rfl
theorem kF2 : Go w 1252 (sh (hE15 w.params a b c d e f g h) #[.finished] 560 os) (th0 w (rsT 16 1 K H) ⟨63, 0, 63, 8⟩) (sh (hE16 w.params a b c d e f g h) #[.finished] 706 os) (th0 w (K .next) ⟨64, 0, 64, 18⟩) := by
  have q : wf w (w.params.followText "comprehension-iter-twice") (w.params.followText "special-get-raises") = w := by
    unfold wf
    rw [World.withFollow_self]
    exact World.withFollow_self w _
  cases hb : w.params.followText "comprehension-iter-twice" <;> cases hc : w.params.followText "special-get-raises" <;> rw [hb, hc] at q
  · have := kF2ff w os K H a b c d e f g h
    rw [q] at this
    exact Go.of this
  · have := kF2ft w os K H a b c d e f g h
    rw [q] at this
    exact Go.of this
  · have := kF2tf w os K H a b c d e f g h
    rw [q] at this
    exact (Go.of this).le (by decide)
  · have := kF2tt w os K H a b c d e f g h
    rw [q] at this
    exact (Go.of this).le (by decide)
end
end Mine
end

section
open PySem PySem.W PySem.Challenge PyProof.Rows
set_option maxRecDepth 100000
set_option maxHeartbeats 0
set_option Elab.async false
set_option linter.unusedVariables false
set_option profiler true
set_option profiler.threshold 300
namespace Mine
open PySem.W.Fast
theorem open_ (w : World) : (fencedOpening treeTable pw w 20000).map (fun s => (s.heap, s.gens, s.drawn, s.toks)) = some (h0 w.params, #[], {}, 276) := by
  unfold fencedOpening
  rw [te10274390034422433532, te14364793385576792824, te14289696077712309145]
  kernel_rfl
theorem size_ (w : World) : ((h0 w.params).isNs mainGlobals && (#[] : Array GenState).size == 0, (h0 w.params).objs.size, (h0 w.params).nsMap mainGlobals "__annotations__") = (true, 28, ann) := by kernel_rfl
theorem pre_ (w : World) (os : OsState) : go w 12 (sh (h0 w.params) #[] 276 os) (topStub pw) = some (sh (hpre w.params) #[] 282 os, ⟨denT bodyC, bodyC, default, [topFrame default]⟩) := by
  rw [goQ_eq, denQ_eq]; kernel_rfl
theorem piece0 (w : World) (os : OsState) (K : Flow → Sem Fin) (H : Value → Sem Fin) : go w 9 (sh (hpre w.params) #[] 282 os) ⟨(blockStart (behindTheImports pw) envT).wrap (fun _ => stT 0 K H) .raise id id, bodyC, default, [topFrame default]⟩ =
    some (sh (hp1 w.params) #[] 284 os, th0 w (K .next) ⟨2, 0, 2, 8⟩) := by
  rw [goQ_eq, stQ_eq]; kernel_rfl
theorem end_ (w : World) (os : OsState) (a b c d e f g h : XT) : topRun treeTable pw w 28 ann 2 (sh (hE29 w.params a b c d e f g h) #[.finished] 795 os) (th0 w (doneF .next) ⟨180, 0, 185, 98⟩) = some (sh (hE29 w.params a b c d e f g h) #[.finished] 795 os) := by
  rw [te14082659384304107361, te14364793385576792824]; kernel_rfl
end Mine
end

section
open PySem PySem.W PySem.Challenge PyProof.Rows
set_option maxRecDepth 100000
set_option maxHeartbeats 400000
set_option Elab.async false
set_option linter.unusedVariables false
namespace Mine
noncomputable def rs (rest : List Stmt) : Sem Fin := (execs rest envT).wrap doneF (leaveH envT) id id
noncomputable abbrev Kc (rest : List Stmt) : Flow → Sem Fin := fun f => match f with | .next => rs rest | f => doneF f
theorem rs_app (l rest : List Stmt) : rs (l ++ rest) = (execs l envT).wrap (Kc rest) (leaveH envT) id id := by
  unfold Kc rs
  exact execs_app_wrap l rest doneF (leaveH envT) id id
noncomputable def st1 (i : Nat) : List Stmt := [stB i]
noncomputable def sl (i n : Nat) : List Stmt := ((behindTheImports pw).drop i).take n
theorem slices : behindTheImports pw = st1 0 ++ (st1 1 ++ (st1 2 ++ (st1 3 ++ (st1 4 ++ (st1 5 ++ (st1 6 ++ (sl 7 9 ++ (sl 16 1 ++ (sl 17 13 ++ []))))))))) := by unfold st1 sl; kernel_rfl
theorem rs1 (i : Nat) (rest : List Stmt) : rs (st1 i ++ rest) = stT i (Kc rest) (leaveH envT) := by rw [rs_app]; unfold st1; rfl
theorem rsl (i n : Nat) (rest : List Stmt) : rs (sl i n ++ rest) = rsT i n (Kc rest) (leaveH envT) := by rw [rs_app]; unfold sl; rfl
theorem body_rs : denT bodyC = (blockStart (behindTheImports pw) envT).wrap (fun _ => rs (behindTheImports pw)) .raise id id := by
  unfold rs
  exact body_wrap (tb := treeTable) (env := envT) (behindTheImports pw)
theorem rs_nil : rs [] = doneF .next := by unfold rs; rfl
theorem Go.top {w : World} {b N : Nat} {s s' r : Shared} {t t' : Thread} (x : Go w b s t s' t') (h : topRun treeTable pw w 28 ann N s' t' = some r) : topRun treeTable pw w 28 ann (b + N) s t = some r := by
  obtain ⟨n, hn, h1⟩ := x
  have := topRun_mono (b - n) _ _ _ _ (go_top h1 h)
  rw [show n + N + (b - n) = b + N by omega] at this
  exact this
section
variable (w : World) (os : OsState) (rest : List Stmt) (a b c d e f g h : XT)
noncomputable abbrev A0 (w : World) (os : OsState) : Shared := sh (hpre w.params) #[] 282 os

theorem q0 : Go w 9 (A0 w os) ⟨(blockStart (behindTheImports pw) envT).wrap (fun _ => rs (st1 0 ++ rest)) .raise id id, bodyC, default, [topFrame default]⟩ (sh (hp1 w.params) #[] 284 os) (th0 w (rs rest) ⟨2, 0, 2, 8⟩) := by
  rw [rs1]
  exact Go.of (piece0 w os (Kc rest) (leaveH envT))
noncomputable abbrev B1 (w : World) (os : OsState) : Shared := sh (hp1 w.params) #[] 284 os
noncomputable abbrev B2 (w : World) (os : OsState) (a b c : XT) : Shared := sh (hP1 w.params (S3 a) (S3 b) (S3 c)) #[.finished] 428 os
noncomputable abbrev B3 (w : World) (os : OsState) (a b c d e : XT) : Shared := sh (hP2 w.params (S3 a) (S3 b) (S3 c) (S3 d) (S3 e)) #[.finished] 432 os
noncomputable abbrev B4 (w : World) (os : OsState) (a b c d e : XT) : Shared := sh (hP3 w.params (S3 a) (S3 b) (S3 c) (S3 d) (S3 e)) #[.finished] 433 os
noncomputable abbrev B5 (w : World) (os : OsState) (a b c d e : XT) : Shared := sh (hP4 w.params (S3 a) (S3 b) (S3 c) (S3 d) (S3 e)) #[.finished] 434 os
noncomputable abbrev B6 (w : World) (os : OsState) (a b c d e f : XT) : Shared := sh (hP5 w.params (S3 a) (S3 b) (S3 c) (S3 d) (S3 e) (S3 f)) #[.finished] 440 os
noncomputable abbrev B7 (w : World) (os : OsState) (a b c d e f g h : XT) : Shared := sh (hE6 w.params a b c d e f g h) #[.finished] 444 os
noncomputable abbrev B8 (w : World) (os : OsState) (a b c d e f g h : XT) : Shared := sh (hE15 w.params a b c d e f g h) #[.finished] 560 os
noncomputable abbrev B9 (w : World) (os : OsState) (a b c d e f g h : XT) : Shared := sh (hE16 w.params a b c d e f g h) #[.finished] 706 os
noncomputable abbrev B10 (w : World) (os : OsState) (a b c d e f g h : XT) : Shared := sh (hE29 w.params a b c d e f g h) #[.finished] 795 os
theorem q1 : ∃ a b c, SetD w.params xs48 (S3 c) ∧ Go w 2300 (B1 w os) (th0 w (rs (st1 1 ++ rest)) ⟨2, 0, 2, 8⟩) (B2 w os a b c) (th0 w (rs rest) ⟨3, 0, 3, 10⟩) := by
  rw [rs1]
  exact piece1 w os (Kc rest) (leaveH envT)
theorem q2 (hc : SetD w.params xs48 (S3 c)) : ∃ d e, SetD w.params xs53 (S3 e) ∧ Go w 2300 (B2 w os a b c) (th0 w (rs (st1 2 ++ rest)) ⟨3, 0, 3, 10⟩) (B3 w os a b c d e) (th0 w (rs rest) ⟨4, 0, 4, 23⟩) := by
  rw [rs1]
  exact piece2 w os (Kc rest) (leaveH envT) a b c hc
theorem q3 : Go w 2300 (B3 w os a b c d e) (th0 w (rs (st1 3 ++ rest)) ⟨4, 0, 4, 23⟩) (B4 w os a b c d e) (th0 w (rs rest) ⟨5, 0, 5, 25⟩) := by
  rw [rs1]
  exact piece3 w os (Kc rest) (leaveH envT) a b c d e
theorem q4 : Go w 2300 (B4 w os a b c d e) (th0 w (rs (st1 4 ++ rest)) ⟨5, 0, 5, 25⟩) (B5 w os a b c d e) (th0 w (rs rest) ⟨6, 0, 6, 21⟩) := by
  rw [rs1]
  exact piece4 w os (Kc rest) (leaveH envT) a b c d e
theorem q5 : ∃ f, SetD w.params xs54 (S3 f) ∧ Go w 2300 (B5 w os a b c d e) (th0 w (rs (st1 5 ++ rest)) ⟨6, 0, 6, 21⟩) (B6 w os a b c d e f) (th0 w (rs rest) ⟨7, 0, 7, 7⟩) := by
  rw [rs1]
  exact piece5 w os (Kc rest) (leaveH envT) a b c d e
theorem q6 (hf : SetD w.params xs54 (S3 f)) : ∃ g h, SetD w.params xs62 (S3 h) ∧ Go w 2300 (B6 w os a b c d e f) (th0 w (rs (st1 6 ++ rest)) ⟨7, 0, 7, 7⟩) (B7 w os a b c d e f g h) (th0 w (rs rest) ⟨8, 0, 8, 19⟩) := by
  rw [rs1]
  exact piece6 w os (Kc rest) (leaveH envT) a b c d e f hf
theorem q7 : Go w 466 (B7 w os a b c d e f g h) (th0 w (rs (sl 7 9 ++ rest)) ⟨8, 0, 8, 19⟩) (B8 w os a b c d e f g h) (th0 w (rs rest) ⟨63, 0, 63, 8⟩) := by
  rw [rsl]
  exact Go.of (kF1 w os (Kc rest) (leaveH envT) a b c d e f g h)
theorem q8 : Go w 1252 (B8 w os a b c d e f g h) (th0 w (rs (sl 16 1 ++ rest)) ⟨63, 0, 63, 8⟩) (B9 w os a b c d e f g h) (th0 w (rs rest) ⟨64, 0, 64, 18⟩) := by
  rw [rsl]
  exact kF2 w os (Kc rest) (leaveH envT) a b c d e f g h
theorem q9 : Go w 309 (B9 w os a b c d e f g h) (th0 w (rs (sl 17 13 ++ rest)) ⟨64, 0, 64, 18⟩) (B10 w os a b c d e f g h) (th0 w (rs rest) ⟨180, 0, 185, 98⟩) := by
  rw [rsl]
  exact Go.of (kF3 w os (Kc rest) (leaveH envT) a b c d e f g h)
theorem qe : topRun treeTable pw w 28 ann 2 (B10 w os a b c d e f g h) (th0 w (rs []) ⟨180, 0, 185, 98⟩) = some (B10 w os a b c d e f g h) := by
  rw [rs_nil]
  exact end_ w os a b c d e f g h
theorem qp : Go w 12 (sh (h0 w.params) #[] 276 os) (topStub pw) (A0 w os) ⟨(blockStart (behindTheImports pw) envT).wrap (fun _ => rs (behindTheImports pw)) .raise id id, bodyC, default, [topFrame default]⟩ := by
  rw [← body_rs]
  exact Go.of (pre_ w os)
end

theorem run (w : World) (os : OsState) : ∃ a b c d e f g h : XT, SetD w.params xs48 (S3 c) ∧ SetD w.params xs53 (S3 e) ∧ SetD w.params xs54 (S3 f) ∧ SetD w.params xs62 (S3 h) ∧
    topRun treeTable pw w 28 ann 20000 (sh (h0 w.params) #[] 276 os) (topStub pw) = some (B10 w os a b c d e f g h) := by
  have p0 := qp w os
  rw [show rs (behindTheImports pw) = rs _ from congrArg rs slices] at p0
  have p1 := q0 w os (st1 1 ++ (st1 2 ++ (st1 3 ++ (st1 4 ++ (st1 5 ++ (st1 6 ++ (sl 7 9 ++ (sl 16 1 ++ (sl 17 13 ++ [])))))))))
  obtain ⟨a, b, c, hc, p2⟩ := q1 w os (st1 2 ++ (st1 3 ++ (st1 4 ++ (st1 5 ++ (st1 6 ++ (sl 7 9 ++ (sl 16 1 ++ (sl 17 13 ++ []))))))))
  obtain ⟨d, e, he, p3⟩ := q2 w os (st1 3 ++ (st1 4 ++ (st1 5 ++ (st1 6 ++ (sl 7 9 ++ (sl 16 1 ++ (sl 17 13 ++ []))))))) a b c hc
  have p4 := q3 w os (st1 4 ++ (st1 5 ++ (st1 6 ++ (sl 7 9 ++ (sl 16 1 ++ (sl 17 13 ++ [])))))) a b c d e
  have p5 := q4 w os (st1 5 ++ (st1 6 ++ (sl 7 9 ++ (sl 16 1 ++ (sl 17 13 ++ []))))) a b c d e
  obtain ⟨f, hf, p6⟩ := q5 w os (st1 6 ++ (sl 7 9 ++ (sl 16 1 ++ (sl 17 13 ++ [])))) a b c d e
  obtain ⟨g, h, hh, p7⟩ := q6 w os (sl 7 9 ++ (sl 16 1 ++ (sl 17 13 ++ []))) a b c d e f hf
  have p8 := q7 w os (sl 16 1 ++ (sl 17 13 ++ [])) a b c d e f g h
  have p9 := q8 w os (sl 17 13 ++ []) a b c d e f g h
  have p10 := q9 w os [] a b c d e f g h
  have h1 := (((p0.trans p1).trans p2).trans p3).trans p4
  have h2 := ((((p5.trans p6).trans p7).trans p8).trans p9).trans p10
  have h3 := ((h1.trans h2).le (c := 19998) (by decide)).top (qe w os a b c d e f g h)
  exact ⟨a, b, c, d, e, f, g, h, hc, he, hf, hh, h3⟩
end Mine
end

section
open PySem PySem.W PySem.Challenge PyProof.Rows
set_option maxRecDepth 100000
set_option maxHeartbeats 0
set_option Elab.async false
set_option linter.unusedVariables false
set_option profiler true
set_option profiler.threshold 300
namespace Mine
noncomputable def qv : Program := view pw [0, 2, 3, 4, 5, 6, 7, 8, 9, 10, 11, 12, 13, 14, 15, 17, 18, 20, 22, 23, 24, 26, 27, 28, 29, 30]
noncomputable def loose : List Str := ["ASCII_CTRL", "ILLEGAL_BASIC_STR_CHARS", "ILLEGAL_LITERAL_STR_CHARS", "ILLEGAL_COMMENT_CHARS", "TOML_WS", "TOML_WS_AND_NEWLINE", "_twin_re_1", "_special_chars_map"]
noncomputable abbrev rowW : RowW := OpenRow.toRowW (OpenLaw.row rw_rt0008_01)
noncomputable abbrev XtF (s : Shared) : Bool := xlAt qv [] s && recOk rowW.records s
section
variable (w : World) (os : OsState) (a b c d e f g h : XT)
theorem lk0 : (staticsOk (importedModules pw.main.body) (h0 w.params) (hE29 w.params a b c d e f g h) && namesBound pw (hE29 w.params a b c d e f g h) && gensDone (B10 w os a b c d e f g h) && laidKept (h0 w.params) (hE29 w.params a b c d e f g h)) = true := by kernel_rfl
theorem lk2 : (hE29 w.params a b c d e f g h).bltView = bltViewBooted := by kernel_rfl
theorem lk4 : tabsOk qv (B10 w os a b c d e f g h) = true := by kernel_rfl
theorem lk1 : seen ((recsOf qv).map (·.name)) (ownsOf qv) [] ({ B10 w os a b c d e f g h with gens := #[] }) = expectedOf qv := by kernel_rfl
theorem lk3 : ((hE29 w.params a b c d e f g h).keysOk (looseW qv loose) ((recsOf qv).map (·.name)) ((litsOf qv).map (·.1)) ((clssOf qv (looseW qv loose)).map (·.name)) && (hE29 w.params a b c d e f g h).accountedOkI (importedModules pw.main.body) && (hE29 w.params a b c d e f g h).isNs mainGlobals && (hE29 w.params a b c d e f g h).isNs builtinsNs && tablesOk qv (hE29 w.params a b c d e f g h) && XtF (B10 w os a b c d e f g h) && (!leftWithCleanup (B10 w os a b c d e f g h).gens)) = true := by kernel_rfl
theorem lk5 : pinSeenD qv (drecsOf qv) (B10 w os a b c d e f g h) = pinGoodD (drecsOf qv) := by kernel_rfl
theorem lk6 : plainSeenE qv (looseW qv loose) (B10 w os a b c d e f g h) = plainGoodE qv (looseW qv loose) := by kernel_rfl
theorem lk7 : plainSeenD qv loose (B10 w os a b c d e f g h) = plainGoodD qv loose := by kernel_rfl
theorem lk8 : wideSeen qv (B10 w os a b c d e f g h) = wideGood qv := by kernel_rfl
theorem lk9 : clsSeenW qv loose (B10 w os a b c d e f g h) = clsGoodW qv loose := by kernel_rfl
end
end Mine
end

section
open PySem PySem.W PySem.Challenge PyProof.Rows
set_option maxRecDepth 100000
set_option maxHeartbeats 400000
set_option Elab.async false
set_option linter.unusedVariables false
namespace Mine
theorem topFrom_of {tb : String → Option Builtin} {p : Program} {w : World} {N k : Nat} {g : Option Value} {s₀ s₁ : Shared} (z1 : (s₀.heap.isNs mainGlobals && s₀.gens.size == 0) = true) (z2 : s₀.heap.objs.size = k) (z3 : s₀.heap.nsMap mainGlobals "__annotations__" = g)
    (hr : topRun tb p w k g N s₀ (topStub p) = some s₁) (lk : (staticsOk (importedModules p.main.body) s₀.heap s₁.heap && namesBound p s₁.heap && gensDone s₁ && laidKept s₀.heap s₁.heap) = true) : topFrom tb p w N s₀ = some s₁ := by
  unfold topFrom
  rw [z1]
  show (topRun tb p w s₀.heap.objs.size (s₀.heap.nsMap mainGlobals "__annotations__") N s₀ (topStub p)).bind _ = _
  rw [z2, z3, hr]
  show (match staticsOk (importedModules p.main.body) s₀.heap s₁.heap && namesBound p s₁.heap && gensDone s₁ && laidKept s₀.heap s₁.heap with | true => some s₁ | false => none) = _
  rw [lk]
theorem openEnds_of {tb : String → Option Builtin} {p : Program} {w : World} {N : Nat} {s₀ s₁ : Shared} (e : fencedOpening tb p w N = some s₀) (f : topFrom tb p w N s₀ = some s₁) : openEnds tb p w N = some s₁ := by
  unfold openEnds
  rw [e]
  exact f
noncomputable def heapOf (o : Option Shared) : Heap := (o.getD {}).heap
theorem heapOf_some {o : Option Shared} {s : Shared} (h : o = some s) : heapOf o = s.heap := by rw [h]; rfl
theorem shared_of {o : Option Shared} {h : Heap} {gs : Array GenState} {dr : Drawn} {k : Nat} (e : o.map (fun s => (s.heap, s.gens, s.drawn, s.toks)) = some (h, gs, dr, k)) : ∃ os, o = some ⟨h, gs, dr, k, os⟩ := by
  obtain ⟨⟨hp, gs', dr', k', os⟩, e1, e2⟩ := Option.map_eq_some_iff.mp e
  obtain ⟨rfl, rfl, rfl, rfl⟩ : hp = h ∧ gs' = gs ∧ dr' = dr ∧ k' = k := by simpa using e2
  exact ⟨os, e1⟩
theorem and3 {α β γ : Type} {a a' : α} {b b' : β} {c c' : γ} (e : (a, b, c) = (a', b', c')) : a = a' ∧ b = b' ∧ c = c' := by simpa only [Prod.mk.injEq] using e
theorem ends (w : World) : ∃ (os : OsState) (a b c d e f g h : XT), SetD w.params xs48 (S3 c) ∧ SetD w.params xs53 (S3 e) ∧ SetD w.params xs54 (S3 f) ∧ SetD w.params xs62 (S3 h) ∧ openEnds treeTable pw w 20000 = some (B10 w os a b c d e f g h) := by
  obtain ⟨os, e1⟩ := shared_of (open_ w)
  obtain ⟨z1, z2, z3⟩ := and3 (size_ w)
  obtain ⟨a, b, c, d, e, f, g, h, hc, he, hf, hh, hr⟩ := run w os
  exact ⟨os, a, b, c, d, e, f, g, h, hc, he, hf, hh, openEnds_of e1 (topFrom_of (s₀ := sh (h0 w.params) #[] 276 os) z1 z2 z3 hr (lk0 w os a b c d e f g h))⟩
noncomputable def endHeap (w : World) : Heap := heapOf (openEnds treeTable pw w 20000)
theorem endHeap_of {w : World} {s : Shared} (h : openEnds treeTable pw w 20000 = some s) : endHeap w = s.heap := heapOf_some h
theorem left_of {w : World} {s : Shared} {α β : Type} {F : Shared → α} {G : Shared → β} {x : α} {y : β} (h : openEnds treeTable pw w 20000 = some s) (hx : F s = x) (hy : G s = y) : (openEnds treeTable pw w 20000).map (fun s => (F s, G s)) = some (x, y) := by rw [h, ← hx, ← hy]; rfl
theorem left_ : LeftO pw qv loose XtF (α := Heap) (fun s => s.heap) endHeap 20000 false := fun w => by
  obtain ⟨os, a, b, c, d, e, f, g, h, hc, he, hf, hh, hr⟩ := ends w
  refine left_of (F := fun s => openSeen qv loose (importedModules pw.main.body) XtF false s) (G := fun s => s.heap) hr ?_ (endHeap_of hr).symm
  show openSeen qv loose (importedModules pw.main.body) XtF false (B10 w os a b c d e f g h) = openGood qv loose
  unfold openSeen openGood
  exact looks_pair (lk1 w os a b c d e f g h) (looks_pair (lk2 w a b c d e f g h) (looks_pair (lk3 w os a b c d e f g h) (looks_pair (lk4 w os a b c d e f g h) (looks_pair (lk5 w os a b c d e f g h) (looks_pair (lk6 w os a b c d e f g h) (looks_pair (lk7 w os a b c d e f g h) (looks_pair (lk8 w os a b c d e f g h) (lk9 w os a b c d e f g h))))))))
end Mine
end

section
open PySem PySem.W PySem.Challenge PyProof.Rows
set_option maxRecDepth 100000
set_option maxHeartbeats 0
set_option Elab.async false
set_option linter.unusedVariables false
namespace Mine
/-- the written part of the heap behind the top -/
noncomputable def KF (P : Params) : Frag :=
  (nat_lit 2, o2v0 P) :: (nat_lit 3, o3v11 P) :: (nat_lit 6, o6v0 P) :: (nat_lit 11, o11v0 P) :: (nat_lit 12, o12v0 P) :: (nat_lit 63, o63v0 P) :: (nat_lit 70, o70v0 P) :: (nat_lit 71, o71v0 P) :: (nat_lit 72, o72v0 P) :: (nat_lit 73, o73v0 P) :: (nat_lit 76, o76v0 P) :: (nat_lit 78, o78v0 P) :: (nat_lit 79, o79v0 P) :: (nat_lit 81, o81v0 P) :: (nat_lit 82, o82v0 P) :: (nat_lit 83, o83v0 P) :: (nat_lit 85, o85v0 P) :: (nat_lit 86, o86v0 P) :: (nat_lit 88, o88v0 P) :: (nat_lit 89, o89v0 P) :: (nat_lit 90, o90v0 P) :: (nat_lit 92, o92v0 P) :: (nat_lit 93, o93v0 P) :: (nat_lit 95, o95v0 P) :: (nat_lit 96, o96v0 P) :: (nat_lit 97, o97v0 P) :: (nat_lit 99, o99v0 P) :: (nat_lit 100, o100v0 P) :: (nat_lit 102, o102v0 P) :: (nat_lit 103, o103v0 P) :: (nat_lit 104, o104v0 P) :: (nat_lit 106, o106v0 P) :: (nat_lit 107, o107v0 P) :: (nat_lit 109, o109v0 P) :: (nat_lit 110, o110v0 P) :: (nat_lit 111, o111v0 P) :: (nat_lit 113, o113v0 P) :: (nat_lit 114, o114v0 P) :: (nat_lit 116, o116v0 P) :: (nat_lit 117, o117v0 P) :: (nat_lit 121, o121v0 P) :: (nat_lit 122, o122v0 P) :: (nat_lit 124, o124v0 P) :: (nat_lit 128, o128v0 P) :: (nat_lit 130, o130v0 P) :: (nat_lit 131, o131v0 P) :: (nat_lit 133, o133v0 P) :: (nat_lit 134, o134v0 P) :: (nat_lit 135, o135v0 P) :: (nat_lit 137, o137v0 P) :: (nat_lit 138, o138v0 P) :: (nat_lit 140, o140v0 P) :: (nat_lit 141, o141v0 P) :: (nat_lit 142, o142v0 P) :: (nat_lit 144, o144v0 P) :: (nat_lit 145, o145v0 P) :: (nat_lit 147, o147v0 P) :: (nat_lit 148, o148v0 P) :: (nat_lit 149, o149v0 P) :: (nat_lit 151, o151v0 P) :: (nat_lit 152, o152v0 P) :: (nat_lit 154, o154v0 P) :: (nat_lit 155, o155v0 P) :: (nat_lit 156, o156v0 P) :: (nat_lit 158, o158v0 P) :: (nat_lit 159, o159v0 P) :: (nat_lit 161, o161v0 P) :: (nat_lit 162, o162v0 P) :: (nat_lit 163, o163v0 P) :: (nat_lit 165, o165v0 P) :: (nat_lit 166, o166v0 P) :: (nat_lit 168, o168v0 P) :: (nat_lit 169, o169v0 P) :: (nat_lit 170, o170v0 P) :: (nat_lit 173, o173v0 P) :: (nat_lit 174, o174v0 P) :: (nat_lit 175, o175v0 P) :: (nat_lit 178, o178v0 P) :: (nat_lit 179, o179v0 P) :: (nat_lit 180, o180v0 P) :: (nat_lit 183, o183v0 P) :: (nat_lit 184, o184v0 P) :: []
noncomputable def asF : List Addr :=
  nat_lit 2 :: nat_lit 3 :: nat_lit 6 :: nat_lit 11 :: nat_lit 12 :: nat_lit 63 :: nat_lit 70 :: nat_lit 71 :: nat_lit 72 :: nat_lit 73 :: nat_lit 76 :: nat_lit 78 :: nat_lit 79 :: nat_lit 81 :: nat_lit 82 :: nat_lit 83 :: nat_lit 85 :: nat_lit 86 :: nat_lit 88 :: nat_lit 89 :: nat_lit 90 :: nat_lit 92 :: nat_lit 93 :: nat_lit 95 :: nat_lit 96 :: nat_lit 97 :: nat_lit 99 :: nat_lit 100 :: nat_lit 102 :: nat_lit 103 :: nat_lit 104 :: nat_lit 106 :: nat_lit 107 :: nat_lit 109 :: nat_lit 110 :: nat_lit 111 :: nat_lit 113 :: nat_lit 114 :: nat_lit 116 :: nat_lit 117 :: nat_lit 121 :: nat_lit 122 :: nat_lit 124 :: nat_lit 128 :: nat_lit 130 :: nat_lit 131 :: nat_lit 133 :: nat_lit 134 :: nat_lit 135 :: nat_lit 137 :: nat_lit 138 :: nat_lit 140 :: nat_lit 141 :: nat_lit 142 :: nat_lit 144 :: nat_lit 145 :: nat_lit 147 :: nat_lit 148 :: nat_lit 149 :: nat_lit 151 :: nat_lit 152 :: nat_lit 154 :: nat_lit 155 :: nat_lit 156 :: nat_lit 158 :: nat_lit 159 :: nat_lit 161 :: nat_lit 162 :: nat_lit 163 :: nat_lit 165 :: nat_lit 166 :: nat_lit 168 :: nat_lit 169 :: nat_lit 170 :: nat_lit 173 :: nat_lit 174 :: nat_lit 175 :: nat_lit 178 :: nat_lit 179 :: nat_lit 180 :: nat_lit 183 :: nat_lit 184 :: []
theorem kIn (w : World) (a b c d e f g h : XT) : (KF w.params).In (hE29 w.params a b c d e f g h) := Frag.in_of (as := asF) (by kernel_rfl) (by kernel_rfl)
noncomputable def chars (xs : List (Nat × Nat)) (k : Str) : Bool := xs.any fun p => k == ⟨#[p.1]⟩
theorem isStrOf_str {k x : Str} {t : Tok} (h : Value.isStrOf k (.str x t) = true) : (k == x) = true := by
  unfold Value.isStrOf at h
  first | exact h | (rw [beq_iff_eq] at h ⊢; exact h.symm)
theorem froz_of {w : World} {h : Heap} {a : Addr} {xs : List (Nat × Nat)} {D : Data} (x : SetD w.params xs D) (g : h.get? a = some (fz D)) : FrozAt (strKind pw w) h a (chars xs) xs.length := by
  obtain ⟨es, ep, t, rfl, hf, hp⟩ := x
  refine ⟨es, ep, t, g, ?_, ?_, perm_size hp, hf⟩
  · intro e he
    obtain ⟨y, hy, rfl⟩ := List.mem_map.mp (hp.mem_iff.mp he)
    exact ⟨⟨⟨#[y.1]⟩, strKind_is pw w _ _, rfl⟩, rfl⟩
  · intro k
    unfold chars
    rw [List.any_eq_true]
    constructor
    · rintro ⟨y, hy, e⟩
      rw [beq_iff_eq] at e
      subst e
      exact ⟨el w.params y, hp.mem_iff.mpr (List.mem_map.mpr ⟨y, hy, rfl⟩), strKind_is pw w _ _⟩
    · rintro ⟨e, he, hk⟩
      obtain ⟨y, hy, rfl⟩ := List.mem_map.mp (hp.mem_iff.mp he)
      refine ⟨y, hy, ?_⟩
      have : Value.isStrOf k (.str ⟨#[y.1]⟩ y.2) = true := hk
      exact isStrOf_str this
theorem froz_keeps {w : World} {h h' : Heap} {a : Addr} {S : Str → Bool} {n : Nat} (x : FrozAt (strKind pw w) h a S n) (k : ∀ b o, h.get? b = some o → h'.get? b = some o) : FrozAt (strKind pw w) h' a S n :=
  let ⟨es, ep, t, g, r⟩ := x; ⟨es, ep, t, k _ _ g, r⟩
structure Says (w : World) (h : Heap) : Prop where
  K : (KF w.params).In h
  ill : FrozAt (strKind pw w) h 53 (chars xs53) 32
  ws : FrozAt (strKind pw w) h 62 (chars xs62) 3
theorem g53 (P : Params) (a b c d e f g h : XT) : (hE29 P a b c d e f g h).get? 53 = some (fz (S3 e)) := by kernel_rfl
theorem g62 (P : Params) (a b c d e f g h : XT) : (hE29 P a b c d e f g h).get? 62 = some (fz (S3 h)) := by kernel_rfl
theorem says_end (w : World) : Says w (endHeap w) := by
  obtain ⟨os, a, b, c, d, e, f, g, h, hc, he, hf, hh, hr⟩ := ends w
  rw [endHeap_of hr]
  exact ⟨kIn w a b c d e f g h, froz_of he (g53 _ a b c d e f g h), froz_of hh (g62 _ a b c d e f g h)⟩
noncomputable def hookF : Hook := ⟨Heap, fun s => s.heap, endHeap, Says, fun w s e => e ▸ says_end w, fun w h h' x k => ⟨x.K.keeps k, froz_keeps x.ill k, froz_keeps x.ws k⟩⟩
end Mine
end

section
open PySem PySem.W PySem.Challenge PyProof.Rows
set_option maxRecDepth 100000
set_option maxHeartbeats 400000
set_option Elab.async false
set_option linter.unusedVariables false
namespace Mine
theorem row_prog : (OpenLaw.row rw_rt0008_01).toRowW.prog = pw := by kernel_rfl
theorem left2 : LeftO (OpenLaw.row rw_rt0008_01).toRowW.prog qv loose XtF (α := Heap) (fun s => s.heap) endHeap 20000 false := by
  rw [row_prog]
  exact left_
theorem says_of (w : World) (s : Shared) (e : s.heap = endHeap w) : Says w s.heap := e ▸ says_end w
theorem says_keeps (w : World) (h h' : Heap) (x : Says w h) (k : ∀ b o, h.get? b = some o → h'.get? b = some o) : Says w h' := ⟨x.K.keeps k, froz_keeps x.ill k, froz_keeps x.ws k⟩
noncomputable def dL : DefRec := ⟨"law", fdP 30, fdB 30, fdS 30, ⟨180, 0, 185, 98⟩⟩
theorem dL_of : defOf qv (OpenLaw.row rw_rt0008_01).toRowW.name = some (dL, []) := by kernel_rfl
theorem dL_the : (OpenLaw.row rw_rt0008_01).prog.theDef (OpenLaw.row rw_rt0008_01).name = some (dL.params, dL.body, dL.scope) := by kernel_rfl
theorem dL_kw : kwWritten? dL.params.kwonlyargs dL.params.kw_defaults = some [] := by kernel_rfl
theorem ok11 : (chainsOk qv && opensWell (OpenLaw.row rw_rt0008_01).prog && (frees (OpenLaw.row rw_rt0008_01).toRowW && (OpenLaw.row rw_rt0008_01).within.isEmpty)) = true := by kernel_rfl
end Mine
end

section
open PySem PySem.W PySem.Calls PySem.Challenge PyProof.Rows
set_option maxRecDepth 100000
set_option maxHeartbeats 1600000
set_option Elab.async false
set_option linter.unusedVariables false
namespace Mine
section
variable {prog : Program} {w : World} {A A₀ : Around} {E : Value → Shared → Prop} {s : Shared} {h₀ base : Heap} {L l : Addr} {m mg mb : Str → Option Value} {news : List (Addr × Obj)} {mean : ExcName → Option Value}
noncomputable def allStr (vs : List Value) : Bool := vs.all fun v => match v with | .str x _ => Nat.ble x.length 16 | _ => false
/-- a list of texts written in the code, at an index that is no written number -/
theorem sub_strs {value slice : Expr} {vs : List Value} {n : Nat} {k : Int} {u : Tok} {Q : Value → Shared → Prop} (N : News h₀ L s.heap news) (hm : (l, W.listOf vs.toArray n) ∈ news) (hs : allStr vs = true) (h0 : 0 ≤ k) (hk : k < vs.length) (hl : vs.length ≤ 1000)
    (h : ∀ S t, vs[k.toNat]? = some (.str S t) → S.length ≤ 16 → Q (.str S t) s)
    (hsub : subscripted slice false (.ref l) (.int k u) = operate [.ref l, .int k u] (getItem (.ref l) (.int k u)) := by with_unfolding_all rfl) :
    wpAny (model prog w) A (subscriptTail value slice (.ref l) (.int k u)) Q E s := by
  have hL : s.heap.IsList l vs.toArray := ⟨_, (N _ hm).1, rfl, n, rfl⟩
  have hlt : k.toNat < vs.length := by omega
  have hx : vs[k.toNat]? = some vs[k.toNat] := List.getElem?_eq_getElem hlt
  have hv := List.all_eq_true.mp hs _ (List.getElem_mem hlt)
  cases hc : vs[k.toNat] with
  | str S t =>
    rw [hc] at hx hv
    exact tail_any hL.typeIs slot_list_getitem.lookup (wpAny_getItem_list hL h0 (by omega) (by simpa using hx) (h S t hx (Nat.le_of_ble_eq_true hv))) hsub
  | _ => rw [hc] at hv; cases hv
theorem code_defS {env : Env} {outer : List Env} {R : Result → Shared → Prop} {name qual : Str} {params : Arguments} {body : List Stmt} {scope : Scope} {dV kV doc pm cdv ct oc : Value} {an od : Option Addr} {osl : Array (Option Value)} {f : Addr} {args : Args} {binds : List (Str × Value)}
    (B : Below A₀ base outer h₀) (F : Fr h₀ L s.heap m) (X₀ : Says w h₀) (N : News h₀ L s.heap news) (T : Top qv (looseW qv loose) mean mg mb h₀) (hA : A.frames = some (env :: outer)) (hf : env.frame = some L) (hke : env.scope.kind = .function)
    (ho : (KF w.params).lookup f = some ⟨oc, od, .func (fnOf name qual params body scope dV kV doc pm an cdv ct), osl⟩) (hcd : codeIn (KF w.params) cdv qual = true) (hroom : A.depth < recursionLimit)
    (hbind : BindsTo s (fnOf name qual params body scope dV kV doc pm an cdv ct) args binds) (hloc : ∀ y ∈ binds, scope.names.lookup y.1 = some .local)
    (h : ∀ g L' h₁, Fr h₀ L g m → Fr g L' h₁ (fun y => binds.reverse.lookup y) → News g L' h₁ news → Below A base (env :: outer) g → Says w g → Top qv (looseW qv loose) mean mg mb g →
      wpAny (model prog w) (A.deeper (envOf qual scope L' f cdv)) (execs body (envOf qual scope L' f cdv))
        (fun fl s' => LeaveK h₀ L m g R (match fl with | .ret v => v | _ => .none) s')
        (fun e s' => wpAny (model prog w) (A.deeper (envOf qual scope L' f cdv)) (leaving (envOf qual scope L' f cdv) e) (fun _ s'' => R (.error e) s'') (fun e' s'' => R (.error e') s'') s')
        { s with heap := h₁, toks := s.toks + binds.length })
    (hco : scope.isCoroutine = false) (hgen : scope.isGenerator = false) (hk : scope.kind = .function)
    (hcell : ∀ x ∈ scope.names, x.2 ≠ .cell) : codeAny (model prog w) A (.call (.ref f) args) R s :=
  callX_plain (cl := []) B F N T.nolimit hA hf hke ((X₀.K.keeps F.keep) _ _ ho) rfl (codeRec_of (X₀.K.keeps F.keep) hcd) hroom hbind hloc (fun g L' h₁ FG F' N' B' st _ => h g L' h₁ FG F' N' B' (says_keeps w _ _ X₀ st) (T.keeps st)) hcell hco hgen hk
end
theorem up_cons {L : Addr} {oL : Obj} {frs fr' : List (Addr × Obj)} (SU : TI.SameUp ((L, oL) :: frs) fr') : ∃ sl frs2, fr' = (L, { oL with slots := sl }) :: frs2 ∧ TI.SameUp frs frs2 := by
  cases fr' with
  | nil => exact False.elim SU
  | cons q qs =>
    obtain ⟨h1, ⟨sl, h2⟩, h3⟩ := SU
    exact ⟨sl, qs, by rw [show q = (q.1, q.2) from rfl, h1, h2], h3⟩
section
variable {w : World} {A : Around} {s : Shared} {hb : Heap} {L : Addr} {m mg mb : Str → Option Value} {new frs : List (Addr × Obj)} {l : List Env} {mean : ExcName → Option Value} {R : Result → Shared → Prop}
open TI
/-- the end of a def's body: the ground is one heap for all frames; the frames below stand in the ledger -/
noncomputable def LeaveF (hb : Heap) (L : Addr) (m : Str → Option Value) (oL : Obj) (frs : List (Addr × Obj)) (R : Result → Shared → Prop) (v : Value) (s' : Shared) : Prop :=
  ∃ L' m' new' sl frs', Fr hb L' s'.heap m' ∧ News hb L' s'.heap (new' ++ (L, { oL with slots := sl }) :: frs') ∧ (∀ p ∈ new', p.1 ≠ L) ∧ SameUp frs frs' ∧ (Fr hb L s'.heap m → News hb L s'.heap (new' ++ frs') → R (.ok (.ret v)) s')
theorem code_defF {env : Env} {name qual : Str} {params : Arguments} {body : List Stmt} {scope : Scope} {dV kV doc pm cdv ct oc : Value} {an od : Option Addr} {osl : Array (Option Value)} {f : Addr} {args : Args} {binds : List (Str × Value)}
    (Fs : Frs l frs) (F : Fr hb L s.heap m) (X₀ : Says w hb) (N : News hb L s.heap (new ++ frs)) (T : Top qv (looseW qv loose) mean mg mb hb) (hf : env.frame = some L) (hke : env.scope.kind = .function)
    (ho : (KF w.params).lookup f = some ⟨oc, od, .func (fnOf name qual params body scope dV kV doc pm an cdv ct), osl⟩) (hcd : codeIn (KF w.params) cdv qual = true) (hroom : A.depth < recursionLimit)
    (hbind : BindsTo s (fnOf name qual params body scope dV kV doc pm an cdv ct) args binds) (hloc : ∀ y ∈ binds, scope.names.lookup y.1 = some .local)
    (h : ∀ L' oL h₁, Frs (env :: l) ((L, oL) :: frs) → (∀ p ∈ new, p.1 ≠ L) → L < L' → (∀ p ∈ new, p.1 < L') → Fr hb L' h₁ (fun y => binds.reverse.lookup y) → News hb L' h₁ (new ++ (L, oL) :: frs) →
      wpAny (model pw w) (A.deeper (envOf qual scope L' f cdv)) (execs body (envOf qual scope L' f cdv))
        (fun fl s' => LeaveF hb L m oL frs R (match fl with | .ret v => v | _ => .none) s')
        (fun e s' => wpAny (model pw w) (A.deeper (envOf qual scope L' f cdv)) (leaving (envOf qual scope L' f cdv) e) (fun _ s'' => R (.error e) s'') (fun e' s'' => R (.error e') s'') s')
        { s with heap := h₁, toks := s.toks + binds.length })
    (hco : scope.isCoroutine = false) (hgen : scope.isGenerator = false) (hk : scope.kind = .function)
    (hcell : ∀ x ∈ scope.names, x.2 ≠ .cell) : codeAny (model pw w) A (.call (.ref f) args) R s := by
  have X := X₀.K.keeps F.keep
  obtain ⟨oL, es, ep, hL, hLd, hLk, hLf⟩ := F.ns
  have hLt := Heap.lt_size hL
  have hkind : env.scope.kind ≠ .module := by rw [hke]; decide
  refine codeAny_call_def (fd := fnOf name qual params body scope dV kV doc pm an cdv ct) (body := body) (binds := binds) hroom (X _ _ ho) rfl (T.nolimit.keeps F.keep) (codeRec_of X hcd) rfl hbind hcell hloc (fun h₁ hns up => ?_) hco hgen hk
  have N' : News hb s.heap.objs.size h₁ (new ++ (L, oL) :: frs) := fun p hp => by
    rcases List.mem_append.mp hp with hp | hp
    · obtain ⟨h1, h2, h3⟩ := N p (List.mem_append_left _ hp)
      exact ⟨up _ _ h1, Nat.ne_of_lt (Heap.lt_size h1), h3⟩
    · rcases List.mem_cons.mp hp with rfl | hp
      · exact ⟨up _ _ hL, Nat.ne_of_lt hLt, Heap.get?_none_of_le F.above⟩
      · obtain ⟨h1, h2, h3⟩ := N p (List.mem_append_right _ hp)
        exact ⟨up _ _ h1, Nat.ne_of_lt (Heap.lt_size h1), h3⟩
  refine wpAny_mono (h s.heap.objs.size oL h₁ ⟨hkind, hf, ⟨es, ep, hLd⟩, Fs⟩ (fun p hp => (N p (List.mem_append_left _ hp)).2.1) hLt (fun p hp => Heap.lt_size (N p (List.mem_append_left _ hp)).1)
    ⟨hns, fun b o e => up b o (F.keep b o e), Nat.le_trans F.above (Nat.le_of_lt hLt)⟩ N') (fun fl s' x => ?_) fun _ _ x => x
  obtain ⟨L', m', new', sl, frs', F', N'', hne, SU, k⟩ := x
  have hL' : s'.heap.get? L = some { oL with slots := sl } := (N'' _ (List.mem_append_right _ List.mem_cons_self)).1
  refine k ⟨⟨_, es, ep, hL', hLd, hLk, hLf⟩, F'.keep, F.above⟩ fun p hp => ?_
  rcases List.mem_append.mp hp with hp | hp
  · obtain ⟨x1, _, x3⟩ := N'' p (List.mem_append_left _ hp)
    exact ⟨x1, hne p hp, x3⟩
  · obtain ⟨x1, _, x3⟩ := N'' p (List.mem_append_right _ (List.mem_cons_of_mem _ hp))
    obtain ⟨q, hq, e⟩ := SU.fwd p hp
    exact ⟨x1, by rw [e]; exact (N q (List.mem_append_right _ hq)).2.1, x3⟩
/-- the common end: nothing new is handed on -/
theorem leaveF {L' : Addr} {m' : Str → Option Value} {gar : List (Addr × Obj)} {oL : Obj} {sl : Array (Option Value)} {frs' : List (Addr × Obj)} {v : Value} {s' : Shared} (F' : Fr hb L' s'.heap m') (N' : News hb L' s'.heap (gar ++ (new ++ (L, { oL with slots := sl }) :: frs'))) (hne : ∀ p ∈ new, p.1 ≠ L) (SU : SameUp frs frs')
    (k : ∀ frs', SameUp frs frs' → Fr hb L s'.heap m → News hb L s'.heap (new ++ frs') → R (.ok (.ret v)) s') : LeaveF hb L m oL frs R v s' :=
  ⟨L', m', new, sl, frs', F', fun p hp => N' p (List.mem_append_right _ hp), hne, SU, k frs' SU⟩
end
theorem News.drop {h₀ h : Heap} {L : Addr} {news l : List (Addr × Obj)} (N : News h₀ L h (l ++ news)) : News h₀ L h news := fun p hp => N p (List.mem_append_right l hp)
noncomputable def strOf : Value → Str
  | .str x _ => x
  | _ => ""
theorem pick {vs : List Value} {k : Nat} {S : Str} {t : Tok} (h : vs[k]? = some (.str S t)) : (vs.map strOf).getD k "" = S := by
  rw [List.getD_eq_getElem?_getD, List.getElem?_map, h]; rfl
end Mine
end

namespace Mine
open PySem PySem.W PySem.Calls PySem.Challenge PyProof.Rows
local macro_rules | `(tactic| walk_at "subscriptTail") => `(tactic| (k_here; k_dflt (refine' sub_strs ?N ?m ?a ?b ?c ?d ?_; (case N => k_asm); (case m => k_mem); (case a => rfl); (case b => omega); (case c => (simp only [List.length_cons, List.length_nil]; omega)); (case d => exact Nat.le_of_ble_eq_true rfl)); intro S' t' hS' hSl'))
local macro_rules | `(tactic| walk_at "binaryOp Add str str") => `(tactic| ((refine SBL.add (hsz := ?hsz) ?_); (case hsz => (refine Nat.le_trans (m := 100000) ?_ (by decide); omega)); intro t' k' hl'))

section
open PySem PySem.W PySem.Calls PySem.Challenge PyProof.Rows PySem.Builtin PySem.Builtin.Str
set_option maxRecDepth 100000
set_option maxHeartbeats 1600000
set_option Elab.async false
set_option linter.unusedVariables false
theorem plain_fz : PlainAttrs "frozenset" :=
  ⟨⟨"object.__getattribute__", by rw [typeLookup_type, builtinLookup_eq_fast]; kernel_rfl, by decide +kernel⟩, by rw [typeLookup_type, builtinLookup_eq_fast]; kernel_rfl⟩
theorem slot_dis : Slot "frozenset" "isdisjoint" "frozenset.isdisjoint" :=
  .of (owner := "frozenset") (n := "isdisjoint") (by rw [typeLookup_type, builtinLookup_eq_fast]; kernel_rfl) (by decide +kernel) (by decide +kernel) (by decide +kernel)
    (by first | exact .inl (by decide +kernel) | exact .inr (by decide +kernel)) (by rw [isSubtype_type]; kernel_rfl)
theorem entry_dis : entryFor table "frozenset.isdisjoint" = some Builtin.«frozenset.isdisjoint» := entryFor_of_tree (by kernel_rfl)
theorem entry_disloop : entryFor table "frozenset.isdisjoint.loop" = some Builtin.«frozenset.isdisjoint.loop» := entryFor_of_tree (by kernel_rfl)
theorem args_dis (a b : Value) : argsOk "frozenset.isdisjoint" ⟨[a, b], []⟩ := by unfold argsOk; kernel_rfl
theorem type_dis : typeOf (.builtin "frozenset.isdisjoint") = pure (.type "method_descriptor") := by show builtinType _ = _; rw [builtinType_eq_fast]; kernel_rfl
section
variable {w : World} {A : Around} {E : Value → Shared → Prop} {s : Shared} {hb : Heap} {L a it : Addr} {m : Str → Option Value} {news : List (Addr × Obj)} {S : Str → Bool} {n : Nat}
/-- one question to the set, on the machine's own road -/
theorem setContains_froz {c : Nat} {tk : Tok} {Q : Bool → Shared → Prop} (F : Fr hb L s.heap m) (hS : FrozAt (strKind pw w) hb a S n) (hn : n < 4096) (h : Q (S ⟨#[c]⟩) { s with toks := s.toks + 1 }) :
    wpAny (model pw w) A (setContains a (.str ⟨#[c]⟩ tk)) Q E s := by
  obtain ⟨es, ep, t, ho, hel, hmem, hsz, hf⟩ := hS
  have ho := F.keep _ _ ho
  have hkey : (strKind pw w).is ⟨#[c]⟩ (.str ⟨#[c]⟩ tk) = true := strKind_is pw w _ _
  unfold setContains
  refine wpAny_bind ((strKind pw w).pyHash hkey ?_)
  refine wpAny_bind (setFind_any (s := { s with toks := s.toks + 1 }) hkey rfl ho rfl hel hmem (by rw [hsz]; exact hn) hf fun r hr => ?_)
  refine wpAny_pure ?_
  rw [hr]
  exact h
/-- a builtin's own loop, with the name and the program unknown (so the kernel runs neither) -/
theorem loop_builtin {prog : Program} {w : World} {A : Around} {s : Shared} {id : String} {args : Args} {b : Builtin} {R : Result → Shared → Prop} (hq : (Code.builtin id args).quiet = true) (hb : entryFor table id = some b) (I : Nat → Shared → Prop)
    (turn : ∀ n s, I n s → wpAny (model prog w) (A.under (.builtin id args)) (b args)
      (fun fin s' => match fin with
        | .done f => R (.ok f) s'
        | .again c' => (c' = .builtin id args ∧ ∃ m, m < n ∧ I m s') ∨ (c'.quiet = true ∧ codeAny (model prog w) A c' R s')) (fun e s' => R (.error e) s') s)
    (n : Nat) (h : I n s) : codeAny (model prog w) A (.builtin id args) R s := by
  refine codeAny_loop' hq I (fun n s hI => ?_) n h
  show wpAny _ _ (match entryFor table id with | some b => b args | none => unsupported ((withoutEnding? id "#data").getD id)) _ _ _
  rw [hb]
  exact turn n s hI
/-- the walk over the text's signs: none is in the set -/
theorem dis_loop {x : Str} {t : Tok} {R : Result → Shared → Prop} (hH : A.handled = none) (hit1 : hb.get? it = none) (hit2 : it ≠ L) (hit3 : ∀ p ∈ news, p.1 ≠ it) (hS : FrozAt (strKind pw w) hb a S n) (hn : n < 4096) (hx : ∀ c ∈ x.cps.toList, S ⟨#[c]⟩ = false)
    (h : ∀ h' tk, Fr hb L h' m → News hb L h' news → R (.ok (.ret (.bool true))) { s with heap := h', toks := tk })
    (F : Fr hb L s.heap m) (N : News hb L s.heap news) (hi : s.heap.IsStrIter it "str_ascii_iterator" x t 0) :
    codeAny (model pw w) A (.builtin "frozenset.isdisjoint.loop" ⟨[.ref a, .ref it], []⟩) R s := by
  refine loop_builtin (Code.quiet_builtin _ (by decide +kernel)) entry_disloop (fun k s' => ∃ h' tk i, s' = { s with heap := h', toks := tk } ∧ Fr hb L h' m ∧ News hb L h' news ∧ h'.IsStrIter it "str_ascii_iterator" x t i ∧ k = x.cps.size - i) (fun k s' hI => ?_) _ ⟨s.heap, s.toks, 0, rfl, F, N, hi, rfl⟩
  obtain ⟨h₁, tk, i, rfl, F₁, N₁, hi₁, rfl⟩ := hI
  show wpAny _ _ (Builtin.«frozenset.isdisjoint.loop» ⟨[.ref a, .ref it], []⟩) _ _ _
  unfold Builtin.«frozenset.isdisjoint.loop»
  (try dsimp only)
  cases hc : x.cps[i]? with
  | none =>
    refine wpAny_bind (wpAny_pyNext_ascii_end hH hi₁ hc fun h₂ he => ?_)
    have keep : ∀ b o, h₁.get? b = some o → b ≠ it → h₂.get? b = some o := fun b o e hne => he b o hne e
    obtain ⟨oL, a1, a2, hoL, a3⟩ := F₁.ns
    exact wpAny_pure (h _ _ ⟨⟨oL, a1, a2, keep _ _ hoL (Ne.symm hit2), a3⟩, fun b o e => keep b o (F₁.keep b o e) (fun q => by rw [q, hit1] at e; cases e), F₁.above⟩
      fun p hp => ⟨keep _ _ (N₁ p hp).1 (hit3 p hp), (N₁ p hp).2⟩)
  | some c =>
    have hmem : c ∈ x.cps.toList := by
      obtain ⟨hlt, he⟩ := Array.getElem?_eq_some_iff.mp hc
      rw [← he]
      exact Array.getElem_mem_toList _
    have hlt : i < x.cps.size := (Array.getElem?_eq_some_iff.mp hc).1
    refine wpAny_bind (wpAny_pyNext_ascii_item hi₁ hc fun h₂ hi₂ hs => ?_)
    have F₂ : Fr hb L h₂ m := F₁.change hs hit2 hit1
    have N₂ : News hb L h₂ news := fun p hp => ⟨(hs.2 p.1 (hit3 p hp)).trans (N₁ p hp).1, (N₁ p hp).2⟩
    (try dsimp only)
    refine wpAny_bind (wpAny_holding (setContains_froz (s := { s with heap := h₂, toks := tk + 1 }) F₂ hS hn ?_))
    rw [hx c hmem]
    refine wpAny_pure (.inl ⟨rfl, x.cps.size - (i + 1), by omega, h₂, tk + 1 + 1, i + 1, rfl, F₂, N₂, hi₂, rfl⟩)
theorem dis_call {x : Str} {t : Tok} {Q : Value → Shared → Prop} (hH : A.handled = none) (F : Fr hb L s.heap m) (N : News hb L s.heap news) (hS : FrozAt (strKind pw w) hb a S n) (hn : n < 4096) (ha : x.cps.all (· < 128) = true) (hx : ∀ c ∈ x.cps.toList, S ⟨#[c]⟩ = false)
    (h : ∀ h' tk, Fr hb L h' m → News hb L h' news → Q (.bool true) { s with heap := h', toks := tk }) : wpAny (model pw w) A (call (.builtin "frozenset.isdisjoint") [.ref a, .str x t]) Q E s := by
  obtain ⟨es, ep, tt, ho, hel, hmem, hsz, hf⟩ := id hS
  have ho := F.keep _ _ ho
  have hT : s.TypeIs (.ref a) "frozenset" := ⟨_, ho, rfl⟩
  refine wpAny_call (codeAny_call_builtin slot_dis.plain entry_dis (slot_dis.check _ _ _ _ _ _ _ _ hT (args_dis _ _) ?_))
  unfold Builtin.«frozenset.isdisjoint» Builtin.Frozenset.oneOther Builtin.Frozenset.addrOf
  simp only [List.isEmpty_nil, bind_assoc]
  refine wpAny_bind (wpAny_pure ?_)
  (try dsimp only)
  refine wpAny_bind (wpAny_pure ?_)
  (try dsimp only)
  rw [if_neg (fun q => by cases eq_of_beq q)]
  refine wpAny_bind (wpAny_typeOf (typeIs_str _ _ _) ?_)
  rw [if_neg (by decide)]
  refine wpAny_bind (wpAny_pyIter_ascii ha ?_)
  have F' : Fr hb L (s.heap.push { cls := .type "str_ascii_iterator", data := .fields #[.str x t, .int 0 0] }) m := F.pushS _
  have N' : News hb L (s.heap.push { cls := .type "str_ascii_iterator", data := .fields #[.str x t, .int 0 0] }) news := N.pushKeep _
  refine wpAny_pure ⟨Code.quiet_builtin _ (by decide +kernel), dis_loop (s := { s with heap := s.heap.push { cls := .type "str_ascii_iterator", data := .fields #[.str x t, .int 0 0] } }) hH ?_ ?_ ?_ hS hn hx h F' N' ⟨_, Heap.get?_push_size _ rfl, rfl, rfl⟩⟩
  · cases q : hb.get? s.heap.objs.size with
    | none => rfl
    | some o => exact absurd (Heap.lt_size (F.keep _ _ q)) (Nat.lt_irrefl _)
  · obtain ⟨oL, _, _, hoL, _⟩ := F.ns
    exact Nat.ne_of_gt (Heap.lt_size hoL)
  · exact fun p hp => Nat.ne_of_lt (Heap.lt_size (N p hp).1)
theorem index_from {x y : Str} {t u v : Tok} {i k : Nat} {rest : List Nat} {Q : Value → Shared → Prop} (ho : occurrences x y i x.length 1 = k :: rest) (hq : Q (.int k s.toks) { s with toks := s.toks + 1 }) :
    wpAny (model pw w) A (call (.builtin "str.index") [.str x t, .str y u, .int i v]) Q E s := by
  have e : fromIndex x.length (i : Int) = i := by unfold fromIndex; omega
  have g : Gives («str.index» ⟨[.str x t, .str y u, .int i v], []⟩) (.int k) := by
    show Gives (match occurrences x y (fromIndex x.length i) (min x.length x.length) 1 with | k :: _ => retInt k | [] => (do rule "str.index.not-found"; raiseError "ValueError" "substring not found")) _
    rw [Nat.min_self, e, ho]
    exact .of_eq rfl
  exact call_gives F.slot_str_index (typeIs_str _ _ _) F.entry_str_index (F.args_str_index_3 _ _ _) g hq
theorem gm_dis {pl : Sem Bool} {Q : Value × List Value → Shared → Prop} (F : Fr hb L s.heap m) (hS : FrozAt (strKind pw w) hb a S n) (h : Q (.builtin "frozenset.isdisjoint", [.ref a]) s) : wpAny (model pw w) A (getMethod (.ref a) "isdisjoint" pl) Q E s := by
  obtain ⟨es, ep, tt, ho, hel, hmem, hsz, hf⟩ := id hS
  have ho := F.keep _ _ ho
  exact getMethod_builtin ⟨_, ho, rfl⟩ plain_fz slot_dis type_dis (fun b e => by cases e; exact ⟨_, ho, rfl⟩) h
end
end

section
open PySem PySem.W PySem.Calls PySem.Challenge PyProof.Rows PySem.Builtin PySem.Builtin.Str
set_option maxRecDepth 100000
set_option maxHeartbeats 1600000
set_option Elab.async false
set_option linter.unusedVariables false
theorem fill_until : (KF = KF) ∧ rw_rt0008_01 = rw_rt0008_01 := by
  k_fill
  exact ⟨rfl, rfl⟩
section
variable {w : World} {A A₀ : Around} {s : Shared} {h₀ base : Heap} {L : Addr} {m mg mb : Str → Option Value} {news : List (Addr × Obj)} {mean : ExcName → Option Value} {env : Env} {outer : List Env} {R : Result → Shared → Prop} {hb : Heap} {new frs : List (Addr × Obj)} {l : List Env}
theorem until_spec (Fs : TI.Frs l frs) (F : Fr hb L s.heap m) (X₀ : Says w hb) (N : News hb L s.heap (new ++ frs)) (hnd : new.all TI.notDict = true) (T : Top qv (looseW qv loose) mean mg mb hb) (hA : A.frames = some (env :: l)) (hf : env.frame = some L) (hke : env.scope.kind = .function) (hroom : A.depth < recursionLimit) (hH : A.handled = none)
    (x c : Str) (t tc : Tok) (i : Nat) (u : Tok) (b : Bool) (n : Nat) (rest : List Nat) (hi : i ≤ n) (hn : n ≤ x.length) (hx : x.length ≤ 100000) (hasc : (Txt.slice x (some (i : Int)) (some (n : Int))).cps.all (· < 128) = true) (hclear : ∀ c ∈ (Txt.slice x (some (i : Int)) (some (n : Int))).cps.toList, chars xs53 ⟨#[c]⟩ = false) (ho : occurrences x c i x.length 1 = n :: rest)
    (h : ∀ h' tk t' frs', TI.SameUp frs frs' → Fr hb L h' m → News hb L h' (new ++ frs') → R (.ok (.ret (.int n t'))) { s with heap := h', toks := tk }) : codeAny (model pw w) A (.call (.ref 89) ⟨[.str x t, .int i u, .str c tc], [("error_on", .ref 53), ("error_on_eof", .bool b)]⟩) R s := by
  have X0 := X₀.K
  refine' code_defF (binds := [("src", .str x t), ("pos", .int i u), ("expect", .str c tc), ("error_on", .ref 53), ("error_on_eof", .bool b)]) ?k1 ?k2 ?k3 ?k4 ?k5 ?kF ?kK ?k6 ?k7 ?k8 ?k9 ?kB ?_ ?c2 ?c3 ?c4 ?c5
  case kF => exact hf
  case kK => exact hke
  case k1 => exact Fs
  case k2 => exact F
  case k3 => exact X₀
  case k4 => exact N
  case k5 => exact T
  case k6 => k_is
  case k7 => k_is
  case k8 => exact hroom
  case k9 => exact BindsTo.of_eq rfl
  case c5 => decide
  case kB => exact locs rfl
  case c2 => exact rfl
  case c3 => exact rfl
  case c4 => exact rfl
  clear F N
  intro L' oL h' Fs' hne hLL hnl F' N'
  (try dsimp only)
  (try k_fold)
  change wpAny _ _ (execs (_ :: _) _) _ _ _
  have ill := X₀.ill
  k_steps
  refine index_from ho ?_
  k_steps
  refine gm_dis (by assumption) ill ?_
  k_steps
  refine dis_call hH (by assumption) (by assumption) ill (by decide) hasc hclear fun h'' tk'' F'' N'' => ?_
  k_steps
  exact leaveF (gar := []) F'' N'' (by assumption) (sl := oL.slots) (TI.SameUp.refl _) fun frs' U a b => h _ _ _ _ U a b
end
end

section
open PySem PySem.W PySem.Calls PySem.Challenge PyProof.Rows PySem.Builtin PySem.Builtin.Str
set_option maxRecDepth 100000
set_option maxHeartbeats 1600000
set_option Elab.async false
set_option linter.unusedVariables false
theorem fill_com : (KF = KF) ∧ rw_rt0008_01 = rw_rt0008_01 := by
  k_fill
  exact ⟨rfl, rfl⟩
section
variable {w : World} {A A₀ : Around} {s : Shared} {h₀ base : Heap} {L : Addr} {m mg mb : Str → Option Value} {news : List (Addr × Obj)} {mean : ExcName → Option Value} {env : Env} {outer : List Env} {R : Result → Shared → Prop} {hb : Heap} {new frs : List (Addr × Obj)} {l : List Env}
/-- what skip_until needs to find its sign at n -/
structure Found (x c : Str) (i n : Nat) : Prop where
  le : i ≤ n
  lt : n ≤ x.length
  asc : (Txt.slice x (some (i : Int)) (some (n : Int))).cps.all (· < 128) = true
  clear : ∀ c ∈ (Txt.slice x (some (i : Int)) (some (n : Int))).cps.toList, chars xs53 ⟨#[c]⟩ = false
  occ : ∃ rest, occurrences x c i x.length 1 = n :: rest
theorem comment_spec (Fs : TI.Frs l frs) (F : Fr hb L s.heap m) (X₀ : Says w hb) (N : News hb L s.heap (new ++ frs)) (hnd : new.all TI.notDict = true) (T : Top qv (looseW qv loose) mean mg mb hb) (hA : A.frames = some (env :: l)) (hf : env.frame = some L) (hke : env.scope.kind = .function) (hroom : A.depth < recursionLimit) (hH : A.handled = none)
    (x : Str) (t : Tok) (i : Nat) (u : Tok) (n : Nat) (hx : x.length ≤ 100000) (hroom2 : A.depth + 1 < recursionLimit)
    (hc : (n = i ∧ i = x.length) ∨ (n = i ∧ i < x.length ∧ Txt.item x i ≠ Str.ofString "#") ∨ (i < x.length ∧ Txt.item x i = Str.ofString "#" ∧ Found x (Str.ofString "\n") (i + 1) n))
    (h : ∀ h' tk t' frs', TI.SameUp frs frs' → Fr hb L h' m → News hb L h' (new ++ frs') → R (.ok (.ret (.int n t'))) { s with heap := h', toks := tk }) : codeAny (model pw w) A (.call (.ref 96) ⟨[.str x t, .int i u], []⟩) R s := by
  have X0 := X₀.K
  refine' code_defF (binds := [("src", .str x t), ("pos", .int i u)]) ?k1 ?k2 ?k3 ?k4 ?k5 ?kF ?kK ?k6 ?k7 ?k8 ?k9 ?kB ?_ ?c2 ?c3 ?c4 ?c5
  case kF => exact hf
  case kK => exact hke
  case k1 => exact Fs
  case k2 => exact F
  case k3 => exact X₀
  case k4 => exact N
  case k5 => exact T
  case k6 => k_is
  case k7 => k_is
  case k8 => exact hroom
  case k9 => exact BindsTo.of_eq rfl
  case c5 => decide
  case kB => exact locs rfl
  case c2 => exact rfl
  case c3 => exact rfl
  case c4 => exact rfl
  clear F N
  intro L' oL h' Fs' hne hLL hnl F' N'
  (try dsimp only)
  (try k_fold)
  change wpAny _ _ (execs (_ :: _) _) _ _ _
  rcases hc with ⟨rfl, he⟩ | ⟨rfl, hlt, hne'⟩ | ⟨hlt, heq, hF⟩
  · have hfit : fitsSsize (n : Int) = true := fitsSsize_of (N := 9223372036854775808) (by omega) (by omega) (Int.le_refl _)
    k_steps
    refine item_str_or hH hfit (fun _ h' tk e hne => ?_) (fun _ h => absurd h (by omega))
    refine TI.noted_newT hA Fs' hne (by assumption) (by assumption) hnd fun h'' frs' SU Fs'' tiH => ?_
    obtain ⟨sl, frs2, rfl, SU2⟩ := up_cons SU
    have tiHH := TT.HeldNA.held tiH
    k_steps
    exact leaveF (gar := []) (by assumption) (by assumption) (by assumption) SU2 fun frs' U a b => h _ _ _ _ U a b
  · k_steps
    · rename_i q
      exact absurd (eq_of_beq q) hne'
    · exact leaveF (gar := []) (by assumption) (by assumption) (by assumption) (sl := oL.slots) (TI.SameUp.refl _) fun frs' U a b => h _ _ _ _ U a b
  · obtain ⟨rest, ho⟩ := hF.occ
    k_steps
    · rw [show ((i : Int) + 1) = ((i + 1 : Nat) : Int) from rfl]
      change wpAny _ _ (call _ _ [(Str.ofString "error_on", Value.ref 53), (Str.ofString "error_on_eof", Value.bool false)]) _ _ _
      refine wpAny_call (until_spec Fs' (by assumption) X₀ (by assumption) hnd T (Around.frames_deeper hA) rfl rfl hroom2 hH x _ t _ (i + 1) _ false n rest hF.le hF.lt hx hF.asc hF.clear ho fun h2 tk2 t2 frs2 SU F3 N3 => ?_)
      obtain ⟨sl, frs3, rfl, SU3⟩ := up_cons SU
      dsimp only
      k_steps
      exact leaveF (gar := []) F3 N3 (by assumption) SU3 fun frs' U a b => h _ _ _ _ U a b
    · rename_i q
      rw [heq] at q
      cases q
end
end

section
open PySem PySem.W PySem.Calls PySem.Challenge PyProof.Rows
set_option maxRecDepth 100000
set_option maxHeartbeats 1600000
set_option Elab.async false
set_option linter.unusedVariables false
theorem fill_skip : (KF = KF) ∧ rw_rt0008_01 = rw_rt0008_01 := by
  k_fill
  exact ⟨rfl, rfl⟩
section
variable {w : World} {A A₀ : Around} {s : Shared} {h₀ base : Heap} {L : Addr} {m mg mb : Str → Option Value} {news : List (Addr × Obj)} {mean : ExcName → Option Value} {env : Env} {outer : List Env} {R : Result → Shared → Prop} {hb : Heap} {new frs : List (Addr × Obj)} {l : List Env}
noncomputable def isWs (x : Str) (k : Nat) : Bool := chars xs62 (Txt.item x k)
theorem skip_spec (Fs : TI.Frs l frs) (F : Fr hb L s.heap m) (X₀ : Says w hb) (N : News hb L s.heap (new ++ frs)) (hnd : new.all TI.notDict = true) (T : Top qv (looseW qv loose) mean mg mb hb) (hA : A.frames = some (env :: l)) (hf : env.frame = some L) (hke : env.scope.kind = .function) (hroom : A.depth < recursionLimit) (hH : A.handled = none)
    (x : Str) (t : Tok) (i : Nat) (u : Tok) (n : Nat) (hi : i ≤ n) (hn : n ≤ x.length) (hx : x.length ≤ 100000) (hall : ∀ k, i ≤ k → k < n → isWs x k = true) (hend : n = x.length ∨ isWs x n = false)
    (h : ∀ h' tk t' frs', TI.SameUp frs frs' → Fr hb L h' m → News hb L h' (new ++ frs') → R (.ok (.ret (.int n t'))) { s with heap := h', toks := tk }) : codeAny (model pw w) A (.call (.ref 82) ⟨[.str x t, .int i u, .ref 62], []⟩) R s := by
  have X0 := X₀.K
  refine' code_defF (binds := [("src", .str x t), ("pos", .int i u), ("chars", .ref 62)]) ?k1 ?k2 ?k3 ?k4 ?k5 ?kF ?kK ?k6 ?k7 ?k8 ?k9 ?kB ?_ ?c2 ?c3 ?c4 ?c5
  case kF => exact hf
  case kK => exact hke
  case k1 => exact Fs
  case k2 => exact F
  case k3 => exact X₀
  case k4 => exact N
  case k5 => exact T
  case k6 => k_is
  case k7 => k_is
  case k8 => exact hroom
  case k9 => exact BindsTo.of_eq rfl
  case c5 => decide
  case kB => exact locs rfl
  case c2 => exact rfl
  case c3 => exact rfl
  case c4 => exact rfl
  clear F N
  intro L' oL h' Fs' hne hLL hnl F' N'
  (try dsimp only)
  (try k_fold)
  change wpAny _ _ (execs (_ :: _) _) _ _ _
  have ws := X₀.ws
  walk1
  walk1
  walk1
  walk1
  refine While_inv (fun j m₁ n₁ => ∃ (k : Nat) (v : Tok), i ≤ k ∧ k ≤ n ∧ j = n - k ∧ n₁ = new ++ (L, oL) :: frs ∧ m₁ = bindM (fun y => [(Str.ofString "src", Value.str x t), (Str.ofString "pos", Value.int i u), (Str.ofString "chars", Value.ref 62)].reverse.lookup y) "pos" (some (.int k v))) (m := fun y => List.lookup y [(Str.ofString "src", Value.str x t), (Str.ofString "pos", Value.int (↑i) u), (Str.ofString "chars", Value.ref 62)].reverse) F' N' ⟨i, u, Nat.le_refl _, hi, rfl, rfl, ?start⟩ ?turn ?own
  case start => exact bindM_start _ _
  case own => passes_own
  case turn =>
    rintro j m₁ n₁ h₁ tk₁ F₁ N₁ ⟨k, v, hik, hkn, rfl, rfl, rfl⟩
    have hfit : fitsSsize (k : Int) = true := fitsSsize_of (N := 9223372036854775808) (by omega) (by omega) (Int.le_refl _)
    rcases Nat.lt_or_ge k n with hk | hk
    · have hw := hall k hik hk
      unfold isWs at hw
      k_steps
      rename_i F₂ N₂
      exact WhileStep.intro F₂ N₂ (n' := n - (k + 1)) (by omega) ⟨k + 1, _, by omega, by omega, rfl, rfl, by rw [bindM_bind]; rfl⟩
    · obtain rfl : k = n := by omega
      by_cases hl : k = x.length
      · k_steps
        refine item_str_or hH hfit (fun _ h' tk e hne => ?_) (fun _ h => absurd h (by omega))
        refine TI.noted_newT hA Fs' hne F₁ N₁ hnd fun h'' frs' SU Fs'' tiH => ?_
        obtain ⟨sl, frs2, rfl, SU2⟩ := up_cons SU
        have tiHH := TT.HeldNA.held tiH
        k_steps
        rename_i kF kN
        exact leaveF (gar := []) kF kN (by assumption) SU2 fun frs' U a b => h _ _ _ _ U a b
      · have he : chars xs62 (Txt.item x k) = false := hend.resolve_left hl
        have hl' : k < x.length := by omega
        k_steps
        exact leaveF (gar := []) F₁ N₁ (by assumption) (sl := oL.slots) (TI.SameUp.refl _) fun frs' U a b => h _ _ _ _ U a b
end
end

section
open PySem PySem.W PySem.Calls PySem.Challenge PyProof.Rows PySem.Builtin PySem.Builtin.Str
set_option maxRecDepth 100000
set_option maxHeartbeats 1600000
set_option Elab.async false
set_option linter.unusedVariables false
theorem fill_ws : (KF = KF) ∧ rw_rt0008_01 = rw_rt0008_01 := by
  k_fill
  exact ⟨rfl, rfl⟩
/-- the road of skip_chars -/
structure Ski (x : Str) (i n : Nat) : Prop where
  le : i ≤ n
  lt : n ≤ x.length
  all : ∀ k, i ≤ k → k < n → isWs x k = true
  stop : n = x.length ∨ isWs x n = false
noncomputable def Com (x : Str) (i n : Nat) : Prop := (n = i ∧ i = x.length) ∨ (n = i ∧ i < x.length ∧ Txt.item x i ≠ Str.ofString "#") ∨ (i < x.length ∧ Txt.item x i = Str.ofString "#" ∧ Found x (Str.ofString "\n") (i + 1) n)
/-- the road of skip_comments_and_array_ws, with its number of turns -/
inductive WsTo (x : Str) : Nat → Nat → Nat → Prop
  | stop {i : Nat} (a : Ski x i i) (b : Com x i i) : WsTo x 0 i i
  | step {f i k j n : Nat} (a : Ski x i k) (b : Com x k j) (c : j ≠ i) (d : WsTo x f j n) : WsTo x (f + 1) i n
section
variable {prog : Program} {w : World} {A : Around} {E : Value → Shared → Prop} {Q : Flow → Shared → Prop} {s : Shared} {env : Env} {h₀ : Heap} {L : Addr}
/-- a while loop whose body may leave the def -/
theorem While_ret {test : Expr} {body : List Stmt} {pos : Pos} {m : Str → Option Value} {news : List (Addr × Obj)} (J : Nat → (Str → Option Value) → List (Addr × Obj) → Prop) {n₀ : Nat}
    (F : Fr h₀ L s.heap m) (N : News h₀ L s.heap news) (hJ : J n₀ m news)
    (turn : ∀ n m₁ news₁ h₁ tk₁, Fr h₀ L h₁ m₁ → News h₀ L h₁ news₁ → J n m₁ news₁ →
      wpAny (model prog w) A (isTrue test env (eval test env)) (fun b s₂ =>
        if b = true then wpAny (model prog w) A (execs body env) (fun f s₃ => match f with | .next | .cont => WhileStep h₀ L s J n .next s₃ | .brk => Q .next s₃ | .ret v => Q (.ret v) s₃) E s₂ else Q .next s₂) E { s with heap := h₁, toks := tk₁ })
    (hE : PassesOwn (model prog w) A env E) :
    wpAny (model prog w) A (exec (.While test body [] pos) env) Q E s := by
  refine wpAny_While (codeAny_whileLoop (fun n s' => ∃ h₁ tk₁ m₁ news₁, s' = { s with heap := h₁, toks := tk₁ } ∧ Fr h₀ L h₁ m₁ ∧ News h₀ L h₁ news₁ ∧ J n m₁ news₁) ?_ n₀ ⟨s.heap, s.toks, m, news, rfl, F, N, hJ⟩)
  rintro n s' ⟨h₁, tk₁, m₁, news₁, rfl, F₁, N₁, J₁⟩
  refine wpAny_mono (turn n m₁ news₁ h₁ tk₁ F₁ N₁ J₁) (fun b s₂ h₂ => ?_) hE
  cases b with
  | false =>
    simp only [Bool.false_eq_true, if_false] at h₂ ⊢
    exact wpAny_execs_nil h₂
  | true =>
    simp only [if_true] at h₂ ⊢
    refine wpAny_mono h₂ (fun f s₃ h₃ => ?_) hE
    have key : WhileStep h₀ L s J n .next s₃ → ∃ m, m < n ∧ ∃ h₁ tk₁ m₁ news₁, s₃ = { s with heap := h₁, toks := tk₁ } ∧ Fr h₀ L h₁ m₁ ∧ News h₀ L h₁ news₁ ∧ J m m₁ news₁ := fun h₃ => by
      obtain ⟨_, h', tk, m₂, news₂, n', rfl, F₂, N₂, hn, J₂⟩ := h₃
      exact ⟨n', hn, h', tk, m₂, news₂, rfl, F₂, N₂, J₂⟩
    cases f with
    | next => exact key h₃
    | cont => exact key h₃
    | brk => exact h₃
    | ret v => exact h₃
end
section
variable {w : World} {A A₀ : Around} {s : Shared} {h₀ base : Heap} {L : Addr} {m mg mb : Str → Option Value} {news : List (Addr × Obj)} {mean : ExcName → Option Value} {env : Env} {outer : List Env} {R : Result → Shared → Prop} {hb : Heap} {new frs : List (Addr × Obj)} {l : List Env}
theorem ws_spec (Fs : TI.Frs l frs) (F : Fr hb L s.heap m) (X₀ : Says w hb) (N : News hb L s.heap (new ++ frs)) (hnd : new.all TI.notDict = true) (T : Top qv (looseW qv loose) mean mg mb hb) (hA : A.frames = some (env :: l)) (hf : env.frame = some L) (hke : env.scope.kind = .function) (hroom : A.depth < recursionLimit) (hH : A.handled = none) (hroom2 : A.depth + 1 < recursionLimit) (hroom3 : A.depth + 1 + 1 < recursionLimit)
    (x : Str) (t : Tok) (i : Nat) (u : Tok) (n f : Nat) (hx : x.length ≤ 100000) (hw : WsTo x f i n)
    (h : ∀ h' tk t' frs', TI.SameUp frs frs' → Fr hb L h' m → News hb L h' (new ++ frs') → R (.ok (.ret (.int n t'))) { s with heap := h', toks := tk }) : codeAny (model pw w) A (.call (.ref 103) ⟨[.str x t, .int i u], []⟩) R s := by
  have X0 := X₀.K
  refine' code_defF (binds := [("src", .str x t), ("pos", .int i u)]) ?k1 ?k2 ?k3 ?k4 ?k5 ?kF ?kK ?k6 ?k7 ?k8 ?k9 ?kB ?_ ?c2 ?c3 ?c4 ?c5
  case kF => exact hf
  case kK => exact hke
  case k1 => exact Fs
  case k2 => exact F
  case k3 => exact X₀
  case k4 => exact N
  case k5 => exact T
  case k6 => k_is
  case k7 => k_is
  case k8 => exact hroom
  case k9 => exact BindsTo.of_eq rfl
  case c5 => decide
  case kB => exact locs rfl
  case c2 => exact rfl
  case c3 => exact rfl
  case c4 => exact rfl
  clear F N
  intro L' oL h' Fs' hne hLL hnl F' N'
  (try dsimp only)
  (try k_fold)
  change wpAny _ _ (execs (_ :: _) _) _ _ _
  walk1
  walk1
  refine While_ret (fun j m₁ n₁ => ∃ (k : Nat) (v : Tok) (pb : Option Value) (sl : Array (Option Value)) (frs1 : List (Addr × Obj)), WsTo x j k n ∧ TI.SameUp frs frs1 ∧ n₁ = new ++ (L, { oL with slots := sl }) :: frs1 ∧
      m₁ = bindM (bindM (fun y => [(Str.ofString "src", Value.str x t), (Str.ofString "pos", Value.int i u)].reverse.lookup y) (Str.ofString "pos_before_skip") pb) (Str.ofString "pos") (some (.int k v))) (n₀ := f)
    (m := fun y => List.lookup y [(Str.ofString "src", Value.str x t), (Str.ofString "pos", Value.int (↑i) u)].reverse) F' N' ⟨i, u, none, oL.slots, frs, hw, TI.SameUp.refl _, rfl, ?start⟩ ?turn ?own
  case start =>
    have e1 := bindM_start (fun y => List.lookup y [(Str.ofString "src", Value.str x t), (Str.ofString "pos", Value.int (↑i) u)].reverse) (Str.ofString "pos_before_skip")
    have e2 := bindM_start (bindM (fun y => List.lookup y [(Str.ofString "src", Value.str x t), (Str.ofString "pos", Value.int (↑i) u)].reverse) (Str.ofString "pos_before_skip") none) (Str.ofString "pos")
    exact e1.trans e2
  case own => passes_own
  case turn =>
    rintro j m₁ n₁ h₁ tk₁ F₁ N₁ ⟨k, v, pb, sl, frs1, hk, SU1, rfl, rfl⟩
    have Fs1 : TI.Frs (env :: l) ((L, { oL with slots := sl }) :: frs1) := Fs'.up ⟨rfl, ⟨sl, rfl⟩, SU1⟩
    k_steps
    obtain ⟨k2, j2, hs, hc, hres⟩ : ∃ k2 j2, Ski x k k2 ∧ Com x k2 j2 ∧ ((j2 = k ∧ k = n) ∨ (j2 ≠ k ∧ ∃ f', f' < j ∧ WsTo x f' j2 n)) := by
      cases hk with
      | stop a b => exact ⟨_, _, a, b, .inl ⟨rfl, rfl⟩⟩
      | step a b c d => exact ⟨_, _, a, b, .inr ⟨c, _, Nat.lt_succ_self _, d⟩⟩
    refine wpAny_call (skip_spec Fs1 (by assumption) X₀ (by assumption) hnd T (Around.frames_deeper hA) rfl rfl hroom2 hH x _ k _ k2 hs.le hs.lt hx hs.all hs.stop fun h2 tk2 t2 frs2 SU2 F2 N2 => ?_)
    obtain ⟨sl2, frs3, rfl, SU3⟩ := up_cons SU2
    have Fs2 := Fs1.up SU2
    dsimp only
    k_steps
    refine wpAny_call (comment_spec Fs2 (by assumption) X₀ (by assumption) hnd T (Around.frames_deeper hA) rfl rfl hroom2 hH x _ k2 _ j2 hx hroom3 (show (_ ∨ _) from hc) fun h3 tk3 t3 frs4 SU4 F4 N4 => ?_)
    obtain ⟨sl3, frs5, rfl, SU5⟩ := up_cons SU4
    dsimp only
    have SU9 := SU1.trans (SU3.trans SU5)
    rcases hres with ⟨rfl, rfl⟩ | ⟨hne2, f', hf', hw'⟩
    · k_steps
      · exact leaveF (gar := []) (by assumption) (by assumption) (by assumption) SU9 fun frs' U a b => h _ _ _ _ U a b
      · rename_i q
        exact absurd (by simp) q
    · have hne3 : (j2 : Int) ≠ (k : Int) := fun q => hne2 (Int.ofNat.inj q)
      k_steps
      · rename_i q
        exact absurd (by simpa using q) hne3
      · refine WhileStep.intro (by assumption) (by assumption) hf' ⟨j2, t3, some (.int k v), sl3, frs5, hw', SU9, rfl, ?_⟩
        funext z
        simp only [bindM]
        repeat' split
        all_goals first | rfl | (simp_all; done) | skip
end
end

section
open PySem PySem.W PySem.Calls PySem.Challenge PyProof.Rows PySem.Builtin PySem.Builtin.Str
set_option maxRecDepth 100000
set_option maxHeartbeats 1600000
set_option Elab.async false
set_option linter.unusedVariables false
theorem fill_parse : (KF = KF) ∧ rw_rt0008_01 = rw_rt0008_01 := by
  k_fill
  exact ⟨rfl, rfl⟩
section
variable {w : World} {A A₀ : Around} {s : Shared} {h₀ base : Heap} {L : Addr} {m mg mb : Str → Option Value} {news : List (Addr × Obj)} {mean : ExcName → Option Value} {env : Env} {outer : List Env} {R : Result → Shared → Prop} {hb : Heap} {new frs : List (Addr × Obj)} {l : List Env}
theorem parse_spec (Fs : TI.Frs l frs) (F : Fr hb L s.heap m) (X₀ : Says w hb) (N : News hb L s.heap (new ++ frs)) (hnd : new.all TI.notDict = true) (T : Top qv (looseW qv loose) mean mg mb hb) (hA : A.frames = some (env :: l)) (hf : env.frame = some L) (hke : env.scope.kind = .function) (hroom : A.depth < recursionLimit) (hH : A.handled = none) (hroom2 : A.depth + 1 < recursionLimit)
    (x : Str) (t : Tok) (i : Nat) (u : Tok) (n : Nat) (hx : x.length ≤ 100000) (hF : Found x (Str.ofString "'") (i + 1) n)
    (h : ∀ h' tk t1 t2 D frs', TI.SameUp frs frs' → Fr hb L h' m → News hb L h' ((D, { cls := .type "tuple", data := .seq #[.int ((n : Int) + 1) t1, .str (Txt.slice x (some ((i : Int) + 1)) (some (n : Int))) t2] }) :: (new ++ frs')) → (∀ p ∈ new ++ frs', p.1 < D) →
      R (.ok (.ret (.ref D))) { s with heap := h', toks := tk }) : codeAny (model pw w) A (.call (.ref 110) ⟨[.str x t, .int i u], []⟩) R s := by
  have X0 := X₀.K
  refine' code_defF (binds := [("src", .str x t), ("pos", .int i u)]) ?k1 ?k2 ?k3 ?k4 ?k5 ?kF ?kK ?k6 ?k7 ?k8 ?k9 ?kB ?_ ?c2 ?c3 ?c4 ?c5
  case kF => exact hf
  case kK => exact hke
  case k1 => exact Fs
  case k2 => exact F
  case k3 => exact X₀
  case k4 => exact N
  case k5 => exact T
  case k6 => k_is
  case k7 => k_is
  case k8 => exact hroom
  case k9 => exact BindsTo.of_eq rfl
  case c5 => decide
  case kB => exact locs rfl
  case c2 => exact rfl
  case c3 => exact rfl
  case c4 => exact rfl
  clear F N
  intro L' oL h' Fs' hne hLL hnl F' N'
  (try dsimp only)
  (try k_fold)
  change wpAny _ _ (execs (_ :: _) _) _ _ _
  obtain ⟨rest, ho⟩ := hF.occ
  k_steps
  rw [show ((i : Int) + 1) = ((i + 1 : Nat) : Int) from rfl]
  change wpAny _ _ (call _ _ [(Str.ofString "error_on", Value.ref 53), (Str.ofString "error_on_eof", Value.bool true)]) _ _ _
  refine wpAny_call (until_spec Fs' (by assumption) X₀ (by assumption) hnd T (Around.frames_deeper hA) rfl rfl hroom2 hH x _ t _ (i + 1) _ true n rest hF.le hF.lt hx hF.asc hF.clear ho fun h2 tk2 t2 frs2 SU F3 N3 => ?_)
  obtain ⟨sl, frs3, rfl, SU3⟩ := up_cons SU
  dsimp only
  k_steps
  rename_i D h5 F5 N5 l5
  refine ⟨_, _, (D, _) :: new, sl, frs3, F5, N5, fun p hp => ?_, SU3, fun a b => ?_⟩
  · rcases List.mem_cons.mp hp with rfl | hp
    · exact (Nat.ne_of_lt (l5 _ (List.mem_append_right _ List.mem_cons_self))).symm
    · exact hne p hp
  · exact h _ _ _ _ D frs3 SU3 a b fun p hp => by
      rcases List.mem_append.mp hp with hp | hp
      · exact l5 p (List.mem_append_left _ hp)
      · exact l5 p (List.mem_append_right _ (List.mem_cons_of_mem _ hp))
end
end

section
open PySem PySem.W PySem.Calls PySem.Challenge PyProof.Rows PySem.Builtin PySem.Builtin.Str
set_option maxRecDepth 100000
set_option maxHeartbeats 1600000
set_option Elab.async false
set_option linter.unusedVariables false
theorem fill_read : (KF = KF) ∧ rw_rt0008_01 = rw_rt0008_01 := by
  k_fill
  exact ⟨rfl, rfl⟩
/-- the road of _law_read: from a place the texts that are read, with the number of turns -/
inductive ReadTo (x : Str) : Nat → Nat → List Str → Prop
  | done {p : Nat} (e : p = x.length) : ReadTo x 0 p []
  | next {k p n f q : Nat} {ys : List Str} (a : p < x.length) (b : Found x (Str.ofString "'") (p + 1) n) (c : WsTo x f (n + 1) q) (d : ReadTo x k q ys) : ReadTo x (k + 1) p (Txt.slice x (some ((p : Int) + 1)) (some (n : Int)) :: ys)
theorem add_listsD {prog : Program} {w : World} {A : Around} {E : Value → Shared → Prop} {s : Shared} {h₀ : Heap} {L : Addr} {m : Str → Option Value} {news : List (Addr × Obj)} {l b : Addr} {vs ws : List Value} {Q : Value → Shared → Prop} (F : Fr h₀ L s.heap m) (N : News h₀ L s.heap news) (hl : s.heap.IsList l vs.toArray) (hb : s.heap.IsList b ws.toArray)
    (hsz : vs.length + ws.length ≤ sizeLine)
    (h : ∀ D h', Fr h₀ L h' m → News h₀ L h' ((D, W.listOf (vs ++ ws).toArray 0) :: news) → (∀ p ∈ news, p.1 < D) → Q (.ref D) { s with heap := h' }) :
    wpAny (model prog w) A (binaryOp .Add (.ref l) (.ref b)) Q E s := add_lists F N hl hb (fun h' F' N' => h _ h' F' N' fun p hp => Heap.lt_size (N p hp).1) hsz
noncomputable abbrev unh (A : Around) : Around := { A with handled := none }
theorem unh_of {A : Around} (h : A.handled = none) : ∃ A₁, A = unh A₁ := ⟨A, by cases A; cases h; rfl⟩
theorem int0 (u : Tok) : Value.int 0 u = Value.int ((0 : Nat) : Int) u := rfl
noncomputable def StrVals (vs : List Value) (ss : List Str) : Prop := vs.map strOf = ss ∧ vs.all (fun v => match v with | .str .. => true | _ => false) = true
section
variable {w : World} {A A₀ : Around} {s : Shared} {h₀ base : Heap} {L : Addr} {m mg mb : Str → Option Value} {news : List (Addr × Obj)} {mean : ExcName → Option Value} {env : Env} {outer : List Env} {R : Result → Shared → Prop} {hb : Heap} {new frs : List (Addr × Obj)} {l : List Env}
theorem read_spec (Fs : TI.Frs l frs) (F : Fr hb L s.heap m) (X₀ : Says w hb) (N : News hb L s.heap (new ++ frs)) (hnd : new.all TI.notDict = true) (T : Top qv (looseW qv loose) mean mg mb hb) (hA : A.frames = some (env :: l)) (hf : env.frame = some L) (hke : env.scope.kind = .function) (hroom : A.depth < recursionLimit) (hH : A.handled = none) (hroom2 : A.depth + 1 < recursionLimit) (hroom3 : A.depth + 1 + 1 < recursionLimit) (hroom4 : A.depth + 1 + 1 + 1 < recursionLimit)
    (x : Str) (t : Tok) (f k q : Nat) (ss : List Str) (hx : x.length ≤ 100000) (hk1 : k ≤ 1000) (hw : WsTo x f 0 q) (hr : ReadTo x k q ss)
    (h : ∀ h' tk D vs c frs', TI.SameUp frs frs' → StrVals vs ss → Fr hb L h' m → News hb L h' ((D, W.listOf vs.toArray c) :: (new ++ frs')) → (∀ p ∈ new ++ frs', p.1 < D) →
      R (.ok (.ret (.ref D))) { s with heap := h', toks := tk }) : codeAny (model pw w) A (.call (.ref 169) ⟨[.str x t], []⟩) R s := by
  obtain ⟨A₁, rfl⟩ := unh_of hH
  have X0 := X₀.K
  refine' code_defF (binds := [("text", .str x t)]) ?k1 ?k2 ?k3 ?k4 ?k5 ?kF ?kK ?k6 ?k7 ?k8 ?k9 ?kB ?_ ?c2 ?c3 ?c4 ?c5
  case kF => exact hf
  case kK => exact hke
  case k1 => exact Fs
  case k2 => exact F
  case k3 => exact X₀
  case k4 => exact N
  case k5 => exact T
  case k6 => k_is
  case k7 => k_is
  case k8 => exact hroom
  case k9 => exact BindsTo.of_eq rfl
  case c5 => decide
  case kB => exact locs rfl
  case c2 => exact rfl
  case c3 => exact rfl
  case c4 => exact rfl
  clear F N
  intro L' oL h' Fs' hne hLL hnl F' N'
  (try dsimp only)
  (try k_fold)
  change wpAny _ _ (execs (_ :: _) _) _ _ _
  k_steps
  rw [int0]
  refine wpAny_call (ws_spec Fs' (by assumption) X₀ (by assumption) hnd T (Around.frames_deeper hA) rfl rfl hroom2 hH hroom3 hroom4 x _ 0 _ q f hx hw fun h2 tk2 t2 frs2 SU F3 N3 => ?_)
  obtain ⟨sl, frs3, rfl, SU3⟩ := up_cons SU
  have Fs1 := Fs'.up SU
  dsimp only
  iterate 16 (first | walk1 | (dsimp only; walk1))
  rename_i D0 _ l0 _ _ l1 _ _ _ F5 N5
  have N6 := fun p hp => N5 p (List.mem_cons_of_mem _ hp)
  refine While_inv (fun j m₁ n₁ => ∃ (p : Nat) (v : Tok) (ob : Option Value) (D c : Nat) (vs : List Value) (pre ys : List Str) (sl : Array (Option Value)) (frs1 : List (Addr × Obj)), ReadTo x j p ys ∧ vs.length + j = k ∧ ss = pre ++ ys ∧ StrVals vs pre ∧ TI.SameUp frs frs1 ∧
      n₁ = (D, W.listOf vs.toArray c) :: (new ++ (L, { oL with slots := sl }) :: frs1) ∧ (∀ p ∈ new ++ (L, { oL with slots := sl }) :: frs1, p.1 < D) ∧
      m₁ = bindM (bindM (bindM (fun y => [(Str.ofString "text", Value.str x t)].reverse.lookup y) (Str.ofString "one") ob) (Str.ofString "texts") (some (.ref D))) (Str.ofString "place") (some (.int p v))) (n₀ := k)
    F5 N6 ⟨q, t2, none, D0, 0, [], [], ss, sl, frs3, hr, Nat.zero_add _, rfl, ⟨rfl, rfl⟩, SU3, rfl, l0, ?start⟩ ?turn ?own
  case start =>
    funext z
    simp only [bindM]
    repeat' split
    all_goals first | rfl | (subst_vars; rfl) | (simp_all; done)
  case own => passes_own
  case turn =>
    rintro j m₁ n₁ h₁ tk₁ F₁ N₁ ⟨p, v, ob, D, c, vs, pre, ys, sl, frs1, hk, hjk, hss, hvs, SU1, rfl, hlt, rfl⟩
    have Fs2 : TI.Frs (env :: l) ((L, { oL with slots := sl }) :: frs1) := Fs'.up ⟨rfl, ⟨sl, rfl⟩, SU1⟩
    cases hk with
    | done e =>
      have e' : ¬ (p : Int) < (x.length : Int) := by omega
      k_steps
      rw [List.append_nil] at hss
      subst hss
      refine ⟨_, _, (D, _) :: new, sl, frs1, F₁, N₁, fun p hp => ?_, SU1, fun a b => ?_⟩
      · rcases List.mem_cons.mp hp with rfl | hp
        · exact (Nat.ne_of_lt (hlt _ (List.mem_append_right _ List.mem_cons_self))).symm
        · exact hne p hp
      · exact h _ _ D vs c frs1 SU1 hvs a b fun p hp => by
          rcases List.mem_append.mp hp with hp | hp
          · exact hlt p (List.mem_append_left _ hp)
          · exact hlt p (List.mem_append_right _ (List.mem_cons_of_mem _ hp))
    | @next j p n f q ys a b c2 d =>
      have a' : (p : Int) < (x.length : Int) := by omega
      k_steps
      have hnd2 : ((D, W.listOf vs.toArray c) :: new).all TI.notDict = true := by rw [List.all_cons, hnd]; rfl
      refine wpAny_call (parse_spec (new := (D, W.listOf vs.toArray c) :: new) Fs2 (by assumption) X₀ (by assumption) hnd2 T (Around.frames_deeper hA) rfl rfl hroom2 hH hroom3 x _ p _ n hx b fun h4 tk4 t4 t5 D5 frs5 SU5 F6 N6 l6 => ?_)
      obtain ⟨sl6, frs6, rfl, SU6⟩ := up_cons SU5
      have Fs3 := Fs2.up SU5
      dsimp only
      k_steps
      rename_i D8 h8 F8 N8 l8 h9 F9 N9
      have l10 : ∀ z ∈ new ++ (L, { oL with slots := sl6 }) :: frs6, z.1 < h8.objs.size := fun z hz => Heap.lt_size (N8 z (.tail _ (.tail _ (.tail _ hz)))).1
      dsimp only at N9 ⊢
      generalize h8.objs.size = D9 at N9 l10 ⊢
      have N10 : News hb L' h9 (((D9, W.listOf (vs ++ [Value.str (Txt.slice x (some ((p : Int) + 1)) (some (n : Int))) t5]).toArray 0) :: new) ++ (L, { oL with slots := sl6 }) :: frs6) := fun z hz => by
        rcases List.mem_cons.mp hz with rfl | hz
        · exact N9 _ (.head _)
        · exact N9 _ (.tail _ (.tail _ (.tail _ (.tail _ hz))))
      clear N9 N8 l8 F8
      have hnd3 : ((D9, W.listOf (vs ++ [Value.str (Txt.slice x (some ((p : Int) + 1)) (some (n : Int))) t5]).toArray 0) :: new).all TI.notDict = true := by rw [List.all_cons, hnd]; rfl
      rw [show ((n : Int) + 1) = ((n + 1 : Nat) : Int) from rfl]
      refine wpAny_call (ws_spec Fs3 F9 X₀ N10 hnd3 T (Around.frames_deeper hA) rfl rfl hroom2 hH hroom3 hroom4 x _ (n + 1) _ q f hx c2 fun h11 tk11 t11 frs11 SU11 F11 N11 => ?_)
      obtain ⟨sl12, frs12, rfl, SU12⟩ := up_cons SU11
      dsimp only
      k_steps
      rename_i F13 N13
      have l13 : ∀ z ∈ new ++ (L, { oL with slots := sl12 }) :: frs12, z.1 < D9 := fun z hz => by
        rcases List.mem_append.mp hz with hz | hz
        · exact l10 z (List.mem_append_left _ hz)
        · rcases List.mem_cons.mp hz with rfl | hz
          · exact l10 (L, { oL with slots := sl6 }) (List.mem_append_right _ List.mem_cons_self)
          · obtain ⟨y, hy, e⟩ := SU12.fwd z hz
            rw [e]
            exact l10 y (List.mem_append_right _ (List.mem_cons_of_mem _ hy))
      refine WhileStep.intro F13 (fun z hz => N13 z (List.mem_cons_of_mem _ hz)) (n' := j) (Nat.lt_succ_self _) ⟨q, t11, some (.str (Txt.slice x (some ((p : Int) + 1)) (some (n : Int))) t5), D9, 0, vs ++ [_], pre ++ [Txt.slice x (some ((p : Int) + 1)) (some (n : Int))], ys, sl12, frs12, d, ?e1, ?e2, ?e3, SU1.trans (SU6.trans SU12), rfl, l13, ?e4⟩
      case e1 => rw [List.length_append, List.length_singleton]; omega
      case e2 => rw [hss, List.append_assoc]; rfl
      case e3 => exact ⟨by rw [List.map_append, hvs.1]; rfl, by rw [List.all_append, hvs.2]; rfl⟩
      case e4 =>
        funext z
        simp only [bindM]
        repeat' split
        all_goals first | rfl | (rename_i h1 h2; exact absurd (h1.symm.trans h2) (by decide +kernel)) | (simp_all; done)
end
end

section
open PySem PySem.W PySem.Calls PySem.Challenge PyProof.Rows
set_option maxRecDepth 100000
set_option maxHeartbeats 1600000
set_option Elab.async false
set_option linter.unusedVariables false
open TI
/-- no object of the ledger's front is a frame's -/
noncomputable def Apart (new frs : List (Addr × Obj)) : Prop := ∀ p ∈ new, p.1 ∉ frs.map (·.1)
theorem Apart.up {new frs frs' : List (Addr × Obj)} (a : Apart new frs) (SU : SameUp frs frs') : Apart new frs' := fun p hp hm => by
  obtain ⟨q, hq, e⟩ := List.mem_map.mp hm
  obtain ⟨x, hx, e'⟩ := SU.fwd q hq
  exact a p hp (List.mem_map.mpr ⟨x, hx, by rw [← e', e]⟩)
theorem Apart.push {new frs : List (Addr × Obj)} {L : Addr} {oL : Obj} (a : Apart new frs) (hne : ∀ p ∈ new, p.1 ≠ L) : Apart new ((L, oL) :: frs) := fun p hp hm => by
  rcases List.mem_cons.mp hm with e | hm
  · exact hne p hp e
  · exact a p hp hm
theorem Apart.cons {new frs : List (Addr × Obj)} {D : Addr} {o : Obj} (a : Apart new frs) (h : ∀ q ∈ frs, q.1 < D) : Apart ((D, o) :: new) frs := fun p hp hm => by
  rcases List.mem_cons.mp hp with rfl | hp
  · obtain ⟨q, hq, e⟩ := List.mem_map.mp hm
    have := h q hq
    rw [e] at this
    exact Nat.lt_irrefl _ this
  · exact a p hp hm
theorem Apart.sub {new new' frs : List (Addr × Obj)} (a : Apart new frs) (h : ∀ p ∈ new', ∃ q ∈ new, p.1 = q.1) : Apart new' frs := fun p hp hm => by
  obtain ⟨q, hq, e⟩ := h p hp
  exact a q hq (e ▸ hm)
section
variable {prog : Program} {w : World} {A₀ : Around} {E : Value → Shared → Prop} {s' : Shared} {hb h : Heap} {L a e : Addr} {m : Str → Option Value} {name : Str} {scope : Scope} {cd : Value} {Q : Unit → Shared → Prop} {X : String} {l : List Env} {frs new : List (Addr × Obj)}
/-- an exception noted in its own frame: what lies apart from the frames stands -/
theorem held_ap {hm h' : Heap} {a0 : Value} (Fs : Frs l frs) (F : Fr hb L h m) (N : News hb L h (new ++ frs)) (hap : Apart new frs) (hNs : hm.Ns L m) {frs₁ : List (Addr × Obj)} (SU : SameUp frs frs₁) (ht : ∀ q ∈ frs₁, hm.get? q.1 = some q.2)
    (hfresh : h.get? e = none) (hN : Heap.NotedW (gone h (L :: frs.map (·.1))) (envOf name scope L a cd :: l) e (.type X) a0 (rawInt L) hm h') :
    ∃ frs₂, SameUp frs frs₂ ∧ Frs l frs₂ ∧ TT.HeldN hb L h' m e X (new ++ frs₂) := by
  have N₀ : News hb L h ([] ++ frs) := fun p hp => N p (List.mem_append_right _ hp)
  obtain ⟨frs₂, SU₂, Fs₂, H⟩ := held_of_noted (new := []) Fs F N₀ rfl hNs SU ht hfresh hN
  obtain ⟨k1, _, k3, _⟩ := hN
  have out : ∀ p ∈ new, p.1 ∉ L :: frs.map (·.1) := fun p hp hm' => by
    rcases List.mem_cons.mp hm' with q | hm'
    · exact (N p (List.mem_append_left _ hp)).2.1 q
    · exact hap p hp hm'
  have stay : ∀ p ∈ new, (gone h (L :: frs.map (·.1))).get? p.1 = some p.2 := fun p hp => (gone_get (out p hp)).trans (N p (List.mem_append_left _ hp)).1
  refine ⟨frs₂, SU₂, Fs₂, ⟨H.held, fun p hp => ?_, fun ob ws tb e1 e2 e3 p hp q => ?_⟩⟩
  · rcases List.mem_append.mp hp with hp | hp
    · exact ⟨k1 _ _ (stay p hp), (N p (List.mem_append_left _ hp)).2⟩
    · exact H.made p hp
  · rcases List.mem_append.mp hp with hp | hp
    · obtain ⟨oe, vs, T, oT, ts, he, _, hd, h1, hnT, _⟩ := k3
      rw [he] at e1
      obtain rfl := Option.some.inj e1
      rw [hd] at e2
      injection e2 with e2
      subst e2
      rw [h1] at e3
      injection e3 with e3
      injection e3 with e3
      subst e3
      have := stay p hp
      rw [q, hnT] at this
      cases this
    · exact H.apart ob ws tb e1 e2 e3 p hp q
theorem noted_ap (hfr : A₀.frames = some l) (Fs : Frs l frs) (hx : Heap.NewExc h s'.heap e X) (F : Fr hb L h m) (N : News hb L h (new ++ frs)) (hap : Apart new frs)
    (k : ∀ h' frs', SameUp frs frs' → Frs l frs' → TT.HeldN hb L h' m e X (new ++ frs') → Q () { s' with heap := h' }) (hk : scope.kind = .function := by rfl) :
    wpAny (model prog w) (A₀.deeper (envOf name scope L a cd)) (noteFrame (.ref e) (envOf name scope L a cd)) Q E s' := by
  obtain ⟨ob, tp, he, hcls, hd⟩ := hx.there
  obtain ⟨hff, hNs, frs₁, SU, ht⟩ := frames_at (name := name) (a := a) (cd := cd) (h' := s'.heap) (base := gone h (L :: frs.map (·.1))) hk Fs F N tail_sub (fun b o hb' => ⟨o.slots, hx.keeps b o hb'⟩) fun b hm => gone_none hm
  unfold noteFrame
  simp only [show (envOf name scope L a cd).frame = some L from rfl]
  refine wpAny_bind (wpAny_field he hd (x := .none) rfl ?_)
  rw [if_neg (by decide)]
  refine wpAny_entryW (a0 := tp) (Around.frames_deeper hfr) hff rfl he (fun b o eb => hx.keeps b o (gone_some eb).2) (TT.none_of (fun b o eb => (gone_some eb).2) hx.new) hd (by show 1 < 6; decide) rfl fun h' hN => ?_
  obtain ⟨frs₂, SU₂, Fs₂, H⟩ := held_ap (X := X) Fs F N hap hNs SU ht hx.new (by rw [← hcls]; exact hN)
  exact k h' frs₂ SU₂ Fs₂ H
end
end

section
open PySem PySem.W PySem.Calls PySem.Challenge PyProof.Rows PySem.Builtin PySem.Builtin.Str
set_option maxRecDepth 100000
set_option maxHeartbeats 1600000
set_option Elab.async false
set_option linter.unusedVariables false
noncomputable def letter (c : Nat) : Bool := c == 97 || c == 98 || c == 120 || c == 121 || c == 122
noncomputable def es124 (P : Params) : Array DictEntry := match o124v0 P with | ⟨_, _, .dict es _, _⟩ => es | _ => #[]
noncomputable def keyOk (e : DictEntry) : Bool := match e.key with | .int k _ => e.hash == hashInt k | _ => false
theorem map124 {w : World} {h : Heap} (X : (KF w.params).In h) : h.MapOf (intKind pw w) 124 (fun k => findBy (intKind pw w).is (es124 w.params) k) := by
  refine ⟨o124v0 w.params, es124 w.params, _, X 124 _ rfl, ⟨rfl, rfl, rfl⟩, rfl, ?_, fun k => rfl⟩
  have hall : (es124 w.params).all keyOk = true := by kernel_rfl
  intro e he
  have h1 := Array.all_eq_true_iff_forall_mem.mp hall e he
  unfold keyOk at h1
  cases hk : e.key with
  | int k t => rw [hk] at h1; exact ⟨k, by simp [intKind, Value.isInt], eq_of_beq h1⟩
  | _ => rw [hk] at h1; cases h1
theorem letters {c : Nat} (hc : letter c = true) : c = 97 ∨ c = 98 ∨ c = 120 ∨ c = 121 ∨ c = 122 := by
  unfold letter at hc
  simp only [Bool.or_eq_true, beq_iff_eq] at hc
  omega
theorem none124 {w : World} {c : Nat} (hc : letter c = true) : findBy (intKind pw w).is (es124 w.params) (c : Int) = none := by
  rcases letters hc with rfl | rfl | rfl | rfl | rfl <;> rfl
theorem lookup_keep {w : World} {A : Around} {s : Shared} {E : Value → Shared → Prop} {Q : Mapped → Shared → Prop} (hH : A.handled = none) (X : (KF w.params).In s.heap) (c : Nat) (hc : letter c = true)
    (h : ∀ h' tk, (∀ b o, s.heap.get? b = some o → h'.get? b = some o) → Q .keep { s with heap := h', toks := tk }) : wpAny (model pw w) A (tableLookup (.ref 124) c) Q E s := by
  unfold tableLookup
  refine wpAny_bind (wpAny_attempt (wpAny_bind (wpAny_mkInt ?_)))
  refine wpAny_getItem_missing_of (knd := intKind pw w) (k := (c : Int)) (by simp [intKind, Value.isInt]) rfl hH (map124 X) (none124 hc) fun h' e he => ?_
  obtain ⟨ob, tp, hg, hcls, hd⟩ := he.there
  refine wpAny_bind (wpAny_isInstance (T := "KeyError") (b := true) ⟨ob, hg, hcls⟩ (by rfl) ?_)
  exact wpAny_bind (wpAny_rule (wpAny_pure (h _ _ he.keeps)))
theorem translate_meets {w : World} (c : Nat) (hc : letter c = true) (t : Tok) : MeetsIn pw w (Builtin.«str.translate» ⟨[.str ⟨#[c]⟩ t, .ref 124], []⟩)
    (fun A R s => A.handled = none ∧ (KF w.params).In s.heap ∧ ∀ h' tk t', (∀ b o, s.heap.get? b = some o → h'.get? b = some o) → R (.ok (.ret (.str ⟨#[c]⟩ t'))) { s with heap := h', toks := tk }) := by
  intro A R s ⟨hH, X, h⟩
  have h128 : decide (c < 128) = true := by rcases letters hc with rfl | rfl | rfl | rfl | rfl <;> rfl
  have key : ∀ (s : Shared) (E : Value → Shared → Prop) (Q : Mapped → Shared → Prop), (KF w.params).In s.heap → (∀ h' tk, (∀ b o, s.heap.get? b = some o → h'.get? b = some o) → Q .keep { s with heap := h', toks := tk }) → wpAny (model pw w) A.in1 (tableLookup (.ref 124) c) Q E s :=
    fun s E Q X h => lookup_keep (A := A.in1) (show A.in1.handled = none from hH) X c hc h
  obtain ⟨hp, g, d, tk, os⟩ := s
  unfold Builtin.«str.translate»
  generalize tableLookup = tl at key ⊢
  wp_walk
  refine key _ _ _ X fun h' tk' hk => ?_
  rw [show (({ cps := #[c] } : Str).cps.all fun x => decide (x < 128)) = true by simpa using h128]
  wp_walk
  exact h h' (tk' + 1) tk' hk
theorem call_translate {w : World} {A : Around} {s : Shared} {E Q : Value → Shared → Prop} {hb : Heap} {L : Addr} {m : Str → Option Value} {news : List (Addr × Obj)} {c : Nat} {t : Tok} (hH : A.handled = none) (F : Fr hb L s.heap m) (X₀ : (KF w.params).In hb) (N : News hb L s.heap news) (hc : letter c = true)
    (h : ∀ h' tk t', Fr hb L h' m → News hb L h' news → Q (.str ⟨#[c]⟩ t') { s with heap := h', toks := tk }) : wpAny (model pw w) A (call (.builtin "str.translate") [.str ⟨#[c]⟩ t, .ref 124]) Q E s :=
  call_meetsIn PySem.F.slot_str_translate (typeIs_str _ _ _) PySem.F.entry_str_translate (PySem.F.args_str_translate_2 _ _) (translate_meets c hc t)
    ⟨hH, X₀.keeps F.keep, fun h' tk t' k => h h' tk t' (F.keeps k) (N.grown k)⟩
section
variable {w : World} {A A₀ : Around} {s : Shared} {h₀ base : Heap} {L : Addr} {m mg mb : Str → Option Value} {news : List (Addr × Obj)} {mean : ExcName → Option Value} {env : Env} {outer : List Env} {R : Result → Shared → Prop} {hb : Heap} {new frs : List (Addr × Obj)} {l : List Env}
theorem fill_tr : (KF = KF) ∧ rw_rt0008_01 = rw_rt0008_01 := by
  k_fill
  exact ⟨rfl, rfl⟩
theorem escape_spec (Fs : TI.Frs l frs) (F : Fr hb L s.heap m) (X₀ : Says w hb) (N : News hb L s.heap (new ++ frs)) (T : Top qv (looseW qv loose) mean mg mb hb) (hA : A.frames = some (env :: l)) (hf : env.frame = some L) (hke : env.scope.kind = .function) (hroom : A.depth < recursionLimit) (hH : A.handled = none)
    (c : Nat) (hc : letter c = true) (t : Tok) (h : ∀ h' tk t' frs', TI.SameUp frs frs' → Fr hb L h' m → News hb L h' (new ++ frs') → R (.ok (.ret (.str ⟨#[c]⟩ t'))) { s with heap := h', toks := tk }) : codeAny (model pw w) A (.call (.ref 134) ⟨[.str ⟨#[c]⟩ t], []⟩) R s := by
  obtain ⟨A₁, rfl⟩ := unh_of hH
  have X0 := X₀.K
  refine' code_defF (binds := [("pattern", .str ⟨#[c]⟩ t)]) ?k1 ?k2 ?k3 ?k4 ?k5 ?kF ?kK ?k6 ?k7 ?k8 ?k9 ?kB ?_ ?c2 ?c3 ?c4 ?c5
  case kF => exact hf
  case kK => exact hke
  case k1 => exact Fs
  case k2 => exact F
  case k3 => exact X₀
  case k4 => exact N
  case k5 => exact T
  case k6 => k_is
  case k7 => k_is
  case k8 => exact hroom
  case k9 => exact BindsTo.of_eq rfl
  case c5 => decide
  case kB => exact locs rfl
  case c2 => exact rfl
  case c3 => exact rfl
  case c4 => exact rfl
  clear F N
  intro L' oL h' Fs' hne hLL hnl F' N'
  (try dsimp only)
  (try k_fold)
  change wpAny _ _ (execs (_ :: _) _) _ _ _
  k_steps
  refine getMethod_builtin (typeIs_str _ _ _) PySem.F.plainAttrs_str PySem.F.slot_str_translate PySem.F.type_str_translate (fun a e => nomatch e) ?_
  k_steps
  refine call_translate hH (by assumption) X0 (by assumption) hc fun h2 tk2 t2 F2 N2 => ?_
  k_steps
  exact leaveF (gar := []) F2 N2 (by assumption) (sl := oL.slots) (TI.SameUp.refl _) fun frs' U a b => h _ _ _ _ U a b
end
end

section
open PySem PySem.W PySem.Calls PySem.Challenge PyProof.Rows PySem.Builtin PySem.Builtin.ObjectAttr
set_option maxRecDepth 100000
set_option maxHeartbeats 1600000
set_option Elab.async false
set_option linter.unusedVariables false
theorem slot_md_get : Slot "method_descriptor" "__get__" "method_descriptor.__get__" :=
  .of (owner := "method_descriptor") (n := "__get__") (by rw [typeLookup_type, builtinLookup_eq_fast]; kernel_rfl) (by decide +kernel) (by decide +kernel) (by decide +kernel)
    (by first | exact .inl (by decide +kernel) | exact .inr (by decide +kernel)) (by rw [isSubtype_type]; kernel_rfl)
theorem md_set : typeLookup (.type "method_descriptor") "__set__" = pure none := by rw [typeLookup_type, builtinLookup_eq_fast]; kernel_rfl
theorem md_delete : typeLookup (.type "method_descriptor") "__delete__" = pure none := by rw [typeLookup_type, builtinLookup_eq_fast]; kernel_rfl
theorem entry_md_get : entryFor table "method_descriptor.__get__" = some Builtin.«method_descriptor.__get__» := entryFor_of_tree (by kernel_rfl)
theorem args_md_get (a b c : Value) : argsOk "method_descriptor.__get__" ⟨[a, b, c], []⟩ := by unfold argsOk; kernel_rfl
theorem not_told : Manifest.toldItsClass.contains "list.append" = false := by decide +kernel
theorem lk_append : typeLookup (.type "list") "append" = pure (some (.builtin "list.append")) := PySem.F.slot_list_append.lookup
theorem owner_append : (".".intercalate ("list.append".cutAt '.').dropLast) = "list" := by
  have e0 : "list.append".cutAt '.' = ["list", "append"] := by first | rfl | decide +kernel
  rw [e0]; decide +kernel
theorem sub_append : isSubtype (.type "list") (.type (".".intercalate ("list.append".cutAt '.').dropLast)) = pure true := by
  rw [owner_append, isSubtype_type]; kernel_rfl
theorem check_append (a b : Value) : argsOk "list.append" ⟨[a, b], []⟩ := PySem.F.args_list_append_2 a b
noncomputable def boundObj (a : Addr) : Obj := { cls := .type "builtin_function_or_method", data := .fields #[.builtin "list.append", .ref a] }
section
variable {prog : Program} {w : World} {A : Around} {E : Value → Shared → Prop} {h : Heap} {g : Array GenState} {d : Drawn} {t : Nat} {os : OsState} {a : Addr} {xs : Array Value} {k : Nat}
theorem append_get {R : Result → Shared → Prop} (hx : h.get? a = some { cls := .type "list", dict := none, data := .seq xs k, slots := #[] }) (hq : R (.ok (.ret (.ref h.objs.size))) ⟨h.push (boundObj a), g, d, t, os⟩) :
    codeAny (model prog w) A (.call (.builtin "method_descriptor.__get__") ⟨[.builtin "list.append", .ref a, .type "list"], []⟩) R ⟨h, g, d, t, os⟩ := by
  have hT : (⟨h, g, d, t, os⟩ : Shared).TypeIs (.ref a) "list" := ⟨_, hx, rfl⟩
  have hT5 : (⟨h, g, d, t, os⟩ : Shared).TypeIs (.builtin "list.append") "method_descriptor" := PySem.F.type_list_append
  have f1 := not_told
  have f3 := sub_append
  refine codeAny_call_builtin slot_md_get.plain entry_md_get (slot_md_get.check _ _ _ _ _ _ _ _ hT5 (args_md_get _ _ _) ?_)
  unfold Builtin.«method_descriptor.__get__»
  repeat (any_goals (first | assumption | wp_step))
theorem append_attr {tk : Tok} {Q : Fin → Shared → Prop} (hx : h.get? a = some { cls := .type "list", dict := none, data := .seq xs k, slots := #[] }) (hq : Q (.done (.ret (.ref h.objs.size))) ⟨h.push (boundObj a), g, d, t, os⟩) :
    wpAny (model prog w) A (Builtin.«object.__getattribute__» ⟨[.ref a, .str "append" tk], []⟩) Q E ⟨h, g, d, t, os⟩ := by
  have hT : (⟨h, g, d, t, os⟩ : Shared).TypeIs (.ref a) "list" := ⟨_, hx, rfl⟩
  have hT5 : (⟨h, g, d, t, os⟩ : Shared).TypeIs (.builtin "list.append") "method_descriptor" := PySem.F.type_list_append
  have f4 := lk_append
  have f5 := PySem.F.type_list_append
  have f6 := slot_md_get.lookup
  have f7 := md_set
  have f8 := md_delete
  unfold Builtin.«object.__getattribute__»
  repeat (any_goals (first | assumption | wp_step))
  refine append_get hx ?_
  repeat (any_goals (first | assumption | wp_step))
theorem get_append {Q : Value → Shared → Prop} (hx : h.get? a = some { cls := .type "list", dict := none, data := .seq xs k, slots := #[] }) (hq : Q (.ref h.objs.size) ⟨h.push (boundObj a), g, d, t + 1, os⟩) :
    wpAny (model prog w) A (getAttr (.ref a) "append" true) Q E ⟨h, g, d, t, os⟩ := by
  have hT : ∀ tk', (⟨h, g, d, tk', os⟩ : Shared).TypeIs (.ref a) "list" := fun _ => ⟨_, hx, rfl⟩
  have f3 := PySem.F.slot_list_getattribute.lookup
  have f4 := PySem.F.slot_list_getattribute.bind (.ref a)
  unfold getAttr getAttrBy
  repeat (any_goals (first | assumption | exact hT _ | ((with_reducible show wpAny _ _ (call (Value.builtin "list.__getattribute__") _ _) _ _ _); refine wpAny_call (codeAny_call_builtin PySem.F.slot_list_getattribute.plain am_entry_list_getattribute (PySem.F.slot_list_getattribute.check _ _ _ _ _ _ _ _ (hT _) (PySem.F.args_list_getattribute_2 _ _) (append_attr hx ?_)))) | wp_step))
end
section
variable {prog : Program} {w : World} {A : Around} {E : Value → Shared → Prop} {s : Shared} {hb : Heap} {L D : Addr} {m : Str → Option Value} {news : List (Addr × Obj)} {vs : List Value} {n : Nat}
theorem attr_append {Q : Value → Shared → Prop} (F : Fr hb L s.heap m) (N : News hb L s.heap news) (hm : (D, W.listOf vs.toArray n) ∈ news)
    (h : ∀ B h', Fr hb L h' m → News hb L h' ((B, boundObj D) :: news) → (∀ p ∈ news, p.1 < B) → Q (.ref B) { s with heap := h', toks := s.toks + 1 }) : wpAny (model prog w) A (getAttr (.ref D) "append" true) Q E s := by
  obtain ⟨hp, g, d, tk, os⟩ := s
  exact get_append (N _ hm).1 (h _ _ (F.push _) (N.push F _) fun p hp => Heap.lt_size (N p hp).1)
theorem kind_append : builtinKind "list.append" = some .method := by decide +kernel
theorem args_bound (a b : Value) : (match Manifest.signature? "list.append" with
    | some sig => Bind.checkArgs "list.append" { sig with full := toString (Bind.lastOf "list") ++ toString "." ++ toString (Bind.lastOf "list.append") } { pos := [a, b] }
    | none => pure ()) = pure () := by kernel_rfl
theorem vararg_append : Manifest.varargsMethods.contains "list.append" = false := by decide +kernel
theorem sub_list_module : isSubtype (.type "list") (.type "module") = pure false := by rw [isSubtype_type]; kernel_rfl
theorem check_bound {x : Value} {Q : Unit → Shared → Prop} (hT : s.TypeIs (.ref D) "list") (ht : wpAny (model prog w) A (isType (.ref D)) (fun b s' => b = false ∧ s' = s) E s) (h : Q () s) : wpAny (model prog w) A (checkBoundCall "list.append" ⟨[.ref D, x], []⟩) Q E s := by
  have hb := args_bound (.ref D) x
  unfold checkBoundCall
  cases hs : Manifest.signature? "list.append" with
  | none => exact wpAny_pure h
  | some sig =>
    rw [hs] at hb
    dsimp only at hb ⊢
    rw [kind_append]
    dsimp only
    rw [if_neg (by decide)]
    refine wpAny_bind (wpAny_isInstance hT sub_list_module ?_)
    rw [vararg_append]
    rw [if_neg (by decide)]
    refine wpAny_bind (wpAny_mono ht (fun b s' e => ?_) fun _ _ e => e)
    obtain ⟨rfl, rfl⟩ := e
    rw [if_neg (by decide)]
    refine wpAny_bind (wpAny_typeOf hT ?_)
    exact wpAny_of_eq hb h
theorem type_list : (typeOf (.type "list") : Sem Value) = pure (.type "type") := by kernel_rfl
theorem call_bound {B : Addr} {x : Value} {Q : Value → Shared → Prop} (h1 : s.heap.get? B = some (boundObj D)) (h2 : s.heap.get? D = some (W.listOf vs.toArray n)) (hsz : vs.length ≤ sizeLine)
    (h : ∀ h', Heap.SameBut D s.heap h' → h'.get? D = some (W.listOf (vs.toArray.push x) (n + 1)) → Q .none { s with heap := h' }) : wpAny (model prog w) A (call (.ref B) [x]) Q E s := by
  refine wpAny_call (codeAny_of_tree ?_)
  show wpAny _ A.in1 (callAny (.ref B) ⟨[x], []⟩) _ _ s
  simp only [callAny]
  refine wpAny_bind (wpAny_load h1 ?_)
  simp only [boundObj, show (Value.type "builtin_function_or_method" == Value.type "method" || Value.type "builtin_function_or_method" == Value.type "builtin_function_or_method" || Value.type "builtin_function_or_method" == Value.type "method-wrapper") = true by decide, if_true]
  obtain ⟨hp, g, d, tk, os⟩ := s
  have hT : (⟨hp, g, d, tk, os⟩ : Shared).TypeIs (.ref D) "list" := ⟨_, h2, rfl⟩
  show wpAny _ _ (if (Value.type "builtin_function_or_method" != Value.type "method") = true then _ else _) _ _ _
  rw [if_pos (by decide)]
  refine wpAny_bind (check_bound (x := x) hT ?_ ?_)
  · repeat (any_goals (first | assumption | wp_step))
    exact ⟨rfl, rfl⟩
  · refine wpAny_pure ⟨plainId_quiet PySem.F.slot_list_append.plain _, codeAny_builtin PySem.F.entry_list_append ?_⟩
    show wpAny _ _ (updateSeq D (·.push x) >>= fun _ => ret .none) _ _ _
    refine wpAny_bind (wpAny_updateSeq h2 rfl (wpAny_pure (h _ (Heap.SameBut.update ..) ?_)))
    rw [Heap.get?_update_self _ h2 (by rw [mapSeq_push]; rfl), mapSeq_push]
theorem callWith_f {M : Model} {pos : Pos} {u : Addr} {first : List Value} {args : List (Bool × Sem Value)} {Q : Value → Shared → Prop} (hplain : args.any (·.1) = false)
    (h : wpAny M A (evalArgs (.ref u) true args []) (fun x s₁ => s₁.heap.get? u = some (boundObj D) ∧ wpAny M A (call (.ref u) (first ++ x.pos) x.kw) Q E s₁) E s) : wpAny M A (callWith pos (.ref u) first args []) Q E s := by
  unfold callWith
  refine wpAny_bind (wpAny_holding (wpAny_mono h (fun x s₁ h₁ => wpAny_bind (wpAny_standAt ?_)) fun _ _ x => x))
  obtain ⟨ho, hcall⟩ := h₁
  simp only [hplain, List.any_nil, Bool.or_false]
  refine wpAny_bind (m := keeperOf (.ref u)) ?_
  unfold keeperOf
  refine wpAny_bind (wpAny_load ho ?_)
  simp only [boundObj, show (Value.type "builtin_function_or_method" != Value.type "method") = true by decide, show (Value.type "builtin_function_or_method" == Value.type "builtin_function_or_method" || Value.type "builtin_function_or_method" == Value.type "method-wrapper") = true by decide, if_true]
  refine wpAny_pure ?_
  exact wpAny_bind (wpAny_mono hcall (fun r s₂ hr => wpAny_bind (wpAny_holding (wpAny_point (wpAny_pure hr)))) fun _ _ x => x)
theorem callWith_b {M : Model} {pos : Pos} {u : Addr} {first : List Value} {env : Env} {e : Expr} {rest : List Expr} {Q : Value → Shared → Prop}
    (h : wpAny M A (spliced (backTo pos (starEach (e :: rest) env))) (fun vs s₁ => s₁.heap.get? u = some (boundObj D) ∧ wpAny M A (call (.ref u) (first ++ vs)) Q E s₁) E s)
    (he : starEach (e :: rest) env = (false, eval e env) :: starEach rest env := by rfl) (hplain : (backTo pos (starEach rest env)).any (·.1) = false := by rfl) :
    wpAny M A (callWith pos (.ref u) first (backTo pos (starEach (e :: rest) env)) []) Q E s := by
  rw [he] at h ⊢
  refine callWith_f (D := D) (by show (false || (backTo pos (starEach rest env)).any (·.1)) = false; rw [hplain]; rfl) ?_
  exact evalArgs_plain h
/-- add(x), add a list's append bound before -/
theorem add_bound {B : Addr} {x : Value} {pre post : List (Addr × Obj)} {Q : Value → Shared → Prop} (F : Fr hb L s.heap m) (N : News hb L s.heap (pre ++ (D, W.listOf vs.toArray n) :: post)) (hB : s.heap.get? B = some (boundObj D)) (a : ∀ p ∈ pre, p.1 ≠ D) (b : ∀ p ∈ post, p.1 ≠ D) (hsz : vs.length ≤ sizeLine)
    (h : ∀ h', Fr hb L h' m → News hb L h' (pre ++ (D, W.listOf (vs ++ [x]).toArray (n + 1)) :: post) → Q .none { s with heap := h' }) : wpAny (model prog w) A (call (.ref B) [x]) Q E s := by
  have z := N (D, W.listOf vs.toArray n) (List.mem_append.mpr (.inr (.head _)))
  refine call_bound hB z.1 hsz fun h' hs ho => h h' (F.change hs z.2.1 z.2.2) (news_set N a b hs ?_)
  rw [ho, List.push_toArray]
end
end

section
open PySem PySem.W PySem.Calls PySem.Challenge PyProof.Rows PySem.Builtin PySem.Builtin.Str
set_option maxRecDepth 100000
set_option maxHeartbeats 1600000
set_option Elab.async false
set_option linter.unusedVariables false
theorem fill_diff : (KF = KF) ∧ rw_rt0008_01 = rw_rt0008_01 := by
  k_fill
  exact ⟨rfl, rfl⟩
noncomputable def sIs (k : Str) : Value → Bool
  | .str x _ => x.cps.toList == k.cps.toList
  | _ => false
noncomputable def allS (vs : List Value) : Bool := vs.all fun v => match v with | .str .. => true | _ => false
theorem eq_of {k : Str} {t : Tok} {vs : List Value} (h : allS vs = true) (y : Value) (hy : y ∈ vs) : MeetsSeq.EqGives y (.str k t) (sIs k y) := by
  have := List.all_eq_true.mp h y hy
  cases y with
  | str x u => exact SeqRoads2.EqGives.str x k u t
  | _ => cases this
theorem allS_app {a b : List Value} : allS (a ++ b) = (allS a && allS b) := by unfold allS; rw [List.all_append]
theorem split_at {k : Str} : ∀ {vs : List Value}, vs.any (sIs k) = true → ∃ p y q, vs = p ++ y :: q ∧ sIs k y = true ∧ ∀ z ∈ p, sIs k z = false
  | v :: r, h => by
    cases hv : sIs k v with
    | true => exact ⟨[], v, r, rfl, hv, fun _ h => nomatch h⟩
    | false =>
      have h' : r.any (sIs k) = true := by simpa [hv] using h
      obtain ⟨p, y, q, e, a, b⟩ := split_at h'
      refine ⟨v :: p, y, q, by rw [e]; rfl, a, fun z hz => ?_⟩
      rcases List.mem_cons.mp hz with rfl | hz
      · exact hv
      · exact b z hz
theorem last_app : ∀ (p : List Value) (y : Value), kl_last (p ++ [y]) = some (p, y)
  | [], y => rfl
  | x :: p, y => by
    rw [List.cons_append]
    unfold kl_last
    rw [last_app p y]
section
variable {prog : Program} {w : World} {A : Around} {E : Value → Shared → Prop} {s : Shared} {h₀ h : Heap} {L D : Addr} {m : Str → Option Value} {pre post : List (Addr × Obj)} {p q : List Value} {n : Nat}
theorem remove_str {k : Str} {t : Tok} {y : Value} {Q : Value → Shared → Prop} (F : Fr h₀ L s.heap m) (N : News h₀ L s.heap (pre ++ (D, W.listOf (p ++ y :: q).toArray n) :: post)) (a : ∀ x ∈ pre, x.1 ≠ D) (b : ∀ x ∈ post, x.1 ≠ D)
    (hs : allS (p ++ y :: q) = true) (hy : sIs k y = true) (hp : ∀ z ∈ p, sIs k z = false) (hz : (p ++ y :: q).length ≤ 1000)
    (h : ∀ h', Fr h₀ L h' m → News h₀ L h' (pre ++ (D, W.listOf (p ++ q).toArray (n + 1)) :: post) → Q .none { s with heap := h' }) : wpAny (model prog w) A (call (.builtin "list.remove") [.ref D, .str k t]) Q E s := by
  have z := N (D, W.listOf (p ++ y :: q).toArray n) (List.mem_append.mpr (.inr (.head _)))
  have hlt : p.length < (p ++ y :: q).toArray.size := by rw [List.size_toArray, List.length_append, List.length_cons]; omega
  refine call_meets PySem.F.slot_list_remove ⟨_, z.1, rfl⟩ PySem.F.entry_list_remove (PySem.F.args_list_remove_2 _ _)
    (MeetsSeq.list_remove D _ n (.str k t) (sIs k) (fun x hx => eq_of hs x (by simpa using hx)) p.length hlt ?_ (fun i hi hlt' => ?_) (by rw [List.size_toArray]; exact Nat.le_trans hz (by decide)))
    ⟨z.1, h _ (F.change (Heap.SameBut.update ..) z.2.1 z.2.2) (kl_turn _ N a b (kl_erase p q y) ?_)⟩
  · simpa using hy
  · have e : (p ++ y :: q).toArray[i] = p[i] := by simp [List.getElem_append_left hlt']
    rw [e]
    exact hp _ (List.getElem_mem _)
  · rw [List.size_toArray, List.size_toArray, List.length_append, List.length_append, List.length_cons]
    omega
theorem remove_none {k : Str} {t : Tok} {vs : List Value} {Q : Value → Shared → Prop} (hA : A.handled = none) (hl : s.heap.get? D = some (W.listOf vs.toArray n)) (hs : allS vs = true) (hp : vs.any (sIs k) = false)
    (h : ∀ h' tk e, Heap.NewExc s.heap h' e "ValueError" → E (.ref e) { s with heap := h', toks := tk }) : wpAny (model prog w) A (call (.builtin "list.remove") [.ref D, .str k t]) Q E s := by
  refine call_meets PySem.F.slot_list_remove ⟨_, hl, rfl⟩ PySem.F.entry_list_remove (PySem.F.args_list_remove_2 _ _)
    (MeetsSeq.list_remove_none D _ n (.str k t) (sIs k) (fun x hx => eq_of hs x (by simpa using hx)) fun i hi => ?_) ⟨hl, hA, h⟩
  have hi' : i < vs.length := by simpa using hi
  have e : vs.toArray[i] = vs[i] := by simp
  rw [e]
  have := List.any_eq_false.mp hp _ (List.getElem_mem hi')
  simpa using this
end
section
variable {w : World} {A A₀ : Around} {s : Shared} {h₀ base : Heap} {L : Addr} {m mg mb : Str → Option Value} {news : List (Addr × Obj)} {mean : ExcName → Option Value} {env : Env} {outer : List Env} {R : Result → Shared → Prop} {hb : Heap} {new frs : List (Addr × Obj)} {l : List Env}
theorem off_up {gar frs frs1 : List (Addr × Obj)} {L X : Addr} {oL oL' : Obj} (h : ∀ p ∈ gar ++ (L, oL) :: frs, p.1 ≠ X) (SU : TI.SameUp frs frs1) : ∀ p ∈ gar ++ (L, oL') :: frs1, p.1 ≠ X := fun p hp => by
  rcases List.mem_append.mp hp with hp | hp
  · exact h p (List.mem_append_left _ hp)
  · rcases List.mem_cons.mp hp with rfl | hp
    · exact h (L, oL) (List.mem_append_right _ List.mem_cons_self)
    · obtain ⟨q, hq, e⟩ := SU.fwd p hp
      rw [e]
      exact h q (List.mem_append_right _ (List.mem_cons_of_mem _ hq))
/-- what unorderable_list_difference leaves: from the end on -/
noncomputable def diffV : List Value → List Value → List Value → List Value × List Value
  | [], ws, ms => (ms, ws)
  | v :: vs, ws, ms => if ws.any (sIs (strOf v)) then diffV vs (ws.eraseP (sIs (strOf v))) ms else diffV vs ws (ms ++ [v])
theorem eraseP_at {k : Str} {p q : List Value} {y : Value} (hy : sIs k y = true) (hp : ∀ z ∈ p, sIs k z = false) : (p ++ y :: q).eraseP (sIs k) = p ++ q := by
  rw [List.eraseP_append_right _ (fun b hb => by simp [hp b hb]), List.eraseP_cons_of_pos hy]
theorem diff_spec (Fs : TI.Frs l frs) (F : Fr hb L s.heap m) (X₀ : Says w hb) (N : News hb L s.heap (new ++ frs)) (hap : Apart new frs) (T : Top qv (looseW qv loose) mean mg mb hb) (hA : A.frames = some (env :: l)) (hf : env.frame = some L) (hke : env.scope.kind = .function) (hroom : A.depth < recursionLimit) (hH : A.handled = none)
    (D1 D2 : Addr) (c1 c2 : Nat) (vs ws : List Value) (gar : List (Addr × Obj)) (hm : new = (D1, W.listOf vs.toArray c1) :: (D2, W.listOf ws.toArray c2) :: gar) (hvs : allS vs = true) (hws : allS ws = true) (hlv : vs.length ≤ 100) (hlw : ws.length ≤ 100)
    (hd12 : D2 ≠ D1) (hg1 : ∀ p ∈ gar ++ frs, p.1 ≠ D1) (hg2 : ∀ p ∈ gar ++ frs, p.1 ≠ D2)
    (h : ∀ h' tk D Dm cm cw frs', TI.SameUp frs frs' → Fr hb L h' m → News hb L h' ((D, { cls := .type "tuple", data := .seq #[.ref Dm, .ref D2] }) :: (Dm, W.listOf (diffV vs.reverse ws []).1.toArray cm) :: (D2, W.listOf (diffV vs.reverse ws []).2.toArray cw) :: (gar ++ frs')) →
      R (.ok (.ret (.ref D))) { s with heap := h', toks := tk }) : codeAny (model pw w) A (.call (.ref 155) ⟨[.ref D1, .ref D2], []⟩) R s := by
  obtain ⟨A₁, rfl⟩ := unh_of hH
  have X0 := X₀.K
  refine' code_defF (binds := [("expected", .ref D1), ("actual", .ref D2)]) ?k1 ?k2 ?k3 ?k4 ?k5 ?kF ?kK ?k6 ?k7 ?k8 ?k9 ?kB ?_ ?c2 ?c3 ?c4 ?c5
  case kF => exact hf
  case kK => exact hke
  case k1 => exact Fs
  case k2 => exact F
  case k3 => exact X₀
  case k4 => exact N
  case k5 => exact T
  case k6 => k_is
  case k7 => k_is
  case k8 => exact hroom
  case k9 => exact BindsTo.of_eq rfl
  case c5 => decide
  case kB => exact locs rfl
  case c2 => exact rfl
  case c3 => exact rfl
  case c4 => exact rfl
  clear F N
  intro L' oL h' Fs' hne hLL hnl F' N'
  (try dsimp only)
  (try k_fold)
  change wpAny _ _ (execs (_ :: _) _) _ _ _
  have hapL := hap.push (oL := oL) hne
  subst hm
  iterate 8 (first | walk1 | (dsimp only; walk1))
  rename_i Dm h0 lm h1 F1 N1
  have hm1 : Dm ≠ D1 := (Nat.ne_of_lt (lm _ (.head _))).symm
  have hm2 : Dm ≠ D2 := (Nat.ne_of_lt (lm _ (.tail _ (.head _)))).symm
  have hmg : ∀ p ∈ gar ++ (L, oL) :: frs, p.1 ≠ Dm := fun p hp => Nat.ne_of_lt (lm p (.tail _ (.tail _ hp)))
  have hneD : D2 ≠ L := hne (D2, W.listOf ws.toArray c2) (.tail _ (.head _))
  have hapM : Apart ((Dm, W.listOf ([] : List Value).toArray 0) :: (D1, W.listOf vs.toArray c1) :: (D2, W.listOf ws.toArray c2) :: gar) ((L, oL) :: frs) := hapL.cons fun q hq => lm q (List.mem_append_right _ hq)
  have hq1 : ∀ p ∈ gar ++ (L, oL) :: frs, p.1 ≠ D1 := fun p hp => by
    rcases List.mem_append.mp hp with hp | hp
    · exact hg1 p (List.mem_append_left _ hp)
    · rcases List.mem_cons.mp hp with rfl | hp
      · exact (hne _ (.head _)).symm
      · exact hg1 p (List.mem_append_right _ hp)
  have hq2 : ∀ p ∈ gar ++ (L, oL) :: frs, p.1 ≠ D2 := fun p hp => by
    rcases List.mem_append.mp hp with hp | hp
    · exact hg2 p (List.mem_append_left _ hp)
    · rcases List.mem_cons.mp hp with rfl | hp
      · exact (hne _ (.tail _ (.head _))).symm
      · exact hg2 p (List.mem_append_right _ hp)
  have N2 : News hb L' h1 ((Dm, W.listOf ([] : List Value).toArray 0) :: (D1, W.listOf vs.toArray c1) :: (D2, W.listOf ws.toArray c2) :: (gar ++ (L, { oL with slots := oL.slots }) :: frs)) := N1
  refine While_inv (fun j m₁ n₁ => ∃ (es us ms : List Value) (c1 c2 cm : Nat) (ob : Option Value) (sl : Array (Option Value)) (frs1 : List (Addr × Obj)), j = es.length ∧ diffV es.reverse us ms = diffV vs.reverse ws [] ∧ allS es = true ∧ allS us = true ∧ us.length ≤ 100 ∧ ms.length + es.length ≤ 100 ∧ TI.SameUp frs frs1 ∧
      n₁ = (Dm, W.listOf ms.toArray cm) :: (D1, W.listOf es.toArray c1) :: (D2, W.listOf us.toArray c2) :: (gar ++ (L, { oL with slots := sl }) :: frs1) ∧
      m₁ = bindM (bindM (fun y => [(Str.ofString "expected", Value.ref D1), (Str.ofString "actual", Value.ref D2)].reverse.lookup y) (Str.ofString "missing") (some (.ref Dm))) (Str.ofString "item") ob) (n₀ := vs.length)
    F1 N2 ⟨vs, ws, [], c1, c2, 0, none, oL.slots, frs, rfl, rfl, hvs, hws, hlw, by simpa using hlv, TI.SameUp.refl _, rfl, ?start⟩ ?turn ?own
  case start =>
    funext z
    simp only [bindM]
    repeat' split
    all_goals first | rfl | (subst_vars; rfl) | (rename_i h1 h2; exact absurd (h1.symm.trans h2) (by decide +kernel)) | (simp_all; done)
  case own => passes_own
  case turn =>
    rintro j m₁ n₁ h₁ tk₁ F₁ N₁ ⟨es, us, ms, c1, c2, cm, ob, sl, frs1, rfl, hd, hes, hus, hlu, hlm, SU1, rfl, rfl⟩
    have Fs2 : TI.Frs (env :: l) ((L, { oL with slots := sl }) :: frs1) := Fs'.up ⟨rfl, ⟨sl, rfl⟩, SU1⟩
    rcases List.eq_nil_or_concat es with rfl | ⟨p, y, rfl⟩
    · k_steps
      rename_i D9 h9 F9 N9 l9
      have e9 : (D9, W.listOf ms.toArray cm).1 = (D9, W.listOf ms.toArray cm).1 := rfl
      have lL : L < D9 := kst_ltOf l9.2.2.2 (L, { oL with slots := sl }) (List.mem_append_right _ List.mem_cons_self)
      have hd' : diffV vs.reverse ws [] = (ms, us) := hd.symm
      refine ⟨_, _, (D9, _) :: (Dm, _) :: (D2, _) :: gar, sl, frs1, F9, fun z hz => N9 z ?_, fun z hz => ?_, SU1, fun a b => h _ _ D9 Dm cm c2 frs1 SU1 a (by rw [hd']; exact b)⟩
      · rcases List.mem_cons.mp hz with rfl | hz
        · exact .head _
        · rcases List.mem_cons.mp hz with rfl | hz
          · exact .tail _ (.head _)
          · rcases List.mem_cons.mp hz with rfl | hz
            · exact .tail _ (.tail _ (.tail _ (.head _)))
            · exact .tail _ (.tail _ (.tail _ (.tail _ hz)))
      · rcases List.mem_cons.mp hz with rfl | hz
        · exact (Nat.ne_of_lt lL).symm
        · rcases List.mem_cons.mp hz with rfl | hz
          · exact fun e => hmg _ (List.mem_append_right _ List.mem_cons_self) e.symm
          · rcases List.mem_cons.mp hz with rfl | hz
            · exact hneD
            · exact hne z (.tail _ (.tail _ hz))
    · simp only [List.concat_eq_append] at hd hlm hes N₁ ⊢
      rw [allS_app, Bool.and_eq_true] at hes
      obtain ⟨hpe, hye⟩ := hes
      rw [List.length_append, List.length_singleton] at hlm
      rw [List.reverse_append] at hd
      change diffV (y :: p.reverse) us ms = _ at hd
      obtain ⟨S, t, rfl⟩ : ∃ S t, y = Value.str S t := by
        cases y with
        | str S t => exact ⟨S, t, rfl⟩
        | _ => cases hye
      iterate 2 (first | walk1 | (dsimp only; walk1))
      refine wpAny_truthy_list (PySem.IsL.isList (n := c1) (N₁ _ (.tail _ (.head _))).1) (by rw [List.size_toArray, List.length_append, List.length_singleton]; omega) ?_
      rw [show (p ++ [Value.str S t]).toArray.isEmpty = false by simp]
      k_steps
      refine kl_pop (p := p) (y := Value.str S t) (by assumption) N₁ (last_app p _) (.tail hm1 (.head fun z hz => ?_)) ?_ fun h5 F5 N5 => ?_
      · rcases List.mem_cons.mp hz with rfl | hz
        · exact hd12
        · exact off_up hq1 SU1 z hz
      · rw [List.length_append, List.length_singleton]
        exact Nat.le_trans (m := 101) (by omega) (by decide)
      · k_steps
        rename_i h5' F5' N5'
        have hd2 : (if us.any (sIs S) then diffV p.reverse (us.eraseP (sIs S)) ms else diffV p.reverse us (ms ++ [Value.str S t])) = diffV vs.reverse ws [] := hd
        cases ha : us.any (sIs S) with
        | true =>
          obtain ⟨p1, y1, q1, rfl, hy1, hp1⟩ := split_at ha
          rw [if_pos ha, eraseP_at hy1 hp1] at hd2
          refine remove_str (pre := [(Dm, _), (D1, _)]) F5' N5' (fun z hz => ?_) (fun z hz => off_up hq2 SU1 z hz) hus hy1 hp1 (Nat.le_trans hlu (by decide)) fun h6 F6 N6 => ?_
          · rcases List.mem_cons.mp hz with rfl | hz
            · exact hm2
            · rw [List.mem_singleton.mp hz]
              exact hd12.symm
          · k_steps
            refine WhileStep.intro F6 N6 (n' := p.length) (by rw [List.length_append, List.length_singleton]; exact Nat.lt_succ_self _) ⟨p, p1 ++ q1, ms, _, _, _, some (.str S t), sl, frs1, rfl, hd2, hpe, ?_, ?_, by omega, SU1, rfl, ?_⟩
            · rw [allS_app] at hus ⊢
              rw [Bool.and_eq_true] at hus ⊢
              exact ⟨hus.1, by have := hus.2; unfold allS at this ⊢; rw [List.all_cons, Bool.and_eq_true] at this; exact this.2⟩
            · rw [List.length_append, List.length_cons] at hlu
              rw [List.length_append]
              omega
            · funext z
              simp only [bindM]
              repeat' split
              all_goals first | rfl | (subst_vars; rfl) | (rename_i h1 h2; exact absurd (h1.symm.trans h2) (by decide +kernel)) | (simp_all; done)
        | false =>
          rw [if_neg (by rw [ha]; decide)] at hd2
          refine remove_none hH (N5' _ (.tail _ (.tail _ (.head _)))).1 hus ha fun h6 tk6 e6 hx6 => ?_
          have hap2 : Apart ((Dm, W.listOf ms.toArray cm) :: (D1, W.listOf p.toArray (c1 + 1)) :: (D2, W.listOf us.toArray c2) :: gar) ((L, { oL with slots := sl }) :: frs1) :=
            (hapM.up (frs' := (L, { oL with slots := sl }) :: frs1) ⟨rfl, ⟨sl, rfl⟩, SU1⟩).sub fun z hz => by
              rcases List.mem_cons.mp hz with rfl | hz
              · exact ⟨_, .head _, rfl⟩
              · rcases List.mem_cons.mp hz with rfl | hz
                · exact ⟨_, .tail _ (.head _), rfl⟩
                · rcases List.mem_cons.mp hz with rfl | hz
                  · exact ⟨_, .tail _ (.tail _ (.head _)), rfl⟩
                  · exact ⟨z, .tail _ (.tail _ (.tail _ hz)), rfl⟩
          refine noted_ap (new := (Dm, W.listOf ms.toArray cm) :: (D1, W.listOf p.toArray (c1 + 1)) :: (D2, W.listOf us.toArray c2) :: gar) hA Fs2 hx6 F5' N5' hap2 fun h'' frs' SU Fs'' tiH => ?_
          obtain ⟨sl3, frs3, rfl, SU3⟩ := up_cons SU
          have tiHH := TT.HeldNA.held tiH
          k_steps
          refine append_K (by assumption) (by assumption) (.head fun z hz => ?_) (fun h7 F7 N7 => ?_) (by rw [List.size_toArray]; exact Nat.le_trans (m := 100) (by omega) (by decide))
          · rcases List.mem_cons.mp hz with rfl | hz
            · exact fun e => hm1 e.symm
            · rcases List.mem_cons.mp hz with rfl | hz
              · exact fun e => hm2 e.symm
              · exact off_up hmg (SU1.trans SU3) z hz
          · rw [List.push_toArray] at N7
            k_steps
            refine WhileStep.intro (by assumption) (by assumption) (n' := p.length) (by rw [List.length_append, List.length_singleton]; exact Nat.lt_succ_self _) ⟨p, us, ms ++ [Value.str S t], _, _, _, some (.str S t), sl3, frs3, rfl, hd2, hpe, hus, hlu, ?_, SU1.trans SU3, rfl, ?_⟩
            · rw [List.length_append, List.length_singleton]; omega
            · funext z
              simp only [bindM]
              repeat' split
              all_goals first | rfl | (subst_vars; rfl) | (rename_i h1 h2; exact absurd (h1.symm.trans h2) (by decide +kernel)) | (simp_all; done)
end
end

section
open PySem PySem.W PySem.Calls PySem.Challenge PyProof.Rows PySem.Builtin PySem.Builtin.Str
set_option maxRecDepth 100000
set_option maxHeartbeats 1600000
set_option Elab.async false
set_option linter.unusedVariables false
theorem fill_tl : (KF = KF) ∧ rw_rt0008_01 = rw_rt0008_01 := by
  k_fill
  exact ⟨rfl, rfl⟩
theorem item_atTl {x : Str} {k : Nat} (h : k < x.length) : Txt.item x (k : Int) = ⟨#[x.cps[k]]⟩ := by
  have h' : k < x.cps.size := h
  unfold Txt.item Txt.charAt
  rw [show seqIndex? (k : Int) x.length = some k from ?_]
  · simp [h']
    rfl
  · unfold seqIndex?
    have : ¬ (k : Int) < 0 := by omega
    simp [this]
    omega
theorem ne_star {c : Nat} (h : letter c = true) : ((⟨#[c]⟩ : Str) == Str.ofString "*") = false := by rcases letters h with rfl | rfl | rfl | rfl | rfl <;> decide +kernel
theorem ne_quest {c : Nat} (h : letter c = true) : ((⟨#[c]⟩ : Str) == Str.ofString "?") = false := by rcases letters h with rfl | rfl | rfl | rfl | rfl <;> decide +kernel
theorem ne_open {c : Nat} (h : letter c = true) : ((⟨#[c]⟩ : Str) == Str.ofString "[") = false := by rcases letters h with rfl | rfl | rfl | rfl | rfl <;> decide +kernel
noncomputable def partV : Nat → Value → Prop
  | 42, v => v = .none
  | c, v => ∃ t, v = .str ⟨#[c]⟩ t
inductive PartsAre : List Value → List Nat → Prop
  | nil : PartsAre [] []
  | snoc {vs cs c v} : PartsAre vs cs → partV c v → PartsAre (vs ++ [v]) (cs ++ [c])
theorem parts_last {vs p : List Value} {y : Value} {cs : List Nat} (h : PartsAre vs cs) (e : vs = p ++ [y]) : ∃ cs' c, cs = cs' ++ [c] ∧ partV c y ∧ PartsAre p cs' := by
  cases h with
  | nil => simp at e
  | snoc h1 h2 =>
    obtain ⟨rfl, e2⟩ := List.append_inj' e rfl
    injection e2 with e2
    subst e2
    exact ⟨_, _, rfl, h2, h1⟩
theorem partV_letter {c : Nat} {y : Value} (h : partV c y) (hl : letter c = true) : ∃ t, y = .str ⟨#[c]⟩ t := by
  rcases letters hl with rfl | rfl | rfl | rfl | rfl <;> exact h
theorem letter_partV {c : Nat} {t : Tok} (hl : letter c = true) : partV c (.str ⟨#[c]⟩ t) := by
  rcases letters hl with rfl | rfl | rfl | rfl | rfl <;> exact ⟨_, rfl⟩
theorem sub_last {prog : Program} {w : World} {A : Around} {E : Value → Shared → Prop} {s : Shared} {h₀ : Heap} {L l : Addr} {news : List (Addr × Obj)} {value slice : Expr} {p : List Value} {y : Value} {n : Nat} {u : Tok} {Q : Value → Shared → Prop} (N : News h₀ L s.heap news) (hm : (l, W.listOf (p ++ [y]).toArray n) ∈ news) (hl : (p ++ [y]).length ≤ 1001) (h : Q y s)
    (hsub : subscripted slice false (.ref l) (.int (-1) u) = operate [.ref l, .int (-1) u] (getItem (.ref l) (.int (-1) u)) := by with_unfolding_all rfl) :
    wpAny (model prog w) A (subscriptTail value slice (.ref l) (.int (-1) u)) Q E s := by
  have hL : s.heap.IsList l (p ++ [y]).toArray := ⟨_, (N _ hm).1, rfl, n, rfl⟩
  have hs : (p ++ [y]).toArray.size = p.length + 1 := by rw [List.size_toArray, List.length_append, List.length_singleton]
  refine tail_any hL.typeIs slot_list_getitem.lookup (wpAny_getItem_list_neg hL (by decide) (by rw [hs]; omega) (by decide) ?_ h) hsub
  rw [hs, show ((-1 : Int) + ((p.length + 1 : Nat) : Int)).toNat = p.length by omega]
  simp
section
variable {w : World} {A A₀ : Around} {s : Shared} {h₀ base : Heap} {L : Addr} {m mg mb : Str → Option Value} {news : List (Addr × Obj)} {mean : ExcName → Option Value} {env : Env} {outer : List Env} {R : Result → Shared → Prop} {hb : Heap} {new frs : List (Addr × Obj)} {l : List Env}
theorem transl_spec (Fs : TI.Frs l frs) (F : Fr hb L s.heap m) (X₀ : Says w hb) (N : News hb L s.heap (new ++ frs)) (T : Top qv (looseW qv loose) mean mg mb hb) (hA : A.frames = some (env :: l)) (hf : env.frame = some L) (hke : env.scope.kind = .function) (hroom : A.depth < recursionLimit) (hH : A.handled = none) (hroom2 : A.depth + 1 < recursionLimit)
    (x : Str) (t u : Tok) (hx : x.length ≤ 1000) (hok : ∀ i (hi : i < x.length), (x.cps[i] = 42 ∧ ∀ j (hj : j < i), letter (x.cps[j]'(Nat.lt_trans hj hi)) = true) ∨ letter x.cps[i] = true)
    (h : ∀ h' tk D vs c frs', TI.SameUp frs frs' → PartsAre vs x.cps.toList → Fr hb L h' m → News hb L h' ((D, W.listOf vs.toArray c) :: (new ++ frs')) → (∀ p ∈ new ++ frs', p.1 < D) →
      R (.ok (.ret (.ref D))) { s with heap := h', toks := tk }) : codeAny (model pw w) A (.call (.ref 141) ⟨[.str x t, .none, .str "any" u], []⟩) R s := by
  obtain ⟨A₁, rfl⟩ := unh_of hH
  have X0 := X₀.K
  refine' code_defF (binds := [("pat", .str x t), ("STAR", .none), ("QUESTION_MARK", .str "any" u)]) ?k1 ?k2 ?k3 ?k4 ?k5 ?kF ?kK ?k6 ?k7 ?k8 ?k9 ?kB ?_ ?c2 ?c3 ?c4 ?c5
  case kF => exact hf
  case kK => exact hke
  case k1 => exact Fs
  case k2 => exact F
  case k3 => exact X₀
  case k4 => exact N
  case k5 => exact T
  case k6 => k_is
  case k7 => k_is
  case k8 => exact hroom
  case k9 => exact BindsTo.of_eq rfl
  case c5 => decide
  case kB => exact locs rfl
  case c2 => exact rfl
  case c3 => exact rfl
  case c4 => exact rfl
  clear F N
  intro L' oL h' Fs' hne hLL hnl F' N'
  (try dsimp only)
  (try k_fold)
  change wpAny _ _ (execs (_ :: _) _) _ _ _
  iterate 12 (first | walk1 | (dsimp only; walk1))
  rename_i Dr h0 lr h1 F1 N1
  refine attr_append (vs := []) F1 N1 (.head _) fun B h2 F2 N2 l2 => ?_
  have hx' : (x.length : Int) ≤ 1000 := by omega
  iterate 26 (first | walk1 | (dsimp only; walk1))
  rename_i tk0 _ _ _ _ _ _ _ F5 N5
  have N6 : News hb L' _ ((B, boundObj Dr) :: (Dr, W.listOf ([] : List Value).toArray 0) :: (new ++ (L, { oL with slots := oL.slots }) :: frs)) := fun z hz => N5 z (.tail _ hz)
  have lB : ∀ p ∈ new ++ (L, oL) :: frs, p.1 < B := fun p hp => l2 p (.tail _ hp)
  have lrn : ∀ p ∈ new ++ (L, oL) :: frs, p.1 ≠ Dr := fun p hp => Nat.ne_of_lt (lr p hp)
  have lBD : Dr < B := l2 _ (.head _)
  refine While_inv (fun j m₁ n₁ => ∃ (k : Nat) (v : Tok) (oc : Option Value) (vs : List Value) (cm : Nat) (sl : Array (Option Value)) (frs1 : List (Addr × Obj)), k + j = x.length ∧ PartsAre vs (x.cps.toList.take k) ∧ vs.length = k ∧ TI.SameUp frs frs1 ∧
      n₁ = (B, boundObj Dr) :: (Dr, W.listOf vs.toArray cm) :: (new ++ (L, { oL with slots := sl }) :: frs1) ∧
      m₁ = bindM (bindM (bindM (bindM (bindM (fun y => [(Str.ofString "pat", Value.str x t), (Str.ofString "STAR", Value.none), (Str.ofString "QUESTION_MARK", Value.str (Str.ofString "any") u)].reverse.lookup y) (Str.ofString "res") (some (.ref Dr))) (Str.ofString "add") (some (.ref B))) (Str.ofString "n") (some (.int x.length (tk0 + 1 + 1 + 1 + 1)))) (Str.ofString "c") oc) (Str.ofString "i") (some (.int k v))) (n₀ := x.length)
    F5 N6 ⟨0, tk0 + 1 + 1, none, [], 0, oL.slots, frs, Nat.zero_add _, .nil, rfl, TI.SameUp.refl _, rfl, ?start⟩ ?turn ?own
  case start =>
    funext z
    simp only [bindM]
    repeat' split
    all_goals first | rfl | (subst_vars; rfl) | (rename_i h1 h2; exact absurd (h1.symm.trans h2) (by decide +kernel)) | (simp_all; done)
  case own => passes_own
  case turn =>
    rintro j m₁ n₁ h₁ tk₁ F₁ N₁ ⟨k, v, oc, vs, cm, sl, frs1, hkj, hpa, hlen, SU1, rfl, rfl⟩
    have Fs2 : TI.Frs (env :: l) ((L, { oL with slots := sl }) :: frs1) := Fs'.up ⟨rfl, ⟨sl, rfl⟩, SU1⟩
    rcases Nat.eq_zero_or_pos j with rfl | hj
    · obtain rfl : k = x.length := hkj
      k_steps
      · rw [show x.cps.toList.take x.length = x.cps.toList from List.take_of_length_le (by rw [Array.length_toList]; exact Nat.le_refl _)] at hpa
        have lL : L < Dr := lr (L, oL) (List.mem_append_right _ List.mem_cons_self)
        refine (show LeaveF hb L m oL frs R (.ref Dr) _ from ⟨_, _, (Dr, _) :: new, sl, frs1, F₁, fun z hz => N₁ z (.tail _ hz), fun z hz => ?_, SU1, fun a b => h _ _ Dr vs cm frs1 SU1 hpa a b ?_⟩)
        · rcases List.mem_cons.mp hz with rfl | hz
          · exact (Nat.ne_of_lt lL).symm
          · exact hne z hz
        · intro z hz
          rcases List.mem_append.mp hz with hz | hz
          · exact lr z (List.mem_append_left _ hz)
          · obtain ⟨q, hq, e⟩ := SU1.fwd z hz
            rw [e]
            exact lr q (List.mem_append_right _ (List.mem_cons_of_mem _ hq))
      · rename_i a _ _ _
        exact absurd rfl a
    · have hk : (k : Int) < (x.length : Int) := by omega
      have hkn : k < x.length := by omega
      have hit : Txt.item x (k : Int) = ⟨#[x.cps[k]]⟩ := item_atTl hkn
      have hok1 := hok k hkn
      generalize hcc : x.cps[k] = c at hit hok1
      iterate 12 (first | walk1 | (dsimp only; walk1))
      rw [hit]
      have hj1 : j - 1 < j := by omega
      have hj2 : k + 1 + (j - 1) = x.length := by omega
      have hroomL : vs.length ≤ sizeLine := by rw [hlen]; exact Nat.le_trans (m := 1000) (by omega) (by decide)
      have htk : x.cps.toList.take (k + 1) = x.cps.toList.take k ++ [c] := by
        have hkn' : k < x.cps.size := hkn
        rw [← hcc, List.take_succ_eq_append_getElem (by simpa using hkn')]
        simp only [Array.getElem_toList]
        rfl
      rcases hok1 with ⟨rfl, hall⟩ | hl
      · k_steps
        rename_i h7 F7 N7
        refine wpAny_truthy_list (PySem.IsL.isList (n := cm) (N7 _ (.tail _ (.head _))).1) (by rw [List.size_toArray]; omega) ?_
        rcases List.eq_nil_or_concat vs with rfl | ⟨p, y, rfl⟩
        · k_steps
          refine callWith_b (D := Dr) ?_
          k_steps
          exact (N7 _ (.head _)).1
          refine add_bound (pre := [(B, boundObj Dr)]) F7 N7 (N7 _ (.head _)).1 (fun z hz => by rw [List.mem_singleton.mp hz]; exact Nat.ne_of_gt lBD) (fun z hz => off_up lrn SU1 z hz) hroomL fun h5 F5 N5 => ?_
          k_steps
          refine WhileStep.intro F5 N5 (n' := j - 1) hj1 ⟨k + 1, tk₁ + 1 + 1 + 1, some (.str ⟨#[42]⟩ tk₁), [] ++ [Value.none], cm + 1, sl, frs1, hj2, by rw [htk]; exact .snoc hpa rfl, ?_, SU1, rfl, ?_⟩
          · first | (rw [List.length_append, List.length_singleton]; omega) | (simp only [List.length_append, List.length_singleton]; omega) | (rw [List.length_append, List.length_singleton, hlen])
          · funext z
            simp only [bindM]
            repeat' split
            all_goals first | rfl | (subst_vars; rfl) | (rename_i h1 h2; exact absurd (h1.symm.trans h2) (by decide +kernel)) | (simp_all; done)
        · simp only [List.concat_eq_append] at N7 hlen hpa ⊢
          rw [show (p ++ [y]).toArray.isEmpty = false by simp]
          obtain ⟨cs, c', ec, hv', _⟩ := parts_last hpa rfl
          rw [List.length_append, List.length_singleton] at hlen
          have hl' : letter c' = true := by
            have e : (x.cps.toList.take k)[k - 1]? = some c' := by
              have el := congrArg List.length ec
              rw [List.length_append, List.length_singleton, List.length_take, Array.length_toList] at el
              have hkn' : k < x.cps.size := hkn
              rw [ec, show k - 1 = cs.length by omega]
              simp
            have hlt : k - 1 < k := by omega
            rw [List.getElem?_take_of_lt hlt] at e
            have := hall (k - 1) hlt
            have hkn' : k - 1 < x.cps.size := Nat.lt_trans hlt hkn
            rw [List.getElem?_eq_getElem (by simpa using hkn')] at e
            have e2 : x.cps[k - 1] = c' := by simpa using e
            rw [← e2]
            exact this
          obtain ⟨t', rfl⟩ := partV_letter hv' hl'
          k_steps
          refine sub_last N7 (.tail _ (.head _)) (by rw [List.length_append, List.length_singleton]; omega) ?_
          k_steps
          refine callWith_b (D := Dr) ?_
          k_steps
          exact (N7 _ (.head _)).1
          refine add_bound (pre := [(B, boundObj Dr)]) F7 N7 (N7 _ (.head _)).1 (fun z hz => by rw [List.mem_singleton.mp hz]; exact Nat.ne_of_gt lBD) (fun z hz => off_up lrn SU1 z hz) (by rw [List.length_append, List.length_singleton]; exact Nat.le_trans (m := 1000) (by omega) (by decide)) fun h5 F5 N5 => ?_
          k_steps
          refine WhileStep.intro F5 N5 (n' := j - 1) hj1 ⟨k + 1, tk₁ + 1 + 1 + 1, some (.str ⟨#[42]⟩ tk₁), (p ++ [Value.str _ t']) ++ [Value.none], cm + 1, sl, frs1, hj2, by rw [htk]; exact .snoc hpa rfl, ?_, SU1, rfl, ?_⟩
          · first | (rw [List.length_append, List.length_singleton]; omega) | (simp only [List.length_append, List.length_singleton]; omega) | (rw [List.length_append, List.length_singleton, hlen])
          · funext z
            simp only [bindM]
            repeat' split
            all_goals first | rfl | (subst_vars; rfl) | (rename_i h1 h2; exact absurd (h1.symm.trans h2) (by decide +kernel)) | (simp_all; done)
      · iterate 15 (first | walk1 | (dsimp only; walk1))
        rw [ne_star hl]
        iterate 9 (first | walk1 | (dsimp only; walk1))
        rw [ne_quest hl]
        iterate 9 (first | walk1 | (dsimp only; walk1))
        rw [ne_open hl]
        k_steps
        refine callWith_b (D := Dr) ?_
        k_steps
        refine wpAny_call (escape_spec (new := (B, boundObj Dr) :: (Dr, W.listOf vs.toArray cm) :: new) Fs2 (by assumption) X₀ (by assumption) T (Around.frames_deeper hA) rfl rfl hroom2 hH c hl _ fun h4 tk4 t4 frs4 SU4 F4 N4 => ?_)
        obtain ⟨sl5, frs5, rfl, SU5⟩ := up_cons SU4
        dsimp only
        k_steps
        exact (N4 _ (.head _)).1
        refine add_bound (pre := [(B, boundObj Dr)]) F4 N4 (N4 _ (.head _)).1 (fun z hz => by rw [List.mem_singleton.mp hz]; exact Nat.ne_of_gt lBD) (fun z hz => off_up lrn (SU1.trans SU5) z hz) hroomL fun h5 F5 N5 => ?_
        k_steps
        refine WhileStep.intro F5 N5 (n' := j - 1) hj1 ⟨k + 1, tk₁ + 1 + 1 + 1, some (.str ⟨#[c]⟩ tk₁), vs ++ [Value.str ⟨#[c]⟩ t4], cm + 1, sl5, frs5, hj2, by rw [htk]; exact .snoc hpa (letter_partV hl), ?_, (SU1.trans SU5), rfl, ?_⟩
        · first | (rw [List.length_append, List.length_singleton]; omega) | (simp only [List.length_append, List.length_singleton]; omega) | (rw [List.length_append, List.length_singleton, hlen])
        · funext z
          simp only [bindM]
          repeat' split
          all_goals first | rfl | (subst_vars; rfl) | (rename_i h1 h2; exact absurd (h1.symm.trans h2) (by decide +kernel)) | (simp_all; done)
end
end

section
open PySem PySem.Spec PySem.W PySem.Calls PySem.Challenge PyProof.Rows PyProof.Rows.LCg
set_option maxRecDepth 100000
set_option maxHeartbeats 1600000
set_option Elab.async false
set_option linter.unusedVariables false
section
variable {prog : Program} {w : World} {A : Around} {E : Value → Shared → Prop} {s : Shared} {env : Env}
/-- a list comprehension over pairs that are drawn, its element a plain value -/
theorem block_Z {elt iter : Expr} {x x₂ : Str} {px px₂ tp : Pos} {tk} {scope : Scope} {cl : List (Str × Addr)} {pos : Pos} {s₂ : Shared} {I : Addr} {fp wr : List Addr} {n : Nat} {Pt : Nat → Array Value → Prop} {St : Nat → Heap → Prop} {Mid : Nat → Addr → Heap → Prop} {G : Nat → Value → Prop}
    {RR : Value → Addr → Result → Shared → Prop}
    (W : WalksT prog w A I fp wr n Pt St Mid) (hPt : ∀ i vals, Pt i vals → ∃ v₁ v₂, vals = #[v₁, v₂]) (hsz : n ≤ sizeLine)
    (hcell : ∀ y ∈ scope.names, y.2 ≠ .cell) (hkind : scope.kind = .function) (hx : scope.names.lookup x = some .local) (hx₂ : scope.names.lookup x₂ = some .local) (hxx : x ≠ x₂) (hh : A.handled = none) (hst : St 0 s₂.heap) (hfp : ∀ b ∈ fp, b < s₂.heap.objs.size)
    (helt : ∀ i v₁ v₂ C m₂ s₃ (E' : Value → Shared → Prop), Pt i #[v₁, v₂] → s₃.heap.Ns (compEnvC scope cl C env).locals m₂ → m₂ x = some v₁ → m₂ x₂ = some v₂ → wpAny (model prog w) A (eval elt (compEnvC scope cl C env)) (fun y s₄ => G i y ∧ ∃ h₄ tk₄, s₄ = { s₃ with heap := h₄, toks := tk₄ } ∧ ∀ b o, s₃.heap.get? b = some o → h₄.get? b = some o) E' s₃)
    (hRR : ∀ h tk m' ys, ys.length = n → (∀ i, i < n → ∃ y, ys[i]? = some y ∧ G i y) → h.get? s₂.heap.objs.size = some (lst ys) → h.Ns (s₂.heap.objs.size + 1) m' → (∀ b o, b ∉ wr → s₂.heap.get? b = some o → h.get? b = some o) →
      RR (.ref s₂.heap.objs.size) (s₂.heap.objs.size + 1) (.ok .next) { s₂ with heap := h, toks := tk }) :
    wpAny (model prog w) A (newList []) (fun acc s₃ => wpAny (model prog w) A (newFunctionEnv scope env.globals cl [] env.qual none .none (some env)) (fun cenv s₄ =>
      codeAny (model prog w) A (.compStart (.ListComp elt [⟨.Tuple [.Name x px, .Name x₂ px₂] tk tp, iter, [], 0⟩] scope pos) 0 (.ref I) acc { cenv with scope := relabel scope env }) (RR acc cenv.locals) s₄) E s₃) E s₂ := by
  refine wpAny_newObj_type (wpAny_newFunctionEnv hcell (by intro y hy; simp at hy) (fun h₁ hns₁ hsb₁ => ?_) hkind)
  dsimp only at hns₁ hsb₁ ⊢
  generalize hH2 : s₂.heap.push { cls := .type "list", dict := none, data := .seq ([] : List Value).toArray } = H2 at hns₁ hsb₁ ⊢
  have hC : H2.objs.size = s₂.heap.objs.size + 1 := by rw [← hH2, Heap.size_push]
  rw [hC] at hns₁ hsb₁ ⊢
  have hDC : s₂.heap.objs.size ≠ s₂.heap.objs.size + 1 := Nat.ne_of_lt (Nat.lt_succ_self _)
  have old : ∀ b o, s₂.heap.get? b = some o → h₁.get? b = some o := fun b o e => hsb₁.extBut b o (Nat.ne_of_lt (Nat.lt_succ_of_lt (Heap.lt_size e))) (Heap.get?_push_of_some _ (hH2 ▸ Heap.get?_push_of_some _ e))
  have hacc : h₁.get? s₂.heap.objs.size = some (lst []) := hsb₁.extBut _ _ hDC (Heap.get?_push_of_some _ (hH2 ▸ Heap.get?_push_size _ rfl))
  have hst₁ : St 0 h₁ := W.frame _ _ _ hst fun b _ o e => old b o e
  have offD : s₂.heap.objs.size ∉ fp := fun hm => Nat.lt_irrefl _ (hfp _ hm)
  have offC : s₂.heap.objs.size + 1 ∉ fp := fun hm => Nat.lt_irrefl _ (Nat.lt_of_succ_lt (hfp _ hm))
  have offDw : s₂.heap.objs.size ∉ wr := fun hm => offD (W.sub _ hm)
  have offCw : s₂.heap.objs.size + 1 ∉ wr := fun hm => offC (W.sub _ hm)
  have loop : ∀ s₃ : Shared, s₃ = { s₂ with heap := h₁, toks := s₂.toks + ([] : List (Str × Value)).length } →
      codeAny (model prog w) A (.compLoop (.ListComp elt [⟨.Tuple [.Name x px, .Name x₂ px₂] tk tp, iter, [], 0⟩] scope pos) 0 (.ref I) (.ref s₂.heap.objs.size) (compEnvC scope cl (s₂.heap.objs.size + 1) env))
        (RR (.ref s₂.heap.objs.size) (s₂.heap.objs.size + 1)) s₃ := by
    rintro s₃ rfl
    refine LCp.codeAny_compLoop_pair
      (fun k s' => ∃ h' tk i ys m', s' = { s₂ with heap := h', toks := tk } ∧ i ≤ n ∧ k = n + 1 - i ∧ ys.length = i ∧ (∀ j, j < i → ∃ y, ys[j]? = some y ∧ G j y) ∧ St i h' ∧ h'.Ns (s₂.heap.objs.size + 1) m' ∧ h'.get? s₂.heap.objs.size = some (lst ys) ∧ (∀ b o, b ∉ wr → s₂.heap.get? b = some o → h'.get? b = some o)) ?_ (n + 1)
      ⟨h₁, _, 0, [], _, rfl, Nat.zero_le _, rfl, rfl, fun j hj => absurd hj (Nat.not_lt_zero _), hst₁, hns₁, hacc, fun b o _ e => old b o e⟩
    rintro k s' ⟨h', tk, i, ys, m', rfl, hi, rfl, hyl, hG, hst', hn', hD', hk'⟩
    by_cases hlt : i < n
    · refine W.item i _ _ _ hlt hst' fun T vals h₂ tk₂ hPv hTs hT₂ hMid hk₂ => ?_
      obtain ⟨v₁, v₂, rfl⟩ := hPt _ _ hPv
      refine W.go _ _ _ i T _ _ _ hMid fun h₃ hst₃ hk₃ => ?_
      have hTw : T ∉ wr := W.apart _ _ _ hMid
      have hT₃ : h₃.IsTuple T #[v₁, v₂] := let ⟨o, e, r⟩ := hT₂; ⟨o, hk₃ _ _ hTw e, r⟩
      have ht : IsTup h₃ T #[v₁, v₂] := hT₃
      have hn₃ : h₃.Ns (s₂.heap.objs.size + 1) m' := (hn'.at' fun o e => hk₂ _ o offCw e).at' fun o e => hk₃ _ o offCw e
      have hD₃ : h₃.get? s₂.heap.objs.size = some (lst ys) := hk₃ _ _ offDw (hk₂ _ _ offDw hD')
      refine assign_Tuple_tuple hh ht rfl rfl fun h₅ he => ?_
      have he' : ∀ b o, h₃.get? b = some o → h₅.get? b = some o := fun b o e => he b o (Nat.ne_of_lt (Heap.lt_size e)) e
      refine assignInOrder_cons (wpAny_assign_Name (wpAny_storeName_local (lookup_relabel_local hx) (hn₃.at' fun o e => he' _ o e) (fun h₆ hn₆ hs₆ => ?_) (by simp [compEnvC, relabel, hkind])))
      refine assignInOrder_cons (wpAny_assign_Name (wpAny_storeName_local (lookup_relabel_local hx₂) hn₆ (fun h₇ hn₇ hs₇ => ?_) (by simp [compEnvC, relabel, hkind])))
      refine assignInOrder_nil ?_
      have old7 : ∀ b o, b ≠ s₂.heap.objs.size + 1 → h₃.get? b = some o → h₇.get? b = some o := fun b o hb e => hs₇.extBut b o hb (hs₆.extBut b o hb (he' b o e))
      have hst₇ : St (i + 1) h₇ := W.frame _ _ _ hst₃ fun b hb o e => old7 b o (fun q => offC (by rw [← q]; exact hb)) e
      refine wpAny_mono (helt i v₁ v₂ (s₂.heap.objs.size + 1) _ _ _ hPv hn₇ (by simp [hxx]) (by simp)) (fun y s₄ h₄ => ?_) fun _ _ e => e
      obtain ⟨hGy, h₈, tk₈, rfl, hk₈⟩ := h₄
      have hD₈ : h₈.get? s₂.heap.objs.size = some (lst ys) := hk₈ _ _ (old7 _ _ hDC hD₃)
      have hst₈ : St (i + 1) h₈ := W.frame _ _ _ hst₇ fun b hb o e => hk₈ b o e
      refine append_at (hsz := by show ys.toArray.size ≤ sizeLine; rw [List.size_toArray, hyl]; exact Nat.le_trans hi hsz) hD₈ fun h₉ hs₉ hD₉ => ?_
      refine ⟨n + 1 - (i + 1), by omega, h₉, tk₈, i + 1, ys ++ [y], _, rfl, hlt, rfl, by rw [List.length_append, List.length_singleton, hyl], fun j hj => ?_, W.frame _ _ _ hst₈ fun b hb o e => hs₉.extBut b o (fun q => offD (q ▸ hb)) e,
        (hn₇.at' fun o e => hk₈ _ o e).sameBut hs₉ (Ne.symm hDC), hD₉.trans (congrArg some (lst_snoc ys y)), fun b o hb e => ?_⟩
      · by_cases hji : j < i
        · obtain ⟨y', e1, e2⟩ := hG j hji
          exact ⟨y', by rw [List.getElem?_append_left (by rw [hyl]; exact hji)]; exact e1, e2⟩
        · obtain rfl : j = i := by omega
          exact ⟨y, by rw [List.getElem?_append_right (by omega), hyl, Nat.sub_self]; rfl, hGy⟩
      · have hbs : b < s₂.heap.objs.size := Heap.lt_size e
        exact hs₉.extBut b o (Nat.ne_of_lt hbs) (hk₈ _ _ (old7 _ _ (Nat.ne_of_lt (Nat.lt_succ_of_lt hbs)) (hk₃ _ _ hb (hk₂ _ _ hb (hk' _ _ hb e)))))
    · obtain rfl : i = n := Nat.le_antisymm hi (Nat.not_lt.mp hlt)
      refine W.done _ _ _ hst' fun h₂ tk₂ hk₂ => ?_
      exact hRR h₂ tk₂ m' ys hyl hG (hk₂ _ _ offDw hD') (hn'.at' fun o e => hk₂ _ o offCw e) fun b o hb e => hk₂ _ _ hb (hk' _ _ hb e)
  exact codeAny_compStart_list (loop _ rfl) (W.self 0 _ _ _ hst₁ (loop _ rfl))
end
end

section
open PySem PySem.Spec PySem.W PySem.Calls PySem.Challenge PyProof.Rows PyProof.Rows.LCg
set_option maxRecDepth 100000
set_option maxHeartbeats 1600000
set_option Elab.async false
set_option linter.unusedVariables false
/-- the addresses of a zip of a list and a text, all apart -/
structure ZApart (z TI TO i1 i2 l1 : Addr) : Prop where
  TIz : TI ≠ z
  TOz : TO ≠ z
  i1z : i1 ≠ z
  i2z : i2 ≠ z
  TITO : TI ≠ TO
  TIi1 : TI ≠ i1
  TIi2 : TI ≠ i2
  TOi1 : TO ≠ i1
  TOi2 : TO ≠ i2
  i12 : i1 ≠ i2
  l1z : l1 ≠ z
  l1TO : l1 ≠ TO
  l1i1 : l1 ≠ i1
  l1i2 : l1 ≠ i2
section
variable {prog : Program} {w : World} {A : Around} {E : Value → Shared → Prop} {s : Shared} {z TI TO i1 i2 l1 : Addr} {k : Nat} {xs : Array Value} {tx : Str} {tt : Tok}
noncomputable abbrev SI (h : Heap) (i2 : Addr) (tx : Str) (tt : Tok) (k : Nat) : Prop := h.IsStrIter i2 "str_ascii_iterator" tx tt k
theorem zs_item {x a b : Value} {c : Nat} {Q : Value → Shared → Prop} (D : ZApart z TI TO i1 i2 l1)
    (hz : IsZip s.heap z TI TO .none) (hTI : IsPair s.heap TI (.ref i1) (.ref i2)) (hTO : IsPair s.heap TO a b)
    (h1 : s.heap.IsListIter i1 l1 k) (h2 : SI s.heap i2 tx tt k) (hl1 : s.heap.IsList l1 xs) (hx : xs[k]? = some x) (hy : tx.cps[k]? = some c)
    (hQ : ∀ h' tk u, IsZip h' z TI TO (rawInt s.heap.objs.size) → IsPair h' TO x (.str ⟨#[c]⟩ u) → h'.IsListIter i1 l1 (k + 1) → SI h' i2 tx tt (k + 1) → IsPair h' s.heap.objs.size x (.str ⟨#[c]⟩ u) → h'.objs.size = s.heap.objs.size + 1 →
      (∀ c o, c ≠ z → c ≠ TO → c ≠ i1 → c ≠ i2 → s.heap.get? c = some o → h'.get? c = some o) → Q (.ref s.heap.objs.size) { s with heap := h', toks := tk }) :
    wpAny (model prog w) A (Builtin.«zip.__next__» ⟨[.ref z], []⟩) (fun fin s' => ∃ v, fin = .done (.ret v) ∧ Q v s') E s := by
  show wpAny _ _ (field (.ref z) 2 >>= _) _ _ _
  refine wpAny_bind (wpAny_field hz rfl (x := .bool false) rfl ?_)
  show wpAny _ _ (field (.ref z) 3 >>= _) _ _ _
  refine wpAny_bind (wpAny_field hz rfl (x := .ref TI) rfl ?_)
  refine wpAny_bind (wpAny_seqItems hTI rfl ?_)
  show wpAny _ _ (Builtin.SmallTypes.ownedTupleIsFree (.ref z) >>= _) _ _ _
  refine wpAny_bind ?_
  unfold Builtin.SmallTypes.ownedTupleIsFree
  refine wpAny_bind (wpAny_field hz rfl (x := .none) rfl (wpAny_pure ?_))
  simp only [if_true]
  refine wpAny_bind (wpAny_rule ?_)
  refine wpAny_bind (wpAny_field hz rfl (x := .ref TO) rfl ?_)
  refine wpAny_bind (wpAny_setField_rec hz (by simp) fun g₁ hz₁ hs₁ => ?_)
  replace hz₁ : IsZip g₁ z TI TO .ellipsis := hz₁
  refine wpAny_bind ?_
  simp only [List.zipIdx_cons, List.zipIdx_nil, List.forIn_cons, List.forIn_nil]
  refine wpAny_bind (wpAny_bind (wpAny_onRaise ?_))
  show wpAny _ _ (Builtin.SmallTypes.nextOf (.ref i1) >>= _) _ _ _
  refine wpAny_bind (wpAny_nextOf_list_item (h1.extBut hs₁.extBut D.i1z) (hl1.extBut hs₁.extBut D.l1z) hx fun g₂ h1₂ hs₂ => wpAny_pure ?_)
  have hTO₂ : IsPair g₂ TO a b := hs₂.extBut _ _ D.TOi1 (hs₁.extBut _ _ D.TOz hTO)
  refine wpAny_bind (wpAny_seqItems hTO₂ rfl ?_)
  refine wpAny_bind (wpAny_updateSeq_pair hTO₂ fun g₃ hTO₃ hs₃ => ?_)
  replace hTO₃ : IsPair g₃ TO x b := hTO₃
  refine wpAny_bind (wpAny_letGo (wpAny_pure ?_))
  refine wpAny_bind (wpAny_bind (wpAny_onRaise ?_))
  show wpAny _ _ (Builtin.SmallTypes.nextOf (.ref i2) >>= _) _ _ _
  refine wpAny_bind (wpAny_nextOf_ascii_item (((h2.extBut hs₁.extBut D.i2z).extBut hs₂.extBut D.i12.symm).extBut hs₃.extBut D.TOi2.symm) hy fun g₄ h2₄ hs₄ => wpAny_pure ?_)
  have hTO₄ : IsPair g₄ TO x b := hs₄.extBut _ _ D.TOi2 hTO₃
  refine wpAny_bind (wpAny_seqItems hTO₄ rfl ?_)
  refine wpAny_bind (wpAny_updateSeq_pair hTO₄ fun g₅ hTO₅ hs₅ => ?_)
  replace hTO₅ : IsPair g₅ TO x (.str ⟨#[c]⟩ s.toks) := hTO₅
  refine wpAny_bind (wpAny_letGo (wpAny_pure (wpAny_pure ?_)))
  refine wpAny_bind (wpAny_seqItems hTO₅ rfl ?_)
  refine wpAny_bind (wpAny_newTuple ?_)
  have hsz : g₅.objs.size = s.heap.objs.size := by rw [hs₅.1, hs₄.1, hs₃.1, hs₂.1, hs₁.1]
  have hz₅ : IsZip g₅ z TI TO .ellipsis := hs₅.extBut _ _ D.TOz.symm (hs₄.extBut _ _ D.i2z.symm (hs₃.extBut _ _ D.TOz.symm (hs₂.extBut _ _ D.i1z.symm hz₁)))
  have hk₅ : ∀ c o, c ≠ z → c ≠ TO → c ≠ i1 → c ≠ i2 → s.heap.get? c = some o → g₅.get? c = some o := fun c o c1 c2 c3 c4 e =>
    hs₅.extBut _ _ c2 (hs₄.extBut _ _ c4 (hs₃.extBut _ _ c2 (hs₂.extBut _ _ c3 (hs₁.extBut _ _ c1 e))))
  have h1₅ : g₅.IsListIter i1 l1 (k + 1) := ((h1₂.extBut hs₃.extBut D.TOi1.symm).extBut hs₄.extBut D.i12).extBut hs₅.extBut D.TOi1.symm
  have h2₅ : SI g₅ i2 tx tt (k + 1) := h2₄.extBut hs₅.extBut D.TOi2.symm
  have hzlt : z < g₅.objs.size := Heap.lt_size hz₅
  show wpAny _ _ (Builtin.SmallTypes.ownedTupleHandOut (.ref z) (.ref g₅.objs.size) >>= _) _ _ _
  refine wpAny_bind ?_
  unfold Builtin.SmallTypes.ownedTupleHandOut
  have hz₆ : IsZip (g₅.push { cls := .type "tuple", data := .seq #[x, .str ⟨#[c]⟩ s.toks] }) z TI TO .ellipsis := Heap.get?_push_of_some _ hz₅
  refine wpAny_bind (wpAny_setField_rec hz₆ (by simp) fun g₇ hz₇ hs₇ => ?_)
  replace hz₇ : IsZip g₇ z TI TO (rawInt g₅.objs.size) := hz₇
  refine wpAny_setField_rec hz₇ (by simp) fun g₈ hz₈ hs₈ => ?_
  replace hz₈ : IsZip g₈ z TI TO (rawInt g₅.objs.size) := hz₈
  have up : ∀ c o, c ≠ z → g₅.get? c = some o → g₈.get? c = some o := fun c o c1 e => hs₈.extBut _ _ c1 (hs₇.extBut _ _ c1 (Heap.get?_push_of_some _ e))
  have hT₈ : IsPair g₈ g₅.objs.size x (.str ⟨#[c]⟩ s.toks) := hs₈.extBut _ _ (Nat.ne_of_gt hzlt) (hs₇.extBut _ _ (Nat.ne_of_gt hzlt) (Heap.get?_push_size _ rfl))
  have hz8 : g₈.objs.size = g₅.objs.size + 1 := by rw [hs₈.1, hs₇.1, Heap.size_push]
  rw [hsz] at hz₈ hT₈ hz8
  refine wpAny_pure ⟨_, rfl, ?_⟩
  show Q (.ref g₅.objs.size) _
  rw [hsz]
  exact hQ g₈ _ s.toks hz₈ (up _ _ D.TOz hTO₅) (h1₅.at fun o e => up _ o D.i1z e) (let ⟨o, e, r⟩ := h2₅; ⟨o, up _ o D.i2z e, r⟩) hT₈ hz8 fun c o c1 c2 c3 c4 e => up c o c1 (hk₅ c o c1 c2 c3 c4 e)
theorem zs_end {a b : Value} {Q : Fin → Shared → Prop} (hh : A.handled = none) (D : ZApart z TI TO i1 i2 l1)
    (hz : IsZip s.heap z TI TO .none) (hTI : IsPair s.heap TI (.ref i1) (.ref i2)) (hTO : IsPair s.heap TO a b)
    (h1 : s.heap.IsListIter i1 l1 k) (h2 : SI s.heap i2 tx tt k) (hl1 : s.heap.IsList l1 xs) (hend : xs[k]? = none ∨ tx.cps[k]? = none)
    (hE : ∀ h' e, (∀ c o, c ≠ z → c ≠ TO → c ≠ i1 → c ≠ i2 → s.heap.get? c = some o → h'.get? c = some o) → (∃ o, h'.get? e = some o ∧ o.cls = .type "StopIteration") → E (.ref e) { s with heap := h' }) :
    wpAny (model prog w) A (Builtin.«zip.__next__» ⟨[.ref z], []⟩) Q E s := by
  show wpAny _ _ (field (.ref z) 2 >>= _) _ _ _
  refine wpAny_bind (wpAny_field hz rfl (x := .bool false) rfl ?_)
  show wpAny _ _ (field (.ref z) 3 >>= _) _ _ _
  refine wpAny_bind (wpAny_field hz rfl (x := .ref TI) rfl ?_)
  refine wpAny_bind (wpAny_seqItems hTI rfl ?_)
  show wpAny _ _ (Builtin.SmallTypes.ownedTupleIsFree (.ref z) >>= _) _ _ _
  refine wpAny_bind ?_
  unfold Builtin.SmallTypes.ownedTupleIsFree
  refine wpAny_bind (wpAny_field hz rfl (x := .none) rfl (wpAny_pure ?_))
  simp only [if_true]
  refine wpAny_bind (wpAny_rule ?_)
  refine wpAny_bind (wpAny_field hz rfl (x := .ref TO) rfl ?_)
  refine wpAny_bind (wpAny_setField_rec hz (by simp) fun g₁ hz₁ hs₁ => ?_)
  replace hz₁ : IsZip g₁ z TI TO .ellipsis := hz₁
  refine wpAny_bind ?_
  simp only [List.zipIdx_cons, List.zipIdx_nil, List.forIn_cons, List.forIn_nil]
  refine wpAny_bind (wpAny_bind (wpAny_onRaise ?_))
  show wpAny _ _ (Builtin.SmallTypes.nextOf (.ref i1) >>= _) _ _ _
  cases hx : xs[k]? with
  | none =>
    refine wpAny_bind (wpAny_nextOf_list_end hh (h1.extBut hs₁.extBut D.i1z) (hl1.extBut hs₁.extBut D.l1z) hx fun g₂ e hs₂ he => ?_)
    obtain ⟨oe, hoe, hce⟩ := he
    have hz₂ : IsZip g₂ z TI TO .ellipsis := hs₂ _ _ D.i1z.symm hz₁
    have hez : e ≠ z := fun x => by subst x; rw [hz₂] at hoe; cases hoe; simp at hce
    refine wpAny_setField_rec hz₂ (by simp) fun g₃ _ hs₃ => hE g₃ e (fun c o c1 _ c3 _ x => hs₃.extBut _ _ c1 (hs₂ _ _ c3 (hs₁.extBut _ _ c1 x))) ⟨oe, hs₃.extBut _ _ hez hoe, hce⟩
  | some x =>
    have hy : tx.cps[k]? = none := by rcases hend with h | h; rw [hx] at h; cases h; exact h
    refine wpAny_bind (wpAny_nextOf_list_item (h1.extBut hs₁.extBut D.i1z) (hl1.extBut hs₁.extBut D.l1z) hx fun g₂ h1₂ hs₂ => wpAny_pure ?_)
    have hTO₂ : IsPair g₂ TO a b := hs₂.extBut _ _ D.TOi1 (hs₁.extBut _ _ D.TOz hTO)
    refine wpAny_bind (wpAny_seqItems hTO₂ rfl ?_)
    refine wpAny_bind (wpAny_updateSeq_pair hTO₂ fun g₃ hTO₃ hs₃ => ?_)
    refine wpAny_bind (wpAny_letGo (wpAny_pure ?_))
    refine wpAny_bind (wpAny_bind (wpAny_onRaise ?_))
    show wpAny _ _ (Builtin.SmallTypes.nextOf (.ref i2) >>= _) _ _ _
    refine wpAny_bind (wpAny_nextOf_ascii_end hh (((h2.extBut hs₁.extBut D.i2z).extBut hs₂.extBut D.i12.symm).extBut hs₃.extBut D.TOi2.symm) hy fun g₄ e hs₄ he => ?_)
    obtain ⟨oe, hoe, hce⟩ := he
    have hz₄ : IsZip g₄ z TI TO .ellipsis := hs₄ _ _ D.i2z.symm (hs₃.extBut _ _ D.TOz.symm (hs₂.extBut _ _ D.i1z.symm hz₁))
    have hez : e ≠ z := fun x => by subst x; rw [hz₄] at hoe; cases hoe; simp at hce
    refine wpAny_setField_rec hz₄ (by simp) fun g₅ _ hs₅ => hE g₅ e (fun c o c1 c2 c3 c4 x => hs₅.extBut _ _ c1 (hs₄ _ _ c4 (hs₃.extBut _ _ c2 (hs₂.extBut _ _ c3 (hs₁.extBut _ _ c1 x))))) ⟨oe, hs₅.extBut _ _ hez hoe, hce⟩
theorem zs_walks (hh : A.handled = none) (D : ZApart z TI TO i1 i2 l1) :
    WalksT prog w A z [z, TI, TO, i1, i2, l1] [z, TO, i1, i2] (min xs.size tx.cps.size)
      (fun i vals => ∃ x c u, xs[i]? = some x ∧ tx.cps[i]? = some c ∧ vals = #[x, .str ⟨#[c]⟩ u])
      (fun i h => IsZip h z TI TO .none ∧ IsPair h TI (.ref i1) (.ref i2) ∧ (∃ a b, IsPair h TO a b) ∧ h.IsListIter i1 l1 i ∧ SI h i2 tx tt i ∧ h.IsList l1 xs)
      (fun i T h => IsZip h z TI TO (rawInt T) ∧ IsPair h TI (.ref i1) (.ref i2) ∧ (∃ a b, IsPair h TO a b) ∧ h.IsListIter i1 l1 (i + 1) ∧ SI h i2 tx tt (i + 1) ∧ h.IsList l1 xs ∧
        T ≠ z ∧ T ≠ TO ∧ T ≠ i1 ∧ T ≠ i2) where
  sub := fun c hc => by simp at hc ⊢; rcases hc with rfl | rfl | rfl | rfl <;> simp
  frame := fun i h h' hst hk => by
    obtain ⟨hz, hTI, ⟨a, b, hTO⟩, h1, h2, hl1⟩ := hst
    exact ⟨hk z (by simp) _ hz, hk TI (by simp) _ hTI, ⟨a, b, hk TO (by simp) _ hTO⟩, h1.at fun o e => hk i1 (by simp) o e, (let ⟨o, e, r⟩ := h2; ⟨o, hk i2 (by simp) o e, r⟩), hl1.at fun o e => hk l1 (by simp) o e⟩
  item := fun i s Q E hi hst hQ => by
    obtain ⟨hz, hTI, ⟨a, b, hTO⟩, h1, h2, hl1⟩ := hst
    have hix : i < xs.size := Nat.lt_of_lt_of_le hi (Nat.min_le_left ..)
    have hiy : i < tx.cps.size := Nat.lt_of_lt_of_le hi (Nat.min_le_right ..)
    have lt : ∀ {c o}, s.heap.get? c = some o → s.heap.objs.size ≠ c := fun e => Nat.ne_of_gt (Heap.lt_size e)
    have hT : s.TypeIs (.ref z) "zip" := ⟨_, hz, rfl⟩
    unfold pyNext
    refine wpAny_bind (wpAny_attempt (wpAny_callSpecial?_slot (name := Str.ofString "__next__") hT F.slot_zip_next
      (wpAny_call_entry F.slot_zip_next hT F.entry_zip_next
        (zs_item D hz hTI hTO h1 h2 hl1 (Array.getElem?_eq_getElem hix) (Array.getElem?_eq_getElem hiy) fun h' tk u a1 a2 a3 a4 a5 a6 hk => wpAny_pure ?_) (F.args_zip_next_1 _))))
    exact hQ s.heap.objs.size #[xs[i], .str ⟨#[tx.cps[i]]⟩ u] h' tk ⟨_, _, u, Array.getElem?_eq_getElem hix, Array.getElem?_eq_getElem hiy, rfl⟩ (Nat.le_refl _) ⟨_, a5, rfl, _, rfl⟩
      ⟨a1, hk _ _ D.TIz D.TITO D.TIi1 D.TIi2 hTI, ⟨_, _, a2⟩, a3, a4, hl1.at fun o e => hk _ o D.l1z D.l1TO D.l1i1 D.l1i2 e,
        lt hz, lt hTO, (by obtain ⟨_, e, _⟩ := h1; exact lt e), (by obtain ⟨_, e, _⟩ := h2; exact lt e)⟩
      fun c o hc e => hk c o (fun x => hc (by simp [x])) (fun x => hc (by simp [x])) (fun x => hc (by simp [x])) (fun x => hc (by simp [x])) e
  go := fun elts k pos i T s Q E hm hQ => by
    obtain ⟨hz, hTI, ⟨a, b, hTO⟩, h1, h2, hl1, _⟩ := hm
    refine wpAny_letOwnedTupleGo_zip hz fun h' hz' hs' => hQ h' ⟨hz', hs'.extBut _ _ D.TIz hTI, ⟨a, b, hs'.extBut _ _ D.TOz hTO⟩, h1.extBut hs'.extBut D.i1z, h2.extBut hs'.extBut D.i2z,
      hl1.extBut hs'.extBut D.l1z⟩ fun c o hc e => hs'.extBut _ _ (fun x => hc (by simp [x])) e
  apart := fun i T h hm hT => by
    obtain ⟨_, _, _, _, _, _, t1, t2, t3, t4⟩ := hm
    simp at hT
    rcases hT with rfl | rfl | rfl | rfl
    · exact t1 rfl
    · exact t2 rfl
    · exact t3 rfl
    · exact t4 rfl
  done := fun s Q E hst hQ => by
    obtain ⟨hz, hTI, ⟨a, b, hTO⟩, h1, h2, hl1⟩ := hst
    have hend : xs[min xs.size tx.cps.size]? = none ∨ tx.cps[min xs.size tx.cps.size]? = none := by
      rcases Nat.le_total xs.size tx.cps.size with h | h
      · exact .inl (by rw [Nat.min_eq_left h]; exact Array.getElem?_eq_none (Nat.le_refl _))
      · exact .inr (by rw [Nat.min_eq_right h]; exact Array.getElem?_eq_none (Nat.le_refl _))
    have hT : s.TypeIs (.ref z) "zip" := ⟨_, hz, rfl⟩
    unfold pyNext
    refine wpAny_bind (wpAny_attempt (wpAny_callSpecial?_slot (name := Str.ofString "__next__") hT F.slot_zip_next
      (wpAny_call_entry F.slot_zip_next hT F.entry_zip_next (zs_end hh D hz hTI hTO h1 h2 hl1 hend fun h' e hk he => ?_) (F.args_zip_next_1 _))))
    obtain ⟨o, ho, hc⟩ := he
    refine wpAny_bind (wpAny_isInstance (T := "StopIteration") (b := true) ⟨o, ho, hc⟩ isSubtype_stop ?_)
    exact wpAny_pure (hQ _ _ fun c o hc e => hk c o (fun x => hc (by simp [x])) (fun x => hc (by simp [x])) (fun x => hc (by simp [x])) (fun x => hc (by simp [x])) e)
  self := fun i s Q E hst hQ => wpAny_pyIter_zip hst.1 hQ
end
end

section
open PySem PySem.Spec PySem.W PySem.Calls PySem.Challenge PyProof.Rows PyProof.Rows.LCg
set_option maxRecDepth 100000
set_option maxHeartbeats 1600000
set_option Elab.async false
set_option linter.unusedVariables false
theorem ane {a b : Nat} (h : a ≠ b) : @Ne Addr a b := h
noncomputable abbrev zH1 (h : Heap) (l1 : Addr) : Heap := h.push { cls := .type "list_iterator", data := .fields #[.ref l1, .int 0 0] }
noncomputable abbrev zH2 (h : Heap) (l1 : Addr) (x : Str) (t : Tok) : Heap := (zH1 h l1).push { cls := .type "str_ascii_iterator", data := .fields #[.str x t, .int 0 0] }
noncomputable abbrev zH3 (h : Heap) (l1 : Addr) (x : Str) (t : Tok) : Heap := (zH2 h l1 x t).push { cls := .type "tuple", data := .seq #[.ref h.objs.size, .ref (zH1 h l1).objs.size] }
noncomputable abbrev zH4 (h : Heap) (l1 : Addr) (x : Str) (t : Tok) : Heap := (zH3 h l1 x t).push { cls := .type "tuple", data := .seq #[.none, .none] }
noncomputable abbrev zH5 (h : Heap) (l1 : Addr) (x : Str) (t : Tok) : Heap := (zH4 h l1 x t).push { cls := .type "zip", data := .fields #[.none, .bool false, .bool false, .ref (zH2 h l1 x t).objs.size, .ref (zH3 h l1 x t).objs.size] }
theorem meets_zipS (l1 : Addr) (xs : Array Value) (x : Str) (t : Tok) (hasc : x.cps.all (· < 128) = true) :
    Meets (Builtin.«zip.__new__» ⟨[.type "zip", .ref l1, .str x t], []⟩) (fun _ R s => s.heap.IsList l1 xs ∧
      R (.ok (.ret (.ref (zH4 s.heap l1 x t).objs.size))) { s with heap := zH5 s.heap l1 x t }) :=
  .of_wp fun prog w A R s h => by
    obtain ⟨hp, g, d, tk, os⟩ := s; obtain ⟨hl1, h⟩ := h
    have hsub := sub_zip
    have hL1 : Heap.IsList (Shared.heap ⟨hp, g, d, tk, os⟩) l1 xs := hl1
    wp_walk using wpAny_pyIter_list hL1, wpAny_pyIter_ascii hasc
    exact ⟨_, rfl, h⟩
section
variable {prog : Program} {w : World} {A : Around} {E : Value → Shared → Prop} {s : Shared}
theorem call_zipS {l1 : Addr} {xs : Array Value} {x : Str} {t : Tok} {Q : Value → Shared → Prop} (hasc : x.cps.all (· < 128) = true) (hl1 : s.heap.IsList l1 xs)
    (h : ∀ h', IsZip h' (s.heap.objs.size + 4) (s.heap.objs.size + 2) (s.heap.objs.size + 3) .none → IsPair h' (s.heap.objs.size + 2) (.ref s.heap.objs.size) (.ref (s.heap.objs.size + 1)) →
      IsPair h' (s.heap.objs.size + 3) .none .none → h'.IsListIter s.heap.objs.size l1 0 → SI h' (s.heap.objs.size + 1) x t 0 → h'.objs.size = s.heap.objs.size + 5 →
      (∀ c o, s.heap.get? c = some o → h'.get? c = some o) → Q (.ref (s.heap.objs.size + 4)) { s with heap := h' }) :
    wpAny (model prog w) A (call (.type "zip") [.ref l1, .str x t]) Q E s := by
  refine callType_new F.called_zip (by decide) (F.typeCall_zip_2 _ _) (F.newCall_zip_2 _ _) (fun obj => F.args_object_init_3 obj _ _) F.entry_zip_new
    (meets_zipS l1 xs x t hasc) ⟨hl1, ?_⟩
  have z1 : (zH1 s.heap l1).objs.size = s.heap.objs.size + 1 := Heap.size_push ..
  have z2 : (zH2 s.heap l1 x t).objs.size = s.heap.objs.size + 2 := by rw [Heap.size_push, z1]
  have z3 : (zH3 s.heap l1 x t).objs.size = s.heap.objs.size + 3 := by rw [Heap.size_push, z2]
  have z4 : (zH4 s.heap l1 x t).objs.size = s.heap.objs.size + 4 := by rw [Heap.size_push, z3]
  have z5 : (zH5 s.heap l1 x t).objs.size = s.heap.objs.size + 5 := by rw [Heap.size_push, z4]
  have g5 : (zH5 s.heap l1 x t).get? (zH4 s.heap l1 x t).objs.size = some _ := Heap.get?_push_size _ rfl
  have g4 : (zH5 s.heap l1 x t).get? (zH3 s.heap l1 x t).objs.size = some _ := Heap.get?_push_of_some _ (Heap.get?_push_size _ rfl)
  have g3 : (zH5 s.heap l1 x t).get? (zH2 s.heap l1 x t).objs.size = some _ := Heap.get?_push_of_some _ (Heap.get?_push_of_some _ (Heap.get?_push_size _ rfl))
  have g2 : (zH5 s.heap l1 x t).get? (zH1 s.heap l1).objs.size = some _ := Heap.get?_push_of_some _ (Heap.get?_push_of_some _ (Heap.get?_push_of_some _ (Heap.get?_push_size _ rfl)))
  have g1 : (zH5 s.heap l1 x t).get? s.heap.objs.size = some _ := Heap.get?_push_of_some _ (Heap.get?_push_of_some _ (Heap.get?_push_of_some _ (Heap.get?_push_of_some _ (Heap.get?_push_size _ rfl))))
  show _ ∧ _
  rw [z2, z3, z4] at g5
  rw [z1, z2] at g3
  rw [z3] at g4
  rw [z1] at g2
  rw [z4]
  exact ⟨⟨_, g5, rfl⟩, h _ g5 g3 g4 ⟨_, g1, rfl, rfl⟩ ⟨_, g2, rfl, rfl⟩ z5 fun c o x =>
    Heap.get?_push_of_some _ (Heap.get?_push_of_some _ (Heap.get?_push_of_some _ (Heap.get?_push_of_some _ (Heap.get?_push_of_some _ x))))⟩
variable {h₀ : Heap} {L l1 : Addr} {m : Str → Option Value} {news : List (Addr × Obj)} {env : Env}
/-- a zip of a list and a text, made a moment ago -/
structure ZSrc (h₀ : Heap) (L : Addr) (m : Str → Option Value) (news : List (Addr × Obj)) (l1 : Addr) (vs : List Value) (tx : Str) (tt : Tok) (n : Nat) (h : Heap) : Prop where
  F : Fr h₀ L h m
  N : News h₀ L h news
  z : IsZip h (n + 4) (n + 2) (n + 3) .none
  ti : IsPair h (n + 2) (.ref n) (.ref (n + 1))
  tout : IsPair h (n + 3) .none .none
  i1 : h.IsListIter n l1 0
  i2 : SI h (n + 1) tx tt 0
  sz : h.objs.size = n + 5
  lt : ∀ p ∈ news, p.1 < n
  ltL : L < n
  ltB : h₀.objs.size ≤ n
theorem zsrc_of {h h' : Heap} {vs : List Value} {tx : Str} {tt : Tok} (F : Fr h₀ L h m) (N : News h₀ L h news)
    (z : IsZip h' (h.objs.size + 4) (h.objs.size + 2) (h.objs.size + 3) .none) (ti : IsPair h' (h.objs.size + 2) (.ref h.objs.size) (.ref (h.objs.size + 1)))
    (tout : IsPair h' (h.objs.size + 3) .none .none) (i1 : h'.IsListIter h.objs.size l1 0) (i2 : SI h' (h.objs.size + 1) tx tt 0) (sz : h'.objs.size = h.objs.size + 5) (k : ∀ c o, h.get? c = some o → h'.get? c = some o) : ZSrc h₀ L m news l1 vs tx tt h.objs.size h' :=
  ⟨F.keeps k, N.grown k, z, ti, tout, i1, i2, sz, fun p hp => Heap.lt_size (N p hp).1, F.ns.lt, Nat.le_trans F.above (Nat.le_of_lt F.ns.lt)⟩
/-- y = [elt for x, x₂ in zip(a, b)], a a list of the ledger, b a text -/
theorem assign_zip {elt iter : Expr} {x x₂ y : Str} {px px₂ tp py : Pos} {tk} {scope : Scope} {cl : List (Str × Addr)} {pos spos : Pos} {Q : Flow → Shared → Prop} {vs : List Value} {c1 : Nat} {tx : Str} {tt : Tok} (G : Nat → Value → Prop) (hLe : env.locals = L) (hh : A.handled = none)
    (hsw : swapsWith (.ListComp elt [⟨.Tuple [.Name x px, .Name x₂ px₂] tk tp, iter, [], 0⟩] scope pos) (some (.Name y py)) spos.line env = pure true)
    (hclos : closureFor scope env = pure cl) (hcell : ∀ z ∈ scope.names, z.2 ≠ .cell) (hkind : scope.kind = .function)
    (hnames : ∀ z ∈ scope.names, z.2 = .local → scope.names.lookup z.1 = some .local) (hx : scope.names.lookup x = some .local) (hx₂ : scope.names.lookup x₂ = some .local) (hxx : x ≠ x₂)
    (hy : env.kindOf y = some .local) (hp : (env.scope.kind == .class || (env.scope.kind == .module && env.locals != env.globals)) = false)
    (hm : (l1, W.listOf vs.toArray c1) ∈ news) (hsz : vs.length ≤ 1000)
    (hit : wpAny (model prog w) A (eval iter env) (fun xv s₁ => ∃ n, xv = .ref (n + 4) ∧ (∃ h' tk, s₁ = { s with heap := h', toks := tk }) ∧ ZSrc h₀ L m news l1 vs tx tt n s₁.heap) E s)
    (helt : ∀ i v₁ c u C m₂ s₃ (E' : Value → Shared → Prop), vs[i]? = some v₁ → tx.cps[i]? = some c → s₃.heap.Ns (compEnvC scope cl C env).locals m₂ → m₂ x = some v₁ → m₂ x₂ = some (.str ⟨#[c]⟩ u) → wpAny (model prog w) A (eval elt (compEnvC scope cl C env)) (fun y s₄ => G i y ∧ ∃ h₄ tk₄, s₄ = { s₃ with heap := h₄, toks := tk₄ } ∧ ∀ b o, s₃.heap.get? b = some o → h₄.get? b = some o) E' s₃)
    (h : ∀ D h' tk (ys : List Value), Fr h₀ L h' (fun z => if z = y then some (.ref D) else m z) → News h₀ L h' ((D, W.listOf ys.toArray ys.length) :: news) → (∀ p ∈ news, p.1 < D) → ys.length = min vs.length tx.cps.size → (∀ i, i < ys.length → ∃ y, ys[i]? = some y ∧ G i y) → Q .next { s with heap := h', toks := tk })
    (hs : ∀ x, foldedSetIterable iter env x = pure x := by intro _; rfl) :
    wpAny (model prog w) A (exec (.Assign [.Name y py] (.ListComp elt [⟨.Tuple [.Name x px, .Name x₂ px₂] tk tp, iter, [], 0⟩] scope pos) spos) env) Q E s := by
  subst hLe
  rw [exec_Assign_Name_used _ _ _ _ hsw]
  refine wpAny_bind (wpAny_standAt (wpAny_bind ?_))
  show wpAny _ A (do let _ ← comprehension (.ListComp elt [⟨.Tuple [.Name x px, .Name x₂ px₂] tk tp, iter, [], 0⟩] scope pos) scope env _ (newList []) false (eval iter env) (some (assign (.Name y py) env))) _ _ s
  refine wpAny_bind (wpAny_mono (wpAny_comprehension_free (use := some (assign (.Name y py) env)) (Q := fun _ s' => Q .next s') rfl hs hclos hkind hnames
    (wpAny_mono hit (fun xv s₁ h₁ => ?_) fun _ _ e => e)) (fun _ s' hq => wpAny_pure (wpAny_pure hq)) fun _ _ e => e)
  obtain ⟨n, rfl, ⟨hp', tk', rfl⟩, Z⟩ := h₁
  have hzs := Z.sz
  have hl1 : @LT.lt Nat instLTNat l1 n := Z.lt _ hm
  have hL : hp'.IsList l1 vs.toArray := ⟨_, (Z.N _ hm).1, rfl, c1, rfl⟩
  have D : ZApart (n + 4) (n + 2) (n + 3) n (n + 1) l1 := ⟨ane (by omega), ane (by omega), ane (by omega), ane (by omega), ane (by omega), ane (by omega), ane (by omega), ane (by omega), ane (by omega), ane (by omega), ane (by omega), ane (by omega), ane (by omega), ane (by omega)⟩
  refine wpAny_pyIter_zip Z.z ?_
  have hsz' : min vs.toArray.size tx.cps.size ≤ sizeLine := by rw [List.size_toArray]; exact Nat.le_trans (Nat.le_trans (Nat.min_le_left _ _) hsz) (by decide)
  refine block_Z (G := G) (zs_walks (xs := vs.toArray) (tx := tx) (tt := tt) hh D) (fun i vals hv => by obtain ⟨a, c, u, _, _, e⟩ := hv; exact ⟨_, _, e⟩) hsz' hcell hkind hx hx₂ hxx hh ⟨Z.z, Z.ti, ⟨_, _, Z.tout⟩, Z.i1, Z.i2, hL⟩ (fun b hb => ?_) (fun i v₁ v₂ C m₂ s₃ E' hv hn h1 h2 => ?_) (fun h₂ tk₂ m' ys hlen hG hD hn hk => ?_)
  · have hb' : b = n + 4 ∨ b = n + 2 ∨ b = n + 3 ∨ b = n ∨ b = n + 1 ∨ b = l1 := by simpa using hb
    show @LT.lt Nat instLTNat b hp'.objs.size
    have hzs' : hp'.objs.size = n + 5 := hzs
    rw [hzs']
    rcases hb' with rfl | rfl | rfl | rfl | rfl | rfl <;> omega
  · obtain ⟨a, c, u, ha, hc, e⟩ := hv
    have e1 : v₁ = a := by have := congrArg (fun z : Array Value => z[0]?) e; simpa using this
    have e2 : v₂ = .str ⟨#[c]⟩ u := by have := congrArg (fun z : Array Value => z[1]?) e; simpa using this
    subst e1 e2
    exact helt i _ c u C m₂ s₃ E' (by simpa using ha) hc hn h1 h2
  · have hD5 : hp'.objs.size = n + 5 := hzs
    dsimp only at hD hn hk ⊢
    rw [hD5] at hD hn ⊢
    have keep : ∀ b o, b < n → hp'.get? b = some o → h₂.get? b = some o := fun b o hb e => hk b o (fun hm' => by
      have hb2 : @LT.lt Nat instLTNat b n := hb
      have hb' : b = n + 4 ∨ b = n + 3 ∨ b = n ∨ b = n + 1 := by simpa using hm'
      rcases hb' with rfl | rfl | rfl | rfl <;> omega) e
    have ltL := Z.ltL
    have hL₀ : h₀.get? env.locals = none := Heap.get?_none_of_le Z.F.above
    have F' : Fr h₀ env.locals h₂ m := ⟨Z.F.ns.at' fun o e => keep _ o ltL e, fun b o e => keep b o (Nat.lt_of_lt_of_le (Heap.lt_size e) Z.ltB) (Z.F.keep b o e), Z.F.above⟩
    have N' : News h₀ env.locals h₂ news := fun p hp => ⟨keep _ _ (Z.lt p hp) (Z.N p hp).1, (Z.N p hp).2⟩
    have hCL : n + 5 + 1 ≠ env.locals := fun q => by rw [← q] at ltL; have ltL' : @LT.lt Nat instLTNat _ n := ltL; omega
    have hDL : n + 5 ≠ env.locals := fun q => by rw [← q] at ltL; have ltL' : @LT.lt Nat instLTNat _ n := ltL; omega
    have hC₀ : h₀.get? (n + 5 + 1) = none := Heap.get?_none_of_le (Nat.le_trans Z.ltB (by omega))
    have hD₀ : h₀.get? (n + 5) = none := Heap.get?_none_of_le (Nat.le_trans Z.ltB (by omega))
    show wpAny _ A (assign (.Name y py) env (.ref (n + 5))) _ _ _
    refine wpAny_assign_Name (wpAny_storeName_local hy F'.ns (fun h₃ hn₃ hs₃ => ?_) hp)
    have F₂ : Fr h₀ env.locals h₃ (fun z => if z = y then some (.ref (n + 5)) else m z) := ⟨hn₃, fun b o e => hs₃.extBut b o (fun q => by rw [q, hL₀] at e; cases e) (F'.keep b o e), F'.above⟩
    refine ⟨m', hn.sameBut hs₃ hCL, fun h'' hs'' => h (n + 5) h'' _ ys (F₂.change hs'' hCL hC₀) (fun p hp => ?_) (fun p hp => Nat.lt_of_lt_of_le (Z.lt p hp) (by omega)) (by rw [hlen, List.size_toArray]) (fun i hi => hG i (by rw [← hlen]; exact hi))⟩
    rcases List.mem_cons.mp hp with rfl | hp
    · exact ⟨hs''.extBut _ _ (ane (by omega)) (hs₃.extBut _ _ hDL hD), hDL, hD₀⟩
    · have l : @LT.lt Nat instLTNat p.1 n := Z.lt p hp
      exact ⟨hs''.extBut _ _ (ane (by omega)) (hs₃.extBut _ _ (N' p hp).2.1 (N' p hp).1), (N' p hp).2⟩
end
end

section
open PySem PySem.Spec PySem.W PySem.Calls PySem.Challenge PyProof.Rows PySem.SeqAt
set_option maxRecDepth 100000
set_option maxHeartbeats 1600000
set_option Elab.async false
set_option linter.unusedVariables false
theorem allS_at {vs : List Value} (h : allS vs = true) {j : Nat} (hj : j < vs.length) : ∃ t, vs[j] = .str (strOf vs[j]) t := by
  have := List.all_eq_true.mp h _ (List.getElem_mem hj)
  cases e : vs[j] with
  | str x t => exact ⟨t, rfl⟩
  | _ => rw [e] at this; cases this
noncomputable def eqAt (vs ws : List Value) (j : Nat) : Bool := (vs.map strOf)[j]? == (ws.map strOf)[j]?
theorem all_eqAt {vs ws : List Value} (h : vs.length = ws.length) : (List.range vs.length).all (eqAt vs ws) = (vs.map strOf == ws.map strOf) := by
  by_cases e : vs.map strOf = ws.map strOf
  · rw [beq_iff_eq.mpr e]
    rw [List.all_eq_true]
    intro j _
    unfold eqAt
    rw [e]
    exact beq_self_eq_true _
  · rw [beq_eq_false_iff_ne.mpr e]
    rw [List.all_eq_false]
    have : ∃ j, j < vs.length ∧ (vs.map strOf)[j]? ≠ (ws.map strOf)[j]? := by
      apply Classical.byContradiction
      intro hn
      apply e
      apply List.ext_getElem?
      intro j
      apply Classical.byContradiction
      intro hj
      rcases Nat.lt_or_ge j vs.length with h1 | h1
      · exact hn ⟨j, h1, hj⟩
      · exact hj (by rw [List.getElem?_eq_none (by rw [List.length_map]; exact h1), List.getElem?_eq_none (by rw [List.length_map]; omega)])
    obtain ⟨j, h1, h2⟩ := this
    exact ⟨j, List.mem_range.mpr h1, by unfold eqAt; simpa using h2⟩
theorem eq_items {A : Around} {s : Shared} {vs ws : List Value} (hv : allS vs = true) (hw : allS ws = true) (j : Nat) (h1 : j < vs.toArray.size) (h2 : j < ws.toArray.size) : EqAt A s vs.toArray[j] ws.toArray[j] (eqAt vs ws j) := by
  have h1' : j < vs.length := by simpa using h1
  have h2' : j < ws.length := by simpa using h2
  obtain ⟨t, e1⟩ := allS_at hv h1'
  obtain ⟨u, e2⟩ := allS_at hw h2'
  have e3 : eqAt vs ws j = (strOf vs[j] == strOf ws[j]) := by
    unfold eqAt
    rw [List.getElem?_map, List.getElem?_map, List.getElem?_eq_getElem h1', List.getElem?_eq_getElem h2']
    rfl
  rw [List.getElem_toArray, List.getElem_toArray, e3, e1, e2]
  exact (eqGives_str (strOf vs[j]) (strOf ws[j]) t u).at A s
section
variable {prog : Program} {w : World} {A : Around} {E : Value → Shared → Prop} {s : Shared} {l b : Addr} {vs ws : List Value}
theorem rc_strs (hl : s.heap.IsList l vs.toArray) (hb : s.heap.IsList b ws.toArray) (hv : allS vs = true) (hw : allS ws = true) (hu : A.units < cLine) : RcAt A s (.ref l) (.ref b) (vs.map strOf == ws.map strOf) := by
  by_cases h : vs.length = ws.length
  · have := RcAt.lists (A := A) (e := eqAt vs ws) hl hb (by rw [List.size_toArray, List.size_toArray, h]) hu (eq_items hv hw)
    rw [List.size_toArray, all_eqAt h] at this
    exact this
  · rw [show (vs.map strOf == ws.map strOf) = false by
      rw [beq_eq_false_iff_ne]
      intro q
      have := congrArg List.length q
      rw [List.length_map, List.length_map] at this
      exact h this]
    exact RcAt.lists_lengths hl hb (by simpa using h) hu
theorem rcne_strs (hl : s.heap.IsList l vs.toArray) (hb : s.heap.IsList b ws.toArray) (hv : allS vs = true) (hw : allS ws = true) (hu : A.units < cLine) : RcNeAt A s (.ref l) (.ref b) (!(vs.map strOf == ws.map strOf)) := by
  by_cases h : vs.length = ws.length
  · have := RcNeAt.lists (A := A) (e := eqAt vs ws) hl hb (by rw [List.size_toArray, List.size_toArray, h]) hu (eq_items hv hw)
    rw [List.size_toArray, all_eqAt h] at this
    exact this
  · rw [show (vs.map strOf == ws.map strOf) = false by
      rw [beq_eq_false_iff_ne]
      intro q
      have := congrArg List.length q
      rw [List.length_map, List.length_map] at this
      exact h this]
    exact RcNeAt.lists_lengths hl hb (by simpa using h) hu
theorem cmp_eq_strs {Q : Value → Shared → Prop} (hl : s.heap.IsList l vs.toArray) (hb : s.heap.IsList b ws.toArray) (hv : allS vs = true) (hw : allS ws = true) (hu : A.units < cLine) (h : Q (.bool (vs.map strOf == ws.map strOf)) s) : wpAny (model prog w) A (compareOp .Eq (.ref l) (.ref b)) Q E s :=
  rc_strs hl hb hv hw hu prog w E Q h
theorem cmp_ne_strs {Q : Value → Shared → Prop} (hl : s.heap.IsList l vs.toArray) (hb : s.heap.IsList b ws.toArray) (hv : allS vs = true) (hw : allS ws = true) (hu : A.units < cLine) (h : Q (.bool (!(vs.map strOf == ws.map strOf))) s) : wpAny (model prog w) A (compareOp .NotEq (.ref l) (.ref b)) Q E s :=
  rcne_strs hl hb hv hw hu prog w E Q h
/-- two pairs of lists of texts -/
theorem rc_pairs {T U a₁ a₂ b₁ b₂ : Addr} {v₁ v₂ w₁ w₂ : List Value} (hT : s.heap.IsTuple T #[.ref a₁, .ref a₂]) (hU : s.heap.IsTuple U #[.ref b₁, .ref b₂]) (n1 : a₁ ≠ b₁) (n2 : a₂ ≠ b₂)
    (l1 : s.heap.IsList a₁ v₁.toArray) (l2 : s.heap.IsList a₂ v₂.toArray) (m1 : s.heap.IsList b₁ w₁.toArray) (m2 : s.heap.IsList b₂ w₂.toArray) (s1 : allS v₁ = true) (s2 : allS v₂ = true) (t1 : allS w₁ = true) (t2 : allS w₂ = true) (hu : A.units + 1 < cLine) (j : Nat) (h1 : j < (#[Value.ref a₁, .ref a₂] : Array Value).size) (h2 : j < (#[Value.ref b₁, .ref b₂] : Array Value).size) :
    EqAt A.in1 s (#[Value.ref a₁, .ref a₂] : Array Value)[j] (#[Value.ref b₁, .ref b₂] : Array Value)[j] (if j = 0 then (v₁.map strOf == w₁.map strOf) else (v₂.map strOf == w₂.map strOf)) := by
  have hu' : A.in1.units < cLine := hu
  match j, h1, h2 with
  | 0, _, _ => exact EqAt.of_refs n1 (rc_strs l1 m1 s1 t1 hu')
  | 1, _, _ => exact EqAt.of_refs n2 (rc_strs l2 m2 s2 t2 hu')
theorem cmp_ne_pairs {T U a₁ a₂ b₁ b₂ : Addr} {v₁ v₂ w₁ w₂ : List Value} {Q : Value → Shared → Prop} (hT : s.heap.IsTuple T #[.ref a₁, .ref a₂]) (hU : s.heap.IsTuple U #[.ref b₁, .ref b₂]) (n1 : a₁ ≠ b₁) (n2 : a₂ ≠ b₂)
    (l1 : s.heap.IsList a₁ v₁.toArray) (l2 : s.heap.IsList a₂ v₂.toArray) (m1 : s.heap.IsList b₁ w₁.toArray) (m2 : s.heap.IsList b₂ w₂.toArray) (s1 : allS v₁ = true) (s2 : allS v₂ = true) (t1 : allS w₁ = true) (t2 : allS w₂ = true) (hu : A.units + 1 < cLine)
    (h : Q (.bool (!((v₁.map strOf == w₁.map strOf) && (v₂.map strOf == w₂.map strOf)))) s) : wpAny (model prog w) A (compareOp .NotEq (.ref T) (.ref U)) Q E s := by
  refine RcNeAt.tuples (A := A) hT hU (Nat.lt_of_succ_lt hu) (rc_pairs hT hU n1 n2 l1 l2 m1 m2 s1 s2 t1 t2 hu) prog w E Q ?_
  rw [show ((List.range (min (#[Value.ref a₁, .ref a₂] : Array Value).size (#[Value.ref b₁, .ref b₂] : Array Value).size)).all (fun j => if j = 0 then (v₁.map strOf == w₁.map strOf) else (v₂.map strOf == w₂.map strOf)) && (#[Value.ref a₁, .ref a₂] : Array Value).size == (#[Value.ref b₁, .ref b₂] : Array Value).size) = ((v₁.map strOf == w₁.map strOf) && (v₂.map strOf == w₂.map strOf)) by simp [List.range_succ]]
  exact h
theorem cmp_eq_pairs {T U a₁ a₂ b₁ b₂ : Addr} {v₁ v₂ w₁ w₂ : List Value} {Q : Value → Shared → Prop} (hT : s.heap.IsTuple T #[.ref a₁, .ref a₂]) (hU : s.heap.IsTuple U #[.ref b₁, .ref b₂]) (n1 : a₁ ≠ b₁) (n2 : a₂ ≠ b₂)
    (l1 : s.heap.IsList a₁ v₁.toArray) (l2 : s.heap.IsList a₂ v₂.toArray) (m1 : s.heap.IsList b₁ w₁.toArray) (m2 : s.heap.IsList b₂ w₂.toArray) (s1 : allS v₁ = true) (s2 : allS v₂ = true) (t1 : allS w₁ = true) (t2 : allS w₂ = true) (hu : A.units + 1 < cLine)
    (h : Q (.bool ((v₁.map strOf == w₁.map strOf) && (v₂.map strOf == w₂.map strOf))) s) : wpAny (model prog w) A (compareOp .Eq (.ref T) (.ref U)) Q E s := by
  refine RcAt.tuples (A := A) hT hU (Nat.lt_of_succ_lt hu) (rc_pairs hT hU n1 n2 l1 l2 m1 m2 s1 s2 t1 t2 hu) prog w E Q ?_
  rw [show ((List.range (min (#[Value.ref a₁, .ref a₂] : Array Value).size (#[Value.ref b₁, .ref b₂] : Array Value).size)).all (fun j => if j = 0 then (v₁.map strOf == w₁.map strOf) else (v₂.map strOf == w₂.map strOf)) && (#[Value.ref a₁, .ref a₂] : Array Value).size == (#[Value.ref b₁, .ref b₂] : Array Value).size) = ((v₁.map strOf == w₁.map strOf) && (v₂.map strOf == w₂.map strOf)) by simp [List.range_succ]]
  exact h
end
end

section
open PySem PySem.W PySem.Calls PySem.Challenge PyProof.Rows PySem.Builtin PySem.Builtin.Str
set_option maxRecDepth 100000
set_option maxHeartbeats 8000000
set_option Elab.async false
set_option linter.unusedVariables false
theorem fill_tk : (KF = KF) ∧ rw_rt0008_01 = rw_rt0008_01 := by
  k_fill
  exact ⟨rfl, rfl⟩
theorem eg_none_none : MeetsSeq.EqGives .none .none true := by
  intro prog w A E s Q h
  unfold eqBool
  refine wpAny_holding ?_
  rw [if_pos (by decide)]
  exact wpAny_bind (wpAny_rule (wpAny_pure h))
theorem eg_str_none (x : Str) (t : Tok) : MeetsSeq.EqGives (.str x t) .none false := by
  intro prog w A E s Q h
  unfold eqBool
  refine wpAny_holding ?_
  rw [if_neg (show ¬ (Value.str x t == Value.none) = true from Bool.false_ne_true)]
  exact wpAny_bind (EqNone.eq_str_none (Q := fun v s => wpAny (model prog w) A (truthOfDropped v) Q E s) (wpAny_truthy_bool h))
theorem eg_bool (a b : Bool) : MeetsSeq.EqGives (.bool a) (.bool b) (a == b) := by
  intro prog w A E s Q h
  unfold eqBool
  refine wpAny_holding ?_
  cases a <;> cases b
  · rw [if_pos (by decide)]; exact wpAny_bind (wpAny_rule (wpAny_pure h))
  · rw [if_neg (by decide)]; exact wpAny_bind (eq_bool (Q := fun v s => wpAny (model prog w) A (truthOfDropped v) Q E s) (wpAny_truthy_bool h))
  · rw [if_neg (by decide)]; exact wpAny_bind (eq_bool (Q := fun v s => wpAny (model prog w) A (truthOfDropped v) Q E s) (wpAny_truthy_bool h))
  · rw [if_pos (by decide)]; exact wpAny_bind (wpAny_rule (wpAny_pure h))
theorem leaveF0 {hb : Heap} {L L' : Addr} {m m' : Str → Option Value} {gar new frs : List (Addr × Obj)} {oL : Obj} {R : Result → Shared → Prop} {v : Value} {s' : Shared} (F' : Fr hb L' s'.heap m') (N' : News hb L' s'.heap (gar ++ (new ++ (L, oL) :: frs))) (hne : ∀ p ∈ new, p.1 ≠ L)
    (k : Fr hb L s'.heap m → News hb L s'.heap (new ++ frs) → R (.ok (.ret v)) s') : LeaveF hb L m oL frs R v s' :=
  ⟨L', m', new, oL.slots, frs, F', fun p hp => N' p (List.mem_append_right _ hp), hne, TI.SameUp.refl _, k⟩
theorem parts_length {vs : List Value} {cs : List Nat} (h : PartsAre vs cs) : vs.length = cs.length := by
  induction h with
  | nil => rfl
  | snoc _ _ ih => rw [List.length_append, List.length_append, ih]; rfl
theorem partV_cases {c : Nat} {v : Value} (h : partV c v) : (c = 42 ∧ v = .none) ∨ (c ≠ 42 ∧ ∃ t, v = .str ⟨#[c]⟩ t) := by
  by_cases hc : c = 42
  · subst hc; exact .inl ⟨rfl, h⟩
  · refine .inr ⟨hc, ?_⟩
    unfold partV at h
    split at h
    · exact absurd rfl hc
    · exact h
theorem parts_get {vs : List Value} {cs : List Nat} (h : PartsAre vs cs) : ∀ {i : Nat} {v : Value}, vs[i]? = some v → ∃ c, cs[i]? = some c ∧ partV c v := by
  induction h with
  | nil => intro i v h; simp at h
  | @snoc vs cs c v h1 h2 ih =>
    intro i v' hv
    have hl := parts_length h1
    rcases Nat.lt_or_ge i vs.length with hi | hi
    · rw [List.getElem?_append_left hi] at hv
      rw [List.getElem?_append_left (by omega)]
      exact ih hv
    · rw [List.getElem?_append_right hi] at hv
      rw [List.getElem?_append_right (by omega), ← hl]
      by_cases h0 : i - vs.length = 0
      · rw [h0] at hv ⊢
        simp at hv ⊢
        exact hv ▸ h2
      · rw [List.getElem?_eq_none (by simp; omega)] at hv
        cases hv
theorem str1_eq (a b : Nat) : ((⟨#[a]⟩ : Str) == ⟨#[b]⟩) = (a == b) := by
  by_cases h : a = b
  · subst h; simp
  · have h2 : ((⟨#[a]⟩ : Str) == ⟨#[b]⟩) = false := by
      rw [beq_eq_false_iff_ne]
      intro q
      injection q with q
      have := congrArg (fun z : Array Nat => z[0]?) q
      simp at this
      exact h this
    rw [h2]
    simp [h]
theorem ne42 {c : Nat} (h : letter c = true) : c ≠ 42 := by rcases letters h with rfl | rfl | rfl | rfl | rfl <;> decide
noncomputable def isN : Value → Bool
  | .none => true
  | _ => false
noncomputable def isF : Value → Bool
  | .bool b => b == false
  | _ => false
noncomputable def allEq : List Nat → List Nat → Bool
  | c :: cs, d :: ds => (c != 42 && c == d) && allEq cs ds
  | _, _ => true
noncomputable def plainV (p : Nat × Nat) : Value := .bool (p.1 != 42 && p.1 == p.2)
theorem plain_eq {ys : List Value} {cs xs : List Nat} (hl : ys.length = min cs.length xs.length) (h : ∀ i, i < ys.length → ∃ y, ys[i]? = some y ∧ ∃ c d, cs[i]? = some c ∧ xs[i]? = some d ∧ y = .bool (c != 42 && c == d)) : ys = (cs.zip xs).map plainV := by
  apply List.ext_getElem?
  intro i
  rcases Nat.lt_or_ge i ys.length with hi | hi
  · obtain ⟨y, e, c, d, h1, h2, rfl⟩ := h i hi
    rw [e, List.getElem?_map, show (cs.zip xs)[i]? = some (c, d) from List.getElem?_zip_eq_some.mpr ⟨h1, h2⟩]
    rfl
  · rw [List.getElem?_eq_none hi, List.getElem?_eq_none (by rw [List.length_map, List.length_zip]; omega)]
theorem zip_take : ∀ (k : Nat) (l r : List Nat), (l.zip r).take k = (l.take k).zip (r.take k)
  | 0, _, _ => by simp
  | k + 1, [], _ => by simp
  | k + 1, _ :: _, [] => by simp
  | k + 1, a :: l, b :: r => by simp [zip_take k l r]
theorem isF_plain (p : Nat × Nat) : isF (plainV p) = !(p.1 != 42 && p.1 == p.2) := by
  unfold isF plainV
  cases (p.1 != 42 && p.1 == p.2) <;> rfl
theorem any_plain : ∀ (cs xs : List Nat), ((cs.zip xs).map plainV).any isF = !allEq cs xs
  | [], _ => by simp [allEq]
  | _ :: _, [] => by simp [allEq]
  | c :: cs, d :: ds => by
    rw [List.zip_cons_cons, List.map_cons, List.any_cons, any_plain cs ds, isF_plain]
    show _ = !((c != 42 && c == d) && allEq cs ds)
    cases (c != 42 && c == d) <;> simp
theorem allEq_eq : ∀ {cs xs : List Nat}, cs.length = xs.length → (∀ c ∈ cs, c ≠ 42) → allEq cs xs = (xs == cs)
  | [], [], _, _ => rfl
  | c :: cs, d :: ds, h, hl => by
    show ((c != 42 && c == d) && allEq cs ds) = _
    rw [allEq_eq (by simpa using h) (fun c hc => hl c (List.mem_cons_of_mem _ hc)), show (c != 42) = true by simpa using hl c List.mem_cons_self, Bool.true_and]
    by_cases e : c = d
    · subst e; simp
    · have e1 : (c == d) = false := by simpa using e
      have e2 : (d == c) = false := by simpa using fun q => e q.symm
      rw [e1, Bool.false_and]
      show false = ((d == c) && (ds == cs))
      rw [e2, Bool.false_and]
theorem eg_plain {cs xs : List Nat} (y : Value) (hy : y ∈ (cs.zip xs).map plainV) : MeetsSeq.EqGives y (.bool false) (isF y) := by
  obtain ⟨p, _, rfl⟩ := List.mem_map.mp hy
  exact eg_bool _ _
theorem isN_some {vs : List Value} {cs : List Nat} (h : PartsAre vs cs) (hm : 42 ∈ cs) : vs.any isN = true := by
  obtain ⟨i, hi, e⟩ := List.mem_iff_getElem.mp hm
  have hl := parts_length h
  obtain ⟨c, hc1, hc⟩ := parts_get h (List.getElem?_eq_getElem (show i < vs.length by omega))
  rw [List.getElem?_eq_getElem hi, e] at hc1
  injection hc1 with hc1
  subst hc1
  refine List.any_eq_true.mpr ⟨_, List.getElem_mem (show i < vs.length by omega), ?_⟩
  rw [show vs[i] = Value.none from hc]
  rfl
theorem eg_part {vs : List Value} {cs : List Nat} (h : PartsAre vs cs) (y : Value) (hy : y ∈ vs) : MeetsSeq.EqGives y .none (isN y) := by
  obtain ⟨i, hi, rfl⟩ := List.mem_iff_getElem.mp hy
  obtain ⟨c, _, hc⟩ := parts_get h (List.getElem?_eq_getElem hi)
  rcases partV_cases hc with ⟨_, e⟩ | ⟨_, t, e⟩
  · rw [e]; exact eg_none_none
  · rw [e]; exact eg_str_none _ _
theorem parts_at {vs : List Value} {cs : List Nat} (h : PartsAre vs cs) {i : Nat} {c : Nat} (hc : cs[i]? = some c) : ∃ v, vs[i]? = some v ∧ partV c v := by
  have hl := parts_length h
  have hi : i < cs.length := by
    rcases Nat.lt_or_ge i cs.length with h | h
    · exact h
    · rw [List.getElem?_eq_none h] at hc; cases hc
  obtain ⟨c', h1, h2⟩ := parts_get h (List.getElem?_eq_getElem (show i < vs.length by omega))
  rw [hc] at h1
  injection h1 with h1
  subst h1
  exact ⟨_, List.getElem?_eq_getElem (show i < vs.length by omega), h2⟩
theorem index_none {prog : Program} {w : World} {A : Around} {E : Value → Shared → Prop} {s : Shared} {D : Addr} {n : Nat} {vs : List Value} {cs a b : List Nat} {Q : Value → Shared → Prop} (hp : PartsAre vs cs) (hcab : cs = a ++ 42 :: b) (hla : ∀ c ∈ a, c ≠ 42) (hsm : a.length ≤ 1000)
    (hl : s.heap.get? D = some (W.listOf vs.toArray n)) (h : Q (.int a.length s.toks) { s with toks := s.toks + 1 }) : wpAny (model prog w) A (call (.builtin "list.index") [.ref D, .none]) Q E s := by
  have hl1 := parts_length hp
  have hlt : a.length < vs.length := by rw [hl1, hcab, List.length_append, List.length_cons]; omega
  refine call_meets PySem.F.slot_list_index ⟨_, hl, rfl⟩ PySem.F.entry_list_index (PySem.F.args_list_index_2 _ _)
    (MeetsSeq.list_index D _ n .none isN (fun y hy => eg_part hp y (by simpa using hy)) a.length (by rw [List.size_toArray]; exact hlt) (by omega) ?_ (fun i hi hlt' => ?_)) ⟨hl, h⟩
  · obtain ⟨v, e, hv⟩ := parts_at hp (i := a.length) (c := 42) (by rw [hcab]; simp)
    rw [List.getElem?_eq_getElem hlt] at e
    injection e with e
    rw [List.getElem_toArray, e, show v = Value.none from hv]
    rfl
  · have hi' : i < vs.length := by simpa using hi
    have hca : cs[i]? = some a[i] := by rw [hcab, List.getElem?_append_left hlt', List.getElem?_eq_getElem hlt']
    obtain ⟨v, e, hv⟩ := parts_at hp hca
    rw [List.getElem?_eq_getElem hi'] at e
    injection e with e
    rw [List.getElem_toArray, e]
    rcases partV_cases hv with ⟨h1, _⟩ | ⟨_, t, rfl⟩
    · exact absurd h1 (hla _ (List.getElem_mem hlt'))
    · rfl
noncomputable def one1 (c : Nat) : Str := ⟨#[c]⟩
theorem one1_inj {c d : Nat} (h : one1 c = one1 d) : c = d := by
  unfold one1 at h
  injection h with h
  have := congrArg (fun z : Array Nat => z[0]?) h
  simpa using this
theorem map_one1_inj : ∀ {l r : List Nat}, l.map one1 = r.map one1 → l = r
  | [], [], _ => rfl
  | a :: l, b :: r, h => by
    rw [List.map_cons, List.map_cons] at h
    injection h with h1 h2
    rw [one1_inj h1, map_one1_inj h2]
theorem one1_beq (l r : List Nat) : (l.map one1 == r.map one1) = (l == r) := by
  by_cases h : l = r
  · subst h; simp
  · rw [beq_eq_false_iff_ne.mpr h, beq_eq_false_iff_ne.mpr fun q => h (map_one1_inj q)]
theorem signs_one (l : List Nat) : signs ⟨l.toArray⟩ = l.map one1 := by
  unfold signs
  rfl
theorem strs_allS {vs : List Value} {ss : List Str} (h : StrsAre vs ss) : allS vs = true := by
  induction h with
  | nil => rfl
  | cons y t _ ih => unfold allS at ih ⊢; rw [List.all_cons, ih]; rfl
theorem strs_map {vs : List Value} {ss : List Str} (h : StrsAre vs ss) : vs.map strOf = ss := by
  induction h with
  | nil => rfl
  | cons y t _ ih => rw [List.map_cons, ih]; rfl
theorem slice_from1 {x : Str} {a : Nat} (h : a ≤ x.length) : Txt.slice x (some (a : Int)) none = ⟨(x.cps.toList.drop a).toArray⟩ := by
  have := eq_of_beq (slice_closes_fromL (x := x) (i := (a : Int)) (b := (x.length : Int)) (by omega) (by omega) rfl)
  rw [this, Int.toNat_natCast, show ((x.length : Int) - (a : Int)).toNat = x.length - a by omega, List.take_of_length_le (by rw [List.length_drop, Array.length_toList]; exact Nat.le_refl _)]
theorem parts_list {vs : List Value} {cs : List Nat} (h : PartsAre vs cs) (hl : ∀ c ∈ cs, letter c = true) : allS vs = true ∧ vs.map strOf = cs.map one1 := by
  induction h with
  | nil => exact ⟨rfl, rfl⟩
  | @snoc vs cs c v h1 h2 ih =>
    obtain ⟨i1, i2⟩ := ih fun c hc => hl c (List.mem_append_left _ hc)
    obtain ⟨t, rfl⟩ := partV_letter h2 (hl c (List.mem_append_right _ List.mem_cons_self))
    refine ⟨?_, ?_⟩
    · rw [allS_app, i1]; rfl
    · rw [List.map_append, List.map_append, i2]; rfl
theorem parts_split {vs : List Value} {cs : List Nat} (h : PartsAre vs cs) : ∀ {l r : List Nat}, cs = l ++ r → PartsAre (vs.take l.length) l ∧ PartsAre (vs.drop l.length) r := by
  induction h with
  | nil =>
    intro l r e
    obtain ⟨rfl, rfl⟩ := List.append_eq_nil_iff.mp e.symm
    exact ⟨.nil, .nil⟩
  | @snoc vs cs c v h1 h2 ih =>
    intro l r e
    have hl := parts_length h1
    rcases List.eq_nil_or_concat r with rfl | ⟨r', d, rfl⟩
    · rw [List.append_nil] at e
      subst e
      rw [List.take_of_length_le (by simp [hl]), List.drop_eq_nil_of_le (by simp [hl])]
      exact ⟨.snoc h1 h2, .nil⟩
    · rw [List.concat_eq_append, ← List.append_assoc] at e
      obtain ⟨e1, e2⟩ := List.append_inj' e rfl
      injection e2 with e2
      subst e2
      obtain ⟨a1, a2⟩ := ih e1
      have hle : l.length ≤ vs.length := by rw [hl, e1, List.length_append]; omega
      rw [List.concat_eq_append, List.take_append_of_le_length hle, List.drop_append_of_le_length hle]
      exact ⟨a1, .snoc a2 h2⟩
theorem parts_drop {vs : List Value} {cs a b : List Nat} (h : PartsAre vs cs) (hcab : cs = a ++ 42 :: b) (hlb : ∀ c ∈ b, letter c = true) : allS (vs.drop (a.length + 1)) = true ∧ (vs.drop (a.length + 1)).map strOf = b.map one1 := by
  have e : cs = (a ++ [42]) ++ b := by rw [hcab, List.append_assoc]; rfl
  have := (parts_split h e).2
  rw [List.length_append, List.length_singleton] at this
  exact parts_list this hlb
theorem isN_none {vs : List Value} {cs : List Nat} (h : PartsAre vs cs) (hl : ∀ c ∈ cs, letter c = true) : vs.any isN = false := by
  rw [List.any_eq_false]
  intro y hy
  obtain ⟨i, hi, rfl⟩ := List.mem_iff_getElem.mp hy
  obtain ⟨c, hc1, hc⟩ := parts_get h (List.getElem?_eq_getElem hi)
  have := hl c (List.mem_of_getElem? hc1)
  obtain ⟨t, e⟩ := partV_letter hc this
  rw [e]
  exact Bool.false_ne_true
section
variable {w : World} {A A₀ : Around} {s : Shared} {h₀ base : Heap} {L : Addr} {m mg mb : Str → Option Value} {news : List (Addr × Obj)} {mean : ExcName → Option Value} {env : Env} {outer : List Env} {R : Result → Shared → Prop} {hb : Heap} {new frs : List (Addr × Obj)} {l : List Env}
theorem takes_spec0 (Fs : TI.Frs l frs) (F : Fr hb L s.heap m) (X₀ : Says w hb) (N : News hb L s.heap (new ++ frs)) (T : Top qv (looseW qv loose) mean mg mb hb) (hA : A.frames = some (env :: l)) (hf : env.frame = some L) (hke : env.scope.kind = .function) (hroom : A.depth < recursionLimit) (hH : A.handled = none) (hu : A.units + 64 < cLine)
    (D1 : Addr) (c1 : Nat) (vs : List Value) (cs : List Nat) (x : Str) (t : Tok) (hm : (D1, W.listOf vs.toArray c1) ∈ new) (hp : PartsAre vs cs) (hcs : cs.length ≤ 100) (hx : x.length ≤ 100) (hasc : x.cps.all (· < 128) = true) (hlet : ∀ c ∈ cs, letter c = true)
    (h : ∀ h' tk, Fr hb L h' m → News hb L h' (new ++ frs) → R (.ok (.ret (.bool (x.cps.toList == cs)))) { s with heap := h', toks := tk }) : codeAny (model pw w) A (.call (.ref 174) ⟨[.ref D1, .str x t], []⟩) R s := by
  obtain ⟨A₁, rfl⟩ := unh_of hH
  have X0 := X₀.K
  refine' code_defF (binds := [("parts", .ref D1), ("text", .str x t)]) ?k1 ?k2 ?k3 ?k4 ?k5 ?kF ?kK ?k6 ?k7 ?k8 ?k9 ?kB ?_ ?c2 ?c3 ?c4 ?c5
  case kF => exact hf
  case kK => exact hke
  case k1 => exact Fs
  case k2 => exact F
  case k3 => exact X₀
  case k4 => exact N
  case k5 => exact T
  case k6 => k_is
  case k7 => k_is
  case k8 => exact hroom
  case k9 => exact BindsTo.of_eq rfl
  case c5 => decide
  case kB => exact locs rfl
  case c2 => exact rfl
  case c3 => exact rfl
  case c4 => exact rfl
  clear F N
  intro L' oL h' Fs' hne hLL hnl F' N'
  (try dsimp only)
  (try k_fold)
  change wpAny _ _ (execs (_ :: _) _) _ _ _
  have hvl : vs.length = cs.length := parts_length hp
  walk1
  refine assign_zip (h₀ := hb) (cl := []) (c1 := c1) (vs := vs) (news := new ++ (L, oL) :: frs) (m := fun y => [(Str.ofString "parts", Value.ref D1), (Str.ofString "text", Value.str x t)].reverse.lookup y) (L := L') (tt := t) (tx := x) (fun i y => ∃ c d, cs[i]? = some c ∧ x.cps[i]? = some d ∧ y = .bool (c != 42 && c == d)) (by rfl) (by rfl) (by with_unfolding_all rfl) (by with_unfolding_all rfl) (by decide) (by rfl) (by decide) (by rfl) (by rfl) (by decide) (by rfl) (by rfl) (List.mem_append_left _ hm) (by omega) ?hit ?helt ?rest
  case hit =>
    k_steps
    exact call_zipS (xs := vs.toArray) hasc ⟨_, (N' _ (List.mem_append_left _ hm)).1, rfl, c1, rfl⟩ fun h' a1 a2 a3 a4 a5 a6 a7 => ⟨_, rfl, ⟨_, _, rfl⟩, zsrc_of F' N' a1 a2 a3 a4 a5 a6 a7⟩
  case helt =>
    intro i v₁ c u C m₂ s₃ E' hv hc hn h1 h2
    k_steps
    obtain ⟨c', hc', hpv⟩ := parts_get hp hv
    rcases partV_cases hpv with ⟨rfl, rfl⟩ | ⟨hne42, t', rfl⟩
    · exact EqNone.eq_none_str ⟨⟨_, _, hc', hc, rfl⟩, _, _, rfl, fun b o e => e⟩
    · refine eq_str ⟨⟨_, _, hc', hc, ?_⟩, _, _, rfl, fun b o e => e⟩
      rw [str1_eq, show (c' != 42) = true by simpa using hne42, Bool.true_and]
  case rest =>
    intro D h₂ tk ys F₂ N₂ lD hly hG
    iterate 5 (first | walk1 | (dsimp only; walk1))
    refine SeqInW.notIn_listW isN (fun y hy => eg_part hp y (by simpa using hy)) (PySem.IsL.isList (n := c1) (N₂ _ (.tail _ (List.mem_append_left _ hm))).1) ?_
    rw [show (!vs.toArray.any isN) = true by rw [List.any_toArray, isN_none hp hlet]; rfl]
    k_steps
    refine call_len_list (items := vs.toArray) (PySem.IsL.isList (n := c1) (N₂ _ (.tail _ (List.mem_append_left _ hm))).1) (by rw [List.size_toArray]; omega) ?_
    rw [List.size_toArray, hvl]
    have hx' : (x.length : Int) ≤ 100 := by omega
    have hyq : ys = (cs.zip x.cps.toList).map plainV := plain_eq (by rw [hly, hvl]; exact congrArg (min cs.length) (Array.length_toList (xs := x.cps)).symm) fun i hi => by
      obtain ⟨y, e, c, d, h1, h2, h3⟩ := hG i hi
      exact ⟨y, e, c, d, h1, by rw [Array.getElem?_toList]; exact h2, h3⟩
    k_steps
    · rename_i hlen
      refine SeqInW.notIn_listW isF (items := ys.toArray) (fun y hy => by rw [hyq] at hy; exact eg_plain y (by simpa using hy)) (PySem.IsL.isList (n := ys.length) (N₂ _ (.head _)).1) ?_
      have e1 : (!ys.toArray.any isF) = (x.cps.toList == cs) := by
        have hlen' : cs.length = x.cps.toList.length := by rw [Array.length_toList]; exact Int.ofNat.inj hlen
        rw [List.any_toArray, hyq, any_plain, Bool.not_not, allEq_eq hlen' fun c hc => ne42 (hlet c hc)]
      rw [e1]
      exact leaveF0 (gar := [(D, _)]) F₂ N₂ hne fun a b => h _ _ a b
    · rename_i hlen
      have e1 : ((cs.length : Int) == (x.length : Int)) = (x.cps.toList == cs) := by
        have h1 : ((cs.length : Int) == (x.length : Int)) = false := by simpa using hlen
        have h2 : (x.cps.toList == cs) = false := by
          rw [beq_eq_false_iff_ne]
          intro q
          apply hlen
          have : x.cps.toList.length = cs.length := by rw [q]
          rw [Array.length_toList] at this
          exact congrArg Int.ofNat this.symm
        rw [h1, h2]
      rw [e1]
      exact leaveF0 (gar := [(D, _)]) F₂ N₂ hne fun a b => h _ _ a b
theorem takes_spec1 (Fs : TI.Frs l frs) (F : Fr hb L s.heap m) (X₀ : Says w hb) (N : News hb L s.heap (new ++ frs)) (T : Top qv (looseW qv loose) mean mg mb hb) (hA : A.frames = some (env :: l)) (hf : env.frame = some L) (hke : env.scope.kind = .function) (hroom : A.depth < recursionLimit) (hH : A.handled = none) (hu : A.units + 64 < cLine)
    (D1 : Addr) (c1 : Nat) (vs : List Value) (cs a b : List Nat) (x : Str) (t : Tok) (hm : (D1, W.listOf vs.toArray c1) ∈ new) (hp : PartsAre vs cs) (hcs : cs.length ≤ 100) (hx : x.length ≤ 100) (hasc : x.cps.all (· < 128) = true) (hcab : cs = a ++ 42 :: b) (hla : ∀ c ∈ a, letter c = true) (hlb : ∀ c ∈ b, letter c = true)
    (h : ∀ h' tk, Fr hb L h' m → News hb L h' (new ++ frs) → R (.ok (.ret (.bool (decide (a.length + b.length ≤ x.length) && (x.cps.toList.take a.length == a) && (x.cps.toList.drop (x.length - b.length) == b))))) { s with heap := h', toks := tk }) : codeAny (model pw w) A (.call (.ref 174) ⟨[.ref D1, .str x t], []⟩) R s := by
  obtain ⟨A₁, rfl⟩ := unh_of hH
  have X0 := X₀.K
  refine' code_defF (binds := [("parts", .ref D1), ("text", .str x t)]) ?k1 ?k2 ?k3 ?k4 ?k5 ?kF ?kK ?k6 ?k7 ?k8 ?k9 ?kB ?_ ?c2 ?c3 ?c4 ?c5
  case kF => exact hf
  case kK => exact hke
  case k1 => exact Fs
  case k2 => exact F
  case k3 => exact X₀
  case k4 => exact N
  case k5 => exact T
  case k6 => k_is
  case k7 => k_is
  case k8 => exact hroom
  case k9 => exact BindsTo.of_eq rfl
  case c5 => decide
  case kB => exact locs rfl
  case c2 => exact rfl
  case c3 => exact rfl
  case c4 => exact rfl
  clear F N
  intro L' oL h' Fs' hne hLL hnl F' N'
  (try dsimp only)
  (try k_fold)
  change wpAny _ _ (execs (_ :: _) _) _ _ _
  have hvl : vs.length = cs.length := parts_length hp
  walk1
  refine assign_zip (h₀ := hb) (cl := []) (c1 := c1) (vs := vs) (news := new ++ (L, oL) :: frs) (m := fun y => [(Str.ofString "parts", Value.ref D1), (Str.ofString "text", Value.str x t)].reverse.lookup y) (L := L') (tt := t) (tx := x) (fun i y => ∃ c d, cs[i]? = some c ∧ x.cps[i]? = some d ∧ y = .bool (c != 42 && c == d)) (by rfl) (by rfl) (by with_unfolding_all rfl) (by with_unfolding_all rfl) (by decide) (by rfl) (by decide) (by rfl) (by rfl) (by decide) (by rfl) (by rfl) (List.mem_append_left _ hm) (by omega) ?hit ?helt ?rest
  case hit =>
    k_steps
    exact call_zipS (xs := vs.toArray) hasc ⟨_, (N' _ (List.mem_append_left _ hm)).1, rfl, c1, rfl⟩ fun h' a1 a2 a3 a4 a5 a6 a7 => ⟨_, rfl, ⟨_, _, rfl⟩, zsrc_of F' N' a1 a2 a3 a4 a5 a6 a7⟩
  case helt =>
    intro i v₁ c u C m₂ s₃ E' hv hc hn h1 h2
    k_steps
    obtain ⟨c', hc', hpv⟩ := parts_get hp hv
    rcases partV_cases hpv with ⟨rfl, rfl⟩ | ⟨hne42, t', rfl⟩
    · exact EqNone.eq_none_str ⟨⟨_, _, hc', hc, rfl⟩, _, _, rfl, fun b o e => e⟩
    · refine eq_str ⟨⟨_, _, hc', hc, ?_⟩, _, _, rfl, fun b o e => e⟩
      rw [str1_eq, show (c' != 42) = true by simpa using hne42, Bool.true_and]
  case rest =>
    intro D h₂ tk ys F₂ N₂ lD hly hG
    iterate 5 (first | walk1 | (dsimp only; walk1))
    have hany : vs.toArray.any isN = true := by
      rw [List.any_toArray]
      exact isN_some hp (by rw [hcab]; exact List.mem_append_right _ List.mem_cons_self)
    refine SeqInW.notIn_listW isN (fun y hy => eg_part hp y (by simpa using hy)) (PySem.IsL.isList (n := c1) (N₂ _ (.tail _ (List.mem_append_left _ hm))).1) ?_
    rw [hany]
    k_steps
    have hmD : (D1, W.listOf vs.toArray c1) ∈ (D, W.listOf ys.toArray ys.length) :: (new ++ (L, oL) :: frs) := .tail _ (List.mem_append_left _ hm)
    refine kf_method N₂ hmD PySem.F.slot_list_index PySem.F.type_list_index ?_
    k_steps
    have hcl : cs.length = a.length + 1 + b.length := by rw [hcab, List.length_append, List.length_cons]; omega
    refine index_none hp hcab (fun c hc => ne42 (hla c hc)) (by omega) (N₂ _ hmD).1 ?_
    k_steps
    rename_i h3 F3 N3
    have hvl3 : vs.length = a.length + 1 + b.length := hvl.trans hcl
    refine kmk_slice F3 N3 (its := vs.toArray) (PySem.IsL.isList (n := c1) (N3 _ hmD).1) (lo := some ((a.length + 1 : Nat) : Int)) (hi := none) (by kmk_part) (by kmk_part) (fun D3 h4 F4 N4 l4 => ?_) (by with_unfolding_all rfl) (by intro _; with_unfolding_all rfl) (by rw [List.size_toArray]; exact Nat.le_trans (m := 1000) (by omega) (by decide))
    rw [slicePick_from _ _ (by rw [List.size_toArray]; omega), List.toList_toArray] at N4
    have hes : (vs.drop (a.length + 1)).length = b.length := by rw [List.length_drop]; omega
    generalize hes0 : vs.drop (a.length + 1) = es at hes N4
    k_steps
    rename_i h5 F5 N5
    refine call_len_list (items := es.toArray) (PySem.IsL.isList (n := 0) (N5 _ (.head _)).1) (by rw [List.size_toArray]; omega) ?_
    rw [List.size_toArray, hes]
    have hx' : (x.length : Int) ≤ 100 := by omega
    have hyq : ys = (cs.zip x.cps.toList).map plainV := plain_eq (by rw [hly, hvl]; exact congrArg (min cs.length) (Array.length_toList (xs := x.cps)).symm) fun i hi => by
      obtain ⟨y, e, c, d, h1, h2, h3⟩ := hG i hi
      exact ⟨y, e, c, d, h1, by rw [Array.getElem?_toList]; exact h2, h3⟩
    k_steps
    · rename_i hle h6 F6 N6
      have hle' : a.length + b.length ≤ x.length := by omega
      have hya : a.length ≤ ys.toArray.size := by
        rw [List.size_toArray, hly, show x.cps.size = x.length from rfl]
        omega
      have e1 : (!(slicePick ys.toArray none (some (a.length : Int)) none).any isF) = (x.cps.toList.take a.length == a) := by
        have hlx : a.length = (x.cps.toList.take a.length).length := by
          rw [List.length_take, Array.length_toList (xs := x.cps), show x.cps.size = x.length from rfl]
          omega
        rw [slicePick_upto _ _ hya, List.toList_toArray, List.any_toArray, hyq, ← List.map_take, zip_take, any_plain, Bool.not_not, show cs.take a.length = a by rw [hcab, List.take_left], allEq_eq hlx fun c hc => ne42 (hla c hc)]
      refine SeqInW.notIn_listW isF (fun y hy => ?_) ⟨_, (N6 _ (.head _)).1, rfl, 0, rfl⟩ ?_
      · rw [slicePick_upto _ _ hya, List.toList_toArray] at hy
        have hy' : y ∈ ys.take a.length := by simpa using hy
        have hy2 := List.mem_of_mem_take hy'
        rw [hyq] at hy2
        exact eg_plain y hy2
      rw [e1]
      cases he : (x.cps.toList.take a.length == a) with
      | false =>
        k_steps
        rw [he, Bool.and_false, Bool.false_and] at h
        exact leaveF0 (gar := [(_, _), (D3, _), (D, _)]) F6 N6 hne fun a b => h _ _ a b
      | true =>
        k_steps
        refine call_len_list (items := es.toArray) (PySem.IsL.isList (n := 0) (N6 _ (.tail _ (.head _))).1) (by rw [List.size_toArray]; omega) ?_
        rw [List.size_toArray, hes]
        rw [he, Bool.and_true, show decide (a.length + b.length ≤ x.length) = true by simpa using hle', Bool.true_and] at h
        clear hyq e1 hany hG
        iterate 7 (first | walk1 | (dsimp only; walk1))
        rename_i h7 tk7 zs F7 N7 k7 n7 L7 p7 c7 m7
        have Z := StrsAre.ofCarried c7
        have hesp : allS es = true ∧ es.map strOf = b.map one1 := by rw [← hes0]; exact parts_drop hp hcab hlb
        have hsl := slice_from1 (x := x) (a := x.length - b.length) (Nat.sub_le _ _)
        rw [show ((x.length - b.length : Nat) : Int) = (x.length : Int) - (b.length : Int) by omega] at hsl
        refine cmp_eq_strs L7 (PySem.IsL.isList (n := 0) (N7 _ (.tail _ (.head _))).1) (strs_allS Z) hesp.1 (show A₁.units + 3 < cLine from by have hu' : A₁.units + 64 < cLine := hu; omega) ?_
        rw [strs_map Z, hesp.2, hsl, signs_one, one1_beq]
        exact leaveF0 (gar := [(_, _), (D3, _), (D, _)]) F7 N7 hne fun a b => h _ _ a b
    · rename_i hle
      have hle' : decide (a.length + b.length ≤ x.length) = false := by simpa using (by omega : ¬ a.length + b.length ≤ x.length)
      rw [show decide ((a.length : Int) + (b.length : Int) ≤ (x.length : Int)) = false by simpa using hle]
      rw [hle', Bool.false_and, Bool.false_and] at h
      exact leaveF0 (gar := [(D3, _), (D, _)]) F5 N5 hne fun a b => h _ _ a b
end
end

section
open PySem PySem.W PySem.Calls PySem.Challenge PyProof.Rows
set_option maxRecDepth 100000
set_option maxHeartbeats 1600000
set_option Elab.async false
set_option linter.unusedVariables false
section
variable {w : World} {A : Around} {s : Shared} {hb : Heap} {L : Addr} {m mg mb : Str → Option Value} {new frs : List (Addr × Obj)} {l : List Env} {mean : ExcName → Option Value} {R : Result → Shared → Prop}
open TI
theorem code_defCF {env : Env} {name qual : Str} {params : Arguments} {body : List Stmt} {scope : Scope} {dV kV doc pm cdv ct oc : Value} {an od : Option Addr} {osl : Array (Option Value)} {f : Addr} {args : Args} {binds : List (Str × Value)}
    (Fs : Frs l frs) (F : Fr hb L s.heap m) (X₀ : Says w hb) (N : News hb L s.heap (new ++ frs)) (T : Top qv (looseW qv loose) mean mg mb hb) (hf : env.frame = some L) (hke : env.scope.kind = .function)
    (ho : (KF w.params).lookup f = some ⟨oc, od, .func (fnOf name qual params body scope dV kV doc pm an cdv ct), osl⟩) (hcd : codeIn (KF w.params) cdv qual = true) (hroom : A.depth < recursionLimit)
    (hbind : BindsTo s (fnOf name qual params body scope dV kV doc pm an cdv ct) args binds) (hkind : (binds.all fun y => scope.names.lookup y.1 == some .local || scope.names.lookup y.1 == some .cell) = true)
    (hnd : ((cellsFrom 0 scope.names []).map (·.1)).Nodup)
    (h : ∀ L' oL h₁ tk cells, Frs (env :: l) ((L, oL) :: frs) → (∀ p ∈ new, p.1 ≠ L) → L < L' → (∀ p ∈ new, p.1 < L') → (∀ p ∈ frs, p.1 < L') → Fr hb L' h₁ (bindL (envOfC qual scope L' f cdv).kindOf binds fun _ => none) → News hb L' h₁ (cells ++ (new ++ (L, oL) :: frs)) →
      CellsAre (bindC (envOfC qual scope L' f cdv).kindOf binds fun _ => none) (cellsFrom (L' + 1) scope.names []) cells →
      wpAny (model pw w) (A.deeper (envOfC qual scope L' f cdv)) (execs body (envOfC qual scope L' f cdv))
        (fun fl s' => LeaveF hb L m oL frs R (match fl with | .ret v => v | _ => .none) s')
        (fun e s' => wpAny (model pw w) (A.deeper (envOfC qual scope L' f cdv)) (leaving (envOfC qual scope L' f cdv) e) (fun _ s'' => R (.error e) s'') (fun e' s'' => R (.error e') s'') s')
        { s with heap := h₁, toks := tk })
    (hco : scope.isCoroutine = false) (hgen : scope.isGenerator = false) (hk : scope.kind = .function) : codeAny (model pw w) A (.call (.ref f) args) R s := by
  have X := X₀.K.keeps F.keep
  obtain ⟨oL, es, ep, hL, hLd, hLk, hLf⟩ := F.ns
  have hLt := Heap.lt_size hL
  have hkd : env.scope.kind ≠ .module := by rw [hke]; decide
  refine codeAny_call_function hroom (X _ _ ho) rfl hco hgen rfl (codeRec_of X hcd) (hbind _ _ _ _ ?_)
  refine wpAny_newFunctionEnv_cells hk (kindsX hkind _) fun env' he s' x => ?_
  subst he
  refine ⟨(T.nolimit.keeps F.keep).keeps x.toInCall.keep, codeAny_func ?_⟩
  obtain ⟨h₁, tk, rfl, _⟩ := x.done
  have up := x.toInCall.keep
  obtain ⟨cells, NC, Y⟩ := Cl.news (h₀ := s.heap) (Nat.le_refl _) fun n c hm => ⟨x.cell n c (lookup_of_mem_nodup (cellsFrom_names scope.names 0 (s.heap.objs.size + 1) [] [] rfl ▸ hnd) hm), x.above n c hm⟩
  have N' : News hb s.heap.objs.size h₁ (cells ++ (new ++ (L, oL) :: frs)) := fun p hp => by
    rcases List.mem_append.mp hp with hp | hp
    · refine ⟨(NC p hp).1, (NC p hp).2.1, ?_⟩
      cases q : hb.get? p.1 with
      | none => rfl
      | some o => have := F.keep _ _ q; rw [(NC p hp).2.2] at this; cases this
    · rcases List.mem_append.mp hp with hp | hp
      · obtain ⟨h1, h2, h3⟩ := N p (List.mem_append_left _ hp)
        exact ⟨up _ _ h1, Nat.ne_of_lt (Heap.lt_size h1), h3⟩
      · rcases List.mem_cons.mp hp with rfl | hp
        · exact ⟨up _ _ hL, Nat.ne_of_lt hLt, Heap.get?_none_of_le F.above⟩
        · obtain ⟨h1, h2, h3⟩ := N p (List.mem_append_right _ hp)
          exact ⟨up _ _ h1, Nat.ne_of_lt (Heap.lt_size h1), h3⟩
  refine wpAny_mono (h s.heap.objs.size oL h₁ tk cells ⟨hkd, hf, ⟨es, ep, hLd⟩, Fs⟩ (fun p hp => (N p (List.mem_append_left _ hp)).2.1) hLt (fun p hp => Heap.lt_size (N p (List.mem_append_left _ hp)).1) (fun p hp => Heap.lt_size (N p (List.mem_append_right _ hp)).1)
    ⟨x.toInCall.ns, fun b o e => up b o (F.keep b o e), Nat.le_trans F.above (Nat.le_of_lt hLt)⟩ N' Y) (fun fl s' x => ?_) fun _ _ x => x
  obtain ⟨L', m', new', sl, frs', F', N'', hne, SU, k⟩ := x
  have hL' : s'.heap.get? L = some { oL with slots := sl } := (N'' _ (List.mem_append_right _ List.mem_cons_self)).1
  refine k ⟨⟨_, es, ep, hL', hLd, hLk, hLf⟩, F'.keep, F.above⟩ fun p hp => ?_
  rcases List.mem_append.mp hp with hp | hp
  · obtain ⟨x1, _, x3⟩ := N'' p (List.mem_append_left _ hp)
    exact ⟨x1, hne p hp, x3⟩
  · obtain ⟨x1, _, x3⟩ := N'' p (List.mem_append_right _ (List.mem_cons_of_mem _ hp))
    obtain ⟨q, hq, e⟩ := SU.fwd p hp
    exact ⟨x1, by rw [e]; exact (N q (List.mem_append_right _ hq)).2.1, x3⟩
end
end

section
open PySem PySem.Spec PySem.W PySem.Calls PySem.Challenge PyProof.Rows PyProof.Rows.LCg PyProof.Rows.LCt
set_option maxRecDepth 100000
set_option maxHeartbeats 1600000
set_option Elab.async false
set_option linter.unusedVariables false
section
variable {prog : Program} {w : World} {A : Around} {E : Value → Shared → Prop} {s : Shared} {h₀ : Heap} {L : Addr} {m : Str → Option Value} {env : Env}
/-- the test of one turn -/
noncomputable def TurnT (prog : Program) (w : World) (A : Around) (h₀ : Heap) (L : Addr) (m : Str → Option Value) (env : Env) (ct : Expr) (x : Str) (scope : Scope) (cl : List (Str × Addr)) (s : Shared) (news : List (Addr × Obj)) (vs : List Value) (Pb : Value → Bool) : Prop :=
  ∀ v, v ∈ vs → ∀ I oI C oC D m₂ h tk ys (E' : Value → Shared → Prop), NsObj oC m₂ → m₂ x = some v → Fr h₀ L h m → News h₀ L h ((I, oI) :: (C, oC) :: (D, lst ys) :: news) → Off3 I C D news →
    wpAny (model prog w) A (isTrue ct (compEnvC scope cl C env) (eval ct (compEnvC scope cl C env))) (fun ok s' => ok = Pb v ∧ ∃ h' tk', s' = { s with heap := h', toks := tk' } ∧ Fr h₀ L h' m ∧ News h₀ L h' ((I, oI) :: (C, oC) :: (D, lst ys) :: news)) E' { s with heap := h, toks := tk }
noncomputable def TurnE (prog : Program) (w : World) (A : Around) (h₀ : Heap) (L : Addr) (m : Str → Option Value) (env : Env) (elt : Expr) (x : Str) (scope : Scope) (cl : List (Str × Addr)) (s : Shared) (news : List (Addr × Obj)) : Prop :=
  ∀ v I oI C oC D m₂ h tk ys (E' : Value → Shared → Prop), NsObj oC m₂ → m₂ x = some v → Fr h₀ L h m → News h₀ L h ((I, oI) :: (C, oC) :: (D, lst ys) :: news) →
    wpAny (model prog w) A (eval elt (compEnvC scope cl C env)) (fun y s' => y = v ∧ ∃ h' tk', s' = { s with heap := h', toks := tk' } ∧ Fr h₀ L h' m ∧ News h₀ L h' ((I, oI) :: (C, oC) :: (D, lst ys) :: news)) E' { s with heap := h, toks := tk }
theorem rest_filter {ct elt : Expr} {x : Str} {scope : Scope} {cl : List (Str × Addr)} {S : List (Addr × Obj) → Prop} {Fin : List Value → List (Addr × Obj) → Prop} {vs : List Value} {Pb : Value → Bool} {news : List (Addr × Obj)} (hS : S news)
    (turn : TurnT prog w A h₀ L m env ct x scope cl s news vs Pb) (helt : TurnE prog w A h₀ L m env elt x scope cl s news) :
    ∀ (k i : Nat) (ys : List Value), i + k = vs.length → Fin (ys ++ (vs.drop i).filter Pb) news → CompRestT prog w A h₀ L m env ct elt x scope cl s S (fun i v => vs.toArray[i]? = some v) Fin k i ys news
  | 0, i, ys, hik, hF => by
    rw [List.drop_eq_nil_of_le (by omega), List.filter_nil, List.append_nil] at hF
    exact hF
  | k + 1, i, ys, hik, hF => by
    refine CompRestT.succ fun v I oI C oC D m₂ h tk E' hv hC hx F N off ne => ?_
    have hlt : i < vs.length := by omega
    have hv' : vs[i] = v := by
      have : vs[i]? = some v := by simpa using hv
      rw [List.getElem?_eq_getElem hlt] at this
      exact Option.some.inj this
    rw [List.drop_eq_getElem_cons hlt, hv'] at hF
    refine wpAny_mono (turn v (hv' ▸ List.getElem_mem hlt) I oI C oC D m₂ h tk ys E' hC hx F N off) (fun ok s' q => ?_) fun _ _ e => e
    obtain ⟨rfl, h', tk', rfl, F', N'⟩ := q
    cases hp : Pb v with
    | true =>
      rw [if_pos rfl]
      refine wpAny_mono (helt v I oI C oC D m₂ h' tk' ys E' hC hx F' N') (fun y s'' q => ?_) fun _ _ e => e
      obtain ⟨rfl, h'', tk'', rfl, F'', N''⟩ := q
      refine CompEnd.intro F'' N'' news (fun p hp => hp) off hS (rest_filter hS turn helt k (i + 1) (ys ++ [_]) (by omega) ?_)
      rw [List.filter_cons_of_pos hp] at hF
      rw [List.append_assoc]
      exact hF
    | false =>
      rw [if_neg Bool.false_ne_true]
      refine CompEnd.intro F' N' news (fun p hp => hp) off hS (rest_filter hS turn helt k (i + 1) ys (by omega) ?_)
      rw [List.filter_cons_of_neg (by rw [hp]; exact Bool.false_ne_true)] at hF
      exact hF
/-- what the iterated name gives -/
noncomputable def SrcIs (h₀ : Heap) (L : Addr) (m : Str → Option Value) (news : List (Addr × Obj)) (Dt : Addr) (s : Shared) (v : Value) (s' : Shared) : Prop :=
  v = .ref Dt ∧ ∃ h' tk', s' = { s with heap := h', toks := tk' } ∧ Fr h₀ L h' m ∧ News h₀ L h' news
theorem src_filter {ct elt : Expr} {x : Str} {scope : Scope} {cl : List (Str × Addr)} {Fin : Shared → List Value → List (Addr × Obj) → Prop} {vs : List Value} {Pb : Value → Bool} {news : List (Addr × Obj)} {Dt : Addr} {c : Nat} {v : Value} {s' : Shared} (hh : A.handled = none) (hm : (Dt, W.listOf vs.toArray c) ∈ news) (hsz : vs.length ≤ 1000)
    (turn : TurnT prog w A h₀ L m env ct x scope cl s news vs Pb) (helt : TurnE prog w A h₀ L m env elt x scope cl s news) (hs : SrcIs h₀ L m news Dt s v s') (hF : ∀ g tk, Fin { s with heap := g, toks := tk } (vs.filter Pb) news) :
    CompSrcT prog w A h₀ L m env ct elt x scope cl Fin v s' := by
  obtain ⟨rfl, h', tk', rfl, F, N⟩ := hs
  refine CompSrcT.ledger hh F N hm (by rw [List.size_toArray]; exact Nat.le_trans hsz (by decide)) fun g => ?_
  rw [List.size_toArray]
  refine rest_filter (.inr ⟨_, hm, rfl, c, rfl⟩) (fun v hv I oI C oC D m₂ h tk ys E' a1 a2 a3 a4 a5 => ?_) (fun v I oI C oC D m₂ h tk ys E' a1 a2 a3 a4 => ?_) _ 0 [] (Nat.zero_add _) (by rw [List.nil_append, List.drop_zero]; exact hF g tk')
  · exact turn v hv I oI C oC D m₂ h tk ys E' a1 a2 a3 a4 a5
  · exact helt v I oI C oC D m₂ h tk ys E' a1 a2 a3 a4
end
end

section
open PySem PySem.W PySem.Calls PySem.Challenge PyProof.Rows
set_option maxRecDepth 100000
set_option maxHeartbeats 1600000
set_option Elab.async false
set_option linter.unusedVariables false
noncomputable def isS : Value → Bool
  | .str .. => true
  | _ => false
theorem sIs_str (k x : Str) (t : Tok) : sIs k (.str x t) = (x == k) := by
  unfold sIs
  by_cases h : x = k
  · subst h; simp
  · rw [beq_eq_false_iff_ne.mpr h, beq_eq_false_iff_ne]
    intro q
    apply h
    cases x; cases k
    simp only [Str.mk.injEq]
    exact Array.toList_inj.mp q
noncomputable def cnt (k : Str) (l : List Value) : Nat := l.countP (sIs k)
theorem cnt_cons (k : Str) (v : Value) (l : List Value) : cnt k (v :: l) = cnt k l + (if sIs k v = true then 1 else 0) := by
  unfold cnt
  rw [List.countP_cons]
theorem allS_cons {v : Value} {l : List Value} (h : allS (v :: l) = true) : (∃ x t, v = .str x t) ∧ allS l = true := by
  unfold allS at h ⊢
  rw [List.all_cons, Bool.and_eq_true] at h
  refine ⟨?_, h.2⟩
  cases v with
  | str x t => exact ⟨x, t, rfl⟩
  | _ => cases h.1
theorem allS_filter {l : List Value} {p : Value → Bool} (h : allS l = true) : allS (l.filter p) = true := by
  unfold allS at h ⊢
  rw [List.all_eq_true] at h ⊢
  exact fun x hx => h x (List.mem_filter.mp hx).1
theorem allS_rev {l : List Value} (h : allS l = true) : allS l.reverse = true := by
  unfold allS at h ⊢
  rw [List.all_reverse]
  exact h
theorem cnt_pos {k : Str} {l : List Value} : 0 < cnt k l ↔ l.any (sIs k) = true := by
  unfold cnt
  rw [List.countP_pos_iff, List.any_eq_true]
theorem cnt_erase {k j : Str} : ∀ {l : List Value}, l.any (sIs k) = true → allS l = true → cnt j (l.eraseP (sIs k)) + (if j = k then 1 else 0) = cnt j l
  | v :: l, h, hs => by
    obtain ⟨⟨x, t, rfl⟩, hs'⟩ := allS_cons hs
    cases hk : sIs k (.str x t) with
    | true =>
      rw [List.eraseP_cons_of_pos hk, cnt_cons, sIs_str]
      rw [sIs_str] at hk
      have e := eq_of_beq hk
      subst e
      by_cases hj : j = x
      · subst hj; simp
      · have : ¬ x = j := fun q => hj q.symm
        simp [hj, this]
    | false =>
      rw [List.eraseP_cons_of_neg (by rw [hk]; exact Bool.false_ne_true), cnt_cons, cnt_cons]
      have h' : l.any (sIs k) = true := by rw [List.any_cons, hk, Bool.false_or] at h; exact h
      have := cnt_erase (j := j) h' hs'
      omega
theorem allS_erase {k : Str} {l : List Value} (h : allS l = true) : allS (l.eraseP (sIs k)) = true := by
  unfold allS at h ⊢
  rw [List.all_eq_true] at h ⊢
  exact fun x hx => h x (List.mem_of_mem_eraseP hx)
theorem filter_erase {k : Str} {p : Str → Bool} (hp : p k = true) : ∀ {l : List Value}, allS l = true → (l.eraseP (sIs k)).filter (fun y => !p (strOf y)) = l.filter (fun y => !p (strOf y))
  | [], _ => rfl
  | v :: l, hs => by
    obtain ⟨⟨x, t, rfl⟩, hs'⟩ := allS_cons hs
    cases hk : sIs k (.str x t) with
    | true =>
      rw [List.eraseP_cons_of_pos hk]
      rw [sIs_str] at hk
      have e := eq_of_beq hk
      subst e
      rw [List.filter_cons_of_neg (by show ¬ (!p x) = true; rw [hp]; decide)]
    | false =>
      rw [List.eraseP_cons_of_neg (by rw [hk]; exact Bool.false_ne_true), List.filter_cons, List.filter_cons, filter_erase hp hs']
theorem diff_A {p : Str → Bool} : ∀ (r us ms : List Value), allS r = true → allS us = true → (∀ y ∈ r, p (strOf y) = true) → (∀ k, cnt k r ≤ cnt k us) →
    ∃ us', diffV r us ms = (ms, us') ∧ allS us' = true ∧ us'.filter (fun y => !p (strOf y)) = us.filter (fun y => !p (strOf y)) ∧ ∀ k, cnt k us' + cnt k r = cnt k us
  | [], us, ms, _, hu, _, _ => ⟨us, rfl, hu, rfl, fun k => rfl⟩
  | v :: r, us, ms, hr, hu, hp, hc => by
    obtain ⟨⟨x, t, rfl⟩, hr'⟩ := allS_cons hr
    have hx : us.any (sIs x) = true := cnt_pos.mp (by
      have := hc x
      rw [cnt_cons, sIs_str] at this
      simp at this
      omega)
    obtain ⟨us', e1, e2, e3, e4⟩ := diff_A r (us.eraseP (sIs x)) ms hr' (allS_erase hu) (fun y hy => hp y (List.mem_cons_of_mem _ hy)) (fun k => by
      have h1 := hc k
      have h2 := cnt_erase (j := k) hx hu
      rw [cnt_cons, sIs_str] at h1
      by_cases hk : k = x
      · subst hk; simp at h1 h2; omega
      · have : ¬ x = k := fun q => hk q.symm
        simp [this] at h1
        simp [hk] at h2
        omega)
    refine ⟨us', ?_, e2, ?_, fun k => ?_⟩
    · show (if us.any (sIs x) then _ else _) = _
      rw [if_pos hx]
      exact e1
    · rw [e3]
      exact filter_erase (hp _ List.mem_cons_self) hu
    · have h2 := cnt_erase (j := k) hx hu
      have h4 := e4 k
      rw [cnt_cons, sIs_str]
      by_cases hk : k = x
      · subst hk; simp at h2 ⊢; omega
      · have : ¬ x = k := fun q => hk q.symm
        simp [this]
        simp [hk] at h2
        omega
theorem cnt_rev (k : Str) (l : List Value) : cnt k l.reverse = cnt k l := by
  unfold cnt
  exact (List.reverse_perm l).countP_eq _
theorem cnt_filter {p : Str → Bool} (k : Str) : ∀ {l : List Value}, allS l = true → cnt k (l.filter (fun y => p (strOf y))) = if p k = true then cnt k l else 0
  | [], _ => by simp [cnt]
  | v :: l, hs => by
    obtain ⟨⟨x, t, rfl⟩, hs'⟩ := allS_cons hs
    have ih := cnt_filter (p := p) k hs'
    rw [List.filter_cons]
    show cnt k (if p x = true then _ else _) = _
    by_cases hx : p x = true
    · rw [if_pos hx, cnt_cons, cnt_cons, ih, sIs_str]
      by_cases hk : x = k
      · subst hk; simp [hx]
      · simp [hk]
    · rw [if_neg hx, cnt_cons, ih, sIs_str]
      by_cases hk : x = k
      · subst hk; simp [hx]
      · simp [hk]
theorem diff_1 {p : Str → Bool} {vs : List Value} (hv : allS vs = true) : diffV (vs.filter (fun y => p (strOf y))).reverse vs [] = ([], vs.filter (fun y => !p (strOf y))) := by
  obtain ⟨us', e1, e2, e3, e4⟩ := diff_A (p := p) (vs.filter (fun y => p (strOf y))).reverse vs [] (allS_rev (allS_filter hv)) hv (fun y hy => (List.mem_filter.mp (List.mem_reverse.mp hy)).2) (fun k => by
    rw [cnt_rev, cnt_filter k hv]
    split <;> omega)
  rw [e1]
  congr 1
  rw [← e3]
  symm
  rw [List.filter_eq_self]
  intro y hy
  have h4 := e4 (strOf y)
  rw [cnt_rev, cnt_filter _ hv] at h4
  cases hp : p (strOf y) with
  | false => rfl
  | true =>
    rw [hp, if_pos rfl] at h4
    have hpos : 0 < cnt (strOf y) us' := cnt_pos.mpr (List.any_eq_true.mpr ⟨y, hy, by
      have := List.all_eq_true.mp e2 y hy
      cases y with
      | str x t => rw [sIs_str]; simp [strOf]
      | _ => cases this⟩)
    omega
theorem diff_B {p : Str → Bool} : ∀ (r us ms : List Value), allS r = true → allS us = true → (∀ k, cnt k us = if p k = true then cnt k r else 0) → diffV r us ms = (ms ++ r.filter (fun y => !p (strOf y)), [])
  | [], us, ms, _, hu, hc => by
    have : us = [] := by
      cases us with
      | nil => rfl
      | cons v us =>
        obtain ⟨⟨x, t, rfl⟩, _⟩ := allS_cons hu
        have := hc x
        rw [cnt_cons, sIs_str] at this
        simp [cnt] at this
    subst this
    simp [diffV]
  | v :: r, us, ms, hr, hu, hc => by
    obtain ⟨⟨x, t, rfl⟩, hr'⟩ := allS_cons hr
    show (if us.any (sIs x) then diffV r (us.eraseP (sIs x)) ms else diffV r us (ms ++ [Value.str x t])) = _
    have hcx := hc x
    rw [cnt_cons, sIs_str] at hcx
    simp only [beq_self_eq_true, if_true] at hcx
    by_cases hx : p x = true
    · rw [if_pos hx] at hcx
      have ha : us.any (sIs x) = true := cnt_pos.mp (by omega)
      rw [if_pos ha, List.filter_cons_of_neg (by show ¬ (!p x) = true; rw [hx]; decide)]
      refine diff_B r _ ms hr' (allS_erase hu) fun k => ?_
      have h1 := hc k
      have h2 := cnt_erase (j := k) ha hu
      rw [cnt_cons, sIs_str] at h1
      by_cases hk : k = x
      · subst hk
        simp [hx] at h1 h2 ⊢
        omega
      · have : ¬ x = k := fun q => hk q.symm
        simp [this] at h1
        simp [hk] at h2
        rw [← h1]
        exact h2
    · rw [if_neg hx] at hcx
      have ha : ¬ us.any (sIs x) = true := fun q => by have := cnt_pos.mpr q; omega
      rw [if_neg ha, List.filter_cons_of_pos (by show (!p x) = true; simpa using hx)]
      rw [diff_B r us (ms ++ [Value.str x t]) hr' hu fun k => ?_]
      · rw [List.append_assoc]; rfl
      · have h1 := hc k
        rw [cnt_cons, sIs_str] at h1
        by_cases hk : k = x
        · subst hk
          rw [if_neg hx] at h1 ⊢
          exact h1
        · have : ¬ x = k := fun q => hk q.symm
          simp [this] at h1
          exact h1
theorem diff_2 {p : Str → Bool} {vs : List Value} (hv : allS vs = true) : diffV vs.reverse (vs.filter (fun y => p (strOf y))) [] = ((vs.filter (fun y => !p (strOf y))).reverse, []) := by
  rw [diff_B (p := p) _ _ _ (allS_rev hv) (allS_filter hv) fun k => by rw [cnt_filter k hv, cnt_rev]]
  rw [List.nil_append, List.filter_reverse]
theorem others_eq {p : Str → Bool} {vs : List Value} (hv : allS vs = true) : vs.filter (fun y => !((vs.filter (fun y => p (strOf y))).any (sIs (strOf y)))) = vs.filter (fun y => !p (strOf y)) := by
  apply List.filter_congr
  intro y hy
  congr 1
  have hs := List.all_eq_true.mp hv y hy
  have hc := cnt_filter (p := p) (strOf y) hv
  have hpos : 0 < cnt (strOf y) vs := cnt_pos.mpr (List.any_eq_true.mpr ⟨y, hy, by
    cases y with
    | str x t => rw [sIs_str]; simp [strOf]
    | _ => cases hs⟩)
  cases hp : p (strOf y) with
  | true =>
    rw [hp, if_pos rfl] at hc
    exact cnt_pos.mp (by omega)
  | false =>
    rw [hp, if_neg Bool.false_ne_true] at hc
    cases ha : (vs.filter (fun y => p (strOf y))).any (sIs (strOf y)) with
    | false => rfl
    | true => have := cnt_pos.mpr ha; omega
end

section
open PySem PySem.W PySem.Calls PySem.Challenge PyProof.Rows PySem.Builtin PySem.Builtin.Str
set_option maxRecDepth 100000
set_option maxHeartbeats 1600000
set_option Elab.async false
set_option linter.unusedVariables false
theorem fill_r2 : (KF = KF) ∧ rw_rt0008_01 = rw_rt0008_01 := by
  k_fill
  exact ⟨rfl, rfl⟩
theorem low_ne {c d : Nat} {l : List (Addr × Obj)} (h : AllLt c l) (hc : @LE.le Nat instLENat c d) : ∀ p ∈ l, @Ne Addr p.1 d := fun p hp => by
  have : @LT.lt Nat instLTNat p.1 c := kst_ltOf h p hp
  exact Nat.ne_of_lt (Nat.lt_of_lt_of_le this hc)
local macro_rules | `(tactic| k_all) => `(tactic| exact low_ne (by assumption) (by omega))
theorem ane2 {a b : Nat} (h : a ≠ b) : @Ne Addr a b := h
theorem low_of {new frs frs1 : List (Addr × Obj)} {L L' : Addr} {o : Obj} (h1 : ∀ p ∈ new, p.1 < L') (h2 : L < L') (h3 : ∀ p ∈ frs, p.1 < L') (SU : TI.SameUp frs frs1) : ∀ p ∈ new ++ (L, o) :: frs1, p.1 < L' := fun p hp => by
  rcases List.mem_append.mp hp with hp | hp
  · exact h1 p hp
  · rcases List.mem_cons.mp hp with rfl | hp
    · exact h2
    · obtain ⟨q, hq, e⟩ := SU.fwd p hp
      rw [e]
      exact h3 q hq
noncomputable abbrev takesT (x : Str) (a b : List Nat) : Bool := decide (a.length + b.length ≤ x.length) && (x.cps.toList.take a.length == a) && (x.cps.toList.drop (x.length - b.length) == b)
/-- what the row of parts takes -/
inductive Takes (cs : List Nat) (P : Str → Bool) : Prop
  | plain (h : ∀ c ∈ cs, letter c = true) (e : ∀ y, P y = (y.cps.toList == cs)) : Takes cs P
  | star (a b : List Nat) (h : cs = a ++ 42 :: b) (ha : ∀ c ∈ a, letter c = true) (hb : ∀ c ∈ b, letter c = true) (e : ∀ y, P y = takesT y a b) : Takes cs P
theorem off1_mem {D : Addr} : ∀ {l : List (Addr × Obj)}, LCg.Off1 D l → ∀ p ∈ l, p.1 ≠ D
  | [], _, _, h => nomatch h
  | _ :: _, x, p, h => by
    rcases List.mem_cons.mp h with rfl | h
    · exact x.1
    · exact off1_mem x.2 p h
theorem apart_cons {new frs : List (Addr × Obj)} {D : Addr} {o : Obj} (a : Apart new frs) (h : ∀ q ∈ frs, q.1 ≠ D) : Apart ((D, o) :: new) frs := fun p hp hm => by
  rcases List.mem_cons.mp hp with rfl | hp
  · obtain ⟨q, hq, e⟩ := List.mem_map.mp hm
    exact h q hq e
  · exact a p hp hm
theorem swap2 {α : Type} {a b x : α} {l r : List α} (h : x ∈ (a :: b :: l) ++ r) : x ∈ b :: a :: (l ++ r) := by
  rcases List.mem_cons.mp h with rfl | h
  · exact .tail _ (.head _)
  · rcases List.mem_cons.mp h with rfl | h
    · exact .head _
    · exact .tail _ (.tail _ h)
theorem str_of {vs : List Value} (h : allS vs = true) {y : Value} (hy : y ∈ vs) : ∃ Y ty, y = .str Y ty := by
  have := List.all_eq_true.mp h y hy
  cases y with
  | str Y t => exact ⟨Y, t, rfl⟩
  | _ => cases this
theorem ascii_of {Y : Str} (h : ∀ c ∈ Y.cps.toList, letter c = true) : Y.cps.all (· < 128) = true := by
  rw [Array.all_eq_true_iff_forall_mem]
  intro c hc
  have := h c (Array.mem_toList_iff.mpr hc)
  rcases letters this with rfl | rfl | rfl | rfl | rfl <;> rfl
noncomputable def likelyP (y x : Str) (a b : Nat) (z : Int) : Bool := (Txt.slice y none (some (a : Int)) == Txt.slice x none (some (a : Int))) && (Txt.slice y (some ((y.length : Int) - b)) none == Txt.slice x (some ((a : Int) + z)) none) && decide ((a : Int) + b ≤ (y.length : Int))
section
variable {w : World} {A A₀ : Around} {s : Shared} {h₀ base : Heap} {L : Addr} {m mg mb : Str → Option Value} {news : List (Addr × Obj)} {mean : ExcName → Option Value} {env : Env} {outer : List Env} {R : Result → Shared → Prop} {hb : Heap} {new frs : List (Addr × Obj)} {l : List Env}
theorem right_end {oL : Obj} {L' : Addr} {Q : Flow → Shared → Prop} {E : Value → Shared → Prop} {A₁ : Around} (Fs : TI.Frs (env :: l) ((L, oL) :: frs)) (X₀ : Says w hb) (hap : Apart new frs) (hne : ∀ p ∈ new, p.1 ≠ L) (T : Top qv (looseW qv loose) mean mg mb hb) (hA : (unh A₁).frames = some (env :: l)) (hu : (unh A₁).units + 80 < cLine) (hroom2 : (unh A₁).depth + 1 < recursionLimit) (hroom3 : (unh A₁).depth + 1 + 1 < recursionLimit)
    {Dt D1 D2 D3 : Addr} {ct n1 n3 : Nat} {vs : List Value} {x P S : Str} {t u v tp ts : Tok} {a b : Nat} {c : Bool} {q6 : Obj} {TP : Str → Bool} (hmt : (Dt, W.listOf vs.toArray ct) ∈ new) (hvs : allS vs = true) (hvl : vs.length ≤ 10)
    (F : Fr hb L' s.heap fun z => if z = Str.ofString "likely" then some (Value.ref D2) else if z = Str.ofString "taken" then some (Value.ref D1) else if z = Str.ofString "pattern" then some (Value.str P tp) else if z = Str.ofString "cut" then some (Value.bool c) else if z = Str.ofString "short" then some (Value.str S ts) else bindL (envOfC (Str.ofString "_law_right") (fdS 29) L' 179 (Value.ref 178)).kindOf [(Str.ofString "texts", Value.ref Dt), (Str.ofString "one", Value.str x t), (Str.ofString "front", Value.int a u), (Str.ofString "back", Value.int b v)] (fun x => none) z)
    (N : News hb L' s.heap ((D3, W.listOf (vs.filter (fun y => TP (strOf y))).toArray n3) :: (D1, W.listOf (vs.filter (fun y => TP (strOf y))).toArray n1) :: (L' + 1 + 1 + 1 + 1 + 1 + 1, q6) :: (new ++ (L, oL) :: frs)))
    (d6 : q6.data = Data.cell (some (Value.ref D3))) (aL : AllLt L' (new ++ (L, oL) :: frs)) (o1 : ∀ p ∈ new ++ (L, oL) :: frs, p.1 ≠ D1) (o3 : ∀ p ∈ new ++ (L, oL) :: frs, p.1 ≠ D3)
    (hQ : ∀ h' tk m' oL' frs', TI.SameUp ((L, oL) :: frs) ((L, oL') :: frs') → Fr hb L' h' m' → News hb L' h' (new ++ (L, oL') :: frs') → Q (.ret (.bool true)) { s with heap := h', toks := tk }) :
    wpAny (model pw w) ((unh A₁).deeper (envOfC (Str.ofString "_law_right") (fdS 29) L' 179 (Value.ref 178))) (execs ((fdB 29).drop 8) (envOfC (Str.ofString "_law_right") (fdS 29) L' 179 (Value.ref 178))) Q E s := by
  have X0 := X₀.K
  have hH : (unh A₁).handled = none := rfl
  have htv : allS (vs.filter (fun y => TP (strOf y))) = true := allS_filter hvs
  have htl : (vs.filter (fun y => TP (strOf y))).length ≤ 10 := Nat.le_trans (List.length_filter_le _ _) hvl
  have hoth := others_eq (p := TP) hvs
  have hd1 := diff_1 (p := TP) hvs
  have hd2 := diff_2 (p := TP) hvs
  have hol : (vs.filter (fun y => !TP (strOf y))).length ≤ 10 := Nat.le_trans (List.length_filter_le _ _) hvl
  have hov : allS (vs.filter (fun y => !TP (strOf y))) = true := allS_filter hvs
  generalize vs.filter (fun y => TP (strOf y)) = tv at *
  change wpAny _ _ (execs (_ :: _) _) _ _ _
  walk1
  refine LCt.Assign_ListComp_T (F₀ := F) (by rfl) (by with_unfolding_all rfl) (by with_unfolding_all rfl) (by decide) (by rfl) (by decide) (by rfl) (by rfl) (by rfl) ?_
  walk1
  refine src_filter (vs := vs) (Pb := fun y => !(tv.any (sIs (strOf y)))) (c := ct) rfl (by simp [hmt]) (by omega) ?turn ?helt ⟨rfl, _, _, rfl, F, N⟩ fun g tk D4 h1 tk1 F1 N1 off1 => ?_
  case turn =>
    intro y hy I oI C oC D m₂ h tk ys E' hC hxy F N off
    obtain ⟨Y, ty, rfl⟩ := str_of hvs hy
    k_steps
    refine SeqInW.notIn_listW (sIs Y) (fun z hz => eq_of htv z (by simpa using hz)) (PySem.IsL.isList (n := n3) (N _ (.tail _ (.tail _ (.tail _ (.head _))))).1) ?_
    rw [List.any_toArray]
    exact wpAny_truthy_bool ⟨rfl, h, tk, rfl, F, N⟩
  case helt =>
    intro y I oI C oC D m₂ h tk ys E' hC hxy F N
    k_steps
    · exact F
    · exact N
  rw [hoth] at N1
  generalize hove : vs.filter (fun y => !TP (strOf y)) = ov at *
  have off1' := off1
  simp only [LCg.Off1] at off1'
  dsimp only
  iterate 6 (first | walk1 | (dsimp only; walk1))
  refine cmp_ne_strs (PySem.IsL.isList (n := n1) (N1 _ (.tail _ (.tail _ (.head _)))).1) (PySem.IsL.isList (n := n3) (N1 _ (.tail _ (.head _))).1) htv htv (show A₁.units + 3 < cLine from by have hu' : A₁.units + 80 < cLine := hu; omega) ?_
  rw [show (!(tv.map strOf == tv.map strOf)) = false by simp]
  iterate 14 (first | walk1 | (dsimp only; walk1))
  refine kmk_slice F1 N1 (its := tv.toArray) (PySem.IsL.isList (n := n1) (N1 _ (.tail _ (.tail _ (.head _)))).1) (lo := none) (hi := none) (by kmk_part) (by kmk_part) (fun D5 h5 F5 N5 l5 => ?_) (by with_unfolding_all rfl) (by intro _; with_unfolding_all rfl) (by rw [List.size_toArray]; exact Nat.le_trans htl (by decide))
  rw [slicePick_all] at N5
  iterate 7 (first | walk1 | (dsimp only; walk1))
  refine kmk_slice F5 N5 (its := vs.toArray) (PySem.IsL.isList (n := ct) (N5 _ (.tail _ (.tail _ (.tail _ (.tail _ (.tail _ (List.mem_append_left _ hmt))))))).1) (lo := none) (hi := none) (by kmk_part) (by kmk_part) (fun D6 h6 F6 N6 l6 => ?_) (by with_unfolding_all rfl) (by intro _; with_unfolding_all rfl) (by rw [List.size_toArray]; exact Nat.le_trans hvl (by decide))
  rw [slicePick_all] at N6
  iterate 2 (first | walk1 | (dsimp only; walk1))
  have apG : Apart ((D4, LCg.lst ov) :: (D3, W.listOf tv.toArray n3) :: (D1, W.listOf tv.toArray n1) :: (L' + 1 + 1 + 1 + 1 + 1 + 1, q6) :: new) ((L, oL) :: frs) := by
    have a0 := hap.push (oL := oL) hne
    have off4 := off1_mem off1
    refine apart_cons (apart_cons (apart_cons (apart_cons a0 fun q hq => ?_) fun q hq => o1 q (List.mem_append_right _ hq)) fun q hq => o3 q (List.mem_append_right _ hq)) fun q hq => off4 q (.tail _ (.tail _ (.tail _ (List.mem_append_right _ hq))))
    have : @LT.lt Nat instLTNat q.1 L' := kst_ltOf aL q (List.mem_append_right _ hq)
    exact ane (by omega)
  refine wpAny_call (diff_spec (frs := (L, oL) :: frs) (l := env :: l) (new := (D5, W.listOf tv.toArray 0) :: (D6, W.listOf vs.toArray 0) :: (D4, LCg.lst ov) :: (D3, W.listOf tv.toArray n3) :: (D1, W.listOf tv.toArray n1) :: (L' + 1 + 1 + 1 + 1 + 1 + 1, q6) :: new) Fs F6 X₀ (fun p hp => N6 p (swap2 hp)) (apart_cons (apart_cons apG fun q hq => Nat.ne_of_lt (l6 q (.tail _ (.tail _ (.tail _ (.tail _ (.tail _ (List.mem_append_right _ hq)))))))) fun q hq => Nat.ne_of_lt (l5 q (.tail _ (.tail _ (.tail _ (.tail _ (List.mem_append_right _ hq))))))) T (Around.frames_deeper hA) rfl rfl hroom2 hH D5 D6 0 0 tv vs _ rfl htv hvs (Nat.le_trans htl (by decide)) (Nat.le_trans hvl (by decide)) (Nat.ne_of_gt (l6 _ (.head _))) (fun p hp => Nat.ne_of_lt (l5 p hp)) (fun p hp => Nat.ne_of_lt (l6 p (.tail _ hp))) fun h7 tk7 T1 Dm cm cw frs7 SU7 F7 N7 => ?_)
  rw [hd1] at N7
  obtain ⟨sl8, frs8, rfl, SU8⟩ := up_cons SU7
  have Fs8 := Fs.up SU7
  dsimp only
  iterate 9 (first | walk1 | (dsimp only; walk1))
  rename_i E8 h8a le8 D9 h9 F9 N9 l9
  have hu3 : A₁.units + 3 + 1 < cLine := by have hu' : A₁.units + 80 < cLine := hu; omega
  refine cmp_ne_pairs (v₁ := []) (v₂ := ov) (w₁ := []) (w₂ := ov) ⟨_, (N9 _ (.tail _ (.tail _ (.head _)))).1, rfl, _, rfl⟩ ⟨_, (N9 _ (.head _)).1, rfl, _, rfl⟩ (Nat.ne_of_lt le8.2.1) (Nat.ne_of_gt (l6 _ (.tail _ (.head _)))) (PySem.IsL.isList (n := cm) (N9 _ (.tail _ (.tail _ (.tail _ (.head _))))).1) (PySem.IsL.isList (n := cw) (N9 _ (.tail _ (.tail _ (.tail _ (.tail _ (.head _)))))).1) (PySem.IsL.isList (n := 0) (N9 _ (.tail _ (.head _))).1) ⟨_, (N9 _ (.tail _ (.tail _ (.tail _ (.tail _ (.tail _ (.head _))))))).1, rfl, _, rfl⟩ rfl hov rfl hov hu3 ?_
  rw [show (!(([] : List Value).map strOf == ([] : List Value).map strOf && ov.map strOf == ov.map strOf)) = false by simp]
  have N10 := fun p hp => N9 p (.tail _ (.tail _ (.tail _ (.tail _ (.tail _ hp)))))
  simp only [List.cons_append] at N10
  clear N9
  iterate 19 (first | walk1 | (dsimp only; walk1))
  refine kmk_slice F9 N10 (its := vs.toArray) (PySem.IsL.isList (n := ct) (N10 _ (.tail _ (.tail _ (.tail _ (.tail _ (List.mem_append_left _ hmt)))))).1) (lo := none) (hi := none) (by kmk_part) (by kmk_part) (fun D11 h11 F11 N11 l11 => ?_) (by with_unfolding_all rfl) (by intro _; with_unfolding_all rfl) (by rw [List.size_toArray]; exact Nat.le_trans hvl (by decide))
  rw [slicePick_all] at N11
  iterate 7 (first | walk1 | (dsimp only; walk1))
  refine kmk_slice F11 N11 (its := tv.toArray) (PySem.IsL.isList (n := n1) (N11 _ (.tail _ (.tail _ (.tail _ (.head _))))).1) (lo := none) (hi := none) (by kmk_part) (by kmk_part) (fun D12 h12 F12 N12 l12 => ?_) (by with_unfolding_all rfl) (by intro _; with_unfolding_all rfl) (by rw [List.size_toArray]; exact Nat.le_trans htl (by decide))
  rw [slicePick_all] at N12
  iterate 2 (first | walk1 | (dsimp only; walk1))
  refine wpAny_call (diff_spec (frs := (L, { oL with slots := sl8 }) :: frs8) (l := env :: l) (new := (D11, W.listOf vs.toArray 0) :: (D12, W.listOf tv.toArray 0) :: (D4, LCg.lst ov) :: (D3, W.listOf tv.toArray n3) :: (D1, W.listOf tv.toArray n1) :: (L' + 1 + 1 + 1 + 1 + 1 + 1, q6) :: new) Fs8 F12 X₀ (fun p hp => N12 p (swap2 hp)) (apart_cons (apart_cons (apG.up SU7) fun q hq => Nat.ne_of_lt (l12 q (.tail _ (.tail _ (.tail _ (.tail _ (.tail _ (List.mem_append_right _ hq)))))))) fun q hq => Nat.ne_of_lt (l11 q (.tail _ (.tail _ (.tail _ (.tail _ (List.mem_append_right _ hq))))))) T (Around.frames_deeper hA) rfl rfl hroom2 hH D11 D12 0 0 vs tv _ rfl hvs htv (Nat.le_trans hvl (by decide)) (Nat.le_trans htl (by decide)) (Nat.ne_of_gt (l12 _ (.head _))) (fun p hp => Nat.ne_of_lt (l11 p hp)) (fun p hp => Nat.ne_of_lt (l12 p (.tail _ hp))) fun h13 tk13 T2 Dn cn cx frs13 SU13 F13 N13 => ?_)
  rw [hd2] at N13
  obtain ⟨sl14, frs14, rfl, SU14⟩ := up_cons SU13
  dsimp only
  iterate 11 (first | walk1 | (dsimp only; walk1))
  refine krv_lit F13 N13 (its := ov.toArray) ⟨_, (N13 _ (.tail _ (.tail _ (.tail _ (.head _))))).1, rfl, _, rfl⟩ (IsPart.int _ _) rfl (fun D15 h15 F15 N15 l15 => ?_) (by with_unfolding_all rfl) (by intro _; with_unfolding_all rfl) (by rw [List.size_toArray]; exact Nat.le_trans hol (by decide))
  iterate 6 (first | walk1 | (dsimp only; walk1))
  rename_i E16 h16 le16 D17 h17 F17 N17 l17
  refine cmp_eq_pairs (v₁ := ov.reverse) (v₂ := []) (w₁ := ov.reverse) (w₂ := []) ⟨_, (N17 _ (.tail _ (.tail _ (.tail _ (.head _))))).1, rfl, _, rfl⟩ ⟨_, (N17 _ (.head _)).1, rfl, _, rfl⟩ (Nat.ne_of_lt (l15 _ (.tail _ (.head _)))) (Nat.ne_of_lt le16.2.2.2.1) (PySem.IsL.isList (n := cn) (N17 _ (.tail _ (.tail _ (.tail _ (.tail _ (.head _)))))).1) (PySem.IsL.isList (n := cx) (N17 _ (.tail _ (.tail _ (.tail _ (.tail _ (.tail _ (.head _))))))).1) (PySem.IsL.isList (n := 0) (N17 _ (.tail _ (.tail _ (.head _)))).1) (PySem.IsL.isList (n := 0) (N17 _ (.tail _ (.head _))).1) (allS_rev hov) rfl (allS_rev hov) rfl hu3 ?_
  rw [show (ov.reverse.map strOf == ov.reverse.map strOf && ([] : List Value).map strOf == ([] : List Value).map strOf) = true by simp]
  exact hQ h17 _ _ _ _ (SU7.trans SU13) F17 fun p hp => N17 p (.tail _ (.tail _ (.tail _ (.tail _ (.tail _ (.tail _ (.tail _ (.tail _ (.tail _ (.tail _ hp))))))))))
end
end

section
open PySem PySem.W PySem.Calls PySem.Challenge PyProof.Rows PySem.Builtin PySem.Builtin.Str
set_option maxRecDepth 100000
set_option maxHeartbeats 4000000
set_option Elab.async false
set_option linter.unusedVariables false
theorem fmt_meets (b : Addr) (t : Tok) (a c : Str) (ta tc td : Tok) (d : Int) (ha : a.length ≤ 1000) (hc : c.length ≤ 1000) (h0 : 0 ≤ d) (h1 : d ≤ 1000) :
    ∃ T, T = ((((a ++ Str.ofString "[") ++ Str.ofString (toString d)) ++ Str.ofString " chars]") ++ c) ∧ Meets («str.__mod__» ⟨[.str ⟨#[37, 115, 91, 37, 100, 32, 99, 104, 97, 114, 115, 93, 37, 115]⟩ t, .ref b], []⟩) (fun _ R s => IsTup s.heap b #[.str a ta, .int d td, .str c tc] ∧ ∀ t' k, R (.ok (.ret (.str T t'))) { s with toks := k }) := by
  refine ⟨?T, ?e, ?h⟩
  case h =>
    kpt_run
  case e =>
    rfl
theorem fmt_call {prog : Program} {w : World} {A : Around} {E Q : Value → Shared → Prop} {s : Shared} {h₀ : Heap} {L b : Addr} {news : List (Addr × Obj)} {n : Nat} {t : Tok} {a c : Str} {ta tc td : Tok} {d : Int} (N : News h₀ L s.heap news) (hb : (b, ({ cls := .type "tuple", data := .seq #[.str a ta, .int d td, .str c tc] n } : Obj)) ∈ news) (ha : a.length ≤ 1000) (hc : c.length ≤ 1000) (h0 : 0 ≤ d) (h1 : d ≤ 1000)
    (h : ∀ t' k, Q (.str ((((a ++ Str.ofString "[") ++ Str.ofString (toString d)) ++ Str.ofString " chars]") ++ c) t') { s with toks := k }) : wpAny (model prog w) A (binaryOp .Mod (.str (Str.ofString "%s[%d chars]%s") t) (.ref b)) Q E s := by
  obtain ⟨T, rfl, hM⟩ := fmt_meets b t a c ta tc td d ha hc h0 h1
  exact KPt.mod_tuple N hb (by decide +kernel) hM h
end

section
open PySem PySem.W PySem.Calls PySem.Challenge PyProof.Rows PySem.Builtin PySem.Builtin.Str
set_option maxRecDepth 100000
set_option maxHeartbeats 1600000
set_option Elab.async false
set_option linter.unusedVariables false
theorem fill_sh1 : (KF = KF) ∧ rw_rt0008_01 = rw_rt0008_01 := by
  k_fill
  exact ⟨rfl, rfl⟩
section
variable {w : World} {A A₀ : Around} {s : Shared} {h₀ base : Heap} {L : Addr} {m mg mb : Str → Option Value} {news : List (Addr × Obj)} {mean : ExcName → Option Value} {env : Env} {outer : List Env} {R : Result → Shared → Prop} {hb : Heap} {new frs : List (Addr × Obj)} {l : List Env}
theorem short_spec0 (Fs : TI.Frs l frs) (F : Fr hb L s.heap m) (X₀ : Says w hb) (N : News hb L s.heap (new ++ frs)) (T : Top qv (looseW qv loose) mean mg mb hb) (hA : A.frames = some (env :: l)) (hf : env.frame = some L) (hke : env.scope.kind = .function) (hroom : A.depth < recursionLimit) (hH : A.handled = none)
    (x : Str) (t : Tok) (a b : Nat) (u v : Tok) (hx : x.length ≤ 1000) (hle : x.length ≤ 12 + a + b)
    (h : ∀ h' tk frs', TI.SameUp frs frs' → Fr hb L h' m → News hb L h' (new ++ frs') → R (.ok (.ret (.str x t))) { s with heap := h', toks := tk }) : codeAny (model pw w) A (.call (.ref 148) ⟨[.str x t, .int a u, .int b v], []⟩) R s := by
  have X0 := X₀.K
  refine' code_defF (binds := [("s", .str x t), ("prefixlen", .int a u), ("suffixlen", .int b v)]) ?k1 ?k2 ?k3 ?k4 ?k5 ?kF ?kK ?k6 ?k7 ?k8 ?k9 ?kB ?_ ?c2 ?c3 ?c4 ?c5
  case kF => exact hf
  case kK => exact hke
  case k1 => exact Fs
  case k2 => exact F
  case k3 => exact X₀
  case k4 => exact N
  case k5 => exact T
  case k6 => k_is
  case k7 => k_is
  case k8 => exact hroom
  case k9 => exact BindsTo.of_eq rfl
  case c5 => decide
  case kB => exact locs rfl
  case c2 => exact rfl
  case c3 => exact rfl
  case c4 => exact rfl
  clear F N
  intro L' oL h' Fs' hne hLL hnl F' N'
  (try dsimp only)
  (try k_fold)
  change wpAny _ _ (execs (_ :: _) _) _ _ _
  have b1 : ¬ (12 < (x.length : Int) - a - b) := by omega
  k_steps
  exact leaveF (gar := []) (by assumption) (by assumption) (by assumption) (sl := oL.slots) (TI.SameUp.refl _) fun frs' U a b => h _ _ _ U a b
theorem short_spec1 (Fs : TI.Frs l frs) (F : Fr hb L s.heap m) (X₀ : Says w hb) (N : News hb L s.heap (new ++ frs)) (T : Top qv (looseW qv loose) mean mg mb hb) (hA : A.frames = some (env :: l)) (hf : env.frame = some L) (hke : env.scope.kind = .function) (hroom : A.depth < recursionLimit) (hH : A.handled = none)
    (x : Str) (t : Tok) (a b : Nat) (u v : Tok) (hx : x.length ≤ 1000) (ha : a ≤ 10) (hb2 : b ≤ 10) (hgt : 12 + a + b < x.length)
    (h : ∀ h' tk t' frs', TI.SameUp frs frs' → Fr hb L h' m → News hb L h' (new ++ frs') → R (.ok (.ret (.str ((((Txt.slice x none (some (a : Int)) ++ Str.ofString "[") ++ Str.ofString (toString ((x.length : Int) - a - b))) ++ Str.ofString " chars]") ++ Txt.slice x (some ((x.length : Int) - b)) none) t'))) { s with heap := h', toks := tk }) : codeAny (model pw w) A (.call (.ref 148) ⟨[.str x t, .int a u, .int b v], []⟩) R s := by
  obtain ⟨A₁, rfl⟩ := unh_of hH
  have X0 := X₀.K
  refine' code_defF (binds := [("s", .str x t), ("prefixlen", .int a u), ("suffixlen", .int b v)]) ?k1 ?k2 ?k3 ?k4 ?k5 ?kF ?kK ?k6 ?k7 ?k8 ?k9 ?kB ?_ ?c2 ?c3 ?c4 ?c5
  case kF => exact hf
  case kK => exact hke
  case k1 => exact Fs
  case k2 => exact F
  case k3 => exact X₀
  case k4 => exact N
  case k5 => exact T
  case k6 => k_is
  case k7 => k_is
  case k8 => exact hroom
  case k9 => exact BindsTo.of_eq rfl
  case c5 => decide
  case kB => exact locs rfl
  case c2 => exact rfl
  case c3 => exact rfl
  case c4 => exact rfl
  clear F N
  intro L' oL h' Fs' hne hLL hnl F' N'
  (try dsimp only)
  (try k_fold)
  change wpAny _ _ (execs (_ :: _) _) _ _ _
  have b1 : 12 < (x.length : Int) - a - b := by omega
  iterate 66 (first | (k_unfold; (try dsimp only)) | ((fail_if_success (with_reducible show wpAny _ _ (binaryOp Operator.Mod _ _) _ _ _)); walk1) | ((fail_if_success (with_reducible show wpAny _ _ (binaryOp Operator.Mod _ _) _ _ _)); dsimp only; walk1) | skip)
  rename_i h9 F9 N9 l9
  refine fmt_call N9 (.head _) (by omega) (by omega) (by omega) (by omega) fun t' k => ?_
  k_steps
  exact leaveF (gar := [_]) (by assumption) (by assumption) hne (sl := oL.slots) (TI.SameUp.refl _) fun frs' U a b => h _ _ _ _ U a b
end
end

section
open PySem PySem.W PySem.Calls PySem.Challenge PyProof.Rows PySem.Builtin PySem.Builtin.Str
set_option maxRecDepth 100000
set_option maxHeartbeats 1600000
set_option Elab.async false
set_option linter.unusedVariables false
theorem fill_r1 : (KF = KF) ∧ rw_rt0008_01 = rw_rt0008_01 := by
  k_fill
  exact ⟨rfl, rfl⟩
local macro_rules | `(tactic| k_all) => `(tactic| exact low_ne (by assumption) (by omega))
theorem skip2 {α : Type} {a b x : α} {r : List α} (hx : x ∈ a :: r) : x ∈ a :: b :: r := by
  rcases List.mem_cons.mp hx with rfl | hx
  · exact .head _
  · exact .tail _ (.tail _ hx)
theorem pick3 {α : Type} {a b c d e f g h i j x : α} {r : List α} (hx : x ∈ a :: b :: e :: r) : x ∈ a :: b :: c :: d :: e :: f :: g :: h :: i :: j :: r := by
  rcases List.mem_cons.mp hx with rfl | hx
  · exact .head _
  · rcases List.mem_cons.mp hx with rfl | hx
    · exact .tail _ (.head _)
    · rcases List.mem_cons.mp hx with rfl | hx
      · exact .tail _ (.tail _ (.tail _ (.tail _ (.head _))))
      · exact .tail _ (.tail _ (.tail _ (.tail _ (.tail _ (.tail _ (.tail _ (.tail _ (.tail _ (.tail _ hx)))))))))
section
variable {w : World} {A A₀ : Around} {s : Shared} {h₀ base : Heap} {L : Addr} {m mg mb : Str → Option Value} {news : List (Addr × Obj)} {mean : ExcName → Option Value} {env : Env} {outer : List Env} {R : Result → Shared → Prop} {hb : Heap} {new frs : List (Addr × Obj)} {l : List Env}
theorem right_tail {oL : Obj} {L' : Addr} {Q : Flow → Shared → Prop} {E : Value → Shared → Prop} {A₁ : Around} (Fs : TI.Frs (env :: l) ((L, oL) :: frs)) (X₀ : Says w hb) (hap : Apart new frs) (hne : ∀ p ∈ new, p.1 ≠ L) (T : Top qv (looseW qv loose) mean mg mb hb) (hA : (unh A₁).frames = some (env :: l)) (hu : (unh A₁).units + 80 < cLine) (hroom2 : (unh A₁).depth + 1 < recursionLimit) (hroom3 : (unh A₁).depth + 1 + 1 < recursionLimit)
    {Dt Dp D8 : Addr} {ct pc : Nat} {vs pv : List Value} {x P S : Str} {t u v tp ts tz : Tok} {a b : Nat} {c : Bool} {z : Int} {o8 q1 q2 q3 q4 q5 q6 : Obj} {c6 : Option Value} {cs : List Nat} {TP : Str → Bool} (hmt : (Dt, W.listOf vs.toArray ct) ∈ new) (hvs : allS vs = true) (hvl : vs.length ≤ 10) (htx : ∀ y ∈ vs, (strOf y).length ≤ 24 ∧ ∀ c ∈ (strOf y).cps.toList, letter c = true) (hx : x.length ≤ 24) (ha : a ≤ 3) (hb2 : b ≤ 2) (hcs : cs.length ≤ 100) (hpa : PartsAre pv cs) (hT : Takes cs TP)
    (F : Fr hb L' s.heap fun y => if y = Str.ofString "pattern" then some (Value.str P tp) else if y = Str.ofString "cut" then some (Value.bool c) else if y = Str.ofString "short" then some (Value.str S ts) else bindL (envOfC (Str.ofString "_law_right") (fdS 29) L' 179 (Value.ref 178)).kindOf [(Str.ofString "texts", Value.ref Dt), (Str.ofString "one", Value.str x t), (Str.ofString "front", Value.int a u), (Str.ofString "back", Value.int b v)] (fun x => none) y)
    (N : News hb L' s.heap ((Dp, W.listOf pv.toArray pc) :: (D8, o8) :: (L' + 1 + 1 + 1 + 1 + 1 + 1, q6) :: (L' + 1 + 1 + 1 + 1 + 1, q5) :: (L' + 1 + 1 + 1 + 1, q4) :: (L' + 1 + 1 + 1, q3) :: (L' + 1 + 1, q2) :: (L' + 1, q1) :: (new ++ (L, oL) :: frs)))
    (d6 : q6.data = Data.cell c6) (d5 : q5.data = Data.cell (some (Value.ref Dp))) (d4 : q4.data = Data.cell (some (Value.int z tz))) (d3 : q3.data = Data.cell (some (Value.int b v))) (d2 : q2.data = Data.cell (some (Value.int a u))) (d1 : q1.data = Data.cell (some (Value.str x t)))
    (aL : AllLt L' (new ++ (L, oL) :: frs)) (e1 : @LT.lt Nat instLTNat D8 Dp) (e2 : @LT.lt Nat instLTNat (L' + 1 + 1 + 1 + 1 + 1 + 1) D8) (hz : z = (x.length : Int) - a - b)
    (hc1 : c = true → ∀ y ∈ vs, TP (strOf y) = likelyP (strOf y) x a b z) (hc0 : c = false → ∀ y ∈ vs, TP (strOf y) = (strOf y == x))
    (hQ : ∀ h' tk m' oL' frs', TI.SameUp ((L, oL) :: frs) ((L, oL') :: frs') → Fr hb L' h' m' → News hb L' h' (new ++ (L, oL') :: frs') → Q (.ret (.bool true)) { s with heap := h', toks := tk }) :
    wpAny (model pw w) ((unh A₁).deeper (envOfC (Str.ofString "_law_right") (fdS 29) L' 179 (Value.ref 178))) (execs ((fdB 29).drop 5) (envOfC (Str.ofString "_law_right") (fdS 29) L' 179 (Value.ref 178))) Q E s := by
  have X0 := X₀.K
  have hH : (unh A₁).handled = none := rfl
  change wpAny _ _ (execs (_ :: _) _) _ _ _
  walk1
  refine LCt.Assign_ListComp_T (F₀ := F) (by rfl) (by with_unfolding_all rfl) (by with_unfolding_all rfl) (by decide) (by rfl) (by decide) (by rfl) (by rfl) (by rfl) ?_
  walk1
  refine src_filter (vs := vs) (Pb := fun y => TP (strOf y)) (c := ct) rfl (by simp [hmt]) (by omega) ?turn ?helt ⟨rfl, _, _, rfl, F, N⟩ fun g tk D1 h1 tk1 F1 N1 off1 => ?_
  case turn =>
    intro y hy I oI C oC D m₂ h tk ys E' hC hxy F N off
    obtain ⟨Y, ty, rfl⟩ := str_of hvs hy
    obtain ⟨hY1, hY2⟩ := htx _ hy
    k_steps
    cases hT with
    | plain hpl he =>
      refine wpAny_call (takes_spec0 (new := (I, oI) :: (C, oC) :: (D, LCg.lst ys) :: _ :: _ :: _ :: _ :: _ :: _ :: _ :: _ :: new) Fs F X₀ N T (Around.frames_deeper hA) rfl rfl hroom2 hH (show A₁.units + 3 + 64 < cLine from by have hu' : A₁.units + 80 < cLine := hu; omega) Dp pc pv cs Y ty (by simp) hpa hcs (Nat.le_trans hY1 (by decide)) (ascii_of hY2) hpl fun h2 tk2 F2 N2 => ?_)
      exact wpAny_truthy_bool ⟨(he _).symm, h2, tk2, rfl, F2, N2⟩
    | star a1 b1 h1 h2 h3 he =>
      refine wpAny_call (takes_spec1 (new := (I, oI) :: (C, oC) :: (D, LCg.lst ys) :: _ :: _ :: _ :: _ :: _ :: _ :: _ :: _ :: new) Fs F X₀ N T (Around.frames_deeper hA) rfl rfl hroom2 hH (show A₁.units + 3 + 64 < cLine from by have hu' : A₁.units + 80 < cLine := hu; omega) Dp pc pv cs a1 b1 Y ty (by simp) hpa hcs (Nat.le_trans hY1 (by decide)) (ascii_of hY2) h1 h2 h3 fun h2 tk2 F2 N2 => ?_)
      exact wpAny_truthy_bool ⟨(he _).symm, h2, tk2, rfl, F2, N2⟩
  case helt =>
    intro y I oI C oC D m₂ h tk ys E' hC hxy F N
    k_steps
    · exact F
    · exact N
  have off1' := off1
  simp only [LCg.Off1] at off1'
  dsimp only
  walk1
  refine LCt.Assign_ListComp_T (F₀ := F1) (by rfl) (by with_unfolding_all rfl) (by with_unfolding_all rfl) (by decide) (by rfl) (by decide) (by rfl) (by rfl) (by rfl) ?_
  walk1
  refine src_filter (vs := vs) (Pb := fun y => likelyP (strOf y) x a b z) (c := ct) rfl (by simp [hmt]) (by omega) ?turn2 ?helt2 ⟨rfl, _, _, rfl, F1, N1⟩ fun g2 tk2 D2 h2 tk3 F2 N2 off2 => ?_
  case turn2 =>
    intro y hy I oI C oC D m₂ h tk ys E' hC hxy F N off
    obtain ⟨Y, ty, rfl⟩ := str_of hvs hy
    obtain ⟨hY1, hY2⟩ := htx _ hy
    have hY1' : Y.length ≤ 24 := hY1
    k_steps
    all_goals first | assumption | (show _ = likelyP Y x a b z; unfold likelyP; simp only [beq_iff_eq, beq_eq_false_iff_ne, ne_eq, Bool.and_eq_true, decide_eq_true_eq] at *; simp [*]; done) | (show _ = likelyP Y x a b z; unfold likelyP; simp_all; done) | trace_state
  case helt2 =>
    intro y I oI C oC D m₂ h tk ys E' hC hxy F N
    k_steps
    · exact F
    · exact N
  have off2' := off2
  simp only [LCg.Off1] at off2'
  dsimp only
  cases c with
  | true =>
    have hf := hc1 rfl
    iterate 9 (first | walk1 | (dsimp only; walk1))
    rename_i h5 q5' F5 N5 d5'
    have ef : vs.filter (fun y => likelyP (strOf y) x a b z) = vs.filter (fun y => TP (strOf y)) := List.filter_congr fun y hy => (hf y hy).symm
    rw [ef] at N5
    exact right_end Fs X₀ hap hne T hA hu hroom2 hroom3 hmt hvs hvl F5 (fun p hp => N5 p (pick3 hp)) d5' aL (fun p hp => off1_mem off1 p (.tail _ (.tail _ (.tail _ (.tail _ (.tail _ (.tail _ (.tail _ (.tail _ hp))))))))) (fun p hp => off1_mem off2 p (.tail _ (.tail _ (.tail _ (.tail _ (.tail _ (.tail _ (.tail _ (.tail _ (.tail _ hp)))))))))) hQ
  | false =>
    have hf := hc0 rfl
    iterate 7 (first | walk1 | (dsimp only; walk1))
    refine LCt.ListComp_T (F₀ := F2) (by with_unfolding_all rfl) (by decide) (by rfl) (by decide) (by rfl) ?_
    walk1
    refine src_filter (vs := vs) (Pb := fun y => (strOf y == x)) (c := ct) rfl (by simp [hmt]) (by omega) ?turn3 ?helt3 ⟨rfl, _, _, rfl, F2, N2⟩ fun g3 tk4 D3 h4 tk5 F4 N4 off3 => ?_
    case turn3 =>
      intro y hy I oI C oC D m₂ h tk ys E' hC hxy F N off
      obtain ⟨Y, ty, rfl⟩ := str_of hvs hy
      k_steps
      · exact F
      · exact N
    case helt3 =>
      intro y I oI C oC D m₂ h tk ys E' hC hxy F N
      k_steps
      · exact F
      · exact N
    have off3' := off3
    simp only [LCg.Off1] at off3'
    dsimp only
    iterate 1 (first | walk1 | (dsimp only; walk1))
    rename_i h6 q6' F6 N6 d6'
    have ef : vs.filter (fun y => strOf y == x) = vs.filter (fun y => TP (strOf y)) := List.filter_congr fun y hy => (hf y hy).symm
    rw [ef] at N6
    exact right_end Fs X₀ hap hne T hA hu hroom2 hroom3 hmt hvs hvl F6 (fun p hp => N6 p (skip2 (pick3 hp))) d6' aL (fun p hp => off1_mem off1 p (.tail _ (.tail _ (.tail _ (.tail _ (.tail _ (.tail _ (.tail _ (.tail _ hp))))))))) (fun p hp => off1_mem off3 p (.tail _ (.tail _ (.tail _ (.tail _ (.tail _ (.tail _ (.tail _ (.tail _ (.tail _ (.tail _ hp))))))))))) hQ
end
end

section
open PySem PySem.W PySem.Calls PySem.Challenge PyProof.Rows PySem.Builtin PySem.Builtin.Str
set_option maxRecDepth 100000
set_option maxHeartbeats 1600000
set_option Elab.async false
set_option linter.unusedVariables false
theorem fill_r0 : (KF = KF) ∧ rw_rt0008_01 = rw_rt0008_01 := by
  k_fill
  exact ⟨rfl, rfl⟩
local macro_rules | `(tactic| k_all) => `(tactic| exact low_ne (by assumption) (by omega))
theorem cps_beq (y x : Str) : (y.cps.toList == x.cps.toList) = (y == x) := by
  have := sIs_str x y 0
  exact this
section
variable {w : World} {A A₀ : Around} {s : Shared} {h₀ base : Heap} {L : Addr} {m mg mb : Str → Option Value} {news : List (Addr × Obj)} {mean : ExcName → Option Value} {env : Env} {outer : List Env} {R : Result → Shared → Prop} {hb : Heap} {new frs : List (Addr × Obj)} {l : List Env}
theorem right_spec0 (Fs : TI.Frs l frs) (F : Fr hb L s.heap m) (X₀ : Says w hb) (N : News hb L s.heap (new ++ frs)) (hap : Apart new frs) (T : Top qv (looseW qv loose) mean mg mb hb) (hA : A.frames = some (env :: l)) (hf : env.frame = some L) (hke : env.scope.kind = .function) (hroom : A.depth < recursionLimit) (hH : A.handled = none)(hu : A.units + 80 < cLine) (hroom2 : A.depth + 1 < recursionLimit) (hroom3 : A.depth + 1 + 1 < recursionLimit)
    (Dt : Addr) (ct : Nat) (vs : List Value) (x : Str) (t u v : Tok) (a b : Nat) (hmt : (Dt, W.listOf vs.toArray ct) ∈ new) (hvs : allS vs = true) (hvl : vs.length ≤ 10) (htx : ∀ y ∈ vs, (strOf y).length ≤ 24 ∧ ∀ c ∈ (strOf y).cps.toList, letter c = true) (hx : x.length ≤ 24) (hxl : ∀ c ∈ x.cps.toList, letter c = true) (ha : a ≤ 3) (hb2 : b ≤ 2) (hcut : x.length ≤ 12 + a + b)
    (h : ∀ h' tk frs', TI.SameUp frs frs' → Fr hb L h' m → News hb L h' (new ++ frs') → R (.ok (.ret (.bool true))) { s with heap := h', toks := tk }) : codeAny (model pw w) A (.call (.ref 179) ⟨[.ref Dt, .str x t, .int a u, .int b v], []⟩) R s := by
  obtain ⟨A₁, rfl⟩ := unh_of hH
  have X0 := X₀.K
  refine' code_defCF (binds := [("texts", .ref Dt), ("one", .str x t), ("front", .int a u), ("back", .int b v)]) ?k1 ?k2 ?k3 ?k4 ?k5 ?kF ?kK ?k6 ?k7 ?k8 ?k9 ?kB ?kD ?_ ?c2 ?c3 ?c4
  case kF => exact hf
  case kK => exact hke
  case k1 => exact Fs
  case k2 => exact F
  case k3 => exact X₀
  case k4 => exact N
  case k5 => exact T
  case k6 => k_is
  case k7 => k_is
  case k8 => exact hroom
  case k9 => exact BindsTo.of_eq rfl
  case kB => exact rfl
  case kD => decide +kernel
  case c2 => exact rfl
  case c3 => exact rfl
  case c4 => exact rfl
  clear F N
  intro L' oL h' tk' cells' Fs' hne hLL hnl hnf F' N' Y'
  k_cells Y'
  (try simp only [List.cons_append, List.nil_append] at N')
  (try dsimp only)
  (try k_fold)
  rename_i c6o c5o c4o c3o c2o c1o dc6 dc5 dc4 dc3 dc2 dc1
  k_steps
  refine wpAny_call (short_spec0 (new := _ :: _ :: _ :: _ :: _ :: _ :: new) Fs' (by assumption) X₀ N' T (Around.frames_deeper hA) rfl rfl hroom2 hH x t a b u v (by omega) (by omega) fun h2 tk2 frs2 SU2 F2 N2 => ?_)
  obtain ⟨sl2, frs3, rfl, SU3⟩ := up_cons SU2
  have Fs2 := Fs'.up SU2
  dsimp only
  simp only [List.cons_append] at N2
  have hx' : (x.length : Int) ≤ 24 := by omega
  have hcut' : ¬ (12 : Int) < (x.length : Int) - a - b := by omega
  have aL2 : AllLt L' (new ++ (L, { oL with slots := sl2 }) :: frs3) := allLt_of (low_of hnl hLL hnf SU3)
  k_steps
  · rename_i q
    exact absurd q (by simp)
  refine wpAny_call (transl_spec (new := _ :: _ :: _ :: _ :: _ :: _ :: _ :: new) Fs2 (by assumption) X₀ (by assumption) T (Around.frames_deeper hA) rfl rfl hroom2 hH hroom3 x _ _ (by omega) (fun i hi => .inr (hxl _ (Array.mem_toList_iff.mpr (Array.getElem_mem _)))) fun h4 tk4 Dp pv pc frs4 SU4 hpa F4 N4 l4 => ?_)
  obtain ⟨sl5, frs5, rfl, SU5⟩ := up_cons SU4
  have Fs5 := Fs2.up SU4
  dsimp only
  have aL5 : AllLt L' (new ++ (L, { oL with slots := sl5 }) :: frs5) := allLt_of (low_of hnl hLL hnf (SU3.trans SU5))
  simp only [List.cons_append] at N4 l4
  k_lt l4
  iterate 2 (first | walk1 | (dsimp only; walk1))
  refine right_tail (cs := x.cps.toList) (TP := fun y => (y.cps.toList == x.cps.toList)) Fs5 X₀ (hap.up (SU3.trans SU5)) hne T hA hu hroom2 hroom3 hmt hvs hvl htx hx ha hb2 (by rw [Array.length_toList]; exact Nat.le_trans hx (by decide)) hpa (.plain hxl fun _ => rfl) (by assumption) (by assumption) dc6 (by assumption) (by assumption) dc3 dc2 dc1 aL5 l4.1 (by omega) rfl (fun q => ?_) (fun _ y _ => cps_beq _ _) fun h9 tk9 m9 oL9 frs9 SU9 F9 N9 => ?_
  · exact absurd (of_decide_eq_true q) hcut'
  · obtain ⟨sl10, frs10, e10, SU10⟩ := up_cons SU9
    cases e10
    exact ⟨_, _, new, sl10, _, F9, N9, hne, SU3.trans (SU5.trans SU10), fun a b => h _ _ _ (SU3.trans (SU5.trans SU10)) a b⟩
end
end

section
open PySem PySem.W PySem.Calls PySem.Challenge PyProof.Rows
set_option maxRecDepth 100000
set_option maxHeartbeats 1600000
set_option Elab.async false
set_option linter.unusedVariables false
theorem app_list (a b : Str) : (a ++ b).cps.toList = a.cps.toList ++ b.cps.toList := by
  show (a.cps ++ b.cps).toList = _
  simp
theorem slice_upto1 {x : Str} {b : Nat} (h : b ≤ x.length) : Txt.slice x none (some (b : Int)) = ⟨(x.cps.toList.take b).toArray⟩ := by
  have := eq_of_beq (slice_closes_toL (x := x) (j := (b : Int)) (by omega) (by omega))
  rw [this]
  simp
theorem len_list (x : Str) : x.cps.toList.length = x.length := Array.length_toList
theorem dig_len (d : Int) (h : 12 < d) (h2 : d ≤ 24) : (Str.ofString (toString d)).length ≤ 10 := by
  have : d = 13 ∨ d = 14 ∨ d = 15 ∨ d = 16 ∨ d = 17 ∨ d = 18 ∨ d = 19 ∨ d = 20 ∨ d = 21 ∨ d = 22 ∨ d = 23 ∨ d = 24 := by omega
  rcases this with rfl | rfl | rfl | rfl | rfl | rfl | rfl | rfl | rfl | rfl | rfl | rfl <;> decide +kernel
section
variable {x S : Str} {a b : Nat}
noncomputable def mid (d : Int) : List Nat := (Str.ofString "[").cps.toList ++ (Str.ofString (toString d)).cps.toList ++ (Str.ofString " chars]").cps.toList
theorem mid_mem (d : Int) : 91 ∈ mid d := by
  unfold mid
  rw [show (Str.ofString "[").cps.toList = [91] from rfl]
  simp
theorem mid_len (d : Int) (h : 12 < d) (h2 : d ≤ 24) : (mid d).length ≤ 20 := by
  unfold mid
  rw [List.length_append, List.length_append, len_list (Str.ofString (toString d)), show (Str.ofString "[").cps.toList.length = 1 from rfl, show (Str.ofString " chars]").cps.toList.length = 7 by decide +kernel]
  have := dig_len d h h2
  omega
theorem ss_list (hb : b ≤ x.length) (ha : a ≤ x.length) (d : Int) (hS : ((((Txt.slice x none (some (a : Int)) ++ Str.ofString "[") ++ Str.ofString (toString d)) ++ Str.ofString " chars]") ++ Txt.slice x (some ((x.length : Int) - b)) none) = S) :
    S.cps.toList = x.cps.toList.take a ++ (mid d ++ x.cps.toList.drop (x.length - b)) := by
  subst hS
  have hs := slice_from1 (x := x) (a := x.length - b) (Nat.sub_le _ _)
  rw [show ((x.length - b : Nat) : Int) = (x.length : Int) - (b : Int) by omega] at hs
  rw [hs, slice_upto1 ha]
  rw [app_list, app_list, app_list, app_list]
  unfold mid
  simp only [List.append_assoc]
theorem ss_len (hb : b ≤ x.length) (ha : a ≤ x.length) {d : Int} (h : S.cps.toList = x.cps.toList.take a ++ (mid d ++ x.cps.toList.drop (x.length - b))) : S.length = a + (mid d).length + b := by
  have := congrArg List.length h
  rw [len_list, List.length_append, List.length_append, List.length_take, List.length_drop, len_list] at this
  omega
theorem ss_ne (hxl : ∀ c ∈ x.cps.toList, letter c = true) {d : Int} (h : S.cps.toList = x.cps.toList.take a ++ (mid d ++ x.cps.toList.drop (x.length - b))) : S ≠ x := fun e => by
  subst e
  have : 91 ∈ S.cps.toList := by
    rw [h]
    exact List.mem_append_right _ (List.mem_append_left _ (mid_mem d))
  have := hxl _ this
  revert this
  decide
theorem pat_list (hb : b ≤ x.length) (ha : a ≤ x.length) {d : Int} (h : S.cps.toList = x.cps.toList.take a ++ (mid d ++ x.cps.toList.drop (x.length - b))) :
    (Txt.slice S none (some (a : Int)) ++ Str.ofString "*" ++ Txt.slice S (some ((S.length : Int) - b)) none).cps.toList = x.cps.toList.take a ++ 42 :: x.cps.toList.drop (x.length - b) := by
  have hl := ss_len hb ha h
  have hs := slice_from1 (x := S) (a := S.length - b) (Nat.sub_le _ _)
  rw [show ((S.length - b : Nat) : Int) = (S.length : Int) - (b : Int) by omega] at hs
  rw [hs, slice_upto1 (by omega), app_list, app_list]
  have h1 : (x.cps.toList.take a).length = a := by rw [List.length_take, len_list]; omega
  have h2 : S.cps.toList.take a = x.cps.toList.take a := by rw [h, List.take_append_of_le_length (by omega), List.take_of_length_le (by omega)]
  have h3 : S.cps.toList.drop (S.length - b) = x.cps.toList.drop (x.length - b) := by
    rw [h, ← List.append_assoc, List.drop_append_of_le_length (by rw [List.length_append, h1]; omega), List.drop_eq_nil_of_le (by rw [List.length_append, h1]; omega), List.nil_append]
  rw [h2, h3]
  simp only [List.append_assoc]
  rfl
theorem cps_eq (l : List Nat) (r : List Nat) : ((⟨l.toArray⟩ : Str) == ⟨r.toArray⟩) = (l == r) := by
  by_cases h : l = r
  · subst h; simp
  · rw [beq_eq_false_iff_ne.mpr h, beq_eq_false_iff_ne]
    intro q
    injection q with q
    have := congrArg Array.toList q
    simp at this
    exact h this
theorem takes_likely {y : Str} (hb : b ≤ x.length) (ha : a ≤ x.length) {z : Int} (hz : z = (x.length : Int) - a - b) : takesT y (x.cps.toList.take a) (x.cps.toList.drop (x.length - b)) = likelyP y x a b z := by
  unfold likelyP
  have h1 : (x.cps.toList.take a).length = a := by rw [List.length_take, len_list]; omega
  have h2 : (x.cps.toList.drop (x.length - b)).length = b := by rw [List.length_drop, len_list]; omega
  show (decide ((x.cps.toList.take a).length + (x.cps.toList.drop (x.length - b)).length ≤ y.length) && (y.cps.toList.take (x.cps.toList.take a).length == x.cps.toList.take a) && (y.cps.toList.drop (y.length - (x.cps.toList.drop (x.length - b)).length) == x.cps.toList.drop (x.length - b))) = _
  rw [h1, h2]
  by_cases hy : a + b ≤ y.length
  · have hs := slice_from1 (x := y) (a := y.length - b) (Nat.sub_le _ _)
    rw [show ((y.length - b : Nat) : Int) = (y.length : Int) - (b : Int) by omega] at hs
    have hs2 := slice_from1 (x := x) (a := x.length - b) (Nat.sub_le _ _)
    rw [show ((x.length - b : Nat) : Int) = (a : Int) + z by omega] at hs2
    rw [hs, hs2, slice_upto1 (x := y) (by omega), slice_upto1 ha, cps_eq, cps_eq, decide_eq_true hy, decide_eq_true (by omega : (a : Int) + b ≤ (y.length : Int)), Bool.true_and, Bool.and_true]
  · rw [decide_eq_false hy, decide_eq_false (by omega : ¬ (a : Int) + b ≤ (y.length : Int)), Bool.and_false]
    rfl
end
end

section
open PySem PySem.W PySem.Calls PySem.Challenge PyProof.Rows PySem.Builtin PySem.Builtin.Str
set_option maxRecDepth 100000
set_option maxHeartbeats 1600000
set_option Elab.async false
set_option linter.unusedVariables false
theorem fill_r3 : (KF = KF) ∧ rw_rt0008_01 = rw_rt0008_01 := by
  k_fill
  exact ⟨rfl, rfl⟩
local macro_rules | `(tactic| k_all) => `(tactic| exact low_ne (by assumption) (by omega))
theorem pat_len {P x : Str} {a b : Nat} (h : P.cps.toList = x.cps.toList.take a ++ 42 :: x.cps.toList.drop (x.length - b)) (ha : a ≤ x.length) (hb : b ≤ x.length) : P.length = a + 1 + b := by
  have := congrArg List.length h
  rw [len_list, List.length_append, List.length_cons, List.length_take, List.length_drop, len_list] at this
  omega
theorem pat_ok {P : Str} {A B : List Nat} (h : P.cps.toList = A ++ 42 :: B) (hA : ∀ c ∈ A, letter c = true) (hB : ∀ c ∈ B, letter c = true) : ∀ i (hi : i < P.length), (P.cps[i] = 42 ∧ ∀ j (hj : j < i), letter (P.cps[j]'(Nat.lt_trans hj hi)) = true) ∨ letter P.cps[i] = true := by
  have key : ∀ i (hi : i < P.length), (A ++ 42 :: B)[i]? = some P.cps[i] := fun i hi => by
    rw [← h, List.getElem?_eq_getElem (by rw [len_list]; exact hi), Array.getElem_toList]
    rfl
  have low : ∀ j (hj : j < P.length), j < A.length → letter P.cps[j] = true := fun j hj hlt => by
    have := key j hj
    rw [List.getElem?_append_left hlt] at this
    exact hA _ (List.mem_of_getElem? this)
  intro i hi
  rcases Nat.lt_trichotomy i A.length with h1 | h1 | h1
  · exact .inr (low i hi h1)
  · refine .inl ⟨?_, fun j hj => low j _ (by omega)⟩
    have := key i hi
    rw [List.getElem?_append_right (by omega), show i - A.length = 0 by omega] at this
    exact (Option.some.inj this).symm
  · refine .inr (hB _ (List.mem_of_getElem? (i := i - A.length - 1) ?_))
    have := key i hi
    rw [List.getElem?_append_right (by omega), show i - A.length = (i - A.length - 1) + 1 by omega, List.getElem?_cons_succ] at this
    exact this
section
variable {w : World} {A A₀ : Around} {s : Shared} {h₀ base : Heap} {L : Addr} {m mg mb : Str → Option Value} {news : List (Addr × Obj)} {mean : ExcName → Option Value} {env : Env} {outer : List Env} {R : Result → Shared → Prop} {hb : Heap} {new frs : List (Addr × Obj)} {l : List Env}
theorem right_spec1 (Fs : TI.Frs l frs) (F : Fr hb L s.heap m) (X₀ : Says w hb) (N : News hb L s.heap (new ++ frs)) (hap : Apart new frs) (T : Top qv (looseW qv loose) mean mg mb hb) (hA : A.frames = some (env :: l)) (hf : env.frame = some L) (hke : env.scope.kind = .function) (hroom : A.depth < recursionLimit) (hH : A.handled = none)(hu : A.units + 80 < cLine) (hroom2 : A.depth + 1 < recursionLimit) (hroom3 : A.depth + 1 + 1 < recursionLimit)
    (Dt : Addr) (ct : Nat) (vs : List Value) (x : Str) (t u v : Tok) (a b : Nat) (hmt : (Dt, W.listOf vs.toArray ct) ∈ new) (hvs : allS vs = true) (hvl : vs.length ≤ 10) (htx : ∀ y ∈ vs, (strOf y).length ≤ 24 ∧ ∀ c ∈ (strOf y).cps.toList, letter c = true) (hx : x.length ≤ 24) (hxl : ∀ c ∈ x.cps.toList, letter c = true) (ha : a ≤ 3) (hb2 : b ≤ 2) (hcut : 12 + a + b < x.length)
    (h : ∀ h' tk frs', TI.SameUp frs frs' → Fr hb L h' m → News hb L h' (new ++ frs') → R (.ok (.ret (.bool true))) { s with heap := h', toks := tk }) : codeAny (model pw w) A (.call (.ref 179) ⟨[.ref Dt, .str x t, .int a u, .int b v], []⟩) R s := by
  obtain ⟨A₁, rfl⟩ := unh_of hH
  have X0 := X₀.K
  refine' code_defCF (binds := [("texts", .ref Dt), ("one", .str x t), ("front", .int a u), ("back", .int b v)]) ?k1 ?k2 ?k3 ?k4 ?k5 ?kF ?kK ?k6 ?k7 ?k8 ?k9 ?kB ?kD ?_ ?c2 ?c3 ?c4
  case kF => exact hf
  case kK => exact hke
  case k1 => exact Fs
  case k2 => exact F
  case k3 => exact X₀
  case k4 => exact N
  case k5 => exact T
  case k6 => k_is
  case k7 => k_is
  case k8 => exact hroom
  case k9 => exact BindsTo.of_eq rfl
  case kB => exact rfl
  case kD => decide +kernel
  case c2 => exact rfl
  case c3 => exact rfl
  case c4 => exact rfl
  clear F N
  intro L' oL h' tk' cells' Fs' hne hLL hnl hnf F' N' Y'
  k_cells Y'
  (try simp only [List.cons_append, List.nil_append] at N')
  (try dsimp only)
  (try k_fold)
  rename_i c6o c5o c4o c3o c2o c1o dc6 dc5 dc4 dc3 dc2 dc1
  k_steps
  refine wpAny_call (short_spec1 (new := _ :: _ :: _ :: _ :: _ :: _ :: new) Fs' (by assumption) X₀ N' T (Around.frames_deeper hA) rfl rfl hroom2 hH x t a b u v (by omega) (by omega) (by omega) hcut fun h2 tk2 ts frs2 SU2 F2 N2 => ?_)
  obtain ⟨sl2, frs3, rfl, SU3⟩ := up_cons SU2
  have Fs2 := Fs'.up SU2
  dsimp only
  simp only [List.cons_append] at N2
  have hx' : (x.length : Int) ≤ 24 := by omega
  have hcut' : (12 : Int) < (x.length : Int) - a - b := by omega
  have aL2 : AllLt L' (new ++ (L, { oL with slots := sl2 }) :: frs3) := allLt_of (low_of hnl hLL hnf SU3)
  generalize hS : ((((Txt.slice x none (some (a : Int)) ++ Str.ofString "[") ++ Str.ofString (toString ((x.length : Int) - a - b))) ++ Str.ofString " chars]") ++ Txt.slice x (some ((x.length : Int) - b)) none) = S at *
  have hxa : a ≤ x.length := by omega
  have hxb : b ≤ x.length := by omega
  have hSL := ss_list hxb hxa _ hS
  have hSl0 := ss_len hxb hxa hSL
  have hml := mid_len ((x.length : Int) - a - b) hcut' (by omega)
  have hSl : S.length ≤ 100 := by omega
  have hSx := ss_ne hxl hSL
  have hPL := pat_list hxb hxa hSL
  have hR : Txt.slice x none (some (a : Int)) ++ Str.ofString "[" ++ Str.ofString (toString ((x.length : Int) - a - b)) ++ Str.ofString " chars]" ++ Txt.slice x (some ((a : Int) + ((x.length : Int) - a - b))) none = S := by
    rw [show (a : Int) + ((x.length : Int) - a - b) = (x.length : Int) - b by omega]
    exact hS
  clear hS hSL hSl0 hml
  k_steps
  · rename_i q
    rw [hR] at q
    exact absurd q (by simp)
  · have hAl : ∀ c ∈ x.cps.toList.take a, letter c = true := fun c hc => hxl c (List.mem_of_mem_take hc)
    have hBl : ∀ c ∈ x.cps.toList.drop (x.length - b), letter c = true := fun c hc => hxl c (List.mem_of_mem_drop hc)
    refine wpAny_call (transl_spec (new := _ :: _ :: _ :: _ :: _ :: _ :: _ :: new) Fs2 (by assumption) X₀ (by assumption) T (Around.frames_deeper hA) rfl rfl hroom2 hH hroom3 _ _ _ (by rw [pat_len hPL hxa hxb]; omega) (pat_ok hPL hAl hBl) fun h4 tk4 Dp pv pc frs4 SU4 hpa F4 N4 l4 => ?_)
    obtain ⟨sl5, frs5, rfl, SU5⟩ := up_cons SU4
    have Fs5 := Fs2.up SU4
    dsimp only
    have aL5 : AllLt L' (new ++ (L, { oL with slots := sl5 }) :: frs5) := allLt_of (low_of hnl hLL hnf (SU3.trans SU5))
    simp only [List.cons_append] at N4 l4
    k_lt l4
    iterate 2 (first | walk1 | (dsimp only; walk1))
    rw [hPL] at hpa
    refine right_tail (TP := fun y => takesT y (x.cps.toList.take a) (x.cps.toList.drop (x.length - b))) Fs5 X₀ (hap.up (SU3.trans SU5)) hne T hA hu hroom2 hroom3 hmt hvs hvl htx hx ha hb2 (by rw [← hPL, len_list, pat_len hPL hxa hxb]; omega) hpa (.star _ _ rfl hAl hBl fun _ => rfl) (by assumption) (by assumption) dc6 (by assumption) (by assumption) dc3 dc2 dc1 aL5 l4.1 (by omega) rfl (fun _ y _ => takes_likely hxb hxa rfl) (fun q => ?_) fun h9 tk9 m9 oL9 frs9 SU9 F9 N9 => ?_
    · exact absurd hcut' (of_decide_eq_false q)
    · obtain ⟨sl10, frs10, e10, SU10⟩ := up_cons SU9
      cases e10
      exact ⟨_, _, new, sl10, _, F9, N9, hne, SU3.trans (SU5.trans SU10), fun a b => h _ _ _ (SU3.trans (SU5.trans SU10)) a b⟩
  · rename_i q _ _ _ _
    exact absurd (by assumption : (S != x) = false) (by simp [hSx])
end
end

section
open PySem PySem.W PySem.Calls PySem.Challenge PyProof.Rows
set_option maxRecDepth 100000
set_option maxHeartbeats 1600000
set_option Elab.async false
set_option linter.unusedVariables false
theorem fill_text : (KF = KF) ∧ rw_rt0008_01 = rw_rt0008_01 := by
  k_fill
  exact ⟨rfl, rfl⟩
section
variable {w : World} {A A₀ : Around} {s : Shared} {h₀ base : Heap} {L : Addr} {m mg mb : Str → Option Value} {news : List (Addr × Obj)} {mean : ExcName → Option Value} {env : Env} {outer : List Env} {R : Result → Shared → Prop} {hb : Heap} {new frs : List (Addr × Obj)} {l : List Env}
noncomputable def lawText (x : Int) : Str := (["ab", "aab", "b", ""] : List Str).getD (x.fmod 4).toNat "" ++ Txt.mul (Str.ofString "x") ((x.fdiv 4).fmod 20) ++ (["yz", "z", ""] : List Str).getD ((x.fdiv 80).fmod 3).toNat ""
theorem text_spec (Fs : TI.Frs l frs) (F : Fr hb L s.heap m) (X₀ : Says w hb) (N : News hb L s.heap (new ++ frs)) (T : Top qv (looseW qv loose) mean mg mb hb) (hA : A.frames = some (env :: l)) (hf : env.frame = some L) (hke : env.scope.kind = .function) (hroom : A.depth < recursionLimit) (hH : A.handled = none)
    (x : Int) (t : Tok) (h : ∀ h' tk t' frs', TI.SameUp frs frs' → Fr hb L h' m → News hb L h' (new ++ frs') → R (.ok (.ret (.str (lawText x) t'))) { s with heap := h', toks := tk }) : codeAny (model pw w) A (.call (.ref 162) ⟨[.int x t], []⟩) R s := by
  have X0 := X₀.K
  refine' code_defF (binds := [("x", .int x t)]) ?k1 ?k2 ?k3 ?k4 ?k5 ?kF ?kK ?k6 ?k7 ?k8 ?k9 ?kB ?_ ?c2 ?c3 ?c4 ?c5
  case kF => exact hf
  case kK => exact hke
  case k1 => exact Fs
  case k2 => exact F
  case k3 => exact X₀
  case k4 => exact N
  case k5 => exact T
  case k6 => k_is
  case k7 => k_is
  case k8 => exact hroom
  case k9 => exact BindsTo.of_eq rfl
  case c5 => decide
  case kB => exact locs rfl
  case c2 => exact rfl
  case c3 => exact rfl
  case c4 => exact rfl
  clear F N
  intro L' oL h' Fs' hne hLL hnl F' N'
  (try dsimp only)
  (try k_fold)
  change wpAny _ _ (execs (_ :: _) _) _ _ _
  have b1 : 0 ≤ x.fmod 4 := Int.fmod_nonneg_of_pos _ (by decide)
  have b2 : x.fmod 4 < 4 := Int.fmod_lt_of_pos _ (by decide)
  have b3 : 0 ≤ (x.fdiv 4).fmod 20 := Int.fmod_nonneg_of_pos _ (by decide)
  have b4 : (x.fdiv 4).fmod 20 < 20 := Int.fmod_lt_of_pos _ (by decide)
  have b5 : 0 ≤ (x.fdiv 80).fmod 3 := Int.fmod_nonneg_of_pos _ (by decide)
  have b6 : (x.fdiv 80).fmod 3 < 3 := Int.fmod_lt_of_pos _ (by decide)
  k_steps
  rename_i S1 t1 e1 _ _ _ _ _ _ _ _ _ _ F1 N1 _ S2 t2 e2 _ _ _ _
  rw [← pick e1, ← pick e2]
  exact leaveF (gar := [_, _]) F1 N1 (by assumption) (sl := oL.slots) (TI.SameUp.refl _) fun frs' U a b => h _ _ _ _ U a b
end
end

section
open PySem PySem.Spec PySem.W PySem.Calls PySem.Challenge PyProof.Rows PyProof.Rows.LCg
set_option maxRecDepth 100000
set_option maxHeartbeats 1600000
set_option Elab.async false
set_option linter.unusedVariables false
theorem StrVals.snoc {ys : List Value} {ss : List Str} {x : Str} {t : Tok} (h : StrVals ys ss) : StrVals (ys ++ [.str x t]) (ss ++ [x]) := by
  obtain ⟨h1, h2⟩ := h
  refine ⟨?_, ?_⟩
  · rw [List.map_append, h1]
    rfl
  · rw [List.all_append, h2]
    rfl
theorem StrVals.append {ys zs : List Value} {ss ts : List Str} (h : StrVals ys ss) (k : StrVals zs ts) : StrVals (ys ++ zs) (ss ++ ts) := by
  obtain ⟨h1, h2⟩ := h
  obtain ⟨k1, k2⟩ := k
  refine ⟨?_, ?_⟩
  · rw [List.map_append, h1, k1]
  · rw [List.all_append, h2, k2]
    rfl
theorem StrVals.len {ys : List Value} {ss : List Str} (h : StrVals ys ss) : ss.length = ys.length := by
  rw [← h.1, List.length_map]
theorem StrVals.at {ys : List Value} {ss : List Str} (h : StrVals ys ss) {i : Nat} (hi : i < ys.length) : ∃ t, ys[i]? = some (.str (ss.getD i Str.empty) t) := by
  obtain ⟨h1, h2⟩ := h
  have hv := List.all_eq_true.mp h2 _ (List.getElem_mem hi)
  rw [← h1, List.getElem?_eq_getElem hi, List.getD_eq_getElem?_getD, List.getElem?_map, List.getElem?_eq_getElem hi]
  cases hc : ys[i] with
  | str S t => exact ⟨t, rfl⟩
  | _ => rw [hc] at hv; cases hv
theorem StrVals.pairs : ∀ {ys : List Value} {ss : List Str}, StrVals ys ss → ∃ l : List (Str × Tok), ys = strValues l ∧ l.map (·.1) = ss
  | [], ss, h => ⟨[], rfl, h.1⟩
  | y :: ys, ss, h => by
    obtain ⟨h1, h2⟩ := h
    rw [List.all_cons, Bool.and_eq_true_iff] at h2
    obtain ⟨l, e1, e2⟩ := StrVals.pairs (ys := ys) (ss := ys.map strOf) ⟨rfl, h2.2⟩
    have hv := h2.1
    cases y with
    | str S t => exact ⟨(S, t) :: l, by rw [e1]; rfl, by rw [← h1, List.map_cons, List.map_cons, e2]; rfl⟩
    | _ => cases hv
section
variable {prog : Program} {w : World} {A : Around} {E : Value → Shared → Prop} {s : Shared} {h₀ : Heap} {L : Addr} {m : Str → Option Value} {env : Env}
/-- the element of one turn is a text -/
noncomputable def TurnM (prog : Program) (w : World) (A : Around) (h₀ : Heap) (L : Addr) (m : Str → Option Value) (env : Env) (elt : Expr) (x : Str) (scope : Scope) (cl : List (Str × Addr)) (s : Shared) (news : List (Addr × Obj)) (P : Nat → Value → Prop) (n : Nat) (g : Nat → Str) : Prop :=
  ∀ i v, i < n → P i v → ∀ I oI C oC D m₂ h tk ys (E' : Value → Shared → Prop), NsObj oC m₂ → m₂ x = some v → Fr h₀ L h m → News h₀ L h ((I, oI) :: (C, oC) :: (D, lst ys) :: news) → Off3 I C D news →
    wpAny (model prog w) A (eval elt (compEnvC scope cl C env)) (fun y s' => ∃ t h' tk', y = .str (g i) t ∧ s' = { s with heap := h', toks := tk' } ∧ Fr h₀ L h' m ∧ News h₀ L h' ((I, oI) :: (C, oC) :: (D, lst ys) :: news)) E' { s with heap := h, toks := tk }
theorem rest_map {elt : Expr} {x : Str} {scope : Scope} {cl : List (Str × Addr)} {S : List (Addr × Obj) → Prop} {Fin : List Value → List (Addr × Obj) → Prop} {P : Nat → Value → Prop} {n : Nat} {g : Nat → Str} {news : List (Addr × Obj)} (hS : S news)
    (turn : TurnM prog w A h₀ L m env elt x scope cl s news P n g) (hF : ∀ ys, StrVals ys ((List.range n).map g) → Fin ys news) :
    ∀ (k i : Nat) (ys : List Value), i + k = n → StrVals ys ((List.range i).map g) → CompRest prog w A h₀ L m env elt x scope cl s S P Fin k i ys news
  | 0, i, ys, hik, hy => by
    obtain rfl : i = n := by omega
    exact hF ys hy
  | k + 1, i, ys, hik, hy => by
    refine CompRest.succ fun v I oI C oC D m₂ h tk E' hv hC hx F N off ne => ?_
    refine wpAny_mono (turn i v (by omega) hv I oI C oC D m₂ h tk ys E' hC hx F N off) (fun y s' q => ?_) fun _ _ e => e
    obtain ⟨t, h', tk', rfl, rfl, F', N'⟩ := q
    refine CompEnd.intro F' N' news (fun p hp => hp) off hS (rest_map hS turn hF k (i + 1) (ys ++ [_]) (by omega) ?_)
    rw [List.range_succ, List.map_append]
    exact hy.snoc
end
end

section
open PySem PySem.W PySem.Calls PySem.Challenge PyProof.Rows PySem.Builtin PySem.Builtin.Str
set_option maxRecDepth 100000
set_option maxHeartbeats 1600000
set_option Elab.async false
set_option linter.unusedVariables false
theorem fill_lend : (KF = KF) ∧ rw_rt0008_01 = rw_rt0008_01 := by
  k_fill
  exact ⟨rfl, rfl⟩
section
variable {w : World} {A A₀ : Around} {s : Shared} {h₀ base : Heap} {L : Addr} {m mg mb : Str → Option Value} {news : List (Addr × Obj)} {mean : ExcName → Option Value} {env : Env} {outer : List Env} {R : Result → Shared → Prop} {hb : Heap} {new frs : List (Addr × Obj)} {l : List Env}
theorem up_nil {frs : List (Addr × Obj)} (h : TI.SameUp [] frs) : frs = [] := by
  cases frs with
  | nil => rfl
  | cons a b => exact h.elim
theorem allS_of {vs : List Value} {ss : List Str} (h : StrVals vs ss) : allS vs = true := h.2
theorem law_end {L fa : Addr} {cd : Value} {rv y9 ws : List Value} {ts : List Str} {c17 a b : Nat} {D17 D8 D1 : Addr} {u v : Tok} {c1 c2 c3 c4 : Obj} {Q : Flow → Shared → Prop} {E : Value → Shared → Prop} {m : Str → Option Value}
    (X₀ : Says w hb) (T : Top qv (looseW qv loose) mean mg mb hb)
    (F : Fr hb L s.heap m)
    (N : News hb L s.heap [(D17, W.listOf rv.toArray c17), (D8, W.listOf y9.toArray 0), (D1, W.listOf ws.toArray 0), (L + 1 + 1 + 1 + 1, c4), (L + 1 + 1 + 1, c3), (L + 1 + 1, c2), (L + 1, c1)])
    (d4 : c4.data = .cell (some (.int b v))) (d3 : c3.data = .cell (some (.int a u))) (d2 : c2.data = .cell (some (.ref D17))) (d1 : c1.data = .cell (some (.ref D8)))
    (hrv : StrVals rv ts) (hy : StrVals y9 ts) (htb : ∀ y ∈ ts, y.length ≤ 24 ∧ ∀ c ∈ y.cps.toList, letter c = true) (hyl : y9.length ≤ 8) (ha : a ≤ 3) (hb2 : b ≤ 2)
    (hQ : ∀ h' tk m', Fr hb L h' m' → Q (.ret (.bool true)) { s with heap := h', toks := tk }) :
    wpAny (model pw w) (callerA.deeper (envOfC (Str.ofString "law") (fdS 30) L fa cd)) (execs ((fdB 30).drop 4) (envOfC (Str.ofString "law") (fdS 30) L fa cd)) Q E s := by
  have X0 := X₀.K
  have Fs : TI.Frs [] [] := trivial
  have hA : callerA.frames = some [] := rfl
  have hroom0 : (callerA.deeper (envOfC (Str.ofString "law") (fdS 30) L fa cd)).depth < recursionLimit := by
    show 1 + claimMargin + 1 < recursionLimit
    decide +kernel
  have hroom1 : (callerA.deeper (envOfC (Str.ofString "law") (fdS 30) L fa cd)).depth + 1 < recursionLimit := by
    show 1 + claimMargin + 1 + 1 < recursionLimit
    decide +kernel
  have hroom2 : (callerA.deeper (envOfC (Str.ofString "law") (fdS 30) L fa cd)).depth + 1 + 1 < recursionLimit := by
    show 1 + claimMargin + 1 + 1 + 1 < recursionLimit
    decide +kernel
  have hroom3 : (callerA.deeper (envOfC (Str.ofString "law") (fdS 30) L fa cd)).depth + 1 + 1 + 1 < recursionLimit := by
    show 1 + claimMargin + 1 + 1 + 1 + 1 < recursionLimit
    decide +kernel
  have hrl : rv.length ≤ 8 := by rw [← hrv.len, hy.len]; exact hyl
  have htv : ∀ z ∈ rv, (strOf z).length ≤ 24 ∧ ∀ c ∈ (strOf z).cps.toList, letter c = true := fun z hz => htb _ (hrv.1 ▸ List.mem_map_of_mem hz)
  change wpAny _ _ (execs (_ :: _) _) _ _ _
  iterate 6 (first | walk1 | (dsimp only; walk1))
  refine cmp_eq_strs (PySem.IsL.isList (n := _) (N _ (.head _)).1) (PySem.IsL.isList (n := _) (N _ (.tail _ (.head _))).1) hrv.2 hy.2 (by show 4 + 3 < cLine; decide +kernel) ?_
  rw [show (rv.map strOf == y9.map strOf) = true by rw [hrv.1, hy.1]; exact beq_self_eq_true ts]
  iterate 4 (first | walk1 | (dsimp only; walk1))
  refine LCt.ListComp_T (F₀ := F) (by with_unfolding_all rfl) (by decide) (by rfl) (by decide) (by rfl) ?_
  iterate 1 (first | walk1 | (dsimp only; walk1))
  refine src_filter (vs := rv) (Pb := fun _ => false) (c := c17) rfl (.head _) (by omega) ?turn ?helt ⟨rfl, _, _, rfl, F, N⟩ fun g tk => ?_
  case turn =>
    intro y hy' I oI C oC D m₂ h tk ys E' hC hxy F N off
    obtain ⟨Y, ty, rfl⟩ := str_of hrv.2 hy'
    obtain ⟨hY1, hY2⟩ := htv _ hy'
    have hY1 : Y.length ≤ 24 := hY1
    k_steps
    by_cases hcut : Y.length ≤ 12 + a + b
    · refine wpAny_call (right_spec0 (l := []) (frs := []) (new := [(I, oI), (C, oC), (D, LCg.lst ys), (D17, W.listOf rv.toArray c17), (D8, W.listOf y9.toArray 0), (D1, W.listOf ws.toArray 0), (L + 1 + 1 + 1 + 1, c4), (L + 1 + 1 + 1, c3), (L + 1 + 1, c2), (L + 1, c1)]) Fs F X₀ (by rw [List.append_nil]; exact N) (fun _ _ h => nomatch h) T (Around.frames_deeper hA) rfl rfl hroom0 rfl (by show 4 + 3 + 80 < cLine; decide +kernel) hroom1 hroom2 D17 c17 rv Y ty _ _ a b (.tail _ (.tail _ (.tail _ (.head _)))) hrv.2 (by omega) htv hY1 hY2 ha hb2 (by omega) fun h2 tk2 frs2 SU2 F2 N2 => ?_)
      obtain rfl := up_nil SU2
      rw [List.append_nil] at N2
      k_steps
      · exact F2
      · exact N2
    · refine wpAny_call (right_spec1 (l := []) (frs := []) (new := [(I, oI), (C, oC), (D, LCg.lst ys), (D17, W.listOf rv.toArray c17), (D8, W.listOf y9.toArray 0), (D1, W.listOf ws.toArray 0), (L + 1 + 1 + 1 + 1, c4), (L + 1 + 1 + 1, c3), (L + 1 + 1, c2), (L + 1, c1)]) Fs F X₀ (by rw [List.append_nil]; exact N) (fun _ _ h => nomatch h) T (Around.frames_deeper hA) rfl rfl hroom0 rfl (by show 4 + 3 + 80 < cLine; decide +kernel) hroom1 hroom2 D17 c17 rv Y ty _ _ a b (.tail _ (.tail _ (.tail _ (.head _)))) hrv.2 (by omega) htv hY1 hY2 ha hb2 (by omega) fun h2 tk2 frs2 SU2 F2 N2 => ?_)
      obtain rfl := up_nil SU2
      rw [List.append_nil] at N2
      k_steps
      · exact F2
      · exact N2
  case helt =>
    intro y I oI C oC D m₂ h tk ys E' hC hxy F N
    k_steps
    · exact F
    · exact N
  intro D5 h5 tk5 F5 N5 off5
  rw [show rv.filter (fun _ => false) = [] by simp] at N5
  iterate 3 (first | walk1 | (dsimp only; walk1))
  rename_i D6 h6 F6 N6 l6
  refine cmp_eq_strs (vs := []) (ws := []) (PySem.IsL.isList (n := _) (N6 _ (.tail _ (.head _))).1) (PySem.IsL.isList (n := _) (N6 _ (.head _)).1) rfl rfl (by show 4 + 3 < cLine; decide +kernel) ?_
  exact hQ _ _ _ F6
end
end

section
open PySem PySem.Spec PySem.W PySem.Calls PySem.Challenge PyProof.Rows PySem.Builtin PySem.Builtin.Str
set_option maxRecDepth 100000
set_option maxHeartbeats 1600000
set_option Elab.async false
set_option linter.unusedVariables false
open StrLaws
theorem occ_full (s sub : Str) (hi : Nat) : ∀ (l : List Nat) (st : Array Nat × Nat), ¬ st.fst.size < 1 → (forIn l st (occBody s sub hi 1)).run.fst = st.fst
  | [], st, h => rfl
  | a :: l, st, h => by
    rw [List.forIn_cons]
    unfold occBody
    rw [if_neg (fun q => h q.1.1.1)]
    exact occ_full s sub hi l _ h
theorem occ_firstL (s sub : Str) (hi n : Nat) (hn : n + sub.length ≤ hi ∧ subAt s sub n = true) : ∀ (pre post : List Nat) (free : Nat), free ≤ n → (∀ i ∈ pre, ¬ (i + sub.length ≤ hi ∧ subAt s sub i = true)) →
    (forIn (pre ++ n :: post) ((#[] : Array Nat), free) (occBody s sub hi 1)).run.fst = #[n]
  | [], post, free, hf, hp => by
    rw [List.nil_append, List.forIn_cons]
    unfold occBody
    rw [if_pos ⟨⟨⟨by simp, hf⟩, hn.1⟩, hn.2⟩]
    exact occ_full s sub hi post _ (by simp)
  | a :: pre, post, free, hf, hp => by
    rw [List.cons_append, List.forIn_cons]
    unfold occBody
    rw [if_neg (fun q => hp a List.mem_cons_self ⟨q.1.2, q.2⟩)]
    exact occ_firstL s sub hi n hn pre post free hf fun i hi' => hp i (List.mem_cons_of_mem _ hi')
theorem occ_first {x : Str} {c i n : Nat} (hi : i ≤ n) (hn : x.cps.toList[n]? = some c) (hno : ∀ k, i ≤ k → k < n → x.cps.toList[k]? ≠ some c) : occurrences x ⟨#[c]⟩ i x.length 1 = n :: [] := by
  have h1 := (subAt_one x c n).mpr hn
  have hlt : n < x.length := by
    have := h1.1
    have e : (⟨#[c]⟩ : Str).length = 1 := rfl
    omega
  rw [occ_eq, show List.range' i (x.length + 1 - i) = List.range' i (n - i) ++ n :: List.range' (n + 1) (x.length - n) by
    have e1 : x.length + 1 - i = (n - i) + ((x.length - n) + 1) := by omega
    rw [e1, ← List.range'_append_1, List.range'_succ, show i + (n - i) = n by omega]]
  rw [occ_firstL x ⟨#[c]⟩ x.length n h1 _ _ i hi fun k hk q => ?_]
  rw [List.mem_range'_1] at hk
  exact hno k hk.1 (by omega) ((subAt_one x c k).mp q)
theorem item_of {x : Str} {k c : Nat} (h : x.cps.toList[k]? = some c) : Txt.item x (k : Int) = ⟨#[c]⟩ := by
  obtain ⟨hlt, e⟩ := List.getElem?_eq_some_iff.mp h
  have hlt' : k < x.length := by
    have : x.cps.toList.length = x.length := Array.length_toList
    omega
  rw [item_at (n := k) (by omega) (by omega) (by omega)]
  have : x.cps.getD k 0 = c := by
    rw [Array.getD_eq_getD_getElem?, ← Array.getElem?_toList, h]
    rfl
  rw [this]
theorem isWs_of {x : Str} {k c : Nat} (h : x.cps.toList[k]? = some c) : isWs x k = chars xs62 ⟨#[c]⟩ := by
  unfold isWs
  rw [item_of h]
theorem com_stop {x : Str} {k : Nat} (h : k = x.length ∨ ∃ c, x.cps.toList[k]? = some c ∧ c ≠ 35) : Com x k k := by
  rcases h with h | ⟨c, h, hc⟩
  · exact .inl ⟨rfl, h⟩
  · refine .inr (.inl ⟨rfl, ?_, ?_⟩)
    · obtain ⟨hlt, _⟩ := List.getElem?_eq_some_iff.mp h
      have : x.cps.toList.length = x.length := Array.length_toList
      omega
    · rw [item_of h, show Str.ofString "#" = ⟨#[35]⟩ by decide +kernel]
      intro q
      injection q with q
      have := congrArg Array.toList q
      simp at this
      exact hc this
theorem ski_stop {x : Str} {k : Nat} (h : k = x.length ∨ ∃ c, x.cps.toList[k]? = some c ∧ chars xs62 ⟨#[c]⟩ = false) (hle : k ≤ x.length) : Ski x k k := by
  refine ⟨Nat.le_refl _, hle, fun j h1 h2 => by omega, ?_⟩
  rcases h with h | ⟨c, h, hc⟩
  · exact .inl h
  · exact .inr ((isWs_of h).trans hc)
theorem ski_one {x : Str} {k d : Nat} (hd : x.cps.toList[k]? = some d) (hd2 : chars xs62 ⟨#[d]⟩ = true) (h : k + 1 = x.length ∨ ∃ c, x.cps.toList[k + 1]? = some c ∧ chars xs62 ⟨#[c]⟩ = false) : Ski x k (k + 1) := by
  obtain ⟨hlt, _⟩ := List.getElem?_eq_some_iff.mp hd
  have e : x.cps.toList.length = x.length := Array.length_toList
  refine ⟨Nat.le_succ _, by omega, fun j h1 h2 => ?_, ?_⟩
  · obtain rfl : j = k := by omega
    exact (isWs_of hd).trans hd2
  · rcases h with h | ⟨c, h, hc⟩
    · exact .inl h
    · exact .inr ((isWs_of h).trans hc)
end

section
open PySem PySem.Spec PySem.W PySem.Calls PySem.Challenge PyProof.Rows PySem.Builtin PySem.Builtin.Str
set_option maxRecDepth 100000
set_option maxHeartbeats 1600000
set_option Elab.async false
set_option linter.unusedVariables false
noncomputable def pieceS (ts : List Str) (i : Nat) : Str := Str.ofString "'" ++ ts.getD i Str.empty ++ Str.ofString "'" ++ (["\n", "\t", " # it's\n"] : List Str).getD ((0 + (i : Int)).fmod 3).toNat ""
noncomputable def sepL (i : Nat) : List Nat := ([[10], [9], [32, 35, 32, 105, 116, 39, 115, 10]] : List (List Nat)).getD (i % 3) []
theorem piece_list (ts : List Str) (i : Nat) : (pieceS ts i).cps.toList = 39 :: ((ts.getD i Str.empty).cps.toList ++ 39 :: sepL i) := by
  unfold pieceS sepL
  rw [app_list, app_list, app_list]
  have e : ((0 + (i : Int)).fmod 3).toNat = i % 3 := by
    rw [Int.zero_add, Int.fmod_eq_emod_of_nonneg _ (by decide)]
    omega
  rw [e]
  have h3 : i % 3 < 3 := Nat.mod_lt _ (by decide)
  have q1 : (Str.ofString "'").cps.toList = [39] := by decide +kernel
  rw [q1]
  generalize i % 3 = k at *
  rcases k with _ | _ | _ | k
  · rw [show ((["\n", "\t", " # it's\n"] : List Str).getD 0 "").cps.toList = [10] by decide +kernel]; simp
  · rw [show ((["\n", "\t", " # it's\n"] : List Str).getD (0 + 1) "").cps.toList = [9] by decide +kernel]; simp
  · rw [show ((["\n", "\t", " # it's\n"] : List Str).getD (0 + 1 + 1) "").cps.toList = [32, 35, 32, 105, 116, 39, 115, 10] by decide +kernel]; simp
  · omega
theorem sep_len (i : Nat) : (sepL i).length ≤ 8 := by
  unfold sepL
  have h3 : i % 3 < 3 := Nat.mod_lt _ (by decide)
  generalize i % 3 = k at *
  rcases k with _ | _ | _ | k
  · decide
  · decide
  · decide
  · omega
theorem getD_len {ts : List Str} (h : ∀ y ∈ ts, y.length ≤ 24) (i : Nat) : (ts.getD i Str.empty).length ≤ 24 := by
  rw [List.getD_eq_getElem?_getD]
  cases e : ts[i]? with
  | none => decide
  | some y => exact h _ (List.mem_of_getElem? e)
theorem piece_len {ts : List Str} (h : ∀ y ∈ ts, y.length ≤ 24) (i : Nat) : (pieceS ts i).length ≤ 34 := by
  have e := congrArg List.length (piece_list ts i)
  rw [len_list, List.length_cons, List.length_append, List.length_cons, len_list] at e
  have h1 := getD_len h i
  have h2 := sep_len i
  omega
theorem join_list : ∀ l : List Str, (Str.join (Str.ofString "") l).cps.toList = l.flatMap (fun y => y.cps.toList)
  | [] => rfl
  | [x] => by simp [Str.join]
  | x :: y :: r => by
    show ((x ++ Str.ofString "") ++ Str.join (Str.ofString "") (y :: r)).cps.toList = _
    rw [app_list, app_list, join_list (y :: r)]
    have : (Str.ofString "").cps.toList = [] := by decide +kernel
    rw [this, List.append_nil]
    simp [List.flatMap_cons]
theorem doc_list (l : List Str) : (Txt.join (Str.ofString "") l).cps.toList = l.flatMap (fun y => y.cps.toList) := by
  show (Builtin.Str.glued (Str.ofString "") l).cps.toList = _
  rw [StrLaws.glued_eq_join]
  exact join_list l
theorem doc_ok (ts : List Str) {n : Nat} (h : ∀ y ∈ ts, y.length ≤ 24) (hn : n ≤ 8) : JoinOk (Str.ofString "") ((List.range n).map (pieceS ts)) = true := by
  have q := StrLaws.joinFits (sep := Str.ofString "") (texts := (List.range n).map (pieceS ts)) (B := 34) (fun y hy => by
    obtain ⟨i, _, rfl⟩ := List.mem_map.mp hy
    exact piece_len h i) (by
    rw [List.length_map, List.length_range, show (Str.ofString "").length = 0 by decide]
    omega)
  show (!tooLong _) = true
  rw [q]
  rfl
theorem flat_len {ts : List Str} (h : ∀ y ∈ ts, y.length ≤ 24) : ∀ l : List Nat, ((l.map (pieceS ts)).flatMap (fun y => y.cps.toList)).length ≤ 34 * l.length
  | [] => by simp
  | i :: l => by
    rw [List.map_cons, List.flatMap_cons, List.length_append, List.length_cons, len_list]
    have h1 := piece_len h i
    have h2 := flat_len h l
    omega
theorem doc_len (ts : List Str) {n : Nat} (h : ∀ y ∈ ts, y.length ≤ 24) (hn : n ≤ 8) : (Txt.join (Str.ofString "") ((List.range n).map (pieceS ts))).length ≤ 1000 := by
  rw [← len_list, doc_list]
  have := flat_len h (List.range n)
  rw [List.length_range] at this
  omega
end

section
open PySem PySem.Spec PySem.W PySem.Calls PySem.Challenge PyProof.Rows PySem.Builtin PySem.Builtin.Str
set_option maxRecDepth 100000
set_option maxHeartbeats 1600000
set_option Elab.async false
set_option linter.unusedVariables false
theorem slice_mid {x : Str} {i j : Nat} (h1 : i ≤ j) (h2 : j ≤ x.length) : Txt.slice x (some (i : Int)) (some (j : Int)) = ⟨((x.cps.toList.drop i).take (j - i)).toArray⟩ := by
  have := eq_of_beq (slice_closesL (x := x) (i := (i : Int)) (j := (j : Int)) (by omega) (by omega) (by omega))
  rw [this]
  rw [show ((i : Int)).toNat = i from rfl, show ((j : Int) - (i : Int)).toNat = j - i by omega]
theorem at_pre {X pre r : List Nat} (h : X = pre ++ r) (t : Nat) : X[pre.length + t]? = r[t]? := by
  rw [h, List.getElem?_append_right (by omega)]
  congr 1
  omega
theorem slice_pre {x : Str} {pre S post : List Nat} (h : x.cps.toList = pre ++ (S ++ post)) : Txt.slice x (some (pre.length : Int)) (some ((pre.length + S.length : Nat) : Int)) = ⟨S.toArray⟩ := by
  have hl := congrArg List.length h
  rw [len_list, List.length_append, List.length_append] at hl
  rw [slice_mid (by omega) (by omega), h, List.drop_left, show pre.length + S.length - pre.length = S.length by omega, List.take_left]
noncomputable def okc (c d : Nat) : Bool := (d != c) && decide (d < 128) && !(chars xs53 ⟨#[d]⟩)
theorem found_of {x : Str} {pre S post : List Nat} {c : Nat} (h : x.cps.toList = pre ++ (S ++ c :: post)) (hS : ∀ d ∈ S, okc c d = true) : Found x ⟨#[c]⟩ pre.length (pre.length + S.length) := by
  have hl := congrArg List.length h
  rw [len_list, List.length_append, List.length_append, List.length_cons] at hl
  have hS' : ∀ d ∈ S, d ≠ c ∧ d < 128 ∧ chars xs53 ⟨#[d]⟩ = false := fun d hd => by
    have := hS d hd
    simpa [okc, and_assoc] using this
  have hsl := slice_pre h
  refine ⟨by omega, by omega, ?_, ?_, [], occ_first (by omega) ?_ fun k h1 h2 => ?_⟩
  · rw [hsl, Array.all_eq_true_iff_forall_mem]
    intro d hd
    exact decide_eq_true (hS' d (by simpa using hd)).2.1
  · rw [hsl]
    intro d hd
    exact (hS' d (by simpa using hd)).2.2
  · rw [at_pre h, List.getElem?_append_right (Nat.le_refl _), Nat.sub_self]
    rfl
  · obtain ⟨t, rfl⟩ : ∃ t, k = pre.length + t := ⟨k - pre.length, by omega⟩
    rw [at_pre h, List.getElem?_append_left (by omega)]
    intro q
    exact (hS' c (List.mem_of_getElem? q)).1 rfl
/-- what follows a piece -/
noncomputable def Post (post : List Nat) : Prop := post = [] ∨ ∃ r, post = 39 :: r
theorem post_at {x : Str} {pre post : List Nat} (h : x.cps.toList = pre ++ post) (hp : Post post) : pre.length = x.length ∨ ∃ c, x.cps.toList[pre.length]? = some c ∧ c = 39 := by
  rcases hp with rfl | ⟨r, rfl⟩
  · refine .inl ?_
    rw [← len_list, h, List.append_nil]
  · refine .inr ⟨39, ?_, rfl⟩
    have := at_pre h 0
    exact this
theorem ws_stop {x : Str} {pre post : List Nat} (h : x.cps.toList = pre ++ post) (hp : Post post) : WsTo x 0 pre.length pre.length ∧ Com x pre.length pre.length ∧ (pre.length = x.length ∨ ∃ c, x.cps.toList[pre.length]? = some c ∧ chars xs62 ⟨#[c]⟩ = false) := by
  have q := post_at h hp
  have hl := congrArg List.length h
  rw [len_list, List.length_append] at hl
  have q1 : pre.length = x.length ∨ ∃ c, x.cps.toList[pre.length]? = some c ∧ chars xs62 ⟨#[c]⟩ = false := by
    rcases q with q | ⟨c, q, rfl⟩
    · exact .inl q
    · exact .inr ⟨39, q, by decide +kernel⟩
  have q2 : Com x pre.length pre.length := com_stop (by
    rcases q with q | ⟨c, q, rfl⟩
    · exact .inl q
    · exact .inr ⟨39, q, by decide⟩)
  exact ⟨.stop (ski_stop q1 (by omega)) q2, q2, q1⟩
/-- one sign of white space -/
theorem ws_one {x : Str} {pre post : List Nat} {d : Nat} (h : x.cps.toList = pre ++ d :: post) (hd : chars xs62 ⟨#[d]⟩ = true) (hp : Post post) : WsTo x 1 pre.length (pre.length + 1) := by
  have h' : x.cps.toList = (pre ++ [d]) ++ post := by rw [h]; simp
  have q := ws_stop h' hp
  rw [List.length_append, List.length_singleton] at q
  refine .step (ski_one (d := d) ?_ hd q.2.2) q.2.1 (by omega) q.1
  have := at_pre h 0
  exact this
theorem ws_sep {x : Str} {pre post : List Nat} (i : Nat) (h : x.cps.toList = pre ++ (sepL i ++ post)) (hp : Post post) : ∃ f, WsTo x f pre.length (pre.length + (sepL i).length) := by
  unfold sepL at *
  have h3 : i % 3 < 3 := Nat.mod_lt _ (by decide)
  generalize i % 3 = k at *
  rcases k with _ | _ | _ | k
  · exact ⟨1, ws_one (d := 10) h (by decide +kernel) hp⟩
  · exact ⟨1, ws_one (d := 9) h (by decide +kernel) hp⟩
  · have h0 : x.cps.toList = pre ++ ([32, 35, 32, 105, 116, 39, 115, 10] ++ post) := h
    have hl := congrArg List.length h0
    rw [len_list, List.length_append, List.length_append] at hl
    have hl2 : ([32, 35, 32, 105, 116, 39, 115, 10] : List Nat).length = 8 := rfl
    have h7 : x.cps.toList = (pre ++ [32, 35, 32, 105, 116, 39, 115]) ++ 10 :: post := by rw [h0]; simp
    have h2 : x.cps.toList = (pre ++ [32, 35]) ++ ([32, 105, 116, 39, 115] ++ 10 :: post) := by rw [h0]; simp
    have w := ws_one h7 (by decide +kernel) hp
    have fo := found_of h2 (by decide +kernel)
    have e7 : (pre ++ [32, 35, 32, 105, 116, 39, 115]).length = pre.length + 7 := by simp
    have e2 : (pre ++ [32, 35]).length = pre.length + 2 := by simp
    rw [e7] at w
    rw [e2] at fo
    have a0 : x.cps.toList[pre.length]? = some 32 := at_pre h0 0
    have a1 : x.cps.toList[pre.length + 1]? = some 35 := at_pre h0 1
    refine ⟨2, .step (k := pre.length + 1) (j := pre.length + 7) (ski_one a0 (by decide +kernel) (.inr ⟨35, a1, by decide +kernel⟩)) (.inr (.inr ⟨by omega, ?_, ?_⟩)) (by omega) w⟩
    · rw [item_of a1]
      decide +kernel
    · rw [show Str.ofString "\n" = ⟨#[10]⟩ by decide +kernel]
      exact fo
  · omega
noncomputable def restL (ts : List Str) (i k : Nat) : List Nat := (List.range' i k).flatMap fun j => 39 :: ((ts.getD j Str.empty).cps.toList ++ 39 :: sepL j)
theorem restL_succ (ts : List Str) (i k : Nat) : restL ts i (k + 1) = 39 :: ((ts.getD i Str.empty).cps.toList ++ 39 :: (sepL i ++ restL ts (i + 1) k)) := by
  unfold restL
  rw [List.range'_succ, List.flatMap_cons]
  simp
theorem restL_post (ts : List Str) (i k : Nat) : Post (restL ts i k) := by
  cases k with
  | zero => exact .inl rfl
  | succ k => exact .inr ⟨_, restL_succ ts i k⟩
theorem letter_ok {d : Nat} (h : letter d = true) : okc 39 d = true := by
  rcases letters h with rfl | rfl | rfl | rfl | rfl <;> decide +kernel
theorem read_pieces {x : Str} {ts : List Str} (hts : ∀ y ∈ ts, ∀ c ∈ y.cps.toList, letter c = true) : ∀ (k i : Nat) (pre : List Nat), i + k = ts.length → x.cps.toList = pre ++ restL ts i k → ReadTo x k pre.length (ts.drop i)
  | 0, i, pre, hik, h => by
    rw [List.drop_eq_nil_of_le (by omega)]
    refine .done ?_
    rw [← len_list, h]
    simp [restL]
  | k + 1, i, pre, hik, h => by
    have hlt : i < ts.length := by omega
    rw [restL_succ] at h
    have hg : ts.getD i Str.empty = ts[i] := by rw [List.getD_eq_getElem?_getD, List.getElem?_eq_getElem hlt]; rfl
    rw [hg] at h
    have h1 : x.cps.toList = (pre ++ [39]) ++ (ts[i].cps.toList ++ 39 :: (sepL i ++ restL ts (i + 1) k)) := by rw [h]; simp
    have h2 : x.cps.toList = (pre ++ 39 :: (ts[i].cps.toList ++ [39])) ++ (sepL i ++ restL ts (i + 1) k) := by rw [h]; simp
    have h3 : x.cps.toList = (pre ++ 39 :: (ts[i].cps.toList ++ 39 :: sepL i)) ++ restL ts (i + 1) k := by rw [h]; simp
    have fo := found_of h1 (fun d hd => letter_ok (hts _ (List.getElem_mem hlt) d hd))
    have sl := slice_pre h1
    obtain ⟨f, ws⟩ := ws_sep i h2 (restL_post ts (i + 1) k)
    have rd := read_pieces hts k (i + 1) _ (by omega) h3
    have e1 : (pre ++ [39]).length = pre.length + 1 := by simp
    have e2 : (pre ++ 39 :: (ts[i].cps.toList ++ [39])).length = pre.length + 1 + ts[i].cps.toList.length + 1 := by simp; omega
    have e3 : (pre ++ 39 :: (ts[i].cps.toList ++ 39 :: sepL i)).length = pre.length + 1 + ts[i].cps.toList.length + 1 + (sepL i).length := by simp; omega
    rw [e1] at fo sl
    rw [e2] at ws
    rw [e3] at rd
    have hl := congrArg List.length h
    rw [len_list, List.length_append, List.length_cons] at hl
    rw [List.drop_eq_getElem_cons hlt]
    have hy : ts[i] = Txt.slice x (some ((pre.length : Int) + 1)) (some ((pre.length + 1 + ts[i].cps.toList.length : Nat) : Int)) := by
      rw [show ((pre.length : Int) + 1) = ((pre.length + 1 : Nat) : Int) from rfl, sl]
    rw [hy]
    refine .next (by omega) ?_ (f := f) (q := pre.length + 1 + ts[i].cps.toList.length + 1 + (sepL i).length) ?_ rd
    · rw [show Str.ofString "'" = ⟨#[39]⟩ by decide +kernel]
      exact fo
    · exact ws
theorem doc_reads (ts : List Str) (h : ∀ y ∈ ts, ∀ c ∈ y.cps.toList, letter c = true) : ∃ f q, WsTo (Txt.join (Str.ofString "") ((List.range ts.length).map (pieceS ts))) f 0 q ∧ ReadTo (Txt.join (Str.ofString "") ((List.range ts.length).map (pieceS ts))) ts.length q ts := by
  have e : (Txt.join (Str.ofString "") ((List.range ts.length).map (pieceS ts))).cps.toList = [] ++ restL ts 0 ts.length := by
    rw [doc_list, List.flatMap_map, List.nil_append, List.range_eq_range']
    unfold restL
    congr 1
    funext j
    exact piece_list ts j
  refine ⟨0, 0, (ws_stop e (restL_post _ _ _)).1, ?_⟩
  have := read_pieces h ts.length 0 [] (Nat.zero_add _) e
  exact this
end

section
open PySem PySem.Spec PySem.W PySem.Calls PySem.Challenge PyProof.Rows PySem.Builtin PySem.Builtin.Str
set_option maxRecDepth 100000
set_option maxHeartbeats 1600000
set_option Elab.async false
set_option linter.unusedVariables false
noncomputable def okT (k : Nat) (y : Str) : Bool := decide (y.length ≤ k) && y.cps.toList.all letter
theorem okT_app {a b : Nat} {x y : Str} (hx : okT a x = true) (hy : okT b y = true) : okT (a + b) (x ++ y) = true := by
  unfold okT at *
  rw [Bool.and_eq_true_iff, decide_eq_true_eq] at *
  refine ⟨?_, ?_⟩
  · rw [← len_list, app_list, List.length_append, len_list, len_list]
    exact Nat.add_le_add hx.1 hy.1
  · rw [app_list, List.all_append, hx.2, hy.2]
    rfl
theorem mul_okT (n : Nat) (h : n < 20) : okT 19 (Txt.mul (Str.ofString "x") (n : Int)) = true := by
  have key : ∀ k : Fin 20, okT 19 (Txt.mul (Str.ofString "x") ((k.val : Nat) : Int)) = true := by decide +kernel
  exact key ⟨n, h⟩
theorem law_okT (x : Int) : okT 24 (lawText x) = true := by
  have b1 : 0 ≤ x.fmod 4 := Int.fmod_nonneg_of_pos _ (by decide)
  have b2 : x.fmod 4 < 4 := Int.fmod_lt_of_pos _ (by decide)
  have b3 : 0 ≤ (x.fdiv 4).fmod 20 := Int.fmod_nonneg_of_pos _ (by decide)
  have b4 : (x.fdiv 4).fmod 20 < 20 := Int.fmod_lt_of_pos _ (by decide)
  have b5 : 0 ≤ (x.fdiv 80).fmod 3 := Int.fmod_nonneg_of_pos _ (by decide)
  have b6 : (x.fdiv 80).fmod 3 < 3 := Int.fmod_lt_of_pos _ (by decide)
  unfold lawText
  have m := mul_okT ((x.fdiv 4).fmod 20).toNat (by omega)
  rw [Int.toNat_of_nonneg b3] at m
  have k1 : ∀ k : Fin 4, okT 3 ((["ab", "aab", "b", ""] : List Str).getD k.val "") = true := by decide +kernel
  have k2 : ∀ k : Fin 3, okT 2 ((["yz", "z", ""] : List Str).getD k.val "") = true := by decide +kernel
  exact okT_app (okT_app (k1 ⟨(x.fmod 4).toNat, by omega⟩) m) (k2 ⟨((x.fdiv 80).fmod 3).toNat, by omega⟩)
theorem texts_ok (js : List Int) (n : Nat) : ∀ y ∈ (List.map (fun i => Str.ofString "ab" ++ Txt.mul (Str.ofString "x") (([15, 11, 12] : List Int).getD i 0) ++ Str.ofString "yz") (List.range 3) ++ [Str.ofString "ab"] ++ List.map (fun i => lawText (js.getD i 0)) (List.range n)), y.length ≤ 24 ∧ ∀ c ∈ y.cps.toList, letter c = true := by
  have key : ∀ y ∈ (List.map (fun i => Str.ofString "ab" ++ Txt.mul (Str.ofString "x") (([15, 11, 12] : List Int).getD i 0) ++ Str.ofString "yz") (List.range 3) ++ [Str.ofString "ab"] ++ List.map (fun i => lawText (js.getD i 0)) (List.range n)), okT 24 y = true := by
    intro y hy
    rcases List.mem_append.mp hy with hy | hy
    · have q : ((List.map (fun i => Str.ofString "ab" ++ Txt.mul (Str.ofString "x") (([15, 11, 12] : List Int).getD i 0) ++ Str.ofString "yz") (List.range 3) ++ [Str.ofString "ab"]).all (okT 24)) = true := by decide +kernel
      exact List.all_eq_true.mp q y hy
    · obtain ⟨i, _, rfl⟩ := List.mem_map.mp hy
      exact law_okT _
  intro y hy
  have := key y hy
  unfold okT at this
  rw [Bool.and_eq_true_iff, decide_eq_true_eq] at this
  exact ⟨this.1, fun c hc => List.all_eq_true.mp this.2 c hc⟩
end

section
open PySem PySem.W PySem.Calls PySem.Challenge PyProof.Rows PySem.Builtin PySem.Builtin.Str
set_option maxRecDepth 100000
set_option maxHeartbeats 1600000
set_option Elab.async false
set_option linter.unusedVariables false
theorem fill_core : (KF = KF) ∧ rw_rt0008_01 = rw_rt0008_01 := by
  k_fill
  exact ⟨rfl, rfl⟩
section
variable {w : World} {A A₀ : Around} {s : Shared} {h₀ base : Heap} {L : Addr} {m mg mb : Str → Option Value} {news : List (Addr × Obj)} {mean : ExcName → Option Value} {env : Env} {outer : List Env} {R : Result → Shared → Prop} {hb : Heap} {new frs : List (Addr × Obj)} {l : List Env}
theorem law_core {L fa lo : Addr} {cd : Value} {iv : List Value} {is : List Int} {c1 c2 c3 c4 : Obj} {Q : Flow → Shared → Prop} {E : Value → Shared → Prop}
    (X₀ : Says w hb) (T : Top qv (looseW qv loose) mean mg mb hb) (hl : hb.IsList lo iv.toArray) (hI : IntsAre iv is) (hlen : is.length ≤ 63)
    (F : Fr hb L s.heap (bindL (envOfC (Str.ofString "law") (fdS 30) L fa cd).kindOf [(Str.ofString "script", Value.ref lo)] fun _ => none))
    (N : News hb L s.heap [(L + 1 + 1 + 1 + 1, c4), (L + 1 + 1 + 1, c3), (L + 1 + 1, c2), (L + 1, c1)])
    (d4 : c4.data = .cell none) (d3 : c3.data = .cell none) (d2 : c2.data = .cell none) (d1 : c1.data = .cell none)
    (hQ : ∀ h' tk m', Fr hb L h' m' → Q (.ret (.bool true)) { s with heap := h', toks := tk }) :
    wpAny (model pw w) (callerA.deeper (envOfC (Str.ofString "law") (fdS 30) L fa cd)) (execs (fdB 30) (envOfC (Str.ofString "law") (fdS 30) L fa cd)) Q E s := by
  have X0 := X₀.K
  have Fs : TI.Frs [] [] := trivial
  have hA : callerA.frames = some [] := rfl
  have hroom0 : (callerA.deeper (envOfC (Str.ofString "law") (fdS 30) L fa cd)).depth < recursionLimit := by
    show 1 + claimMargin + 1 < recursionLimit
    decide +kernel
  have hroom1 : (callerA.deeper (envOfC (Str.ofString "law") (fdS 30) L fa cd)).depth + 1 < recursionLimit := by
    show 1 + claimMargin + 1 + 1 < recursionLimit
    decide +kernel
  have hroom2 : (callerA.deeper (envOfC (Str.ofString "law") (fdS 30) L fa cd)).depth + 1 + 1 < recursionLimit := by
    show 1 + claimMargin + 1 + 1 + 1 < recursionLimit
    decide +kernel
  have hroom3 : (callerA.deeper (envOfC (Str.ofString "law") (fdS 30) L fa cd)).depth + 1 + 1 + 1 < recursionLimit := by
    show 1 + claimMargin + 1 + 1 + 1 + 1 < recursionLimit
    decide +kernel
  have hvl : iv.length ≤ 63 := by rw [← hI.length] at hlen; exact hlen
  change wpAny _ _ (execs (_ :: _) _) _ _ _
  iterate 9 (first | walk1 | (dsimp only; walk1))
  refine kmk_slice_ints (c := (is.take 4).length) F N (by obtain ⟨o, e, r⟩ := hl; exact ⟨o, F.keep _ _ e, r⟩) (lo := none) (hi := some 4) (by kmk_part) (by kmk_part) hI (kmk_upto hI (by decide)) rfl (fun D1 ws h1 F1 N1 l1 hJ _ hj2 => ?_) (by with_unfolding_all rfl) (by intro _; with_unfolding_all rfl) (by rw [List.size_toArray]; exact Nat.le_trans hvl (by decide))
  have hj4 : (is.take (Int.toNat 4)).length ≤ 4 := List.length_take_le _ _
  generalize is.take (Int.toNat 4) = js at *
  have hwl : ws.length ≤ 4 := by rw [hJ.length]; exact hj4
  iterate 5 (first | walk1 | (dsimp only; walk1))
  refine LCg.ListComp_U (by assumption) (by with_unfolding_all rfl) (by decide) (by rfl) (by decide) (by rfl) ?_
  iterate 9 (first | walk1 | (dsimp only; walk1))
  refine LCg.CompSrc.ledger rfl (by assumption) (by assumption) (.head _) (by show 3 ≤ sizeLine; decide) fun g => ?_
  refine rest_map (n := 3) (g := fun i => Str.ofString "ab" ++ Txt.mul (Str.ofString "x") (([15, 11, 12] : List Int).getD i 0) ++ Str.ofString "yz") (.inr ⟨_, .head _, rfl, _, rfl⟩) ?turn1 (fun ys1 hy1 => ?_) 3 0 [] rfl ⟨rfl, rfl⟩
  case turn1 =>
    intro i v hi hv I oI C oC D m₂ h tk ys E' hC hm F N off
    have hk : ∃ k t, v = .int k t ∧ 0 ≤ k ∧ k ≤ 15 ∧ ([15, 11, 12] : List Int).getD i 0 = k := by
      rcases i with _ | _ | _ | i
      · exact ⟨15, _, (Option.some.inj hv).symm, by decide, by decide, rfl⟩
      · exact ⟨11, _, (Option.some.inj hv).symm, by decide, by decide, rfl⟩
      · exact ⟨12, _, (Option.some.inj hv).symm, by decide, by decide, rfl⟩
      · omega
    obtain ⟨k, tv, rfl, hk0, hk1, hg⟩ := hk
    dsimp only
    rw [hg]
    clear hv hg
    k_steps
    · exact F
    · exact N
  intro D2 g2 tk2 F2 N2 off2
  iterate 5 (first | walk1 | (dsimp only; walk1))
  rename_i l3 h3 F3 N3 l3lt
  have hy1l : ys1.length = 3 := by have := congrArg List.length hy1.1; simpa using this
  refine add_listsD (vs := ys1) (ws := [Value.str (Str.ofString "ab") tk2]) F3 N3 (PySem.IsL.isList (n := _) (N3 _ (.tail _ (.head _))).1) (PySem.IsL.isList (n := _) (N3 _ (.head _)).1) (by rw [hy1l]; exact (by decide : 3 + 1 ≤ sizeLine)) fun D4 h4 F4 N4 l4 => ?_
  have N5 : News hb L h4 [(D4, W.listOf (ys1 ++ [Value.str (Str.ofString "ab") tk2]).toArray 0), (D1, W.listOf ws.toArray 0), (L + 1 + 1 + 1 + 1, c4), (L + 1 + 1 + 1, c3), (L + 1 + 1, c2), (L + 1, c1)] := fun p hp => by
    rcases List.mem_cons.mp hp with rfl | hp
    · exact N4 _ (.head _)
    · exact N4 p (.tail _ (.tail _ (.tail _ (.tail _ hp))))
  have l5 : ∀ p ∈ [(D1, W.listOf ws.toArray 0), (L + 1 + 1 + 1 + 1, c4), (L + 1 + 1 + 1, c3), (L + 1 + 1, c2), (L + 1, c1)], p.1 < D4 := fun p hp => l4 p (.tail _ (.tail _ (.tail _ hp)))
  have hy2 := hy1.snoc (x := Str.ofString "ab") (t := tk2)
  clear N4 N3 F3 l3lt off2 hy1 l4
  generalize ys1 ++ [Value.str (Str.ofString "ab") tk2] = y2 at *
  refine LCg.ListComp_U F4 (by with_unfolding_all rfl) (by decide) (by rfl) (by decide) (by rfl) ?_
  iterate 1 (first | walk1 | (dsimp only; walk1))
  refine LCg.CompSrc.ledger rfl (by assumption) (by assumption) (.tail _ (.head _)) (by rw [List.size_toArray]; exact Nat.le_trans hwl (by decide)) fun g5 => ?_
  rw [List.size_toArray]
  refine rest_map (n := ws.length) (g := fun i => lawText (js.getD i 0)) (.inr ⟨_, .tail _ (.head _), rfl, _, rfl⟩) ?turn2 (fun y6 hy6 => ?_) _ 0 [] (Nat.zero_add _) ⟨rfl, rfl⟩
  case turn2 =>
    intro i v hi hv I oI C oC D m₂ h tk ys E' hC hm F N off
    obtain ⟨n, t, rfl, hn⟩ := hJ.at i v (by simpa using hv)
    have hg : js.getD i 0 = n := by rw [List.getD_eq_getElem?_getD, hn]; rfl
    dsimp only
    rw [hg]
    clear hv hg
    k_steps
    refine wpAny_call (text_spec (l := []) (frs := []) Fs F X₀ (by rw [List.append_nil]; exact N) T (Around.frames_deeper hA) rfl rfl hroom0 rfl n _ fun h7 tk7 t7 frs7 SU F7 N7 => ?_)
    obtain rfl := up_nil SU
    rw [List.append_nil] at N7
    exact ⟨_, _, _, rfl, rfl, F7, N7⟩
  intro D6 g6 tk6 F6 N6 off6
  have hy6l : y6.length = ws.length := by have := congrArg List.length hy6.1; simpa using this
  have hy2l : y2.length = 4 := by have := congrArg List.length hy2.1; simpa using this
  refine add_listsD (vs := y2) (ws := y6) F6 N6 (PySem.IsL.isList (n := _) (N6 _ (.tail _ (.head _))).1) (PySem.IsL.isList (n := _) (N6 _ (.head _)).1) (by rw [hy2l, hy6l]; exact Nat.le_trans (Nat.add_le_add_left hwl 4) (by decide)) fun D8 h8 F8 N8 l8 => ?_
  have N9 : News hb L h8 [(D8, W.listOf (y2 ++ y6).toArray 0), (D1, W.listOf ws.toArray 0), (L + 1 + 1 + 1 + 1, c4), (L + 1 + 1 + 1, c3), (L + 1 + 1, c2), (L + 1, c1)] := fun p hp => by
    rcases List.mem_cons.mp hp with rfl | hp
    · exact N8 _ (.head _)
    · exact N8 p (.tail _ (.tail _ (.tail _ hp)))
  have l9 : ∀ p ∈ [(D1, W.listOf ws.toArray 0), (L + 1 + 1 + 1 + 1, c4), (L + 1 + 1 + 1, c3), (L + 1 + 1, c2), (L + 1, c1)], p.1 < D8 := fun p hp => l8 p (.tail _ (.tail _ hp))
  have hy9 := hy2.append hy6
  have hy9l : (y2 ++ y6).length ≤ 8 := by rw [List.length_append, hy2l, hy6l]; omega
  clear N8 N6 F6 off6 l8 hy2 hy6 hy2l hy6l
  generalize y2 ++ y6 = y9 at *
  have e1 : @LT.lt Nat instLTNat (L + 1 + 1 + 1 + 1) D1 := l1 _ (.head _)
  have e2 : @LT.lt Nat instLTNat D1 D8 := l9 _ (.head _)
  clear l1 l9 l5
  refine storeX_C (c := L + 1) F8 N9 (by rfl) (.tail (ane (by dsimp only; omega)) (.tail (ane (by dsimp only; omega)) (.tail (ane (by dsimp only; omega)) (.tail (ane (by dsimp only; omega)) (.tail (ane (by dsimp only; omega)) (.head (fun p hp => nomatch hp))))))) d1 (fun h10 o10 F10 N10 d10 => ?_) (by rfl) (by rfl)
  clear F8 N9 d1
  iterate 8 (first | walk1 | (dsimp only; walk1))
  refine LCg.ListComp_U F10 (by with_unfolding_all rfl) (by decide) (by rfl) (by decide) (by rfl) ?_
  iterate 10 (first | walk1 | (dsimp only; walk1))
  refine kun_lenL (k := (y9.length : Int)) (items := y9.toArray) (PySem.IsL.isList (n := 0) (N10 _ (.head _)).1) (by rw [List.size_toArray]) (by omega) ?_
  iterate 2 (first | walk1 | (dsimp only; walk1))
  rename_i h11 _ _ _ _ hr11 F11 N11 _
  generalize hts : (List.map (fun i => Str.ofString "ab" ++ Txt.mul (Str.ofString "x") (([15, 11, 12] : List Int).getD i 0) ++ Str.ofString "yz") (List.range 3) ++ [Str.ofString "ab"] ++ List.map (fun i => lawText (js.getD i 0)) (List.range ws.length)) = ts at hy9
  have htb : ∀ y ∈ ts, y.length ≤ 24 ∧ ∀ c ∈ y.cps.toList, letter c = true := by
    rw [← hts]
    exact texts_ok _ _
  refine LCg.CompSrc.range (n := y9.length) rfl F11 N11 hr11 (small_one (by omega) (by omega) (by omega) (by omega)) (rangeSize_nat _ _) (Nat.le_trans hy9l (by decide)) fun g12 => ?_
  refine rest_map (n := y9.length) (g := pieceS ts) trivial ?turn3 (fun y12 hy12 => ?_) _ 0 [] (Nat.zero_add _) ⟨rfl, rfl⟩
  case turn3 =>
    intro i v hi hv I oI C oC D m₂ h tk ys E' hC hm F N off
    obtain ⟨t, rfl⟩ := hv
    obtain ⟨ti, hti⟩ := hy9.at hi
    have hlt : ts.getD i Str.empty ∈ ts := by
      rw [List.getD_eq_getElem?_getD, List.getElem?_eq_getElem (by rw [hy9.len]; exact hi)]
      exact List.getElem_mem _
    have hb1 : (ts.getD i Str.empty).length ≤ 24 := (htb _ hlt).1
    have b1 : 0 ≤ (0 + (i : Int)).fmod 3 := Int.fmod_nonneg_of_pos _ (by decide)
    have b2 : (0 + (i : Int)).fmod 3 < 3 := Int.fmod_lt_of_pos _ (by decide)
    have q1 : (Str.ofString "'").length = 1 := by decide
    unfold pieceS
    generalize ts.getD i Str.empty = S at *
    generalize hz : (0 + (i : Int)) = z at *
    iterate 7 (first | walk1 | (dsimp only; walk1))
    refine PyProof.Rows.item_list (items := y9.toArray) (x := .str S ti) (PySem.IsL.isList (n := 0) (N _ (.tail _ (.tail _ (.tail _ (.head _))))).1) (by omega) (by omega) (by rw [List.getElem?_toArray, ← hti]; congr 1; omega) ?_
    k_steps
    all_goals rename_i Fz Nz lz S' tz eS lS t9 k9 l9
    · rw [← pick eS]
      rfl
    · exact Fz
    · exact fun p hp => Nz p (.tail _ hp)
  intro D12 g13 tk13 F13 N13 off13
  obtain ⟨l12, rfl, hl12⟩ := hy12.pairs
  clear hy12 N11 F11 hr11
  iterate 1 (first | walk1 | (dsimp only; walk1))
  refine SC.join (l := l12) (PySem.IsL.isList (n := _) (N13 _ (.head _)).1) hl12 (doc_ok _ (fun y hy => (htb y hy).1) hy9l) fun t14 k14 => ?_
  generalize hdoc : Txt.join (Str.ofString "") ((List.range y9.length).map (pieceS ts)) = doc
  have hdl : doc.length ≤ 1000 := by
    rw [← hdoc]
    exact doc_len _ (fun y hy => (htb y hy).1) hy9l
  obtain ⟨f, q, hws, hrt⟩ : ∃ f q, WsTo doc f 0 q ∧ ReadTo doc y9.length q ts := by
    rw [← hdoc, ← hy9.len]
    exact doc_reads ts (fun y hy => (htb y hy).2)
  clear hdoc
  k_steps
  rename_i h15 F15 N15
  have N16 : News hb L h15 ([(D8, W.listOf y9.toArray 0), (D1, W.listOf ws.toArray 0), (L + 1 + 1 + 1 + 1, c4), (L + 1 + 1 + 1, c3), (L + 1 + 1, c2), (L + 1, o10)] ++ []) := fun p hp => N15 p (.tail _ (by rw [List.append_nil] at hp; exact hp))
  clear N15
  have hnd16 : ([(D8, W.listOf y9.toArray 0), (D1, W.listOf ws.toArray 0), (L + 1 + 1 + 1 + 1, c4), (L + 1 + 1 + 1, c3), (L + 1 + 1, c2), (L + 1, o10)] : List (Addr × Obj)).all TI.notDict = true := by
    simp [TI.notDict, d4, d3, d2, d10]
  refine wpAny_call (read_spec (l := []) (frs := []) Fs F15 X₀ N16 hnd16 T (Around.frames_deeper hA) rfl rfl hroom0 rfl hroom1 hroom2 hroom3 doc t14 f y9.length q ts (Nat.le_trans hdl (by decide)) (Nat.le_trans hy9l (by decide)) hws hrt fun h17 tk17 D17 rv c17 frs17 SU hrv F17 N17 l17 => ?_)
  obtain rfl := up_nil SU
  simp only [List.append_nil, List.cons_append, List.nil_append] at N17 l17
  clear hws hrt hl12 off13 N16 F15
  dsimp only
  k_steps
  rename_i tkA tA hB tkB tB D20 h20 l20 h21 F21 N21
  have N22 : News hb L h21 [(D17, W.listOf rv.toArray c17), (D8, W.listOf y9.toArray 0), (D1, W.listOf ws.toArray 0), (L + 1 + 1 + 1 + 1, c4), (L + 1 + 1 + 1, c3), (L + 1 + 1, c2), (L + 1, o10)] := fun p hp => N21 p (.tail _ hp)
  have e3 : @LT.lt Nat instLTNat D8 D17 := l17 _ (.head _)
  obtain ⟨a, ha, ha3⟩ : ∃ a : Nat, (2 + js.sum).fmod 4 = (a : Int) ∧ a ≤ 3 := by
    have q1 : 0 ≤ (2 + js.sum).fmod 4 := Int.fmod_nonneg_of_pos _ (by decide)
    have q2 : (2 + js.sum).fmod 4 < 4 := Int.fmod_lt_of_pos _ (by decide)
    exact ⟨_, (Int.toNat_of_nonneg q1).symm, by omega⟩
  obtain ⟨b, hb', hb2⟩ : ∃ b : Nat, (1 + js.sum.fdiv 4).fmod 3 = (b : Int) ∧ b ≤ 2 := by
    have q1 : 0 ≤ (1 + js.sum.fdiv 4).fmod 3 := Int.fmod_nonneg_of_pos _ (by decide)
    have q2 : (1 + js.sum.fdiv 4).fmod 3 < 3 := Int.fmod_lt_of_pos _ (by decide)
    exact ⟨_, (Int.toNat_of_nonneg q1).symm, by omega⟩
  rw [ha, hb']
  clear N21
  refine storeX_C (c := L + 1 + 1) F21 N22 (by rfl) (.tail (ane (by dsimp only; omega)) (.tail (ane (by dsimp only; omega)) (.tail (ane (by dsimp only; omega)) (.tail (ane (by dsimp only; omega)) (.tail (ane (by dsimp only; omega)) (.head (by intro p hp; simp only [List.mem_cons, List.not_mem_nil, or_false] at hp; rcases hp with rfl <;> exact ane (by dsimp only; omega)))))))) d2 (fun h23 o23 F23 N23 d23 => ?_) (by rfl) (by rfl)
  clear F21 N22 d2
  dsimp only
  iterate 2 (first | walk1 | (dsimp only; walk1))
  refine storeX_C (c := L + 1 + 1 + 1) F23 N23 (by rfl) (.tail (ane (by dsimp only; omega)) (.tail (ane (by dsimp only; omega)) (.tail (ane (by dsimp only; omega)) (.tail (ane (by dsimp only; omega)) (.head (by intro p hp; simp only [List.mem_cons, List.not_mem_nil, or_false] at hp; rcases hp with rfl | rfl <;> exact ane (by dsimp only; omega))))))) d3 (fun h24 o24 F24 N24 d24 => ?_) (by rfl) (by rfl)
  clear F23 N23 d3
  iterate 2 (first | walk1 | (dsimp only; walk1))
  refine storeX_C (c := L + 1 + 1 + 1 + 1) F24 N24 (by rfl) (.tail (ane (by dsimp only; omega)) (.tail (ane (by dsimp only; omega)) (.tail (ane (by dsimp only; omega)) (.head (by intro p hp; simp only [List.mem_cons, List.not_mem_nil, or_false] at hp; rcases hp with rfl | rfl | rfl <;> exact ane (by dsimp only; omega)))))) d4 (fun h25 o25 F25 N25 d25 => ?_) (by rfl) (by rfl)
  clear F24 N24 d4
  iterate 1 (first | walk1 | (dsimp only; walk1))
  exact law_end X₀ T F25 N25 d25 d24 d23 d10 hrv hy9 htb hy9l ha3 hb2 fun h' tk m' F' => hQ h' tk m' F'
end
end

section
open PySem PySem.W PySem.Challenge PyProof.Rows
set_option maxRecDepth 100000
set_option maxHeartbeats 400000
set_option Elab.async false
set_option linter.unusedVariables false
theorem head_ (hc : WalkN qv loose (XL qv []) Says (OpenLaw.row rw_rt0008_01).toRowW dL [] fun f vs => PySem.call f vs) : rw_rt0008_01.Holds := by
  w_on
  o_law
  refine holds_openN (q := qv) (loose := loose) (Xt := XtF) (XP := XL qv []) (Yf := fun s => s.heap) (Ya := endHeap) (YP := Says) (N := 20000) left2 says_of says_keeps (fun s e => xl_of s (Bool.and_eq_true_iff.mp e).1) XL.keeps dL_of dL_the dL_kw (fun s _ => recFacts_nil rfl) rfl (by assumption) ok11 ?h12 ?hw hc
  case h12 => exact ⟨rfl, rfl, rfl, rfl, rfl, by decide +kernel⟩
  case hw => w_witness2
end

section
open PySem PySem.W PySem.Calls PySem.Challenge PyProof.Rows PySem.Builtin PySem.Builtin.Str
set_option maxRecDepth 100000
set_option maxHeartbeats 1600000
set_option Elab.async false
set_option linter.unusedVariables false
theorem fill_law : (KF = KF) ∧ rw_rt0008_01 = rw_rt0008_01 := by
  k_fill
  exact ⟨rfl, rfl⟩
theorem walk_law : WalkN qv loose (XL qv []) Says (OpenLaw.row rw_rt0008_01).toRowW dL [] fun f vs => PySem.call f vs := by
  w_on
  intro w s₀ s₁ mg mb G Y fa o pm cd doc dV kV ho hd hcd hD hmg hg args vals as hpre hlay hrd hwl hlo
  have X₀ : Says w s₁.heap := Y
  refine Ground.open G ?_
  intro T B D TE TW
  clear D
  wrow_args hpre hlay hrd hwl hlo
  refine enter_callW ?_
  w_call any ho hd hcd hD T F
  refine law_core (mean := ExcName.means s₀.heap) (mg := mg) (mb := mb) (hb := s₁.heap) (is := ?is) (iv := ?iv) X₀ T (by assumption) (by assumption) ?hlen F (by assumption) (by assumption) (by assumption) (by assumption) (by assumption) fun h' tk m' F' => ?_
  case hlen => omega
  refine goodW_bool F' (by assumption) (raisesW_false ?_) ?_
  · wrow_none_raised
  · wrow_post
theorem row_ : rw_rt0008_01.Holds := head_ walk_law
end

end Mine

theorem PySem.Challenge.cw_rt0008_01_holds : PySem.Challenge.rw_rt0008_01.Holds :=
  Mine.row_
