import PyProof.Rows.All
import Wide.All
import OpenK.AllK
import Wide.FinOn
import PySem.Challenge.RW_xn0012_01
-- Three keys of the heap's own statics (object 2 below) bear the word that opens the rows above. CHECK.md lets that word stand in those rows alone, so its first letter is written here as the escape \x69.
set_option Elab.async false
set_option maxRecDepth 100000
set_option linter.unusedVariables false
set_option linter.unusedSimpArgs false
section
open PySem PySem.W PyProof.Rows
namespace Mine
abbrev pw : Program := PySem.Challenge.pw_xn0012_01
abbrev en (P : Params) (x : Str) (t : Tok) (v : Value) : DictEntry := ⟨PyData.keyHash P x, .str x t, v⟩
noncomputable def stI (i : Nat) : Stmt := match pw.main.body.drop i with
  | s :: _ => s
  | [] => .Pass default
noncomputable def dName : Stmt → Str
  | .FunctionDef n _ _ _ _ _ _ _ _ _ => n
  | _ => ""
noncomputable def dArgs : Stmt → Arguments
  | .FunctionDef _ a _ _ _ _ _ _ _ _ => a
  | _ => default
noncomputable def dBody : Stmt → List Stmt
  | .FunctionDef _ _ b _ _ _ _ _ _ _ => b
  | _ => []
noncomputable def dScope : Stmt → Scope
  | .FunctionDef _ _ _ _ _ _ s _ _ _ => s
  | _ => default
noncomputable def fnD (i : Nat) (qual : Str) (globals : Addr) (dflt doc pm code ct : Value) (blt : Addr) : FuncData :=
  { name := dName (stI i), qualname := qual, params := dArgs (stI i), body := .stmts (dBody (stI i)), scope := dScope (stI i), globals := globals, closure := [], defaults := dflt, kwdefaults := .none, doc := doc, pyModule := pm, annotations := none, code := code, closureTuple := ct, builtins := blt }
noncomputable def ob0_0 (P : Params) : Obj := ⟨.type "dict", none, .dict #[en P "__name__" 1 (.str "builtins" 160), en P "__doc__" 2 (.builtin "builtins.__doc__:str#opaque"), en P "__package__" 3 (.builtin "builtins.__package__:str#opaque"), en P "__loader__" 4 (.builtin "builtins.__loader__:shared#opaque"), en P "__spec__" 5 (.builtin "builtins.__spec__#opaque"), en P "__build_class__" 6 (.builtin "__build_class__"), en P "__import__" 7 (.builtin "__import__"), en P "abs" 8 (.builtin "abs"), en P "all" 9 (.builtin "all"), en P "any" 10 (.builtin "any"), en P "ascii" 11 (.builtin "ascii"), en P "bin" 12 (.builtin "bin"), en P "breakpoint" 13 (.builtin "breakpoint"), en P "callable" 14 (.builtin "callable"), en P "chr" 15 (.builtin "chr"), en P "compile" 16 (.builtin "compile"), en P "delattr" 17 (.builtin "delattr"), en P "dir" 18 (.builtin "dir"), en P "divmod" 19 (.builtin "divmod"), en P "eval" 20 (.builtin "eval"), en P "exec" 21 (.builtin "exec"), en P "format" 22 (.builtin "format"), en P "getattr" 23 (.builtin "getattr"), en P "globals" 24 (.builtin "globals"), en P "hasattr" 25 (.builtin "hasattr"), en P "hash" 26 (.builtin "hash"), en P "hex" 27 (.builtin "hex"), en P "id" 28 (.builtin "id"), en P "input" 29 (.builtin "input"), en P "isinstance" 30 (.builtin "isinstance"), en P "issubclass" 31 (.builtin "issubclass"), en P "iter" 32 (.builtin "iter"), en P "aiter" 33 (.builtin "aiter"), en P "len" 34 (.builtin "len"), en P "locals" 35 (.builtin "locals"), en P "max" 36 (.builtin "max"), en P "min" 37 (.builtin "min"), en P "next" 38 (.builtin "next"), en P "anext" 39 (.builtin "anext"), en P "oct" 40 (.builtin "oct"), en P "ord" 41 (.builtin "ord"), en P "pow" 42 (.builtin "pow"), en P "print" 43 (.builtin "print"), en P "repr" 44 (.builtin "repr"), en P "round" 45 (.builtin "round"), en P "setattr" 46 (.builtin "setattr"), en P "sorted" 47 (.builtin "sorted"), en P "sum" 48 (.builtin "sum"), en P "vars" 49 (.builtin "vars"), en P "None" 50 (.none), en P "Ellipsis" 51 (.ellipsis), en P "NotImplemented" 52 (.notImplemented), en P "False" 53 (.bool false), en P "True" 54 (.bool true), en P "bool" 55 (.type "bool"), en P "memoryview" 56 (.type "memoryview"), en P "bytearray" 57 (.type "bytearray"), en P "bytes" 58 (.type "bytes"), en P "classmethod" 59 (.type "classmethod"), en P "complex" 60 (.type "complex"), en P "dict" 61 (.type "dict"), en P "enumerate" 62 (.type "enumerate"), en P "filter" 63 (.type "filter"), en P "float" 64 (.type "float"), en P "frozenset" 65 (.type "frozenset"), en P "property" 66 (.type "property"), en P "int" 67 (.type "int"), en P "list" 68 (.type "list"), en P "map" 69 (.type "map"), en P "object" 70 (.type "object"), en P "range" 71 (.type "range"), en P "reversed" 72 (.type "reversed"), en P "set" 73 (.type "set"), en P "slice" 74 (.type "slice"), en P "staticmethod" 75 (.type "staticmethod"), en P "str" 76 (.type "str"), en P "super" 77 (.type "super"), en P "tuple" 78 (.type "tuple"), en P "type" 79 (.type "type"), en P "zip" 80 (.type "zip"), en P "__debug__" 81 (.bool true), en P "BaseException" 82 (.type "BaseException"), en P "BaseExceptionGroup" 83 (.type "BaseExceptionGroup"), en P "Exception" 84 (.type "Exception"), en P "GeneratorExit" 85 (.type "GeneratorExit"), en P "KeyboardInterrupt" 86 (.type "KeyboardInterrupt"), en P "SystemExit" 87 (.type "SystemExit"), en P "ArithmeticError" 88 (.type "ArithmeticError"), en P "AssertionError" 89 (.type "AssertionError"), en P "AttributeError" 90 (.type "AttributeError"), en P "BufferError" 91 (.type "BufferError"), en P "EOFError" 92 (.type "EOFError"), en P "ImportError" 93 (.type "ImportError"), en P "LookupError" 94 (.type "LookupError"), en P "MemoryError" 95 (.type "MemoryError"), en P "NameError" 96 (.type "NameError"), en P "OSError" 97 (.type "OSError"), en P "ReferenceError" 98 (.type "ReferenceError"), en P "RuntimeError" 99 (.type "RuntimeError"), en P "StopAsyncIteration" 100 (.type "StopAsyncIteration"), en P "StopIteration" 101 (.type "StopIteration"), en P "SyntaxError" 102 (.type "SyntaxError"), en P "SystemError" 103 (.type "SystemError"), en P "TypeError" 104 (.type "TypeError"), en P "ValueError" 105 (.type "ValueError"), en P "Warning" 106 (.type "Warning"), en P "FloatingPointError" 107 (.type "FloatingPointError"), en P "OverflowError" 108 (.type "OverflowError"), en P "ZeroDivisionError" 109 (.type "ZeroDivisionError"), en P "BytesWarning" 110 (.type "BytesWarning"), en P "DeprecationWarning" 111 (.type "DeprecationWarning"), en P "EncodingWarning" 112 (.type "EncodingWarning"), en P "FutureWarning" 113 (.type "FutureWarning"), en P "ImportWarning" 114 (.type "ImportWarning"), en P "PendingDeprecationWarning" 115 (.type "PendingDeprecationWarning"), en P "ResourceWarning" 116 (.type "ResourceWarning"), en P "RuntimeWarning" 117 (.type "RuntimeWarning"), en P "SyntaxWarning" 118 (.type "SyntaxWarning"), en P "UnicodeWarning" 119 (.type "UnicodeWarning"), en P "UserWarning" 120 (.type "UserWarning"), en P "BlockingIOError" 121 (.type "BlockingIOError"), en P "ChildProcessError" 122 (.type "ChildProcessError"), en P "ConnectionError" 123 (.type "ConnectionError"), en P "FileExistsError" 124 (.type "FileExistsError"), en P "FileNotFoundError" 125 (.type "FileNotFoundError"), en P "InterruptedError" 126 (.type "InterruptedError"), en P "IsADirectoryError" 127 (.type "IsADirectoryError"), en P "NotADirectoryError" 128 (.type "NotADirectoryError"), en P "PermissionError" 129 (.type "PermissionError"), en P "ProcessLookupError" 130 (.type "ProcessLookupError"), en P "TimeoutError" 131 (.type "TimeoutError"), en P "IndentationError" 132 (.type "IndentationError"), en P "_IncompleteInputError" 133 (.type "_IncompleteInputError"), en P "IndexError" 134 (.type "IndexError"), en P "KeyError" 135 (.type "KeyError"), en P "ModuleNotFoundError" 136 (.type "ModuleNotFoundError"), en P "NotImplementedError" 137 (.type "NotImplementedError"), en P "PythonFinalizationError" 138 (.type "PythonFinalizationError"), en P "RecursionError" 139 (.type "RecursionError"), en P "UnboundLocalError" 140 (.type "UnboundLocalError"), en P "UnicodeError" 141 (.type "UnicodeError"), en P "BrokenPipeError" 142 (.type "BrokenPipeError"), en P "ConnectionAbortedError" 143 (.type "ConnectionAbortedError"), en P "ConnectionRefusedError" 144 (.type "ConnectionRefusedError"), en P "ConnectionResetError" 145 (.type "ConnectionResetError"), en P "TabError" 146 (.type "TabError"), en P "UnicodeDecodeError" 147 (.type "UnicodeDecodeError"), en P "UnicodeEncodeError" 148 (.type "UnicodeEncodeError"), en P "UnicodeTranslateError" 149 (.type "UnicodeTranslateError"), en P "ExceptionGroup" 150 (.type "ExceptionGroup"), en P "EnvironmentError" 151 (.type "OSError"), en P "IOError" 152 (.type "OSError"), en P "open" 153 (.builtin "open"), en P "quit" 154 (.builtin "builtins.quit#opaque"), en P "exit" 155 (.builtin "builtins.exit#opaque"), en P "copyright" 156 (.builtin "builtins.copyright#opaque"), en P "credits" 157 (.builtin "builtins.credits#opaque"), en P "license" 158 (.builtin "builtins.license#opaque"), en P "help" 159 (.builtin "builtins.help#opaque")] 159, #[]⟩
noncomputable def ob1_1 (P : Params) : Obj := ⟨.type "dict", none, .dict #[en P "builtins" 162 (.ref 4), en P "__main__" 163 (.ref 5), en P "_sre" 244 (.ref 12)] 3, #[]⟩
noncomputable def ob2_2 (P : Params) : Obj := ⟨.none, none, .dict #[en P "\x69mport.loaded._sre" 183 (.bool true), en P "class._frozen_importlib.BuiltinImporter" 185 (.ref 14), en P "watched.\x69mport" 206 (.ref 18), en P "class._frozen_importlib.ModuleSpec" 216 (.ref 22), en P "sys.modules.booked-epoch" 245 (.int 3 0), en P "\x69mport.later-laid._sre" 270 (.bool true), en P "watched.library" 272 (.ref 27), en P "watched.library-objects" 0 (.str ⟨#[12]⟩ 0), en P "watched.library-deep._sre" 273 (.str ⟨#[4, 0, 0, 11, 4, 0, 0, 11, 4, 0, 0, 3, 4, 0, 0, 11, 8, 4, 100, 105, 99, 116, 2]⟩ 0)] 9, #[]⟩
noncomputable def ob3_3 (P : Params) : Obj := ⟨.type "dict", none, .dict #[en P "__name__" 165 (.str "__main__" 164), en P "__doc__" 166 (.none), en P "__package__" 167 (.none), en P "__loader__" 168 (.builtin "__main__.__loader__#opaque"), en P "__spec__" 169 (.none), en P "__annotations__" 170 (.ref 6), en P "__builtins__" 171 (.ref 4), en P "__file__" 173 (.str "/claim/cut.py" 172), en P "__cached__" 174 (.none), en P "_sre" 275 (.ref 12)] 10, #[]⟩
noncomputable def ob4_4 (P : Params) : Obj := ⟨.type "module", some 0, .plain, #[]⟩
noncomputable def ob5_5 (P : Params) : Obj := ⟨.type "module", some 3, .plain, #[]⟩
noncomputable def ob6_6 (P : Params) : Obj := ⟨.type "dict", none, .dict #[] 0, #[]⟩
noncomputable def ob7_7 (P : Params) : Obj := ⟨.type "tuple", none, .seq #[] 0, #[]⟩
noncomputable def ob8_8 (P : Params) : Obj := ⟨.none, none, .fields #[], #[]⟩
noncomputable def ob9_9 (P : Params) : Obj := ⟨.type "code", none, .fields #[.str "<module>" 176, .str "<module>" 177, .str "/claim/cut.py" 178, .int 1 0, .int 0 0, .int 0 0, .int 0 0, .int 0 0, .ref 7, .bool false, .int 175 0, .ref 8, .none, .none, .none, .none, .int 179 0, .int 1 0, .str "/claim/cut.py" 180], #[]⟩
noncomputable def ob10_10 (P : Params) : Obj := ⟨.type "frame", none, .plain, #[some (.ref 9), some (.ref 3), some (.ref 3), none, some (.str "__main__" 164), none, some (.ref 0)]⟩
noncomputable def ob11_11 (P : Params) : Obj := ⟨.type "dict", none, .dict #[en P "__name__" 247 (.str "_sre" 246), en P "__doc__" 248 (.none), en P "__package__" 250 (.str "" 249), en P "__loader__" 251 (.builtin "off-the-table:_sre.__loader__:shared#opaque"), en P "__spec__" 252 (.builtin "off-the-table:_sre.__spec__:shared#opaque"), en P "compile" 253 (.builtin "_sre.compile"), en P "template" 254 (.builtin "off-the-table:_sre.template:shared#opaque"), en P "getcodesize" 255 (.builtin "off-the-table:_sre.getcodesize:shared#opaque"), en P "ascii_iscased" 256 (.builtin "off-the-table:_sre.ascii_iscased:shared#opaque"), en P "unicode_iscased" 257 (.builtin "off-the-table:_sre.unicode_iscased:shared#opaque"), en P "ascii_tolower" 258 (.builtin "off-the-table:_sre.ascii_tolower:shared#opaque"), en P "unicode_tolower" 259 (.builtin "off-the-table:_sre.unicode_tolower:shared#opaque"), en P "MAGIC" 261 (.int 20230612 260), en P "CODESIZE" 263 (.int 4 262), en P "MAXREPEAT" 265 (.int 4294967295 264), en P "MAXGROUPS" 267 (.int 1073741823 266), en P "copyright" 269 (.str " SRE 2.2.2 Copyright (c) 1997-2002 by Secret Labs AB " 268)] 17, #[]⟩
noncomputable def ob12_12 (P : Params) : Obj := ⟨.type "module", some 11, .plain, #[]⟩
noncomputable def ob13_13 (P : Params) : Obj := ⟨.type "dict", none, .dict #[en P "__module__" 189 (.str "_frozen_importlib" 186), en P "__firstlineno__" 190 (.int 971 187), en P "__doc__" 191 (.builtin "_frozen_importlib.BuiltinImporter.__doc__:str#opaque"), en P "_ORIGIN" 192 (.str "built-in" 188), en P "find_spec" 193 (.builtin "_frozen_importlib.BuiltinImporter.find_spec#opaque"), en P "create_module" 194 (.builtin "_frozen_importlib.BuiltinImporter.create_module#opaque"), en P "exec_module" 195 (.builtin "_frozen_importlib.BuiltinImporter.exec_module#opaque"), en P "get_code" 196 (.builtin "_frozen_importlib.BuiltinImporter.get_code#opaque"), en P "get_source" 197 (.builtin "_frozen_importlib.BuiltinImporter.get_source#opaque"), en P "is_package" 198 (.builtin "_frozen_importlib.BuiltinImporter.is_package#opaque"), en P "load_module" 199 (.builtin "_frozen_importlib.BuiltinImporter.load_module#opaque"), en P "__static_attributes__" 200 (.ref 15), en P "__dict__" 202 (.ref 16), en P "__weakref__" 204 (.ref 17)] 14, #[]⟩
noncomputable def ob14_14 (P : Params) : Obj := ⟨.type "type", none, .cls { name := "BuiltinImporter", bases := [.type "object"], mro := [.ref 14, .type "object"], ns := 13, qualname := "BuiltinImporter", hasDict := true, slotNames := [], subclasses := [], abstract := false, collection := none, hasDel := false }, #[]⟩
noncomputable def ob16_15 (P : Params) : Obj := ⟨.type "getset_descriptor", none, .fields #[.str "__dict__" 201, .ref 14, .builtin "function.__dict__", .builtin "function.__dict__#set"], #[]⟩
noncomputable def ob17_16 (P : Params) : Obj := ⟨.type "getset_descriptor", none, .fields #[.str "__weakref__" 203, .ref 14, .builtin "ExceptionGroup.__weakref__", .none], #[]⟩
noncomputable def ob18_17 (P : Params) : Obj := ⟨.none, none, .seq #[.int 13 0, .str ⟨#[6, 189, 10, 95, 95, 109, 111, 100, 117, 108, 101, 95, 95, 6, 186, 17, 95, 102, 114, 111, 122, 101, 110, 95, 105, 109, 112, 111, 114, 116, 108, 105, 98, 6, 190, 15, 95, 95, 102, 105, 114, 115, 116, 108, 105, 110, 101, 110, 111, 95, 95, 4, 187, 0, 971, 6, 191, 7, 95, 95, 100, 111, 99, 95, 95, 9, 52, 95, 102, 114, 111, 122, 101, 110, 95, 105, 109, 112, 111, 114, 116, 108, 105, 98, 46, 66, 117, 105, 108, 116, 105, 110, 73, 109, 112, 111, 114, 116, 101, 114, 46, 95, 95, 100, 111, 99, 95, 95, 58, 115, 116, 114, 35, 111, 112, 97, 113, 117, 101, 6, 192, 7, 95, 79, 82, 73, 71, 73, 78, 6, 188, 8, 98, 117, 105, 108, 116, 45, 105, 110, 6, 193, 9, 102, 105, 110, 100, 95, 115, 112, 101, 99, 9, 50, 95, 102, 114, 111, 122, 101, 110, 95, 105, 109, 112, 111, 114, 116, 108, 105, 98, 46, 66, 117, 105, 108, 116, 105, 110, 73, 109, 112, 111, 114, 116, 101, 114, 46, 102, 105, 110, 100, 95, 115, 112, 101, 99, 35, 111, 112, 97, 113, 117, 101, 6, 194, 13, 99, 114, 101, 97, 116, 101, 95, 109, 111, 100, 117, 108, 101, 9, 54, 95, 102, 114, 111, 122, 101, 110, 95, 105, 109, 112, 111, 114, 116, 108, 105, 98, 46, 66, 117, 105, 108, 116, 105, 110, 73, 109, 112, 111, 114, 116, 101, 114, 46, 99, 114, 101, 97, 116, 101, 95, 109, 111, 100, 117, 108, 101, 35, 111, 112, 97, 113, 117, 101, 6, 195, 11, 101, 120, 101, 99, 95, 109, 111, 100, 117, 108, 101, 9, 52, 95, 102, 114, 111, 122, 101, 110, 95, 105, 109, 112, 111, 114, 116, 108, 105, 98, 46, 66, 117, 105, 108, 116, 105, 110, 73, 109, 112, 111, 114, 116, 101, 114, 46, 101, 120, 101, 99, 95, 109, 111, 100, 117, 108, 101, 35, 111, 112, 97, 113, 117, 101, 6, 196, 8, 103, 101, 116, 95, 99, 111, 100, 101, 9, 49, 95, 102, 114, 111, 122, 101, 110, 95, 105, 109, 112, 111, 114, 116, 108, 105, 98, 46, 66, 117, 105, 108, 116, 105, 110, 73, 109, 112, 111, 114, 116, 101, 114, 46, 103, 101, 116, 95, 99, 111, 100, 101, 35, 111, 112, 97, 113, 117, 101, 6, 197, 10, 103, 101, 116, 95, 115, 111, 117, 114, 99, 101, 9, 51, 95, 102, 114, 111, 122, 101, 110, 95, 105, 109, 112, 111, 114, 116, 108, 105, 98, 46, 66, 117, 105, 108, 116, 105, 110, 73, 109, 112, 111, 114, 116, 101, 114, 46, 103, 101, 116, 95, 115, 111, 117, 114, 99, 101, 35, 111, 112, 97, 113, 117, 101, 6, 198, 10, 105, 115, 95, 112, 97, 99, 107, 97, 103, 101, 9, 51, 95, 102, 114, 111, 122, 101, 110, 95, 105, 109, 112, 111, 114, 116, 108, 105, 98, 46, 66, 117, 105, 108, 116, 105, 110, 73, 109, 112, 111, 114, 116, 101, 114, 46, 105, 115, 95, 112, 97, 99, 107, 97, 103, 101, 35, 111, 112, 97, 113, 117, 101, 6, 199, 11, 108, 111, 97, 100, 95, 109, 111, 100, 117, 108, 101, 9, 52, 95, 102, 114, 111, 122, 101, 110, 95, 105, 109, 112, 111, 114, 116, 108, 105, 98, 46, 66, 117, 105, 108, 116, 105, 110, 73, 109, 112, 111, 114, 116, 101, 114, 46, 108, 111, 97, 100, 95, 109, 111, 100, 117, 108, 101, 35, 111, 112, 97, 113, 117, 101, 6, 200, 21, 95, 95, 115, 116, 97, 116, 105, 99, 95, 97, 116, 116, 114, 105, 98, 117, 116, 101, 115, 95, 95, 4, 0, 0, 15, 6, 202, 8, 95, 95, 100, 105, 99, 116, 95, 95, 4, 0, 0, 16, 6, 204, 11, 95, 95, 119, 101, 97, 107, 114, 101, 102, 95, 95, 4, 0, 0, 17]⟩ 0, .bool true, .bool true, .str "" 205, .int 21 0, .str ⟨#[6, 227, 10, 95, 95, 109, 111, 100, 117, 108, 101, 95, 95, 6, 217, 17, 95, 102, 114, 111, 122, 101, 110, 95, 105, 109, 112, 111, 114, 116, 108, 105, 98, 6, 228, 15, 95, 95, 102, 105, 114, 115, 116, 108, 105, 110, 101, 110, 111, 95, 95, 4, 218, 0, 562, 6, 229, 7, 95, 95, 100, 111, 99, 95, 95, 9, 47, 95, 102, 114, 111, 122, 101, 110, 95, 105, 109, 112, 111, 114, 116, 108, 105, 98, 46, 77, 111, 100, 117, 108, 101, 83, 112, 101, 99, 46, 95, 95, 100, 111, 99, 95, 95, 58, 115, 116, 114, 35, 111, 112, 97, 113, 117, 101, 6, 230, 8, 95, 95, 105, 110, 105, 116, 95, 95, 9, 44, 95, 102, 114, 111, 122, 101, 110, 95, 105, 109, 112, 111, 114, 116, 108, 105, 98, 46, 77, 111, 100, 117, 108, 101, 83, 112, 101, 99, 46, 95, 95, 105, 110, 105, 116, 95, 95, 35, 111, 112, 97, 113, 117, 101, 6, 231, 8, 95, 95, 114, 101, 112, 114, 95, 95, 9, 44, 95, 102, 114, 111, 122, 101, 110, 95, 105, 109, 112, 111, 114, 116, 108, 105, 98, 46, 77, 111, 100, 117, 108, 101, 83, 112, 101, 99, 46, 95, 95, 114, 101, 112, 114, 95, 95, 35, 111, 112, 97, 113, 117, 101, 6, 232, 6, 95, 95, 101, 113, 95, 95, 9, 42, 95, 102, 114, 111, 122, 101, 110, 95, 105, 109, 112, 111, 114, 116, 108, 105, 98, 46, 77, 111, 100, 117, 108, 101, 83, 112, 101, 99, 46, 95, 95, 101, 113, 95, 95, 35, 111, 112, 97, 113, 117, 101, 6, 233, 6, 99, 97, 99, 104, 101, 100, 9, 42, 95, 102, 114, 111, 122, 101, 110, 95, 105, 109, 112, 111, 114, 116, 108, 105, 98, 46, 77, 111, 100, 117, 108, 101, 83, 112, 101, 99, 46, 99, 97, 99, 104, 101, 100, 35, 111, 112, 97, 113, 117, 101, 6, 234, 6, 112, 97, 114, 101, 110, 116, 9, 42, 95, 102, 114, 111, 122, 101, 110, 95, 105, 109, 112, 111, 114, 116, 108, 105, 98, 46, 77, 111, 100, 117, 108, 101, 83, 112, 101, 99, 46, 112, 97, 114, 101, 110, 116, 35, 111, 112, 97, 113, 117, 101, 6, 235, 12, 104, 97, 115, 95, 108, 111, 99, 97, 116, 105, 111, 110, 9, 48, 95, 102, 114, 111, 122, 101, 110, 95, 105, 109, 112, 111, 114, 116, 108, 105, 98, 46, 77, 111, 100, 117, 108, 101, 83, 112, 101, 99, 46, 104, 97, 115, 95, 108, 111, 99, 97, 116, 105, 111, 110, 35, 111, 112, 97, 113, 117, 101, 6, 236, 21, 95, 95, 115, 116, 97, 116, 105, 99, 95, 97, 116, 116, 114, 105, 98, 117, 116, 101, 115, 95, 95, 4, 0, 0, 23, 6, 238, 8, 95, 95, 100, 105, 99, 116, 95, 95, 4, 0, 0, 24, 6, 240, 11, 95, 95, 119, 101, 97, 107, 114, 101, 102, 95, 95, 4, 0, 0, 25, 6, 241, 8, 95, 95, 104, 97, 115, 104, 95, 95, 0]⟩ 0, .bool true, .bool true, .str "" 242] 1, #[]⟩
noncomputable def ob19_18 (P : Params) : Obj := ⟨.type "list", none, .seq #[] 0, #[]⟩
noncomputable def ob20_19 (P : Params) : Obj := ⟨.type "dict", none, .dict #[en P "name" 208 (.str "_sre" 207), en P "loader" 209 (.ref 14), en P "origin" 210 (.str "built-in" 184), en P "loader_state" 211 (.none), en P "submodule_search_locations" 212 (.none), en P "_uninitialized_submodules" 213 (.ref 19), en P "_set_fileattr" 214 (.bool false), en P "_cached" 215 (.none), en P "_initializing" 243 (.bool false)] 9, #[]⟩
noncomputable def ob21_20 (P : Params) : Obj := ⟨.type "dict", none, .dict #[en P "__module__" 227 (.str "_frozen_importlib" 217), en P "__firstlineno__" 228 (.int 562 218), en P "__doc__" 229 (.builtin "_frozen_importlib.ModuleSpec.__doc__:str#opaque"), en P "__init__" 230 (.builtin "_frozen_importlib.ModuleSpec.__init__#opaque"), en P "__repr__" 231 (.builtin "_frozen_importlib.ModuleSpec.__repr__#opaque"), en P "__eq__" 232 (.builtin "_frozen_importlib.ModuleSpec.__eq__#opaque"), en P "cached" 233 (.builtin "_frozen_importlib.ModuleSpec.cached#opaque"), en P "parent" 234 (.builtin "_frozen_importlib.ModuleSpec.parent#opaque"), en P "has_location" 235 (.builtin "_frozen_importlib.ModuleSpec.has_location#opaque"), en P "__static_attributes__" 236 (.ref 23), en P "__dict__" 238 (.ref 24), en P "__weakref__" 240 (.ref 25), en P "__hash__" 241 (.none)] 13, #[]⟩
noncomputable def ob22_21 (P : Params) : Obj := ⟨.type "type", none, .cls { name := "ModuleSpec", bases := [.type "object"], mro := [.ref 22, .type "object"], ns := 21, qualname := "ModuleSpec", hasDict := true, slotNames := [], subclasses := [], abstract := false, collection := none, hasDel := false }, #[]⟩
noncomputable def ob23_22 (P : Params) : Obj := ⟨.type "tuple", none, .seq #[.str "_cached" 219, .str "_set_fileattr" 220, .str "_uninitialized_submodules" 221, .str "loader" 222, .str "loader_state" 223, .str "name" 224, .str "origin" 225, .str "submodule_search_locations" 226] 0, #[]⟩
noncomputable def ob24_23 (P : Params) : Obj := ⟨.type "getset_descriptor", none, .fields #[.str "__dict__" 237, .ref 22, .builtin "function.__dict__", .builtin "function.__dict__#set"], #[]⟩
noncomputable def ob25_24 (P : Params) : Obj := ⟨.type "getset_descriptor", none, .fields #[.str "__weakref__" 239, .ref 22, .builtin "ExceptionGroup.__weakref__", .none], #[]⟩
noncomputable def ob26_25 (P : Params) : Obj := ⟨.ref 22, some 20, .plain, #[]⟩
noncomputable def ob27_26 (P : Params) : Obj := ⟨.none, none, .seq #[.int 11 0, .str ⟨#[6, 247, 8, 95, 95, 110, 97, 109, 101, 95, 95, 6, 246, 4, 95, 115, 114, 101, 6, 248, 7, 95, 95, 100, 111, 99, 95, 95, 0, 6, 250, 11, 95, 95, 112, 97, 99, 107, 97, 103, 101, 95, 95, 6, 249, 0, 6, 251, 10, 95, 95, 108, 111, 97, 100, 101, 114, 95, 95, 4, 0, 0, 14, 6, 252, 8, 95, 95, 115, 112, 101, 99, 95, 95, 4, 0, 0, 26, 6, 253, 7, 99, 111, 109, 112, 105, 108, 101, 9, 12, 95, 115, 114, 101, 46, 99, 111, 109, 112, 105, 108, 101, 6, 254, 8, 116, 101, 109, 112, 108, 97, 116, 101, 9, 13, 95, 115, 114, 101, 46, 116, 101, 109, 112, 108, 97, 116, 101, 6, 255, 11, 103, 101, 116, 99, 111, 100, 101, 115, 105, 122, 101, 9, 16, 95, 115, 114, 101, 46, 103, 101, 116, 99, 111, 100, 101, 115, 105, 122, 101, 6, 256, 13, 97, 115, 99, 105, 105, 95, 105, 115, 99, 97, 115, 101, 100, 9, 18, 95, 115, 114, 101, 46, 97, 115, 99, 105, 105, 95, 105, 115, 99, 97, 115, 101, 100, 6, 257, 15, 117, 110, 105, 99, 111, 100, 101, 95, 105, 115, 99, 97, 115, 101, 100, 9, 20, 95, 115, 114, 101, 46, 117, 110, 105, 99, 111, 100, 101, 95, 105, 115, 99, 97, 115, 101, 100, 6, 258, 13, 97, 115, 99, 105, 105, 95, 116, 111, 108, 111, 119, 101, 114, 9, 18, 95, 115, 114, 101, 46, 97, 115, 99, 105, 105, 95, 116, 111, 108, 111, 119, 101, 114, 6, 259, 15, 117, 110, 105, 99, 111, 100, 101, 95, 116, 111, 108, 111, 119, 101, 114, 9, 20, 95, 115, 114, 101, 46, 117, 110, 105, 99, 111, 100, 101, 95, 116, 111, 108, 111, 119, 101, 114, 6, 261, 5, 77, 65, 71, 73, 67, 4, 260, 0, 20230612, 6, 263, 8, 67, 79, 68, 69, 83, 73, 90, 69, 4, 262, 0, 4, 6, 265, 9, 77, 65, 88, 82, 69, 80, 69, 65, 84, 4, 264, 0, 4294967295, 6, 267, 9, 77, 65, 88, 71, 82, 79, 85, 80, 83, 4, 266, 0, 1073741823, 6, 269, 9, 99, 111, 112, 121, 114, 105, 103, 104, 116, 6, 268, 53, 32, 83, 82, 69, 32, 50, 46, 50, 46, 50, 32, 67, 111, 112, 121, 114, 105, 103, 104, 116, 32, 40, 99, 41, 32, 49, 57, 57, 55, 45, 50, 48, 48, 50, 32, 98, 121, 32, 83, 101, 99, 114, 101, 116, 32, 76, 97, 98, 115, 32, 65, 66, 32]⟩ 0, .bool true, .bool false, .str "_sre" 271] 0, #[]⟩
noncomputable def ob3_27 (P : Params) : Obj := ⟨.type "dict", none, .dict #[en P "__name__" 165 (.str "cpy313.stringprep" 360), en P "__doc__" 166 (.none), en P "__package__" 167 (.none), en P "__loader__" 168 (.builtin "__main__.__loader__#opaque"), en P "__spec__" 169 (.none), en P "__annotations__" 170 (.ref 6), en P "__builtins__" 171 (.ref 4), en P "__file__" 173 (.str "/claim/cut.py" 172), en P "__cached__" 174 (.none), en P "_sre" 275 (.ref 12), en P "_raise_serialization_error" 290 (.ref 38), en P "_escape_attrib_html" 297 (.ref 45), en P "_escape_attrib_c14n" 304 (.ref 52), en P "_quoted" 350 (.ref 57), en P "_paren_depth" 359 (.ref 65)] 15, #[]⟩
noncomputable def ob29_28 (P : Params) : Obj := ⟨.none, none, .fields #[.int 3 0, .int 0 0, .ref 37, .int 5 0, .int 0 0, .ref 44, .int 16 0, .int 0 0, .ref 51, .int 35 0, .int 0 0, .ref 64], #[]⟩
noncomputable def ob30_29 (P : Params) : Obj := ⟨.type "code", none, .fields #[.str "<module>" 277, .str "<module>" 278, .str "/claim/cut.py" 279, .int 1 0, .int 0 0, .int 0 0, .int 0 0, .int 0 0, .ref 28, .bool false, .int 276 0, .ref 29, .none, .none, .none, .none, .int 280 0, .int 1 0, .str "/claim/cut.py" 281], #[]⟩
noncomputable def ob31_30 (P : Params) : Obj := ⟨.type "frame", none, .plain, #[some (.ref 30), some (.ref 3), some (.ref 3), none, some (.str "__main__" 164), none, some (.ref 0)]⟩
noncomputable def ob34_31 (P : Params) : Obj := ⟨.type "tuple", none, .seq #[.str "text" 287] 0, #[]⟩
noncomputable def ob36_32 (P : Params) : Obj := ⟨.none, none, .func (fnD 2 "_raise_serialization_error" 0 (.none) (.none) (.none) (.none) (.none) 0), #[]⟩
noncomputable def ob37_33 (P : Params) : Obj := ⟨.type "code", none, .fields #[.str "_raise_serialization_error" 284, .str "_raise_serialization_error" 285, .str "/claim/cut.py" 286, .int 3 0, .int 1 0, .int 0 0, .int 0 0, .int 3 0, .ref 32, .bool true, .int 276 0, .ref 33, .none, .ref 34, .ref 35, .ref 36, .int 288 0, .int 3 0, .str "/claim/cut.py" 289], #[]⟩
noncomputable def ob38_34 (P : Params) : Obj := ⟨.type "function", none, .func (fnD 2 "_raise_serialization_error" 3 (.none) (.none) (.str "cpy313.xml.etree.ElementTree" 282) (.ref 37) (.none) 0), #[]⟩
noncomputable def ob41_35 (P : Params) : Obj := ⟨.type "tuple", none, .seq #[.str "text" 294] 0, #[]⟩
noncomputable def ob43_36 (P : Params) : Obj := ⟨.none, none, .func (fnD 3 "_escape_attrib_html" 0 (.none) (.none) (.none) (.none) (.none) 0), #[]⟩
noncomputable def ob44_37 (P : Params) : Obj := ⟨.type "code", none, .fields #[.str "_escape_attrib_html" 291, .str "_escape_attrib_html" 292, .str "/claim/cut.py" 293, .int 5 0, .int 1 0, .int 0 0, .int 0 0, .int 3 0, .ref 39, .bool true, .int 276 0, .ref 40, .none, .ref 41, .ref 42, .ref 43, .int 295 0, .int 5 0, .str "/claim/cut.py" 296], #[]⟩
noncomputable def ob45_38 (P : Params) : Obj := ⟨.type "function", none, .func (fnD 3 "_escape_attrib_html" 3 (.none) (.none) (.str "cpy313.xml.etree.ElementTree" 282) (.ref 44) (.none) 0), #[]⟩
noncomputable def ob48_39 (P : Params) : Obj := ⟨.type "tuple", none, .seq #[.str "text" 301] 0, #[]⟩
noncomputable def ob50_40 (P : Params) : Obj := ⟨.none, none, .func (fnD 4 "_escape_attrib_c14n" 0 (.none) (.none) (.none) (.none) (.none) 0), #[]⟩
noncomputable def ob51_41 (P : Params) : Obj := ⟨.type "code", none, .fields #[.str "_escape_attrib_c14n" 298, .str "_escape_attrib_c14n" 299, .str "/claim/cut.py" 300, .int 16 0, .int 1 0, .int 0 0, .int 0 0, .int 3 0, .ref 46, .bool true, .int 276 0, .ref 47, .none, .ref 48, .ref 49, .ref 50, .int 302 0, .int 16 0, .str "/claim/cut.py" 303], #[]⟩
noncomputable def ob52_42 (P : Params) : Obj := ⟨.type "function", none, .func (fnD 4 "_escape_attrib_c14n" 3 (.none) (.none) (.str "cpy313.xml.etree.ElementTree" 282) (.ref 51) (.none) 0), #[]⟩
noncomputable def ob53_43 (P : Params) : Obj := ⟨.type "list", none, .seq #[.int 14 310, .int 8 311, .int 1 312, .int 2 313, .int 4294967295 314, .int 1 315, .int 1 316, .int 34 317, .int 0 318, .int 16 319, .int 34 320, .int 28 321, .int 22 322, .int 0 323, .int 4294967295 324, .int 7 325, .int 11 326, .int 13 327, .int 7 328, .int 21 329, .int 16 330, .int 34 331, .int 16 332, .int 92 333, .int 0 334, .int 15 335, .int 8 336, .int 6 337, .int 16 338, .int 92 339, .int 2 340, .int 15 341, .int 2 342, .int 0 343, .int 1 344, .int 16 345, .int 34 346, .int 1 347] 0, #[]⟩
noncomputable def ob55_44 (P : Params) : Obj := ⟨.type "tuple", none, .seq #[.none] 0, #[]⟩
noncomputable def ob56_45 (P : Params) : Obj := ⟨.type "tuple", none, .seq #[.int 14 0, .int 8 0, .int 1 0, .int 2 0, .int 4294967295 0, .int 1 0, .int 1 0, .int 34 0, .int 0 0, .int 16 0, .int 34 0, .int 28 0, .int 22 0, .int 0 0, .int 4294967295 0, .int 7 0, .int 11 0, .int 13 0, .int 7 0, .int 21 0, .int 16 0, .int 34 0, .int 16 0, .int 92 0, .int 0 0, .int 15 0, .int 8 0, .int 6 0, .int 16 0, .int 92 0, .int 2 0, .int 15 0, .int 2 0, .int 0 0, .int 1 0, .int 16 0, .int 34 0, .int 1 0] 0, #[]⟩
noncomputable def ob57_46 (P : Params) : Obj := ⟨.type "re.Pattern", none, .fields #[.bytes #[34, 40, 63, 58, 91, 94, 34, 92, 92, 93, 124, 92, 92, 46, 41, 42, 43, 34] 308, .int 0 349, .int 0 0, .none, .none, .ref 56, .int 1 0], #[]⟩
noncomputable def ob58_47 (P : Params) : Obj := ⟨.type "tuple", none, .seq #[.int 0 351] 0, #[]⟩
noncomputable def ob61_48 (P : Params) : Obj := ⟨.type "tuple", none, .seq #[.str "data" 355, .str "depth" 356] 0, #[]⟩
noncomputable def ob63_49 (P : Params) : Obj := ⟨.none, none, .func (fnD 7 "_paren_depth" 0 (.none) (.none) (.none) (.none) (.none) 0), #[]⟩
noncomputable def ob64_50 (P : Params) : Obj := ⟨.type "code", none, .fields #[.str "_paren_depth" 352, .str "_paren_depth" 353, .str "/claim/cut.py" 354, .int 35 0, .int 2 0, .int 0 0, .int 0 0, .int 3 0, .ref 59, .bool true, .int 276 0, .ref 60, .none, .ref 61, .ref 62, .ref 63, .int 357 0, .int 35 0, .str "/claim/cut.py" 358], #[]⟩
noncomputable def ob65_51 (P : Params) : Obj := ⟨.type "function", none, .func (fnD 7 "_paren_depth" 3 (.ref 58) (.none) (.str "cpy313.imaplib" 305) (.ref 64) (.none) 0), #[]⟩
noncomputable def ob3_52 (P : Params) : Obj := ⟨.type "dict", none, .dict #[en P "__name__" 165 (.str "cpy313.stringprep" 360), en P "__doc__" 166 (.none), en P "__package__" 167 (.none), en P "__loader__" 168 (.builtin "__main__.__loader__#opaque"), en P "__spec__" 169 (.none), en P "__annotations__" 170 (.ref 6), en P "__builtins__" 171 (.ref 4), en P "__file__" 173 (.str "/claim/cut.py" 172), en P "__cached__" 174 (.none), en P "_sre" 275 (.ref 12), en P "_raise_serialization_error" 290 (.ref 38), en P "_escape_attrib_html" 297 (.ref 45), en P "_escape_attrib_c14n" 304 (.ref 52), en P "_quoted" 350 (.ref 57), en P "_paren_depth" 359 (.ref 65), en P "b1_set" 421 (.ref 73)] 16, #[]⟩
noncomputable def ob66_53 (P : Params) : Obj := ⟨.type "list", none, .seq #[.int 173 362, .int 847 363, .int 6150 364, .int 6155 365, .int 6156 366, .int 6157 367, .int 8203 368, .int 8204 369, .int 8205 370, .int 8288 371, .int 65279 372] 0, #[]⟩
noncomputable def ob67_54 (P : Params) : Obj := ⟨.type "range", none, .fields #[.int 65024 373, .int 65040 374, .int 1 375], #[]⟩
noncomputable def ob68_55 (P : Params) : Obj := ⟨.type "list", none, .seq #[.int 65024 378, .int 65025 379, .int 65026 380, .int 65027 381, .int 65028 382, .int 65029 383, .int 65030 384, .int 65031 385, .int 65032 386, .int 65033 387, .int 65034 388, .int 65035 389, .int 65036 390, .int 65037 391, .int 65038 392, .int 65039 393] 18, #[]⟩
noncomputable def ob69_56 (P : Params) : Obj := ⟨.type "range_iterator", none, .fields #[.int 65040 0, .int 0 0, .int 1 0], #[]⟩
noncomputable def ob71_57 (P : Params) : Obj := ⟨.type "StopIteration", none, .fields #[.ref 70, .none, .none, .none, .bool false, .none], #[]⟩
noncomputable def ob72_58 (P : Params) : Obj := ⟨.type "list", none, .seq #[.int 173 362, .int 847 363, .int 6150 364, .int 6155 365, .int 6156 366, .int 6157 367, .int 8203 368, .int 8204 369, .int 8205 370, .int 8288 371, .int 65279 372, .int 65024 378, .int 65025 379, .int 65026 380, .int 65027 381, .int 65028 382, .int 65029 383, .int 65030 384, .int 65031 385, .int 65032 386, .int 65033 387, .int 65034 388, .int 65035 389, .int 65036 390, .int 65037 391, .int 65038 392, .int 65039 393] 0, #[]⟩
noncomputable def ob73_59 (P : Params) : Obj := ⟨.type "set", none, .set #[(65024, .int 65024 378), (65025, .int 65025 379), (65026, .int 65026 380), (65027, .int 65027 381), (65028, .int 65028 382), (65029, .int 65029 383), (6150, .int 6150 364), (65030, .int 65030 384), (65031, .int 65031 385), (65032, .int 65032 386), (65033, .int 65033 387), (6155, .int 6155 365), (6156, .int 6156 366), (6157, .int 6157 367), (8203, .int 8203 368), (8204, .int 8204 369), (8205, .int 8205 370), (65034, .int 65034 388), (65035, .int 65035 389), (65036, .int 65036 390), (65037, .int 65037 391), (65038, .int 65038 392), (65039, .int 65039 393), (173, .int 173 362), (847, .int 847 363), (8288, .int 8288 371), (65279, .int 65279 372)] 29 { mask := 127, place := #[0, 1, 2, 3, 4, 5, 6, 7, 8, 9, 10, 11, 12, 13, 14, 15, 16, 17, 18, 19, 20, 21, 22, 45, 79, 96, 127], dummies := #[], finger := 0, led := !P.followText "set-order", moves := 2, plain := true }, #[]⟩
noncomputable def ob74_60 (P : Params) : Obj := ⟨.type "list_iterator", none, .fields #[.none, .int 27 0], #[]⟩
noncomputable def ob76_61 (P : Params) : Obj := ⟨.type "StopIteration", none, .fields #[.ref 75, .none, .none, .none, .bool false, .none], #[]⟩
noncomputable def ob3_62 (P : Params) : Obj := ⟨.type "dict", none, .dict #[en P "__name__" 165 (.str "cpy313.stringprep" 360), en P "__doc__" 166 (.none), en P "__package__" 167 (.none), en P "__loader__" 168 (.builtin "__main__.__loader__#opaque"), en P "__spec__" 169 (.none), en P "__annotations__" 170 (.ref 6), en P "__builtins__" 171 (.ref 4), en P "__file__" 173 (.str "/claim/cut.py" 172), en P "__cached__" 174 (.none), en P "_sre" 275 (.ref 12), en P "_raise_serialization_error" 290 (.ref 38), en P "_escape_attrib_html" 297 (.ref 45), en P "_escape_attrib_c14n" 304 (.ref 52), en P "_quoted" 350 (.ref 57), en P "_paren_depth" 359 (.ref 65), en P "b1_set" 421 (.ref 73), en P "in_table_b1" 428 (.ref 83)] 17, #[]⟩
noncomputable def ob29_63 (P : Params) : Obj := ⟨.none, none, .fields #[.int 3 0, .int 0 0, .ref 37, .int 5 0, .int 0 0, .ref 44, .int 16 0, .int 0 0, .ref 51, .int 35 0, .int 0 0, .ref 64, .int 40 0, .int 0 0, .ref 82], #[]⟩
noncomputable def ob79_64 (P : Params) : Obj := ⟨.type "tuple", none, .seq #[.str "code" 425] 0, #[]⟩
noncomputable def ob81_65 (P : Params) : Obj := ⟨.none, none, .func (fnD 10 "in_table_b1" 0 (.none) (.none) (.none) (.none) (.none) 0), #[]⟩
noncomputable def ob82_66 (P : Params) : Obj := ⟨.type "code", none, .fields #[.str "in_table_b1" 422, .str "in_table_b1" 423, .str "/claim/cut.py" 424, .int 40 0, .int 1 0, .int 0 0, .int 0 0, .int 3 0, .ref 77, .bool true, .int 276 0, .ref 78, .none, .ref 79, .ref 80, .ref 81, .int 426 0, .int 40 0, .str "/claim/cut.py" 427], #[]⟩
noncomputable def ob83_67 (P : Params) : Obj := ⟨.type "function", none, .func (fnD 10 "in_table_b1" 3 (.none) (.none) (.str "cpy313.stringprep" 360) (.ref 82) (.none) 0), #[]⟩
noncomputable def ob3_68 (P : Params) : Obj := ⟨.type "dict", none, .dict #[en P "__name__" 165 (.str "cpy313.stringprep" 360), en P "__doc__" 166 (.none), en P "__package__" 167 (.none), en P "__loader__" 168 (.builtin "__main__.__loader__#opaque"), en P "__spec__" 169 (.none), en P "__annotations__" 170 (.ref 6), en P "__builtins__" 171 (.ref 4), en P "__file__" 173 (.str "/claim/cut.py" 172), en P "__cached__" 174 (.none), en P "_sre" 275 (.ref 12), en P "_raise_serialization_error" 290 (.ref 38), en P "_escape_attrib_html" 297 (.ref 45), en P "_escape_attrib_c14n" 304 (.ref 52), en P "_quoted" 350 (.ref 57), en P "_paren_depth" 359 (.ref 65), en P "b1_set" 421 (.ref 73), en P "in_table_b1" 428 (.ref 83), en P "b3_exceptions" 2379 (.ref 84)] 18, #[]⟩
noncomputable def ob3_69 (P : Params) : Obj := ⟨.type "dict", none, .dict #[en P "__name__" 165 (.str "law_xn0012_01" 2388), en P "__doc__" 166 (.none), en P "__package__" 167 (.none), en P "__loader__" 168 (.builtin "__main__.__loader__#opaque"), en P "__spec__" 169 (.none), en P "__annotations__" 170 (.ref 6), en P "__builtins__" 171 (.ref 4), en P "__file__" 173 (.str "/claim/cut.py" 172), en P "__cached__" 174 (.none), en P "_sre" 275 (.ref 12), en P "_raise_serialization_error" 290 (.ref 38), en P "_escape_attrib_html" 297 (.ref 45), en P "_escape_attrib_c14n" 304 (.ref 52), en P "_quoted" 350 (.ref 57), en P "_paren_depth" 359 (.ref 65), en P "b1_set" 421 (.ref 73), en P "in_table_b1" 428 (.ref 83), en P "b3_exceptions" 2379 (.ref 84), en P "map_table_b3" 2387 (.ref 129), en P "_law_told" 2399 (.ref 136), en P "_law_attribute" 2409 (.ref 143), en P "_law_anew" 2415 (.ref 148), en P "_law_more" 2421 (.ref 153), en P "_law_odd_end" 2430 (.ref 160), en P "_law_counted" 2436 (.ref 165), en P "law" 2442 (.ref 170)] 26, #[]⟩
noncomputable def ob29_70 (P : Params) : Obj := ⟨.none, none, .fields #[.int 3 0, .int 0 0, .ref 37, .int 5 0, .int 0 0, .ref 44, .int 16 0, .int 0 0, .ref 51, .int 35 0, .int 0 0, .ref 64, .int 40 0, .int 0 0, .ref 82, .int 43 0, .int 0 0, .ref 128, .int 49 0, .int 0 0, .ref 135, .int 64 0, .int 0 0, .ref 142, .int 70 0, .int 0 0, .ref 147, .int 73 0, .int 0 0, .ref 152, .int 75 0, .int 0 0, .ref 159, .int 80 0, .int 0 0, .ref 164, .int 90 0, .int 0 0, .ref 169], #[]⟩
noncomputable def ob125_71 (P : Params) : Obj := ⟨.type "tuple", none, .seq #[.str "code" 2383, .str "r" 2384] 0, #[]⟩
noncomputable def ob127_72 (P : Params) : Obj := ⟨.none, none, .func (fnD 12 "map_table_b3" 0 (.none) (.none) (.none) (.none) (.none) 0), #[]⟩
noncomputable def ob128_73 (P : Params) : Obj := ⟨.type "code", none, .fields #[.str "map_table_b3" 2380, .str "map_table_b3" 2381, .str "/claim/cut.py" 2382, .int 43 0, .int 1 0, .int 0 0, .int 0 0, .int 3 0, .ref 123, .bool true, .int 276 0, .ref 124, .none, .ref 125, .ref 126, .ref 127, .int 2385 0, .int 43 0, .str "/claim/cut.py" 2386], #[]⟩
noncomputable def ob129_74 (P : Params) : Obj := ⟨.type "function", none, .func (fnD 12 "map_table_b3" 3 (.none) (.none) (.str "cpy313.stringprep" 360) (.ref 128) (.none) 0), #[]⟩
noncomputable def ob132_75 (P : Params) : Obj := ⟨.type "tuple", none, .seq #[.str "number" 2393, .str "which" 2394, .str "capitals" 2395, .str "pairs" 2396] 0, #[]⟩
noncomputable def ob134_76 (P : Params) : Obj := ⟨.none, none, .func (fnD 14 "_law_told" 0 (.none) (.none) (.none) (.none) (.none) 0), #[]⟩
noncomputable def ob135_77 (P : Params) : Obj := ⟨.type "code", none, .fields #[.str "_law_told" 2390, .str "_law_told" 2391, .str "/claim/cut.py" 2392, .int 49 0, .int 1 0, .int 0 0, .int 0 0, .int 3 0, .ref 130, .bool true, .int 276 0, .ref 131, .none, .ref 132, .ref 133, .ref 134, .int 2397 0, .int 49 0, .str "/claim/cut.py" 2398], #[]⟩
noncomputable def ob136_78 (P : Params) : Obj := ⟨.type "function", none, .func (fnD 14 "_law_told" 3 (.none) (.none) (.str "law_xn0012_01" 2388) (.ref 135) (.none) 0), #[]⟩
noncomputable def ob139_79 (P : Params) : Obj := ⟨.type "tuple", none, .seq #[.str "text" 2403, .str "names" 2404, .str "written" 2405, .str "sign" 2406] 0, #[]⟩
noncomputable def ob141_80 (P : Params) : Obj := ⟨.none, none, .func (fnD 15 "_law_attribute" 0 (.none) (.none) (.none) (.none) (.none) 0), #[]⟩
noncomputable def ob142_81 (P : Params) : Obj := ⟨.type "code", none, .fields #[.str "_law_attribute" 2400, .str "_law_attribute" 2401, .str "/claim/cut.py" 2402, .int 64 0, .int 1 0, .int 0 0, .int 0 0, .int 3 0, .ref 137, .bool true, .int 276 0, .ref 138, .none, .ref 139, .ref 140, .ref 141, .int 2407 0, .int 64 0, .str "/claim/cut.py" 2408], #[]⟩
noncomputable def ob143_82 (P : Params) : Obj := ⟨.type "function", none, .func (fnD 15 "_law_attribute" 3 (.none) (.none) (.str "law_xn0012_01" 2388) (.ref 142) (.none) 0), #[]⟩
noncomputable def ob146_83 (P : Params) : Obj := ⟨.none, none, .func (fnD 16 "_law_anew" 0 (.none) (.none) (.none) (.none) (.none) 0), #[]⟩
noncomputable def ob147_84 (P : Params) : Obj := ⟨.type "code", none, .fields #[.str "_law_anew" 2410, .str "_law_anew" 2411, .str "/claim/cut.py" 2412, .int 70 0, .int 1 0, .int 0 0, .int 0 0, .int 3 0, .ref 144, .bool true, .int 276 0, .ref 145, .none, .none, .none, .ref 146, .int 2413 0, .int 70 0, .str "/claim/cut.py" 2414], #[]⟩
noncomputable def ob148_85 (P : Params) : Obj := ⟨.type "function", none, .func (fnD 16 "_law_anew" 3 (.none) (.none) (.str "law_xn0012_01" 2388) (.ref 147) (.none) 0), #[]⟩
noncomputable def ob151_86 (P : Params) : Obj := ⟨.none, none, .func (fnD 17 "_law_more" 0 (.none) (.none) (.none) (.none) (.none) 0), #[]⟩
noncomputable def ob152_87 (P : Params) : Obj := ⟨.type "code", none, .fields #[.str "_law_more" 2416, .str "_law_more" 2417, .str "/claim/cut.py" 2418, .int 73 0, .int 1 0, .int 0 0, .int 0 0, .int 3 0, .ref 149, .bool true, .int 276 0, .ref 150, .none, .none, .none, .ref 151, .int 2419 0, .int 73 0, .str "/claim/cut.py" 2420], #[]⟩
noncomputable def ob153_88 (P : Params) : Obj := ⟨.type "function", none, .func (fnD 17 "_law_more" 3 (.none) (.none) (.str "law_xn0012_01" 2388) (.ref 152) (.none) 0), #[]⟩
noncomputable def ob156_89 (P : Params) : Obj := ⟨.type "tuple", none, .seq #[.str "text" 2425, .str "odd" 2426, .str "sign" 2427] 0, #[]⟩
noncomputable def ob158_90 (P : Params) : Obj := ⟨.none, none, .func (fnD 18 "_law_odd_end" 0 (.none) (.none) (.none) (.none) (.none) 0), #[]⟩
noncomputable def ob159_91 (P : Params) : Obj := ⟨.type "code", none, .fields #[.str "_law_odd_end" 2422, .str "_law_odd_end" 2423, .str "/claim/cut.py" 2424, .int 75 0, .int 1 0, .int 0 0, .int 0 0, .int 3 0, .ref 154, .bool true, .int 276 0, .ref 155, .none, .ref 156, .ref 157, .ref 158, .int 2428 0, .int 75 0, .str "/claim/cut.py" 2429], #[]⟩
noncomputable def ob160_92 (P : Params) : Obj := ⟨.type "function", none, .func (fnD 18 "_law_odd_end" 3 (.none) (.none) (.str "law_xn0012_01" 2388) (.ref 159) (.none) 0), #[]⟩
noncomputable def ob163_93 (P : Params) : Obj := ⟨.none, none, .func (fnD 19 "_law_counted" 0 (.none) (.none) (.none) (.none) (.none) 0), #[]⟩
noncomputable def ob164_94 (P : Params) : Obj := ⟨.type "code", none, .fields #[.str "_law_counted" 2431, .str "_law_counted" 2432, .str "/claim/cut.py" 2433, .int 80 0, .int 2 0, .int 0 0, .int 0 0, .int 3 0, .ref 161, .bool true, .int 276 0, .ref 162, .none, .none, .none, .ref 163, .int 2434 0, .int 80 0, .str "/claim/cut.py" 2435], #[]⟩
noncomputable def ob165_95 (P : Params) : Obj := ⟨.type "function", none, .func (fnD 19 "_law_counted" 3 (.none) (.none) (.str "law_xn0012_01" 2388) (.ref 164) (.none) 0), #[]⟩
noncomputable def ob168_96 (P : Params) : Obj := ⟨.none, none, .func (fnD 20 "law" 0 (.none) (.none) (.none) (.none) (.none) 0), #[]⟩
noncomputable def ob169_97 (P : Params) : Obj := ⟨.type "code", none, .fields #[.str "law" 2437, .str "law" 2438, .str "/claim/cut.py" 2439, .int 90 0, .int 1 0, .int 0 0, .int 0 0, .int 3 0, .ref 166, .bool true, .int 276 0, .ref 167, .none, .none, .none, .ref 168, .int 2440 0, .int 90 0, .str "/claim/cut.py" 2441], #[]⟩
noncomputable def ob170_98 (P : Params) : Obj := ⟨.type "function", none, .func (fnD 20 "law" 3 (.none) (.none) (.str "law_xn0012_01" 2388) (.ref 169) (.none) 0), #[]⟩
noncomputable def tr0 (P : Params) : BT := (.node (ob0_0 P) (.node (ob1_1 P) (.node (ob3_3 P) (.node (ob7_7 P) (.node (ob7_7 P) .nil .nil) (.node (ob23_22 P) .nil .nil)) (.node (ob11_11 P) (.node (ob19_18 P) .nil .nil) (.node (ob27_26 P) .nil .nil))) (.node (ob5_5 P) (.node (ob9_9 P) (.node (ob17_16 P) .nil .nil) (.node (ob25_24 P) .nil .nil)) (.node (ob13_13 P) (.node (ob21_20 P) .nil .nil) .nil))) (.node (ob2_2 P) (.node (ob4_4 P) (.node (ob8_8 P) (.node (ob16_15 P) .nil .nil) (.node (ob24_23 P) .nil .nil)) (.node (ob12_12 P) (.node (ob20_19 P) .nil .nil) .nil)) (.node (ob6_6 P) (.node (ob10_10 P) (.node (ob18_17 P) .nil .nil) (.node (ob26_25 P) .nil .nil)) (.node (ob14_14 P) (.node (ob22_21 P) .nil .nil) .nil))))
noncomputable def tr7 (P : Params) : BT := (.node (ob0_0 P) (.node (ob1_1 P) (.node (ob3_27 P) (.node (ob7_7 P) (.node (ob7_7 P) (.node (ob31_30 P) (.node (ob63_49 P) .nil .nil) .nil) (.node (ob8_8 P) .nil .nil)) (.node (ob23_22 P) (.node (ob7_7 P) .nil .nil) (.node (ob55_44 P) .nil .nil))) (.node (ob11_11 P) (.node (ob19_18 P) (.node (ob7_7 P) .nil .nil) (.node (ob51_41 P) .nil .nil)) (.node (ob27_26 P) (.node (ob43_36 P) .nil .nil) (.node (ob7_7 P) .nil .nil)))) (.node (ob5_5 P) (.node (ob9_9 P) (.node (ob17_16 P) (.node (ob8_8 P) (.node (ob65_51 P) .nil .nil) .nil) (.node (ob7_7 P) .nil .nil)) (.node (ob25_24 P) (.node (ob41_35 P) .nil .nil) (.node (ob57_46 P) .nil .nil))) (.node (ob13_13 P) (.node (ob21_20 P) (.node (ob37_33 P) .nil .nil) (.node (ob53_43 P) .nil .nil)) (.node (ob29_28 P) (.node (ob45_38 P) .nil .nil) (.node (ob61_48 P) .nil .nil))))) (.node (ob2_2 P) (.node (ob4_4 P) (.node (ob8_8 P) (.node (ob16_15 P) (.node (ob7_7 P) (.node (ob64_50 P) .nil .nil) .nil) (.node (ob48_39 P) .nil .nil)) (.node (ob24_23 P) (.node (ob8_8 P) .nil .nil) (.node (ob56_45 P) .nil .nil))) (.node (ob12_12 P) (.node (ob20_19 P) (.node (ob36_32 P) .nil .nil) (.node (ob52_42 P) .nil .nil)) (.node (ob7_7 P) (.node (ob44_37 P) .nil .nil) (.node (ob8_8 P) .nil .nil)))) (.node (ob6_6 P) (.node (ob10_10 P) (.node (ob18_17 P) (.node (ob34_31 P) .nil .nil) (.node (ob50_40 P) .nil .nil)) (.node (ob26_25 P) (.node (ob7_7 P) .nil .nil) (.node (ob58_47 P) .nil .nil))) (.node (ob14_14 P) (.node (ob22_21 P) (.node (ob38_34 P) .nil .nil) (.node (ob6_6 P) .nil .nil)) (.node (ob30_29 P) (.node (ob7_7 P) .nil .nil) (.node (ob7_7 P) .nil .nil))))))
noncomputable def tr8 (P : Params) : BT := (.node (ob0_0 P) (.node (ob1_1 P) (.node (ob3_52 P) (.node (ob7_7 P) (.node (ob7_7 P) (.node (ob31_30 P) (.node (ob63_49 P) .nil .nil) .nil) (.node (ob8_8 P) .nil .nil)) (.node (ob23_22 P) (.node (ob7_7 P) (.node (ob71_57 P) .nil .nil) .nil) (.node (ob55_44 P) .nil .nil))) (.node (ob11_11 P) (.node (ob19_18 P) (.node (ob7_7 P) (.node (ob67_54 P) .nil .nil) .nil) (.node (ob51_41 P) .nil .nil)) (.node (ob27_26 P) (.node (ob43_36 P) (.node (ob7_7 P) .nil .nil) .nil) (.node (ob7_7 P) .nil .nil)))) (.node (ob5_5 P) (.node (ob9_9 P) (.node (ob17_16 P) (.node (ob8_8 P) (.node (ob65_51 P) .nil .nil) .nil) (.node (ob7_7 P) .nil .nil)) (.node (ob25_24 P) (.node (ob41_35 P) (.node (ob73_59 P) .nil .nil) .nil) (.node (ob57_46 P) .nil .nil))) (.node (ob13_13 P) (.node (ob21_20 P) (.node (ob37_33 P) (.node (ob69_56 P) .nil .nil) .nil) (.node (ob53_43 P) .nil .nil)) (.node (ob29_28 P) (.node (ob45_38 P) .nil .nil) (.node (ob61_48 P) .nil .nil))))) (.node (ob2_2 P) (.node (ob4_4 P) (.node (ob8_8 P) (.node (ob16_15 P) (.node (ob7_7 P) (.node (ob64_50 P) .nil .nil) .nil) (.node (ob48_39 P) .nil .nil)) (.node (ob24_23 P) (.node (ob8_8 P) (.node (ob72_58 P) .nil .nil) .nil) (.node (ob56_45 P) .nil .nil))) (.node (ob12_12 P) (.node (ob20_19 P) (.node (ob36_32 P) (.node (ob68_55 P) .nil .nil) .nil) (.node (ob52_42 P) .nil .nil)) (.node (ob7_7 P) (.node (ob44_37 P) (.node (ob76_61 P) .nil .nil) .nil) (.node (ob8_8 P) .nil .nil)))) (.node (ob6_6 P) (.node (ob10_10 P) (.node (ob18_17 P) (.node (ob34_31 P) (.node (ob66_53 P) .nil .nil) .nil) (.node (ob50_40 P) .nil .nil)) (.node (ob26_25 P) (.node (ob7_7 P) (.node (ob74_60 P) .nil .nil) .nil) (.node (ob58_47 P) .nil .nil))) (.node (ob14_14 P) (.node (ob22_21 P) (.node (ob38_34 P) (.node (ob7_7 P) .nil .nil) .nil) (.node (ob6_6 P) .nil .nil)) (.node (ob30_29 P) (.node (ob7_7 P) .nil .nil) (.node (ob7_7 P) .nil .nil))))))
noncomputable def tr9 (P : Params) : BT := (.node (ob0_0 P) (.node (ob1_1 P) (.node (ob3_62 P) (.node (ob7_7 P) (.node (ob7_7 P) (.node (ob31_30 P) (.node (ob63_49 P) .nil .nil) .nil) (.node (ob8_8 P) (.node (ob79_64 P) .nil .nil) .nil)) (.node (ob23_22 P) (.node (ob7_7 P) (.node (ob71_57 P) .nil .nil) .nil) (.node (ob55_44 P) .nil .nil))) (.node (ob11_11 P) (.node (ob19_18 P) (.node (ob7_7 P) (.node (ob67_54 P) .nil .nil) .nil) (.node (ob51_41 P) (.node (ob83_67 P) .nil .nil) .nil)) (.node (ob27_26 P) (.node (ob43_36 P) (.node (ob7_7 P) .nil .nil) .nil) (.node (ob7_7 P) .nil .nil)))) (.node (ob5_5 P) (.node (ob9_9 P) (.node (ob17_16 P) (.node (ob8_8 P) (.node (ob65_51 P) .nil .nil) .nil) (.node (ob7_7 P) (.node (ob81_65 P) .nil .nil) .nil)) (.node (ob25_24 P) (.node (ob41_35 P) (.node (ob73_59 P) .nil .nil) .nil) (.node (ob57_46 P) .nil .nil))) (.node (ob13_13 P) (.node (ob21_20 P) (.node (ob37_33 P) (.node (ob69_56 P) .nil .nil) .nil) (.node (ob53_43 P) .nil .nil)) (.node (ob29_63 P) (.node (ob45_38 P) (.node (ob7_7 P) .nil .nil) .nil) (.node (ob61_48 P) .nil .nil))))) (.node (ob2_2 P) (.node (ob4_4 P) (.node (ob8_8 P) (.node (ob16_15 P) (.node (ob7_7 P) (.node (ob64_50 P) .nil .nil) .nil) (.node (ob48_39 P) (.node (ob7_7 P) .nil .nil) .nil)) (.node (ob24_23 P) (.node (ob8_8 P) (.node (ob72_58 P) .nil .nil) .nil) (.node (ob56_45 P) .nil .nil))) (.node (ob12_12 P) (.node (ob20_19 P) (.node (ob36_32 P) (.node (ob68_55 P) .nil .nil) .nil) (.node (ob52_42 P) .nil .nil)) (.node (ob7_7 P) (.node (ob44_37 P) (.node (ob76_61 P) .nil .nil) .nil) (.node (ob8_8 P) .nil .nil)))) (.node (ob6_6 P) (.node (ob10_10 P) (.node (ob18_17 P) (.node (ob34_31 P) (.node (ob66_53 P) .nil .nil) .nil) (.node (ob50_40 P) (.node (ob82_66 P) .nil .nil) .nil)) (.node (ob26_25 P) (.node (ob7_7 P) (.node (ob74_60 P) .nil .nil) .nil) (.node (ob58_47 P) .nil .nil))) (.node (ob14_14 P) (.node (ob22_21 P) (.node (ob38_34 P) (.node (ob7_7 P) .nil .nil) .nil) (.node (ob6_6 P) .nil .nil)) (.node (ob30_29 P) (.node (ob7_7 P) (.node (ob8_8 P) .nil .nil) .nil) (.node (ob7_7 P) .nil .nil))))))
noncomputable def tr10 (P : Params) (f : Nat → Obj) : BT := (.node (ob0_0 P) (.node (ob1_1 P) (.node (ob3_68 P) (.node (ob7_7 P) (.node (ob7_7 P) (.node (ob31_30 P) (.node (ob63_49 P) .nil .nil) (.node (f 95) .nil .nil)) (.node (ob8_8 P) (.node (ob79_64 P) .nil .nil) (.node (f 111) .nil .nil))) (.node (ob23_22 P) (.node (ob7_7 P) (.node (ob71_57 P) .nil .nil) (.node (f 103) .nil .nil)) (.node (ob55_44 P) (.node (f 87) .nil .nil) (.node (f 119) .nil .nil)))) (.node (ob11_11 P) (.node (ob19_18 P) (.node (ob7_7 P) (.node (ob67_54 P) .nil .nil) (.node (f 99) .nil .nil)) (.node (ob51_41 P) (.node (ob83_67 P) .nil .nil) (.node (f 115) .nil .nil))) (.node (ob27_26 P) (.node (ob43_36 P) (.node (ob7_7 P) .nil .nil) (.node (f 107) .nil .nil)) (.node (ob7_7 P) (.node (f 91) .nil .nil) .nil)))) (.node (ob5_5 P) (.node (ob9_9 P) (.node (ob17_16 P) (.node (ob8_8 P) (.node (ob65_51 P) .nil .nil) (.node (f 97) .nil .nil)) (.node (ob7_7 P) (.node (ob81_65 P) .nil .nil) (.node (f 113) .nil .nil))) (.node (ob25_24 P) (.node (ob41_35 P) (.node (ob73_59 P) .nil .nil) (.node (f 105) .nil .nil)) (.node (ob57_46 P) (.node (f 89) .nil .nil) (.node (f 121) .nil .nil)))) (.node (ob13_13 P) (.node (ob21_20 P) (.node (ob37_33 P) (.node (ob69_56 P) .nil .nil) (.node (f 101) .nil .nil)) (.node (ob53_43 P) (.node (f 85) .nil .nil) (.node (f 117) .nil .nil))) (.node (ob29_63 P) (.node (ob45_38 P) (.node (ob7_7 P) .nil .nil) (.node (f 109) .nil .nil)) (.node (ob61_48 P) (.node (f 93) .nil .nil) .nil))))) (.node (ob2_2 P) (.node (ob4_4 P) (.node (ob8_8 P) (.node (ob16_15 P) (.node (ob7_7 P) (.node (ob64_50 P) .nil .nil) (.node (f 96) .nil .nil)) (.node (ob48_39 P) (.node (ob7_7 P) .nil .nil) (.node (f 112) .nil .nil))) (.node (ob24_23 P) (.node (ob8_8 P) (.node (ob72_58 P) .nil .nil) (.node (f 104) .nil .nil)) (.node (ob56_45 P) (.node (f 88) .nil .nil) (.node (f 120) .nil .nil)))) (.node (ob12_12 P) (.node (ob20_19 P) (.node (ob36_32 P) (.node (ob68_55 P) .nil .nil) (.node (f 100) .nil .nil)) (.node (ob52_42 P) (.node (f 84) .nil .nil) (.node (f 116) .nil .nil))) (.node (ob7_7 P) (.node (ob44_37 P) (.node (ob76_61 P) .nil .nil) (.node (f 108) .nil .nil)) (.node (ob8_8 P) (.node (f 92) .nil .nil) .nil)))) (.node (ob6_6 P) (.node (ob10_10 P) (.node (ob18_17 P) (.node (ob34_31 P) (.node (ob66_53 P) .nil .nil) (.node (f 98) .nil .nil)) (.node (ob50_40 P) (.node (ob82_66 P) .nil .nil) (.node (f 114) .nil .nil))) (.node (ob26_25 P) (.node (ob7_7 P) (.node (ob74_60 P) .nil .nil) (.node (f 106) .nil .nil)) (.node (ob58_47 P) (.node (f 90) .nil .nil) (.node (f 122) .nil .nil)))) (.node (ob14_14 P) (.node (ob22_21 P) (.node (ob38_34 P) (.node (ob7_7 P) .nil .nil) (.node (f 102) .nil .nil)) (.node (ob6_6 P) (.node (f 86) .nil .nil) (.node (f 118) .nil .nil))) (.node (ob30_29 P) (.node (ob7_7 P) (.node (ob8_8 P) .nil .nil) (.node (f 110) .nil .nil)) (.node (ob7_7 P) (.node (f 94) .nil .nil) .nil))))))
noncomputable def tr19 (P : Params) (f : Nat → Obj) : BT := (.node (ob0_0 P) (.node (ob1_1 P) (.node (ob3_69 P) (.node (ob7_7 P) (.node (ob7_7 P) (.node (ob31_30 P) (.node (ob63_49 P) (.node (ob127_72 P) .nil .nil) .nil) (.node (f 95) (.node (ob159_91 P) .nil .nil) .nil)) (.node (ob8_8 P) (.node (ob79_64 P) (.node (ob143_82 P) .nil .nil) .nil) (.node (f 111) .nil .nil))) (.node (ob23_22 P) (.node (ob7_7 P) (.node (ob71_57 P) (.node (ob135_77 P) .nil .nil) .nil) (.node (f 103) (.node (ob8_8 P) .nil .nil) .nil)) (.node (ob55_44 P) (.node (f 87) (.node (ob151_86 P) .nil .nil) .nil) (.node (f 119) .nil .nil)))) (.node (ob11_11 P) (.node (ob19_18 P) (.node (ob7_7 P) (.node (ob67_54 P) (.node (ob8_8 P) .nil .nil) .nil) (.node (f 99) (.node (ob163_93 P) .nil .nil) .nil)) (.node (ob51_41 P) (.node (ob83_67 P) (.node (ob147_84 P) .nil .nil) .nil) (.node (f 115) .nil .nil))) (.node (ob27_26 P) (.node (ob43_36 P) (.node (ob7_7 P) (.node (ob139_79 P) .nil .nil) .nil) (.node (f 107) .nil .nil)) (.node (ob7_7 P) (.node (f 91) (.node (ob8_8 P) .nil .nil) .nil) (.node (ob7_7 P) .nil .nil))))) (.node (ob5_5 P) (.node (ob9_9 P) (.node (ob17_16 P) (.node (ob8_8 P) (.node (ob65_51 P) (.node (ob129_74 P) .nil .nil) .nil) (.node (f 97) (.node (ob7_7 P) .nil .nil) .nil)) (.node (ob7_7 P) (.node (ob81_65 P) (.node (ob8_8 P) .nil .nil) .nil) (.node (f 113) .nil .nil))) (.node (ob25_24 P) (.node (ob41_35 P) (.node (ob73_59 P) (.node (ob7_7 P) .nil .nil) .nil) (.node (f 105) (.node (ob169_97 P) .nil .nil) .nil)) (.node (ob57_46 P) (.node (f 89) (.node (ob153_88 P) .nil .nil) .nil) (.node (f 121) .nil .nil)))) (.node (ob13_13 P) (.node (ob21_20 P) (.node (ob37_33 P) (.node (ob69_56 P) (.node (ob7_7 P) .nil .nil) .nil) (.node (f 101) (.node (ob165_95 P) .nil .nil) .nil)) (.node (ob53_43 P) (.node (f 85) (.node (ob7_7 P) .nil .nil) .nil) (.node (f 117) .nil .nil))) (.node (ob29_70 P) (.node (ob45_38 P) (.node (ob7_7 P) (.node (ob141_80 P) .nil .nil) .nil) (.node (f 109) .nil .nil)) (.node (ob61_48 P) (.node (f 93) (.node (ob7_7 P) .nil .nil) .nil) (.node (ob125_71 P) .nil .nil)))))) (.node (ob2_2 P) (.node (ob4_4 P) (.node (ob8_8 P) (.node (ob16_15 P) (.node (ob7_7 P) (.node (ob64_50 P) (.node (ob128_73 P) .nil .nil) .nil) (.node (f 96) (.node (ob160_92 P) .nil .nil) .nil)) (.node (ob48_39 P) (.node (ob7_7 P) (.node (ob7_7 P) .nil .nil) .nil) (.node (f 112) .nil .nil))) (.node (ob24_23 P) (.node (ob8_8 P) (.node (ob72_58 P) (.node (ob136_78 P) .nil .nil) .nil) (.node (f 104) (.node (ob168_96 P) .nil .nil) .nil)) (.node (ob56_45 P) (.node (f 88) (.node (ob152_87 P) .nil .nil) .nil) (.node (f 120) .nil .nil)))) (.node (ob12_12 P) (.node (ob20_19 P) (.node (ob36_32 P) (.node (ob68_55 P) (.node (ob132_75 P) .nil .nil) .nil) (.node (f 100) (.node (ob164_94 P) .nil .nil) .nil)) (.node (ob52_42 P) (.node (f 84) (.node (ob148_85 P) .nil .nil) .nil) (.node (f 116) .nil .nil))) (.node (ob7_7 P) (.node (ob44_37 P) (.node (ob76_61 P) (.node (ob7_7 P) .nil .nil) .nil) (.node (f 108) .nil .nil)) (.node (ob8_8 P) (.node (f 92) (.node (ob156_89 P) .nil .nil) .nil) (.node (ob8_8 P) .nil .nil))))) (.node (ob6_6 P) (.node (ob10_10 P) (.node (ob18_17 P) (.node (ob34_31 P) (.node (ob66_53 P) (.node (ob7_7 P) .nil .nil) .nil) (.node (f 98) (.node (ob8_8 P) .nil .nil) .nil)) (.node (ob50_40 P) (.node (ob82_66 P) (.node (ob146_83 P) .nil .nil) .nil) (.node (f 114) .nil .nil))) (.node (ob26_25 P) (.node (ob7_7 P) (.node (ob74_60 P) (.node (ob8_8 P) .nil .nil) .nil) (.node (f 106) (.node (ob170_98 P) .nil .nil) .nil)) (.node (ob58_47 P) (.node (f 90) (.node (ob7_7 P) .nil .nil) .nil) (.node (f 122) .nil .nil)))) (.node (ob14_14 P) (.node (ob22_21 P) (.node (ob38_34 P) (.node (ob7_7 P) (.node (ob134_76 P) .nil .nil) .nil) (.node (f 102) (.node (ob7_7 P) .nil .nil) .nil)) (.node (ob6_6 P) (.node (f 86) (.node (ob8_8 P) .nil .nil) .nil) (.node (f 118) .nil .nil))) (.node (ob30_29 P) (.node (ob7_7 P) (.node (ob8_8 P) (.node (ob142_81 P) .nil .nil) .nil) (.node (f 110) .nil .nil)) (.node (ob7_7 P) (.node (f 94) (.node (ob158_90 P) .nil .nil) .nil) (.node (ob7_7 P) .nil .nil)))))))
end Mine
end
section
open PySem PySem.W PyProof.Rows
namespace Mine
noncomputable def sStart (os : OsState) : SharedT := ⟨.nil, 0, {}, #[], {}, 1, os⟩
/-- the opening, step by step: its end is told by the thread -/
noncomputable def openEnd (w : World) (os : OsState) : Option (SharedT × Thread) := impGoT treeTable (opening pw) w 798 (sStart os) (start (opening pw)).2
set_option maxHeartbeats 4000000 in
theorem open_run (w : World) (os : OsState) : (openEnd w os).bind (fun r => if r.2.atExitBegin matches some [] then fenceModules? pw r.1.abs else none) =
    some ⟨absHeap (tr0 w.params) 28 {}, #[], {}, 276, os⟩ := by kernel_rfl
theorem opened (w : World) : ∃ s, AfterImport (opening pw) w s ∧ fenceModules? pw s = some ⟨absHeap (tr0 w.params) 28 {}, #[], {}, 276, (start (opening pw)).1.os⟩ := by
  obtain ⟨⟨a, t⟩, h1, h2⟩ := Option.bind_eq_some_iff.mp (open_run w (start (opening pw)).1.os)
  have out : t.atExitBegin = some [] ∧ fenceModules? pw a.abs = some ⟨absHeap (tr0 w.params) 28 {}, #[], {}, 276, (start (opening pw)).1.os⟩ := by
    revert h2
    dsimp only
    split <;> intro h2
    · rename_i q
      refine ⟨?_, h2⟩
      revert q
      split
      · intro _; assumption
      · intro q; cases q
    · cases h2
  have last : importEnds treeTable (opening pw) w 1 a.abs t = some a.abs := by rw [importEnds, out.1]
  have all := imp_go (impGo_of h1) last
  rw [← table_eq_tree] at all
  exact ⟨a.abs, AfterImport.of_importEnds all, out.2⟩
end Mine
end
section
open PySem PySem.W PyProof.Rows
namespace Mine
noncomputable def goT (tb : String → Option Builtin) (p : Program) (w : World) : Nat → SharedT → Thread → Option (SharedT × Thread)
  | 0, s, t => some (s, t)
  | n + 1, s, t => match t.calm with
    | false => none
    | true => match stepT (denote tb) p w s t with
      | some (s', t') => goT tb p w n s' t'
      | none => none
noncomputable def Sch (p : Program) (w : World) (s : Shared) (t : Thread) (s' : Shared) (t' : Thread) : Prop := ∃ n, schedN (denote table) p w n (.single s t) = .running (.single s' t')
theorem schedN_add {den : Code → Sem Fin} {p : Program} {w : World} : ∀ (n m : Nat) (c c' : Config), schedN den p w n c = .running c' → schedN den p w (n + m) c = schedN den p w m c'
  | 0, m, c, c', h => by cases h; rw [Nat.zero_add]
  | n + 1, m, c, c', h => by
    rw [show n + 1 + m = n + m + 1 by omega]
    simp only [schedN] at h ⊢
    cases hs : sstep den p w c with
    | halt o s => rw [hs] at h; cases h
    | go c₂ => rw [hs] at h; exact schedN_add n m c₂ c' h
theorem Sch.refl {p : Program} {w : World} (s : Shared) (t : Thread) : Sch p w s t s t := ⟨0, rfl⟩
theorem Sch.trans {p : Program} {w : World} {s s' s'' : Shared} {t t' t'' : Thread} (a : Sch p w s t s' t') (b : Sch p w s' t' s'' t'') : Sch p w s t s'' t'' := by
  obtain ⟨n, a⟩ := a
  obtain ⟨m, b⟩ := b
  exact ⟨n + m, (schedN_add n m _ _ a).trans b⟩
theorem sch_of_go {p : Program} {w : World} : ∀ {n : Nat} {s s' : SharedT} {t t' : Thread}, goT treeTable p w n s t = some (s', t') → s.abs.asleep → Sch p w s.abs t s'.abs t'
  | 0, s, s', t, t', h, _ => by cases h; exact Sch.refl _ _
  | n + 1, s, s', t, t', h, z => by
    unfold goT at h
    cases hc : t.calm with
    | false => rw [hc] at h; cases h
    | true =>
      rw [hc] at h
      cases hs : stepT (denote treeTable) p w s t with
      | none => rw [hs] at h; cases h
      | some r =>
        obtain ⟨s₂, t₂⟩ := r
        rw [hs] at h
        have e := stepT_spec hs
        rw [← table_eq_tree] at e
        have e' : sstep (denote table) p w (.single s.abs t) = .go (.single s₂.abs t₂) := by
          rcases sstep_single (denote table) p w s.abs t hc z with q | q
          · rw [q, e]; rfl
          · rw [e] at q; cases q
        have z' : s₂.abs.asleep := Shared.asleep_of_life (step_life (denote table) p w _ _ _ _ e) z
        obtain ⟨m, k⟩ := sch_of_go h z'
        exact ⟨m + 1, by simp only [schedN, e']; exact k⟩
noncomputable def stmts : List Stmt := pw.main.body.drop 1
noncomputable def topEnv : Env := { scope := pw.main.scope, locals := mainNs, globals := mainNs, cells := [], code := .ref 30, frame := some 31 }
noncomputable def restT (r : List Stmt) : Sem Fin := ((execs r topEnv).onRaise (leaving topEnv)).bind fun f => .pure (.done f)
noncomputable def thr (r : List Stmt) (pos : Pos) : Thread := ⟨restT r, .body stmts topEnv, pos, [topFrame default]⟩
set_option maxHeartbeats 4000000 in
theorem run7 (w : World) (os : OsState) : goT treeTable pw w 245 ⟨tr0 w.params, 28, {}, #[], {}, 276, os⟩ (topStub pw) =
    some (⟨tr7 w.params, 66, {}, #[], {}, 362, os⟩, thr (stmts.drop 8) ⟨38, 0, 38, 8⟩) := by kernel_rfl
end Mine
end
section
open PySem PySem.W PyProof.Rows
namespace Mine
noncomputable def denQ : Code → Sem PySem.Fin := Fast.tw11892475500146522536 Fast.tw14364793385576792824
theorem denQ_eq : denote treeTable = denQ := by
  unfold denQ
  rw [Fast.te11892475500146522536, Fast.te14364793385576792824]
noncomputable def goQ (p : Program) (w : World) : Nat → SharedT → Thread → Option (SharedT × Thread)
  | 0, s, t => some (s, t)
  | n + 1, s, t => match Fast.tw2348191978395082540 t with
    | false => none
    | true => match Fast.tw10156331382660048174 denQ p w s t with
      | some (s', t') => goQ p w n s' t'
      | none => none
theorem goQ_eq (p : Program) (w : World) : ∀ n s t, goQ p w n s t = goT treeTable p w n s t
  | 0, s, t => rfl
  | n + 1, s, t => by
    unfold goQ goT
    rw [← Fast.te2348191978395082540, ← Fast.te10156331382660048174, ← denQ_eq]
    cases t.calm with
    | false => rfl
    | true =>
      cases stepT (denote treeTable) p w s t with
      | none => rfl
      | some r => exact goQ_eq p w n _ _
noncomputable def wW (w : World) (a b : Bool) : World := (w.withFollow "set-order" a).withFollow "special-get-raises" b
noncomputable def Run8 (w : World) : Prop := ∀ os, goQ pw w 998 ⟨tr7 w.params, 66, {}, #[], {}, 362, os⟩ (thr (stmts.drop 8) ⟨38, 0, 38, 8⟩) =
    some (⟨tr8 w.params, 77, {}, #[], {}, 422, os⟩, thr (stmts.drop 9) ⟨39, 0, 39, 6⟩)
set_option maxHeartbeats 4000000 in
theorem run8_false_false (w : World) (os : OsState) : goQ pw (wW w false false) 998 ⟨tr7 (wW w false false).params, 66, {}, #[], {}, 362, os⟩ (thr (stmts.drop 8) ⟨38, 0, 38, 8⟩) =
    some (⟨tr8 (wW w false false).params, 77, {}, #[], {}, 422, os⟩, thr (stmts.drop 9) ⟨39, 0, 39, 6⟩) := by kernel_rfl!
set_option maxHeartbeats 4000000 in
theorem run8_false_true (w : World) (os : OsState) : goQ pw (wW w false true) 998 ⟨tr7 (wW w false true).params, 66, {}, #[], {}, 362, os⟩ (thr (stmts.drop 8) ⟨38, 0, 38, 8⟩) =
    some (⟨tr8 (wW w false true).params, 77, {}, #[], {}, 422, os⟩, thr (stmts.drop 9) ⟨39, 0, 39, 6⟩) := by kernel_rfl!
set_option maxHeartbeats 4000000 in
theorem run8_true_false (w : World) (os : OsState) : goQ pw (wW w true false) 998 ⟨tr7 (wW w true false).params, 66, {}, #[], {}, 362, os⟩ (thr (stmts.drop 8) ⟨38, 0, 38, 8⟩) =
    some (⟨tr8 (wW w true false).params, 77, {}, #[], {}, 422, os⟩, thr (stmts.drop 9) ⟨39, 0, 39, 6⟩) := by kernel_rfl!
set_option maxHeartbeats 4000000 in
theorem run8_true_true (w : World) (os : OsState) : goQ pw (wW w true true) 998 ⟨tr7 (wW w true true).params, 66, {}, #[], {}, 362, os⟩ (thr (stmts.drop 8) ⟨38, 0, 38, 8⟩) =
    some (⟨tr8 (wW w true true).params, 77, {}, #[], {}, 422, os⟩, thr (stmts.drop 9) ⟨39, 0, 39, 6⟩) := by kernel_rfl!
theorem run8 (w : World) : Run8 w :=
  byRow2 "special-get-raises" (P := Run8)
    (fun w => byRow2 "set-order" (P := fun w => Run8 (w.withFollow "special-get-raises" false)) (fun w => run8_false_false w) (fun w => run8_true_false w) w)
    (fun w => byRow2 "set-order" (P := fun w => Run8 (w.withFollow "special-get-raises" true)) (fun w => run8_false_true w) (fun w => run8_true_true w) w) w
set_option maxHeartbeats 4000000 in
theorem run9 (w : World) (os : OsState) : goT treeTable pw w 29 ⟨tr8 w.params, 77, {}, #[], {}, 422, os⟩ (thr (stmts.drop 9) ⟨39, 0, 39, 6⟩) =
    some (⟨tr9 w.params, 84, {}, #[], {}, 429, os⟩, thr (stmts.drop 10) ⟨40, 0, 41, 30⟩) := by kernel_rfl!
noncomputable def endThr : Thread := ⟨.pure (.done (.ret .none)), .builtin "claim.caller" {}, default, []⟩
set_option maxHeartbeats 4000000 in
theorem run19 (w : World) (os : OsState) (f : Nat → Obj) : goT treeTable pw w 239 ⟨tr10 w.params f, 123, {}, #[], {}, 2380, os⟩ (thr (stmts.drop 11) ⟨42, 0, 42, 13⟩) =
    some (⟨tr19 w.params f, 171, {}, #[], {}, 2443, os⟩, endThr) := by kernel_rfl!
end Mine
end
section
open PySem PySem.W PyProof.Rows
namespace Mine
/-- a loop over consecutive places, each turn of which ends plainly -/
theorem turns {M : Model} {A : Around} {E : Value → Shared → Prop} {f : Nat → PUnit → Sem (ForInStep PUnit)} {J : Nat → Shared → Prop} {Q : PUnit → Shared → Prop} {n : Nat}
    (turn : ∀ i s, i < n → J i s → wpAny M A (f i ⟨⟩) (fun r t => r = .yield ⟨⟩ ∧ J (i + 1) t) E s) (done : ∀ s, J n s → Q ⟨⟩ s) :
    ∀ (k i : Nat) (s : Shared), i + k = n → J i s → wpAny M A (forIn (List.range' i k) ⟨⟩ f) Q E s
  | 0, i, s, h, hJ => by
    cases h
    exact wpAny_pure (done s hJ)
  | k + 1, i, s, h, hJ => by
    rw [List.range'_succ, List.forIn_cons]
    refine wpAny_bind (wpAny_mono (turn i s (by omega) hJ) ?_ fun _ _ x => x)
    rintro _ t ⟨rfl, hJ'⟩
    exact turns turn done k (i + 1) t (by omega) hJ'
/-- in a row of things all of which differ, none stands ahead of its place -/
theorem not_ahead {α : Type} : ∀ {l : List α} {i : Nat} {a : α}, l.Nodup → l[i]? = some a → a ∉ l.take i
  | [], _, _, _, h => by cases h
  | _ :: _, 0, _, _, _ => by simp
  | b :: l, i + 1, a, hn, h => by
    rw [List.nodup_cons] at hn
    rw [List.getElem?_cons_succ] at h
    rw [List.take_succ_cons, List.mem_cons, not_or]
    exact ⟨fun q => hn.1 (q ▸ List.mem_of_getElem? h), not_ahead hn.2 h⟩
section
variable {prog : Program} {w : World} {K : Type} [DecidableEq K] {knd : KeyKind prog w K}
/-- a key that no pair has stands at no place of the table -/
theorem no_place {es : Array DictEntry} {kvs : List (K × Value)} {k : K} (hp : Pairs knd es.toList kvs) (hf : k ∉ kvs.map (·.1)) : es.findIdx? (fun e => knd.is k e.key) = none := by
  have q : es.toList.findIdx? (fun e => knd.is k e.key) = none := by
    rw [hp.findIdx k, List.findIdx?_eq_none_iff]
    exact fun p hq => decide_eq_false fun e => hf (List.mem_map.mpr ⟨p, hq, e⟩)
  simpa using q
/-- the row of the table at a pair's place -/
theorem row_of {es : Array DictEntry} {kvs : List (K × Value)} (hk : KeysOf knd es) (hp : Pairs knd es.toList kvs) {i : Nat} (hi : i < kvs.length) :
    ∃ e p, es[i]? = some e ∧ kvs[i]? = some p ∧ knd.is p.1 e.key = true ∧ e.val = p.2 ∧ e.hash = knd.hash p.1 := by
  have hl : i < es.toList.length := hp.length ▸ hi
  have he : es[i]? = some es.toList[i] := by rw [← Array.getElem?_toList, List.getElem?_eq_getElem hl]
  have hq : kvs[i]? = some kvs[i] := List.getElem?_eq_getElem hi
  obtain ⟨h1, h2⟩ := hp.get? (List.getElem?_eq_getElem hl) hq
  obtain ⟨y, h3, h4⟩ := hk _ (Array.mem_of_getElem? he)
  exact ⟨_, _, he, hq, h1, h2, knd.inj _ _ _ h3 h1 ▸ h4⟩
variable {A : Around} {E : Value → Shared → Prop} {s : Shared}
theorem dictPut_fresh {d : Addr} {kvs : List (K × Value)} {k : K} {key v : Value} {Q : Unit → Shared → Prop} (hkey : knd.is k key = true) (hm : s.heap.DictOf knd d kvs) (hf : k ∉ kvs.map (·.1))
    (hQ : ∀ h', h'.DictOf knd d (kvs ++ [(k, v)]) → Heap.SameBut d s.heap h' → Q () { s with heap := h' }) (hsz : kvs.length ≤ sizeLine) :
    wpAny (model prog w) A (dictPut d (knd.hash k) key v) Q E s := by
  obtain ⟨o, es, ep, at_d, exact_, rows, keys, pairs, apart⟩ := hm
  have room : es.size ≤ sizeLine := (Array.length_toList (xs := es)).symm.trans pairs.length ▸ hsz
  have more_pairs : Pairs knd (es.push ⟨knd.hash k, key, v⟩).toList (kvs ++ [(k, v)]) := by
    rw [Array.toList_push]; exact pairs.append hkey _ v
  have still_apart : ((kvs ++ [(k, v)]).map (·.1)).Nodup := by
    simp only [List.map_append, List.map_cons, List.map_nil]
    exact (List.perm_append_singleton k _).nodup_iff.mpr (List.nodup_cons.mpr ⟨hf, apart⟩)
  unfold dictPut
  refine wpAny_bind (wpAny_dictFind_of hkey at_d rows keys ?_)
  rw [no_place pairs hf]
  have rows' := Obj.data_mapDictKeys (f := fun x => x.push ⟨knd.hash k, key, v⟩) rows
  exact wpAny_updateDictKeys (hz := room) at_d rows (hQ _ ⟨_, _, _, Heap.get?_update_self _ at_d (Obj.isFreed_of_dict rows'), exact_.mapDictKeys _, rows', keys.push hkey v, more_pairs, still_apart⟩ (Heap.SameBut.update ..))
theorem mergeMapping_fresh {d o : Addr} {kvs more : List (K × Value)} {Q : Unit → Shared → Prop} (hdo : d ≠ o) (hoS : (o == sysModules) = false) (hne : kvs ≠ [])
    (hd : s.heap.DictOf knd d kvs) (ho : s.heap.DictOf knd o more) (hn : ((kvs ++ more).map (·.1)).Nodup)
    (hQ : ∀ h', h'.DictOf knd d (kvs ++ more) → Heap.SameBut d s.heap h' → Q () { s with heap := h' }) (hsz : kvs.length + more.length ≤ sizeLine) :
    wpAny (model prog w) A (mergeMapping d (.ref o) false) Q E s := by
  have ty : s.TypeIs (.ref o) "dict" := ho.typeIs
  have into := hd
  obtain ⟨_, ds, _, at_d, _, d_rows, _, d_pairs, _⟩ := hd
  obtain ⟨src, es, ep, at_o, _, rows, keys, pairs, _⟩ := ho
  have full : ds.isEmpty = false := by
    cases kvs with
    | nil => exact absurd rfl hne
    | cons _ _ => have := d_pairs.length; rw [Array.isEmpty_eq_false_iff]; rintro rfl; cases this
  have len : es.size = more.length := Array.length_toList.symm.trans pairs.length
  unfold mergeMapping
  refine wpAny_bind (wpAny_isInstance (T := "dict") (U := "dict") (b := true) ty F.sub_dict_dict ?_)
  refine wpAny_bind (wpAny_specialOf ty F.slot_dict_iter.lookup (wpAny_bind (wpAny_pure ?_)))
  simp only [hoS, beq_self_eq_true, Bool.false_eq_true, if_false]
  refine wpAny_bind (wpAny_dictEntries at_d d_rows ?_)
  simp only [full, Bool.false_eq_true, if_false]
  refine wpAny_bind (wpAny_dictEntries at_o rows (wpAny_bind (wpAny_dictEpoch at_o rows (wpAny_bind ?_))))
  rw [List.range_eq_range', len]
  refine turns (J := fun i t => ∃ h', t = { s with heap := h' } ∧ h'.DictOf knd d (kvs ++ more.take i) ∧ Heap.SameBut d s.heap h') ?_ ?_ _ 0 _ (Nat.zero_add _) ⟨_, rfl, by simpa using into, Heap.SameBut.refl _ _⟩
  · rintro i _ hi ⟨h', rfl, hm, same⟩
    obtain ⟨e, p, he, hp, hkey, hval, hhash⟩ := row_of keys pairs hi
    have new : p.1 ∉ (kvs ++ more.take i).map (·.1) := by
      have q := not_ahead (i := kvs.length + i) (a := p.1) hn (by rw [List.map_append, List.getElem?_append_right (by simp)]; simp [hp])
      rw [← List.map_take, List.take_length_add_append] at q
      exact q
    have next : more.take (i + 1) = more.take i ++ [(p.1, p.2)] := by rw [List.take_add_one, hp]; rfl
    have room := List.length_take_le i more
    refine wpAny_bind (wpAny_dictEntries ((same.2 o hdo.symm).trans at_o) rows ?_)
    simp only [he, hhash, hval]
    refine wpAny_bind (wpAny_holding (dictPut_fresh hkey hm new (fun h₂ hm₂ same₂ => ?_) (by rw [List.length_append]; omega)))
    refine wpAny_bind (wpAny_dictEpoch ((same₂.2 o hdo.symm).trans ((same.2 o hdo.symm).trans at_o)) rows ?_)
    simp only [bne_self_eq_false, Bool.false_eq_true, if_false]
    exact wpAny_pure ⟨rfl, h₂, rfl, by rw [next, ← List.append_assoc]; exact hm₂, same.trans same₂⟩
  · rintro _ ⟨h', rfl, hm, same⟩
    rw [List.take_length] at hm
    exact wpAny_pure (hQ h' hm same)
end
end Mine
end
section
open PySem PySem.W PyProof.Rows
namespace Mine
noncomputable def strOf : Value → Option Str
  | .str x _ => some x
  | _ => none
noncomputable def rd (kvs : List (Int × Value)) : List (Int × Option Str) := kvs.map fun kv => (kv.1, strOf kv.2)
noncomputable def rc (cs : List (Int × Str)) : List (Int × Option Str) := cs.map fun c => (c.1, some c.2)
noncomputable def pairsOf (pos : Pos) (cs : List (Int × Str)) : List (Sem Value × Sem Value) := cs.map fun c => (mkInt c.1, do let x ← mkText c.2; standAt pos; pure x)
theorem rd_keys {kvs : List (Int × Value)} {cs : List (Int × Str)} (h : rd kvs = rc cs) : kvs.map (·.1) = cs.map (·.1) := by
  have := congrArg (List.map (·.1)) h
  simpa [rd, rc, Function.comp_def] using this
theorem rd_len {kvs : List (Int × Value)} {cs : List (Int × Str)} (h : rd kvs = rc cs) : kvs.length = cs.length := by
  have := congrArg List.length h
  simpa [rd, rc] using this
section
variable {prog : Program} {w : World} {A : Around} {E : Value → Shared → Prop}
theorem stored_fresh {kvs : List (Int × Value)} {k : Int} {v : Value} (h : k ∉ kvs.map (·.1)) : stored kvs k v = kvs ++ [(k, v)] := by
  unfold stored
  rw [if_neg]
  intro q
  obtain ⟨x, hx, he⟩ := List.any_eq_true.mp q
  exact h (List.mem_map.mpr ⟨x, hx, of_decide_eq_true he⟩)
theorem storeLong {pos : Pos} {d : Addr} : ∀ (cs : List (Int × Str)) (acc : List (Int × Value)) (s : Shared) (Q : PUnit → Shared → Prop), s.heap.DictOf (intKind prog w) d acc → (acc.map (·.1) ++ cs.map (·.1)).Nodup → acc.length + cs.length ≤ sizeLine →
    (∀ h' more, rd more = rc cs → h'.DictOf (intKind prog w) d (acc ++ more) → Heap.SameBut d s.heap h' → Q PUnit.unit { s with heap := h', toks := s.toks + 3 * cs.length }) →
    wpAny (model prog w) A (forIn (pairsOf pos cs) PUnit.unit fun (x : Sem Value × Sem Value) (_ : PUnit) => (do let kv ← x.1; let vv ← holding [kv] x.2; holding [kv, vv] (dictSet d kv vv); pure (ForInStep.yield PUnit.unit) : Sem (ForInStep PUnit))) Q E s
  | [], acc, s, Q, hm, _, _, hQ => by
    have := hQ s.heap [] rfl (by simpa using hm) (Heap.SameBut.refl _ _)
    exact wpAny_pure (by simpa using this)
  | (i, x) :: cs, acc, s, Q, hm, hn, hsz, hQ => by
    rw [pairsOf, List.map_cons, List.forIn_cons]
    rw [List.length_cons] at hsz
    have hf : i ∉ acc.map (·.1) := fun q => by
      rw [List.nodup_append] at hn
      exact hn.2.2 _ q i (by simp) rfl
    refine wpAny_bind (wpAny_bind (wpAny_mkInt (wpAny_bind (wpAny_holding (wpAny_bind (wpAny_mkText (wpAny_bind (wpAny_standAt (wpAny_pure ?_)))))))))
    refine wpAny_bind (wpAny_holding (wpAny_dictSet_pairs (hsz := by omega) (knd := intKind prog w) (k := i) (by exact intKind_is prog w i _) hm fun h₁ hm₁ hs₁ => wpAny_pure ?_))
    rw [stored_fresh hf] at hm₁
    refine storeLong cs (acc ++ [(i, .str x _)]) _ Q hm₁ (by simpa using hn) (by simp; omega) fun h' more hr hm' hs' => ?_
    have := hQ h' ((i, .str x _) :: more) (by simp only [rd, rc, List.map_cons] at hr ⊢; rw [hr]; rfl) (by simpa using hm') (hs₁.trans hs')
    rw [List.length_cons] at this
    rw [show s.toks + 3 * (cs.length + 1) = s.toks + 1 + 1 + 1 + 3 * cs.length by omega] at this
    exact this
theorem subDict_long {pos : Pos} {cs : List (Int × Str)} {s : Shared} {Q : Addr → Shared → Prop} (hl : 15 < cs.length) (hl' : cs.length ≤ sizeLine) (hn : (cs.map (·.1)).Nodup)
    (hQ : ∀ h' kvs, rd kvs = rc cs → h'.DictOf (intKind prog w) s.heap.objs.size kvs → (∀ a, a < s.heap.objs.size → h'.get? a = s.heap.get? a) → h'.objs.size = s.heap.objs.size + 1 → Q s.heap.objs.size { s with heap := h', toks := s.toks + 3 * cs.length }) :
    wpAny (model prog w) A (subDict (pairsOf pos cs)) Q E s := by
  unfold subDict
  refine wpAny_bind (wpAny_alloc ?_)
  refine wpAny_bind (wpAny_holding ?_)
  rw [if_neg (by rw [pairsOf, List.length_map]; omega)]
  refine wpAny_bind (wpAny_rule ?_)
  refine wpAny_bind ?_
  refine storeLong cs [] _ _ (Heap.DictOf.new s.heap) (by simpa using hn) (by simpa using hl') fun h' more hr hm hs => wpAny_pure (wpAny_pure ?_)
  refine hQ h' more hr (by simpa using hm) (fun a ha => ?_) ?_
  · rw [hs.2 a (Nat.ne_of_lt ha)]
    exact Heap.get?_push_ne _ _ _ (Nat.ne_of_lt ha)
  · rw [hs.1]; obtain ⟨⟨o⟩, l⟩ := s.heap; simp [Heap.push]
theorem evalShort {pos : Pos} : ∀ (cs : List (Int × Str)) (s : Shared) (Q : List (Value × Value) → Shared → Prop),
    (∀ vs kvs, rd kvs = rc cs → Carries (intKind prog w) vs kvs → Q vs { s with toks := s.toks + 2 * cs.length }) → wpAny (model prog w) A (evalPairs (pairsOf pos cs)) Q E s
  | [], s, Q, hQ => evalPairs_nil (by have := hQ [] [] rfl trivial; simpa using this)
  | (i, x) :: cs, s, Q, hQ => by
    rw [pairsOf, List.map_cons]
    refine evalPairs_cons (wpAny_mkInt (wpAny_bind (wpAny_mkText (wpAny_bind (wpAny_standAt (wpAny_pure ?_))))))
    refine evalShort cs _ _ fun vs kvs hr hc => ?_
    have := hQ ((.int i s.toks, .str x (s.toks + 1)) :: vs) ((i, .str x (s.toks + 1)) :: kvs) (by simp only [rd, rc, List.map_cons] at hr ⊢; rw [hr]; rfl) ⟨intKind_is prog w i _, rfl, hc⟩
    rw [List.length_cons, show s.toks + 2 * (cs.length + 1) = s.toks + 1 + 1 + 2 * cs.length by omega] at this
    exact this
theorem subDict_short {pos : Pos} {cs : List (Int × Str)} {s : Shared} {Q : Addr → Shared → Prop} (hl : cs.length ≤ 15) (hn : (cs.map (·.1)).Nodup)
    (hQ : ∀ h' kvs, rd kvs = rc cs → h'.DictOf (intKind prog w) s.heap.objs.size kvs → (∀ a, a < s.heap.objs.size → h'.get? a = s.heap.get? a) → h'.objs.size = s.heap.objs.size + 1 → Q s.heap.objs.size { s with heap := h', toks := s.toks + 3 * cs.length }) :
    wpAny (model prog w) A (subDict (pairsOf pos cs)) Q E s := by
  refine wpAny_subDict (knd := intKind prog w) (by rw [pairsOf, List.length_map]; exact hl) ?_
  refine evalShort cs _ _ fun vs kvs hr hc => ⟨kvs, hc, Heap.DictOf.new s.heap, fun h' hm hs => ?_⟩
  rw [merged_nil_of_nodup kvs (by rw [rd_keys hr]; exact hn)] at hm
  have e : s.toks + 2 * cs.length + vs.length = s.toks + 3 * cs.length := by
    rw [← hc.length, rd_len hr]; omega
  have := hQ h' kvs hr hm (fun a ha => by
    rw [hs.2 a (Nat.ne_of_lt ha)]
    exact Heap.get?_push_ne _ _ _ (Nat.ne_of_lt ha)) (by rw [hs.1]; obtain ⟨⟨o⟩, l⟩ := s.heap; simp [Heap.push])
  rw [← e] at this
  exact this
theorem subDict_any {pos : Pos} {cs : List (Int × Str)} {s : Shared} {Q : Addr → Shared → Prop} (hl' : cs.length ≤ sizeLine) (hn : (cs.map (·.1)).Nodup)
    (hQ : ∀ h' kvs, rd kvs = rc cs → h'.DictOf (intKind prog w) s.heap.objs.size kvs → (∀ a, a < s.heap.objs.size → h'.get? a = s.heap.get? a) → h'.objs.size = s.heap.objs.size + 1 → Q s.heap.objs.size { s with heap := h', toks := s.toks + 3 * cs.length }) :
    wpAny (model prog w) A (subDict (pairsOf pos cs)) Q E s := by
  by_cases h : cs.length ≤ 15
  · exact subDict_short h hn hQ
  · exact subDict_long (by omega) hl' hn hQ
/-- what a display does with the pairs that it has gathered: nothing where there are none; a dict of their own first; behind that, merged into it -/
structure Flush (M : Model) (A : Around) (E : Value → Shared → Prop) (F : List (Sem Value × Sem Value) → Option Addr → Sem (Option Addr)) : Prop where
  idle : ∀ m, F [] m = pure m
  first : ∀ ps s (Q : Option Addr → Shared → Prop), ps ≠ [] → wpAny M A (subDict ps) (fun a t => Q (some a) t) E s → wpAny M A (F ps none) Q E s
  next : ∀ ps d s (Q : Option Addr → Shared → Prop), ps ≠ [] → wpAny M A (subDict ps) (fun a t => ∀ E', wpAny M A (mergeMapping d (.ref a) false) (fun _ u => Q (some d) u) E' t) E s → wpAny M A (F ps (some d)) Q E s
theorem pairs_some {pos : Pos} {cs : List (Int × Str)} (h : cs ≠ []) : pairsOf pos cs ≠ [] := fun q => h (List.map_eq_nil_iff.mp q)
theorem flush_some {F} (hF : Flush (model prog w) A E F) {pos : Pos} {cs : List (Int × Str)} {d : Addr} {acc : List (Int × Value)} {s : Shared} {Q : Option Addr → Shared → Prop} (hc0 : cs ≠ []) (hm : s.heap.DictOf (intKind prog w) d acc) (ha : acc ≠ []) (hlow : sysModules < s.heap.objs.size) (hd : d < s.heap.objs.size)
    (hn : (acc.map (·.1) ++ cs.map (·.1)).Nodup) (hsz : acc.length + cs.length ≤ sizeLine)
    (hQ : ∀ h' more, rd more = rc cs → h'.DictOf (intKind prog w) d (acc ++ more) → (∀ a, a < s.heap.objs.size → a ≠ d → h'.get? a = s.heap.get? a) → h'.objs.size = s.heap.objs.size + 1 → Q (some d) { s with heap := h', toks := s.toks + 3 * cs.length }) :
    wpAny (model prog w) A (F (pairsOf pos cs) (some d)) Q E s := by
  rw [List.nodup_append] at hn
  refine hF.next _ d s Q (pairs_some hc0) (subDict_any (by omega) hn.2.1 fun h₁ more hr hm₁ hk₁ hs₁ E' => ?_)
  have hmd : h₁.DictOf (intKind prog w) d acc := hm.at fun o e => (hk₁ d hd).trans e
  refine mergeMapping_fresh (Nat.ne_of_lt hd) (beq_eq_false_iff_ne.mpr (Nat.ne_of_gt hlow)) ha hmd hm₁ ?_ (fun h' hm' hs' => ?_) (by rw [rd_len hr]; exact hsz)
  · rw [List.map_append, rd_keys hr, List.nodup_append]; exact hn
  · exact hQ h' more hr hm' (fun a ha hne => (hs'.2 a hne).trans (hk₁ a ha)) (hs'.1.trans hs₁)
end
end Mine
end
section
open PySem PySem.W PyProof.Rows
namespace Mine
abbrev DSt := Option Addr × List (Sem Value × Sem Value)
section
variable {prog : Program} {w : World} {A : Around} {E : Value → Shared → Prop}
noncomputable def items (ps : List (Sem Value × Sem Value)) : List (Option (Sem Value) × Sem Value) := ps.map fun p => (some p.1, p.2)
/-- one turn of the display's loop: gather; at seventeen, hand on -/
structure Turn (F : List (Sem Value × Sem Value) → Option Addr → Sem (Option Addr)) (f : (Option (Sem Value) × Sem Value) → DSt → Sem (ForInStep DSt)) : Prop where
  short : ∀ (p : Sem Value × Sem Value) (main : Option Addr) (run : List (Sem Value × Sem Value)), run.length + 1 ≠ 17 → f (some p.1, p.2) (main, run) = pure (.yield (main, run ++ [p]))
  full : ∀ (p : Sem Value × Sem Value) (main : Option Addr) (run : List (Sem Value × Sem Value)), run.length + 1 = 17 → f (some p.1, p.2) (main, run) = (do let m ← F (run ++ [p]) main; pure (.yield (m, [])))
theorem Turn.gather {F f} (T : Turn F f) : ∀ (ps run : List (Sem Value × Sem Value)) (main : Option Addr) (rest : List (Option (Sem Value) × Sem Value)), run.length + ps.length < 17 → forIn (items ps ++ rest) (main, run) f = forIn rest (main, run ++ ps) f
  | [], run, main, rest, _ => by simp [items]
  | p :: ps, run, main, rest, h => by
    rw [List.length_cons] at h
    rw [items, List.map_cons, List.cons_append, List.forIn_cons, T.short p main run (by omega), pure_bind]
    have := T.gather ps (run ++ [p]) main rest (by simp; omega)
    simpa [items] using this
theorem Turn.chunk {F f} (T : Turn F f) (ps : List (Sem Value × Sem Value)) (main : Option Addr) (rest : List (Option (Sem Value) × Sem Value)) (h : ps.length = 17) : forIn (items ps ++ rest) (main, []) f = (do let m ← F ps main; forIn rest (m, []) f) := by
  obtain ⟨qs, p, rfl⟩ : ∃ qs p, ps = qs ++ [p] := ⟨ps.dropLast, ps.getLast (by intro e; rw [e] at h; cases h), (List.dropLast_concat_getLast _).symm⟩
  have hq : qs.length = 16 := by simpa using h
  rw [show items (qs ++ [p]) ++ rest = items qs ++ ((some p.1, p.2) :: rest) by simp [items], T.gather qs [] main _ (by simp [hq]), List.forIn_cons, T.full p main _ (by simp [hq])]
  simp
theorem loopSome {F f} (hF : Flush (model prog w) A E F) (T : Turn F f) {pos : Pos} {d : Addr} : ∀ (n : Nat) (cs : List (Int × Str)) (acc : List (Int × Value)) (s : Shared) (Q : Option Addr → Shared → Prop), cs.length ≤ n → s.heap.DictOf (intKind prog w) d acc → acc ≠ [] → sysModules < s.heap.objs.size → d < s.heap.objs.size →
    (acc.map (·.1) ++ cs.map (·.1)).Nodup → acc.length + cs.length ≤ sizeLine →
    (∀ h' more, rd more = rc cs → h'.DictOf (intKind prog w) d (acc ++ more) → (∀ a, a < s.heap.objs.size → a ≠ d → h'.get? a = s.heap.get? a) → h'.objs.size = s.heap.objs.size + (cs.length + 16) / 17 → Q (some d) { s with heap := h', toks := s.toks + 3 * cs.length }) →
    wpAny (model prog w) A (do let r ← forIn (items (pairsOf pos cs)) (some d, []) f; F r.2 r.1) Q E s := by
  intro n
  induction n with
  | zero =>
    intro cs acc s Q hl hm ha hlow hd hn hsz hQ
    obtain rfl : cs = [] := List.eq_nil_of_length_eq_zero (by omega)
    have := hQ s.heap [] rfl (by simpa using hm) (fun _ _ _ => rfl) (by simp)
    simp only [pairsOf, items, List.map_nil, List.forIn_nil, pure_bind, hF.idle]
    exact wpAny_pure (by simpa using this)
  | succ n ih =>
    intro cs acc s Q hl hm ha hlow hd hn hsz hQ
    by_cases hc0 : cs = []
    · subst hc0
      have := hQ s.heap [] rfl (by simpa using hm) (fun _ _ _ => rfl) (by simp)
      simp only [pairsOf, items, List.map_nil, List.forIn_nil, pure_bind, hF.idle]
      exact wpAny_pure (by simpa using this)
    have hpos : 0 < cs.length := List.length_pos_iff.mpr hc0
    by_cases hlt : cs.length < 17
    · have e := T.gather (pairsOf pos cs) [] (some d) [] (by simpa [pairsOf] using hlt)
      rw [List.append_nil] at e
      rw [e, List.forIn_nil, pure_bind]
      refine flush_some hF hc0 hm ha hlow hd hn hsz fun h' more hr hm' hk' hs' => hQ h' more hr hm' hk' ?_
      rw [hs']; omega
    · have hc : cs = cs.take 17 ++ cs.drop 17 := (List.take_append_drop 17 cs).symm
      have hl17 : (cs.take 17).length = 17 := by rw [List.length_take]; omega
      have hld : (cs.drop 17).length = cs.length - 17 := List.length_drop
      have e : items (pairsOf pos cs) = items (pairsOf pos (cs.take 17)) ++ items (pairsOf pos (cs.drop 17)) := by
        conv => lhs; rw [hc]
        simp [items, pairsOf]
      rw [e, T.chunk _ _ _ (by simpa [pairsOf] using hl17), bind_assoc]
      have hn1 : (acc.map (·.1) ++ (cs.take 17).map (·.1)).Nodup ∧ ((acc.map (·.1) ++ (cs.take 17).map (·.1)) ++ (cs.drop 17).map (·.1)).Nodup := by
        have h2 : acc.map (·.1) ++ cs.map (·.1) = (acc.map (·.1) ++ (cs.take 17).map (·.1)) ++ (cs.drop 17).map (·.1) := by
          conv => lhs; rw [hc]
          simp
        rw [h2] at hn
        exact ⟨(List.nodup_append.mp hn).1, hn⟩
      refine wpAny_bind (flush_some hF (by intro q; rw [q] at hl17; cases hl17) hm ha hlow hd hn1.1 (by omega) fun h₁ more hr hm₁ hk₁ hs₁ => ?_)
      refine ih (cs.drop 17) (acc ++ more) _ Q (by omega) hm₁ (by simp [ha]) (by show sysModules < h₁.objs.size; rw [hs₁]; exact Nat.lt_succ_of_lt hlow) (by show d < h₁.objs.size; rw [hs₁]; exact Nat.lt_succ_of_lt hd) (by rw [List.map_append, rd_keys hr]; exact hn1.2) (by rw [List.length_append, rd_len hr]; omega) fun h' more' hr' hm' hk' hs' => ?_
      have hs'' : h'.objs.size = h₁.objs.size + ((cs.drop 17).length + 16) / 17 := hs'
      have := hQ h' (more ++ more') (by
        rw [hc]; simp only [rd, rc, List.map_append] at hr hr' ⊢; rw [hr, hr']) (by rw [← List.append_assoc]; exact hm') (fun a h1 h2 => (hk' a (by show a < h₁.objs.size; omega) h2).trans (hk₁ a h1 h2)) (by omega)
      rw [show s.toks + 3 * cs.length = s.toks + 3 * (cs.take 17).length + 3 * (cs.drop 17).length by omega] at this
      exact this
theorem display {pos : Pos} {cs : List (Int × Str)} {s : Shared} {Q : Value → Shared → Prop} (hl : 17 ≤ cs.length) (hlow : sysModules < s.heap.objs.size) (hn : (cs.map (·.1)).Nodup) (hsz : cs.length ≤ sizeLine)
    (hQ : ∀ h' kvs, rd kvs = rc cs → h'.DictOf (intKind prog w) s.heap.objs.size kvs → (∀ a, a < s.heap.objs.size → h'.get? a = s.heap.get? a) → h'.objs.size = s.heap.objs.size + (cs.length + 16) / 17 → Q (.ref s.heap.objs.size) { s with heap := h', toks := s.toks + 3 * cs.length }) :
    wpAny (model prog w) A (dictDisplay (items (pairsOf pos cs))) Q E s := by
  have key : ∀ F f, Flush (model prog w) A E F → Turn F f → wpAny (model prog w) A (do let r ← forIn (items (pairsOf pos cs)) ((none : Option Addr), ([] : List (Sem Value × Sem Value))) f; match ← F r.2 r.1 with | some d => pure (Value.ref d) | none => newDict) Q E s := by
    intro F f hF T
    have hc : cs = cs.take 17 ++ cs.drop 17 := (List.take_append_drop 17 cs).symm
    have hl17 : (cs.take 17).length = 17 := by rw [List.length_take]; omega
    have hld : (cs.drop 17).length = cs.length - 17 := List.length_drop
    have e : items (pairsOf pos cs) = items (pairsOf pos (cs.take 17)) ++ items (pairsOf pos (cs.drop 17)) := by
      conv => lhs; rw [hc]
      simp [items, pairsOf]
    rw [e, T.chunk _ _ _ (by simpa [pairsOf] using hl17), bind_assoc]
    have hn1 : ((cs.take 17).map (·.1)).Nodup ∧ ((cs.take 17).map (·.1) ++ (cs.drop 17).map (·.1)).Nodup := by
      have h2 : cs.map (·.1) = (cs.take 17).map (·.1) ++ (cs.drop 17).map (·.1) := by
        conv => lhs; rw [hc]
        simp
      rw [h2] at hn
      exact ⟨(List.nodup_append.mp hn).1, hn⟩
    have first : ∀ Q' : Option Addr → Shared → Prop, (∀ h' kvs, rd kvs = rc (cs.take 17) → h'.DictOf (intKind prog w) s.heap.objs.size kvs → (∀ a, a < s.heap.objs.size → h'.get? a = s.heap.get? a) → h'.objs.size = s.heap.objs.size + 1 → Q' (some s.heap.objs.size) { s with heap := h', toks := s.toks + 3 * (cs.take 17).length }) →
        wpAny (model prog w) A (F (pairsOf pos (cs.take 17)) none) Q' E s :=
      fun Q' hQ' => hF.first _ s Q' (pairs_some (by intro q; rw [q] at hl17; cases hl17)) (subDict_any (by omega) hn1.1 hQ')
    refine wpAny_bind (first _ fun h₁ kvs hr hm₁ hk₁ hs₁ => ?_)
    have hne : kvs ≠ [] := by
      intro q
      have := rd_len hr
      rw [q, hl17] at this
      cases this
    have := loopSome hF T (pos := pos) (d := s.heap.objs.size) _ (cs.drop 17) kvs { s with heap := h₁, toks := s.toks + 3 * (cs.take 17).length } (fun r s' => wpAny (model prog w) A (match r with | some d => pure (Value.ref d) | none => newDict) Q E s') (Nat.le_refl _) hm₁ hne
      (by show sysModules < h₁.objs.size; rw [hs₁]; exact Nat.lt_succ_of_lt hlow) (by show s.heap.objs.size < h₁.objs.size; rw [hs₁]; exact Nat.lt_succ_self _) (by rw [rd_keys hr]; exact hn1.2) (by rw [rd_len hr]; omega) (fun h' more hr' hm' hk' hs' => by
        have hs'' : h'.objs.size = h₁.objs.size + ((cs.drop 17).length + 16) / 17 := hs'
        have := hQ h' (kvs ++ more) (by rw [hc]; simp only [rd, rc, List.map_append] at hr hr' ⊢; rw [hr, hr']) hm' (fun a h1 => (hk' a (by show a < h₁.objs.size; omega) (Nat.ne_of_lt h1)).trans (hk₁ a h1)) (by omega)
        rw [show s.toks + 3 * cs.length = s.toks + 3 * (cs.take 17).length + 3 * (cs.drop 17).length by omega] at this
        exact wpAny_pure this)
    rw [← bind_assoc]
    exact wpAny_bind this
  unfold dictDisplay
  extract_lets G
  refine key G _ ⟨fun _ => rfl, fun ps s Q h h' => ?_, fun ps d s Q h h' => ?_⟩ ⟨fun p main run h => ?_, fun p main run h => ?_⟩
  · cases ps with
    | nil => exact absurd rfl h
    | cons _ _ => exact wpAny_bind (wpAny_mono h' (fun _ _ q => wpAny_pure q) fun _ _ x => x)
  · cases ps with
    | nil => exact absurd rfl h
    | cons _ _ => exact wpAny_bind (wpAny_holding (wpAny_mono h' (fun _ _ q => wpAny_bind (wpAny_onRaise (wpAny_holding (wpAny_mono (q _) (fun _ _ r => wpAny_pure r) fun _ _ x => x)))) fun _ _ x => x))
  · have hne : ((run ++ [(p.1, p.2)]).length == 17) = false := by simp; omega
    simp only [hne, Bool.false_eq_true, if_false]
  · have hne : ((run ++ [(p.1, p.2)]).length == 17) = true := by simp; omega
    simp only [hne, if_true]
    rfl
end
end Mine
end
section
open PySem PySem.W PyProof.Rows
namespace Mine
noncomputable def aTg : Stmt → List Expr
  | .Assign t _ _ => t
  | _ => []
noncomputable def aVl : Stmt → Expr
  | .Assign _ v _ => v
  | _ => default
noncomputable def aKeys : Expr → List (Option Expr)
  | .Dict ks _ _ => ks
  | _ => []
noncomputable def aVals : Expr → List Expr
  | .Dict _ vs _ => vs
  | _ => []
noncomputable def aPos : Expr → Pos
  | .Dict _ _ p => p
  | _ => default
noncomputable def keyI : Option Expr → Int
  | some (.Constant (.int i) _ _) => i
  | _ => 0
noncomputable def valX : Expr → Str
  | .Constant (.str x) _ _ => x
  | _ => Str.empty
noncomputable def tbl : List (Int × Str) := ((aKeys (aVl (stI 11))).zip (aVals (aVl (stI 11)))).map fun x => (keyI x.1, valX x.2)
noncomputable def dPos : Pos := aPos (aVl (stI 11))
noncomputable def DV : Sem Value := dictDisplay (items (pairsOf dPos tbl))
noncomputable def k1 (v : Value) : Sem Flow := do assignStores topEnv v (← swappedStores (aTg (stI 11)) (aVl (stI 11)) topEnv) ((assignEach (aTg (stI 11)) topEnv).map (·.2))
noncomputable def kk : Flow → Sem Flow := fun f => match f with | .next => execs (stmts.drop 11) topEnv | f => pure f
noncomputable def kd : Flow → Sem Fin := fun f => .pure (.done f)
noncomputable def T1 : Sem Fin := (((DV.bind k1).bind kk).onRaise (leaving topEnv)).bind kd
set_option maxHeartbeats 4000000 in
theorem run10a (w : World) (os : OsState) : goT treeTable pw w 2 ⟨tr9 w.params, 84, {}, #[], {}, 429, os⟩ (thr (stmts.drop 10) ⟨40, 0, 41, 30⟩) =
    some (⟨tr9 w.params, 84, {}, #[], {}, 429, os⟩, ⟨T1, .body stmts topEnv, dPos, [topFrame default]⟩) := by kernel_rfl!
theorem tbl_len : tbl.length = 650 := by kernel_rfl!
end Mine
end
section
open PySem PySem.W PyProof.Rows
namespace Mine
noncomputable def tr9f (P : Params) (f : Nat → Obj) : BT := (.node (ob0_0 P) (.node (ob1_1 P) (.node (ob3_62 P) (.node (ob7_7 P) (.node (ob7_7 P) (.node (ob31_30 P) (.node (ob63_49 P) .nil .nil) (.node (f 95) .nil .nil)) (.node (ob8_8 P) (.node (ob79_64 P) .nil .nil) (.node (f 111) .nil .nil))) (.node (ob23_22 P) (.node (ob7_7 P) (.node (ob71_57 P) .nil .nil) (.node (f 103) .nil .nil)) (.node (ob55_44 P) (.node (f 87) .nil .nil) (.node (f 119) .nil .nil)))) (.node (ob11_11 P) (.node (ob19_18 P) (.node (ob7_7 P) (.node (ob67_54 P) .nil .nil) (.node (f 99) .nil .nil)) (.node (ob51_41 P) (.node (ob83_67 P) .nil .nil) (.node (f 115) .nil .nil))) (.node (ob27_26 P) (.node (ob43_36 P) (.node (ob7_7 P) .nil .nil) (.node (f 107) .nil .nil)) (.node (ob7_7 P) (.node (f 91) .nil .nil) .nil)))) (.node (ob5_5 P) (.node (ob9_9 P) (.node (ob17_16 P) (.node (ob8_8 P) (.node (ob65_51 P) .nil .nil) (.node (f 97) .nil .nil)) (.node (ob7_7 P) (.node (ob81_65 P) .nil .nil) (.node (f 113) .nil .nil))) (.node (ob25_24 P) (.node (ob41_35 P) (.node (ob73_59 P) .nil .nil) (.node (f 105) .nil .nil)) (.node (ob57_46 P) (.node (f 89) .nil .nil) (.node (f 121) .nil .nil)))) (.node (ob13_13 P) (.node (ob21_20 P) (.node (ob37_33 P) (.node (ob69_56 P) .nil .nil) (.node (f 101) .nil .nil)) (.node (ob53_43 P) (.node (f 85) .nil .nil) (.node (f 117) .nil .nil))) (.node (ob29_63 P) (.node (ob45_38 P) (.node (ob7_7 P) .nil .nil) (.node (f 109) .nil .nil)) (.node (ob61_48 P) (.node (f 93) .nil .nil) .nil))))) (.node (ob2_2 P) (.node (ob4_4 P) (.node (ob8_8 P) (.node (ob16_15 P) (.node (ob7_7 P) (.node (ob64_50 P) .nil .nil) (.node (f 96) .nil .nil)) (.node (ob48_39 P) (.node (ob7_7 P) .nil .nil) (.node (f 112) .nil .nil))) (.node (ob24_23 P) (.node (ob8_8 P) (.node (ob72_58 P) .nil .nil) (.node (f 104) .nil .nil)) (.node (ob56_45 P) (.node (f 88) .nil .nil) (.node (f 120) .nil .nil)))) (.node (ob12_12 P) (.node (ob20_19 P) (.node (ob36_32 P) (.node (ob68_55 P) .nil .nil) (.node (f 100) .nil .nil)) (.node (ob52_42 P) (.node (f 84) .nil .nil) (.node (f 116) .nil .nil))) (.node (ob7_7 P) (.node (ob44_37 P) (.node (ob76_61 P) .nil .nil) (.node (f 108) .nil .nil)) (.node (ob8_8 P) (.node (f 92) .nil .nil) .nil)))) (.node (ob6_6 P) (.node (ob10_10 P) (.node (ob18_17 P) (.node (ob34_31 P) (.node (ob66_53 P) .nil .nil) (.node (f 98) .nil .nil)) (.node (ob50_40 P) (.node (ob82_66 P) .nil .nil) (.node (f 114) .nil .nil))) (.node (ob26_25 P) (.node (ob7_7 P) (.node (ob74_60 P) .nil .nil) (.node (f 106) .nil .nil)) (.node (ob58_47 P) (.node (f 90) .nil .nil) (.node (f 122) .nil .nil)))) (.node (ob14_14 P) (.node (ob22_21 P) (.node (ob38_34 P) (.node (ob7_7 P) .nil .nil) (.node (f 102) .nil .nil)) (.node (ob6_6 P) (.node (f 86) .nil .nil) (.node (f 118) .nil .nil))) (.node (ob30_29 P) (.node (ob7_7 P) (.node (ob8_8 P) .nil .nil) (.node (f 110) .nil .nil)) (.node (ob7_7 P) (.node (f 94) .nil .nil) .nil))))))
theorem sch_of_I {p : Program} {w : World} : ∀ (n : Nat) (s : Shared) (t : Thread) (s' : Shared) (t' : Thread) (σ : Shared) (τ : Thread), runNI (denote table) p w n s t = .running s' t' → s.forget = σ.forget → t.forget = τ.forget → σ.asleep →
    ∃ σ' τ', Sch p w σ τ σ' τ' ∧ s'.forget = σ'.forget ∧ t'.forget = τ'.forget ∧ σ'.heap.life = σ.heap.life
  | 0, s, t, s', t', σ, τ, h, hs, ht, _ => by cases h; exact ⟨σ, τ, Sch.refl _ _, hs, ht, rfl⟩
  | n + 1, s, t, s', t', σ, τ, h, hs, ht, z => by
    simp only [runNI] at h
    cases hl : t.loud with
    | true => rw [stepI_loud _ _ _ hl] at h; cases h
    | false =>
      rw [stepI_quiet _ _ _ hl] at h
      cases hk : stepK (denote table) p w s t with
      | halt o s₂ => rw [hk] at h; cases h
      | go s₂ t₂ =>
        rw [hk] at h
        have hcalm : t.calm = true := by
          rw [Thread.calm_eq, hl]
          cases hr : t.refused with
          | false => rfl
          | true =>
            obtain ⟨what, e⟩ := stepK_refused (denote table) p w (s := s) hr
            rw [hk] at e; cases e
        have hτ : τ.calm = true := by rw [← Thread.calm_forget τ, ← ht, Thread.calm_forget]; exact hcalm
        have e := runNK_same (denote table) p w 1 hs ht
        have e1 : runNK (denote table) p w 1 s t = .running s₂ t₂ := by simp only [runNK, hk]
        rw [e1] at e
        cases hst : step (denote table) p w σ τ with
        | halt o σ₂ =>
          have e2 : runN (denote table) p w 1 σ τ = .halted o σ₂ := by simp only [runN, hst]
          rw [e2] at e; cases e
        | go σ₂ τ₂ =>
          have e2 : runN (denote table) p w 1 σ τ = .running σ₂ τ₂ := by simp only [runN, hst]
          rw [e2] at e
          simp only [Run.forget, Run.running.injEq] at e
          have e' : sstep (denote table) p w (.single σ τ) = .go (.single σ₂ τ₂) := by
            rcases sstep_single (denote table) p w σ τ hτ z with q | q
            · rw [q, hst]; rfl
            · rw [hst] at q; cases q
          have z' : σ₂.asleep := Shared.asleep_of_life (step_life (denote table) p w _ _ _ _ hst) z
          obtain ⟨σ', τ', ⟨m, k⟩, a, b, l⟩ := sch_of_I n s₂ t₂ s' t' σ₂ τ₂ h e.1 e.2 z'
          exact ⟨σ', τ', ⟨m + 1, by simp only [schedN, e']; exact k⟩, a, b, l.trans (step_life (denote table) p w _ _ _ _ hst)⟩
theorem onRaise_bind {α β : Type} (m : Sem α) (k : α → Sem β) (h : Value → Sem Unit) : (m.bind k).onRaise h = (m.onRaise h).bind (fun a => (k a).onRaise h) := by
  induction m with
  | pure a => rfl
  | raise e =>
    show (h e).bind (fun _ => .raise e) = ((h e).bind fun _ => .raise e).bind _
    have := bind_assoc (h e) (fun _ => (Sem.raise e : Sem α)) (fun a => (k a).onRaise h)
    exact this.symm
  | unsupported | finish => rfl
  | _ => simp only [Sem.bind, Sem.onRaise, *]
noncomputable def K1 (v : Value) : Sem Fin := ((((k1 v).bind kk).onRaise (leaving topEnv)).bind kd)
theorem T1_eq : T1 = (DV.onRaise (leaving topEnv)).bind K1 := by
  unfold T1
  rw [onRaise_bind, onRaise_bind]
  have h1 : ∀ (m : Sem Value) (a : Value → Sem Flow) (b : Flow → Sem Flow) (c : Flow → Sem Fin), ((m.bind a).bind b).bind c = m.bind fun v => ((a v).bind b).bind c := by
    intro m a b c
    have e1 : (m.bind a).bind b = m.bind fun v => (a v).bind b := bind_assoc m a b
    have e2 : (m.bind fun v => (a v).bind b).bind c = m.bind fun v => ((a v).bind b).bind c := bind_assoc m (fun v => (a v).bind b) c
    rw [e1, e2]
  rw [h1]
  congr 1
  funext v
  unfold K1
  rw [onRaise_bind]
noncomputable def thrK (r : List Stmt) (pos : Pos) (kp : List Value) : Thread := ⟨restT r, .body stmts topEnv, pos, [.ret topAfter none false [] (.builtin "claim.caller" {}) default kp]⟩
set_option maxHeartbeats 4000000 in
theorem run10b (w : World) (os : OsState) (f : Nat → Obj) (pos : Pos) (kp : List Value) : goT treeTable pw w 7 ⟨tr9f w.params f, 123, {}, #[], {}, 2379, os⟩ ⟨K1 (.ref 84), .body stmts topEnv, pos, [.ret topAfter none false [] (.builtin "claim.caller" {}) default kp]⟩ =
    some (⟨tr10 w.params f, 123, {}, #[], {}, 2380, os⟩, thrK (stmts.drop 11) ⟨42, 0, 42, 13⟩ kp) := by kernel_rfl!
set_option maxHeartbeats 4000000 in
theorem run19K (w : World) (os : OsState) (f : Nat → Obj) (kp : List Value) : goT treeTable pw w 239 ⟨tr10 w.params f, 123, {}, #[], {}, 2380, os⟩ (thrK (stmts.drop 11) ⟨42, 0, 42, 13⟩ kp) =
    some (⟨tr19 w.params f, 171, {}, #[], {}, 2443, os⟩, endThr) := by kernel_rfl!
theorem absHeap_get {t : BT} {n : Nat} {a : Nat} {o : Obj} (h : a < n) (g : t.get a = some o) (hf : o.isFreed = false) : (absHeap t n {}).get? a = some o := by
  rw [abs_get h g]
  unfold alive
  split
  · cases hf
  · rfl
theorem objs_of_get {h : Heap} {a : Addr} {o : Obj} (e : h.get? a = some o) : h.objs[a]? = some o := by
  unfold Heap.get? at e
  split at e
  · cases e
  · exact e
theorem tr9f_low (P : Params) (f : Nat → Obj) : ∀ i, i < 84 → ∃ o, (tr9 P).get i = some o ∧ (tr9f P f).get i = some o ∧ o.isFreed = false
  | 0, _ => ⟨_, rfl, rfl, rfl⟩
  | 1, _ => ⟨_, rfl, rfl, rfl⟩
  | 2, _ => ⟨_, rfl, rfl, rfl⟩
  | 3, _ => ⟨_, rfl, rfl, rfl⟩
  | 4, _ => ⟨_, rfl, rfl, rfl⟩
  | 5, _ => ⟨_, rfl, rfl, rfl⟩
  | 6, _ => ⟨_, rfl, rfl, rfl⟩
  | 7, _ => ⟨_, rfl, rfl, rfl⟩
  | 8, _ => ⟨_, rfl, rfl, rfl⟩
  | 9, _ => ⟨_, rfl, rfl, rfl⟩
  | 10, _ => ⟨_, rfl, rfl, rfl⟩
  | 11, _ => ⟨_, rfl, rfl, rfl⟩
  | 12, _ => ⟨_, rfl, rfl, rfl⟩
  | 13, _ => ⟨_, rfl, rfl, rfl⟩
  | 14, _ => ⟨_, rfl, rfl, rfl⟩
  | 15, _ => ⟨_, rfl, rfl, rfl⟩
  | 16, _ => ⟨_, rfl, rfl, rfl⟩
  | 17, _ => ⟨_, rfl, rfl, rfl⟩
  | 18, _ => ⟨_, rfl, rfl, rfl⟩
  | 19, _ => ⟨_, rfl, rfl, rfl⟩
  | 20, _ => ⟨_, rfl, rfl, rfl⟩
  | 21, _ => ⟨_, rfl, rfl, rfl⟩
  | 22, _ => ⟨_, rfl, rfl, rfl⟩
  | 23, _ => ⟨_, rfl, rfl, rfl⟩
  | 24, _ => ⟨_, rfl, rfl, rfl⟩
  | 25, _ => ⟨_, rfl, rfl, rfl⟩
  | 26, _ => ⟨_, rfl, rfl, rfl⟩
  | 27, _ => ⟨_, rfl, rfl, rfl⟩
  | 28, _ => ⟨_, rfl, rfl, rfl⟩
  | 29, _ => ⟨_, rfl, rfl, rfl⟩
  | 30, _ => ⟨_, rfl, rfl, rfl⟩
  | 31, _ => ⟨_, rfl, rfl, rfl⟩
  | 32, _ => ⟨_, rfl, rfl, rfl⟩
  | 33, _ => ⟨_, rfl, rfl, rfl⟩
  | 34, _ => ⟨_, rfl, rfl, rfl⟩
  | 35, _ => ⟨_, rfl, rfl, rfl⟩
  | 36, _ => ⟨_, rfl, rfl, rfl⟩
  | 37, _ => ⟨_, rfl, rfl, rfl⟩
  | 38, _ => ⟨_, rfl, rfl, rfl⟩
  | 39, _ => ⟨_, rfl, rfl, rfl⟩
  | 40, _ => ⟨_, rfl, rfl, rfl⟩
  | 41, _ => ⟨_, rfl, rfl, rfl⟩
  | 42, _ => ⟨_, rfl, rfl, rfl⟩
  | 43, _ => ⟨_, rfl, rfl, rfl⟩
  | 44, _ => ⟨_, rfl, rfl, rfl⟩
  | 45, _ => ⟨_, rfl, rfl, rfl⟩
  | 46, _ => ⟨_, rfl, rfl, rfl⟩
  | 47, _ => ⟨_, rfl, rfl, rfl⟩
  | 48, _ => ⟨_, rfl, rfl, rfl⟩
  | 49, _ => ⟨_, rfl, rfl, rfl⟩
  | 50, _ => ⟨_, rfl, rfl, rfl⟩
  | 51, _ => ⟨_, rfl, rfl, rfl⟩
  | 52, _ => ⟨_, rfl, rfl, rfl⟩
  | 53, _ => ⟨_, rfl, rfl, rfl⟩
  | 54, _ => ⟨_, rfl, rfl, rfl⟩
  | 55, _ => ⟨_, rfl, rfl, rfl⟩
  | 56, _ => ⟨_, rfl, rfl, rfl⟩
  | 57, _ => ⟨_, rfl, rfl, rfl⟩
  | 58, _ => ⟨_, rfl, rfl, rfl⟩
  | 59, _ => ⟨_, rfl, rfl, rfl⟩
  | 60, _ => ⟨_, rfl, rfl, rfl⟩
  | 61, _ => ⟨_, rfl, rfl, rfl⟩
  | 62, _ => ⟨_, rfl, rfl, rfl⟩
  | 63, _ => ⟨_, rfl, rfl, rfl⟩
  | 64, _ => ⟨_, rfl, rfl, rfl⟩
  | 65, _ => ⟨_, rfl, rfl, rfl⟩
  | 66, _ => ⟨_, rfl, rfl, rfl⟩
  | 67, _ => ⟨_, rfl, rfl, rfl⟩
  | 68, _ => ⟨_, rfl, rfl, rfl⟩
  | 69, _ => ⟨_, rfl, rfl, rfl⟩
  | 70, _ => ⟨_, rfl, rfl, rfl⟩
  | 71, _ => ⟨_, rfl, rfl, rfl⟩
  | 72, _ => ⟨_, rfl, rfl, rfl⟩
  | 73, _ => ⟨_, rfl, rfl, rfl⟩
  | 74, _ => ⟨_, rfl, rfl, rfl⟩
  | 75, _ => ⟨_, rfl, rfl, rfl⟩
  | 76, _ => ⟨_, rfl, rfl, rfl⟩
  | 77, _ => ⟨_, rfl, rfl, rfl⟩
  | 78, _ => ⟨_, rfl, rfl, rfl⟩
  | 79, _ => ⟨_, rfl, rfl, rfl⟩
  | 80, _ => ⟨_, rfl, rfl, rfl⟩
  | 81, _ => ⟨_, rfl, rfl, rfl⟩
  | 82, _ => ⟨_, rfl, rfl, rfl⟩
  | 83, _ => ⟨_, rfl, rfl, rfl⟩
  | n + 84, h => absurd h (by omega)
theorem tr9f_high (P : Params) (f : Nat → Obj) : ∀ i, 84 ≤ i → i < 123 → (tr9f P f).get i = some (f i)
  | 0, h, _ => absurd h (by omega)
  | 1, h, _ => absurd h (by omega)
  | 2, h, _ => absurd h (by omega)
  | 3, h, _ => absurd h (by omega)
  | 4, h, _ => absurd h (by omega)
  | 5, h, _ => absurd h (by omega)
  | 6, h, _ => absurd h (by omega)
  | 7, h, _ => absurd h (by omega)
  | 8, h, _ => absurd h (by omega)
  | 9, h, _ => absurd h (by omega)
  | 10, h, _ => absurd h (by omega)
  | 11, h, _ => absurd h (by omega)
  | 12, h, _ => absurd h (by omega)
  | 13, h, _ => absurd h (by omega)
  | 14, h, _ => absurd h (by omega)
  | 15, h, _ => absurd h (by omega)
  | 16, h, _ => absurd h (by omega)
  | 17, h, _ => absurd h (by omega)
  | 18, h, _ => absurd h (by omega)
  | 19, h, _ => absurd h (by omega)
  | 20, h, _ => absurd h (by omega)
  | 21, h, _ => absurd h (by omega)
  | 22, h, _ => absurd h (by omega)
  | 23, h, _ => absurd h (by omega)
  | 24, h, _ => absurd h (by omega)
  | 25, h, _ => absurd h (by omega)
  | 26, h, _ => absurd h (by omega)
  | 27, h, _ => absurd h (by omega)
  | 28, h, _ => absurd h (by omega)
  | 29, h, _ => absurd h (by omega)
  | 30, h, _ => absurd h (by omega)
  | 31, h, _ => absurd h (by omega)
  | 32, h, _ => absurd h (by omega)
  | 33, h, _ => absurd h (by omega)
  | 34, h, _ => absurd h (by omega)
  | 35, h, _ => absurd h (by omega)
  | 36, h, _ => absurd h (by omega)
  | 37, h, _ => absurd h (by omega)
  | 38, h, _ => absurd h (by omega)
  | 39, h, _ => absurd h (by omega)
  | 40, h, _ => absurd h (by omega)
  | 41, h, _ => absurd h (by omega)
  | 42, h, _ => absurd h (by omega)
  | 43, h, _ => absurd h (by omega)
  | 44, h, _ => absurd h (by omega)
  | 45, h, _ => absurd h (by omega)
  | 46, h, _ => absurd h (by omega)
  | 47, h, _ => absurd h (by omega)
  | 48, h, _ => absurd h (by omega)
  | 49, h, _ => absurd h (by omega)
  | 50, h, _ => absurd h (by omega)
  | 51, h, _ => absurd h (by omega)
  | 52, h, _ => absurd h (by omega)
  | 53, h, _ => absurd h (by omega)
  | 54, h, _ => absurd h (by omega)
  | 55, h, _ => absurd h (by omega)
  | 56, h, _ => absurd h (by omega)
  | 57, h, _ => absurd h (by omega)
  | 58, h, _ => absurd h (by omega)
  | 59, h, _ => absurd h (by omega)
  | 60, h, _ => absurd h (by omega)
  | 61, h, _ => absurd h (by omega)
  | 62, h, _ => absurd h (by omega)
  | 63, h, _ => absurd h (by omega)
  | 64, h, _ => absurd h (by omega)
  | 65, h, _ => absurd h (by omega)
  | 66, h, _ => absurd h (by omega)
  | 67, h, _ => absurd h (by omega)
  | 68, h, _ => absurd h (by omega)
  | 69, h, _ => absurd h (by omega)
  | 70, h, _ => absurd h (by omega)
  | 71, h, _ => absurd h (by omega)
  | 72, h, _ => absurd h (by omega)
  | 73, h, _ => absurd h (by omega)
  | 74, h, _ => absurd h (by omega)
  | 75, h, _ => absurd h (by omega)
  | 76, h, _ => absurd h (by omega)
  | 77, h, _ => absurd h (by omega)
  | 78, h, _ => absurd h (by omega)
  | 79, h, _ => absurd h (by omega)
  | 80, h, _ => absurd h (by omega)
  | 81, h, _ => absurd h (by omega)
  | 82, h, _ => absurd h (by omega)
  | 83, h, _ => absurd h (by omega)
  | 84, _, _ => rfl
  | 85, _, _ => rfl
  | 86, _, _ => rfl
  | 87, _, _ => rfl
  | 88, _, _ => rfl
  | 89, _, _ => rfl
  | 90, _, _ => rfl
  | 91, _, _ => rfl
  | 92, _, _ => rfl
  | 93, _, _ => rfl
  | 94, _, _ => rfl
  | 95, _, _ => rfl
  | 96, _, _ => rfl
  | 97, _, _ => rfl
  | 98, _, _ => rfl
  | 99, _, _ => rfl
  | 100, _, _ => rfl
  | 101, _, _ => rfl
  | 102, _, _ => rfl
  | 103, _, _ => rfl
  | 104, _, _ => rfl
  | 105, _, _ => rfl
  | 106, _, _ => rfl
  | 107, _, _ => rfl
  | 108, _, _ => rfl
  | 109, _, _ => rfl
  | 110, _, _ => rfl
  | 111, _, _ => rfl
  | 112, _, _ => rfl
  | 113, _, _ => rfl
  | 114, _, _ => rfl
  | 115, _, _ => rfl
  | 116, _, _ => rfl
  | 117, _, _ => rfl
  | 118, _, _ => rfl
  | 119, _, _ => rfl
  | 120, _, _ => rfl
  | 121, _, _ => rfl
  | 122, _, _ => rfl
  | n + 123, _, h => absurd h (by omega)
end Mine
end
section
open PySem PySem.W PyProof.Rows
namespace Mine
noncomputable def ascI : List Int → Bool
  | a :: b :: r => decide (a < b) && ascI (b :: r)
  | _ => true
theorem ascI_lt : ∀ (l : List Int) (a : Int), ascI (a :: l) = true → ∀ b ∈ l, a < b
  | [], _, _, _, h => nomatch h
  | c :: r, a, h, b, hb => by
    simp only [ascI, Bool.and_eq_true, decide_eq_true_eq] at h
    rcases List.mem_cons.mp hb with rfl | hb
    · exact h.1
    · exact Int.lt_trans h.1 (ascI_lt r c h.2 b hb)
theorem ascI_nodup : ∀ (l : List Int), ascI l = true → l.Nodup
  | [], _ => List.nodup_nil
  | a :: l, h => by
    refine List.nodup_cons.mpr ⟨fun hm => Int.lt_irrefl a (ascI_lt l a h a hm), ascI_nodup l ?_⟩
    cases l with
    | nil => rfl
    | cons b r => simp only [ascI, Bool.and_eq_true] at h; exact h.2
theorem tbl_asc : ascI (tbl.map (·.1)) = true := by kernel_rfl!
theorem tbl_nodup : (tbl.map (·.1)).Nodup := ascI_nodup _ tbl_asc
noncomputable def s9 (w : World) (os : OsState) : Shared := ⟨absHeap (tr9 w.params) 84 {}, #[], {}, 429, os⟩
noncomputable def aroundOf (Γ : Ctx) : Around := { handled := Γ.handled, depth := frameCount Γ.below + Γ.code.weight, frames := none, guards := none, units := Γ.units }
theorem in_aroundOf (Γ : Ctx) : Γ.In (aroundOf Γ) := ⟨rfl, Nat.le_refl _, fun _ h => (by cases h), fun _ h => (by cases h), Nat.le_refl _⟩
theorem sch_of_wp {α : Type} {p : Program} {w : World} {Γ : Ctx} {st : List Frame} (hf : Γ.Fits st) (K : α → Sem PySem.Fin) (m : Sem α) {Q : α → Shared → Prop} {s : Shared} {pos : Pos}
    (h : wpAny (model p w) (aroundOf Γ) m Q (fun _ _ => False) s) (z : s.asleep) (hg : ∀ a s', Q a s' → s'.gens = #[]) :
    ∃ a s' pos' st', Q a s' ∧ forgetAll st = forgetAll st' ∧ s'.heap.life = s.heap.life ∧ Sch p w s ⟨m.bind K, Γ.code, pos, st⟩ s' ⟨K a, Γ.code, pos', st'⟩ := by
  obtain ⟨σ, p', t', ⟨n, hn⟩, hl⟩ := wp_comes_bind (M := model p w) hf K m _ _ pos s (h Γ pos (in_aroundOf Γ))
  rcases hl with ⟨v, rfl, hQ⟩ | ⟨_, _, h⟩
  · obtain ⟨σ', τ', hsch, e1, e2, l⟩ := sch_of_I n _ _ _ _ _ _ hn rfl rfl z
    obtain rfl := Shared.eq_of_forget_eq e1.symm (hg _ _ hQ)
    obtain ⟨cur, code, pos', st'⟩ := τ'
    simp only [Thread.forget, Thread.mk.injEq] at e2
    obtain ⟨rfl, rfl, rfl, e2⟩ := e2
    exact ⟨v, _, _, st', hQ, e2, l, hsch⟩
  · exact h.elim
theorem b3_gen {p : Program} {w : World} {A : Around} {T : List (Int × Str)} {pos : Pos} {hd : Value → Sem Unit} {s : Shared} (hT : T.length = 650) (hn : (T.map (·.1)).Nodup) (hsz : s.heap.objs.size = 84) (hg : s.gens = #[]) (hd0 : s.drawn = {}) (htk : s.toks = 429) :
    wpAny (model p w) A ((dictDisplay (items (pairsOf pos T))).onRaise hd) (fun v s' => v = .ref 84 ∧ ∃ h' kvs, rd kvs = rc T ∧ h'.DictOf (intKind p w) 84 kvs ∧ (∀ a, a < 84 → h'.get? a = s.heap.get? a) ∧ h'.objs.size = 123 ∧ s' = ⟨h', #[], {}, 2379, s.os⟩) (fun _ _ => False) s := by
  refine wpAny_onRaise ?_
  refine display (by omega) (by rw [hsz]; decide) hn (by rw [hT, sizeLine_eq]; omega) fun h' kvs hr hd hk hs => ?_
  rw [hsz] at hd hk hs ⊢
  rw [hT] at hs
  refine ⟨rfl, h', kvs, hr, hd, hk, by omega, ?_⟩
  rw [hg, hd0, htk, hT]
theorem b3_sch_gen {p : Program} {w : World} {T : List (Int × Str)} {dpos : Pos} {hd : Value → Sem Unit} {s : Shared} {K : Value → Sem PySem.Fin} {c : Code} {st : List Frame} {pos : Pos} (hT : T.length = 650) (hn : (T.map (·.1)).Nodup) (hsz : s.heap.objs.size = 84) (hg : s.gens = #[]) (hd0 : s.drawn = {}) (htk : s.toks = 429) (z : s.asleep) :
    ∃ h' kvs pos' st', rd kvs = rc T ∧ h'.DictOf (intKind p w) 84 kvs ∧ (∀ a, a < 84 → h'.get? a = s.heap.get? a) ∧ h'.objs.size = 123 ∧ h'.life = s.heap.life ∧ forgetAll st = forgetAll st' ∧
      Sch p w s ⟨((dictDisplay (items (pairsOf dpos T))).onRaise hd).bind K, c, pos, st⟩ ⟨h', #[], {}, 2379, s.os⟩ ⟨K (.ref 84), c, pos', st'⟩ := by
  have h := b3_gen (p := p) (w := w) (A := aroundOf (Ctx.of c st)) (T := T) (pos := dpos) (hd := hd) (s := s) hT hn hsz hg hd0 htk
  obtain ⟨v, s', pos', st', hQ, hst, hl, hsch⟩ := sch_of_wp (pos := pos) (Ctx.fits_of c st) K _ h z (fun a s' h => by obtain ⟨_, _, _, _, _, _, _, rfl⟩ := h; rfl)
  obtain ⟨rfl, h', kvs, hr, hd, hk, hs', rfl⟩ := hQ
  exact ⟨h', kvs, pos', st', hr, hd, hk, hs', hl, hst, hsch⟩
theorem forget_one {k : Result → Sem PySem.Fin} {c : Code} {p : Pos} : ∀ {st : List Frame}, forgetAll [.ret k none false [] c p []] = forgetAll st → ∃ kp, st = [.ret k none false [] c p kp]
  | [], h => by cases h
  | [.ret k' h g l c p kp], e => by
    simp only [forgetAll, List.map_cons, List.map_nil, Frame.forget, List.cons.injEq, Frame.ret.injEq, and_true] at e
    obtain ⟨rfl, rfl, rfl, rfl, rfl, rfl⟩ := e
    exact ⟨kp, rfl⟩
  | [.gen n k' l c' p'], e => by
    have e : [Frame.ret k none false [] c p []] = [Frame.gen n k' l c' p'] := e
    cases e
  | a :: b :: r, e => by
    have e := congrArg List.length e
    rw [forgetAll_cons, forgetAll_cons, forgetAll_cons, List.length_cons, List.length_cons, List.length_cons] at e
    exact absurd (Nat.succ.inj e) (Nat.succ_ne_zero _).symm
theorem heap_of_tree {h : Heap} {t : BT} {n : Nat} {l : Life} (hs : h.objs.size = n) (hl : h.life = l) (hg : ∀ i, i < n → ∃ o, h.objs[i]? = some o ∧ t.get i = some o) : h = absHeap t n l := by
  obtain ⟨objs, life⟩ := h
  obtain rfl : life = l := hl
  have : objs = (absHeap t n life).objs := by
    apply Array.ext_getElem?
    intro i
    rw [absHeap_at]
    by_cases hi : i < n
    · obtain ⟨o, h1, h2⟩ := hg i hi
      rw [if_pos hi, h2]
      exact h1
    · rw [if_neg hi]
      exact Array.getElem?_eq_none (by have : objs.size = n := hs; omega)
  exact congrArg (Heap.mk · life) this
theorem s9_facts {w : World} {os : OsState} {s : Shared} (hs : s = s9 w os) : s.heap.objs.size = 84 ∧ s.gens = #[] ∧ s.drawn = {} ∧ s.toks = 429 ∧ s.os = os ∧ s.asleep ∧ s.heap.life = {} ∧ ∀ i o, i < 84 → (tr9 w.params).get i = some o → o.isFreed = false → s.heap.get? i = some o := by
  subst hs
  exact ⟨absHeap_size _ _ _, rfl, rfl, rfl, rfl, ⟨rfl, rfl⟩, rfl, fun i o hi hg hf => absHeap_get hi hg hf⟩
theorem b3_sch {w : World} {os : OsState} {s : Shared} (hs : s = s9 w os) (pos : Pos) : ∃ (f : Nat → Obj) (pos' : Pos) (kp : List Value) (kvs : List (Int × Value)), rd kvs = rc tbl ∧ (∃ h' : Heap, h'.DictOf (intKind pw w) 84 kvs ∧ ∀ o, h'.get? 84 = some o → o = f 84) ∧
    Sch pw w s ⟨T1, .body stmts topEnv, pos, [topFrame default]⟩ ⟨absHeap (tr9f w.params f) 123 {}, #[], {}, 2379, os⟩ ⟨K1 (.ref 84), .body stmts topEnv, pos', [.ret topAfter none false [] (.builtin "claim.caller" {}) default kp]⟩ := by
  obtain ⟨hsz, hg, hd0, htk, hos, z, hl0, hlow⟩ := s9_facts hs
  clear hs
  obtain ⟨h', kvs, pos', st', hr, hd, hk, hs', hl, hst, hsch⟩ := b3_sch_gen (p := pw) (w := w) (T := tbl) (dpos := dPos) (hd := leaving topEnv) (s := s) (K := K1) (c := .body stmts topEnv) (st := [topFrame default]) (pos := pos) tbl_len tbl_nodup hsz hg hd0 htk z
  obtain ⟨kp, rfl⟩ := forget_one hst
  have he : h' = absHeap (tr9f w.params fun i => (h'.objs[i]?).getD default) 123 {} := by
    refine heap_of_tree hs' (hl.trans hl0) fun i hi => ?_
    rcases Nat.lt_or_ge i 84 with q | q
    · obtain ⟨o, g1, g2, g3⟩ := tr9f_low w.params (fun i => (h'.objs[i]?).getD default) i q
      exact ⟨o, objs_of_get ((hk i q).trans (hlow i o q g1 g3)), g2⟩
    · have e : h'.objs[i]? = some (h'.objs[i]'(by omega)) := Array.getElem?_eq_getElem (by omega)
      exact ⟨_, e, by rw [tr9f_high w.params _ i q hi, e]; rfl⟩
  refine ⟨fun i => (h'.objs[i]?).getD default, pos', kp, kvs, hr, ⟨h', hd, fun o ho => by show o = (h'.objs[84]?).getD default; rw [objs_of_get ho]; rfl⟩, ?_⟩
  rw [← he, T1_eq]
  rw [hos] at hsch
  exact hsch
end Mine
end
section
open PySem PySem.W PyProof.Rows
namespace Mine
noncomputable def s0 (w : World) (os : OsState) : Shared := ⟨absHeap (tr0 w.params) 28 {}, #[], {}, 276, os⟩
noncomputable def h19 (P : Params) (f : Nat → Obj) : Heap := absHeap (tr19 P f) 171 {}
noncomputable def s19 (w : World) (f : Nat → Obj) (os : OsState) : Shared := ⟨h19 w.params f, #[], {}, 2443, os⟩
theorem run_all (w : World) (os : OsState) : ∃ (f : Nat → Obj) (kvs : List (Int × Value)), rd kvs = rc tbl ∧ (∃ h' : Heap, h'.DictOf (intKind pw w) 84 kvs ∧ ∀ o, h'.get? 84 = some o → o = f 84) ∧
    Sch pw w (s0 w os) (topStub pw) (s19 w f os) endThr := by
  have a := sch_of_go (run7 w os) ⟨rfl, rfl⟩
  have b8 := run8 w os
  rw [goQ_eq] at b8
  have b := sch_of_go b8 ⟨rfl, rfl⟩
  have c := sch_of_go (run9 w os) ⟨rfl, rfl⟩
  have d := sch_of_go (run10a w os) ⟨rfl, rfl⟩
  obtain ⟨f, pos', kp, kvs, hr, hh, e⟩ := b3_sch (w := w) (os := os) rfl dPos
  have g := sch_of_go (run10b w os f pos' kp) ⟨rfl, rfl⟩
  have i := sch_of_go (run19K w os f kp) ⟨rfl, rfl⟩
  exact ⟨f, kvs, hr, hh, a.trans (b.trans (c.trans (d.trans (e.trans (g.trans i)))))⟩
theorem statics19 (P : Params) (f : Nat → Obj) : staticsOk (importedModules pw.main.body) (absHeap (tr0 P) 28 {}) (h19 P f) = true := by kernel_rfl!
theorem names19 (P : Params) (f : Nat → Obj) : namesBound pw (h19 P f) = true := by kernel_rfl!
theorem laid19 (P : Params) (f : Nat → Obj) : laidKept (absHeap (tr0 P) 28 {}) (h19 P f) = true := by kernel_rfl!
theorem acc19 (P : Params) (f : Nat → Obj) : (h19 P f).accountedOkI (importedModules pw.main.body) = true := by kernel_rfl!
theorem ns19 (P : Params) (f : Nat → Obj) : (h19 P f).isNs mainGlobals = true := by kernel_rfl!
theorem nsb19 (P : Params) (f : Nat → Obj) : (h19 P f).isNs builtinsNs = true := by kernel_rfl!
theorem nsS19 (P : Params) (f : Nat → Obj) : (h19 P f).isNs cStatics = true := by kernel_rfl!
theorem blt19 (P : Params) (f : Nat → Obj) : (h19 P f).bltView = bltViewBooted := by kernel_rfl!
theorem bmain19 (P : Params) (f : Nat → Obj) : (h19 P f).bmainOk = true := by kernel_rfl!
end Mine
end
section
open PySem PySem.W PyProof.Rows
namespace Mine
theorem tr19_low (P : Params) (f : Nat → Obj) : ∀ i, i < 28 → i ≠ 3 → i ≠ 2 → ∃ o, (tr0 P).get i = some o ∧ (tr19 P f).get i = some o ∧ o.isFreed = false
  | 0, _, _, _ => ⟨_, rfl, rfl, rfl⟩
  | 1, _, _, _ => ⟨_, rfl, rfl, rfl⟩
  | 2, _, h3, h2 => absurd rfl h2
  | 3, _, h3, h2 => absurd rfl h3
  | 4, _, _, _ => ⟨_, rfl, rfl, rfl⟩
  | 5, _, _, _ => ⟨_, rfl, rfl, rfl⟩
  | 6, _, _, _ => ⟨_, rfl, rfl, rfl⟩
  | 7, _, _, _ => ⟨_, rfl, rfl, rfl⟩
  | 8, _, _, _ => ⟨_, rfl, rfl, rfl⟩
  | 9, _, _, _ => ⟨_, rfl, rfl, rfl⟩
  | 10, _, _, _ => ⟨_, rfl, rfl, rfl⟩
  | 11, _, _, _ => ⟨_, rfl, rfl, rfl⟩
  | 12, _, _, _ => ⟨_, rfl, rfl, rfl⟩
  | 13, _, _, _ => ⟨_, rfl, rfl, rfl⟩
  | 14, _, _, _ => ⟨_, rfl, rfl, rfl⟩
  | 15, _, _, _ => ⟨_, rfl, rfl, rfl⟩
  | 16, _, _, _ => ⟨_, rfl, rfl, rfl⟩
  | 17, _, _, _ => ⟨_, rfl, rfl, rfl⟩
  | 18, _, _, _ => ⟨_, rfl, rfl, rfl⟩
  | 19, _, _, _ => ⟨_, rfl, rfl, rfl⟩
  | 20, _, _, _ => ⟨_, rfl, rfl, rfl⟩
  | 21, _, _, _ => ⟨_, rfl, rfl, rfl⟩
  | 22, _, _, _ => ⟨_, rfl, rfl, rfl⟩
  | 23, _, _, _ => ⟨_, rfl, rfl, rfl⟩
  | 24, _, _, _ => ⟨_, rfl, rfl, rfl⟩
  | 25, _, _, _ => ⟨_, rfl, rfl, rfl⟩
  | 26, _, _, _ => ⟨_, rfl, rfl, rfl⟩
  | 27, _, _, _ => ⟨_, rfl, rfl, rfl⟩
  | n + 28, h, _, _ => absurd h (by omega)
theorem keep19 (P : Params) (f : Nat → Obj) {b : Addr} {o : Obj} (hb : (absHeap (tr0 P) 28 {}).get? b = some o) (h3 : b ≠ mainNs) (h2 : b ≠ cStatics) : (h19 P f).get? b = some o := by
  have hlt : b < 28 := by
    have := Heap.lt_size hb
    rwa [absHeap_size] at this
  obtain ⟨o', g1, g2, g3⟩ := tr19_low P f b hlt h3 h2
  rw [absHeap_get hlt g1 g3] at hb
  cases hb
  exact absHeap_get (Nat.lt_trans hlt (by decide)) g2 g3
theorem topRan (w : World) (os : OsState) (f : Nat → Obj) (h : Sch pw w (s0 w os) (topStub pw) (s19 w f os) endThr) : TopRan pw w (s0 w os) (s19 w f os) := by
  obtain ⟨n, hn⟩ := h
  have hg : (s19 w f os).heap.isNs mainGlobals = true := ns19 _ _
  refine ⟨⟨n, endThr, hn, rfl⟩, rfl, rfl, fun b o hb hne => keep19 w.params f hb (fun q => hne (.inl q)) (fun q => hne (.inr (.inl q))), Heap.accountedI_of_ok (acc19 _ _), statics_of_ok (statics19 _ _), Pin.keysAreStrs_of hg,
    fun x hx => (Pin.builtinOf_eq (nsb19 _ _) x).trans (Heap.of_bltView (nsb19 _ _) (blt19 _ _) x hx), ?_, (fun g hg => by cases hg; rename_i h; cases h), names_of_bound (names19 _ _), laid_of_kept (laid19 _ _)⟩
  obtain ⟨bm, ob, b1, b2, b3, b4, b5, _⟩ := Heap.bmainOk_spec (bmain19 w.params f)
  exact ⟨bm, ob, (Pin.globalOf_eq hg _).trans b1, b3, b4, b5⟩
theorem head (w : World) : (∃ s, AfterRun (opening pw) w s) ∧ ∀ s, AfterRun (opening pw) w s → ∃ os, fenceModules? pw s = some (s0 w os) ∧ ∃ f kvs, rd kvs = rc tbl ∧ (∃ h' : Heap, h'.DictOf (intKind pw w) 84 kvs ∧ ∀ o, h'.get? 84 = some o → o = f 84) ∧
    TopRan pw w (s0 w os) (s19 w f os) := by
  obtain ⟨a, A, h2⟩ := opened w
  refine ⟨⟨_, A⟩, fun s hs => ?_⟩
  obtain rfl := AfterImport.unique hs A
  obtain ⟨f, kvs, hr, hh, hsch⟩ := run_all w (start (opening pw)).1.os
  exact ⟨_, h2, f, kvs, hr, hh, topRan w _ f hsch⟩
end Mine
end
section
open PySem PySem.W PyProof.Rows
namespace Mine
abbrev rw0 : OpenLaw := PySem.Challenge.rw_xn0012_01
theorem promised0 : rw0.row.toRowW.promised := by w_witness2
theorem opens0 : opensWell pw = true := by kernel_rfl!
theorem bare0 : pw.bare := ⟨rfl, rfl, rfl, rfl, rfl, by decide +kernel⟩
theorem said0 : rw0.row.wellSaid = true → rw0.wellSaid = true → True := fun _ _ => trivial
theorem law0 (P : Params) (f : Nat → Obj) : (h19 P f).get? 170 = some (ob170_98 P) := absHeap_get (o := ob170_98 P) (by decide) rfl rfl
theorem glaw0 (P : Params) (f : Nat → Obj) : (h19 P f).nsMap mainGlobals "law" = some (.ref 170) := by kernel_rfl!
theorem theDef0 : pw.theDef "law" = some (dArgs (stI 20), dBody (stI 20), dScope (stI 20)) := by kernel_rfl!
theorem pin0 (P : Params) (f : Nat → Obj) : isTheDefsW pw (h19 P f) "law" :=
  ⟨170, _, fnD 20 "law" 3 .none .none (.str "law_xn0012_01" 2388) (.ref 169) .none 0, _, _, _, (Pin.globalOf_eq (ns19 P f) _).trans (glaw0 P f), law0 P f, rfl, theDef0, rfl, rfl, rfl, rfl, rfl, rfl, rfl, rfl,
    .inl ⟨rfl, rfl⟩, [], by kernel_rfl!, .inl ⟨rfl, rfl⟩⟩
end Mine
end
section
open PySem PySem.W PyProof.Rows
namespace Mine
/-- what the call of the law has to do -/
noncomputable def CallOk : Prop := ∀ (w : World) (f : Nat → Obj) (kvs : List (Int × Value)), rd kvs = rc tbl → (∃ h' : Heap, h'.DictOf (intKind pw w) 84 kvs ∧ ∀ o, h'.get? 84 = some o → o = f 84) →
  ∀ (s₁ : Shared) (l : Addr) (vs : List Value) (ns : List Int), ns.length ≤ 63 → (∀ b o, (h19 w.params f).get? b = some o → s₁.heap.get? b = some o) → s₁.gens = #[] → s₁.heap.IsList l vs.toArray → IntsAre vs ns →
    wpAny (model pw w) callerA (PySem.call (.ref 170) [.ref l]) (fun v s' => v = .bool true ∧ (∀ b o, s₁.heap.get? b = some o → s'.heap.get? b = some o) ∧ s'.os = s₁.os ∧ s'.gens = #[]) (fun _ _ => False) s₁
theorem claim_of (H : CallOk) : rw0.row.toRowW.claim.HoldsOpenBy (callStub "law") ["law"] rw0.own false := by
  have hw := promised0
  refine ⟨⟨bare0, opens0, rfl⟩, ?_, fun w => ⟨(head w).1, fun s hs => ?_⟩⟩
  · obtain ⟨args, h1, h2⟩ := hw
    exact ⟨args, h1, (Bool.and_eq_true_iff.mp h2).1⟩
  obtain ⟨os, hf, f, kvs, hr, hd, hT⟩ := (head w).2 s hs
  refine ⟨s0 w os, hf, rfl, s19 w f os, hT, fun n hn => ?_, fun x hx => (nomatch hx), fun x hx => (nomatch hx), ?_⟩
  · obtain rfl : n = "law" := by simpa using hn
    exact pin0 _ _
  refine ClaimW.callFrom_of_specG (c := rw0.row.toRowW.claim) ⟨rfl, rfl⟩ rfl fun args hpre hlay ord hord => ?_
  obtain ⟨⟨vs, s₁⟩, hlaid⟩ := Option.isSome_iff_exists.mp (layAllW_isSome (R := []) (P := w.params) (ord := ord) (cl := classAt (s19 w f os).heap) (fun c hc => (nomatch hc)) args rw0.row.toRowW.args (s19 w f os) (pre_splitW hpre).1)
  have keeps := layAllW_keeps _ _ _ hlaid
  have hal := layAllW_rest _ _ _ hlaid
  obtain ⟨as, hrd, hin, hold⟩ := reads_layAllW hord _ _ _ hlaid hlay s₁.heap (fun _ _ e => e)
  have L : Laid [] w (s19 w f os) s₁ args vs as := ⟨⟨ord, hord, hlaid⟩, hrd, hin, hold, keeps, hal.1, hal.2.2.1⟩
  have hwl := L.well
  have hlo := L.low (by show (1 : Nat) < (absHeap (tr19 w.params f) 171 {}).objs.size; rw [absHeap_size]; decide)
  have hpre0 := hpre
  have hlay0 := hlay
  refine ⟨vs, s₁, hlaid, ?_⟩
  wrow_args hpre hlay hrd hwl hlo
  rename_i ns _ _ _ _ _ _ _ l vs' _ hL _ _ _ hI _ hlen _
  have hN : s₁.heap.Ns mainGlobals ((h19 w.params f).nsMap mainGlobals) := by
    obtain ⟨o, es, ep, ho, r⟩ := Heap.Ns.of_isNs (ns19 w.params f)
    exact ⟨o, es, ep, keeps _ _ ho, r⟩
  have H' := H w f kvs hr hd s₁ l vs' ns (by omega) keeps hal.1 hL hI
  refine wpAny_bind (wpAny_nsGet hN ?_)
  rw [glaw0]
  refine wpAny_bind (wpAny_mono H' (fun v s' g => ?_) fun _ _ x => x.elim)
  obtain ⟨rfl, hk, hos, hgens⟩ := g
  refine wpAny_pure ⟨_, rfl, ?_⟩
  have g : GoodW rw0.row.toRowW.claim (classAt (s19 w f os).heap) (ExcName.means (s19 w f os).heap) [ofPy (PyData.list (List.map PyData.int ns))] s₁ (.ok (.ret (.bool true))) s' :=
    ⟨.inl ⟨_, .bool true, [], rfl, fun cls => rfl, ReadsW.bool true, by wrow_post, unshared_nil⟩, hk, hos, hgens⟩
  have z := GoodWG.laid (c := rw0.row.toRowW.claim) rfl rfl (ident_freeW rfl rfl rfl) L g.toG
  exact ⟨z.1, z.2.1, z.2.2, fun q => (by cases q)⟩
theorem holds_of (H : CallOk) : PySem.Challenge.rw_xn0012_01.Holds := by
  o_law
  rename_i said
  exact ⟨said, promised0, claim_of H⟩
end Mine
end
section
open PySem PySem.W PyProof.Rows
namespace Mine
noncomputable def quo : Array Nat := #[14, 8, 1, 2, 4294967295, 1, 1, 34, 0, 16, 34, 28, 22, 0, 4294967295, 7, 11, 13, 7, 21, 16, 34, 16, 92, 0, 15, 8, 6, 16, 92, 2, 15, 2, 0, 1, 16, 34, 1]
/-- a state of the search -/
noncomputable def mst (t : Array Nat) (start pc pos handed : Nat) (om : Bool) (loops : Array Sre.Loop) (inner : Option Nat) (frames : List Sre.Frame) (weight : Nat) (answer : Option Bool) (seen : Sre.Seen) : Sre.M :=
  { code := quo, text := t, lim := t.size, start, lastStart := t.size, pc, pos, handed, outermost := om, marks := #[], loops, inner, frames, weight, answer, seen }
noncomputable def k0 : Sre.Kept := { lastmark := -1, lastindex := -1, whole := true, marks := #[] }
/-- the frame of the next start -/
noncomputable def fS (s : Nat) (om : Bool) : Sre.Frame := { wait := .nextStart, pc := 9, pos := s, outermost := om }
/-- at a start -/
noncomputable def sA (t : Array Nat) (s : Nat) (om : Bool) (seen : Sre.Seen) : Sre.M := mst t s 9 s s om #[] none [fS s om] 1 none seen
noncomputable def lp : Sre.Loop := { pc := 0, outer := none }
/-- the frame of a round -/
noncomputable def fP (p : Nat) (c : Int) (om : Bool) : Sre.Frame := { wait := .possMore, pc := 11, pos := p, outermost := om, loop := 0, count := c, kept := k0 }
/-- at the head of a round -/
noncomputable def sB (t : Array Nat) (s p : Nat) (c : Int) (om : Bool) (seen : Sre.Seen) : Sre.M := mst t s 15 p p false #[lp] (some 0) [fP p c om, fS s om] 2 none seen
theorem stepA (t : Array Nat) (s : Nat) (om : Bool) (seen : Sre.Seen) : ∃ seen', (sA t s om seen).step = if s ≥ t.size then mst t s 9 s s om #[] none [fS s om] 1 (some false) seen' else bif t.getD s 0 == 34 then mst t s 11 (s + 1) s om #[] none [fS s om] 1 none seen' else mst t s 9 s s om #[] none [fS s om] 1 (some false) seen' :=
  ⟨seen.add 16, by kernel_rfl!⟩
theorem stepP (t : Array Nat) (s p : Nat) (om : Bool) (seen : Sre.Seen) : ∃ seen', (mst t s 11 p s om #[] none [fS s om] 1 none seen).step = sB t s p 0 om seen' :=
  ⟨seen.add 28, by kernel_rfl!⟩
/-- a frame of an alternative -/
noncomputable def fN (a p : Nat) : Sre.Frame := { wait := .nextBranch, pc := a, pos := p, outermost := false, kept := k0 }
/-- within a round -/
noncomputable def sR (t : Array Nat) (s p : Nat) (c : Int) (om : Bool) (a pc q h : Nat) (ans : Option Bool) (seen : Sre.Seen) : Sre.M := mst t s pc q h false #[lp] (some 0) [fN a p, fP p c om, fS s om] 3 ans seen
theorem stepB (t : Array Nat) (s p : Nat) (c : Int) (om : Bool) (seen : Sre.Seen) : (sB t s p c om seen).step = sR t s p c om 16 17 p p none (seen.add 7) := by kernel_rfl!
noncomputable def inK (m : Sre.M) : Except String (Bool × Sre.Seen) → Sre.M
  | .error why => m.stick why
  | .ok (false, seen) => { m with seen }.say false
  | .ok (true, seen) => { m with seen, pc := m.pc + Sre.itemWidth m.code m.pc, pos := m.pos + 1 }
theorem stepIN (t : Array Nat) (s p : Nat) (c : Int) (om : Bool) (seen : Sre.Seen) : (sR t s p c om 16 17 p p none seen).step = if p ≥ t.size then sR t s p c om 16 17 p p (some false) (seen.add 13) else inK (sR t s p c om 16 17 p p none (seen.add 13)) (Sre.accepts quo 17 (t.getD p 0) (seen.add 13)) := by kernel_rfl!
theorem acc17 (c : Nat) (seen : Sre.Seen) : Sre.accepts quo 17 c seen = if c == 34 then .ok (false, (seen.add 21).add 16) else if c == 92 then .ok (false, ((seen.add 21).add 16).add 16) else .ok (true, (((seen.add 21).add 16).add 16).add 0) := by kernel_rfl!
theorem stepIN_no (t : Array Nat) (s p : Nat) (c : Int) (om : Bool) (seen : Sre.Seen) : (sR t s p c om 16 17 p p (some false) seen).step = sR t s p c om 27 28 p p none seen := by kernel_rfl!
theorem step92 (t : Array Nat) (s p : Nat) (c : Int) (om : Bool) (seen : Sre.Seen) : (sR t s p c om 27 28 p p none seen).step = if p ≥ t.size then sR t s p c om 27 28 p p (some false) (seen.add 16) else bif t.getD p 0 == 92 then sR t s p c om 27 30 (p + 1) p none (seen.add 16) else sR t s p c om 27 28 p p (some false) (seen.add 16) := by kernel_rfl!
theorem stepANY (t : Array Nat) (s p : Nat) (c : Int) (om : Bool) (seen : Sre.Seen) : (sR t s p c om 27 30 (p + 1) p none seen).step = if p + 1 ≥ t.size then sR t s p c om 27 30 (p + 1) p (some false) (seen.add 2) else bif t.getD (p + 1) 0 != 10 then sR t s p c om 27 31 (p + 2) p none (seen.add 2) else sR t s p c om 27 30 (p + 1) p (some false) (seen.add 2) := by kernel_rfl!
/-- a round failed -/
noncomputable def sF (t : Array Nat) (s p : Nat) (c : Int) (om : Bool) (pc q : Nat) (seen : Sre.Seen) : Sre.M := mst t s pc q p false #[lp] (some 0) [fP p c om, fS s om] 2 (some false) seen
theorem step_no (t : Array Nat) (s p : Nat) (c : Int) (om : Bool) (pc q : Nat) (seen : Sre.Seen) : (sR t s p c om 27 pc q p (some false) seen).step = sF t s p c om 27 p seen := by kernel_rfl!
theorem stepJ1 (t : Array Nat) (s p : Nat) (c : Int) (om : Bool) (seen : Sre.Seen) : (sR t s p c om 16 25 (p + 1) p none seen).step = sR t s p c om 16 34 (p + 1) p none (seen.add 15) := by kernel_rfl!
theorem stepJ2 (t : Array Nat) (s p : Nat) (c : Int) (om : Bool) (seen : Sre.Seen) : (sR t s p c om 27 31 (p + 2) p none seen).step = sR t s p c om 27 34 (p + 2) p none (seen.add 15) := by kernel_rfl!
theorem stepS (t : Array Nat) (s p : Nat) (c : Int) (om : Bool) (a q : Nat) (seen : Sre.Seen) : (sR t s p c om a 34 q p none seen).step = sR t s p c om a 34 q q (some true) (seen.add 1) := by kernel_rfl!
/-- a round done -/
noncomputable def sY (t : Array Nat) (s p : Nat) (c : Int) (om : Bool) (a q : Nat) (seen : Sre.Seen) : Sre.M := mst t s a p q false #[lp] (some 0) [fP p c om, fS s om] 2 (some true) seen
theorem step_yes (t : Array Nat) (s p : Nat) (c : Int) (om : Bool) (a q : Nat) (seen : Sre.Seen) : (sR t s p c om a 34 q q (some true) seen).step = sY t s p c om a q seen := by kernel_rfl!
/-- behind the rounds -/
noncomputable def sE (t : Array Nat) (s p : Nat) (om : Bool) (seen : Sre.Seen) : Sre.M := mst t s 35 p p om #[] none [fS s om] 1 none seen
noncomputable def possR (t : Array Nat) (s p q : Nat) (k : Int) (om : Bool) (seen : Sre.Seen) : Sre.M :=
    if k < ((0 : Nat) : Int) then (mst t s 11 p q om #[lp] (some 0) [fS s om] 1 none seen).attempt { (mst t s 11 p q om #[lp] (some 0) [fS s om] 1 none seen).frame .possBelow with loop := 0, count := k } 15 q false
    else if (decide (k < ((4294967295 : Nat) : Int)) || 4294967295 == Sre.maxRepeat) && some p != some q then
      mst t s 15 q q false #[lp] (some 0) [{ wait := .possMore, pc := 11, pos := q, outermost := om, loop := 0, count := k, kept := k0 }, fS s om] 2 none seen
    else sE t s q om seen
theorem stepY (t : Array Nat) (s p : Nat) (c : Int) (om : Bool) (a q : Nat) (seen : Sre.Seen) : (sY t s p c om a q seen).step = possR t s p q (c + 1) om seen := by kernel_rfl!
theorem stepF (t : Array Nat) (s p : Nat) (c : Int) (om : Bool) (pc q : Nat) (seen : Sre.Seen) : (sF t s p c om pc q seen).step = possR t s p p c om seen := by kernel_rfl!
theorem stepE (t : Array Nat) (s p : Nat) (om : Bool) (seen : Sre.Seen) : (sE t s p om seen).step = if p ≥ t.size then mst t s 35 p p om #[] none [fS s om] 1 (some false) (seen.add 16) else bif t.getD p 0 == 34 then mst t s 37 (p + 1) p om #[] none [fS s om] 1 none (seen.add 16) else mst t s 35 p p om #[] none [fS s om] 1 (some false) (seen.add 16) := by kernel_rfl!
theorem step37 (t : Array Nat) (s p : Nat) (om : Bool) (seen : Sre.Seen) : (mst t s 37 (p + 1) p om #[] none [fS s om] 1 none seen).step = mst t s 37 (p + 1) (p + 1) om #[] none [fS s om] 1 (some true) (seen.add 1) := by cases om <;> kernel_rfl!
theorem stepM (t : Array Nat) (s p h pc : Nat) (om : Bool) (seen : Sre.Seen) : (mst t s pc p h om #[] none [fS s om] 1 (some true) seen).step = mst t s 9 s h om #[] none [] 0 (some true) seen := by kernel_rfl!
theorem stepM2 (t : Array Nat) (s h : Nat) (om : Bool) (seen : Sre.Seen) : (mst t s 9 s h om #[] none [] 0 (some true) seen).step = { mst t s 9 s h om #[] none [] 0 (some true) seen with outcome := some .matched } := by kernel_rfl!
theorem stepN (t : Array Nat) (s p h pc : Nat) (om : Bool) (seen : Sre.Seen) : (mst t s pc p h om #[] none [fS s om] 1 (some false) seen).step = if s < t.size then sA t (s + 1) false seen else mst t s 9 s h om #[] none [] 0 (some false) seen := by kernel_rfl!
theorem stepN2 (t : Array Nat) (s h : Nat) (om : Bool) (seen : Sre.Seen) : (mst t s 9 s h om #[] none [] 0 (some false) seen).step = { mst t s 9 s h om #[] none [] 0 (some false) seen with outcome := some .failed } := by kernel_rfl!
theorem forSearch_eq (t : Array Nat) (s : Nat) : Sre.forSearch quo t 0 s t.size false = if (decide (s > t.size) || decide (t.size - s < 2)) = true then
    { mst t s 9 s s true #[] none [] 0 (some false) (({} : Sre.Seen).add 14) with lastStart := 0 } else sA t s true (({} : Sre.Seen).add 14) := by kernel_rfl!
end Mine
end
section
open PySem PySem.W PyProof.Rows
namespace Mine
noncomputable def Reach (n : Nat) (m m' : Sre.M) : Prop := ∀ k, Sre.M.runFor (n + k) m = Sre.M.runFor k m'
theorem Reach.refl (m : Sre.M) : Reach 0 m m := fun k => by rw [Nat.zero_add]
theorem Reach.one {m m' : Sre.M} (h : m.outcome = none) (e : m.step = m') : Reach 1 m m' := fun k => by
  rw [Nat.add_comm 1 k]
  show (if m.outcome.isSome then m else Sre.M.runFor k m.step) = _
  rw [h, e]; rfl
theorem Reach.trans {a b : Nat} {m m₁ m₂ : Sre.M} (x : Reach a m m₁) (y : Reach b m₁ m₂) : Reach (a + b) m m₂ := fun k => by
  rw [Nat.add_assoc, x, y]
theorem Reach.cons {b : Nat} {m m₁ m₂ : Sre.M} (h : m.outcome = none) (e : m.step = m₁) (y : Reach b m₁ m₂) : Reach (1 + b) m m₂ := (Reach.one h e).trans y
/-- how far the rounds go -/
noncomputable def body : List Nat → Nat
  | [] => 0
  | [d] => if d = 34 then 0 else if d = 92 then 0 else 1
  | d :: e :: r => if d = 34 then 0 else if d = 92 then (if e = 10 then 0 else 2 + body r) else 1 + body (e :: r)
theorem body_34 (r : List Nat) : body (34 :: r) = 0 := by cases r <;> rfl
theorem body_10 (r : List Nat) : body (92 :: 10 :: r) = 0 := rfl
theorem body_esc {e : Nat} (r : List Nat) (h : e ≠ 10) : body (92 :: e :: r) = 2 + body r := by
  show (if (92 : Nat) = 34 then 0 else if (92 : Nat) = 92 then (if e = 10 then 0 else 2 + body r) else _) = _
  rw [if_neg (by decide), if_pos rfl, if_neg h]
theorem body_any {d : Nat} (r : List Nat) (h : d ≠ 34) (h2 : d ≠ 92) : body (d :: r) = 1 + body r := by
  cases r with
  | nil => show (if d = 34 then 0 else if d = 92 then 0 else 1) = 1; rw [if_neg h, if_neg h2]
  | cons e r => show (if d = 34 then 0 else if d = 92 then (if e = 10 then 0 else 2 + body r) else 1 + body (e :: r)) = _; rw [if_neg h, if_neg h2]
theorem drop_cons {t : Array Nat} {p c : Nat} {r : List Nat} (h : t.toList.drop p = c :: r) : p < t.size ∧ t.getD p 0 = c ∧ t.toList.drop (p + 1) = r := by
  have h1 : p < t.toList.length := by
    rcases Nat.lt_or_ge p t.toList.length with h1 | h1
    · exact h1
    · rw [List.drop_eq_nil_of_le h1] at h; cases h
  rw [List.drop_eq_getElem_cons h1] at h
  injection h with h2 h3
  have h4 : p < t.size := h1
  refine ⟨h4, ?_, h3⟩
  rw [Array.getD_eq_getD_getElem?, Array.getElem?_eq_getElem h4]
  exact h2
theorem drop_nil' {t : Array Nat} {p : Nat} (h : t.toList.drop p = []) : p ≥ t.size := by
  have := List.drop_eq_nil_iff.mp h
  exact this
theorem possR_go {t : Array Nat} {s p q : Nat} {k : Int} {om : Bool} {seen : Sre.Seen} (hk : 0 ≤ k) (h : p ≠ q) : possR t s p q k om seen = sB t s q k om seen := by
  unfold possR
  rw [if_neg (by omega), if_pos]
  · rfl
  · have : (some p != some q) = true := by simpa using h
    rw [this, show ((4294967295 : Nat) == Sre.maxRepeat) = true from rfl, Bool.or_true]; rfl
theorem possR_end {t : Array Nat} {s q : Nat} {k : Int} {om : Bool} {seen : Sre.Seen} (hk : 0 ≤ k) : possR t s q q k om seen = sE t s q om seen := by
  unfold possR
  rw [if_neg (by omega), if_neg]
  simp
theorem inK_no (t : Array Nat) (s p : Nat) (c : Int) (om : Bool) (seen seen' : Sre.Seen) : inK (sR t s p c om 16 17 p p none seen) (.ok (false, seen')) = sR t s p c om 16 17 p p (some false) seen' := rfl
theorem inK_yes (t : Array Nat) (s p : Nat) (c : Int) (om : Bool) (seen seen' : Sre.Seen) : inK (sR t s p c om 16 17 p p none seen) (.ok (true, seen')) = sR t s p c om 16 25 (p + 1) p none seen' := by kernel_rfl!
/-- the rounds fail -/
theorem fail_end {t : Array Nat} {s p : Nat} {c : Int} {om : Bool} {pc q : Nat} {seen : Sre.Seen} (hc : 0 ≤ c) : Reach 2 (sR t s p c om 27 pc q p (some false) seen) (sE t s p om seen) :=
  Reach.cons rfl (step_no ..) (Reach.one rfl ((stepF ..).trans (possR_end hc)))
theorem rounds (t : Array Nat) (s : Nat) (om : Bool) : ∀ (l : List Nat) (p : Nat) (c : Int) (seen : Sre.Seen), 0 ≤ c → t.toList.drop p = l → ∃ seen' k, k ≤ 12 * (l.length + 1) ∧ Reach k (sB t s p c om seen) (sE t s (p + body l) om seen')
  | [], p, c, seen, hc, hl => by
    have hp := drop_nil' hl
    exact ⟨_, _, by decide, Reach.cons rfl (stepB ..) (Reach.cons rfl ((stepIN ..).trans (if_pos hp)) (Reach.cons rfl (stepIN_no ..) (Reach.cons rfl ((step92 ..).trans (if_pos hp)) (fail_end hc))))⟩
  | d :: r, p, c, seen, hc, hl => by
    obtain ⟨hp, hd, hr⟩ := drop_cons hl
    have hp' : ¬ p ≥ t.size := by omega
    by_cases h34 : d = 34
    · subst h34
      rw [body_34]
      refine ⟨_, _, ?_, Reach.cons rfl (stepB ..) (Reach.cons rfl ((stepIN ..).trans ((if_neg hp').trans (by rw [hd, acc17]; exact inK_no ..))) (Reach.cons rfl (stepIN_no ..) (Reach.cons rfl ((step92 ..).trans ((if_neg hp').trans (by rw [hd]; rfl))) (fail_end hc))))⟩
      show _ ≤ 12 * (r.length + 1 + 1); omega
    by_cases h92 : d = 92
    · subst h92
      match r, hr with
      | [], hr =>
        have hq := drop_nil' hr
        exact ⟨_, _, by decide, Reach.cons rfl (stepB ..) (Reach.cons rfl ((stepIN ..).trans ((if_neg hp').trans (by rw [hd, acc17]; exact inK_no ..))) (Reach.cons rfl (stepIN_no ..) (Reach.cons rfl ((step92 ..).trans ((if_neg hp').trans (by rw [hd]; rfl))) (Reach.cons rfl ((stepANY ..).trans (if_pos hq)) (fail_end hc)))))⟩
      | e :: r', hr =>
        obtain ⟨hq, he, hr'⟩ := drop_cons hr
        have hq' : ¬ p + 1 ≥ t.size := by omega
        by_cases h10 : e = 10
        · subst h10
          refine ⟨_, _, ?_, Reach.cons rfl (stepB ..) (Reach.cons rfl ((stepIN ..).trans ((if_neg hp').trans (by rw [hd, acc17]; exact inK_no ..))) (Reach.cons rfl (stepIN_no ..) (Reach.cons rfl ((step92 ..).trans ((if_neg hp').trans (by rw [hd]; rfl))) (Reach.cons rfl ((stepANY ..).trans ((if_neg hq').trans (by rw [he]; rfl))) (fail_end hc)))))⟩
          show _ ≤ 12 * (r'.length + 1 + 1 + 1); omega
        · have hb : body (92 :: e :: r') = 2 + body r' := body_esc r' h10
          have h10' : (e != 10) = true := by simpa using h10
          obtain ⟨seen', k, hk, R⟩ := rounds t s om r' (p + 2) (c + 1) (((((((((seen.add 7).add 13).add 21).add 16).add 16).add 16).add 2).add 15).add 1) (by omega) hr'
          rw [← show p + (2 + body r') = p + 2 + body r' by omega, ← hb] at R
          refine ⟨seen', _, ?_, Reach.cons rfl (stepB ..) (Reach.cons rfl ((stepIN ..).trans ((if_neg hp').trans (by rw [hd, acc17]; exact inK_no ..))) (Reach.cons rfl (stepIN_no ..) (Reach.cons rfl ((step92 ..).trans ((if_neg hp').trans (by rw [hd]; rfl))) (Reach.cons rfl ((stepANY ..).trans ((if_neg hq').trans (by rw [he, h10']; rfl)))
            (Reach.cons rfl (stepJ2 ..) (Reach.cons rfl (stepS ..) (Reach.cons rfl (step_yes ..) (Reach.cons rfl ((stepY ..).trans (possR_go (by omega) (by omega))) R))))))))⟩
          show _ ≤ 12 * (r'.length + 1 + 1 + 1); omega
    · have hb : body (d :: r) = 1 + body r := body_any r h34 h92
      obtain ⟨seen', k, hk, R⟩ := rounds t s om r (p + 1) (c + 1) ((((((((seen.add 7).add 13).add 21).add 16).add 16).add 0).add 15).add 1) (by omega) hr
      rw [← show p + (1 + body r) = p + 1 + body r by omega, ← hb] at R
      refine ⟨seen', _, ?_, Reach.cons rfl (stepB ..) (Reach.cons rfl ((stepIN ..).trans ((if_neg hp').trans (by rw [hd, acc17, if_neg (by simpa using h34), if_neg (by simpa using h92)]; exact inK_yes ..)))
        (Reach.cons rfl (stepJ1 ..) (Reach.cons rfl (stepS ..) (Reach.cons rfl (step_yes ..) (Reach.cons rfl ((stepY ..).trans (possR_go (by omega) (by omega))) R)))))⟩
      show _ ≤ 12 * (r.length + 1 + 1); omega
end Mine
end
section
open PySem PySem.W PyProof.Rows
namespace Mine
theorem stepA' (t : Array Nat) (s : Nat) (om : Bool) (seen : Sre.Seen) : (sA t s om seen).step = if s ≥ t.size then mst t s 9 s s om #[] none [fS s om] 1 (some false) (seen.add 16) else bif t.getD s 0 == 34 then mst t s 11 (s + 1) s om #[] none [fS s om] 1 none (seen.add 16) else mst t s 9 s s om #[] none [fS s om] 1 (some false) (seen.add 16) := by kernel_rfl!
theorem stepP' (t : Array Nat) (s p h : Nat) (om : Bool) (seen : Sre.Seen) : (mst t s 11 p h om #[] none [fS s om] 1 none seen).step = sB t s p 0 om (seen.add 28) := by kernel_rfl!
/-- the string that begins here, behind its first sign -/
noncomputable def close (l : List Nat) : Option Nat := match l.drop (body l) with
  | [] => none
  | e :: _ => if e = 34 then some (body l + 1) else none
/-- the first string: where it begins, how long it is -/
noncomputable def findQ : List Nat → Option (Nat × Nat)
  | [] => none
  | d :: r => match (if d = 34 then close r else none) with
    | some n => some (0, 1 + n)
    | none => (findQ r).map fun x => (x.1 + 1, x.2)
noncomputable def Found (s : Nat) (o : Option (Nat × Nat)) (m : Sre.M) : Prop := match o with
  | some x => m.outcome = some .matched ∧ m.start = s + x.1 ∧ m.handed = s + x.1 + x.2
  | none => m.outcome = some .failed
theorem Found.next {s : Nat} {o : Option (Nat × Nat)} {m : Sre.M} (h : Found (s + 1) o m) : Found s (o.map fun x => (x.1 + 1, x.2)) m := by
  cases o with
  | none => exact h
  | some x => exact ⟨h.1, by rw [h.2.1]; show s + 1 + x.1 = s + (x.1 + 1); omega, by rw [h.2.2]; show s + 1 + x.1 + x.2 = s + (x.1 + 1) + x.2; omega⟩
theorem search_go (t : Array Nat) : ∀ (l : List Nat) (s : Nat) (om : Bool) (seen : Sre.Seen), s ≤ t.size → t.toList.drop s = l → ∃ k m, k ≤ (12 * l.length + 40) * (l.length + 1) ∧ Reach k (sA t s om seen) m ∧ Found s (findQ l) m
  | [], s, om, seen, hs, hl => by
    have hp := drop_nil' hl
    refine ⟨_, _, ?_, Reach.cons rfl ((stepA' ..).trans (if_pos hp)) (Reach.cons rfl ((stepN ..).trans (if_neg (by omega))) (Reach.one rfl (stepN2 ..))), rfl⟩
    decide
  | d :: r, s, om, seen, hs, hl => by
    obtain ⟨hp, hd, hr⟩ := drop_cons hl
    have hp' : ¬ s ≥ t.size := by omega
    have bound : ∀ k, k ≤ (12 * r.length + 40) * (r.length + 1) → k + (12 * r.length + 30) ≤ (12 * (d :: r).length + 40) * ((d :: r).length + 1) := by
      intro k hk
      rw [List.length_cons]
      have h1 : (12 * r.length + 40) * (r.length + 1) + (12 * r.length + 40) ≤ (12 * (r.length + 1) + 40) * (r.length + 1 + 1) := by
        rw [Nat.mul_add_one (12 * (r.length + 1) + 40)]
        exact Nat.add_le_add (Nat.mul_le_mul_right _ (by omega)) (by omega)
      omega
    by_cases h34 : d = 34
    · subst h34
      obtain ⟨seen₁, k₁, hk₁, R₁⟩ := rounds t s om r (s + 1) 0 ((seen.add 16).add 28) (Int.le_refl 0) hr
      have R₂ := Reach.cons rfl ((stepA' t s om seen).trans ((if_neg hp').trans (by rw [hd]; rfl))) (Reach.cons rfl (stepP' ..) R₁)
      have hdr : t.toList.drop (s + 1 + body r) = r.drop (body r) := by rw [← hr, List.drop_drop]
      cases hc : r.drop (body r) with
      | nil =>
        have hq := drop_nil' (hdr.trans hc)
        obtain ⟨k, m, hk, R, hf⟩ := search_go t r (s + 1) false (seen₁.add 16) hp hr
        have hcl : close r = none := by unfold close; rw [hc]
        refine ⟨_, m, ?_, R₂.trans (Reach.cons rfl ((stepE ..).trans (if_pos hq)) (Reach.cons rfl ((stepN ..).trans (if_pos hp)) R)), ?_⟩
        · have := bound k hk; omega
        · unfold findQ; rw [if_pos rfl, hcl]; exact hf.next
      | cons e r' =>
        obtain ⟨hq, he, _⟩ := drop_cons (hdr.trans hc)
        have hq' : ¬ s + 1 + body r ≥ t.size := by omega
        by_cases h3 : e = 34
        · subst h3
          have hcl : close r = some (body r + 1) := by unfold close; rw [hc]; rfl
          refine ⟨_, _, ?_, R₂.trans (Reach.cons rfl ((stepE ..).trans ((if_neg hq').trans (by rw [he]; rfl))) (Reach.cons rfl (step37 ..) (Reach.cons rfl (stepM ..) (Reach.one rfl (stepM2 ..))))), ?_⟩
          · have := bound 0 (Nat.zero_le _); omega
          · unfold findQ; rw [if_pos rfl, hcl]
            refine ⟨rfl, rfl, ?_⟩
            show s + 1 + body r + 1 = s + 0 + (1 + (body r + 1))
            omega
        · obtain ⟨k, m, hk, R, hf⟩ := search_go t r (s + 1) false (seen₁.add 16) hp hr
          have hcl : close r = none := by unfold close; rw [hc]; exact if_neg h3
          refine ⟨_, m, ?_, R₂.trans (Reach.cons rfl ((stepE ..).trans ((if_neg hq').trans (by rw [he, show (e == 34) = false by simpa using h3]; rfl))) (Reach.cons rfl ((stepN ..).trans (if_pos hp)) R)), ?_⟩
          · have := bound k hk; omega
          · unfold findQ; rw [if_pos rfl, hcl]; exact hf.next
    · obtain ⟨k, m, hk, R, hf⟩ := search_go t r (s + 1) false (seen.add 16) hp hr
      refine ⟨_, m, ?_, Reach.cons rfl ((stepA' ..).trans ((if_neg hp').trans (by rw [hd, show (d == 34) = false by simpa using h34]; rfl))) (Reach.cons rfl ((stepN ..).trans (if_pos hp)) R), ?_⟩
      · have := bound k hk; omega
      · unfold findQ; rw [if_neg h34]; exact hf.next
theorem close_nil : close [] = none := rfl
/-- the search from a place -/
theorem search_run (t : Array Nat) (s : Nat) (hs : s ≤ t.size) (hsz : t.size ≤ 1000000) : ∃ k m, k ≤ 20000000000000 ∧ Reach k (Sre.forSearch quo t 0 s t.size false) m ∧ Found s (findQ (t.toList.drop s)) m := by
  have hlen : (t.toList.drop s).length = t.size - s := by rw [List.length_drop]; rfl
  rw [forSearch_eq]
  by_cases h2 : t.size - s < 2
  · rw [if_pos (by simp [h2])]
    refine ⟨_, _, ?_, Reach.one rfl rfl, ?_⟩
    · decide
    · have : findQ (t.toList.drop s) = none := by
        match hl : t.toList.drop s with
        | [] => rfl
        | [d] =>
          unfold findQ
          split
          · next n hn => split at hn <;> cases hn
          · rfl
        | d :: e :: r => rw [hl] at hlen; simp at hlen; omega
      rw [this]; rfl
  · rw [if_neg (by simp; omega)]
    obtain ⟨k, m, hk, R, hf⟩ := search_go t _ s true _ hs rfl
    refine ⟨k, m, Nat.le_trans hk ?_, R, hf⟩
    rw [hlen]
    exact Nat.le_trans (Nat.mul_le_mul (Nat.add_le_add_right (Nat.mul_le_mul_left 12 (Nat.le_trans (Nat.sub_le _ _) hsz)) 40) (Nat.add_le_add_right (Nat.le_trans (Nat.sub_le _ _) hsz) 1)) (by decide)
end Mine
end
section
open PySem PySem.W PyProof.Rows
open PySem.Builtin.Re
namespace Mine
theorem runFor_done : ∀ (n : Nat) (m : Sre.M), m.outcome.isSome = true → Sre.M.runFor n m = m
  | 0, _, _ => rfl
  | n + 1, m, h => by
    show (if m.outcome.isSome then m else _) = m
    rw [if_pos h]
theorem runFor_add : ∀ (a b : Nat) (m : Sre.M), Sre.M.runFor (a + b) m = Sre.M.runFor b (Sre.M.runFor a m)
  | 0, b, m => by rw [Nat.zero_add]; rfl
  | a + 1, b, m => by
    rw [Nat.add_right_comm]
    show (if m.outcome.isSome then m else Sre.M.runFor (a + b) m.step) = Sre.M.runFor b (if m.outcome.isSome then m else Sre.M.runFor a m.step)
    by_cases h : m.outcome.isSome = true
    · rw [if_pos h, if_pos h, runFor_done b m h]
    · rw [if_neg h, if_neg h, runFor_add a b]
section
variable {M : Model} {A : Around} {E : Value → Shared → Prop} {s : Shared}
theorem drive {Q : Sre.M → Shared → Prop} {m' : Sre.M} (ho : m'.outcome.isSome = true) (hQ : Q m' s) : ∀ (turns k : Nat) (m : Sre.M), Reach k m m' → k ≤ 4 * turns → 1 ≤ turns → wpAny M A (reDrive turns m) Q E s
  | 0, _, _, _, _, h => absurd h (by decide)
  | turns + 1, k, m, R, hk, _ => by
    unfold reDrive
    show wpAny M A (if (Sre.M.runFor 4 m).outcome.isSome then pure (Sre.M.runFor 4 m) else do rule "sre.turn"; reDrive turns (Sre.M.runFor 4 m)) Q E s
    by_cases h4 : k ≤ 4
    · have e : Sre.M.runFor 4 m = m' := by
        have := R (4 - k)
        rw [show k + (4 - k) = 4 by omega, runFor_done _ _ ho] at this
        exact this
      rw [e, if_pos ho]
      exact wpAny_pure hQ
    · have R' : Reach (k - 4) (Sre.M.runFor 4 m) m' := fun j => by
        rw [← runFor_add, show 4 + (k - 4 + j) = k + j by omega, R]
      by_cases h : (Sre.M.runFor 4 m).outcome.isSome = true
      · have e : Sre.M.runFor 4 m = m' := by
          have := R' 0
          rw [runFor_done _ _ h] at this
          exact this
        rw [e, if_pos ho]
        exact wpAny_pure hQ
      · rw [if_neg h]
        exact wpAny_bind (wpAny_rule (drive ho hQ turns (k - 4) _ R' (by omega) (by omega)))
theorem runToEnd {Q : Option Sre.M → Shared → Prop} {m m' : Sre.M} {k : Nat} (R : Reach k m m') (hk : k ≤ 20000000000000)
    (hQ : (m'.outcome = some .matched ∧ Q (some m') s) ∨ (m'.outcome = some .failed ∧ Q none s)) : wpAny M A (reRunToEnd m) Q E s := by
  unfold reRunToEnd
  refine wpAny_bind (drive (m' := m') (by rcases hQ with h | h <;> rw [h.1] <;> rfl) ?_ _ k m R (by omega) (by decide))
  refine wpAny_bind (wpAny_forIn_list _ (fun _ _ s' => s' = s) _ ?_ ?_ _ _ rfl)
  · rintro i rest b s' rfl
    split
    · exact wpAny_bind (wpAny_rule (wpAny_pure rfl))
    · exact wpAny_pure rfl
  · rintro b s' rfl
    rcases hQ with h | h
    · rw [h.1]; exact wpAny_pure h.2
    · rw [h.1]; exact wpAny_pure h.2
end
end Mine
end
section
open PySem PySem.W PyProof.Rows
open PySem.Builtin.Re PySem.Builtin.Bytes
namespace Mine
theorem ew : "bytes.__buffer__".endsWith ("." ++ "__buffer__") = true := by kernel_rfl!
theorem dr : "bytes.__buffer__".dropRight ("__buffer__".length + 1) = "bytes" := by kernel_rfl!
theorem sp1 (b : Array UInt8) (t : Tok) : specialOf (.bytes b t) "__buffer__" = pure (some (.builtin "bytes.__buffer__")) := by
  unfold specialOf
  rw [show typeOf (.bytes b t) = pure (.type "bytes") from rfl, pure_bind, typeLookup_type, builtinLookup_eq_fast]; kernel_rfl!
theorem sp2 (b : Array UInt8) (t : Tok) : specialOf (.bytes b t) "__release_buffer__" = pure none := by
  unfold specialOf
  rw [show typeOf (.bytes b t) = pure (.type "bytes") from rfl, pure_bind, typeLookup_type, builtinLookup_eq_fast]; kernel_rfl!
theorem sp3 (b : Array UInt8) (t : Tok) : specialOf (.bytes b t) "__call__" = pure none := by
  unfold specialOf
  rw [show typeOf (.bytes b t) = pure (.type "bytes") from rfl, pure_bind, typeLookup_type, builtinLookup_eq_fast]; kernel_rfl!
theorem ii (b : Array UInt8) (t : Tok) : isInstance (.bytes b t) (.type "bytes") = pure true := by kernel_rfl!
theorem so1 (b : Array UInt8) (t : Tok) : slotIsOwn (.bytes b t) "__buffer__" = pure true := by
  show (specialOf (.bytes b t) "__buffer__" >>= _) = _
  rw [sp1]; kernel_rfl!
theorem so2 (b : Array UInt8) (t : Tok) : ownRelease (.bytes b t) = pure false := by
  show ((specialOf (.bytes b t) "__release_buffer__" >>= _) >>= _) = _
  rw [sp2]; kernel_rfl!
theorem buf (id : String) (b : Array UInt8) (t : Tok) : buffer? id (.bytes b t) = pure (some b) := by
  unfold buffer?
  rw [sp1, pure_bind]
  dsimp only
  rw [so1, pure_bind, so2]
  rfl
theorem bufQ (id : String) (b : Array UInt8) (t : Tok) : bufferQuiet? id (.bytes b t) = pure (some b) := by
  unfold bufferQuiet?
  rw [buf]
  rfl
end Mine
end
section
open PySem PySem.W PyProof.Rows
open PySem.Builtin.Re PySem.Builtin.Bytes
namespace Mine
theorem owner_re : Manifest.owners.lookup (String.ofList ['n', 'r', 'e', 't', 't', 'a', 'P', '.', 'e', 'r'].reverse) = some Manifest.sig_re_Pattern := by kernel_rfl
theorem owner_b : Manifest.owners.lookup (String.ofList ['s', 'e', 't', 'y', 'b'].reverse) = some Manifest.sig_bytes := by kernel_rfl
theorem slot_sub : Slot "re.Pattern" "sub" "re.Pattern.sub" :=
  .of (owner := "re.Pattern") (n := "sub") (by rw [typeLookup_type, builtinLookup_eq_fast]; kernel_rfl) (by decide +kernel) (by decide +kernel) (by decide +kernel)
    (by first | exact .inl (by decide +kernel) | exact .inr (by decide +kernel)) (by rw [isSubtype_type]; kernel_rfl)
theorem type_sub : typeOf (.builtin "re.Pattern.sub") = pure (.type "method_descriptor") := by show builtinType _ = _; rw [builtinType_eq_fast]; kernel_rfl
theorem entry_sub : entryFor table "re.Pattern.sub" = some Builtin.«re.Pattern.sub» := entryFor_of_tree (by kernel_rfl)
theorem entry_subloop : entryFor table "re.Pattern.sub.loop" = some Builtin.«re.Pattern.sub.loop» := entryFor_of_tree (by kernel_rfl)
theorem args_sub (a b c : Value) : argsOk "re.Pattern.sub" ⟨[a, b, c], []⟩ := by
  unfold argsOk; rw [signature?_of (id := "re.Pattern.sub") (n := ['b', 'u', 's']) (o := ['n', 'r', 'e', 't', 't', 'a', 'P', '.', 'e', 'r']) (by kernel_rfl) owner_re]; kernel_rfl
theorem slot_bcount : Slot "bytes" "count" "bytes.count" :=
  .of (owner := "bytes") (n := "count") (by rw [typeLookup_type, builtinLookup_eq_fast]; kernel_rfl) (by decide +kernel) (by decide +kernel) (by decide +kernel)
    (by first | exact .inl (by decide +kernel) | exact .inr (by decide +kernel)) (by rw [isSubtype_type]; kernel_rfl)
theorem type_bcount : typeOf (.builtin "bytes.count") = pure (.type "method_descriptor") := by show builtinType _ = _; rw [builtinType_eq_fast]; kernel_rfl
theorem entry_bcount : entryFor table "bytes.count" = some Builtin.«bytes.count» := entryFor_of_tree (by kernel_rfl)
theorem args_bcount (a b : Value) : argsOk "bytes.count" ⟨[a, b], []⟩ := by
  unfold argsOk; rw [signature?_of (id := "bytes.count") (n := ['t', 'n', 'u', 'o', 'c']) (o := ['s', 'e', 't', 'y', 'b']) (by kernel_rfl) owner_b]; kernel_rfl
theorem slot_bjoin : Slot "bytes" "join" "bytes.join" :=
  .of (owner := "bytes") (n := "join") (by rw [typeLookup_type, builtinLookup_eq_fast]; kernel_rfl) (by decide +kernel) (by decide +kernel) (by decide +kernel)
    (by first | exact .inl (by decide +kernel) | exact .inr (by decide +kernel)) (by rw [isSubtype_type]; kernel_rfl)
theorem entry_bjoin : entryFor table "bytes.join" = some Builtin.«bytes.join» := entryFor_of_tree (by kernel_rfl)
theorem args_bjoin (a b : Value) : argsOk "bytes.join" ⟨[a, b], []⟩ := by
  unfold argsOk; rw [signature?_of (id := "bytes.join") (n := ['n', 'i', 'o', 'j']) (o := ['s', 'e', 't', 'y', 'b']) (by kernel_rfl) owner_b]; kernel_rfl
end Mine
end
section
open PySem PySem.W PyProof.Rows PySem.Calls
namespace Mine
/-- the heap extends what the top left -/
noncomputable def Ex (w : World) (f : Nat → Obj) (h : Heap) : Prop := ∀ b o, (h19 w.params f).get? b = some o → h.get? b = some o
noncomputable def Kp (h h' : Heap) : Prop := ∀ b o, h.get? b = some o → h'.get? b = some o
theorem Kp.refl (h : Heap) : Kp h h := fun _ _ e => e
theorem Kp.trans {a b c : Heap} (x : Kp a b) (y : Kp b c) : Kp a c := fun p o e => y p o (x p o e)
theorem Ex.kp {w : World} {f : Nat → Obj} {h h' : Heap} (x : Ex w f h) (y : Kp h h') : Ex w f h' := fun b o e => y b o (x b o e)
theorem Ex.limit {w : World} {f : Nat → Obj} {h : Heap} (x : Ex w f h) : h.NoLimit := (Heap.NoLimit.of_ok (by kernel_rfl! : (h19 w.params f).noLimitOk = true)).keeps x
noncomputable def mg (w : World) (f : Nat → Obj) : Str → Option Value := (h19 w.params f).nsMap mainGlobals
noncomputable def mb (w : World) (f : Nat → Obj) : Str → Option Value := (h19 w.params f).nsMap builtinsNs
theorem Ex.g {w : World} {f : Nat → Obj} {h : Heap} (x : Ex w f h) : h.Ns mainGlobals (mg w f) := (Heap.Ns.of_isNs (ns19 w.params f)).keeps x
theorem Ex.b {w : World} {f : Nat → Obj} {h : Heap} (x : Ex w f h) : h.Ns builtinsNs (mb w f) := (Heap.Ns.of_isNs (nsb19 w.params f)).keeps x
theorem get19 {P : Params} {f : Nat → Obj} {a : Addr} {o : Obj} (h : Nat.blt a 171 = true) (g : (tr19 P f).get a = some o) (hf : o.isFreed = false) : (h19 P f).get? a = some o := absHeap_get (Nat.le_of_ble_eq_true h) g hf
theorem Fr.kp {h₀ h h' : Heap} {L : Addr} {m : Str → Option Value} (F : Fr h₀ L h m) (k : Kp h h') : Fr h₀ L h' m := ⟨F.ns.keeps k, fun b o e => k b o (F.keep b o e), F.above⟩
theorem News.kp {h₀ h h' : Heap} {L : Addr} {news : List (Addr × Obj)} (N : News h₀ L h news) (k : Kp h h') : News h₀ L h' news := fun p hp => ⟨k _ _ (N p hp).1, (N p hp).2.1, (N p hp).2.2⟩
/-- the locals, newest first -/
noncomputable def lk : List (Str × Value) → Str → Option Value
  | [], _ => none
  | (x, v) :: r, y => if y = x then some v else lk r y
theorem lk_of {l : List (Str × Value)} : (fun x => l.lookup x) = lk l := by
  funext y
  induction l with
  | nil => rfl
  | cons p r ih =>
    obtain ⟨x, v⟩ := p
    rw [List.lookup_cons]
    unfold lk
    by_cases h : y = x
    · subst h; simp
    · rw [if_neg h, ← ih]
      have : (y == x) = false := by simpa using h
      rw [this]
theorem lk_hit {x : Str} {v : Value} {r : List (Str × Value)} : lk ((x, v) :: r) x = some v := if_pos rfl
theorem lk_miss {x y : Str} {v u : Value} {r : List (Str × Value)} (h : (decide (y = x)) = false) (k : lk r y = some u) : lk ((x, v) :: r) y = some u := (if_neg (of_decide_eq_false h)).trans k
noncomputable def retV : Flow → Value
  | .ret v => v
  | _ => .none
/-- the scope knows its locals and its globals -/
structure Sc (sc : Scope) (ls gs : List Str) : Prop where
  k : sc.kind = .function
  l : ∀ x, ls.contains x = true → sc.names.lookup x = some .local
  g : ∀ x, gs.contains x = true → sc.names.lookup x = some .globalImplicit
noncomputable def scOk (sc : Scope) (ls gs : List Str) : Bool := (ls.all fun x => decide (sc.names.lookup x = some .local)) && (gs.all fun x => decide (sc.names.lookup x = some .globalImplicit)) && !sc.isCoroutine && !sc.isGenerator && decide (sc.kind = .function) && (sc.names.all fun x => decide (x.2 ≠ .cell))
theorem Sc.of {sc : Scope} {ls gs : List Str} (h : scOk sc ls gs = true) : Sc sc ls gs ∧ sc.isCoroutine = false ∧ sc.isGenerator = false ∧ ∀ x ∈ sc.names, x.2 ≠ .cell := by
  simp only [scOk, Bool.and_eq_true, List.all_eq_true, decide_eq_true_eq, Bool.not_eq_true'] at h
  obtain ⟨⟨⟨⟨⟨a, b⟩, c⟩, d⟩, e⟩, g⟩ := h
  exact ⟨⟨e, fun x hx => a x (List.contains_iff_mem.mp hx), fun x hx => b x (List.contains_iff_mem.mp hx)⟩, c, d, g⟩
/-- room for d frames and u units of C -/
noncomputable def Rm (A : Around) (d u : Nat) : Prop := A.depth + d < recursionLimit ∧ A.units + u < cLine ∧ A.handled = none
theorem enter {w : World} {f : Nat → Obj} {A : Around} {E : Value → Shared → Prop} {s : Shared} {a : Addr} {o : Obj} {name : Str} {params : Arguments} {body : List Stmt} {scope : Scope} {pm cd : Value} {args : List Value} {Q : Value → Shared → Prop} {d u : Nat}
    (ps ls gs : List Str) (X : Ex w f s.heap) (hroom : Rm A (d + 1) (u + 3)) (ho : (h19 w.params f).get? a = some o) (hdata : o.data = .func (docDef name params body scope pm cd .none)) (hcd : (h19 w.params f).CodeRec cd name)
    (hsc : scOk scope ls gs = true) (hps : params.args.map (·.arg) = ps)
    (hbind : bindArgs (docDef name params body scope pm cd .none) ⟨args, []⟩ = pure (ps.zip args))
    (hloc : (ps.all (fun x => ls.contains x)) = true)
    (h : ∀ (A' : Around) (sc : Scope) (L : Addr) (h₁ : Heap) (tk : Nat), Rm A' d u → Sc sc ls gs → Fr s.heap L h₁ (lk (ps.zip args).reverse) →
      wpAny (model pw w) A' (execs body (envOf name sc L a cd)) (fun f s' => Q (retV f) s') (fun _ _ => False) { s with heap := h₁, toks := tk }) :
    wpAny (model pw w) A (PySem.call (.ref a) args) Q E s := by
  subst hps
  obtain ⟨S, hco, hgen, hcell⟩ := Sc.of hsc
  refine wpAny_call (call_pos_ret (by have := hroom.1; omega) (X _ _ ho) hdata X.limit ?_ hbind (fun x hx => ?_) (fun h₁ F => ?_) hco hgen S.k hcell)
  · obtain ⟨c, oc, vs, t, h1, h2, h3, h4⟩ := hcd
    exact ⟨c, oc, vs, t, h1, X _ _ h2, h3, h4⟩
  · have h1 := List.of_mem_zip (a := x.1) (b := x.2) hx
    exact S.l _ (List.all_eq_true.mp hloc _ h1.1)
  · rw [lk_of] at F
    refine wpAny_mono (h (A.deeper _) scope _ h₁ _ ⟨?_, ?_, hroom.2.2⟩ S F) (fun f s' q => ?_) fun _ _ x => x
    · have := hroom.1; show A.depth + 1 + d < recursionLimit; omega
    · have := hroom.2.1; show A.units + 3 + u < cLine; omega
    · cases f <;> exact q
section
variable {M : Model} {A : Around} {E : Value → Shared → Prop} {s : Shared} {name : Str} {sc : Scope} {L a : Addr} {cd : Value} {h₀ : Heap} {m : Str → Option Value} {ls gs : List Str} {w : World} {f : Nat → Obj} {x : Str} {pos : Pos} {v : Value} {Q : Value → Shared → Prop}
theorem ldL (S : Sc sc ls gs) (F : Fr h₀ L s.heap m) (hl : ls.contains x = true) (hd : (x == ("__debug__" : Str)) = false) (hv : m x = some v) (h : Q v s) : wpAny M A (eval (.Name x pos) (envOf name sc L a cd)) Q E s := ld F hv h S.k (S.l x hl) hd
theorem ldG (S : Sc sc ls gs) (F : Fr h₀ L s.heap m) (X : Ex w f h₀) (hl : gs.contains x = true) (hd : (x == ("__debug__" : Str)) = false) (hv : mg w f x = some v) (h : Q v s) : wpAny M A (eval (.Name x pos) (envOf name sc L a cd)) Q E s := ld_global_at F X.g hv h S.k (S.g x hl) hd
theorem ldB (S : Sc sc ls gs) (F : Fr h₀ L s.heap m) (X : Ex w f h₀) (hl : gs.contains x = true) (hd : (x == ("__debug__" : Str)) = false) (hv : mg w f x = none ∧ mb w f x = some v) (h : Q v s) : wpAny M A (eval (.Name x pos) (envOf name sc L a cd)) Q E s := ld_builtin_at F X.g hv.1 X.b hv.2 h S.k (S.g x hl) hd
theorem stL {Q : Unit → Shared → Prop} {l : List (Str × Value)} (S : Sc sc ls gs) (F : Fr h₀ L s.heap (lk l)) (hl : ls.contains x = true) (h : ∀ h' tk, Fr h₀ L h' (lk ((x, v) :: l)) → Heap.SameBut L s.heap h' → Q () { s with heap := h', toks := tk }) : wpAny M A (storeName (envOf name sc L a cd) x v) Q E s :=
  wpAny_storeName_local (S.l x hl) F.ns (fun h' hn hs => h h' _ (F.set hn hs) hs) (by show (sc.kind == .class || (sc.kind == .module && L != mainGlobals)) = false; rw [S.k]; rfl)
end
theorem g38 (w : World) (f : Nat → Obj) : mg w f "_raise_serialization_error" = some (.ref 38) := by kernel_rfl!
theorem g45 (w : World) (f : Nat → Obj) : mg w f "_escape_attrib_html" = some (.ref 45) := by kernel_rfl!
theorem g52 (w : World) (f : Nat → Obj) : mg w f "_escape_attrib_c14n" = some (.ref 52) := by kernel_rfl!
theorem g57 (w : World) (f : Nat → Obj) : mg w f "_quoted" = some (.ref 57) := by kernel_rfl!
theorem g65 (w : World) (f : Nat → Obj) : mg w f "_paren_depth" = some (.ref 65) := by kernel_rfl!
theorem g73 (w : World) (f : Nat → Obj) : mg w f "b1_set" = some (.ref 73) := by kernel_rfl!
theorem g83 (w : World) (f : Nat → Obj) : mg w f "in_table_b1" = some (.ref 83) := by kernel_rfl!
theorem g84 (w : World) (f : Nat → Obj) : mg w f "b3_exceptions" = some (.ref 84) := by kernel_rfl!
theorem g129 (w : World) (f : Nat → Obj) : mg w f "map_table_b3" = some (.ref 129) := by kernel_rfl!
theorem g136 (w : World) (f : Nat → Obj) : mg w f "_law_told" = some (.ref 136) := by kernel_rfl!
theorem g143 (w : World) (f : Nat → Obj) : mg w f "_law_attribute" = some (.ref 143) := by kernel_rfl!
theorem g148 (w : World) (f : Nat → Obj) : mg w f "_law_anew" = some (.ref 148) := by kernel_rfl!
theorem g153 (w : World) (f : Nat → Obj) : mg w f "_law_more" = some (.ref 153) := by kernel_rfl!
theorem g160 (w : World) (f : Nat → Obj) : mg w f "_law_odd_end" = some (.ref 160) := by kernel_rfl!
theorem g165 (w : World) (f : Nat → Obj) : mg w f "_law_counted" = some (.ref 165) := by kernel_rfl!
theorem n_ord (w : World) (f : Nat → Obj) : mg w f "ord" = none := by kernel_rfl!
theorem b_ord (w : World) (f : Nat → Obj) : mb w f "ord" = some (.builtin "ord") := by kernel_rfl!
theorem n_chr (w : World) (f : Nat → Obj) : mg w f "chr" = none := by kernel_rfl!
theorem b_chr (w : World) (f : Nat → Obj) : mb w f "chr" = some (.builtin "chr") := by kernel_rfl!
theorem n_len (w : World) (f : Nat → Obj) : mg w f "len" = none := by kernel_rfl!
theorem b_len (w : World) (f : Nat → Obj) : mb w f "len" = some (.builtin "len") := by kernel_rfl!
theorem n_sum (w : World) (f : Nat → Obj) : mg w f "sum" = none := by kernel_rfl!
theorem b_sum (w : World) (f : Nat → Obj) : mb w f "sum" = some (.builtin "sum") := by kernel_rfl!
theorem n_range (w : World) (f : Nat → Obj) : mg w f "range" = none := by kernel_rfl!
theorem b_range (w : World) (f : Nat → Obj) : mb w f "range" = some (.type "range") := by kernel_rfl!
theorem code45 (P : Params) (f : Nat → Obj) : (h19 P f).CodeRec (.ref 44) "_escape_attrib_html" := ⟨44, _, _, _, rfl, get19 (a := 44) rfl rfl rfl, rfl, rfl⟩
theorem code52 (P : Params) (f : Nat → Obj) : (h19 P f).CodeRec (.ref 51) "_escape_attrib_c14n" := ⟨51, _, _, _, rfl, get19 (a := 51) rfl rfl rfl, rfl, rfl⟩
theorem code65 (P : Params) (f : Nat → Obj) : (h19 P f).CodeRec (.ref 64) "_paren_depth" := ⟨64, _, _, _, rfl, get19 (a := 64) rfl rfl rfl, rfl, rfl⟩
theorem code83 (P : Params) (f : Nat → Obj) : (h19 P f).CodeRec (.ref 82) "in_table_b1" := ⟨82, _, _, _, rfl, get19 (a := 82) rfl rfl rfl, rfl, rfl⟩
theorem code129 (P : Params) (f : Nat → Obj) : (h19 P f).CodeRec (.ref 128) "map_table_b3" := ⟨128, _, _, _, rfl, get19 (a := 128) rfl rfl rfl, rfl, rfl⟩
theorem code136 (P : Params) (f : Nat → Obj) : (h19 P f).CodeRec (.ref 135) "_law_told" := ⟨135, _, _, _, rfl, get19 (a := 135) rfl rfl rfl, rfl, rfl⟩
theorem code143 (P : Params) (f : Nat → Obj) : (h19 P f).CodeRec (.ref 142) "_law_attribute" := ⟨142, _, _, _, rfl, get19 (a := 142) rfl rfl rfl, rfl, rfl⟩
theorem code148 (P : Params) (f : Nat → Obj) : (h19 P f).CodeRec (.ref 147) "_law_anew" := ⟨147, _, _, _, rfl, get19 (a := 147) rfl rfl rfl, rfl, rfl⟩
theorem code153 (P : Params) (f : Nat → Obj) : (h19 P f).CodeRec (.ref 152) "_law_more" := ⟨152, _, _, _, rfl, get19 (a := 152) rfl rfl rfl, rfl, rfl⟩
theorem code160 (P : Params) (f : Nat → Obj) : (h19 P f).CodeRec (.ref 159) "_law_odd_end" := ⟨159, _, _, _, rfl, get19 (a := 159) rfl rfl rfl, rfl, rfl⟩
theorem code165 (P : Params) (f : Nat → Obj) : (h19 P f).CodeRec (.ref 164) "_law_counted" := ⟨164, _, _, _, rfl, get19 (a := 164) rfl rfl rfl, rfl, rfl⟩
theorem code170 (P : Params) (f : Nat → Obj) : (h19 P f).CodeRec (.ref 169) "law" := ⟨169, _, _, _, rfl, get19 (a := 169) rfl rfl rfl, rfl, rfl⟩
local macro_rules | `(tactic| walk_at "LK") => `(tactic| first | with_reducible exact lk_hit | ((with_reducible apply lk_miss); (· kernel_rfl!); walk_at "LK"))
local macro_rules | `(tactic| walk_at "GL") => `(tactic| with_reducible first | exact g38 _ _ | exact g45 _ _ | exact g52 _ _ | exact g57 _ _ | exact g65 _ _ | exact g73 _ _ | exact g83 _ _ | exact g84 _ _ | exact g129 _ _ | exact g136 _ _ | exact g143 _ _ | exact g148 _ _ | exact g153 _ _ | exact g160 _ _ | exact g165 _ _)
section
local macro_rules | `(tactic| walk_at "BL") => `(tactic| with_reducible first | exact ⟨n_ord _ _, b_ord _ _⟩ | exact ⟨n_chr _ _, b_chr _ _⟩ | exact ⟨n_len _ _, b_len _ _⟩ | exact ⟨n_sum _ _, b_sum _ _⟩ | exact ⟨n_range _ _, b_range _ _⟩)
local macro_rules | `(tactic| walk_at "eval Name") => `(tactic| first
  | (refine ldL (by assumption) (by assumption) (by kernel_rfl!) (by kernel_rfl!) (by walk_at "LK") ?_)
  | (refine ldG (by assumption) (by assumption) (by assumption) (by kernel_rfl!) (by kernel_rfl!) (by walk_at "GL") ?_)
  | (refine ldB (by assumption) (by assumption) (by assumption) (by kernel_rfl!) (by kernel_rfl!) (by walk_at "BL") ?_))
local macro_rules | `(tactic| walk_at "storeName") => `(tactic| (refine stL (by assumption) (by assumption) (by kernel_rfl!) ?_; intro h' tk' F' hsb'))
/-- the elements of a set object -/
noncomputable def setEs : Obj → List (Int × Value)
  | ⟨_, _, .set es _ _, _⟩ => es.toList
  | _ => []
noncomputable def b1Es : List (Int × Value) := setEs (ob73_59 { strHash := fun _ => 0, shareClass := id, mergeTok := id, idOf := fun _ => 0, idOfShared := fun _ _ => 0, followText := fun _ => false, idOfImm := fun _ => 0 })
noncomputable def b1S (k : Int) : Bool := b1Es.any fun e => Value.isInt k e.2
theorem b1_es (P : Params) : ∃ ep t, (ob73_59 P).data = .set b1Es.toArray ep t ∧ t.fits b1Es.toArray.size = true := ⟨_, _, rfl, by kernel_rfl!⟩
theorem b1_elems : (b1Es.all fun e => match e.2 with | .int k _ => e.1 == hashInt k | _ => false) = true := by kernel_rfl!
theorem b1_set {w : World} {f : Nat → Obj} {h : Heap} (X : Ex w f h) : h.SetOf (intKind pw w) 73 b1S b1Es.toArray.size := by
  obtain ⟨ep, t, hd, hf⟩ := b1_es w.params
  refine ⟨_, b1Es.toArray, ep, t, X _ _ (get19 (a := 73) rfl rfl rfl), ⟨rfl, rfl, rfl⟩, hd, fun e he => ?_, fun k => ?_, Nat.le_of_ble_eq_true (by kernel_rfl! : Nat.ble (b1Es.toArray.size + 1) scanBound = true), hf, rfl⟩
  · have := List.all_eq_true.mp b1_elems e (by simpa using he)
    obtain ⟨i, v⟩ := e
    cases v <;> first | (exfalso; exact Bool.false_ne_true this) | skip
    rename_i k t
    exact ⟨⟨k, intKind_is pw w k t, eq_of_beq this⟩, rfl⟩
  · rw [b1S, List.any_eq_true]
    exact Iff.rfl
theorem b1_call {w : World} {f : Nat → Obj} {A : Around} {E : Value → Shared → Prop} {s : Shared} {c : Nat} {t : Tok} {Q : Value → Shared → Prop} (X : Ex w f s.heap) (hroom : Rm A 1 20)
    (hQ : ∀ h' tk, Kp s.heap h' → Q (.bool (b1S c)) { s with heap := h', toks := tk }) : wpAny (model pw w) A (PySem.call (.ref 83) [.str ⟨#[c]⟩ t]) Q E s := by
  refine enter (d := 0) (u := 17) (name := "in_table_b1") ["code"] ["code"] ["ord", "b1_set"] X hroom (get19 (a := 83) rfl rfl rfl) rfl (code83 _ _) (by kernel_rfl!) (by kernel_rfl!) rfl (by kernel_rfl!) (fun A' sc L h₁ tk hA S F => ?_)
  replace F : Fr s.heap L h₁ (lk [("code", .str ⟨#[c]⟩ t)]) := F
  repeat walk1
  exact wpAny_inSet_of (intKind_is pw w _ _) rfl (b1_set (X.kp F.keep)) (hQ _ _ F.keep)
/-- what is known of the table of foldings -/
noncomputable def B3 (w : World) (f : Nat → Obj) (kvs : List (Int × Value)) : Prop := rd kvs = rc tbl ∧ ∃ h' : Heap, h'.DictOf (intKind pw w) 84 kvs ∧ ∀ o, h'.get? 84 = some o → o = f 84
theorem B3.at {w : World} {f : Nat → Obj} {kvs : List (Int × Value)} {h : Heap} (b : B3 w f kvs) (X : Ex w f h) : h.DictOf (intKind pw w) 84 kvs := by
  obtain ⟨_, h', hd, ho⟩ := b
  refine hd.at fun o e => X _ _ ?_
  have e1 := ho o e
  obtain ⟨o', es, ep, h1, h2, h3, _⟩ := hd
  rw [e] at h1
  cases h1
  subst e1
  exact get19 rfl rfl (Obj.isFreed_of_dict h3)
noncomputable def tblD : List (PyData × PyData) := tbl.map fun c => (PyData.int c.1, PyData.str c.2)
noncomputable def b3T (c : Int) : Option Str := (tbl.find? fun x => x.1 == c).map (·.2)
theorem look_b3 (c : Int) : ∀ T : List (Int × Str), PySem.Spec.lookup (.int c) (T.map fun x => (PyData.int x.1, PyData.str x.2)) = ((T.find? fun x => x.1 == c).map (·.2)).map PyData.str
  | [] => rfl
  | (k, x) :: r => by
    rw [List.map_cons, List.find?_cons]
    unfold PySem.Spec.lookup
    have h : PySem.Spec.same (PyData.int k) (PyData.int c) = (k == c) := by rw [PyProof.V.same_int]; rfl
    dsimp only
    rw [h]
    cases k == c with
    | true => rfl
    | false => exact look_b3 c r
theorem flat_of {kvs : List (Int × Value)} : ∀ {T : List (Int × Str)}, rd kvs = rc T → PyProof.V.FlatPairs PyData.int kvs (T.map fun c => (PyData.int c.1, PyData.str c.2)) := by
  induction kvs with
  | nil => intro T h; cases T with
    | nil => exact .nil
    | cons _ _ => cases h
  | cons kv r ih => intro T h; cases T with
    | nil => cases h
    | cons c T =>
      obtain ⟨k, v⟩ := kv
      obtain ⟨k', x⟩ := c
      simp only [rd, rc, List.map_cons, List.cons.injEq, Prod.mk.injEq] at h
      obtain ⟨⟨rfl, h1⟩, h2⟩ := h
      have hv : PyProof.V.Flat v (PyData.str x) := by
        cases v <;> first | (exfalso; cases h1; done) | skip
        cases h1
        exact PyProof.V.Flat.str _ _
      exact .cons hv (ih h2)
theorem B3.tab {w : World} {f : Nat → Obj} {kvs : List (Int × Value)} {h : Heap} (b : B3 w f kvs) (X : Ex w f h) : IntTab pw w h 84 tblD := ⟨rfl, kvs, b.at X, flat_of b.1⟩
theorem get_b3 {c : Nat} {v : Value} (hv : PyProof.V.Flat v ((PySem.Spec.lookup (.int c) tblD).getD .none)) : (∃ x t, v = .str x t ∧ b3T c = some x) ∨ (v = .none ∧ b3T c = none) := by
  rw [tblD, look_b3] at hv
  change PyProof.V.Flat v ((Option.map PyData.str (b3T c)).getD .none) at hv
  cases hb : b3T c with
  | none => rw [hb] at hv; exact .inr ⟨(reads_none_inv (hv {})).1, rfl⟩
  | some x => rw [hb] at hv; obtain ⟨t, e, _⟩ := reads_str_inv (hv {}); exact .inl ⟨x, t, e, rfl⟩
section
variable {M : Model} {A : Around} {E : Value → Shared → Prop} {s : Shared} {Q : Value → Shared → Prop}
theorem isNot_str_none {x : Str} {t : Tok} (h : Q (.bool true) s) : wpAny M A (compareOp .IsNot (.str x t) .none) Q E s := isNot_none h
theorem isNot_none_none (h : Q (.bool false) s) : wpAny M A (compareOp .IsNot .none .none) Q E s := isNot_none h
end
local macro_rules | `(tactic| walk_at "call builtin:dict.get") => `(tactic| (refine call_get1_intTab (by assumption) ?_; intro v hv; rcases get_b3 hv with ⟨x, t', he, hb⟩ | ⟨he, hb⟩ <;> subst he))
local macro_rules | `(tactic| walk_at "compareOp IsNot") => `(tactic| with_reducible first | refine isNot_str_none ?_ | refine isNot_none_none ?_)
noncomputable def b3V (c : Nat) : Str := (b3T c).getD (Txt.lower ⟨#[c]⟩)
theorem b3_call {w : World} {f : Nat → Obj} {kvs : List (Int × Value)} {A : Around} {E : Value → Shared → Prop} {s : Shared} {c : Nat} {t : Tok} {Q : Value → Shared → Prop} (X : Ex w f s.heap) (B : B3 w f kvs) (hroom : Rm A 1 20)
    (hQ : ∀ h' tk tk', Kp s.heap h' → Q (.str (b3V c) tk') { s with heap := h', toks := tk }) : wpAny (model pw w) A (PySem.call (.ref 129) [.str ⟨#[c]⟩ t]) Q E s := by
  refine enter (d := 0) (u := 17) (name := "map_table_b3") ["code"] ["code", "r"] ["ord", "b3_exceptions"] X hroom (get19 (a := 129) rfl rfl rfl) rfl (code129 _ _) (by kernel_rfl!) (by kernel_rfl!) rfl (by kernel_rfl!) (fun A' sc L h₁ tk hA S F => ?_)
  replace F : Fr s.heap L h₁ (lk [("code", .str ⟨#[c]⟩ t)]) := F
  have T := B.tab (X.kp F.keep)
  repeat' walk1
  · rename_i x t' hb _ _ _ F1 _
    have e : b3V c = x := by unfold b3V; rw [hb]; rfl
    exact e ▸ hQ _ _ t' F1.keep
  · rename_i hb _ _ _ F1 _
    have e : b3V c = Txt.lower ⟨#[c]⟩ := by unfold b3V; rw [hb]; rfl
    exact SCL.lower (by show 1 ≤ 5592405; decide) fun _ => e ▸ hQ _ _ _ F1.keep
end
section
open PySem PySem.W PyProof.Rows
open PySem.Builtin.Re PySem.Builtin.Bytes
noncomputable def nats (b : Array UInt8) : Array Nat := b.map (·.toNat)
theorem textOf (b : Array UInt8) (t : Tok) : reTextOf (.bytes b t) = pure (nats b, 1) := by
  unfold reTextOf
  rw [show asStr? (.bytes b t) = pure none from rfl, pure_bind]
  dsimp only
  rw [bufQ]
  rfl
theorem noColl (b : Array UInt8) (t : Tok) : reNoCollectionInside (.bytes b t) 1 = pure () := by
  unfold reNoCollectionInside
  rw [ii]
  rfl
noncomputable def target (b : Array UInt8) (t : Tok) : ReTarget := { pattern := .ref 57, string := .bytes b t, code := quo, text := nats b, kind := 1, groups := 0, pos := 0, lim := (nats b).size }
/-- the items of the code -/
noncomputable def codeItems : Array Value := match (ob56_45 { strHash := fun _ => 0, shareClass := id, mergeTok := id, idOf := fun _ => 0, idOfShared := fun _ _ => 0, followText := fun _ => false, idOfImm := fun _ => 0 }).data with
  | .seq xs _ => xs
  | _ => #[]
theorem code_data (P : Params) : ∃ n, (ob56_45 P).data = .seq codeItems n := ⟨_, rfl⟩
theorem code_quo : (codeItems.map reRawOf).map (·.toNat) = quo := by kernel_rfl!
theorem pat_data (P : Params) : ∃ vs, (ob57_46 P).data = .fields vs ∧ reRawNat (vs.getD 6 .none) = 1 ∧ vs.getD 5 .none = .ref 56 ∧ reRawNat (vs.getD 2 .none) = 0 := ⟨_, rfl, by kernel_rfl!, by kernel_rfl!, by kernel_rfl!⟩
theorem pat_cls (P : Params) : (ob57_46 P).cls = .type "re.Pattern" := by kernel_rfl!
section
variable {w : World} {f : Nat → Obj} {A : Around} {E : Value → Shared → Prop} {s : Shared} {b : Array UInt8} {t : Tok}
theorem whole {Q : ReTarget → Shared → Prop} (X : Ex w f s.heap) (h : Q (target b t) s) : wpAny (model pw w) A (reWholeTarget (.ref 57) (.bytes b t)) Q E s := by
  obtain ⟨vs, hd, h6, h5, h2⟩ := pat_data w.params
  obtain ⟨n, hc⟩ := code_data w.params
  unfold reWholeTarget
  refine wpAny_bind (wpAny_fieldsOf (X _ _ (get19 (a := 57) rfl rfl rfl)) hd ?_)
  refine wpAny_bind (wpAny_of_eq (textOf b t) ?_)
  dsimp only
  rw [h6]
  refine wpAny_bind (wpAny_of_eq (noColl b t) ?_)
  rw [h5]
  unfold reRawItems
  refine wpAny_bind (wpAny_bind (wpAny_seqItems (X _ _ (get19 (a := 56) rfl rfl rfl)) hc (wpAny_pure (wpAny_pure ?_))))
  rw [h2]
  show Q { pattern := .ref 57, string := .bytes b t, code := (codeItems.map reRawOf).map (·.toNat), text := nats b, kind := 1, groups := 0, pos := 0, lim := (nats b).size } s
  rw [code_quo]
  exact h
end
end
section
open PySem PySem.W PyProof.Rows
open PySem.Builtin.Re PySem.Builtin.Bytes
theorem sargs (b : Array UInt8) (c : UInt8) (t u : Tok) : searchArgs .bytes "count" ⟨[.bytes b t, .bytes #[c] u], []⟩ = pure (b, #[c], if (window b.size none none).2 - (window b.size none none).1 < 1 then none else some ((window b.size none none).1.toNat, (window b.size none none).2.toNat)) := by
  unfold searchArgs
  dsimp only
  generalize (toString Kind.bytes.name ++ toString "." ++ toString "count") = id
  rw [show selfAndSome id "count" 1 3 ⟨[.bytes b t, .bytes #[c] u], []⟩ = pure (.bytes b t, [.bytes #[c] u]) from rfl, pure_bind]
  dsimp only
  rw [show ([Value.bytes #[c] u] : List Value)[1]? = none from rfl, show ([Value.bytes #[c] u] : List Value)[2]? = none from rfl, show ([Value.bytes #[c] u] : List Value).headD .none = .bytes #[c] u from rfl, show bound? none = pure none from rfl, pure_bind, pure_bind, buf, pure_bind]
  rfl
theorem window_all (n : Nat) : window n none none = (0, (n : Int)) := by
  unfold window
  dsimp only [Option.getD]
  rw [if_neg (by omega), if_neg (by omega), Int.min_self]
theorem occ_go (b : Array UInt8) (c : UInt8) : ∀ (l : List UInt8) (k : Nat) (acc : List Nat × Nat), acc.2 ≤ k → b.toList.drop k = l →
    ((List.range' k l.length).foldl (fun (acc : List Nat × Nat) (i : Nat) => if (decide (i ≥ acc.2) && b.extract i (i + (#[c] : Array UInt8).size) == #[c]) = true then (i :: acc.1, i + (#[c] : Array UInt8).size) else acc) acc).1.length = acc.1.length + (l.filter (· == c)).length
  | [], k, acc, _, _ => rfl
  | d :: r, k, acc, ha, hl => by
    have hk : k < b.toList.length := by
      rcases Nat.lt_or_ge k b.toList.length with h | h
      · exact h
      · rw [List.drop_eq_nil_of_le h] at hl; cases hl
    have hk' : k < b.size := hk
    rw [List.drop_eq_getElem_cons hk] at hl
    injection hl with h1 h2
    rw [List.length_cons, List.range'_succ, List.foldl_cons]
    have he : (b.extract k (k + (#[c] : Array UInt8).size) == #[c]) = (d == c) := by
      show (b.extract k (k + 1) == #[c]) = _
      have : b.extract k (k + 1) = #[d] := by
        apply Array.ext'
        rw [Array.toList_extract, List.extract_eq_take_drop, List.drop_eq_getElem_cons hk, h1]
        rw [show k + 1 - k = 1 by omega]; rfl
      rw [this]
      by_cases h : d = c
      · subst h; simp
      · rw [show (d == c) = false by simpa using h]
        refine beq_eq_false_iff_ne.mpr fun e => h ?_
        simpa using e
    rw [he, decide_eq_true ha, Bool.true_and, List.filter_cons]
    cases hd : d == c with
    | true =>
      rw [if_pos rfl, if_pos rfl, occ_go b c r (k + 1) _ (by show k + 1 ≤ k + 1; exact Nat.le_refl _) h2]
      show acc.1.length + 1 + _ = _ + ((r.filter _).length + 1)
      omega
    | false =>
      rw [if_neg Bool.false_ne_true, if_neg Bool.false_ne_true, occ_go b c r (k + 1) acc (by omega) h2]
theorem occ_len (b : Array UInt8) (c : UInt8) : (occurrences b #[c] 0 b.size).length = (b.toList.filter (· == c)).length := by
  unfold occurrences
  have h := occ_go b c b.toList 0 ([], 0) (Nat.le_refl 0) rfl
  rw [List.length_reverse]
  have e : (List.range (b.size + 1 - (0 + (#[c] : Array UInt8).size))).map (· + 0) = List.range' 0 b.toList.length := by
    rw [show b.size + 1 - (0 + (#[c] : Array UInt8).size) = b.toList.length by show b.size + 1 - (0 + 1) = b.size; omega, List.range_eq_range']
    simp
  rw [e]
  exact h.trans (Nat.zero_add _)
section
variable {prog : Program} {w : World} {A : Around} {E : Value → Shared → Prop} {s : Shared} {b : Array UInt8} {t u : Tok}
theorem bcount {c : UInt8} {Q : Value → Shared → Prop} (h : Q (.int ((b.toList.filter (· == c)).length : Nat) s.toks) { s with toks := s.toks + 1 }) : wpAny (model prog w) A (PySem.call (.builtin "bytes.count") [.bytes b t, .bytes #[c] u]) Q E s := by
  refine wpAny_call_entry slot_bcount (T := "bytes") rfl entry_bcount ?_ (args_bcount _ _)
  show wpAny _ _ (countM .bytes ⟨[.bytes b t, .bytes #[c] u], []⟩) _ _ s
  unfold countM
  rw [sargs, window_all, pure_bind]
  dsimp only
  by_cases h0 : ((b.size : Int) - 0 < 1)
  · rw [if_pos h0]
    have e : b.toList = [] := by
      have : b.toList.length = 0 := by show b.size = 0; omega
      exact List.length_eq_zero_iff.mp this
    rw [e] at h
    exact wpAny_bind (wpAny_mkInt (wpAny_pure ⟨_, rfl, h⟩))
  · rw [if_neg h0]
    dsimp only
    rw [show (#[c] : Array UInt8).isEmpty = false from rfl, if_neg Bool.false_ne_true, show ((b.size : Int)).toNat = b.size from rfl, show (0 : Int).toNat = 0 from rfl, occ_len]
    exact wpAny_bind (wpAny_mkInt (wpAny_pure ⟨_, rfl, h⟩))
end
end
section
open PySem PySem.W PyProof.Rows
open PySem.Builtin.Re PySem.Builtin.Bytes
noncomputable def bvals (bs : List (Array UInt8 × Tok)) : List Value := bs.map fun p => .bytes p.1 p.2
theorem sum_sizes : ∀ (bs : List (Array UInt8 × Tok)) (k : Nat), (bs.map (·.1)).foldl (fun x1 x2 => x1 + x2.size) k = k + (bs.flatMap fun p => p.1.toList).length
  | [], k => rfl
  | p :: r, k => by
    rw [List.map_cons, List.foldl_cons, sum_sizes r, List.flatMap_cons, List.length_append]
    have e : p.1.toList.length = p.1.size := rfl
    rw [e]; omega
theorem joined_list : ∀ (ps : List (Array UInt8)) (k : Nat) (acc : Array UInt8), ((ps.zipIdx k).foldl (fun out (x : Array UInt8 × Nat) => (if x.2 > 0 then out ++ #[] else out) ++ x.1) acc).toList = acc.toList ++ ps.flatMap (·.toList)
  | [], k, acc => by simp
  | p :: r, k, acc => by
    rw [List.zipIdx_cons, List.foldl_cons, joined_list r (k + 1), List.flatMap_cons, ← List.append_assoc]
    congr 1
    split <;> simp
section
variable {prog : Program} {w : World} {A : Around} {E : Value → Shared → Prop} {s : Shared} {l : Addr} {t : Tok}
theorem bufF (id : String) (full : Bool) (b : Array UInt8) (t : Tok) : buffer? id (.bytes b t) full = pure (some b) := by
  unfold buffer?
  rw [sp1, pure_bind]
  dsimp only
  rw [so1, pure_bind, so2]
  rfl
theorem takeB (id : String) (b : Array UInt8) (u : Tok) : takeBuffer? id (.bytes b u) 0 = pure (some (b, none)) := by
  unfold takeBuffer?
  rw [sp1, pure_bind]
  dsimp only
  rw [so1, pure_bind, bufF]
  rfl
theorem takeBuf (id : String) (b : Array UInt8) (u : Tok) : takeBufferQuiet? id (.bytes b u) 0 = pure (some (b, none)) := by
  unfold takeBufferQuiet?
  rw [takeB]
  rfl
theorem letGoAll {Q : Unit → Shared → Prop} (h : Q () s) : ∀ (bs : List (Array UInt8 × Tok)) (keep : List Value), wpAny (model prog w) A (joinLetGo (bs.map fun p => (Value.bytes p.1 p.2, none)) keep) Q E s
  | [], _ => wpAny_pure h
  | p :: r, keep => by
    rw [List.map_cons]
    unfold joinLetGo
    dsimp only
    exact wpAny_bind (wpAny_letGo (letGoAll h r keep))
theorem bjoin1 {p : Array UInt8 × Tok} {Q : Value → Shared → Prop} (hl : s.heap.IsList l (bvals [p]).toArray)
    (h : ∀ out u tk, out.toList = [p].flatMap (fun p => p.1.toList) → Q (.bytes out u) { s with toks := tk }) : wpAny (model prog w) A (PySem.call (.builtin "bytes.join") [.bytes #[] t, .ref l]) Q E s := by
  refine wpAny_call_entry slot_bjoin (T := "bytes") rfl entry_bjoin ?_ (args_bjoin _ _)
  show wpAny _ _ (joinM .bytes ⟨[.bytes #[] t, .ref l], []⟩) _ _ s
  unfold joinM
  dsimp only
  generalize (toString Kind.bytes.name ++ toString ".join") = id
  obtain ⟨o, ho, hc, n, hd⟩ := _root_.id hl
  refine wpAny_bind (wpAny_of_eq (show selfAndOne id ⟨[.bytes #[] t, .ref l], []⟩ = pure (.bytes #[] t, .ref l) from rfl) ?_)
  have e1 : (Kind.bytes == Kind.bytes) = true := rfl
  rw [if_pos e1]
  unfold joinItems
  refine wpAny_bind (wpAny_bind (wpAny_typeOf hl.typeIs ?_))
  rw [if_pos (by decide)]
  refine wpAny_pure (wpAny_bind (wpAny_seqItems ho hd ?_))
  dsimp only
  rw [if_pos e1]
  show wpAny _ _ (typeOf (Value.bytes p.1 p.2) >>= _) _ _ s
  refine wpAny_bind (wpAny_of_eq (show typeOf (Value.bytes p.1 p.2) = pure (.type "bytes") from rfl) ?_)
  rw [if_pos (by decide)]
  exact wpAny_bind (wpAny_rule (wpAny_pure ⟨_, rfl, h p.1 p.2 s.toks (by simp)⟩))
theorem bjoin2 {p q : Array UInt8 × Tok} {r : List (Array UInt8 × Tok)} {Q : Value → Shared → Prop} (hl : s.heap.IsList l (bvals (p :: q :: r)).toArray) (hsz : ((p :: q :: r).flatMap fun p => p.1.toList).length ≤ 1000000)
    (h : ∀ out u tk, out.toList = (p :: q :: r).flatMap (fun p => p.1.toList) → Q (.bytes out u) { s with toks := tk }) : wpAny (model prog w) A (PySem.call (.builtin "bytes.join") [.bytes #[] t, .ref l]) Q E s := by
  refine wpAny_call_entry slot_bjoin (T := "bytes") rfl entry_bjoin ?_ (args_bjoin _ _)
  show wpAny _ _ (joinM .bytes ⟨[.bytes #[] t, .ref l], []⟩) _ _ s
  unfold joinM
  dsimp only
  generalize (toString Kind.bytes.name ++ toString ".join") = id
  obtain ⟨o, ho, hc, n, hd⟩ := _root_.id hl
  refine wpAny_bind (wpAny_of_eq (show selfAndOne id ⟨[.bytes #[] t, .ref l], []⟩ = pure (.bytes #[] t, .ref l) from rfl) ?_)
  have e1 : (Kind.bytes == Kind.bytes) = true := rfl
  rw [if_pos e1]
  unfold joinItems
  refine wpAny_bind (wpAny_bind (wpAny_typeOf hl.typeIs ?_))
  rw [if_pos (by decide)]
  refine wpAny_pure (wpAny_bind (wpAny_seqItems ho hd ?_))
  dsimp only
  rw [if_pos e1]
  show wpAny _ _ (forIn [:(bvals (p :: q :: r)).toArray.size] ((#[], []) : Array (Array UInt8) × List (Value × Option Value)) _ >>= _) _ _ s
  generalize p :: q :: r = bs at hl hsz h hd ⊢
  have hlen : (bvals bs).toArray.size = bs.length := by simp [bvals]
  rw [hlen]
  refine wpAny_bind ?_
  rw [Std.Legacy.Range.forIn_eq_forIn_range']
  refine wpAny_forIn_list _ (fun rest (st : Array (Array UInt8) × List (Value × Option Value)) s' => s' = s ∧ ∃ k, k ≤ bs.length ∧ rest = List.range' k (bs.length - k) ∧ st.1 = ((bs.take k).map (·.1)).toArray ∧ st.2 = (bs.take k).map fun p => (Value.bytes p.1 p.2, none)) _ ?_ ?_ _ _ ⟨rfl, 0, Nat.zero_le _, by simp [Std.Legacy.Range.size], rfl, rfl⟩
  · rintro i rest ⟨st1, st2⟩ s' ⟨rfl, k, hk, hr, h1, h2⟩
    dsimp only at h1 h2
    subst h1 h2
    have hk' : k < bs.length := by
      rcases Nat.lt_or_ge k bs.length with h' | h'
      · exact h'
      · rw [show bs.length - k = 0 by omega] at hr; cases hr
    rw [show bs.length - k = (bs.length - (k + 1)) + 1 by omega, List.range'_succ] at hr
    injection hr with hr1 hr2
    subst hr1 hr2
    refine wpAny_bind (wpAny_seqItems ho hd ?_)
    dsimp only
    have ha : (Kind.bytes == Kind.bytearray || ((bs.take i).map fun p => ((Value.bytes p.1 p.2, none) : Value × Option Value)).any fun x => x.1.onHeap) = false := by
      rw [show (Kind.bytes == Kind.bytearray) = false from rfl, Bool.false_or, List.any_eq_false]
      intro x hx
      obtain ⟨p, _, rfl⟩ := List.mem_map.mp hx
      exact Bool.false_ne_true
    rw [if_neg (by rw [ha]; exact Bool.false_ne_true)]
    have hx : (bvals bs).toArray.getD i .none = .bytes bs[i].1 bs[i].2 := by
      simp [bvals, Array.getD, hk']
    rw [hx]
    refine wpAny_bind (wpAny_holding (wpAny_of_eq (takeBuf _ _ _) ?_))
    dsimp only
    refine wpAny_bind (wpAny_seqItems ho hd ?_)
    dsimp only
    rw [if_neg (by rw [hlen]; simp)]
    refine wpAny_pure ⟨rfl, i + 1, hk', rfl, ?_, ?_⟩
    · rw [List.take_add_one, List.getElem?_eq_getElem hk', List.map_append, List.push_toArray]; rfl
    · rw [List.take_add_one, List.getElem?_eq_getElem hk', List.map_append]; rfl
  · rintro ⟨st1, st2⟩ s' ⟨rfl, k, hk, hr, h1, h2⟩
    dsimp only at h1 h2
    have hk' : k = bs.length := by
      rcases Nat.lt_or_ge k bs.length with h' | h'
      · rw [show bs.length - k = (bs.length - (k + 1)) + 1 by omega, List.range'_succ] at hr; cases hr
      · omega
    subst hk'
    rw [List.take_length] at h1 h2
    subst h1 h2
    dsimp only
    refine wpAny_bind (wpAny_of_eq (show payload (.bytes #[] t) = pure #[] from rfl) ?_)
    have hsum : Array.foldl (fun x1 x2 => x1 + x2.size) ((#[] : Array UInt8).size * ((bs.map (·.1)).toArray.size - 1)) (bs.map (·.1)).toArray = (bs.flatMap fun p => p.1.toList).length := by
      rw [show ((#[] : Array UInt8).size * ((bs.map (·.1)).toArray.size - 1)) = 0 by simp, List.foldl_toArray', sum_sizes bs 0, Nat.zero_add]
      rfl
    rw [if_neg (by rw [hsum]; unfold tooLong sizeLine; rw [decide_eq_false (by have : (2:Nat)^24 = 16777216 := by decide
                                                                               omega)]; exact Bool.false_ne_true)]
    have hj := joined_list (bs.map (·.1)) 0 #[]
    have hj2 : (joined #[] (bs.map (·.1))).toList = bs.flatMap fun p => p.1.toList := by
      rw [joined, hj, List.flatMap_map]; rfl
    refine wpAny_bind (wpAny_mkBytes ?_ ?_)
    · refine wpAny_bind (wpAny_holding (wpAny_point ?_))
      exact wpAny_bind (letGoAll (wpAny_pure ⟨_, rfl, h _ _ _ hj2⟩) _ _)
    · have : (joined #[] (bs.map (·.1))).size = (bs.flatMap fun p => p.1.toList).length := by rw [← hj2]; rfl
      rw [this]
      exact Nat.le_trans hsz (by decide)
end
end
section
open PySem PySem.W PyProof.Rows
open PySem.Builtin.Re PySem.Builtin.Bytes
noncomputable def strip : Nat → List Nat → List Nat
  | 0, l => l
  | n + 1, l => match findQ l with
    | none => l
    | some x => l.take x.1 ++ strip n (l.drop (x.1 + x.2))
theorem findQ_pos : ∀ (l : List Nat) (x : Nat × Nat), findQ l = some x → 2 ≤ x.2 ∧ x.1 + x.2 ≤ l.length
  | [], x, h => by cases h
  | d :: r, x, h => by
    unfold findQ at h
    split at h
    · next n hn =>
      injection h with h
      subst h
      by_cases h34 : d = 34
      · rw [if_pos h34] at hn
        unfold close at hn
        split at hn
        · cases hn
        · next e r' he =>
          by_cases h3 : e = 34
          · rw [if_pos h3] at hn
            injection hn with hn
            have hl : (r.drop (body r)).length = r'.length + 1 := by rw [he]; rfl
            rw [List.length_drop] at hl
            show 2 ≤ 1 + n ∧ 0 + (1 + n) ≤ r.length + 1
            omega
          · rw [if_neg h3] at hn; cases hn
      · rw [if_neg h34] at hn; cases hn
    · obtain ⟨y, hy, e⟩ := Option.map_eq_some_iff.mp h
      have := findQ_pos r y hy
      subst e
      show 2 ≤ y.2 ∧ y.1 + 1 + y.2 ≤ r.length + 1
      omega
noncomputable def loopArgs (b : Array UInt8) (t u0 : Tok) (n : Int) (st : Nat) (l : Addr) : Args := ⟨[.ref 57, .bytes b t, .bytes #[] u0, rawInt 0, rawInt 0, rawInt n, rawInt st, rawInt st, .bool false, .ref l, .bool false], []⟩
noncomputable def flatB (bs : List (Array UInt8 × Tok)) : List Nat := bs.flatMap fun p => p.1.toList.map (·.toNat)
section
variable {w : World} {f : Nat → Obj}
theorem lit_ok (u0 : Tok) : reLiteralCannotBeTurned (.bytes #[] u0) = pure () := by
  unfold reLiteralCannotBeTurned
  rw [show asStr? (.bytes #[] u0) = pure none from rfl, pure_bind, ii]
  rfl
theorem den_of {id : String} {B : Builtin} (hb : entryFor table id = some B) (args : Args) : (model pw w).den (.builtin id args) = B args := by
  show (match entryFor table id with | some b => b args | none => unsupported ((withoutEnding? id "#data").getD id)) = _
  rw [hb]
theorem next_found {T : Array Nat} {code : ReTarget} {M : Model} {A : Around} {E : Value → Shared → Prop} {s : Shared} {Q : Option Sre.M → Shared → Prop} {st : Nat} (hc : code.code = quo) (ht : code.text = T) (hg : code.groups = 0) (hl : code.lim = T.size) (hst : st ≤ T.size) (hsz : T.size ≤ 1000000)
    (h1 : ∀ m x, findQ (T.toList.drop st) = some x → m.start = st + x.1 → m.handed = st + x.1 + x.2 → Q (some m) s) (h2 : findQ (T.toList.drop st) = none → Q none s) : wpAny M A (reNextFound code st false) Q E s := by
  unfold reNextFound
  rw [hc, ht, hg, hl]
  obtain ⟨k, m, hk, R, hf⟩ := search_run T st hst hsz
  refine runToEnd R hk ?_
  cases hq : findQ (T.toList.drop st) with
  | none => rw [hq] at hf; exact .inr ⟨hf, h2 hq⟩
  | some x => rw [hq] at hf; exact .inl ⟨hf.1, h1 m x hq hf.2.1 hf.2.2⟩
theorem pushL {h₀ : Heap} {l : Addr} {A : Around} {E : Value → Shared → Prop} {s : Shared} {Q : Unit → Shared → Prop} {bs : List (Array UInt8 × Tok)} {v : Array UInt8} {u : Tok} (hl0 : h₀.get? l = none) (hk : Kp h₀ s.heap) (hL : s.heap.IsList l (bvals bs).toArray) (hsz : bs.length ≤ 300000)
    (h : ∀ h', Kp h₀ h' → h'.IsList l (bvals (bs ++ [(v, u)])).toArray → Q () { s with heap := h' }) : wpAny (model pw w) A (updateSeq l fun x => x.push (.bytes v u)) Q E s := by
  obtain ⟨o, ho, hc, n, hd⟩ := hL
  have hs : (bvals bs).toArray.size = bs.length := by simp [bvals]
  refine wpAny_updateSeq ho hd (h _ ?_ ?_) (by rw [hs]; show _ ≤ 16777216; omega) (by rw [Array.size_push, hs]; show _ ≤ 16777216 + 1; omega)
  · intro a o' e
    have hne : a ≠ l := by rintro rfl; rw [hl0] at e; cases e
    exact ((Heap.SameBut.update ..).2 a hne).trans (hk a o' e)
  · obtain ⟨n', hd'⟩ := Obj.data_mapSeq hd fun x => x.push (.bytes v u)
    refine ⟨_, Heap.get?_update_self _ ho (Obj.isFreed_of_seq hd'), (Obj.cls_mapSeq ..).trans hc, n', hd'.trans ?_⟩
    congr 1
    simp [bvals]
theorem quiet_loop (args : Args) : (Code.builtin "re.Pattern.sub.loop" args).quiet = true := by kernel_rfl!
theorem strip_some {n : Nat} {l : List Nat} {x : Nat × Nat} (h : findQ l = some x) : strip (n + 1) l = l.take x.1 ++ strip n (l.drop (x.1 + x.2)) := by
  show (match findQ l with | none => l | some x => l.take x.1 ++ strip n (l.drop (x.1 + x.2))) = _
  rw [h]
theorem strip_none {n : Nat} {l : List Nat} (h : findQ l = none) : strip n l = l := by
  cases n with
  | zero => rfl
  | succ n =>
    show (match findQ l with | none => l | some x => l.take x.1 ++ strip n (l.drop (x.1 + x.2))) = _
    rw [h]
theorem sub_tail {h₀ : Heap} {l : Addr} {A A₀ : Around} {E : Value → Shared → Prop} {R : Result → Shared → Prop} {s : Shared} {bs : List (Array UInt8 × Tok)} {u0 : Tok} {c : Code} (hl0 : h₀.get? l = none) (hk : Kp h₀ s.heap) (hL : s.heap.IsList l (bvals bs).toArray) (hsz : bs.length ≤ 300000) (hq : c.quiet = true)
    (h : ∀ h', Kp h₀ h' → h'.IsList l (bvals (bs ++ [(#[], u0)])).toArray → codeAny (model pw w) A₀ c R { s with heap := h' }) :
    wpAny (model pw w) A (do let item ← pure (Value.bytes #[] u0); if (item != Value.none) = true then do { updateSeq l fun x => x.push item; again c } else again c) (fun fin s' => match fin with | .done f => R (.ok f) s' | .again c' => c'.quiet = true ∧ codeAny (model pw w) A₀ c' R s') E s := by
  refine wpAny_bind (wpAny_pure ?_)
  rw [if_pos (by rfl)]
  refine wpAny_bind (pushL hl0 hk hL hsz fun h' k' l' => ?_)
  exact wpAny_pure (And.intro hq (h h' k' l'))
theorem nats_slice (b : Array UInt8) (i j : Nat) : (((nats b).extract i j).map (·.toUInt8)).toList.map (·.toNat) = ((nats b).toList.drop i).take (j - i) := by
  have e : ((nats b).extract i j).map (·.toUInt8) = b.extract i j := by
    unfold nats
    rw [← Array.map_extract, Array.map_map]
    have : ((fun x : Nat => x.toUInt8) ∘ fun x : UInt8 => x.toNat) = id := by
      funext x
      simp
    rw [this, Array.map_id]
  rw [e, Array.toList_extract, List.extract_eq_take_drop]
  unfold nats
  rw [Array.toList_map, List.map_take, List.map_drop]
theorem flatB_snoc (bs : List (Array UInt8 × Tok)) (v : Array UInt8) (u : Tok) : flatB (bs ++ [(v, u)]) = flatB bs ++ v.toList.map (·.toNat) := by
  unfold flatB
  rw [List.flatMap_append]; simp
theorem flat_len (bs : List (Array UInt8 × Tok)) : (bs.flatMap fun p => p.1.toList).map (·.toNat) = flatB bs := by
  unfold flatB
  rw [List.map_flatMap]
theorem bjoinN {A : Around} {E : Value → Shared → Prop} {s : Shared} {l : Addr} {t : Tok} {bs : List (Array UInt8 × Tok)} {Q : Value → Shared → Prop} (hl : s.heap.IsList l (bvals bs).toArray) (hne : bs ≠ []) (hsz : (flatB bs).length ≤ 1000000)
    (h : ∀ out u tk, out.toList.map (·.toNat) = flatB bs → Q (.bytes out u) { s with toks := tk }) : wpAny (model pw w) A (PySem.call (.builtin "bytes.join") [.bytes #[] t, .ref l]) Q E s := by
  cases bs with
  | nil => exact absurd rfl hne
  | cons p r => cases r with
    | nil => exact bjoin1 hl fun out u tk e => h out u tk (by rw [e, flat_len])
    | cons q r => exact bjoin2 hl (by rw [← List.length_map (f := UInt8.toNat), flat_len]; exact hsz) fun out u tk e => h out u tk (by rw [e, flat_len])
theorem sub_loop {h₀ : Heap} {l : Addr} (hl0 : h₀.get? l = none) {b : Array UInt8} {t u0 : Tok} (hb : b.size ≤ 100000) (fuel : Nat) (st : Nat) (n : Int) (bs : List (Array UInt8 × Tok)) (A : Around) (R : Result → Shared → Prop) (s : Shared) :
    ((nats b).toList.drop st).length ≤ fuel → st ≤ (nats b).size → Ex w f h₀ → Kp h₀ s.heap → s.heap.IsList l (bvals bs).toArray → bs.length + 2 * ((nats b).toList.drop st).length ≤ 300000 → (flatB bs).length + ((nats b).toList.drop st).length ≤ 100000 →
    (∀ out u h' tk, Kp h₀ h' → out.toList.map (·.toNat) = flatB bs ++ strip fuel ((nats b).toList.drop st) → R (.ok (.ret (.bytes out u))) { s with heap := h', toks := tk }) →
    codeAny (model pw w) A (.builtin "re.Pattern.sub.loop" (loopArgs b t u0 n st l)) R s := by
  intro hf hst X hk hL hn1 hn2 hR
  refine codeAny_of_tree ?_
  rw [den_of entry_subloop]
  unfold Builtin.«re.Pattern.sub.loop» loopArgs rawInt
  dsimp only
  refine wpAny_bind (whole (X.kp hk) ?_)
  rw [if_pos (by decide)]
  refine wpAny_bind (wpAny_of_eq (lit_ok u0) ?_)
  rw [if_neg (by rw [show ((0 : Int) != 0) = false from rfl, Bool.false_and]; exact Bool.false_ne_true)]
  have hT : (nats b).size ≤ 100000 := by rw [show (nats b).size = b.size by simp [nats]]; exact hb
  refine wpAny_bind (next_found (T := nats b) rfl rfl rfl rfl (by rw [Int.toNat_natCast]; exact hst) (by omega) (fun m x hx h1 h2 => ?_) (fun hx => ?_))
  · rw [Int.toNat_natCast] at hx h1 h2
    obtain ⟨hx2, hx3⟩ := findQ_pos _ _ hx
    dsimp only [target]
    rw [Int.toNat_natCast]
    have hd2 : ((nats b).toList.drop st).drop (x.1 + x.2) = (nats b).toList.drop (st + x.1 + x.2) := by rw [List.drop_drop, Nat.add_assoc]
    have hlen : ((nats b).toList.drop st).length = (nats b).size - st := by rw [List.length_drop]; rfl
    have hlen2 : ((nats b).toList.drop (st + x.1 + x.2)).length = (nats b).size - (st + x.1 + x.2) := by rw [List.length_drop]; rfl
    cases fuel with
    | zero => exfalso; omega
    | succ fuel =>
    have hstrip : strip (fuel + 1) ((nats b).toList.drop st) = ((nats b).toList.drop st).take x.1 ++ strip fuel ((nats b).toList.drop (st + x.1 + x.2)) := by
      rw [strip_some hx, hd2]
    have hm : (m.handed == m.start) = false := by
      refine beq_eq_false_iff_ne.mpr ?_
      omega
    have hst2 : st + x.1 + x.2 ≤ (nats b).size := by omega
    by_cases ha : st < m.start
    · rw [if_pos ha]
      unfold reSlice
      rw [if_neg (by decide)]
      have hsl := nats_slice b st m.start
      rw [show m.start - st = x.1 by omega] at hsl
      refine wpAny_bind (wpAny_mkBytes ?_ ?_)
      · refine wpAny_bind (pushL hl0 hk hL (by omega) fun h1' k1 l1 => ?_)
        rw [if_pos (by rfl)]
        refine sub_tail hl0 k1 l1 (by rw [List.length_append]; show bs.length + 1 ≤ _; omega) (quiet_loop _) fun h' k' l' => ?_
        rw [hm, h2]
        refine sub_loop hl0 hb fuel (st + x.1 + x.2) (n + 1) _ A R _ (by omega) hst2 X k' l' ?_ ?_ fun out u h3 tk3 k3 e => ?_
        · rw [List.length_append, List.length_append]; show bs.length + 1 + 1 + _ ≤ _; omega
        · rw [flatB_snoc, flatB_snoc, List.length_append, List.length_append]
          show (flatB bs).length + (List.map _ (((nats b).extract st m.start).map _).toList).length + 0 + _ ≤ _
          rw [hsl, List.length_take]
          omega
        · refine hR out u h3 tk3 k3 ?_
          rw [e, flatB_snoc, flatB_snoc, hstrip, hsl]
          simp
      · rw [Array.size_map, Array.size_extract]
        show min m.start (nats b).size - st ≤ 16777216
        omega
    · rw [if_neg ha]
      have hx0 : x.1 = 0 := by omega
      rw [if_pos (by rfl)]
      refine sub_tail hl0 hk hL (by omega) (quiet_loop _) fun h' k' l' => ?_
      rw [hm, h2]
      refine sub_loop hl0 hb fuel (st + x.1 + x.2) (n + 1) _ A R _ (by omega) hst2 X k' l' ?_ ?_ fun out u h3 tk3 k3 e => ?_
      · rw [List.length_append]; show bs.length + 1 + _ ≤ _; omega
      · rw [flatB_snoc, List.length_append]; show (flatB bs).length + 0 + _ ≤ _; omega
      · refine hR out u h3 tk3 k3 ?_
        rw [e, flatB_snoc, hstrip, hx0]
        simp
  · rw [Int.toNat_natCast] at hx
    have hlen : ((nats b).toList.drop st).length = (nats b).size - st := by rw [List.length_drop]; rfl
    have hstrip := strip_none (n := fuel) hx
    dsimp only
    rw [Int.toNat_natCast]
    by_cases ha : st < (target b t).lim
    · rw [if_pos ha]
      dsimp only [target]
      replace ha : st < (nats b).size := ha
      unfold reSlice
      rw [if_neg (by decide)]
      have hsl := nats_slice b st (nats b).size
      rw [List.take_of_length_le (by omega)] at hsl
      refine wpAny_bind (wpAny_mkBytes ?_ ?_)
      · refine wpAny_bind (pushL hl0 hk hL (by omega) fun h1' k1 l1 => ?_)
        refine wpAny_bind (wpAny_mkBytes ?_ (by rw [Array.size_map, Array.size_extract]; show min 0 _ - 0 ≤ 16777216; omega))
        have he : Array.map (fun x : Nat => x.toUInt8) ((nats b).extract 0 0) = #[] := by simp
        rw [he]
        obtain ⟨o, ho, hc, n', hd⟩ := l1
        refine wpAny_bind (wpAny_seqItems ho hd ?_)
        dsimp only [Option.getD]
        rw [if_neg (by simp [bvals])]
        refine wpAny_bind ?_
        show wpAny _ _ (PySem.call (.builtin "bytes.join") [.bytes #[] _, .ref l]) _ _ _
        refine bjoinN ⟨o, ho, hc, n', hd⟩ (by simp) ?_ fun out u tk e => ?_
        · rw [flatB_snoc, List.length_append, hsl]; omega
        · rw [if_neg (by decide)]
          refine wpAny_pure (hR out u _ _ k1 ?_)
          rw [e, flatB_snoc, hsl, hstrip]
      · rw [Array.size_map, Array.size_extract]
        show min (nats b).size (nats b).size - st ≤ 16777216
        omega
    · rw [if_neg ha]
      dsimp only [target]
      replace ha : ¬ st < (nats b).size := ha
      unfold reSlice
      rw [if_neg (by decide)]
      refine wpAny_bind (wpAny_mkBytes ?_ (by rw [Array.size_map, Array.size_extract]; show min 0 _ - 0 ≤ 16777216; omega))
      have he : Array.map (fun x : Nat => x.toUInt8) ((nats b).extract 0 0) = #[] := by simp
      rw [he]
      have hnil : (nats b).toList.drop st = [] := List.eq_nil_of_length_eq_zero (by omega)
      obtain ⟨o, ho, hc, n', hd⟩ := hL
      refine wpAny_bind (wpAny_seqItems ho hd ?_)
      dsimp only [Option.getD]
      cases bs with
      | nil =>
        rw [if_pos (by rfl)]
        refine wpAny_bind (wpAny_pure ?_)
        rw [if_neg (by decide)]
        refine wpAny_pure (hR #[] _ _ _ hk ?_)
        rw [hstrip, hnil]; rfl
      | cons p r =>
        rw [if_neg (by simp [bvals])]
        refine wpAny_bind ?_
        show wpAny _ _ (PySem.call (.builtin "bytes.join") [.bytes #[] _, .ref l]) _ _ _
        refine bjoinN ⟨o, ho, hc, n', hd⟩ (by simp) (by omega) fun out u tk e => ?_
        rw [if_neg (by decide)]
        refine wpAny_pure (hR out u _ _ hk ?_)
        rw [e, hstrip, hnil, List.append_nil]
termination_by fuel
end
end
section
open PySem PySem.W PyProof.Rows
open PySem.Builtin.Re PySem.Builtin.Bytes
section
variable {w : World} {f : Nat → Obj} {A : Around} {E : Value → Shared → Prop} {s : Shared} {b : Array UInt8} {t u0 : Tok}
theorem sub_call {Q : Value → Shared → Prop} (X : Ex w f s.heap) (hb : b.size ≤ 100000)
    (h : ∀ out u h' tk, Kp s.heap h' → out.toList.map (·.toNat) = strip (nats b).size (nats b).toList → Q (.bytes out u) { s with heap := h', toks := tk }) :
    wpAny (model pw w) A (PySem.call (.builtin "re.Pattern.sub") [.ref 57, .bytes #[] u0, .bytes b t]) Q E s := by
  have hT : s.TypeIs (.ref 57) "re.Pattern" := ⟨_, X _ _ (get19 (a := 57) rfl rfl rfl), pat_cls _⟩
  refine wpAny_call (codeAny_call_builtin slot_sub.plain entry_sub (slot_sub.check _ _ _ _ _ _ _ _ hT (args_sub _ _ _) ?_))
  show wpAny _ _ (reSubstitute "re.Pattern.sub" "sub" false _) _ _ s
  unfold reSubstitute
  dsimp only
  refine wpAny_bind (wpAny_of_eq (show reNamed "re.Pattern.sub" "sub" ["repl", "string", "count"] 2 [.bytes #[] u0, .bytes b t] [] = pure [some (.bytes #[] u0), some (.bytes b t), none] from by kernel_rfl!) ?_)
  dsimp only
  refine wpAny_bind (wpAny_pure ?_)
  refine wpAny_bind (wpAny_of_eq (sp3 _ _) ?_)
  rw [if_neg (by decide)]
  refine wpAny_bind (wpAny_of_eq (show asStr? (.bytes #[] u0) = pure none from rfl) ?_)
  dsimp only
  refine wpAny_bind (wpAny_of_eq (bufQ _ _ _) ?_)
  dsimp only
  refine wpAny_bind (wpAny_pure ?_)
  rw [if_neg (by decide), if_pos (by simp)]
  refine wpAny_bind (wpAny_pure ?_)
  dsimp only
  refine wpAny_bind (wpAny_holding (whole X ?_))
  rw [if_neg (by decide)]
  refine wpAny_bind (wpAny_newObj_type ?_ (by show _ ≤ _; decide))
  have hn : s.heap.get? s.heap.objs.size = none := by
    cases e : s.heap.get? s.heap.objs.size with
    | none => rfl
    | some o => exact absurd (Heap.lt_size e) (Nat.lt_irrefl _)
  have hsz : (nats b).size = b.size := by simp [nats]
  refine wpAny_pure (And.intro (quiet_loop _) ?_)
  refine sub_loop (l := s.heap.objs.size) hn hb (nats b).size 0 0 [] A _ _ (Nat.le_refl _) (Nat.zero_le _) X (fun a o e => Heap.get?_push_of_some _ e) ⟨_, Heap.get?_push_size _ rfl, rfl, _, rfl⟩ ?_ ?_ fun out u h' tk k e => ?_
  · show 0 + 2 * (nats b).size ≤ 300000; omega
  · show 0 + (nats b).size ≤ 100000; omega
  · exact h out u h' tk k e
end
end
section
open PySem PySem.W PyProof.Rows
open PySem.Builtin PySem.Builtin._codecs
theorem enc_eq (x : Str) (t u : Tok) : «str.encode» ⟨[.str x t, .str "utf-8" u], []⟩ = (do ret (← encodeRoad "str.encode" (.str x t) x (Str.ofString "utf-8") none)) := by kernel_rfl!
theorem u8_len (c : Nat) : (Str.utf8Of c).length ≤ 4 := by
  unfold Str.utf8Of
  split
  · exact (by decide : 1 ≤ 4)
  · split
    · exact (by decide : 2 ≤ 4)
    · split
      · exact (by decide : 3 ≤ 4)
      · exact (by decide : 4 ≤ 4)
theorem fold_len : ∀ (l : List Nat) (acc : Array UInt8), (l.foldl (fun acc c => acc ++ (Str.utf8Of c).toArray) acc).size ≤ acc.size + 4 * l.length
  | [], acc => by simp
  | c :: r, acc => by
    rw [List.foldl_cons, List.length_cons]
    have h := fold_len r (acc ++ (Str.utf8Of c).toArray)
    have h2 := u8_len c
    have e : (acc ++ (Str.utf8Of c).toArray).size = acc.size + (Str.utf8Of c).length := by simp
    rw [e] at h
    omega
theorem enc_narrow {M : Model} {A : Around} {E : Value → Shared → Prop} {s : Shared} {x : Str} {t : Tok} {Q : Array UInt8 → Shared → Prop} (hb : ∀ c ∈ x.cps.toList, Str.isSurrogate c = false) (hs : x.length ≤ 100000)
    (h : Q (x.cps.foldl (fun acc c => acc ++ (Str.utf8Of c).toArray) #[]) s) : wpAny M A (encodeNarrow "str.encode" utf8Codec none (.str x t) x) Q E s := by
  have hfi : x.cps.findIdx? utf8Codec.bad = none := by
    rw [Array.findIdx?_eq_none_iff]
    intro c hc
    exact hb c (by simpa using hc)
  unfold encodeNarrow
  dsimp only
  refine wpAny_bind ?_
  rw [Std.Legacy.Range.forIn_eq_forIn_range']
  refine wpAny_forIn_list _ (fun rest (st : Nat × Array UInt8 × Faults) s' => s' = s ∧ ((st.1 = 0 ∧ st.2.1 = #[] ∧ rest.length = x.length) ∨ (st.1 = x.cps.size ∧ st.2.1 = x.cps.foldl (fun acc c => acc ++ (Str.utf8Of c).toArray) #[]))) _ ?_ ?_ _ _ ⟨rfl, .inl ⟨rfl, rfl, by simp [Std.Legacy.Range.size]⟩⟩
  · rintro i rest ⟨k, out, st⟩ s' ⟨rfl, hI⟩
    dsimp only at hI ⊢
    rcases hI with ⟨hk, ho, hr⟩ | ⟨hk, ho⟩
    · subst hk ho
      rw [if_neg (by show ¬ 0 > sizeLine; decide)]
      have hlt : 0 < x.cps.size := by
        have : rest.length + 1 = x.cps.size := hr
        omega
      rw [Array.getElem?_eq_getElem hlt]
      dsimp only
      rw [if_pos (by rw [show utf8Codec.bad x.cps[0] = false from hb _ (by simp)]; rfl)]
      have he : x.cps.extract 0 = x.cps := by simp
      rw [he, hfi]
      refine wpAny_pure ⟨rfl, .inr ⟨by simp, ?_⟩⟩
      simp [utf8Codec]
    · subst hk
      rw [if_neg ?_, Array.getElem?_eq_none (Nat.le_refl _)]
      · dsimp only
        refine wpAny_pure ?_
        dsimp only
        refine wpAny_pure ?_
        rw [ho]; exact h
      · rw [ho]
        have := fold_len x.cps.toList #[]
        rw [Array.foldl_toList] at this
        have e : x.cps.toList.length = x.length := rfl
        show ¬ _ > 16777216
        have e2 : (#[] : Array UInt8).size = 0 := rfl
        omega
  · rintro ⟨k, out, st⟩ s' ⟨rfl, hI⟩
    dsimp only at hI ⊢
    refine wpAny_pure ?_
    rcases hI with ⟨_, h2, h3⟩ | ⟨_, h2⟩
    · rw [h2]
      have : x.cps = #[] := by
        have : x.cps.size = 0 := h3.symm
        simpa using this
      rw [this] at h
      exact h
    · rw [h2]; exact h
/-- what a sign is written as -/
noncomputable def u8 (c : Nat) : List Nat := (Str.utf8Of c).map (·.toNat)
theorem fold_u8 : ∀ (l : List Nat) (acc : Array UInt8), (l.foldl (fun acc c => acc ++ (Str.utf8Of c).toArray) acc).toList.map (·.toNat) = acc.toList.map (·.toNat) ++ l.flatMap u8
  | [], acc => by simp
  | c :: r, acc => by
    rw [List.foldl_cons, fold_u8 r, List.flatMap_cons]
    simp [u8]
theorem u8_low {c : Nat} (h : c < 128) : u8 c = [c] := by
  unfold u8 Str.utf8Of
  rw [if_pos h]
  simp
  omega
theorem u8_high {c : Nat} (h : 128 ≤ c) (h2 : c < 1114112) : ∀ k ∈ u8 c, 128 ≤ k := by
  intro k hk
  unfold u8 Str.utf8Of at hk
  rw [if_neg (by omega)] at hk
  split at hk
  · simp at hk; omega
  · split at hk
    · simp at hk; omega
    · simp at hk; omega
theorem enc_call {w : World} {A : Around} {E : Value → Shared → Prop} {s : Shared} {x : Str} {t u : Tok} {Q : Value → Shared → Prop} (hb : ∀ c ∈ x.cps.toList, Str.isSurrogate c = false) (hs : x.length ≤ 20000)
    (h : ∀ out tk, out.toList.map (·.toNat) = x.cps.toList.flatMap u8 → Q (.bytes out tk) { s with toks := s.toks + 1 }) : wpAny (model pw w) A (PySem.call (.builtin "str.encode") [.str x t, .str "utf-8" u]) Q E s := by
  refine wpAny_call_entry F.slot_str_encode (typeIs_str _ _ _) F.entry_str_encode ?_ (F.args_str_encode_2 _ _)
  rw [enc_eq, encodeRoad_utf8]
  refine wpAny_bind (wpAny_bind (enc_narrow hb (by omega) (wpAny_mkBytes (wpAny_pure ⟨_, rfl, h _ _ ?_⟩) ?_)))
  · rw [← Array.foldl_toList, fold_u8]; rfl
  · have := fold_len x.cps.toList #[]
    rw [Array.foldl_toList] at this
    have e : x.cps.toList.length = x.length := rfl
    have e2 : (#[] : Array UInt8).size = 0 := rfl
    show _ ≤ 16777216
    omega
end
section
variable {M : Model} {A : Around} {E : Value → Shared → Prop} {s : Shared} {name : Str} {sc : Scope} {L a : Addr} {cd : Value} {h₀ : Heap} {m : Str → Option Value} {ls gs : List Str} {x : Str} {v : Value}
theorem stLN {Q : Unit → Shared → Prop} {l : List (Str × Value)} {news : List (Addr × Obj)} (S : Sc sc ls gs) (F : Fr h₀ L s.heap (lk l)) (N : News h₀ L s.heap news) (hl : ls.contains x = true) (h : ∀ h' tk, Fr h₀ L h' (lk ((x, v) :: l)) → News h₀ L h' news → Q () { s with heap := h', toks := tk }) : wpAny M A (storeName (envOf name sc L a cd) x v) Q E s :=
  stL S F hl fun h' tk F' hs => h h' tk F' (N.set hs)
theorem ldB2 {w : World} {f : Nat → Obj} {pos : Pos} {Q : Value → Shared → Prop} (S : Sc sc ls gs) (F : Fr h₀ L s.heap m) (X : Ex w f h₀) (hl : gs.contains x = true) (hd : (x == ("__debug__" : Str)) = false) (hv : mg w f x = none) (hb : mb w f x = some v) (h : Q v s) : wpAny M A (eval (.Name x pos) (envOf name sc L a cd)) Q E s := ldB S F X hl hd ⟨hv, hb⟩ h
theorem in_hd {x : Str} {r : List Str} : (x :: r).contains x = true := List.contains_iff_mem.mpr (.head _)
theorem in_tl {x y : Str} {r : List Str} (h : r.contains x = true) : (y :: r).contains x = true := List.contains_iff_mem.mpr (.tail _ (List.contains_iff_mem.mp h))
theorem ite_hit {x : Str} {v : Value} {o : Option Value} : (if x = x then some v else o) = some v := if_pos rfl
theorem ite_miss {x y : Str} {v u : Value} {o : Option Value} (h : (decide (y = x)) = false) (k : o = some u) : (if y = x then some v else o) = some u := (if_neg (of_decide_eq_false h)).trans k
theorem itePos {p : Prop} [Decidable p] {a b : Prop} (h : p) (x : a) : if p then a else b := by rw [if_pos h]; exact x
theorem iteNeg {p : Prop} [Decidable p] {a b : Prop} (h : ¬ p) (x : b) : if p then a else b := by rw [if_neg h]; exact x
end
section
variable {prog : Program} {w : World} {A : Around} {E : Value → Shared → Prop} {s : Shared} {a b c : Int} {t u : Tok} {Q : Value → Shared → Prop}
theorem mod_intN (hb : b ≠ 0) (e : a.fmod b = c) (h : Q (.int c s.toks) { s with toks := s.toks + 1 }) : wpAny (model prog w) A (binaryOp .Mod (.int a t) (.int b u)) Q E s := by subst e; exact mod_int hb h
theorem div_intN (hb : b ≠ 0) (e : a.fdiv b = c) (h : Q (.int c s.toks) { s with toks := s.toks + 1 }) (hp : Builtin.divisionGoesByPylong a b = false ∨ PySem.PylongRoom (model prog w) A s) : wpAny (model prog w) A (binaryOp .FloorDiv (.int a t) (.int b u)) Q E s := by subst e; exact floordiv_int hb h hp
end
theorem fmodN (a b : Nat) (_h : 0 < b) : Int.fmod (a : Int) (b : Int) = ((a % b : Nat) : Int) := by
  rw [Int.fmod_eq_emod_of_nonneg _ (Int.natCast_nonneg _)]; rfl
theorem fdivN (a b : Nat) : Int.fdiv (a : Int) (b : Int) = ((a / b : Nat) : Int) := by
  rw [Int.fdiv_eq_ediv_of_nonneg _ (Int.natCast_nonneg _)]; rfl
/-- the values are these numbers -/
noncomputable def IA : List Value → List Nat → Prop
  | [], [] => True
  | .int n _ :: vs, c :: cs => n = (c : Int) ∧ IA vs cs
  | _, _ => False
theorem IA.at : ∀ {vs : List Value} {cs : List Nat}, IA vs cs → ∀ k, k < cs.length → ∃ t, vs[k]? = some (.int (cs.getD k 0 : Nat) t)
  | [], [], _, k, hk => absurd hk (Nat.not_lt_zero k)
  | v :: vs, c :: cs, h, k, hk => by
    cases v <;> first | exact h.elim | skip
    obtain ⟨rfl, h⟩ := h
    cases k with
    | zero => exact ⟨_, rfl⟩
    | succ k => exact IA.at h k (Nat.lt_of_succ_lt_succ hk)
  | [], _ :: _, h, _, _ => h.elim
  | v :: _, [], h, _, _ => by cases v <;> exact h.elim
/-- the values are tuples of a number and a string -/
noncomputable def PA (h : Heap) : List Value → List (Nat × Str) → Prop
  | [], [] => True
  | .ref a :: vs, c :: cs => (∃ t u, IsTup h a #[.int (c.1 : Int) t, .str c.2 u]) ∧ PA h vs cs
  | _, _ => False
theorem PA.cons {h : Heap} {a : Addr} {o : Obj} {vs : List Value} {c : Nat} {y : Str} {cs : List (Nat × Str)} {t u : Tok} {n : Nat} (ho : h.get? a = some o) (hc : o.cls = .type "tuple") (hd : o.data = .seq #[.int (c : Int) t, .str y u] n) (r : PA h vs cs) : PA h (.ref a :: vs) ((c, y) :: cs) :=
  ⟨⟨t, u, o, ho, hc, n, hd⟩, r⟩
theorem PA.at {h : Heap} : ∀ {vs : List Value} {cs : List (Nat × Str)}, PA h vs cs → ∀ k, k < cs.length → ∃ a t u, vs[k]? = some (.ref a) ∧ IsTup h a #[.int ((cs.getD k (0, Str.empty)).1 : Int) t, .str (cs.getD k (0, Str.empty)).2 u]
  | [], [], _, k, hk => absurd hk (Nat.not_lt_zero k)
  | v :: vs, c :: cs, h, k, hk => by
    cases v <;> first | exact h.elim | skip
    obtain ⟨⟨t, u, h0⟩, h⟩ := h
    cases k with
    | zero => exact ⟨_, t, u, rfl, h0⟩
    | succ k => exact PA.at h k (Nat.lt_of_succ_lt_succ hk)
  | [], _ :: _, h, _, _ => h.elim
  | v :: _, [], h, _, _ => by cases v <;> exact h.elim
section
variable {prog : Program} {w : World} {A : Around} {E : Value → Shared → Prop} {s : Shared} {u : Tok} {Q : Value → Shared → Prop} {value slice : Expr} {a : Addr} {vs : List Value}
theorem item_at {k : Nat} {x : Value} (hl : s.heap.IsList a vs.toArray) (hx : vs[k]? = some x) (hk : k < 1000) (h : Q x s)
    (hs : subscripted slice false (.ref a) (.int (k : Int) u) = operate [.ref a, .int (k : Int) u] (getItem (.ref a) (.int (k : Int) u)) := by with_unfolding_all rfl) :
    wpAny (model prog w) A (subscriptTail value slice (.ref a) (.int (k : Int) u)) Q E s :=
  tail_any hl.typeIs slot_list_getitem.lookup (wpAny_getItem_list hl (Int.natCast_nonneg _) (by omega) (by simpa using hx) h) hs
theorem item_ints {k : Nat} {cs : List Nat} (hl : s.heap.IsList a vs.toArray) (hi : IA vs cs) (hk : k < cs.length) (hc : cs.length < 1000) (h : ∀ t, Q (.int (cs.getD k 0 : Nat) t) s)
    (hs : subscripted slice false (.ref a) (.int (k : Int) u) = operate [.ref a, .int (k : Int) u] (getItem (.ref a) (.int (k : Int) u)) := by with_unfolding_all rfl) :
    wpAny (model prog w) A (subscriptTail value slice (.ref a) (.int (k : Int) u)) Q E s := by
  obtain ⟨t, ht⟩ := hi.at k hk
  exact item_at hl ht (by omega) (h t) hs
theorem item_strN {k : Nat} {x : Str} {t : Tok} (hk : k < x.length) (hx : x.length < 1000) (h : ∀ t', Q (.str (Txt.item x (k : Int)) t') { s with toks := s.toks + 1 })
    (hs : subscripted slice false (.str x t) (.int (k : Int) u) = operate [.str x t, .int (k : Int) u] (getItem (.str x t) (.int (k : Int) u)) := by with_unfolding_all rfl)
    (ht : ∀ r, letTemporaryGo value (.str x t) r = pure () := by intro _; with_unfolding_all rfl) :
    wpAny (model prog w) A (subscriptTail value slice (.str x t) (.int (k : Int) u)) Q E s :=
  item_str (fitsSsize_of (N := 9223372036854775808) (by omega) (by omega) (Int.le_refl _)) (by omega) (by omega) (fun _ => h _) hs ht
end
local macro_rules | `(tactic| walk_at "BL") => `(tactic| with_reducible first | exact n_ord _ _ | exact n_chr _ _ | exact n_len _ _ | exact n_sum _ _ | exact n_range _ _)
local macro_rules | `(tactic| walk_at "BB") => `(tactic| with_reducible first | exact b_ord _ _ | exact b_chr _ _ | exact b_len _ _ | exact b_sum _ _ | exact b_range _ _)
local macro_rules | `(tactic| walk_at "eval Name") => `(tactic| first
  | (refine ldL (by assumption) (by assumption) (by walk_at "IN") (by kernel_rfl!) (by walk_at "LK") ?_)
  | (refine ldG (by assumption) (by assumption) (by assumption) (by walk_at "IN") (by kernel_rfl!) (by walk_at "GL") ?_)
  | (refine ldB2 (by assumption) (by assumption) (by assumption) (by walk_at "IN") (by kernel_rfl!) (by walk_at "BL") (by walk_at "BB") ?_))
local macro_rules | `(tactic| walk_at "IN") => `(tactic| first | with_reducible exact in_hd | ((with_reducible apply in_tl); walk_at "IN"))
local macro_rules | `(tactic| walk_at "storeName") => `(tactic| (refine stLN (by assumption) (by assumption) (by assumption) (by kernel_rfl!) ?_; intro h' tk' F' N'))
local macro_rules | `(tactic| walk_at "ite") => `(tactic| first | (refine itePos (by walk_at "DEC") ?_) | (refine iteNeg (by walk_at "DEC") ?_))
local macro_rules | `(tactic| walk_at "DEC") => `(tactic| (simp only [decide_eq_true_eq, decide_eq_false_iff_not, beq_iff_eq, bne_iff_ne, ne_eq]; omega))
local macro_rules | `(tactic| walk_at "binaryOp Mod int int") => `(tactic| refine mod_intN (by decide) (by assumption) ?_)
local macro_rules | `(tactic| walk_at "binaryOp FloorDiv int int") => `(tactic| refine div_intN (by decide) (by assumption) ?_ (by first | exact Or.inl (PyProof.noPylong_small (by omega))))
section
local macro_rules | `(tactic| walk_at "newTuple") => `(tactic| (refine newTuple_N (by assumption) (by assumption) ?_ (by show _ ≤ _; decide); intro h' F' N'))
local macro_rules | `(tactic| walk_at "newList") => `(tactic| (refine newList_N (by assumption) (by assumption) ?_ (by show _ ≤ _; decide); intro h' F' N'))
local macro_rules | `(tactic| walk_at "IA") => `(tactic| repeat (first | exact True.intro | refine ⟨rfl, ?_⟩))
local macro_rules | `(tactic| walk_at "PA") => `(tactic| repeat (first | exact True.intro | (apply PA.cons; (· (apply News.get (by assumption)); walk_at "MEM"); (· rfl); (· rfl))))
local macro_rules | `(tactic| walk_at "MEM") => `(tactic| first | exact List.mem_cons_self | (apply List.mem_cons_of_mem; walk_at "MEM"))
local macro_rules | `(tactic| walk_at "ISL") => `(tactic| exact ⟨_, News.get (by assumption) (by walk_at "MEM"), rfl, _, rfl⟩)
local macro_rules | `(tactic| walk_at "call builtin:chr") => `(tactic| refine chr_of_range (by omega) (by omega) ?_)
noncomputable def Sfit (c : Nat) : Prop := c < 1114112
theorem chr_of {prog : Program} {w : World} {A : Around} {E : Value → Shared → Prop} {s : Shared} {c : Nat} {t : Tok} {Q : Value → Shared → Prop} (h0 : c < 1114112) (h : Q (.str ⟨#[c]⟩ s.toks) { s with toks := s.toks + 1 }) : wpAny (model prog w) A (PySem.call (.builtin "chr") [.int (c : Int) t]) Q E s :=
  chr_of_range (Int.natCast_nonneg _) (by omega) h
theorem item_pair {prog : Program} {w : World} {A : Around} {E : Value → Shared → Prop} {s : Shared} {u : Tok} {Q : Value → Shared → Prop} {value slice : Expr} {a : Addr} {vs : List Value} {k : Nat} {cs : List (Nat × Str)} (hl : s.heap.IsList a vs.toArray) (hi : PA s.heap vs cs) (hk : k < cs.length) (h : ∀ b t u, IsTup s.heap b #[.int ((cs.getD k (0, Str.empty)).1 : Int) t, .str (cs.getD k (0, Str.empty)).2 u] → Q (.ref b) s) (hc : cs.length < 1000 := by decide)
    (hs : subscripted slice false (.ref a) (.int (k : Int) u) = operate [.ref a, .int (k : Int) u] (getItem (.ref a) (.int (k : Int) u)) := by with_unfolding_all rfl) :
    wpAny (model prog w) A (subscriptTail value slice (.ref a) (.int (k : Int) u)) Q E s := by
  obtain ⟨b, t, u, ht, hb⟩ := hi.at k hk
  exact item_at hl ht (by omega) (h b t u hb) hs
theorem chr_eq {prog : Program} {w : World} {A : Around} {E : Value → Shared → Prop} {s : Shared} {i : Int} {c : Nat} {t : Tok} {Q : Value → Shared → Prop} (e : i = (c : Int)) (h0 : c < 1114112) (h : Q (.str ⟨#[c]⟩ s.toks) { s with toks := s.toks + 1 }) : wpAny (model prog w) A (PySem.call (.builtin "chr") [.int i t]) Q E s := by
  subst e; exact chr_of h0 h
noncomputable def b1L : List Nat := [173, 847, 6150, 8204, 8205, 8288, 65024, 65279]
noncomputable def e7L : List Nat := [34, 38, 60, 9, 10, 13, 62]
noncomputable def capL : List Nat := [119808, 119860, 119912, 120016, 120172, 120224, 120276, 120328, 120380, 120432]
noncomputable def p8L : List (Nat × Str) := [(223, "ss"), (64261, "st"), (13184, "pa"), (7831, ⟨#[116, 776]⟩), (1415, ⟨#[1381, 1410]⟩), (64257, "fi"), (8457, ⟨#[176, 102]⟩), (13271, "ph")]
/-- the answer of _law_told: a tuple of two strings -/
noncomputable def ToldQ (s : Shared) (sg lt : Str) (Q : Value → Shared → Prop) : Prop := ∀ h' tk a u1 u2, Kp s.heap h' → h'.get? a = some { cls := .type "tuple", data := .seq #[.str sg u1, .str lt u2] } → Q (.ref a) { s with heap := h', toks := tk }
theorem ToldQ.use {s : Shared} {x sg y lt : Str} {Q : Value → Shared → Prop} (h : ToldQ s sg lt Q) (e1 : x = sg) (e2 : y = lt) : ToldQ s x y Q := by subst e1 e2; exact h
section
variable {w : World} {f : Nat → Obj} {A : Around} {E : Value → Shared → Prop} {s : Shared} {n q r : Nat} {t : Tok} {Q : Value → Shared → Prop} 
theorem told01 (X : Ex w f s.heap) (hroom : Rm A 1 20) (hn : n < 1000000)
    (h1 : Int.fmod (n : Int) 8 = (r : Int)) (h2 : Int.fdiv (n : Int) 8 = (q : Int)) (hr : r < 2)
    (hQ : ToldQ s ⟨#[40 + r]⟩ ⟨#[40 + r]⟩ Q) : wpAny (model pw w) A (PySem.call (.ref 136) [.int n t]) Q E s := by
  refine enter (d := 0) (u := 17) (name := "_law_told") ["number"] ["number", "which", "capitals", "pairs"] ["chr"] X hroom (get19 (a := 136) rfl rfl rfl) rfl (code136 _ _) (by kernel_rfl!) (by kernel_rfl!) rfl (by kernel_rfl!) (fun A' sc L h₁ tk hA S F => ?_)
  replace F : Fr s.heap L h₁ (lk [("number", .int n t)]) := F
  have N : News s.heap L h₁ [] := News.nil
  repeat' walk1
  refine item_strN (by exact hr) (by show _ < _; decide) fun u1 => ?_
  repeat' walk1
  refine item_strN (by exact hr) (by show _ < _; decide) fun u2 => ?_
  repeat' walk1
  rename_i F1 N1
  refine hQ.use ?_ ?_ _ _ _ _ _ F1.keep (N1 _ (.head _)).1
  all_goals rcases r with _ | _ | r <;> first | rfl | omega
theorem told23 (X : Ex w f s.heap) (hroom : Rm A 1 20) (hn : n < 1000000)
    (h1 : Int.fmod (n : Int) 8 = (r : Int)) (h2 : Int.fdiv (n : Int) 8 = (q : Int)) (hr : 2 ≤ r) (hr' : r < 4)
    (hQ : ToldQ s "\\" "\\" Q) : wpAny (model pw w) A (PySem.call (.ref 136) [.int n t]) Q E s := by
  refine enter (d := 0) (u := 17) (name := "_law_told") ["number"] ["number", "which", "capitals", "pairs"] ["chr"] X hroom (get19 (a := 136) rfl rfl rfl) rfl (code136 _ _) (by kernel_rfl!) (by kernel_rfl!) rfl (by kernel_rfl!) (fun A' sc L h₁ tk hA S F => ?_)
  replace F : Fr s.heap L h₁ (lk [("number", .int n t)]) := F
  have N : News s.heap L h₁ [] := News.nil
  repeat' walk1
  rename_i F1 N1
  exact hQ _ _ _ _ _ F1.keep (N1 _ (.head _)).1
theorem told4 {q8 : Nat} (X : Ex w f s.heap) (hroom : Rm A 1 20) (hn : n < 1000000)
    (h1 : Int.fmod (n : Int) 8 = (r : Int)) (h2 : Int.fdiv (n : Int) 8 = (q : Int)) (hr : r = 4) (h3 : Int.fmod (q : Int) 8 = (q8 : Int)) (h4 : q8 < 8)
    (hQ : ToldQ s ⟨#[b1L.getD q8 0]⟩ "" Q) : wpAny (model pw w) A (PySem.call (.ref 136) [.int n t]) Q E s := by
  refine enter (d := 0) (u := 17) (name := "_law_told") ["number"] ["number", "which", "capitals", "pairs"] ["chr"] X hroom (get19 (a := 136) rfl rfl rfl) rfl (code136 _ _) (by kernel_rfl!) (by kernel_rfl!) rfl (by kernel_rfl!) (fun A' sc L h₁ tk hA S F => ?_)
  replace F : Fr s.heap L h₁ (lk [("number", .int n t)]) := F
  have N : News s.heap L h₁ [] := News.nil
  repeat' walk1
  refine item_ints (cs := b1L) (by walk_at "ISL") (by walk_at "IA") h4 (by show _ < _; decide) fun t' => ?_
  repeat' walk1
  refine chr_of ?_ ?_
  · rcases q8 with _|_|_|_|_|_|_|_|q8 <;> first | (show _ < _; decide) | omega
  repeat' walk1
  rename_i F1 N1
  exact hQ _ _ _ _ _ F1.keep (N1 _ (.head _)).1
theorem told5 {q7 : Nat} (X : Ex w f s.heap) (hroom : Rm A 1 20) (hn : n < 1000000)
    (h1 : Int.fmod (n : Int) 8 = (r : Int)) (h2 : Int.fdiv (n : Int) 8 = (q : Int)) (hr : r = 5) (h3 : Int.fmod (q : Int) 7 = (q7 : Int)) (h4 : q7 < 7)
    (hQ : ToldQ s ⟨#[e7L.getD q7 0]⟩ ⟨#[e7L.getD q7 0]⟩ Q) : wpAny (model pw w) A (PySem.call (.ref 136) [.int n t]) Q E s := by
  refine enter (d := 0) (u := 17) (name := "_law_told") ["number"] ["number", "which", "capitals", "pairs"] ["chr"] X hroom (get19 (a := 136) rfl rfl rfl) rfl (code136 _ _) (by kernel_rfl!) (by kernel_rfl!) rfl (by kernel_rfl!) (fun A' sc L h₁ tk hA S F => ?_)
  replace F : Fr s.heap L h₁ (lk [("number", .int n t)]) := F
  have N : News s.heap L h₁ [] := News.nil
  repeat' walk1
  refine item_strN (by exact h4) (by show _ < _; decide) fun u1 => ?_
  repeat' walk1
  refine item_strN (by exact h4) (by show _ < _; decide) fun u2 => ?_
  repeat' walk1
  rename_i F1 N1
  refine hQ.use ?_ ?_ _ _ _ _ _ F1.keep (N1 _ (.head _)).1
  all_goals rcases q7 with _|_|_|_|_|_|_|q7 <;> first | rfl | omega
theorem told6 {q10 p p26 : Nat} (X : Ex w f s.heap) (hroom : Rm A 1 20) (hn : n < 1000000)
    (h1 : Int.fmod (n : Int) 8 = (r : Int)) (h2 : Int.fdiv (n : Int) 8 = (q : Int)) (hr : r = 6) (hq : q < 1000000) (h3 : Int.fmod (q : Int) 10 = (q10 : Int)) (h4 : q10 < 10) (h5 : Int.fdiv (q : Int) 10 = (p : Int)) (h6 : Int.fmod (p : Int) 26 = (p26 : Int)) (h7 : p26 < 26)
    (hQ : ToldQ s ⟨#[capL.getD q10 0 + p26]⟩ ⟨#[97 + p26]⟩ Q) : wpAny (model pw w) A (PySem.call (.ref 136) [.int n t]) Q E s := by
  refine enter (d := 0) (u := 17) (name := "_law_told") ["number"] ["number", "which", "capitals", "pairs"] ["chr"] X hroom (get19 (a := 136) rfl rfl rfl) rfl (code136 _ _) (by kernel_rfl!) (by kernel_rfl!) rfl (by kernel_rfl!) (fun A' sc L h₁ tk hA S F => ?_)
  replace F : Fr s.heap L h₁ (lk [("number", .int n t)]) := F
  have N : News s.heap L h₁ [] := News.nil
  repeat' walk1
  have hc : capL.getD q10 0 < 1000000 := by rcases q10 with _|_|_|_|_|_|_|_|_|_|q8 <;> first | (show _ < _; decide) | omega
  refine chr_eq (c := capL.getD q10 0 + p26) ?_ (by omega) ?_
  · rcases q10 with _|_|_|_|_|_|_|_|_|_|q8 <;> first | rfl | omega
  repeat' walk1
  rename_i F1 N1
  refine hQ.use rfl ?_ _ _ _ _ _ F1.keep (N1 _ (.head _)).1
  show (⟨#[((97 : Int) + (p26 : Int)).toNat]⟩ : Str) = ⟨#[97 + p26]⟩
  rw [show ((97 : Int) + (p26 : Int)).toNat = 97 + p26 by omega]
theorem told7 {q8 : Nat} (X : Ex w f s.heap) (hroom : Rm A 1 20) (hn : n < 1000000)
    (h1 : Int.fmod (n : Int) 8 = (r : Int)) (h2 : Int.fdiv (n : Int) 8 = (q : Int)) (hr : r = 7) (h3 : Int.fmod (q : Int) 8 = (q8 : Int)) (h4 : q8 < 8)
    (hQ : ToldQ s ⟨#[(p8L.getD q8 (0, Str.empty)).1]⟩ (p8L.getD q8 (0, Str.empty)).2 Q) : wpAny (model pw w) A (PySem.call (.ref 136) [.int n t]) Q E s := by
  refine enter (d := 0) (u := 17) (name := "_law_told") ["number"] ["number", "which", "capitals", "pairs"] ["chr"] X hroom (get19 (a := 136) rfl rfl rfl) rfl (code136 _ _) (by kernel_rfl!) (by kernel_rfl!) rfl (by kernel_rfl!) (fun A' sc L h₁ tk hA S F => ?_)
  replace F : Fr s.heap L h₁ (lk [("number", .int n t)]) := F
  have N : News s.heap L h₁ [] := News.nil
  repeat' walk1
  refine item_pair (cs := p8L) (by walk_at "ISL") (by walk_at "PA") h4 fun b t u ht => ?_
  repeat' walk1
  refine item_tupleT ht (j := 0) (by decide) (by decide) rfl rfl ?_
  repeat' walk1
  refine chr_of ?_ ?_
  · rcases q8 with _|_|_|_|_|_|_|_|q8 <;> first | (show _ < _; decide) | omega
  repeat' walk1
  refine item_pair (cs := p8L) (by walk_at "ISL") (by walk_at "PA") h4 fun b t u ht => ?_
  repeat' walk1
  refine item_tupleT ht (j := 1) (by decide) (by decide) rfl rfl ?_
  repeat' walk1
  rename_i F1 N1
  exact hQ _ _ _ _ _ F1.keep (N1 _ (.head _)).1
end
end
section
noncomputable def S (l : List Nat) : Str := ⟨l.toArray⟩
theorem S_of (x : Str) : x = S x.cps.toList := by cases x; rfl
theorem S_len (l : List Nat) : (S l).length = l.length := by simp [S, Str.length]
noncomputable def sb (c : Nat) (z : List Nat) (l : List Nat) : List Nat := l.flatMap fun k => if k = c then z else [k]
theorem sb_append (c : Nat) (z a b : List Nat) : sb c z (a ++ b) = sb c z a ++ sb c z b := List.flatMap_append
theorem sb_free (c : Nat) (z : List Nat) : ∀ l : List Nat, c ∉ l → sb c z l = l
  | [], _ => rfl
  | k :: r, h => by
    have h1 : ¬ k = c := fun e => h (e ▸ List.mem_cons_self ..)
    have ih := sb_free c z r fun m => h (List.mem_cons_of_mem _ m)
    show (if k = c then z else [k]) ++ sb c z r = k :: r
    rw [if_neg h1, ih]; rfl
theorem sb_one (c : Nat) (z : List Nat) : sb c z [c] = z := by simp [sb]
theorem sb_join (c : Nat) (z : Str) : ∀ parts : List Str, (∀ p ∈ parts, c ∉ p.cps.toList) → sb c z.cps.toList (Str.join ⟨#[c]⟩ parts).cps.toList = (Str.join z parts).cps.toList
  | [], _ => rfl
  | [p], h => sb_free c _ _ (h p (List.mem_singleton.mpr rfl))
  | p :: q :: r, h => by
    have ih := sb_join c z (q :: r) fun a ha => h a (List.mem_cons_of_mem _ ha)
    show sb c z.cps.toList (p ++ ⟨#[c]⟩ ++ Str.join ⟨#[c]⟩ (q :: r)).cps.toList = (p ++ z ++ Str.join z (q :: r)).cps.toList
    simp only [Str.cps_append, Array.toList_append]
    rw [sb_append, sb_append, ih, sb_free c _ _ (h p (List.mem_cons_self ..))]
    show p.cps.toList ++ sb c z.cps.toList [c] ++ _ = _
    rw [sb_one]
theorem replace_sb (x z : Str) (c : Nat) : Txt.replace x ⟨#[c]⟩ z = S (sb c z.cps.toList x.cps.toList) := by
  rw [S_of (Txt.replace x ⟨#[c]⟩ z), StrLaws.replace_one, ← sb_join c z _ (StrLaws.split_free x c), StrLaws.join_split]
theorem not_found (x : Str) (c : Nat) (h : ¬ (!(Builtin.Str.occurrences x ⟨#[c]⟩ 0 x.length 1).isEmpty) = true) (z : List Nat) : x = S (sb c z x.cps.toList) := by
  rw [StrLaws.found_one] at h
  rw [sb_free c z _ (by simpa using h)]
  exact S_of x
theorem sb_len (c : Nat) (z : List Nat) (n : Nat) (hz : z.length ≤ n) (hn : 1 ≤ n) : ∀ l : List Nat, (sb c z l).length ≤ n * l.length
  | [] => Nat.le_refl _
  | k :: r => by
    have ih := sb_len c z n hz hn r
    show ((if k = c then z else [k]) ++ sb c z r).length ≤ _
    rw [List.length_append, List.length_cons, Nat.mul_succ]
    have : (if k = c then z else [k]).length ≤ n := by split; exact hz; exact hn
    omega
theorem lk_twice {x : Str} {v u : Value} : lk [(x, v), (x, u)] = lk [(x, v)] := by
  funext y
  unfold lk
  by_cases h : y = x
  · rw [if_pos h, if_pos h]
  · rw [if_neg h, if_neg h]; unfold lk; rw [if_neg h]; rfl
/-- what a step of escaping leaves -/
noncomputable def EscR (h₀ : Heap) (L : Addr) (s : Shared) (y : Str) : Flow → Shared → Prop := fun f s' => f = .next ∧ ∃ h' tk t', Fr h₀ L h' (lk [("text", .str y t')]) ∧ News h₀ L h' [] ∧ s' = { s with heap := h', toks := tk }
theorem escYes {h₀ h' : Heap} {L : Addr} {s : Shared} {x y z : Str} {zl : List Nat} {c tk : Nat} {v : Value} {u : Tok} (F : Fr h₀ L h' (lk [("text", .str (Txt.replace x y z) u), ("text", v)])) (N : News h₀ L h' []) (hy : y = ⟨#[c]⟩) (hz : z.cps.toList = zl) :
    EscR h₀ L s (S (sb c zl x.cps.toList)) .next { s with heap := h', toks := tk } := by
  subst hy hz
  rw [replace_sb, lk_twice] at F
  exact ⟨rfl, _, _, _, F, N, rfl⟩
theorem escNo {h₀ h' : Heap} {L : Addr} {s : Shared} {x y : Str} {zl : List Nat} {c tk : Nat} {u : Tok} (F : Fr h₀ L h' (lk [("text", .str x u)])) (N : News h₀ L h' []) (hc : (!(Builtin.Str.occurrences x y 0 x.length 1).isEmpty) = false) (hy : y = ⟨#[c]⟩) :
    EscR h₀ L s (S (sb c zl x.cps.toList)) .next { s with heap := h', toks := tk } := by
  subst hy
  rw [not_found x c (by rw [hc]; exact Bool.false_ne_true) zl] at F
  exact ⟨rfl, _, _, _, F, N, rfl⟩
theorem sb_grow {c : Nat} {z : List Nat} {x y : Str} {n m : Nat} (e : S (sb c z x.cps.toList) = y) (hz : z.length ≤ n) (hn : 1 ≤ n) (hx : x.length ≤ m) : y.length ≤ n * m := by
  subst e
  rw [S_len]
  exact Nat.le_trans (sb_len c z n hz hn _) (Nat.mul_le_mul_left _ (by have : x.cps.toList.length = x.length := by simp [Str.length]
                                                                       omega))
local macro_rules | `(tactic| walk_at "ite") => `(tactic| (refine split_bool ?_ ?_ <;> intro hc))
section
variable {w : World} {f : Nat → Obj} {A : Around} {E : Value → Shared → Prop} {s : Shared} {x : Str} {t : Tok} {Q : Value → Shared → Prop} 
theorem c14n_call (X : Ex w f s.heap) (hroom : Rm A 1 20) (hx : x.length ≤ 50)
    (hQ : ∀ h' tk t', Kp s.heap h' → Q (.str (S (sb 13 [38, 35, 120, 68, 59] (sb 10 [38, 35, 120, 65, 59] (sb 9 [38, 35, 120, 57, 59] (sb 34 [38, 113, 117, 111, 116, 59] (sb 60 [38, 108, 116, 59] (sb 38 [38, 97, 109, 112, 59] x.cps.toList))))))) t') { s with heap := h', toks := tk }) : wpAny (model pw w) A (PySem.call (.ref 52) [.str x t]) Q E s := by
  refine enter (d := 0) (u := 17) (name := "_escape_attrib_c14n") ["text"] ["text"] [] X hroom (get19 (a := 52) rfl rfl rfl) rfl (code52 _ _) (by kernel_rfl!) (by kernel_rfl!) rfl (by kernel_rfl!) (fun A' sc L h₁ tk hA S F => ?_)
  replace F : Fr s.heap L h₁ (lk [("text", .str x t)]) := F
  have N : News s.heap L h₁ [] := News.nil
  walk1
  walk1
  walk1
  refine wpAny_mono (Q := EscR s.heap L s (Mine.S (sb 38 [38, 97, 109, 112, 59] x.cps.toList))) ?_ ?_ fun _ _ x => x
  · repeat' walk1
    · exact escYes (by assumption) (by assumption) (by kernel_rfl!) (by kernel_rfl!)
    · exact escNo (by assumption) (by assumption) (by assumption) (by kernel_rfl!)
  generalize hy0 : Mine.S (sb 38 [38, 97, 109, 112, 59] x.cps.toList) = y0
  have hl0 := sb_grow hy0 (n := 5) (by decide) (by decide) (m := 50) (by assumption)
  rintro _ _ ⟨rfl, h0, tk0, t0, F0, N0, rfl⟩
  walk1
  refine wpAny_mono (Q := EscR s.heap L s (Mine.S (sb 60 [38, 108, 116, 59] y0.cps.toList))) ?_ ?_ fun _ _ x => x
  · repeat' walk1
    · exact escYes (by assumption) (by assumption) (by kernel_rfl!) (by kernel_rfl!)
    · exact escNo (by assumption) (by assumption) (by assumption) (by kernel_rfl!)
  generalize hy1 : Mine.S (sb 60 [38, 108, 116, 59] y0.cps.toList) = y1
  have hl1 := sb_grow hy1 (n := 4) (by decide) (by decide) (m := (5 * 50)) (by assumption)
  rintro _ _ ⟨rfl, h1, tk1, t1, F1, N1, rfl⟩
  walk1
  refine wpAny_mono (Q := EscR s.heap L s (Mine.S (sb 34 [38, 113, 117, 111, 116, 59] y1.cps.toList))) ?_ ?_ fun _ _ x => x
  · repeat' walk1
    · exact escYes (by assumption) (by assumption) (by kernel_rfl!) (by kernel_rfl!)
    · exact escNo (by assumption) (by assumption) (by assumption) (by kernel_rfl!)
  generalize hy2 : Mine.S (sb 34 [38, 113, 117, 111, 116, 59] y1.cps.toList) = y2
  have hl2 := sb_grow hy2 (n := 6) (by decide) (by decide) (m := (4 * (5 * 50))) (by assumption)
  rintro _ _ ⟨rfl, h2, tk2, t2, F2, N2, rfl⟩
  walk1
  refine wpAny_mono (Q := EscR s.heap L s (Mine.S (sb 9 [38, 35, 120, 57, 59] y2.cps.toList))) ?_ ?_ fun _ _ x => x
  · repeat' walk1
    · exact escYes (by assumption) (by assumption) (by kernel_rfl!) (by kernel_rfl!)
    · exact escNo (by assumption) (by assumption) (by assumption) (by kernel_rfl!)
  generalize hy3 : Mine.S (sb 9 [38, 35, 120, 57, 59] y2.cps.toList) = y3
  have hl3 := sb_grow hy3 (n := 5) (by decide) (by decide) (m := (6 * (4 * (5 * 50)))) (by assumption)
  rintro _ _ ⟨rfl, h3, tk3, t3, F3, N3, rfl⟩
  walk1
  refine wpAny_mono (Q := EscR s.heap L s (Mine.S (sb 10 [38, 35, 120, 65, 59] y3.cps.toList))) ?_ ?_ fun _ _ x => x
  · repeat' walk1
    · exact escYes (by assumption) (by assumption) (by kernel_rfl!) (by kernel_rfl!)
    · exact escNo (by assumption) (by assumption) (by assumption) (by kernel_rfl!)
  generalize hy4 : Mine.S (sb 10 [38, 35, 120, 65, 59] y3.cps.toList) = y4
  have hl4 := sb_grow hy4 (n := 5) (by decide) (by decide) (m := (5 * (6 * (4 * (5 * 50))))) (by assumption)
  rintro _ _ ⟨rfl, h4, tk4, t4, F4, N4, rfl⟩
  walk1
  refine wpAny_mono (Q := EscR s.heap L s (Mine.S (sb 13 [38, 35, 120, 68, 59] y4.cps.toList))) ?_ ?_ fun _ _ x => x
  · repeat' walk1
    · exact escYes (by assumption) (by assumption) (by kernel_rfl!) (by kernel_rfl!)
    · exact escNo (by assumption) (by assumption) (by assumption) (by kernel_rfl!)
  generalize hy5 : Mine.S (sb 13 [38, 35, 120, 68, 59] y4.cps.toList) = y5
  have hl5 := sb_grow hy5 (n := 5) (by decide) (by decide) (m := (5 * (5 * (6 * (4 * (5 * 50)))))) (by assumption)
  rintro _ _ ⟨rfl, h5, tk5, t5, F5, N5, rfl⟩
  repeat' walk1
  subst hy0 hy1 hy2 hy3 hy4 hy5
  exact hQ _ _ _ F5.keep
theorem html_call (X : Ex w f s.heap) (hroom : Rm A 1 20) (hx : x.length ≤ 1000)
    (hQ : ∀ h' tk t', Kp s.heap h' → Q (.str (S (sb 34 [38, 113, 117, 111, 116, 59] (sb 62 [38, 103, 116, 59] (sb 38 [38, 97, 109, 112, 59] x.cps.toList)))) t') { s with heap := h', toks := tk }) : wpAny (model pw w) A (PySem.call (.ref 45) [.str x t]) Q E s := by
  refine enter (d := 0) (u := 17) (name := "_escape_attrib_html") ["text"] ["text"] [] X hroom (get19 (a := 45) rfl rfl rfl) rfl (code45 _ _) (by kernel_rfl!) (by kernel_rfl!) rfl (by kernel_rfl!) (fun A' sc L h₁ tk hA S F => ?_)
  replace F : Fr s.heap L h₁ (lk [("text", .str x t)]) := F
  have N : News s.heap L h₁ [] := News.nil
  walk1
  walk1
  walk1
  refine wpAny_mono (Q := EscR s.heap L s (Mine.S (sb 38 [38, 97, 109, 112, 59] x.cps.toList))) ?_ ?_ fun _ _ x => x
  · repeat' walk1
    · exact escYes (by assumption) (by assumption) (by kernel_rfl!) (by kernel_rfl!)
    · exact escNo (by assumption) (by assumption) (by assumption) (by kernel_rfl!)
  generalize hy0 : Mine.S (sb 38 [38, 97, 109, 112, 59] x.cps.toList) = y0
  have hl0 := sb_grow hy0 (n := 5) (by decide) (by decide) (m := 1000) (by assumption)
  rintro _ _ ⟨rfl, h0, tk0, t0, F0, N0, rfl⟩
  walk1
  refine wpAny_mono (Q := EscR s.heap L s (Mine.S (sb 62 [38, 103, 116, 59] y0.cps.toList))) ?_ ?_ fun _ _ x => x
  · repeat' walk1
    · exact escYes (by assumption) (by assumption) (by kernel_rfl!) (by kernel_rfl!)
    · exact escNo (by assumption) (by assumption) (by assumption) (by kernel_rfl!)
  generalize hy1 : Mine.S (sb 62 [38, 103, 116, 59] y0.cps.toList) = y1
  have hl1 := sb_grow hy1 (n := 4) (by decide) (by decide) (m := (5 * 1000)) (by assumption)
  rintro _ _ ⟨rfl, h1, tk1, t1, F1, N1, rfl⟩
  walk1
  refine wpAny_mono (Q := EscR s.heap L s (Mine.S (sb 34 [38, 113, 117, 111, 116, 59] y1.cps.toList))) ?_ ?_ fun _ _ x => x
  · repeat' walk1
    · exact escYes (by assumption) (by assumption) (by kernel_rfl!) (by kernel_rfl!)
    · exact escNo (by assumption) (by assumption) (by assumption) (by kernel_rfl!)
  generalize hy2 : Mine.S (sb 34 [38, 113, 117, 111, 116, 59] y1.cps.toList) = y2
  have hl2 := sb_grow hy2 (n := 6) (by decide) (by decide) (m := (4 * (5 * 1000))) (by assumption)
  rintro _ _ ⟨rfl, h2, tk2, t2, F2, N2, rfl⟩
  repeat' walk1
  subst hy0 hy1 hy2
  exact hQ _ _ _ F2.keep
end
end
section
variable {M : Model} {A : Around} {E : Value → Shared → Prop} {s : Shared} {name : Str} {sc : Scope} {L a : Addr} {cd : Value} {h₀ : Heap} {m : Str → Option Value} {ls gs : List Str} {x : Str} {v : Value}
theorem stG {Q : Unit → Shared → Prop} {news : List (Addr × Obj)} (S : Sc sc ls gs) (F : Fr h₀ L s.heap m) (N : News h₀ L s.heap news) (hl : ls.contains x = true) (h : ∀ h' tk, Fr h₀ L h' (fun y => if y = x then some v else m y) → News h₀ L h' news → Q () { s with heap := h', toks := tk }) : wpAny M A (storeName (envOf name sc L a cd) x v) Q E s :=
  wpAny_storeName_local (S.l x hl) F.ns (fun h' hn hs => h h' _ (F.set hn hs) (N.set hs)) (by show (sc.kind == .class || (sc.kind == .module && L != mainGlobals)) = false; rw [S.k]; rfl)
theorem up_hit {x : Str} {v : Value} {m : Str → Option Value} : (fun y => if y = x then some v else m y) x = some v := if_pos rfl
theorem up_miss {x y : Str} {v u : Value} {m : Str → Option Value} (h : (decide (y = x)) = false) (k : m y = some u) : (fun y => if y = x then some v else m y) y = some u := (if_neg (of_decide_eq_false h)).trans k
end
local macro_rules | `(tactic| walk_at "LK") => `(tactic| first | with_reducible exact lk_hit | with_reducible exact up_hit | with_reducible exact ite_hit | assumption | ((with_reducible apply lk_miss); (· kernel_rfl!); walk_at "LK") | ((with_reducible apply up_miss); (· kernel_rfl!); walk_at "LK") | ((with_reducible apply ite_miss); (· kernel_rfl!); walk_at "LK"))
local macro_rules | `(tactic| walk_at "storeName") => `(tactic| first | (refine stLN (by assumption) (by assumption) (by assumption) (by walk_at "IN") ?_; intro h' tk' F' N') | (refine stG (by assumption) (by assumption) (by assumption) (by walk_at "IN") ?_; intro h' tk' F' N'))
theorem signs_at {x : Str} {i : Nat} {k : Str} (h : (signs x)[i]? = some k) : ∃ c, x.cps.toList[i]? = some c ∧ k = ⟨#[c]⟩ := by
  simp only [signs, List.getElem?_map, Option.map_eq_some_iff] at h
  obtain ⟨c, hc, e⟩ := h
  exact ⟨c, hc, e.symm⟩
theorem take_next {l : List Nat} {i c : Nat} (h : l[i]? = some c) : l.take (i + 1) = l.take i ++ [c] := by
  rw [List.take_add_one, h]; rfl
theorem signs_all {x : Str} : x.cps.toList.take (signs x).length = x.cps.toList := by
  rw [signs_length]; exact List.take_length
theorem beq_lit {c d : Nat} {y : Str} (hy : y = ⟨#[d]⟩) : ((⟨#[c]⟩ : Str) == y) = decide (c = d) := by
  subst hy
  by_cases h : c = d
  · subst h; simp
  · rw [decide_eq_false h]
    refine beq_eq_false_iff_ne.mpr fun e => h ?_
    injection e with e
    simpa using e
noncomputable def oddEnd (l : List Nat) : Bool := l.foldl (fun o c => decide (c = 92) && !o) false
section
variable {w : World} {f : Nat → Obj} {A : Around} {E : Value → Shared → Prop} {s : Shared} {x : Str} {t : Tok} {Q : Value → Shared → Prop} 
theorem odd_call (X : Ex w f s.heap) (hroom : Rm A 1 20) 
    (hQ : ∀ h' tk, Kp s.heap h' → Q (.bool (oddEnd x.cps.toList)) { s with heap := h', toks := tk }) : wpAny (model pw w) A (PySem.call (.ref 160) [.str x t]) Q E s := by
  refine enter (d := 0) (u := 17) (name := "_law_odd_end") ["text"] ["text", "odd", "sign"] [] X hroom (get19 (a := 160) rfl rfl rfl) rfl (code160 _ _) (by kernel_rfl!) (by kernel_rfl!) rfl (by kernel_rfl!) (fun A' sc L h₁ tk hA S F => ?_)
  replace F : Fr s.heap L h₁ (lk [("text", .str x t)]) := F
  have N : News s.heap L h₁ [] := News.nil
  walk1
  walk1
  walk1
  walk1
  walk1
  refine For_inv2 s.heap (S.l _ (by walk_at "IN")) (by show (sc.kind == .class || (sc.kind == .module && L != mainGlobals)) = false; rw [S.k]; rfl) ?_
  walk1
  refine Iter_signs2 hA.2.2 (by assumption) (by assumption) (fun i m news => news = [] ∧ m "odd" = some (.bool (oddEnd (x.cps.toList.take i)))) ⟨rfl, lk_hit⟩ ?_ ?_
  · rintro i k u m₁ news₁ s₁ own hk ⟨rfl, hm⟩ - - F1 N1
    obtain ⟨c, hc, rfl⟩ := signs_at hk
    repeat' walk1
    · refine LoopStep2.intro (by assumption) (by assumption) rfl ⟨rfl, up_hit.trans ?_⟩
      rw [take_next hc]; unfold oddEnd; rw [List.foldl_append]
      rename_i hb _ _ _ _
      rw [beq_lit (d := 92) (by kernel_rfl!)] at hb
      show _ = some (Value.bool (decide (c = 92) && _))
      rw [hb]; rfl
    · refine LoopStep2.intro (by assumption) (by assumption) rfl ⟨rfl, up_hit.trans ?_⟩
      rw [take_next hc]; unfold oddEnd; rw [List.foldl_append]
      rename_i hb _ _ _ _
      rw [hb]
      rw [beq_lit (d := 92) (by kernel_rfl!)] at hb
      show _ = some (Value.bool (decide (c = 92) && _))
      rw [hb]; rfl
  · rintro h' tk' m' news' F' N' - ⟨rfl, hm⟩
    rw [signs_all] at hm
    repeat' walk1
    exact hQ _ _ F'.keep
end
noncomputable def TB (tb : List (Nat × List Nat)) : List (PyData × PyData) := tb.map fun c => (.str ⟨#[c.1]⟩, .str (S c.2))
noncomputable def att (tb : List (Nat × List Nat)) (c : Nat) : List Nat := ((tb.find? fun e => e.1 == c).map (·.2)).getD [c]
theorem look_tb (c : Nat) : ∀ tb : List (Nat × List Nat), PySem.Spec.lookup (.str ⟨#[c]⟩) (TB tb) = ((tb.find? fun e => e.1 == c).map (·.2)).map fun z => PyData.str (S z)
  | [] => rfl
  | (k, z) :: r => by
    rw [List.find?_cons]
    unfold TB
    rw [List.map_cons]
    unfold PySem.Spec.lookup
    have h : PySem.Spec.same (PyData.str ⟨#[k]⟩) (PyData.str ⟨#[c]⟩) = (k == c) := by
      rw [PyProof.V.same_str]
      by_cases h : k = c <;> simp [h]
    dsimp only
    rw [h]
    cases k == c with
    | true => rfl
    | false => exact look_tb c r
theorem att_hit {c : Nat} {tb : List (Nat × List Nat)} (h : (PySem.Spec.lookup (.str ⟨#[c]⟩) (TB tb)).isSome = true) : PySem.Spec.lookup (.str ⟨#[c]⟩) (TB tb) = some (.str (S (att tb c))) := by
  rw [look_tb] at h ⊢
  unfold att
  revert h
  cases (tb.find? fun e => e.1 == c).map (·.2) with
  | none => intro h; cases h
  | some z => intro h; rfl
theorem att_miss {c : Nat} {tb : List (Nat × List Nat)} (h : (PySem.Spec.lookup (.str ⟨#[c]⟩) (TB tb)).isSome = false) : att tb c = [c] := by
  rw [look_tb] at h
  unfold att
  revert h
  cases (tb.find? fun e => e.1 == c).map (·.2) with
  | none => intro h; rfl
  | some z => intro h; cases h
noncomputable def attTb : List (Nat × List Nat) := [(38, [38, 97, 109, 112, 59]), (60, [38, 108, 116, 59]), (34, [38, 113, 117, 111, 116, 59]), (9, [38, 35, 120, 57, 59]), (10, [38, 35, 120, 65, 59]), (13, [38, 35, 120, 68, 59])]
noncomputable def htmTb : List (Nat × List Nat) := [(38, [38, 97, 109, 112, 59]), (62, [38, 103, 116, 59]), (34, [38, 113, 117, 111, 116, 59])]
noncomputable def wr (tb : List (Nat × List Nat)) (l : List Nat) : List Nat := l.flatMap (att tb)
theorem tb_pack {w : World} {h₀ : Heap} {L a : Addr} {o : Obj} {vs : List (Value × Value)} {tb : List (Nat × List Nat)} (hd : o.IsDictOf (PySem.strKind pw w) (strPairs vs)) (hf : PyProof.V.FlatPairs PyData.str (strPairs vs) (strData vs)) (e : strData vs = TB tb) (hm : (a == sysModules) = false) :
    ∀ (h : Heap) news, News h₀ L h news → (a, o) ∈ news → StrTab pw w h a (TB tb) := fun h news N hp => TabAt.ofNews N hp hm hd (e ▸ hf)
theorem att_len (tb : List (Nat × List Nat)) (hb : tb.all (fun e => Nat.ble e.2.length 6) = true) (c : Nat) : (att tb c).length ≤ 6 := by
  unfold att
  cases h : tb.find? fun e => e.1 == c with
  | none => exact (by decide : 1 ≤ 6)
  | some e => exact Nat.le_of_ble_eq_true (List.all_eq_true.mp hb e (List.mem_of_find?_eq_some h))
theorem wr_len (tb : List (Nat × List Nat)) (hb : tb.all (fun e => Nat.ble e.2.length 6) = true) : ∀ l : List Nat, (wr tb l).length ≤ 6 * l.length
  | [] => Nat.le_refl _
  | k :: r => by
    have ih := wr_len tb hb r
    have h := att_len tb hb k
    show (att tb k ++ wr tb r).length ≤ _
    rw [List.length_append, List.length_cons, Nat.mul_succ]
    omega
theorem S_append (a b : List Nat) : S (a ++ b) = S a ++ S b := by
  show (⟨_⟩ : Str) = ⟨_⟩
  congr 1
  exact (List.append_toArray ..).symm
theorem S_one (c : Nat) : (⟨#[c]⟩ : Str) = S [c] := rfl
theorem wr_next (tb : List (Nat × List Nat)) {l : List Nat} {i c : Nat} (h : l[i]? = some c) : S (wr tb (l.take (i + 1))) = S (wr tb (l.take i)) ++ S (att tb c) := by
  rw [take_next h, wr, List.flatMap_append]
  show S (wr tb (l.take i) ++ (att tb c ++ [])) = _
  rw [List.append_nil]
  exact S_append _ _
section
variable {M : Model} {A : Around} {E : Value → Shared → Prop} {s : Shared} {name : Str} {sc : Scope} {L a : Addr} {cd : Value} {h₀ : Heap} {m : Str → Option Value} {ls gs : List Str} {x : Str} {v : Value}
theorem lnL {Q : Value → Shared → Prop} (S : Sc sc ls gs) (F : Fr h₀ L s.heap m) (hl : ls.contains x = true) (hv : m x = some v) (h : Q v s) : wpAny M A (loadName (envOf name sc L a cd) x) Q E s :=
  wpAny_loadName_local S.k (S.l x hl) F.ns hv h
end
local macro_rules | `(tactic| walk_at "loadName") => `(tactic| refine lnL (by assumption) (by assumption) (by walk_at "IN") (by walk_at "LK") ?_)
local macro_rules | `(tactic| walk_at "subscriptTail") => `(tactic| refine item_strTab (by assumption) (att_hit (by assumption)) ?_)
section
variable {w : World} {f : Nat → Obj} {A : Around} {E : Value → Shared → Prop} {s : Shared} {x : Str} {t : Tok} {Q : Value → Shared → Prop} 
theorem attr_call (X : Ex w f s.heap) (hroom : Rm A 1 20) (hx : x.length ≤ 1000)
    (hQ : ∀ h' tk t', Kp s.heap h' → Q (.str (S (wr attTb x.cps.toList)) t') { s with heap := h', toks := tk }) : wpAny (model pw w) A (PySem.call (.ref 143) [.str x t]) Q E s := by
  refine enter (d := 0) (u := 17) (name := "_law_attribute") ["text"] ["text", "names", "written", "sign"] [] X hroom (get19 (a := 143) rfl rfl rfl) rfl (code143 _ _) (by kernel_rfl!) (by kernel_rfl!) rfl (by kernel_rfl!) (fun A' sc L h₁ tk hA S F => ?_)
  replace F : Fr s.heap L h₁ (lk [("text", .str x t)]) := F
  have N : News s.heap L h₁ [] := News.nil
  have lim : s.heap.NoLimit := X.limit
  repeat' walk1
  rename_i h2 o F2 N2 hm hd hf hap h3 tk3 F3 N3 h4 tk4 F4 N4
  have T := tb_pack (h₀ := s.heap) (L := L) (tb := attTb) hd hf (by kernel_rfl!) hm
  clear hf hd F2 N2 F3 N3 hap
  change News s.heap L h4 [(h₁.objs.size, o)] at N4
  change Fr s.heap L h4 (lk [("written", .str _ _), ("names", .ref h₁.objs.size), ("text", .str x t)]) at F4
  generalize h₁.objs.size = D at *
  refine For_inv2 s.heap (S.l _ (by walk_at "IN")) (by show (sc.kind == .class || (sc.kind == .module && L != mainGlobals)) = false; rw [S.k]; rfl) ?_
  walk1
  refine Iter_signs2 hA.2.2 (by assumption) N4 (fun i m news => news = [(D, o)] ∧ m "names" = some (.ref D) ∧ ∃ u, m "written" = some (.str (Mine.S (wr attTb (x.cps.toList.take i))) u)) ⟨rfl, lk_miss (by kernel_rfl!) lk_hit, _, lk_hit⟩ ?_ ?_
  · rintro i k u m₁ news₁ s₁ own hk ⟨rfl, hm1, u1, hm2⟩ - - F1 N1
    obtain ⟨c, hc, rfl⟩ := signs_at hk
    have l1 : (wr attTb (x.cps.toList.take i)).length ≤ 6 * 1000 := by
      have h1 := wr_len attTb (by kernel_rfl!) (x.cps.toList.take i)
      have h2 : (x.cps.toList.take i).length ≤ x.cps.toList.length := List.length_take_le' ..
      have h3 : x.cps.toList.length = x.length := rfl
      omega
    have l2 := att_len attTb (by kernel_rfl!) c
    have T1 := T _ _ N1 (List.mem_append_right _ (.head _))
    repeat' walk1
    · rename_i v hv
      obtain ⟨u', e, _⟩ := reads_str_inv (hv {})
      subst e
      refine iadd_str (fun t' tk => ?_) (by rw [S_len, S_len]; show _ ≤ 16777216; omega)
      rw [← wr_next attTb hc]
      repeat' walk1
      rename_i F2 N2
      exact LoopStep2.intro F2 N2 rfl ⟨rfl, by walk_at "LK", _, by walk_at "LK"⟩
    · rename_i hv
      have e := att_miss hv
      refine iadd_str (fun t' tk => ?_) (by rw [S_len]; show _ + 1 ≤ 16777216; omega)
      rw [S_one, ← e, ← wr_next attTb hc]
      repeat' walk1
      rename_i F2 N2
      exact LoopStep2.intro F2 N2 rfl ⟨rfl, by walk_at "LK", _, by walk_at "LK"⟩
  · rintro h' tk' m' news' F' N' - ⟨rfl, hm1, u1, hm2⟩
    rw [signs_all] at hm2
    repeat' walk1
    exact hQ _ _ _ F'.keep
end
section
variable {w : World} {f : Nat → Obj} {A : Around} {E : Value → Shared → Prop} {s : Shared} {x : Str} {t : Tok} {Q : Value → Shared → Prop} 
noncomputable def cnt (c : Nat) (l : List Nat) : Nat := (l.filter fun k => k == c).length
theorem Keeps.toks (s : Shared) (tk : Nat) : Keeps s { s with toks := tk } := ⟨_, _, rfl, fun _ _ e => e⟩
theorem cnt_lt {x : Str} {p : Str → Bool} (hx : x.length ≤ 1000000) : (((signs x).filter p).length : Int) < 2 ^ 63 := by
  have h1 := List.length_filter_le p (signs x)
  rw [signs_length] at h1
  omega
theorem cnt_signs {x y : Str} {c : Nat} (hy : y = ⟨#[c]⟩) : ((signs x).filter fun a => a == y).length = cnt c x.cps.toList := by
  unfold signs cnt
  rw [List.filter_map, List.length_map]
  congr 2
  funext k
  show ((⟨#[k]⟩ : Str) == y) = (k == c)
  rw [beq_lit hy]
  by_cases h : k = c <;> simp [h]
theorem more_call (X : Ex w f s.heap) (hroom : Rm A 1 20) (hx : x.length ≤ 1000000)
    (hQ : ∀ h' tk t', Kp s.heap h' → Q (.int ((cnt 40 x.cps.toList : Int) - (cnt 41 x.cps.toList : Int)) t') { s with heap := h', toks := tk }) : wpAny (model pw w) A (PySem.call (.ref 153) [.str x t]) Q E s := by
  refine enter (d := 0) (u := 17) (name := "_law_more") ["text"] ["text"] ["len"] X hroom (get19 (a := 153) rfl rfl rfl) rfl (code153 _ _) (by kernel_rfl!) (by kernel_rfl!) rfl (by kernel_rfl!) (fun A' sc L h₁ tk hA S F => ?_)
  replace F : Fr s.heap L h₁ (lk [("text", .str x t)]) := F
  have N : News s.heap L h₁ [] := News.nil
  have lim : s.heap.NoLimit := X.limit
  repeat' walk1
  refine srcC_signsD (pz := fun a => a == "(") (d := fun a => PyData.str a) hA.2.2 (by assumption) (by assumption) ?_ ?_ ?_ (by show _ ≤ 16777216; omega)
  · intro C a v s₂ m₂ E' hi hn hm _
    obtain ⟨u, rfl⟩ := hi
    repeat' walk1
    exact Keeps.toks _ _
  · intro C a v s₂ m₂ E' hi hp hn hm _
    obtain ⟨u, rfl⟩ := hi
    repeat' walk1
    · exact Carried.str _ _
    · exact ⟨_, _, rfl, fun _ _ e => e⟩
  intro D1 ys1 h1 tk1 F1 N1 hnew1 hl1 hpl1 hc1
  repeat' walk1
  refine len_list hl1 (by rw [List.size_toArray, CarriedAll.len hc1, List.length_map]; exact cnt_lt hx) ?_
  repeat' walk1
  refine srcC_signsD (pz := fun a => a == ")") (d := fun a => PyData.str a) hA.2.2 (by assumption) (by assumption) ?_ ?_ ?_ (by show _ ≤ 16777216; omega)
  · intro C a v s₂ m₂ E' hi hn hm _
    obtain ⟨u, rfl⟩ := hi
    repeat' walk1
    exact Keeps.toks _ _
  · intro C a v s₂ m₂ E' hi hp hn hm _
    obtain ⟨u, rfl⟩ := hi
    repeat' walk1
    · exact Carried.str _ _
    · exact ⟨_, _, rfl, fun _ _ e => e⟩
  intro D2 ys2 h2 tk2 F2 N2 hnew2 hl2 hpl2 hc2
  repeat' walk1
  refine len_list hl2 (by rw [List.size_toArray, CarriedAll.len hc2, List.length_map]; exact cnt_lt hx) ?_
  repeat' walk1
  have e1 : (ys1.toArray.size : Int) = cnt 40 x.cps.toList := by rw [List.size_toArray, CarriedAll.len hc1, List.length_map, cnt_signs (c := 40) (by kernel_rfl!)]
  have e2 : (ys2.toArray.size : Int) = cnt 41 x.cps.toList := by rw [List.size_toArray, CarriedAll.len hc2, List.length_map, cnt_signs (c := 41) (by kernel_rfl!)]
  rw [e1, e2]
  exact hQ _ _ _ F2.keep
end
section
/-- a sign and what is written for it -/
noncomputable def AnR (v y : Value) : Prop := ∃ c u u', v = .str ⟨#[c]⟩ u ∧ y = .str (S (att htmTb c)) u'
theorem cl_one {x : Str} {c : Addr} : List.lookup x [(x, c)] = some c := by simp
local macro_rules | `(tactic| walk_at "eval Name") => `(tactic| first | (refine ldVarK (by assumption) (by with_reducible assumption) ?_ (by kernel_rfl!) (by kernel_rfl!) (by kernel_rfl!)) | (refine ldCellK (by walk_at "CL") (by with_reducible assumption) ?_ (by kernel_rfl!) (by kernel_rfl!) (by kernel_rfl!)))
local macro_rules | `(tactic| walk_at "CL") => `(tactic| with_reducible exact cl_one)
theorem codeKp {w : World} {f : Nat → Obj} {h : Heap} {cd : Value} {name : Str} (hcd : (h19 w.params f).CodeRec cd name) (X : Ex w f h) : h.CodeRec cd name := by
  obtain ⟨c, oc, vs, t, h1, h2, h3, h4⟩ := hcd
  exact ⟨c, oc, vs, t, h1, X _ _ h2, h3, h4⟩
theorem enterC {w : World} {f : Nat → Obj} {A : Around} {E : Value → Shared → Prop} {s : Shared} {a : Addr} {o : Obj} {name : Str} {params : Arguments} {body : List Stmt} {scope : Scope} {pm cd : Value} {args : List Value} {Q : Value → Shared → Prop} {d u : Nat}
    (ps : List Str) (c0 : Str) (X : Ex w f s.heap) (hroom : Rm A (d + 1) (u + 3)) (ho : (h19 w.params f).get? a = some o) (hdata : o.data = .func (docDef name params body scope pm cd .none)) (hcd : (h19 w.params f).CodeRec cd name)
    (hbind : bindArgs (docDef name params body scope pm cd .none) ⟨args, []⟩ = pure (ps.zip args))
    (hc0 : ∀ n, cellsFrom n scope.names [] = [(c0, n)]) (hlk : ps.all (fun x => decide (scope.names.lookup x = some .local)) = true)
    (hL : ∀ L, bindL (envOfC name scope L a cd).kindOf (ps.zip args) (fun _ => none) = lk (ps.zip args).reverse) (hC : ∀ L, bindC (envOfC name scope L a cd).kindOf (ps.zip args) (fun _ => none) c0 = none)
    (hk : scope.isCoroutine = false ∧ scope.isGenerator = false ∧ scope.kind = .function)
    (h : ∀ (A' : Around) (L : Addr) (h₁ : Heap) (tk : Nat) (oc : Obj), Rm A' d u → L = s.heap.objs.size → Fr s.heap L h₁ (lk (ps.zip args).reverse) → News s.heap L h₁ [(L + 1, oc)] → oc.data = .cell none →
      wpAny (model pw w) A' (execs body (envOfC name scope L a cd)) (fun f s' => Q (retV f) s') (fun _ _ => False) { s with heap := h₁, toks := tk }) :
    wpAny (model pw w) A (PySem.call (.ref a) args) Q E s := by
  refine wpAny_call (call_cellsN_ret (by have := hroom.1; omega) (X _ _ ho) hdata X.limit (codeKp hcd X) hbind ?_ ?_ (fun h₁ tk cells F N C => ?_) hk.1 hk.2.1 hk.2.2)
  · intro x hx
    exact .inl (of_decide_eq_true (List.all_eq_true.mp hlk _ (List.of_mem_zip (a := x.1) (b := x.2) hx).1))
  · rw [hc0]; exact List.nodup_cons.mpr ⟨List.not_mem_nil, List.nodup_nil⟩
  rw [hL] at F
  rw [hc0] at C
  obtain ⟨oc, rfl, hoc⟩ := C.one
  rw [hC] at hoc
  refine wpAny_mono (h (A.deeper _) _ h₁ _ oc ⟨?_, ?_, hroom.2.2⟩ rfl F N hoc) (fun f s' q => ?_) fun _ _ x => x
  · have := hroom.1; show A.depth + 1 + d < recursionLimit; omega
  · have := hroom.2.1; show A.units + 3 + u < cLine; omega
  · cases f <;> exact q
theorem filter_yes {α : Type} (l : List α) : l.filter (fun _ => true) = l := List.filter_eq_self.mpr fun _ _ => rfl
theorem anew_strs : ∀ {vs ys : List Value} {cs : List Nat}, AreOf .str vs (cs.map fun n => (⟨#[n]⟩ : Str)) → Paired AnR vs ys → StrsAre ys (cs.map fun c => S (att htmTb c)) := by
  intro vs ys cs h p
  induction p generalizing cs with
  | nil => cases cs with
    | nil => exact .nil
    | cons c r => cases h
  | cons hf _ ih => cases cs with
    | nil => cases h
    | cons c r =>
      obtain ⟨c', u, u', rfl, rfl⟩ := hf
      cases h with
      | cons h1 h2 =>
        obtain ⟨u2, e⟩ := h1
        injection e with e1 _
        injection e1 with e1
        have e2 : c' = c := by simpa using e1
        subst e2
        exact .cons _ _ (ih h2)
theorem sum_wr (tb : List (Nat × List Nat)) : ∀ l : List Nat, ((l.map fun c => S (att tb c)).map (·.length)).sum = (wr tb l).length
  | [] => rfl
  | c :: r => by
    show (S (att tb c)).length + _ = (att tb c ++ wr tb r).length
    rw [S_len, List.length_append, ← sum_wr tb r]; rfl
theorem join_wr (tb : List (Nat × List Nat)) : ∀ l : List Nat, Txt.join "" (l.map fun c => S (att tb c)) = S (wr tb l) := by
  intro l
  unfold Txt.join
  rw [StrLaws.glued_eq_join, show ("" : Str) = ⟨#[]⟩ by kernel_rfl!]
  induction l with
  | nil => rfl
  | cons c r ih =>
    rw [List.map_cons, join_nil_cons, ih]
    exact (S_append _ _).symm
section
variable {w : World} {f : Nat → Obj} {A : Around} {E : Value → Shared → Prop} {s : Shared} {x : Str} {t : Tok} {Q : Value → Shared → Prop} 
theorem anew_call (X : Ex w f s.heap) (hroom : Rm A 1 20) (hx : x.length ≤ 1000)
    (hQ : ∀ h' tk t', Kp s.heap h' → Q (.str (S (wr htmTb x.cps.toList)) t') { s with heap := h', toks := tk }) : wpAny (model pw w) A (PySem.call (.ref 148) [.str x t]) Q E s := by
  refine enterC (d := 0) (u := 17) (name := "_law_anew") ["text"] "names" X hroom (get19 (a := 148) rfl rfl rfl) rfl (code148 _ _) rfl (fun n => by kernel_rfl!) (by kernel_rfl!) (fun L => by kernel_rfl!) (fun L => by kernel_rfl!) ⟨by kernel_rfl!, by kernel_rfl!, by kernel_rfl!⟩ (fun A' L h₁ tk oc hA hL F N hoc => ?_)
  replace F : Fr s.heap L h₁ (lk [("text", .str x t)]) := F
  have lim : s.heap.NoLimit := X.limit
  repeat' walk1
  rename_i h2 o F2 N2 hm hd hf hap
  have T := tb_pack (h₀ := s.heap) (L := L) (tb := htmTb) hd hf (by kernel_rfl!) hm
  clear hf hd
  change News s.heap L h2 [(h₁.objs.size, o), (L + 1, oc)] at N2
  change ∀ p ∈ [(L + 1, oc)], p.1 ≠ h₁.objs.size at hap
  show wpAny _ _ (storeName _ _ (Value.ref h₁.objs.size)) _ _ _
  have hap' := hap _ (.head _)
  generalize h₁.objs.size = D at *
  refine stCN (own := [(D, o)]) (rest := []) (v₀ := none) F2 N2 (by kernel_rfl!) hoc (fun p hp => by rw [List.mem_singleton.mp hp]; exact fun e => hap' e.symm) (fun p hp => nomatch hp) (fun h3 o3 F3 N3 ho3 => ?_) (by kernel_rfl!) (by kernel_rfl!)
  clear F2 N2 F N
  repeat' walk1
  refine wpAny_ListComp_free (fun _ => true) AnR (cl := [(("names" : Str), L + 1)]) (by kernel_rfl!) (by decide) rfl (by decide) (by kernel_rfl!) ?_
  refine wpAny_Name (wpAny_loadName_local (by kernel_rfl!) (by kernel_rfl!) F3.ns (by walk_at "LK") ?_) (by kernel_rfl!)
  refine wpAny_pyIter_str fun ob St W hst => ?_
  refine ⟨_, _, _, x.cps.size, SignAt x, St, rfl, W A' hA.2.2, ?_, hst, ?_, ⟨?_, ?_⟩, ?_⟩
  · show x.length ≤ 16777216; omega
  · intro b hb
    rw [List.mem_singleton.mp hb]
    show h3.objs.size < (h3.push ob).objs.size
    rw [Heap.size_push]; exact Nat.lt_succ_self _
  · intro C i v s₃ m₃ E' _ hP hn hm' hk _
    rw [List.forIn_nil]
    exact wpAny_pure ⟨rfl, Keeps.toks s₃ s₃.toks⟩
  · intro C i v s₃ m₃ E' _ hP _ hn hm' hk _
    obtain ⟨c, u, _, rfl⟩ := hP
    have N4 := News.kp N3 (h' := s₃.heap) fun b o e => hk b o (old_not_new e) (Heap.get?_push_of_some _ e)
    have T1 := T _ _ N4 (.head _)
    have hcl : s₃.heap.IsCell (L + 1) (some (.ref D)) := ⟨o3, (N4 _ (.tail _ (.head _))).1, ho3⟩
    repeat' walk1
    · rename_i v hv
      obtain ⟨u', e, _⟩ := reads_str_inv (hv {})
      subst e
      exact ⟨c, u, u', rfl, rfl⟩
    · exact Keeps.toks _ _
    · rename_i hv
      exact ⟨c, u, u, rfl, by rw [att_miss hv]; rfl⟩
    · exact Keeps.toks _ _
  · intro D2 h4 tk4 ys vs hnew hl hpl hlen hP hF hk
    have up : Kp h3 h4 := fun b o e => hk b o (old_not_new e) (Heap.get?_push_of_some _ e)
    have F5 := Fr.kp F3 up
    have hst2 : StrsAre ys.toList (x.cps.toList.map fun c => S (att htmTb c)) := by
      refine anew_strs (vs := vs) (areOf_signs hlen hP) ?_
      rw [← filter_yes vs]; exact hF
    repeat' walk1
    refine join_list (by exact hl) hst2 ?_ fun t' k => ?_
    · have h1 := wr_len htmTb (by kernel_rfl!) x.cps.toList
      have h2 : x.cps.toList.length = x.length := rfl
      rw [sum_wr, List.length_map]
      show _ + _ * 0 ≤ _
      omega
    rw [join_wr]
    exact hQ _ _ _ F5.keep
end
end
theorem Rm.le {A : Around} {d u d' u' : Nat} (h : Rm A d u) (h1 : d' ≤ d) (h2 : u' ≤ u) : Rm A d' u' := ⟨by have := h.1; omega, by have := h.2.1; omega, h.2.2⟩
theorem strs_at {vs : List Value} {ys : List Str} (h : StrsAre vs ys) : ∀ k, k < ys.length → ∃ y t, vs[k]? = some (.str y t) ∧ ys[k]? = some y := by
  induction h with
  | nil => intro k hk; exact absurd hk (Nat.not_lt_zero k)
  | cons y t _ ih =>
    intro k hk
    cases k with
    | zero => exact ⟨y, t, rfl, rfl⟩
    | succ k => exact ih k (Nat.lt_of_succ_lt_succ hk)
theorem strs_len {vs : List Value} {ys : List Str} (h : StrsAre vs ys) : vs.length = ys.length := by
  induction h with
  | nil => rfl
  | cons y t _ ih => rw [List.length_cons, List.length_cons, ih]
theorem strs_mem {vs : List Value} {ys : List Str} (h : StrsAre vs ys) : ∀ v ∈ vs, ∃ y t, v = .str y t ∧ y ∈ ys := by
  induction h with
  | nil => intro v hv; cases hv
  | cons y t _ ih =>
    intro v hv
    rcases List.mem_cons.mp hv with rfl | hv
    · exact ⟨y, t, rfl, .head _⟩
    · obtain ⟨z, u, e, hz⟩ := ih v hv
      exact ⟨z, u, e, .tail _ hz⟩
theorem strs_take {vs : List Value} {ys : List Str} (h : StrsAre vs ys) : ∀ k, StrsAre (vs.take k) (ys.take k) := by
  induction h with
  | nil => intro k; rw [List.take_nil, List.take_nil]; exact .nil
  | cons y t _ ih => intro k; cases k with
    | zero => exact .nil
    | succ k => exact .cons y t (ih k)
theorem strs_drop {vs : List Value} {ys : List Str} (h : StrsAre vs ys) : ∀ k, StrsAre (vs.drop k) (ys.drop k) := by
  induction h with
  | nil => intro k; rw [List.drop_nil, List.drop_nil]; exact .nil
  | cons y t h ih => intro k; cases k with
    | zero => exact .cons y t h
    | succ k => exact ih k
theorem strs_app {vs ws : List Value} {ys zs : List Str} (h : StrsAre vs ys) (g : StrsAre ws zs) : StrsAre (vs ++ ws) (ys ++ zs) := by
  induction h with
  | nil => exact g
  | cons y t _ ih => exact .cons y t ih
noncomputable def more (x : Str) : Int := (cnt 40 x.cps.toList : Int) - (cnt 41 x.cps.toList : Int)
noncomputable def fstBad (vals : List Str) : Nat := (vals.takeWhile fun v => !oddEnd v.cps.toList).length
noncomputable def last1 (l : List Str) : List Str := l.drop (l.length - 1)
noncomputable def counted (vals pads : List Str) : Int :=
  if fstBad vals = vals.length then (pads.map more).sum
  else ((pads.take (fstBad vals + 1) ++ last1 pads ++ vals.drop (fstBad vals + 1) ++ (if fstBad vals = vals.length - 1 then last1 vals else [])).map more).sum
noncomputable def isFn (P : Params) (f : Nat → Obj) (a : Nat) : Bool := Nat.blt a 171 && (match (tr19 P f).get a with | some o => (match o.data with | .func _ => !o.isFreed | _ => false) | none => false)
theorem isFn.at {P : Params} {f : Nat → Obj} {a : Nat} (h : isFn P f a = true) : ∃ o fd, (h19 P f).get? a = some o ∧ o.data = .func fd := by
  unfold isFn at h
  obtain ⟨h1, h2⟩ := Bool.and_eq_true_iff.mp h
  cases e : (tr19 P f).get a with
  | none => rw [e] at h2; cases h2
  | some o =>
    rw [e] at h2
    dsimp only at h2
    cases e2 : o.data with
    | func fd =>
      rw [e2] at h2
      exact ⟨o, fd, get19 h1 e (by simpa using h2), e2⟩
    | _ => rw [e2] at h2; cases h2
theorem callF {w : World} {f : Nat → Obj} {A : Around} {E : Value → Shared → Prop} {s : Shared} {env : Env} {pos : Pos} {a : Addr} {e : Expr} {rest : List Expr} {Q : Value → Shared → Prop} {h₀ : Heap} (_X : Ex w f h₀) (hfn : isFn w.params f a = true)
    (h : wpAny (model pw w) A (spliced (backTo pos (starEach (e :: rest) env))) (fun vs s₁ => Ex w f s₁.heap ∧ wpAny (model pw w) A (PySem.call (.ref a) vs) Q E s₁) E s)
    (he : starEach (e :: rest) env = (false, eval e env) :: starEach rest env := by rfl) :
    wpAny (model pw w) A (callWith pos (.ref a) [] (backTo pos (starEach (e :: rest) env)) []) Q E s := by
  obtain ⟨o, fd, ho, hdat⟩ := isFn.at hfn
  exact callWith_def hdat (wpAny_mono h (fun _ _ h => ⟨h.1 _ _ ho, h.2⟩) fun _ _ x => x) he
local macro_rules | `(tactic| walk_at "callWith ref") => `(tactic| refine callF (by assumption) (by kernel_rfl!) ?_)
local macro_rules | `(tactic| walk_at "Ex") => `(tactic| walk_at "EX")
theorem fst_le (vals : List Str) : fstBad vals ≤ vals.length := by
  unfold fstBad
  exact (List.takeWhile_sublist _).length_le
theorem fst_eq : ∀ (vals : List Str) (k : Nat), (∀ y ∈ vals.take k, oddEnd y.cps.toList = false) → (k = vals.length ∨ (k < vals.length ∧ oddEnd (vals.getD k Str.empty).cps.toList = true)) → fstBad vals = k
  | [], k, _, h => by rcases h with h | h; exact h.symm; exact absurd h.1 (Nat.not_lt_zero k)
  | y :: r, 0, _, h => by
    rcases h with h | h
    · cases h
    · have h : oddEnd y.cps.toList = true := h.2
      unfold fstBad
      rw [List.takeWhile_cons, h]; rfl
  | y :: r, k + 1, h, g => by
    have h0 := h y (by rw [List.take_succ_cons]; exact .head _)
    have ih := fst_eq r k (fun z hz => h z (by rw [List.take_succ_cons]; exact .tail _ hz)) (by
      rcases g with g | g
      · exact .inl (Nat.succ.inj g)
      · exact .inr ⟨Nat.lt_of_succ_lt_succ g.1, g.2⟩)
    unfold fstBad at ih ⊢
    rw [List.takeWhile_cons, h0]
    show (List.takeWhile _ r).length + 1 = k + 1
    rw [ih]
/-- what the search leaves -/
noncomputable def CntR (h₀ : Heap) (L : Addr) (s : Shared) (va sa : Addr) (k : Nat) : Flow → Shared → Prop := fun f s' => f = .next ∧ ∃ h' tk m, Fr h₀ L h' m ∧ News h₀ L h' [] ∧ m "values" = some (.ref va) ∧ m "stretches" = some (.ref sa) ∧ (∃ u, m "first" = some (.int (k : Int) u)) ∧ s' = { s with heap := h', toks := tk }
section
variable {prog : Program} {w : World} {A : Around} {E : Value → Shared → Prop} {s s₁ : Shared} {h₀ : Heap} {L : Addr} {m : Str → Option Value} {news : List (Addr × Obj)}
theorem sliceL {value slice : Expr} {l : Addr} {vs ws : List Value} {vl vu : Value} {lo hi : Option Int} {Q : Value → Shared → Prop}
    (F : Fr h₀ L s.heap m) (N : News h₀ L s.heap news) (hl : s.heap.IsList l vs.toArray) (pl : IsPart vl lo) (pu : IsPart vu hi) (e : slicePick vs.toArray lo hi none = ws.toArray) (hsz : vs.toArray.size ≤ sizeLine)
    (h : ∀ h', Fr h₀ L h' m → News h₀ L h' ((s.heap.objs.size + 1, { cls := .type "list", data := .seq ws.toArray }) :: news) → Q (.ref (s.heap.objs.size + 1)) { s with heap := h' })
    (hs : subscripted slice false (.ref l) (.ref s.heap.objs.size) = operate [.ref s.heap.objs.size, .ref l] (getItem (.ref l) (.ref s.heap.objs.size)) := by with_unfolding_all rfl)
    (ht : ∀ r, letTemporaryGo value (.ref l) r = pure () := by intro _; with_unfolding_all rfl) :
    wpAny (model prog w) A (subscriptTail value slice (.ref l) (.ref s.heap.objs.size)) Q E { s with heap := s.heap.push { cls := .type "slice", data := .fields #[vl, vu, .none] } } :=
  slice_list F N hl pl pu (fun h' F' N' => h h' F' (e ▸ N')) hs ht hsz
theorem sizeLine_eq : sizeLine = 16777216 := rfl
theorem slu {vs : List Value} {i : Int} (h : 0 ≤ i) : slicePick vs.toArray none (some i) none = (vs.take i.toNat).toArray := by
  have e := slicePick_upto' vs.toArray i.toNat
  rw [Int.toNat_of_nonneg h] at e
  exact e
theorem slf {vs : List Value} {i : Int} (h : 0 ≤ i) : slicePick vs.toArray (some i) none none = (vs.drop i.toNat).toArray := by
  have e := slicePick_from' vs.toArray i.toNat
  rw [Int.toNat_of_nonneg h] at e
  exact e
theorem sll {vs : List Value} : slicePick vs.toArray (some (-1)) none none = (vs.drop (vs.length - 1)).toArray :=
  slicePick_last vs.toArray 1 (Nat.le_refl 1)
/-- a comprehension over a list, no tests -/
theorem srcK {env : Env} {elt : Expr} {x : Str} {scope : Scope} {Q : Value → Shared → Prop} {l : Addr} {vs : List Value} (G : Value → Value → Prop) (hh : A.handled = none) (hl : s₁.heap.IsList l vs.toArray) (hsz : vs.toArray.size ≤ sizeLine)
    (g2 : ∀ C v s₂ m₂ E', v ∈ vs → s₂.heap.Ns (compEnv scope C env).locals m₂ → m₂ x = some v → Kp s₁.heap s₂.heap → wpAny (model prog w) A (eval elt (compEnv scope C env)) (fun r s₃ => G v r ∧ Keeps s₂ s₃) E' s₂)
    (g3 : ∀ D ys h' tk, Kp s₁.heap h' → s₁.heap.get? D = none → h'.IsList D ys → Paired G vs ys.toList → Q (.ref D) { s₁ with heap := h', toks := tk }) :
    wpAny (model prog w) A (pyIter (.ref l)) (CompPost prog w A env scope x [] elt Q) E s₁ := by
  unfold CompPost
  have hlt : l < s₁.heap.objs.size := by obtain ⟨_, e, _⟩ := hl; exact Heap.lt_size e
  have up : ∀ (h' : Heap), (∀ b o, b ∉ [s₁.heap.objs.size] → (s₁.heap.push { cls := .type "list_iterator", data := .fields #[.ref l, .int 0 0] }).get? b = some o → h'.get? b = some o) → Kp s₁.heap h' :=
    fun h' hk b o e => hk b o (old_not_new e) (Heap.get?_push_of_some _ e)
  refine wpAny_pyIter_list hl ⟨fun _ => true, G, s₁.heap.objs.size, [s₁.heap.objs.size, l], [s₁.heap.objs.size], vs.toArray.size, _, _, rfl, Walks.list hh _ _ (Nat.ne_of_lt hlt) vs.toArray, hsz, ⟨⟨_, Heap.get?_push_size _ rfl, rfl, rfl⟩, hl.push _⟩, ?_, ⟨?_, ?_⟩, ?_⟩
  · intro b hb
    show b < (s₁.heap.push _).objs.size
    rw [Heap.size_push]
    rcases List.mem_cons.mp hb with rfl | hb
    · exact Nat.lt_succ_self _
    · rw [List.mem_singleton.mp hb]; exact Nat.lt_succ_of_lt hlt
  · intro C i v s₃ m₃ E' hP hn hm hk _
    rw [List.forIn_nil]
    exact wpAny_pure ⟨rfl, Keeps.toks s₃ s₃.toks⟩
  · intro C i v s₃ m₃ E' hP _ hn hm hk _
    exact g2 C v s₃ m₃ E' (by simpa using Array.mem_of_getElem? hP) hn hm (up _ hk)
  · intro D h' tk ys vs' hnew hlD _ hlen hP hF hk
    have e : vs' = vs := by simpa using list_of_places hlen hP
    subst e
    rw [filter_yes] at hF
    refine g3 D ys h' tk (up _ hk) ?_ hlD hF
    cases e : s₁.heap.get? D with
    | none => rfl
    | some o' => rw [Heap.get?_push_of_some _ e] at hnew; cases hnew
theorem sumK {l : Addr} {ys : Array Value} {ns : List Int} {Q : Value → Shared → Prop} (hh : A.handled = none) (hl : s.heap.IsList l ys) (hi : IntsAre ys.toList ns)
    (h : ∀ h' tk t', Kp s.heap h' → Q (.int ns.sum t') { s with heap := h', toks := tk }) : wpAny (model prog w) A (PySem.call (.builtin "sum") [.ref l]) Q E s := by
  have hall := hi.allInts
  have hl' : s.heap.IsList l ys.toList.toArray := by rw [Array.toArray_toList]; exact hl
  obtain ⟨xs, hxs⟩ := hall.items
  rw [hxs] at hl'
  refine sum_intListG hh hl' fun h' tk t' hk => ?_
  have e : preSum (numAt xs) xs.size = ns.sum := by
    have e1 := hi.numsOf
    rw [show ys.toList = ys.toList.toArray.toList from rfl, hxs, nums_intItems] at e1
    rw [preSum_eq, List.take_of_length_le (by simp), e1]
  rw [e]
  exact h h' tk t' hk
end
theorem ldGC {w : World} {f : Nat → Obj} {A : Around} {E : Value → Shared → Prop} {s : Shared} {scope : Scope} {C : Addr} {env : Env} {x : Str} {pos : Pos} {v : Value} {Q : Value → Shared → Prop} (X : Ex w f s.heap) (hk : scope.kind = .function) (hx : scope.names.lookup x = some .globalImplicit) (hg : env.globals = mainGlobals) (hd : (x == ("__debug__" : Str)) = false) (hv : mg w f x = some v) (h : Q v s) :
    wpAny (model pw w) A (eval (.Name x pos) (compEnv scope C env)) Q E s :=
  Name_function_global (env := compEnv scope C env) hk hx (loadGlobal_global (env := compEnv scope C env) (show s.heap.Ns env.globals (mg w f) from hg ▸ X.g) hv h) hd
theorem more_ints : ∀ {vs ys : List Value} {zs : List Str}, StrsAre vs zs → Paired (fun v r => ∃ y t u, v = .str y t ∧ r = .int (more y) u) vs ys → IntsAre ys (zs.map more) := by
  intro vs ys zs h p
  induction p generalizing zs with
  | nil => cases h; exact .nil
  | cons hf _ ih => cases h with
    | cons y t h2 =>
      obtain ⟨y', t', u, e1, rfl⟩ := hf
      injection e1 with e1 _
      subst e1
      exact .cons _ _ (ih h2)
local macro_rules | `(tactic| walk_at "EX") => `(tactic| first | assumption | exact Ex.kp (by assumption) (Fr.keep (by assumption)))
local macro_rules | `(tactic| walk_at "RM") => `(tactic| exact Rm.le (by assumption) (by decide) (by decide))
local macro_rules | `(tactic| walk_at "MEM") => `(tactic| first | exact List.mem_cons_self | (apply List.mem_cons_of_mem; walk_at "MEM"))
local macro_rules | `(tactic| walk_at "LST") => `(tactic| first | assumption | exact Fr.lst (by assumption) (by assumption) | exact News.isList (by assumption) (by walk_at "MEM"))
local macro_rules | `(tactic| walk_at "SZ") => `(tactic| (simp only [List.size_toArray, List.length_append, List.length_take, List.length_drop]; omega))
local macro_rules | `(tactic| walk_at "SZL") => `(tactic| (simp only [sizeLine_eq, List.size_toArray, List.length_append, List.length_take, List.length_drop]; omega))
local macro_rules | `(tactic| walk_at "call builtin:len") => `(tactic| (refine len_list (by walk_at "LST") (by walk_at "SZ") ?_))
local macro_rules | `(tactic| walk_at "PART") => `(tactic| first | exact IsPart.none | exact IsPart.int _ _)
local macro_rules | `(tactic| walk_at "PICK") => `(tactic| first | exact sll | exact slu (by omega) | exact slf (by omega))
local macro_rules | `(tactic| walk_at "subscriptTail Name Slice ref ref") => `(tactic| (refine sliceL (by assumption) (by assumption) (by walk_at "LST") (by walk_at "PART") (by walk_at "PART") (by walk_at "PICK") (by walk_at "SZL") ?_; intro h' F' N'))
local macro_rules | `(tactic| walk_at "binaryOp Add ref ref") => `(tactic| (refine add_lists (by assumption) (by assumption) (by walk_at "LST") (by walk_at "LST") ?_ (by walk_at "SZL"); intro h' F' N'))
section
theorem enterD {w : World} {f : Nat → Obj} {A : Around} {E : Value → Shared → Prop} {s : Shared} {a : Addr} {o : Obj} {name : Str} {params : Arguments} {body : List Stmt} {scope : Scope} {pm cd dV : Value} {args : List Value} {binds : List (Str × Value)} {Q : Value → Shared → Prop} {d u : Nat}
    (ls gs : List Str) (X : Ex w f s.heap) (hroom : Rm A (d + 1) (u + 3)) (ho : (h19 w.params f).get? a = some o) (hdata : o.data = .func { docDef name params body scope pm cd .none with defaults := dV }) (hcd : (h19 w.params f).CodeRec cd name)
    (hsc : scOk scope ls gs = true) (hbind : BindsTo s { docDef name params body scope pm cd .none with defaults := dV } ⟨args, []⟩ binds)
    (hloc : (binds.all (fun x => ls.contains x.1)) = true)
    (h : ∀ (A' : Around) (sc : Scope) (L : Addr) (h₁ : Heap) (tk : Nat), Rm A' d u → Sc sc ls gs → Fr s.heap L h₁ (lk binds.reverse) →
      wpAny (model pw w) A' (execs body (envOf name sc L a cd)) (fun f s' => Q (retV f) s') (fun _ _ => False) { s with heap := h₁, toks := tk }) :
    wpAny (model pw w) A (PySem.call (.ref a) args) Q E s := by
  obtain ⟨S, hco, hgen, hcell⟩ := Sc.of hsc
  refine wpAny_call (call_plainD (by have := hroom.1; omega) (X _ _ ho) hdata X.limit (codeKp hcd X) hbind (fun x hx => ?_) (fun h₁ F => ?_) hco hgen S.k hcell)
  · exact S.l _ (List.all_eq_true.mp hloc _ hx)
  · rw [lk_of] at F
    refine wpAny_mono (h (A.deeper _) scope _ h₁ _ ⟨?_, ?_, hroom.2.2⟩ S F) (fun f s' q => ?_) fun _ _ x => x.elim
    · have := hroom.1; show A.depth + 1 + d < recursionLimit; omega
    · have := hroom.2.1; show A.units + 3 + u < cLine; omega
    · cases f <;> exact q
theorem dflt_data (P : Params) : ∃ n, (ob58_47 P).data = .seq #[.int 0 (match (ob58_47 P).data with | .seq xs _ => (match xs.getD 0 .none with | .int _ t => t | _ => 0) | _ => 0)] n := ⟨_, rfl⟩
theorem plain_re : PlainAttrs "re.Pattern" := ⟨⟨"object.__getattribute__", by rw [typeLookup_type, builtinLookup_eq_fast]; kernel_rfl, by decide +kernel⟩, by rw [typeLookup_type, builtinLookup_eq_fast]; kernel_rfl⟩
theorem plain_b : PlainAttrs "bytes" := ⟨⟨"bytes.__getattribute__", by rw [typeLookup_type, builtinLookup_eq_fast]; kernel_rfl, by decide +kernel⟩, by rw [typeLookup_type, builtinLookup_eq_fast]; kernel_rfl⟩
section
variable {w : World} {f : Nat → Obj} {A : Around} {E : Value → Shared → Prop} {s : Shared} {b : Array UInt8} {t : Tok} {pl : Sem Bool} {Q : Value × List Value → Shared → Prop}
theorem gm_sub (X : Ex w f s.heap) (h : Q (.builtin "re.Pattern.sub", [.ref 57]) s) : wpAny (model pw w) A (getMethod (.ref 57) "sub" pl) Q E s :=
  getMethod_builtin (T := "re.Pattern") ⟨_, X _ _ (get19 (a := 57) rfl rfl rfl), pat_cls _⟩ plain_re slot_sub type_sub (fun a e => by cases e; exact ⟨_, X _ _ (get19 (a := 57) rfl rfl rfl), by kernel_rfl!⟩) h
theorem gm_count (h : Q (.builtin "bytes.count", [.bytes b t]) s) : wpAny (model pw w) A (getMethod (.bytes b t) "count" pl) Q E s :=
  getMethod_builtin (T := "bytes") rfl plain_b slot_bcount type_bcount (fun a e => by cases e) h
end
local macro_rules | `(tactic| walk_at "getMethod ref") => `(tactic| refine gm_sub (by walk_at "EX") ?_)
local macro_rules | `(tactic| walk_at "getMethod bytes") => `(tactic| refine gm_count ?_)
theorem cnt_bytes (out : Array UInt8) (c : UInt8) : (out.toList.filter (· == c)).length = cnt c.toNat (out.toList.map (·.toNat)) := by
  unfold cnt
  rw [List.filter_map, List.length_map]
  congr 2
  funext k
  show (k == c) = (k.toNat == c.toNat)
  by_cases h : k = c
  · subst h; simp
  · rw [show (k == c) = false by simpa using h]
    symm
    refine beq_eq_false_iff_ne.mpr fun e => h ?_
    exact UInt8.toNat_inj.mp e
/-- how many brackets lie open -/
noncomputable def open' (l : List Nat) : Int := (cnt 40 (strip l.length l) : Int) - (cnt 41 (strip l.length l) : Int)
local macro_rules | `(tactic| walk_at "call builtin:re.Pattern.sub") => `(tactic| (refine sub_call (by walk_at "EX") (by assumption) ?_; intro out u' h' tk' k' e'; have F' := Fr.kp (by assumption) k'; have N' := News.kp (by assumption) k'))
local macro_rules | `(tactic| walk_at "call builtin:bytes.count") => `(tactic| refine bcount ?_)
section
variable {w : World} {f : Nat → Obj} {A : Around} {E : Value → Shared → Prop} {s : Shared} {b : Array UInt8} {t u : Tok} {d : Int} {Q : Value → Shared → Prop}
theorem paren2 (X : Ex w f s.heap) (hroom : Rm A 1 20) (hb : b.size ≤ 100000)
    (hQ : ∀ h' tk t', Kp s.heap h' → Q (.int (d + open' (nats b).toList) t') { s with heap := h', toks := tk }) : wpAny (model pw w) A (PySem.call (.ref 65) [.bytes b t, .int d u]) Q E s := by
  obtain ⟨n, hd⟩ := dflt_data w.params
  refine enterD (d := 0) (u := 17) (name := "_paren_depth") (binds := [("data", .bytes b t), ("depth", .int d u)]) ["data", "depth"] ["_quoted"] X hroom (get19 (a := 65) rfl rfl rfl) rfl (code65 _ _) (by kernel_rfl!) (BindsTo.of_defaults rfl (X _ _ (get19 (a := 58) rfl rfl rfl)) hd rfl rfl) (by kernel_rfl!) (fun A' sc L h₁ tk hA S F => ?_)
  replace F : Fr s.heap L h₁ (lk [("depth", .int d u), ("data", .bytes b t)]) := F
  have N : News s.heap L h₁ [] := News.nil
  repeat' walk1
  rename List.map _ (Array.toList _) = strip _ _ => e
  rename Fr s.heap L _ _ => F2
  rw [cnt_bytes, cnt_bytes, e]
  have h : d + open' (nats b).toList = d + (cnt 40 (strip (nats b).size (nats b).toList) : Int) - (cnt 41 (strip (nats b).size (nats b).toList) : Int) := by
    show d + ((cnt 40 (strip (nats b).toList.length (nats b).toList) : Int) - (cnt 41 (strip (nats b).toList.length (nats b).toList) : Int)) = _
    rw [show (nats b).toList.length = (nats b).size from rfl]
    omega
  exact h ▸ hQ _ _ _ F2.keep
theorem paren1 (X : Ex w f s.heap) (hroom : Rm A 1 20) (hb : b.size ≤ 100000)
    (hQ : ∀ h' tk t', Kp s.heap h' → Q (.int (open' (nats b).toList) t') { s with heap := h', toks := tk }) : wpAny (model pw w) A (PySem.call (.ref 65) [.bytes b t]) Q E s := by
  obtain ⟨n, hd⟩ := dflt_data w.params
  refine enterD (d := 0) (u := 17) (name := "_paren_depth") (binds := [("data", .bytes b t), ("depth", .int 0 _)]) ["data", "depth"] ["_quoted"] X hroom (get19 (a := 65) rfl rfl rfl) rfl (code65 _ _) (by kernel_rfl!) (BindsTo.of_defaults rfl (X _ _ (get19 (a := 58) rfl rfl rfl)) hd rfl rfl) (by kernel_rfl!) (fun A' sc L h₁ tk hA S F => ?_)
  replace F : Fr s.heap L h₁ (lk [("depth", .int 0 _), ("data", .bytes b t)]) := F
  have N : News s.heap L h₁ [] := News.nil
  repeat' walk1
  rename List.map _ (Array.toList _) = strip _ _ => e
  rename Fr s.heap L _ _ => F2
  rw [cnt_bytes, cnt_bytes, e]
  have h : open' (nats b).toList = (0 : Int) + (cnt 40 (strip (nats b).size (nats b).toList) : Int) - (cnt 41 (strip (nats b).size (nats b).toList) : Int) := by
    show ((cnt 40 (strip (nats b).toList.length (nats b).toList) : Int) - (cnt 41 (strip (nats b).toList.length (nats b).toList) : Int)) = _
    rw [show (nats b).toList.length = (nats b).size from rfl]
    omega
  exact h ▸ hQ _ _ _ F2.keep
end
end
section
theorem cnt_mem (vals pads : List Str) (a b c : Nat) (y : Str) (h : y ∈ (pads.take a ++ pads.drop b) ++ vals.drop a ∨ y ∈ vals.drop c) : y ∈ vals ++ pads := by
  rcases h with h | h
  · rcases List.mem_append.mp h with h | h
    · rcases List.mem_append.mp h with h | h
      · exact List.mem_append_right _ (List.mem_of_mem_take h)
      · exact List.mem_append_right _ (List.mem_of_mem_drop h)
    · exact List.mem_append_left _ (List.mem_of_mem_drop h)
  · exact List.mem_append_left _ (List.mem_of_mem_drop h)
noncomputable def MoreR (v r : Value) : Prop := ∃ y t u, v = .str y t ∧ r = .int (more y) u
local macro_rules | `(tactic| walk_at "call ref") => `(tactic| first
  | (refine odd_call (by walk_at "EX") (by walk_at "RM") ?_; intro h' tk' k'; have F' := Fr.kp (by assumption) k'; have N' := News.kp (by assumption) k'))
local macro_rules | `(tactic| walk_at "GC") => `(tactic| refine ldGC (by walk_at "EX") rfl rfl rfl (by kernel_rfl!) (by walk_at "GL") ?_)
local macro_rules | `(tactic| walk_at "eval Name") => `(tactic| walk_at "GC")
section
variable {w : World} {f : Nat → Obj} {A : Around} {E : Value → Shared → Prop} {s : Shared} {x : Str} {t : Tok} {Q : Value → Shared → Prop} 
theorem counted_call {va sa : Addr} {vvs svs : List Value} {vals pads : List Str} (X : Ex w f s.heap) (hroom : Rm A 2 60) (hv : s.heap.IsList va vvs.toArray) (hvs : StrsAre vvs vals) (hs : s.heap.IsList sa svs.toArray) (hss : StrsAre svs pads)
    (hl1 : vals.length ≤ 10) (hl2 : pads.length ≤ 10) (hb : ∀ y ∈ vals ++ pads, y.length ≤ 1000)
    (hQ : ∀ h' tk t', Kp s.heap h' → Q (.int (counted vals pads) t') { s with heap := h', toks := tk }) : wpAny (model pw w) A (PySem.call (.ref 165) [.ref va, .ref sa]) Q E s := by
  refine enter (d := 1) (u := 57) (name := "_law_counted") ["values", "stretches"] ["values", "stretches", "first", "taken"] ["len", "_law_odd_end", "sum"] X hroom (get19 (a := 165) rfl rfl rfl) rfl (code165 _ _) (by kernel_rfl!) (by kernel_rfl!) rfl (by kernel_rfl!) (fun A' sc L h₁ tk hA S F => ?_)
  replace F : Fr s.heap L h₁ (lk [("stretches", .ref sa), ("values", .ref va)]) := F
  have N : News s.heap L h₁ [] := News.nil
  have lim : s.heap.NoLimit := X.limit
  have ev := strs_len hvs
  have es := strs_len hss
  walk1
  walk1
  walk1
  walk1
  walk1
  have ev' : vvs.toArray.size = vals.length := by rw [List.size_toArray]; exact ev
  have es' : svs.toArray.size = pads.length := by rw [List.size_toArray]; exact es
  refine wpAny_mono (Q := CntR s.heap L s va sa (fstBad vals)) ?_ ?_ fun _ _ x => x
  · refine While_inv (fun n m news => ∃ k, k ≤ vals.length ∧ n = vals.length - k ∧ news = [] ∧ m "values" = some (.ref va) ∧ m "stretches" = some (.ref sa) ∧ (∃ u, m "first" = some (.int (k : Int) u)) ∧ ∀ y ∈ vals.take k, oddEnd y.cps.toList = false) (n₀ := vals.length) (by assumption) (by assumption)
      ⟨0, Nat.zero_le _, rfl, rfl, by walk_at "LK", by walk_at "LK", ⟨_, lk_hit⟩, fun y hy => by rw [List.take_zero] at hy; cases hy⟩ ?_
    rintro n m₁ news₁ h₂ tk₂ F1 N1 ⟨k, hk, rfl, rfl, hm1, hm2, ⟨u1, hm3⟩, ho⟩
    repeat' walk1
    · rename_i hlt _ _ _ _ F3 N3 hodd
      rw [Int.toNat_natCast] at hodd
      have e := fst_eq vals k ho (.inr ⟨by omega, hodd⟩)
      rw [e]
      exact ⟨rfl, _, _, _, F3, N3, hm1, hm2, ⟨_, hm3⟩, rfl⟩
    · rename_i hlt _ _ _ _ _ _ hodd _ _ F3 N3
      rw [Int.toNat_natCast] at hodd
      refine WhileStep.intro F3 N3 (n' := vals.length - (k + 1)) (by omega) ⟨k + 1, by omega, rfl, rfl, by walk_at "LK", by walk_at "LK", ⟨_, if_pos rfl⟩, fun y hy => ?_⟩
      rw [List.take_add_one] at hy
      rcases List.mem_append.mp hy with hy | hy
      · exact ho y hy
      · rw [List.getElem?_eq_getElem (by omega)] at hy
        have e : y = vals[k] := by simpa using hy
        rw [List.getD_eq_getElem?_getD, List.getElem?_eq_getElem (by omega)] at hodd
        rw [e]; exact hodd
    · rename_i hge
      have e := fst_eq vals k ho (.inl (by omega))
      rw [e]
      exact ⟨rfl, _, _, _, F1, N1, hm1, hm2, ⟨_, hm3⟩, rfl⟩
  rintro _ _ ⟨rfl, h2, tk2, m2, F2, N2, hm1, hm2, ⟨u1, hm3⟩, rfl⟩
  have hfl := fst_le vals
  by_cases hc : fstBad vals = vals.length
  · repeat' walk1
    refine srcK MoreR hA.2.2 (by walk_at "LST") (by walk_at "SZL") ?_ ?_
    · intro C v s₂ m₂ E' hv hn hm hk
      have X2 : Ex w f s₂.heap := (X.kp F2.keep).kp hk
      repeat' walk1
      obtain ⟨y, t, rfl, hy⟩ := strs_mem hss v hv
      exact more_call X2 (by walk_at "RM") (Nat.le_trans (hb y (List.mem_append_right _ hy)) (by decide)) fun h' tk t' k => ⟨⟨y, t, t', rfl, rfl⟩, ⟨_, _, rfl, k⟩⟩
    · intro D ys h' tk' hk hnew hl hp
      repeat' walk1
      refine sumK hA.2.2 hl (more_ints hss hp) fun h3 tk3 t3 k3 => ?_
      have e : counted vals pads = (pads.map more).sum := if_pos hc
      rw [← e]
      exact hQ _ _ _ (Kp.trans F2.keep (Kp.trans hk k3))
  · have hlast : (vals.drop (vals.length - 1)) = last1 vals := rfl
    repeat' walk1
    · have hz : StrsAre _ _ := strs_app (strs_app (strs_app (strs_take hss ((fstBad vals : Int) + 1).toNat) (strs_drop hss (svs.length - 1))) (strs_drop hvs ((fstBad vals : Int) + 1).toNat)) (strs_drop hvs (vvs.length - 1))
      rename Fr s.heap L _ _ => F4
      refine srcK MoreR hA.2.2 (by walk_at "LST") (by walk_at "SZL") ?_ ?_
      · intro C v s₂ m₂ E' hv hn hm hk
        have X2 : Ex w f s₂.heap := (X.kp F4.keep).kp hk
        repeat' walk1
        obtain ⟨y, t, rfl, hy⟩ := strs_mem hz v hv
        exact more_call X2 (by walk_at "RM") (Nat.le_trans (hb y (cnt_mem _ _ _ _ _ _ (List.mem_append.mp hy))) (by decide)) fun h' tk t' k => ⟨⟨y, t, t', rfl, rfl⟩, ⟨_, _, rfl, k⟩⟩
      · intro D ys h' tk' hk hnew hl hp
        repeat' walk1
        refine sumK hA.2.2 hl (more_ints hz hp) fun h3 tk3 t3 k3 => ?_
        have e : counted vals pads = _ := (if_neg hc).trans (by rw [if_pos (by omega)])
        rw [ev, es, show ((fstBad vals : Int) + 1).toNat = fstBad vals + 1 by omega]
        refine Eq.mp (congrArg (fun z => Q (.int z t3) _) e) (hQ _ _ _ (Kp.trans F4.keep (Kp.trans hk k3)))
    · have hz : StrsAre _ _ := strs_app (strs_app (strs_take hss ((fstBad vals : Int) + 1).toNat) (strs_drop hss (svs.length - 1))) (strs_drop hvs ((fstBad vals : Int) + 1).toNat)
      rename Fr s.heap L _ _ => F4
      refine srcK MoreR hA.2.2 (by walk_at "LST") (by walk_at "SZL") ?_ ?_
      · intro C v s₂ m₂ E' hv hn hm hk
        have X2 : Ex w f s₂.heap := (X.kp F4.keep).kp hk
        repeat' walk1
        obtain ⟨y, t, rfl, hy⟩ := strs_mem hz v hv
        exact more_call X2 (by walk_at "RM") (Nat.le_trans (hb y (cnt_mem _ _ _ _ 0 _ (.inl hy))) (by decide)) fun h' tk t' k => ⟨⟨y, t, t', rfl, rfl⟩, ⟨_, _, rfl, k⟩⟩
      · intro D ys h' tk' hk hnew hl hp
        repeat' walk1
        refine sumK hA.2.2 hl (more_ints hz hp) fun h3 tk3 t3 k3 => ?_
        have e : counted vals pads = _ := (if_neg hc).trans (by rw [if_neg (by omega), List.append_nil])
        rw [es, show ((fstBad vals : Int) + 1).toNat = fstBad vals + 1 by omega]
        refine Eq.mp (congrArg (fun z => Q (.int z t3) _) e) (hQ _ _ _ (Kp.trans F4.keep (Kp.trans hk k3)))
end
end
/-- the sign that a number tells -/
noncomputable def sgn (n : Nat) : Nat :=
  if n % 8 < 2 then 40 + n % 8 else if n % 8 < 4 then 92 else if n % 8 = 4 then b1L.getD (n / 8 % 8) 0 else if n % 8 = 5 then e7L.getD (n / 8 % 7) 0
  else if n % 8 = 6 then capL.getD (n / 8 % 10) 0 + n / 8 / 10 % 26 else (p8L.getD (n / 8 % 8) (0, Str.empty)).1
/-- what it is prepared to -/
noncomputable def ltr (n : Nat) : Str :=
  if n % 8 < 2 then ⟨#[40 + n % 8]⟩ else if n % 8 < 4 then "\\" else if n % 8 = 4 then "" else if n % 8 = 5 then ⟨#[e7L.getD (n / 8 % 7) 0]⟩
  else if n % 8 = 6 then ⟨#[97 + n / 8 / 10 % 26]⟩ else (p8L.getD (n / 8 % 8) (0, Str.empty)).2
theorem told_call {w : World} {f : Nat → Obj} {A : Around} {E : Value → Shared → Prop} {s : Shared} {n : Nat} {t : Tok} {Q : Value → Shared → Prop} (X : Ex w f s.heap) (hroom : Rm A 1 20) (hn : n < 1000000)
    (hQ : ToldQ s ⟨#[sgn n]⟩ (ltr n) Q) : wpAny (model pw w) A (PySem.call (.ref 136) [.int n t]) Q E s := by
  have h1 : Int.fmod (n : Int) 8 = ((n % 8 : Nat) : Int) := fmodN n 8 (by decide)
  have h2 : Int.fdiv (n : Int) 8 = ((n / 8 : Nat) : Int) := fdivN n 8
  have h3 : Int.fmod ((n / 8 : Nat) : Int) 8 = ((n / 8 % 8 : Nat) : Int) := fmodN _ 8 (by decide)
  by_cases c1 : n % 8 < 2
  · unfold sgn ltr at hQ
    rw [if_pos c1, if_pos c1] at hQ
    exact told01 X hroom hn h1 h2 c1 hQ
  by_cases c2 : n % 8 < 4
  · unfold sgn ltr at hQ
    rw [if_neg c1, if_neg c1, if_pos c2, if_pos c2] at hQ
    exact told23 X hroom hn h1 h2 (by omega) c2 (hQ.use (by kernel_rfl!) rfl)
  by_cases c3 : n % 8 = 4
  · unfold sgn ltr at hQ
    rw [if_neg c1, if_neg c1, if_neg c2, if_neg c2, if_pos c3, if_pos c3] at hQ
    exact told4 X hroom hn h1 h2 c3 h3 (Nat.mod_lt _ (by decide)) hQ
  by_cases c4 : n % 8 = 5
  · unfold sgn ltr at hQ
    rw [if_neg c1, if_neg c1, if_neg c2, if_neg c2, if_neg c3, if_neg c3, if_pos c4, if_pos c4] at hQ
    exact told5 X hroom hn h1 h2 c4 (fmodN _ 7 (by decide)) (Nat.mod_lt _ (by decide)) hQ
  by_cases c5 : n % 8 = 6
  · unfold sgn ltr at hQ
    rw [if_neg c1, if_neg c1, if_neg c2, if_neg c2, if_neg c3, if_neg c3, if_neg c4, if_neg c4, if_pos c5, if_pos c5] at hQ
    exact told6 X hroom hn h1 h2 c5 (by omega) (fmodN _ 10 (by decide)) (Nat.mod_lt _ (by decide)) (fdivN _ 10) (fmodN _ 26 (by decide)) (Nat.mod_lt _ (by decide)) hQ
  · unfold sgn ltr at hQ
    rw [if_neg c1, if_neg c1, if_neg c2, if_neg c2, if_neg c3, if_neg c3, if_neg c4, if_neg c4, if_neg c5, if_neg c5] at hQ
    exact told7 X hroom hn h1 h2 (by omega) h3 (Nat.mod_lt _ (by decide)) hQ
noncomputable def prep (c : Nat) : Str := if b1S c then "" else b3V c
theorem all_at {p : Nat → Bool} {n k : Nat} (h : (List.range n).all p = true) (hk : k < n) : p k = true := List.all_eq_true.mp h k (List.mem_range.mpr hk)
theorem prep_cap0 : ((List.range 26).all fun b => decide (prep (capL.getD 0 0 + b) = ⟨#[97 + b]⟩)) = true := by kernel_rfl!
theorem prep_cap1 : ((List.range 26).all fun b => decide (prep (capL.getD 1 0 + b) = ⟨#[97 + b]⟩)) = true := by kernel_rfl!
theorem prep_cap2 : ((List.range 26).all fun b => decide (prep (capL.getD 2 0 + b) = ⟨#[97 + b]⟩)) = true := by kernel_rfl!
theorem prep_cap3 : ((List.range 26).all fun b => decide (prep (capL.getD 3 0 + b) = ⟨#[97 + b]⟩)) = true := by kernel_rfl!
theorem prep_cap4 : ((List.range 26).all fun b => decide (prep (capL.getD 4 0 + b) = ⟨#[97 + b]⟩)) = true := by kernel_rfl!
theorem prep_cap5 : ((List.range 26).all fun b => decide (prep (capL.getD 5 0 + b) = ⟨#[97 + b]⟩)) = true := by kernel_rfl!
theorem prep_cap6 : ((List.range 26).all fun b => decide (prep (capL.getD 6 0 + b) = ⟨#[97 + b]⟩)) = true := by kernel_rfl!
theorem prep_cap7 : ((List.range 26).all fun b => decide (prep (capL.getD 7 0 + b) = ⟨#[97 + b]⟩)) = true := by kernel_rfl!
theorem prep_cap8 : ((List.range 26).all fun b => decide (prep (capL.getD 8 0 + b) = ⟨#[97 + b]⟩)) = true := by kernel_rfl!
theorem prep_cap9 : ((List.range 26).all fun b => decide (prep (capL.getD 9 0 + b) = ⟨#[97 + b]⟩)) = true := by kernel_rfl!
theorem prep_cap {b : Nat} (hb : b < 26) : ∀ {a : Nat}, a < 10 → prep (capL.getD a 0 + b) = ⟨#[97 + b]⟩
  | 0, _ => of_decide_eq_true (all_at prep_cap0 hb)
  | 1, _ => of_decide_eq_true (all_at prep_cap1 hb)
  | 2, _ => of_decide_eq_true (all_at prep_cap2 hb)
  | 3, _ => of_decide_eq_true (all_at prep_cap3 hb)
  | 4, _ => of_decide_eq_true (all_at prep_cap4 hb)
  | 5, _ => of_decide_eq_true (all_at prep_cap5 hb)
  | 6, _ => of_decide_eq_true (all_at prep_cap6 hb)
  | 7, _ => of_decide_eq_true (all_at prep_cap7 hb)
  | 8, _ => of_decide_eq_true (all_at prep_cap8 hb)
  | 9, _ => of_decide_eq_true (all_at prep_cap9 hb)
  | n + 10, h => absurd h (by omega)
theorem prep_b1 : ((List.range 8).all fun a => decide (prep (b1L.getD a 0) = "")) = true := by kernel_rfl!
theorem prep_e7 : ((List.range 7).all fun a => decide (prep (e7L.getD a 0) = ⟨#[e7L.getD a 0]⟩)) = true := by kernel_rfl!
theorem prep_p8 : ((List.range 8).all fun a => decide (prep (p8L.getD a (0, Str.empty)).1 = (p8L.getD a (0, Str.empty)).2)) = true := by kernel_rfl!
theorem prep_01 : ((List.range 2).all fun a => decide (prep (40 + a) = ⟨#[40 + a]⟩)) = true := by kernel_rfl!
theorem prep_bs : decide (prep 92 = "\\") = true := by kernel_rfl!
theorem prep_sgn (n : Nat) : prep (sgn n) = ltr n := by
  unfold sgn ltr
  by_cases c1 : n % 8 < 2
  · rw [if_pos c1, if_pos c1]; exact of_decide_eq_true (all_at prep_01 c1)
  by_cases c2 : n % 8 < 4
  · rw [if_neg c1, if_neg c1, if_pos c2, if_pos c2]; exact of_decide_eq_true prep_bs
  by_cases c3 : n % 8 = 4
  · rw [if_neg c1, if_neg c1, if_neg c2, if_neg c2, if_pos c3, if_pos c3]; exact of_decide_eq_true (all_at prep_b1 (Nat.mod_lt _ (by decide)))
  by_cases c4 : n % 8 = 5
  · rw [if_neg c1, if_neg c1, if_neg c2, if_neg c2, if_neg c3, if_neg c3, if_pos c4, if_pos c4]; exact of_decide_eq_true (all_at prep_e7 (Nat.mod_lt _ (by decide)))
  by_cases c5 : n % 8 = 6
  · rw [if_neg c1, if_neg c1, if_neg c2, if_neg c2, if_neg c3, if_neg c3, if_neg c4, if_neg c4, if_pos c5, if_pos c5]; exact prep_cap (Nat.mod_lt _ (by decide)) (Nat.mod_lt _ (by decide))
  · rw [if_neg c1, if_neg c1, if_neg c2, if_neg c2, if_neg c3, if_neg c3, if_neg c4, if_neg c4, if_neg c5, if_neg c5]; exact of_decide_eq_true (all_at prep_p8 (Nat.mod_lt _ (by decide)))
section
variable {prog : Program} {w : World} {A : Around} {s : Shared} {env : Env} {h₀ : Heap} {E : Value → Shared → Prop} {Q : Flow → Shared → Prop} {x : Str} {body : List Stmt} {m : Str → Option Value} {news : List (Addr × Obj)}
/-- a place behind the heap's end: neither the frame's own, nor known before, nor one of the news -/
theorem newPlace {L : Addr} {h : Heap} (F : Fr h₀ L h m) (N : News h₀ L h news) : L ∉ [h.objs.size] ∧ (∀ b ∈ [h.objs.size], h₀.get? b = none) ∧ ∀ p ∈ news, p.1 ∉ [h.objs.size] := by
  simp only [List.mem_singleton]
  exact ⟨Nat.ne_of_lt F.ns.lt, fun b e => e ▸ next_is_new F, fun p hp e => N.fresh_ne p hp e.symm⟩
theorem off_of {L l : Addr} {h : Heap} (N : News h₀ L h news) (hl : h.objs.size ≤ l) : ∀ q ∈ news, l ≠ q.1 := fun q hq e => Nat.lt_irrefl _ (Nat.lt_of_lt_of_le (Heap.lt_size (N q hq).1) (e ▸ hl))
/-- a loop over a short range, by its invariant -/
theorem IterR {r : Addr} {n : Nat} {k : Int} {t u v : Tok} (hh : A.handled = none) (hr : IsRange s.heap r 0 k 1 t u v) (hk : k = (n : Int)) (hn : n ≤ 10) (F : Fr h₀ env.locals s.heap m) (N : News h₀ env.locals s.heap news)
    (J : Nat → (Str → Option Value) → List (Addr × Obj) → Prop) (h0 : J 0 m news)
    (step : ∀ (i : Nat) u m₁ news₁ s₁ own, i < n → J i m₁ news₁ → news₁.map (·.1) = news.map (·.1) → (∀ p ∈ own, ∀ q ∈ news, p.1 ≠ q.1) →
      Fr h₀ env.locals s₁.heap (fun z => if z = x then some (.int (i : Int) u) else m₁ z) → News h₀ env.locals s₁.heap (own ++ news₁) →
      wpAny (model prog w) A (execs body env) (LoopStep2 h₀ env.locals own news₁ (J (i + 1)) s₁) E s₁)
    (done : ∀ h' tk m' news', Fr h₀ env.locals h' m' → News h₀ env.locals h' news' → news'.map (·.1) = news.map (·.1) → J n m' news' → Q .next { s with heap := h', toks := tk }) :
    wpAny (model prog w) A (pyIter (.ref r)) (fun it s₂ => LoopAt2 prog w A h₀ env x body Q E it s₂) E s := by
  subst hk
  obtain ⟨a, b, c⟩ := newPlace F N
  have len : Builtin.Range.rangeSize 0 (n : Int) 1 = (n : Int) := by rw [rangeSize_nat]; omega
  refine wpAny_pyIter_range hr (small_one (by decide) (by decide) (by omega) (by omega)) ⟨_, _, _, n, _, _, m, news, J, rfl, Walks.range hh s.heap.objs.size 0 1 n, a, b, c, ?_, F.push _, N.pushKeep _, h0, ?_, done⟩
  · exact (Heap.get?_push_size _ rfl).trans (by simp only [len, Int.zero_add, Int.sub_zero, Int.zero_mul, Int.natCast_zero])
  · rintro i _ m₁ news₁ s₁ own hi ⟨u, rfl⟩ hJ same own1 - F₁ N₁
    rw [Int.zero_add, Int.mul_one] at F₁
    exact step i u m₁ news₁ s₁ own hi hJ same (fun p hp q hq e => c q hq (e ▸ own1 p hp)) F₁ N₁
/-- a thing as it is -/
noncomputable def asIs : ItemKind Value := ⟨Eq, some, fun _ _ e => congrArg some e.symm⟩
theorem all_asIs : ∀ vs : List Value, AreOf asIs vs vs
  | [] => .nil
  | _ :: vs => .cons rfl (all_asIs vs)
/-- a loop over a list made in the call, by its invariant, whatever its items -/
theorem IterL {l : Addr} {o : Obj} {vs : List Value} (hh : A.handled = none) (hl : s.heap.IsList l vs.toArray) (F : Fr h₀ env.locals s.heap m) (N : News h₀ env.locals s.heap ((l, o) :: news)) (off : ∀ q ∈ news, l ≠ q.1)
    (J : Nat → (Str → Option Value) → List (Addr × Obj) → Prop) (h0 : J 0 m news)
    (step : ∀ (i : Nat) v m₁ news₁ s₁ own, vs[i]? = some v → J i m₁ news₁ → news₁.map (·.1) = news.map (·.1) →
      Fr h₀ env.locals s₁.heap (fun z => if z = x then some v else m₁ z) → News h₀ env.locals s₁.heap (own ++ news₁) →
      wpAny (model prog w) A (execs body env) (LoopStep2 h₀ env.locals own news₁ (J (i + 1)) s₁) E s₁)
    (done : ∀ h' tk m' news', Fr h₀ env.locals h' m' → News h₀ env.locals h' news' → news'.map (·.1) = news.map (·.1) → J vs.length m' news' → Q .next { s with heap := h', toks := tk }) :
    wpAny (model prog w) A (pyIter (.ref l)) (fun it s₂ => LoopAt2 prog w A h₀ env x body Q E it s₂) E s :=
  Iter_newlistD2 hh hl (all_asIs vs) F N off J h0 (fun i _ v m₁ news₁ s₁ own ha e hJ same _ => step i v m₁ news₁ s₁ own (e ▸ ha) hJ same) done
end
/-- a statement of the law -/
noncomputable def lawB : List Stmt := dBody (stI 20)
noncomputable def lawS (i : Nat) : Stmt := (lawB.drop i).headD (.Pass default)
noncomputable def forB : Stmt → List Stmt
  | .For _ _ b _ _ => b
  | _ => []
local macro_rules | `(tactic| walk_at "GC") => `(tactic| refine ldGC (by walk_at "EX") rfl rfl rfl (by kernel_rfl!) (by walk_at "GL") ?_)
local macro_rules | `(tactic| walk_at "eval Name") => `(tactic| walk_at "GC")
local macro_rules | `(tactic| walk_at "SZL") => `(tactic| (simp only [sizeLine_eq, List.size_toArray, List.length_append, List.length_take, List.length_drop, List.length_cons, List.length_nil]; omega))
local macro_rules | `(tactic| walk_at "W") => `(tactic| repeat' walk1)
noncomputable abbrev lls : List Str := ["script", "number", "numbers", "begun", "stretches", "place", "rest", "bare", "ready", "plain", "folded", "sign", "letters", "falls", "prepared", "reply", "values", "written", "due", "anew", "every", "proper", "quoted"]
noncomputable abbrev lgs : List Str := ["sum", "range", "_law_told", "in_table_b1", "map_table_b3", "_escape_attrib_c14n", "_law_attribute", "_law_counted", "_paren_depth", "_escape_attrib_html", "_law_anew"]
noncomputable def nums (ns : List Int) : List Nat := (((ns.take 9).map fun n : Int => (n.fmod 1000000).toNat) ++ [0, 2, 4, 0, 8, 7, 0, 5, 6]).take 9
noncomputable def begun (ns : List Int) : Int := (ns.take 9).sum
noncomputable def NumR (v r : Value) : Prop := ∃ n t u, v = .int n t ∧ r = .int (Int.fmod n 1000000) u
/-- a list object with these items -/
noncomputable def ObjL (o : Obj) (vs : List Value) : Prop := o.cls = .type "list" ∧ ∃ n, o.data = .seq vs.toArray n
theorem isl_of {h₀ h : Heap} {L D : Addr} {o : Obj} {vs : List Value} {news : List (Addr × Obj)} (N : News h₀ L h news) (hm : (D, o) ∈ news) (ho : ObjL o vs) : h.IsList D vs.toArray := by
  obtain ⟨hc, n, hd⟩ := ho
  exact ⟨o, (N _ hm).1, hc, n, hd⟩
theorem addL {h₀ h h' : Heap} {L D : Addr} {vs : List Value} {m : Str → Option Value} {news : List (Addr × Obj)} (F : Fr h₀ L h m) (N : News h₀ L h news) (hk : Kp h h') (hn : h.get? D = none) (hl : h'.IsList D vs.toArray) : ∃ o, News h₀ L h' ((D, o) :: news) ∧ ObjL o vs := by
  obtain ⟨o, ho, hc, n, hd⟩ := hl
  refine ⟨o, fun p hp => ?_, hc, n, hd⟩
  rcases List.mem_cons.mp hp with rfl | hp
  · refine ⟨ho, ?_, ?_⟩
    · rintro rfl
      have := F.ns.lt
      obtain ⟨o', _, _, h1, _⟩ := F.ns
      rw [h1] at hn; cases hn
    · cases e : h₀.get? D with
      | none => rfl
      | some o' => rw [F.keep _ _ e] at hn; cases hn
  · exact (News.kp N hk) p hp
local macro_rules | `(tactic| walk_at "LST") => `(tactic| first | assumption | exact Fr.lst (by assumption) (by assumption) | exact News.isList (by assumption) (by walk_at "MEM") | exact isl_of (by assumption) (by walk_at "MEM") (by assumption))
local macro_rules | `(tactic| walk_at "newList") => `(tactic| (refine newList_N (by assumption) (by assumption) ?_ (by show _ ≤ _; decide); intro h' F' N'))
theorem sliceA {prog : Program} {w : World} {A : Around} {E : Value → Shared → Prop} {s : Shared} {h₀ : Heap} {L : Addr} {m : Str → Option Value} {news : List (Addr × Obj)} {value slice : Expr} {l : Addr} {vs ws : List Value} {vl vu : Value} {lo hi : Option Int} {Q : Value → Shared → Prop}
    (F : Fr h₀ L s.heap m) (N : News h₀ L s.heap news) (hl : s.heap.IsList l vs.toArray) (pl : IsPart vl lo) (pu : IsPart vu hi) (e : slicePick vs.toArray lo hi none = ws.toArray) (hsz : vs.toArray.size ≤ sizeLine)
    (h : ∀ h', Fr h₀ L h' m → News h₀ L h' ((s.heap.objs.size + 1, { cls := .type "list", data := .seq ws.toArray }) :: news) → Q (.ref (s.heap.objs.size + 1)) { s with heap := h' })
    (hs : subscripted slice false (.ref l) (.ref s.heap.objs.size) = operate [.ref s.heap.objs.size, .ref l] (getItem (.ref l) (.ref s.heap.objs.size)) := by with_unfolding_all rfl) :
    wpAny (model prog w) A (subscriptTail value slice (.ref l) (.ref s.heap.objs.size)) Q E { s with heap := s.heap.push { cls := .type "slice", data := .fields #[vl, vu, .none] } } := by
  refine tail_any (Heap.IsList.typeIs (s := { s with heap := s.heap.push { cls := .type "slice", data := .fields #[vl, vu, .none] } }) (hl.push _)) list_getitem_lookup
    (wpAny_getItem_list_slice (hl.push _) (Heap.IsSliceOf.new ..) pl pu .none (by simp) ?_ hsz) hs
  have N1 := News.push (F.push { cls := .type "slice", data := .fields #[vl, vu, .none] }) (N.grown fun _ _ e => Heap.get?_push_of_some _ e) { cls := .type "list", data := .seq (slicePick vs.toArray lo hi none) }
  rw [Heap.size_push] at N1
  show Q (.ref (s.heap.push _).objs.size) _
  rw [Heap.size_push]
  exact h _ ((F.push _).push _) (e ▸ N1)
local macro_rules | `(tactic| walk_at "subscriptTail BinOp") => `(tactic| (refine sliceA (by assumption) (by assumption) (by walk_at "LST") (by walk_at "PART") (by walk_at "PART") (by walk_at "PICK") (by walk_at "SZL") ?_; intro h' F' N'))
theorem News.first {h₀ h : Heap} {L : Addr} {p : Addr × Obj} {news : List (Addr × Obj)} (N : News h₀ L h (p :: news)) : News h₀ L h [p] := fun q hq => N q (by rw [List.mem_singleton.mp hq]; exact .head _)
theorem arr_list (ys : Array Value) : ∃ l : List Value, ys = l.toArray := ⟨ys.toList, by simp⟩
theorem numR_ints : ∀ {vs ys : List Value} {ns : List Int}, IntsAre vs ns → Paired NumR vs ys → IntsAre ys (ns.map fun n : Int => Int.fmod n 1000000) := by
  intro vs ys ns h p
  induction p generalizing ns with
  | nil => cases h; exact .nil
  | cons hf _ ih => cases h with
    | cons n t h2 =>
      obtain ⟨n', t', u, e1, rfl⟩ := hf
      injection e1 with e1 _
      subst e1
      exact .cons _ _ (ih h2)
theorem ia_of : ∀ {vs : List Value} {ns : List Int}, IntsAre vs ns → (∀ n ∈ ns, 0 ≤ n) → IA vs (ns.map Int.toNat)
  | _, _, .nil, _ => True.intro
  | _, _, .cons n t h, hp => ⟨by have := hp n (.head _); omega, ia_of h fun k hk => hp k (.tail _ hk)⟩
theorem nums_eq (ns : List Int) : nums ns = ((((ns.take 9).map fun n : Int => Int.fmod n 1000000) ++ [0, 2, 4, 0, 8, 7, 0, 5, 6]).take 9).map Int.toNat := by
  unfold nums
  simp only [List.map_take, List.map_append, List.map_map]
  rfl
/-- a statement ends plainly, in a heap like this -/
noncomputable def PostN (s : Shared) (P : Heap → Prop) : Flow → Shared → Prop := fun f s' => f = .next ∧ ∃ h' tk, s' = { s with heap := h', toks := tk } ∧ P h'
theorem PostN.intro {s : Shared} {P : Heap → Prop} {h' : Heap} {tk : Nat} (h : P h') : PostN s P .next { s with heap := h', toks := tk } := ⟨rfl, _, _, rfl, h⟩
theorem lw0 {w : World} {f : Nat → Obj} {A : Around} {E : Value → Shared → Prop} {s : Shared} {h₀ : Heap} {sc : Scope} {L : Addr} {cd : Value} {l : Addr} {vs : List Value} {ns : List Int} {m : Str → Option Value}
    (X : Ex w f h₀) (hA : Rm A 2 80) (S : Sc sc lls lgs) (F : Fr h₀ L s.heap m) (hl : h₀.IsList l vs.toArray) (hi : IntsAre vs ns) (hn : ns.length ≤ 63) (hm : m "script" = some (.ref l)) :
    wpAny (model pw w) A (exec (lawS 0) (envOf "law" sc L 170 cd)) (PostN s fun h' => ∃ na o ws, Fr h₀ L h' (fun y => if y = "numbers" then some (.ref na) else m y) ∧ News h₀ L h' [(na, o)] ∧ ObjL o ws ∧ IA ws (nums ns)) E s := by
  have N : News h₀ L s.heap [] := News.nil
  have lim : h₀.NoLimit := X.limit
  conv in lawS 0 => whnf
  have hvl : vs.length ≤ 63 := by rw [hi.length]; exact hn
  walk_at "W"
  refine srcK NumR hA.2.2 (by walk_at "LST") (by walk_at "SZL") ?_ ?_
  · intro C v s₂ m₂ E' hv hn hm hk
    obtain ⟨n, t, rfl⟩ := IntsAre.all (hi.take _) v hv
    walk_at "W"
    · exact ⟨n, t, _, rfl, rfl⟩
    · exact ⟨_, _, rfl, fun _ _ e => e⟩
  · intro D ys h' tk' hk hnew hl hp
    obtain ⟨yl, rfl⟩ := arr_list ys
    rename Fr h₀ L _ _ => F1
    rename News h₀ L _ _ => N1
    obtain ⟨o, N2, ho⟩ := addL F1 N1 hk hnew hl
    have F2 := Fr.kp F1 hk
    have hI := numR_ints (hi.take (Int.toNat 9)) hp
    have hyl : yl.length ≤ 9 := by
      rw [hI.length, List.length_map]
      exact List.length_take_le _ _
    clear hk hnew F1 N1
    walk_at "W"
    rename Fr h₀ L _ (fun y => if y = _ then _ else _) => F3
    rename News h₀ L _ (_ :: _ :: _ :: _ :: _) => N3
    refine PostN.intro ⟨_, _, _, F3, News.first N3, ⟨rfl, _, rfl⟩, ?_⟩
    rw [nums_eq]
    refine ia_of (IntsAre.take (IntsAre.append hI (ms := [0, 2, 4, 0, 8, 7, 0, 5, 6]) ?_) 9) ?_
    · exact .cons _ _ (.cons _ _ (.cons _ _ (.cons _ _ (.cons _ _ (.cons _ _ (.cons _ _ (.cons _ _ (.cons _ _ .nil))))))))
    · intro n hn
      have hn := List.mem_of_mem_take hn
      rcases List.mem_append.mp hn with hn | hn
      · obtain ⟨k, _, rfl⟩ := List.mem_map.mp hn
        exact Int.fmod_nonneg_of_pos _ (by decide)
      · simp at hn; omega
local macro_rules | `(tactic| walk_at "MEM") => `(tactic| first | assumption | exact List.mem_cons_self | (apply List.mem_cons_of_mem; walk_at "MEM") | (apply List.mem_append_right; walk_at "MEM"))
theorem News.rest1 {h₀ h : Heap} {L : Addr} {p : Addr × Obj} {news : List (Addr × Obj)} (N : News h₀ L h (p :: news)) : News h₀ L h news := fun q hq => N q (.tail _ hq)
theorem lw1 {w : World} {f : Nat → Obj} {A : Around} {E : Value → Shared → Prop} {s : Shared} {h₀ : Heap} {sc : Scope} {L : Addr} {cd : Value} {l : Addr} {vs : List Value} {ns : List Int} {m : Str → Option Value} {news : List (Addr × Obj)}
    (X : Ex w f h₀) (hA : Rm A 2 80) (S : Sc sc lls lgs) (F : Fr h₀ L s.heap m) (N : News h₀ L s.heap news) (hl : h₀.IsList l vs.toArray) (hi : IntsAre vs ns) (hn : ns.length ≤ 63) (hm : m "script" = some (.ref l)) :
    wpAny (model pw w) A (exec (lawS 1) (envOf "law" sc L 170 cd)) (PostN s fun h' => ∃ u, Fr h₀ L h' (fun y => if y = "begun" then some (.int (begun ns) u) else m y) ∧ News h₀ L h' news) E s := by
  have lim : h₀.NoLimit := X.limit
  conv in lawS 1 => whnf
  have hvl : vs.length ≤ 63 := by rw [hi.length]; exact hn
  walk_at "W"
  rename Fr h₀ L _ _ => F1
  rename News h₀ L _ _ => N1
  refine sumK hA.2.2 (by walk_at "LST") (hi.take _) fun h' tk' t' k => ?_
  have F2 := Fr.kp F1 k
  have N2 := News.rest1 (News.kp N1 k)
  clear F1 N1 k F N
  walk_at "W"
  exact PostN.intro ⟨_, by assumption, by assumption⟩
theorem lw2 {w : World} {f : Nat → Obj} {A : Around} {E : Value → Shared → Prop} {s : Shared} {h₀ : Heap} {sc : Scope} {L : Addr} {cd : Value} {m : Str → Option Value} {news : List (Addr × Obj)} {x : Str} {i : Nat}
    (X : Ex w f h₀) (hA : Rm A 2 80) (S : Sc sc lls lgs) (F : Fr h₀ L s.heap m) (N : News h₀ L s.heap news) (hi : (i = 2 ∧ x = "stretches") ∨ (i = 4 ∧ x = "bare") ∨ (i = 5 ∧ x = "ready")) :
    wpAny (model pw w) A (exec (lawS i) (envOf "law" sc L 170 cd)) (PostN s fun h' => ∃ a, Fr h₀ L h' (fun y => if y = x then some (.ref a) else m y) ∧ News h₀ L h' ((a, { cls := .type "list", data := .seq [].toArray }) :: news) ∧ ∀ p ∈ news, p.1 ≠ a) E s := by
  have hne : ∀ p ∈ news, p.1 ≠ s.heap.objs.size := fun p hp e => absurd (Heap.lt_size (N p hp).1) (by rw [e]; exact Nat.lt_irrefl _)
  rcases hi with ⟨rfl, rfl⟩ | ⟨rfl, rfl⟩ | ⟨rfl, rfl⟩
  · conv in lawS 2 => whnf
    walk_at "W"
    exact PostN.intro ⟨_, by assumption, by assumption, hne⟩
  · conv in lawS 4 => whnf
    walk_at "W"
    exact PostN.intro ⟨_, by assumption, by assumption, hne⟩
  · conv in lawS 5 => whnf
    walk_at "W"
    exact PostN.intro ⟨_, by assumption, by assumption, hne⟩
noncomputable def Same (ys : List Str) (m m' : Str → Option Value) : Prop := ∀ y, ys.contains y = false → m' y = m y
theorem Same.refl {ys : List Str} {m : Str → Option Value} : Same ys m m := fun _ _ => rfl
theorem Same.set {ys : List Str} {m m' : Str → Option Value} {x : Str} {v : Value} (h : Same ys m m') (hx : ys.contains x = true) : Same ys m (fun y => if y = x then some v else m' y) := fun y hy => by
  have : y ≠ x := fun e => by rw [e, hx] at hy; cases hy
  show (if y = x then _ else _) = _
  rw [if_neg this]; exact h y hy
theorem Same.at {ys : List Str} {m m' : Str → Option Value} {x : Str} {o : Option Value} (h : Same ys m m') (hm : m x = o) (hx : ys.contains x = false) : m' x = o := (h x hx).trans hm
noncomputable def adds : List Nat := [1, 2, 3, 5]
noncomputable def rests (cs : List Nat) (i : Nat) : Nat := cs.getD (2 * i) 0 / 64 + adds.getD i 0
noncomputable def pad (r : Nat) : List Nat := List.replicate (r % 3) 40 ++ (List.replicate (r / 3 % 3) 41 ++ [32])
noncomputable def pads (cs : List Nat) (i : Nat) : List Nat := pad (rests cs i)
theorem item_intsE {prog : Program} {w : World} {A : Around} {E : Value → Shared → Prop} {s : Shared} {value slice : Expr} {a : Addr} {vs : List Value} {u : Tok} {Q : Value → Shared → Prop} {j : Int} {k : Nat} {cs : List Nat} (e : j = (k : Int)) (hl : s.heap.IsList a vs.toArray) (hi : IA vs cs) (hk : k < cs.length) (hc : cs.length < 1000) (h : ∀ t, Q (.int (cs.getD k 0 : Nat) t) s)
    (hs : subscripted slice false (.ref a) (.int j u) = operate [.ref a, .int j u] (getItem (.ref a) (.int j u)) := by with_unfolding_all rfl) :
    wpAny (model prog w) A (subscriptTail value slice (.ref a) (.int j u)) Q E s := by
  subst e
  exact item_ints hl hi hk hc h hs
theorem noint {sc : Scope} {ls gs : List Str} {name : Str} {L a : Addr} {cd : Value} (S : Sc sc ls gs) : interactive (envOf name sc L a cd) = false := by show (sc.kind == .module && _) = false; rw [S.k]; rfl
theorem fold_one (c : Nat) : ∀ (k : Nat) (acc : List Nat), (List.replicate k #[c]).foldl (· ++ ·) acc.toArray = (acc ++ List.replicate k c).toArray
  | 0, acc => by simp
  | k + 1, acc => by
    rw [List.replicate_succ, List.foldl_cons, List.replicate_succ]
    have e : acc.toArray ++ #[c] = (acc ++ [c]).toArray := by simp
    rw [e, fold_one c k, List.append_assoc]; rfl
theorem S_rep (k c : Nat) : Txt.mul (S [c]) (k : Int) = S (List.replicate k c) := by
  unfold Txt.mul
  by_cases h1 : (k : Int) < 1
  · rw [if_pos h1]
    have : k = 0 := by omega
    subst this; rfl
  rw [if_neg h1]
  by_cases h2 : (k : Int) = 1
  · have : k = 1 := by omega
    subst this; rfl
  · rw [if_neg ?_]
    · have e := fold_one c k []
      rw [List.nil_append] at e
      show (⟨_⟩ : Str) = ⟨_⟩
      rw [Int.toNat_natCast]
      exact congrArg Str.mk e
    · simp [S, Str.length, h2]
theorem mulS {prog : Program} {w : World} {A : Around} {E : Value → Shared → Prop} {s : Shared} {x : Str} {k : Nat} {j : Int} {t u : Tok} {Q : Value → Shared → Prop} (c : Nat) (hx : x = S [c]) (e : j = (k : Int)) (hk : k ≤ 10) (h : ∀ t' tk, Q (.str (S (List.replicate k c)) t') { s with toks := tk }) : wpAny (model prog w) A (binaryOp .Mult (.str x t) (.int j u)) Q E s := by
  subst hx e
  refine SB.mul (mulOk_of 1 10 (by show 1 ≤ 1; decide) (by omega) (by omega) (by decide) (by decide)) fun t' tk => ?_
  rw [S_rep]
  exact h _ _
theorem addS {prog : Program} {w : World} {A : Around} {E : Value → Shared → Prop} {s : Shared} {x y : Str} (a b : List Nat) {t u : Tok} {Q : Value → Shared → Prop} (hx : x = S a) (hy : y = S b) (hsz : a.length + b.length ≤ 100000) (h : ∀ t' tk, Q (.str (S (a ++ b)) t') { s with toks := tk }) : wpAny (model prog w) A (binaryOp .Add (.str x t) (.str y u)) Q E s := by
  subst hx hy
  refine add_str (fun t' tk => ?_) (by rw [S_len, S_len]; exact Nat.le_trans hsz (by decide))
  rw [← S_append]
  exact h _ _
theorem iaddS {prog : Program} {w : World} {A : Around} {E : Value → Shared → Prop} {s : Shared} {x y : Str} (a b : List Nat) {t u : Tok} {Q : Value → Shared → Prop} (hx : x = S a) (hy : y = S b) (hsz : a.length + b.length ≤ 100000) (h : ∀ t' tk, Q (.str (S (a ++ b)) t') { s with toks := tk }) : wpAny (model prog w) A (inplaceOp .Add (.str x t) (.str y u)) Q E s := by
  subst hx hy
  refine iadd_str (fun t' tk => ?_) (by rw [S_len, S_len]; exact Nat.le_trans hsz (by decide))
  rw [← S_append]
  exact h _ _
local macro_rules | `(tactic| walk_at "exec Expr") => `(tactic| refine wpAny_Expr_any ?_ (noint (by assumption)) (by with_unfolding_all rfl))
local macro_rules | `(tactic| walk_at "SL") => `(tactic| (simp only [List.length_append, List.length_cons, List.length_nil, List.length_replicate]; omega))
local macro_rules | `(tactic| walk_at "binaryOp Mult str int") => `(tactic| first
  | (refine mulS 40 (by kernel_rfl!) rfl (by omega) ?_; intro t' tk')
  | (refine mulS 41 (by kernel_rfl!) rfl (by omega) ?_; intro t' tk'))
local macro_rules | `(tactic| walk_at "binaryOp Add str str") => `(tactic| first
  | (refine addS _ _ (by with_reducible rfl) (by with_reducible rfl) (by walk_at "SL") ?_; intro t' tk')
  | (refine addS _ [32] (by with_reducible rfl) (by kernel_rfl!) (by walk_at "SL") ?_; intro t' tk')
  | (refine addS _ [34] (by with_reducible rfl) (by kernel_rfl!) (by walk_at "SL") ?_; intro t' tk')
  | (refine addS [34] _ (by kernel_rfl!) (by with_reducible rfl) (by walk_at "SL") ?_; intro t' tk'))
local macro_rules | `(tactic| walk_at "inplaceOp Add str str") => `(tactic| first
  | (refine iaddS _ _ (by with_reducible rfl) (by with_reducible rfl) (by walk_at "SL") ?_; intro t' tk'))
/-- a list as the law makes it -/
abbrev lo (vs : List Value) (n : Nat) : Obj := { cls := .type "list", data := .seq vs.toArray n }
theorem gm_append {M : Model} {A : Around} {E : Value → Shared → Prop} {s : Shared} {h₀ : Heap} {L D : Addr} {vs : List Value} {n : Nat} {news : List (Addr × Obj)} {pl : Sem Bool} {Q : Value × List Value → Shared → Prop} (N : News h₀ L s.heap news) (hm : (D, lo vs n) ∈ news) (h : Q (.builtin "list.append", [.ref D]) s) :
    wpAny M A (getMethod (.ref D) "append" pl) Q E s := getMethod_list_append (N _ hm).1 rfl rfl h
theorem app_call {prog : Program} {w : World} {A : Around} {E : Value → Shared → Prop} {s : Shared} {h₀ : Heap} {L D : Addr} {m : Str → Option Value} {x : Value} {vs : List Value} {n : Nat} {own rest : List (Addr × Obj)} {Q : Value → Shared → Prop} (F : Fr h₀ L s.heap m) (N : News h₀ L s.heap (own ++ (D, lo vs n) :: rest)) (h1 : ∀ p ∈ own, p.1 ≠ D) (h2 : ∀ p ∈ rest, p.1 ≠ D) (hsz : vs.length ≤ 100)
    (h : ∀ h' n', Fr h₀ L h' m → News h₀ L h' (own ++ (D, lo (vs ++ [x]) n') :: rest) → Q .none { s with heap := h' }) :
    wpAny (model prog w) A (PySem.call (.builtin "list.append") [.ref D, x]) Q E s := by
  have hD := N (D, lo vs n) (List.mem_append_right _ (.head _))
  refine wpAny_list_append_plain (items := vs.toArray) ⟨n, hD.1⟩ (fun h' hpl hs => ?_) (by rw [List.size_toArray]; exact Nat.le_trans hsz (by decide))
  obtain ⟨n', hpl⟩ := hpl
  have e : vs.toArray.push x = (vs ++ [x]).toArray := by simp
  rw [e] at hpl
  exact h h' n' (F.change hs hD.2.1 hD.2.2) (News.setIn N h1 h2 hs hpl)
section
local macro_rules | `(tactic| walk_at "subscriptTail Name") => `(tactic| (refine item_intsE (by assumption) (by walk_at "LST") (by assumption) (by omega) (by omega) ?_; intro t'))
local macro_rules | `(tactic| walk_at "subscriptTail List") => `(tactic| (refine item_intsE (cs := adds) (by assumption) (by walk_at "LST") (by walk_at "IA") (by show _ < 4; omega) (by show 4 < 1000; decide) ?_; intro t'))
local macro_rules | `(tactic| walk_at "IA") => `(tactic| repeat (first | exact True.intro | refine ⟨rfl, ?_⟩))
theorem lw3b {w : World} {f : Nat → Obj} {A : Around} {E : Value → Shared → Prop} {s : Shared} {h₀ : Heap} {sc : Scope} {L : Addr} {cd : Value} {m : Str → Option Value} {own rest : List (Addr × Obj)} {i : Nat} {u : Tok} {sa na : Addr} {svs ws : List Value} {n : Nat} {o : Obj} {cs : List Nat}
    (X : Ex w f h₀) (hA : Rm A 2 80) (S : Sc sc lls lgs) (F : Fr h₀ L s.heap m) (N : News h₀ L s.heap (own ++ (sa, { cls := .type "list", data := .seq svs.toArray n }) :: rest))
    (h1 : ∀ p ∈ own, p.1 ≠ sa) (h2 : ∀ p ∈ rest, p.1 ≠ sa) (hi : i < 4) (hsz : svs.length ≤ 10)
    (hm1 : m "place" = some (.int (i : Int) u)) (hm2 : m "numbers" = some (.ref na)) (hm3 : m "stretches" = some (.ref sa)) (hna : (na, o) ∈ rest) (ho : ObjL o ws) (hia : IA ws cs) (hcs : cs.length = 9) (hcb : ∀ c ∈ cs, c < 1000000) :
    wpAny (model pw w) A (execs (forB (lawS 3)) (envOf "law" sc L 170 cd)) (PostN s fun h' => ∃ t m' n', Fr h₀ L h' m' ∧ Same ["rest"] m m' ∧ News h₀ L h' (own ++ (sa, { cls := .type "list", data := .seq (svs ++ [Value.str (Mine.S (pads cs i)) t]).toArray n' }) :: rest)) E s := by
  have lim : h₀.NoLimit := X.limit
  conv in forB _ => whnf
  have e1 : (2 : Int) * (i : Int) = ((2 * i : Nat) : Int) := by omega
  have e2 : (i : Int) = ((i : Nat) : Int) := rfl
  have hrest : (na, o) ∈ rest := hna
  walk_at "W"
  rename Fr h₀ L _ (fun y => if y = _ then _ else _) => F1
  rename Fr h₀ L _ m => F2
  have er : ((cs.getD (2 * i) 0 : Nat) : Int).fdiv 64 + ((adds.getD i 0 : Nat) : Int) = ((rests cs i : Nat) : Int) := by
    have := fdivN (cs.getD (2 * i) 0) 64
    rw [show (64 : Int) = ((64 : Nat) : Int) from rfl, this]
    unfold rests
    omega
  rw [er] at F1
  clear F2
  have e3 : Int.fmod ((rests cs i : Nat) : Int) 3 = ((rests cs i % 3 : Nat) : Int) := fmodN (rests cs i) 3 (by decide)
  have e4 : Int.fdiv ((rests cs i : Nat) : Int) 3 = ((rests cs i / 3 : Nat) : Int) := fdivN (rests cs i) 3
  have e5 : Int.fmod ((rests cs i / 3 : Nat) : Int) 3 = ((rests cs i / 3 % 3 : Nat) : Int) := fmodN (rests cs i / 3) 3 (by decide)
  have b1 : rests cs i % 3 < 3 := Nat.mod_lt _ (by decide)
  have b2 : rests cs i / 3 % 3 < 3 := Nat.mod_lt _ (by decide)
  generalize hk1 : rests cs i % 3 = k1 at *
  generalize hk2 : rests cs i / 3 % 3 = k2 at *
  walk_at "W"
  rename News h₀ L _ (_ :: _) => N1
  have N2 := News.rest1 N1
  clear N1 N
  refine gm_append N2 (by walk_at "MEM") ?_
  walk_at "W"
  refine app_call F1 N2 h1 h2 (by omega) fun h' n' F3 N3 => ?_
  walk_at "W"
  have ep : pads cs i = (List.replicate k1 40 ++ List.replicate k2 41) ++ [32] := by
    unfold pads pad
    rw [hk1, hk2, List.append_assoc]
  rw [← ep] at N3
  exact PostN.intro ⟨_, _, _, F3, Same.set Same.refl rfl, N3⟩
theorem post_step {h₀ : Heap} {L : Addr} {own news₁ : List (Addr × Obj)} {J : (Str → Option Value) → List (Addr × Obj) → Prop} {s : Shared} {P : Heap → Prop} (h : ∀ h', P h' → ∃ m₂ news₂, Fr h₀ L h' m₂ ∧ News h₀ L h' (own ++ news₂) ∧ news₂.map (·.1) = news₁.map (·.1) ∧ J m₂ news₂) :
    ∀ f s', PostN s P f s' → LoopStep2 h₀ L own news₁ J s f s' := by
  rintro _ _ ⟨rfl, h', tk, rfl, hP⟩
  obtain ⟨m₂, news₂, a, b, c, d⟩ := h h' hP
  exact ⟨rfl, h', tk, m₂, news₂, rfl, a, b, c, d⟩
theorem fnsc {sc : Scope} {ls gs : List Str} {name : Str} {L a : Addr} {cd : Value} (S : Sc sc ls gs) : ((envOf name sc L a cd).scope.kind == .class || ((envOf name sc L a cd).scope.kind == .module && (envOf name sc L a cd).locals != (envOf name sc L a cd).globals)) = false := by
  show (sc.kind == .class || (sc.kind == .module && L != mainGlobals)) = false; rw [S.k]; rfl
theorem strs_snoc {vs : List Value} {ys : List Str} {y : Str} {t : Tok} (h : StrsAre vs ys) : StrsAre (vs ++ [.str y t]) (ys ++ [y]) := strs_app h (.cons y t .nil)
noncomputable def padL (cs : List Nat) (i : Nat) : List Str := (List.range i).map fun k => S (pads cs k)
theorem lw3 {w : World} {f : Nat → Obj} {A : Around} {E : Value → Shared → Prop} {s : Shared} {h₀ : Heap} {sc : Scope} {L : Addr} {cd : Value} {m : Str → Option Value} {rest : List (Addr × Obj)} {sa na : Addr} {ws : List Value} {o : Obj} {cs : List Nat}
    (X : Ex w f h₀) (hA : Rm A 2 80) (S : Sc sc lls lgs) (F : Fr h₀ L s.heap m) (N : News h₀ L s.heap ((sa, lo [] 0) :: rest))
    (h2 : ∀ p ∈ rest, p.1 ≠ sa) (hm2 : m "numbers" = some (.ref na)) (hm3 : m "stretches" = some (.ref sa)) (hna : (na, o) ∈ rest) (ho : ObjL o ws) (hia : IA ws cs) (hcs : cs.length = 9) (hcb : ∀ c ∈ cs, c < 1000000)
    (hE : PassesOwn (model pw w) A (envOf "law" sc L 170 cd) E) :
    wpAny (model pw w) A (exec (lawS 3) (envOf "law" sc L 170 cd)) (PostN s fun h' => ∃ svs m' n', Fr h₀ L h' m' ∧ Same ["rest", "place"] m m' ∧ News h₀ L h' ((sa, lo svs n') :: rest) ∧ StrsAre svs (padL cs 4)) E s := by
  have lim : h₀.NoLimit := X.limit
  conv in lawS 3 => whnf
  refine For_inv2 h₀ (S.l _ (by walk_at "IN")) (fnsc S) ?_ (hE := hE)
  walk_at "W"
  rename Fr h₀ L _ m => F1
  rename News h₀ L _ _ => N1
  refine IterR (n := 4) hA.2.2 (by assumption) rfl (by decide) F1 N1
    (fun i m₁ news₁ => ∃ svs n, news₁ = (sa, lo svs n) :: rest ∧ StrsAre svs (padL cs i) ∧ Same ["rest", "place"] m m₁) ⟨[], 0, rfl, .nil, Same.refl⟩ ?_ ?_
  · rintro i u m₁ news₁ s₁ own hi ⟨svs, n, rfl, hst, hsm⟩ - hown F2 N2
    have hlen : svs.length = i := by rw [strs_len hst]; simp [padL]
    have hs2 : Same ["rest", "place"] m (fun z => if z = "place" then some (.int (i : Int) u) else m₁ z) := hsm.set (by kernel_rfl!)
    refine wpAny_mono (lw3b X hA S F2 N2 (fun p hp => hown p hp _ (.head _)) h2 hi (by omega) (if_pos rfl) (hs2.at hm2 (by kernel_rfl!)) (hs2.at hm3 (by kernel_rfl!)) hna ho hia hcs hcb) (post_step ?_) fun _ _ x => x
    rintro h' ⟨t, m', n', F3, hs3, N3⟩
    refine ⟨m', _, F3, N3, rfl, _, n', rfl, ?_, ?_⟩
    · unfold padL
      rw [List.range_succ, List.map_append]
      exact strs_snoc hst
    · intro y hy
      exact (hs3 y (by rw [List.contains_cons, Bool.or_eq_false_iff] at hy; rw [List.contains_cons, hy.1]; rfl)).trans (hs2 y hy)
  · rintro h' tk m' news' F2 N2 - ⟨svs, n, rfl, hst, hsm⟩
    exact PostN.intro ⟨svs, m', n, F2, hsm, N2, hst⟩
end
section
theorem p8_len : ((List.range 8).all fun a => decide ((p8L.getD a (0, Str.empty)).2.cps.toList.length ≤ 3)) = true := by kernel_rfl!
theorem ltr_len (n : Nat) : (ltr n).cps.toList.length ≤ 3 := by
  unfold ltr
  by_cases c1 : n % 8 < 2
  · rw [if_pos c1]; exact Nat.le_of_ble_eq_true rfl
  by_cases c2 : n % 8 < 4
  · rw [if_neg c1, if_pos c2]; exact of_decide_eq_true (by kernel_rfl!)
  by_cases c3 : n % 8 = 4
  · rw [if_neg c1, if_neg c2, if_pos c3]; exact of_decide_eq_true (by kernel_rfl!)
  by_cases c4 : n % 8 = 5
  · rw [if_neg c1, if_neg c2, if_neg c3, if_pos c4]; exact Nat.le_of_ble_eq_true rfl
  by_cases c5 : n % 8 = 6
  · rw [if_neg c1, if_neg c2, if_neg c3, if_neg c4, if_pos c5]; exact Nat.le_of_ble_eq_true rfl
  · rw [if_neg c1, if_neg c2, if_neg c3, if_neg c4, if_neg c5]; exact of_decide_eq_true (all_at p8_len (Nat.mod_lt _ (by decide)))
local macro_rules | `(tactic| walk_at "call ref") => `(tactic| first
  | (refine told_call (by walk_at "EX") (by walk_at "RM") (by assumption) ?_; intro h' tk' a u1 u2 k' ha'; have F' := Fr.kp (by assumption) k'; have N' := News.kp (by assumption) k')
  | (refine b1_call (by walk_at "EX") (by walk_at "RM") ?_; intro h' tk' k'; have F' := Fr.kp (by assumption) k'; have N' := News.kp (by assumption) k')
  | (refine b3_call (by walk_at "EX") (by assumption) (by walk_at "RM") ?_; intro h' tk' t' k'; have F' := Fr.kp (by assumption) k'; have N' := News.kp (by assumption) k'))
local macro_rules | `(tactic| walk_at "assign Tuple") => `(tactic| (refine unpackN_ (by assumption) (by assumption) (items := #[_, _]) ⟨_, by assumption, rfl, _, rfl⟩ (by assumption) (by rfl) (by rfl) ?_; intro h' F' N'))
set_option maxHeartbeats 4000000 in
theorem lw6i {w : World} {f : Nat → Obj} {kvs : List (Int × Value)} {A : Around} {E : Value → Shared → Prop} {s : Shared} {h₀ : Heap} {sc : Scope} {L : Addr} {cd : Value} {m : Str → Option Value} {news : List (Addr × Obj)} {c : Nat} {u u1 u2 : Tok} {p q : List Nat}
    (X : Ex w f h₀) (B : B3 w f kvs) (hA : Rm A 2 80) (S : Sc sc lls lgs) (F : Fr h₀ L s.heap m) (N : News h₀ L s.heap news) (hc : c < 1000000) (hp : p.length ≤ 20) (hq : q.length ≤ 20)
    (hm1 : m "number" = some (.int (c : Int) u)) (hm2 : m "plain" = some (.str (Mine.S p) u1)) (hm3 : m "folded" = some (.str (Mine.S q) u2)) :
    wpAny (model pw w) A (execs (forB ((forB (lawS 6)).getD 2 (.Pass default))) (envOf "law" sc L 170 cd)) (PostN s fun h' => ∃ t1 t2 m', Fr h₀ L h' m' ∧ Same ["sign", "letters", "falls", "prepared", "plain", "folded"] m m' ∧ News h₀ L h' news ∧ m' "plain" = some (.str (Mine.S (p ++ [sgn c])) t1) ∧ m' "folded" = some (.str (Mine.S (q ++ (ltr c).cps.toList)) t2)) E s := by
  have lim : h₀.NoLimit := X.limit
  have hh := hA.2.2
  conv in forB _ => whnf
  walk_at "W"
  all_goals have hpp := prep_sgn c
  all_goals unfold prep at hpp
  all_goals have hll := ltr_len c
  · rename_i hb _ _ _ _ hd
    rw [if_pos (by simpa using hb)] at hpp
    rw [hpp] at hd; simp at hd
  · rename_i hb _ _ _ _ hd
    rw [if_pos (by simpa using hb)] at hpp
    refine iaddS p [sgn c] rfl rfl (by walk_at "SL") ?_
    intro t' tk'
    walk_at "W"
    refine iaddS q (ltr c).cps.toList rfl (hpp.trans (S_of _)) (by omega) ?_
    intro t' tk'
    walk_at "W"
    rename Fr h₀ L _ (fun y => if y = _ then some (Value.str (Mine.S (q ++ _)) _) else _) => F1
    exact PostN.intro ⟨_, _, _, F1, ((((((Same.refl.set (by kernel_rfl!)).set (by kernel_rfl!)).set (by kernel_rfl!)).set (by kernel_rfl!)).set (by kernel_rfl!)).set (by kernel_rfl!)), by assumption, by walk_at "LK", by walk_at "LK"⟩
  · rename_i hd
    rename (_ == true) = false => hb
    rw [if_neg (by simpa using hb)] at hpp
    rw [hpp] at hd; simp at hd
  · rename_i hd
    rename (_ == true) = false => hb
    rw [if_neg (by simpa using hb)] at hpp
    refine iaddS p [sgn c] rfl rfl (by walk_at "SL") ?_
    intro t' tk'
    walk_at "W"
    refine iaddS q (ltr c).cps.toList rfl (hpp.trans (S_of _)) (by omega) ?_
    intro t' tk'
    walk_at "W"
    rename Fr h₀ L _ (fun y => if y = _ then some (Value.str (Mine.S (q ++ _)) _) else _) => F1
    exact PostN.intro ⟨_, _, _, F1, ((((((Same.refl.set (by kernel_rfl!)).set (by kernel_rfl!)).set (by kernel_rfl!)).set (by kernel_rfl!)).set (by kernel_rfl!)).set (by kernel_rfl!)), by assumption, by walk_at "LK", by walk_at "LK"⟩
  · rename_i hb hb2
    cases e : b1S ((sgn c : Nat) : Int) <;> rw [e] at hb hb2 <;> simp at hb hb2
end
section
noncomputable def sl3 (cs : List Nat) (i : Nat) : List Nat := (cs.drop (3 * i)).take 3
noncomputable def fold (l : List Nat) : List Nat := l.flatMap fun c => (ltr c).cps.toList
noncomputable def nam6 : List Str := ["sign", "letters", "falls", "prepared", "plain", "folded", "number", "place"]
theorem IA.take : ∀ {vs : List Value} {cs : List Nat}, IA vs cs → ∀ k, IA (vs.take k) (cs.take k)
  | _, _, _, 0 => True.intro
  | [], [], _, _ + 1 => True.intro
  | v :: vs, c :: cs, h, k + 1 => by
    cases v <;> first | exact h.elim | skip
    exact ⟨h.1, IA.take h.2 k⟩
  | [], _ :: _, h, _ + 1 => h.elim
  | v :: _, [], h, _ + 1 => by cases v <;> exact h.elim
theorem IA.drop : ∀ {vs : List Value} {cs : List Nat}, IA vs cs → ∀ k, IA (vs.drop k) (cs.drop k)
  | _, _, h, 0 => h
  | [], [], _, _ + 1 => True.intro
  | v :: vs, c :: cs, h, k + 1 => by
    cases v <;> first | exact h.elim | skip
    exact IA.drop h.2 k
  | [], _ :: _, h, _ + 1 => h.elim
  | v :: _, [], h, _ + 1 => by cases v <;> exact h.elim
theorem IA.len : ∀ {vs : List Value} {cs : List Nat}, IA vs cs → vs.length = cs.length
  | [], [], _ => rfl
  | v :: vs, c :: cs, h => by
    cases v <;> first | exact h.elim | skip
    rw [List.length_cons, List.length_cons, IA.len h.2]
  | [], _ :: _, h => h.elim
  | v :: _, [], h => by cases v <;> exact h.elim
local macro_rules | `(tactic| walk_at "PICK") => `(tactic| first | assumption | exact sll | exact slu (by omega) | exact slf (by omega))
theorem Same.mono {ys zs : List Str} {m m' : Str → Option Value} (h : Same ys m m') (hs : ∀ y, zs.contains y = false → ys.contains y = false) : Same zs m m' := fun y hy => h y (hs y hy)
theorem Same.trans {ys : List Str} {a b c : Str → Option Value} (h : Same ys a b) (g : Same ys b c) : Same ys a c := fun y hy => (g y hy).trans (h y hy)
theorem sub_of {ys zs : List Str} (h : ys.all (fun y => zs.contains y) = true) : ∀ y, zs.contains y = false → ys.contains y = false := by
  intro y hy
  cases e : ys.contains y with
  | false => rfl
  | true =>
    have := List.all_eq_true.mp h y (List.contains_iff_mem.mp e)
    rw [hy] at this; cases this
theorem fold_le : ∀ l : List Nat, (fold l).length ≤ 3 * l.length
  | [] => Nat.le_refl _
  | c :: r => by
    have h1 := ltr_len c
    have h2 := fold_le r
    show ((ltr c).cps.toList ++ fold r).length ≤ _
    rw [List.length_append, List.length_cons]
    omega
set_option maxHeartbeats 1000000 in
theorem lw6b {w : World} {f : Nat → Obj} {kvs : List (Int × Value)} {A : Around} {E : Value → Shared → Prop} {s : Shared} {h₀ : Heap} {sc : Scope} {L : Addr} {cd : Value} {m : Str → Option Value} {own rest : List (Addr × Obj)} {i : Nat} {u : Tok} {ra ba na : Addr} {rvs bvs ws : List Value} {n1 n2 : Nat} {o : Obj} {cs : List Nat}
    (X : Ex w f h₀) (B : B3 w f kvs) (hA : Rm A 2 80) (S : Sc sc lls lgs) (F : Fr h₀ L s.heap m) (N : News h₀ L s.heap (own ++ (ra, lo rvs n2) :: (ba, lo bvs n1) :: rest))
    (h1 : ∀ p ∈ own, p.1 ≠ ra ∧ p.1 ≠ ba) (h2 : ∀ p ∈ rest, p.1 ≠ ra ∧ p.1 ≠ ba) (h3 : ba ≠ ra) (hi : i < 3) (hs1 : rvs.length ≤ 10) (hs2 : bvs.length ≤ 10)
    (hm1 : m "place" = some (.int (i : Int) u)) (hm2 : m "numbers" = some (.ref na)) (hm3 : m "bare" = some (.ref ba)) (hm4 : m "ready" = some (.ref ra)) (hna : (na, o) ∈ rest) (ho : ObjL o ws) (hia : IA ws cs) (hcs : cs.length = 9) (hcb : ∀ c ∈ cs, c < 1000000)
    (hE : PassesOwn (model pw w) A (envOf "law" sc L 170 cd) E) :
    wpAny (model pw w) A (execs (forB (lawS 6)) (envOf "law" sc L 170 cd)) (PostN s fun h' => ∃ t1 t2 m' n1' n2', Fr h₀ L h' m' ∧ Same nam6 m m' ∧ News h₀ L h' (own ++ (ra, lo (rvs ++ [Value.str (Mine.S (fold (sl3 cs i))) t2]) n2') :: (ba, lo (bvs ++ [Value.str (Mine.S ((sl3 cs i).map sgn)) t1]) n1') :: rest)) E s := by
  have lim : h₀.NoLimit := X.limit
  have hh := hA.2.2
  have hwl := IA.len hia
  have hpick : slicePick ws.toArray (some (3 * (i : Int))) (some (3 * (i : Int) + 3)) none = ((ws.drop (3 * i)).take 3).toArray := by
    have e := slicePick_run ws.toArray (3 * i) (3 * i + 3) (by simp; omega) (by omega)
    rw [show ((3 * i + 3 : Nat) : Int) = 3 * (i : Int) + 3 by omega, show ((3 * i : Nat) : Int) = 3 * (i : Int) by omega, show 3 * i + 3 - 3 * i = 3 by omega] at e
    exact e
  conv in forB _ => whnf
  refine wpAny_execs_cons ?_
  walk_at "W"
  refine For_inv2 h₀ (S.l _ (by walk_at "IN")) (fnsc S) ?_ (hE := hE)
  walk_at "W"
  rename Fr h₀ L _ _ => F1
  rename News h₀ L _ _ => N1
  have z : (Str.ofString "" : Str) = Mine.S [] := by kernel_rfl!
  rw [z] at F1
  have hia3 := IA.take (IA.drop hia (3 * i)) 3
  have hbd : ∀ c ∈ sl3 cs i, c < 1000000 := fun c hc => hcb c (List.mem_of_mem_drop (List.mem_of_mem_take hc))
  have hln : (sl3 cs i).length = 3 := by unfold sl3; rw [List.length_take, List.length_drop]; omega
  rename News h₀ L _ (own ++ _) => N2
  refine IterL hh (by walk_at "LST") F1 N1 (off_of N2 (Nat.le_succ _))
    (fun j m₁ news₁ => news₁ = (own ++ (ra, lo rvs n2) :: (ba, lo bvs n1) :: rest) ∧ Same nam6 m m₁ ∧ (∃ t1, m₁ "plain" = some (.str (Mine.S (((sl3 cs i).take j).map sgn)) t1)) ∧ ∃ t2, m₁ "folded" = some (.str (Mine.S (fold ((sl3 cs i).take j))) t2)) ⟨rfl, ?_, ?_, ?_⟩ ?_ ?_
  · exact (Same.refl.set (by kernel_rfl!)).set (by kernel_rfl!)
  · show ∃ t1, _ = some (Value.str (Mine.S []) t1)
    exact ⟨_, by walk_at "LK"⟩
  · show ∃ t1, _ = some (Value.str (Mine.S []) t1)
    exact ⟨_, by walk_at "LK"⟩
  · rintro j v m₁ news₁ s₁ own2 hv ⟨rfl, hsm, ⟨t1, hp⟩, t2, hq⟩ - F2 N2
    have hj : j < (sl3 cs i).length := by
      have h := (List.getElem?_eq_some_iff.mp hv).1
      have := IA.len hia3
      unfold sl3
      omega
    obtain ⟨t, ht⟩ := IA.at hia3 j hj
    rw [hv] at ht
    injection ht with ht
    subst ht
    have hjc : (sl3 cs i)[j]? = some ((sl3 cs i).getD j 0) := by
      rw [List.getD_eq_getElem?_getD, List.getElem?_eq_getElem hj]; rfl
    have hmem : (sl3 cs i).getD j 0 ∈ sl3 cs i := List.mem_of_getElem? hjc
    have hs2 := hsm.set (x := "number") (v := .int (((sl3 cs i).getD j 0 : Nat) : Int) t) (by kernel_rfl!)
    have l1 : (((sl3 cs i).take j).map sgn).length ≤ 20 := by
      rw [List.length_map]
      have := List.length_take_le' j (sl3 cs i)
      omega
    have l2 : (fold ((sl3 cs i).take j)).length ≤ 20 := by
      have h1 := fold_le ((sl3 cs i).take j)
      have := List.length_take_le' j (sl3 cs i)
      omega
    refine wpAny_mono (lw6i X B hA S F2 N2 (hbd _ hmem) l1 l2 (if_pos rfl) ((if_neg (of_decide_eq_false (by kernel_rfl!))).trans hp) ((if_neg (of_decide_eq_false (by kernel_rfl!))).trans hq)) (post_step ?_) fun _ _ x => x
    rintro h' ⟨t3, t4, m', F3, hs3, N3, e1, e2⟩
    refine ⟨m', _, F3, N3, rfl, rfl, hs2.trans (hs3.mono (sub_of (by kernel_rfl!))), ⟨t3, e1.trans ?_⟩, t4, e2.trans ?_⟩
    · rw [take_next hjc, List.map_append]; rfl
    · rw [take_next hjc]
      unfold fold
      rw [List.flatMap_append]
      show _ = some (Value.str (Mine.S (_ ++ (_ ++ []))) _)
      rw [List.append_nil]
  · rintro h' tk m' news' F2 N2 - ⟨rfl, hsm, ⟨t1, hp⟩, t2, hq⟩
    have hl3 : (List.take 3 (List.drop (3 * i) ws)).length = 3 := by rw [List.length_take, List.length_drop]; omega
    rw [hl3, List.take_of_length_le (by omega)] at hp hq
    have hm3' := hsm.at hm3 (by kernel_rfl!)
    have hm4' := hsm.at hm4 (by kernel_rfl!)
    clear F1 N1 F N
    replace F2 : Fr h₀ L h' m' := F2
    replace N2 : News h₀ L h' (own ++ (ra, lo rvs n2) :: (ba, lo bvs n1) :: rest) := N2
    walk_at "W"
    rename News h₀ L h' _ => N3
    have N4 : News h₀ L h' ((own ++ [(ra, lo rvs n2)]) ++ (ba, lo bvs n1) :: rest) := by rw [List.append_assoc]; exact N3
    refine app_call F2 N4 (fun p hp => ?_) (fun p hp => (h2 p hp).2) (by omega) fun h5 n5 F5 N5 => ?_
    · rcases List.mem_append.mp hp with hp | hp
      · exact (h1 p hp).2
      · rw [List.mem_singleton.mp hp]; exact h3.symm
    rw [List.append_assoc] at N5
    replace F5 : Fr h₀ L h5 m' := F5
    replace N5 : News h₀ L h5 (own ++ (ra, lo rvs n2) :: (ba, lo (bvs ++ [Value.str (Mine.S (List.map sgn (sl3 cs i))) t1]) n5) :: rest) := N5
    clear F2 N3 N4
    walk_at "W"
    rename News h₀ L h5 _ => N6
    refine app_call F5 N6 (fun p hp => (h1 p hp).1) (fun p hp => ?_) (by omega) fun h7 n7 F7 N7 => ?_
    · rcases List.mem_cons.mp hp with rfl | hp
      · exact h3
      · exact (h2 p hp).1
    walk_at "W"
    exact PostN.intro ⟨t1, t2, m', n5, n7, F7, hsm, N7⟩
end
noncomputable def bareV (cs : List Nat) (k : Nat) : List Nat := (sl3 cs k).map sgn
noncomputable def readyV (cs : List Nat) (k : Nat) : List Nat := fold (sl3 cs k)
/-- the strings of a row -/
noncomputable def rowL (v : Nat → List Nat) (i : Nat) : List Str := (List.range i).map fun k => S (v k)
theorem rowL_succ (v : Nat → List Nat) (i : Nat) : rowL v (i + 1) = rowL v i ++ [S (v i)] := by
  unfold rowL
  rw [List.range_succ, List.map_append]; rfl
theorem rowL_len (v : Nat → List Nat) (i : Nat) : (rowL v i).length = i := by simp [rowL]
theorem lw6 {w : World} {f : Nat → Obj} {kvs : List (Int × Value)} {A : Around} {E : Value → Shared → Prop} {s : Shared} {h₀ : Heap} {sc : Scope} {L : Addr} {cd : Value} {m : Str → Option Value} {rest : List (Addr × Obj)} {ra ba na : Addr} {ws : List Value} {o : Obj} {cs : List Nat}
    (X : Ex w f h₀) (B : B3 w f kvs) (hA : Rm A 2 80) (S : Sc sc lls lgs) (F : Fr h₀ L s.heap m) (N : News h₀ L s.heap ((ra, lo [] 0) :: (ba, lo [] 0) :: rest))
    (h2 : ∀ p ∈ rest, p.1 ≠ ra ∧ p.1 ≠ ba) (h3 : ba ≠ ra)
    (hm2 : m "numbers" = some (.ref na)) (hm3 : m "bare" = some (.ref ba)) (hm4 : m "ready" = some (.ref ra)) (hna : (na, o) ∈ rest) (ho : ObjL o ws) (hia : IA ws cs) (hcs : cs.length = 9) (hcb : ∀ c ∈ cs, c < 1000000)
    (hE : PassesOwn (model pw w) A (envOf "law" sc L 170 cd) E) :
    wpAny (model pw w) A (exec (lawS 6) (envOf "law" sc L 170 cd)) (PostN s fun h' => ∃ rvs bvs m' n1' n2', Fr h₀ L h' m' ∧ Same nam6 m m' ∧ News h₀ L h' ((ra, lo rvs n2') :: (ba, lo bvs n1') :: rest) ∧ StrsAre bvs (rowL (bareV cs) 3) ∧ StrsAre rvs (rowL (readyV cs) 3)) E s := by
  have lim : h₀.NoLimit := X.limit
  conv in lawS 6 => whnf
  refine For_inv2 h₀ (S.l _ (by walk_at "IN")) (fnsc S) ?_ (hE := hE)
  walk_at "W"
  rename Fr h₀ L _ m => F1
  rename News h₀ L _ _ => N1
  refine IterR (n := 3) hA.2.2 (by assumption) rfl (by decide) F1 N1
    (fun i m₁ news₁ => ∃ rvs bvs n1 n2, news₁ = (ra, lo rvs n2) :: (ba, lo bvs n1) :: rest ∧ StrsAre bvs (rowL (bareV cs) i) ∧ StrsAre rvs (rowL (readyV cs) i) ∧ Same nam6 m m₁) ⟨[], [], 0, 0, rfl, .nil, .nil, Same.refl⟩ ?_ ?_
  · rintro i u m₁ news₁ s₁ own hi ⟨rvs, bvs, n1, n2, rfl, hst1, hst2, hsm⟩ - hown F2 N2
    have hlen1 : bvs.length = i := by rw [strs_len hst1, rowL_len]
    have hlen2 : rvs.length = i := by rw [strs_len hst2, rowL_len]
    have hs2 : Same nam6 m (fun z => if z = "place" then some (.int (i : Int) u) else m₁ z) := hsm.set (by kernel_rfl!)
    refine wpAny_mono (lw6b X B hA S F2 N2 (fun p hp => ⟨hown p hp _ (.head _), hown p hp _ (.tail _ (.head _))⟩) h2 h3 hi (by omega) (by omega) (if_pos rfl) (hs2.at hm2 (by kernel_rfl!)) (hs2.at hm3 (by kernel_rfl!)) (hs2.at hm4 (by kernel_rfl!)) hna ho hia hcs hcb hE) (post_step ?_) fun _ _ x => x
    rintro h' ⟨t1, t2, m', n1', n2', F3, hs3, N3⟩
    refine ⟨m', _, F3, N3, rfl, _, _, n1', n2', rfl, ?_, ?_, hs2.trans hs3⟩
    · rw [rowL_succ]; exact strs_snoc hst1
    · rw [rowL_succ]; exact strs_snoc hst2
  · rintro h' tk m' news' F2 N2 - ⟨rvs, bvs, n1, n2, rfl, hst1, hst2, hsm⟩
    exact PostN.intro ⟨rvs, bvs, m', n1, n2, F2, hsm, N2, hst1, hst2⟩
theorem lw7 {w : World} {A : Around} {E : Value → Shared → Prop} {s : Shared} {h₀ : Heap} {sc : Scope} {L : Addr} {cd : Value} {m : Str → Option Value} {news : List (Addr × Obj)}
    (S : Sc sc lls lgs) (F : Fr h₀ L s.heap m) (N : News h₀ L s.heap news) :
    wpAny (model pw w) A (exec (lawS 7) (envOf "law" sc L 170 cd)) (PostN s fun h' => ∃ v, Fr h₀ L h' (fun y => if y = "reply" then some v else m y) ∧ News h₀ L h' news) E s := by
  conv in lawS 7 => whnf
  walk_at "W"
  exact PostN.intro ⟨_, by assumption, by assumption⟩
/-- a reply: stretches and what stands between quotation marks -/
noncomputable def rep (e p : Nat → List Nat) : Nat → List Nat
  | 0 => p 0
  | k + 1 => rep e p k ++ ((([34] ++ e k) ++ [34]) ++ p (k + 1))
theorem sb_ne {c d : Nat} (z : List Nat) (h : ¬ c = d) : sb d z [c] = [c] := by
  show (if c = d then z else [c]) ++ [] = [c]
  rw [if_neg h]; rfl
theorem att_cons {k c : Nat} {z : List Nat} {tb : List (Nat × List Nat)} (h : ¬ c = k) : att ((k, z) :: tb) c = att tb c := by
  unfold att
  rw [List.find?_cons]
  have : (k == c) = false := by simpa using fun e => h e.symm
  dsimp only
  rw [this]
theorem c14n_one (c : Nat) : sb 13 [38, 35, 120, 68, 59] (sb 10 [38, 35, 120, 65, 59] (sb 9 [38, 35, 120, 57, 59] (sb 34 [38, 113, 117, 111, 116, 59] (sb 60 [38, 108, 116, 59] (sb 38 [38, 97, 109, 112, 59] [c]))))) = att attTb c := by
  by_cases h1 : c = 38
  · subst h1; rfl
  by_cases h2 : c = 60
  · subst h2; rfl
  by_cases h3 : c = 34
  · subst h3; rfl
  by_cases h4 : c = 9
  · subst h4; rfl
  by_cases h5 : c = 10
  · subst h5; rfl
  by_cases h6 : c = 13
  · subst h6; rfl
  rw [sb_ne _ h1, sb_ne _ h2, sb_ne _ h3, sb_ne _ h4, sb_ne _ h5, sb_ne _ h6]
  unfold attTb
  rw [att_cons h1, att_cons h2, att_cons h3, att_cons h4, att_cons h5, att_cons h6]
  rfl
theorem c14n_eq : ∀ l : List Nat, sb 13 [38, 35, 120, 68, 59] (sb 10 [38, 35, 120, 65, 59] (sb 9 [38, 35, 120, 57, 59] (sb 34 [38, 113, 117, 111, 116, 59] (sb 60 [38, 108, 116, 59] (sb 38 [38, 97, 109, 112, 59] l))))) = wr attTb l
  | [] => rfl
  | c :: r => by
    show _ = att attTb c ++ wr attTb r
    rw [← c14n_eq r, ← c14n_one c, ← sb_append, ← sb_append, ← sb_append, ← sb_append, ← sb_append, ← sb_append]
    rfl
theorem html_one (c : Nat) : sb 34 [38, 113, 117, 111, 116, 59] (sb 62 [38, 103, 116, 59] (sb 38 [38, 97, 109, 112, 59] [c])) = att htmTb c := by
  by_cases h1 : c = 38
  · subst h1; rfl
  by_cases h2 : c = 62
  · subst h2; rfl
  by_cases h3 : c = 34
  · subst h3; rfl
  rw [sb_ne _ h1, sb_ne _ h2, sb_ne _ h3]
  unfold htmTb
  rw [att_cons h1, att_cons h2, att_cons h3]
  rfl
theorem html_eq : ∀ l : List Nat, sb 34 [38, 113, 117, 111, 116, 59] (sb 62 [38, 103, 116, 59] (sb 38 [38, 97, 109, 112, 59] l)) = wr htmTb l
  | [] => rfl
  | c :: r => by
    show _ = att htmTb c ++ wr htmTb r
    rw [← html_eq r, ← html_one c, ← sb_append, ← sb_append, ← sb_append]
    rfl
section
variable {w : World} {f : Nat → Obj} {A : Around} {E : Value → Shared → Prop} {s : Shared} {x : Str} {l : List Nat} {t : Tok} {Q : Value → Shared → Prop} 
theorem c14n' (hx : x = S l) (X : Ex w f s.heap) (hroom : Rm A 1 20) (hl : l.length ≤ 50)
    (hQ : ∀ h' tk t', Kp s.heap h' → Q (.str (S (wr attTb l)) t') { s with heap := h', toks := tk }) : wpAny (model pw w) A (PySem.call (.ref 52) [.str x t]) Q E s := by
  subst hx
  refine c14n_call X hroom (by rw [S_len]; exact hl) fun h' tk t' k => ?_
  rw [c14n_eq]
  exact hQ _ _ _ k
theorem attr' (hx : x = S l) (X : Ex w f s.heap) (hroom : Rm A 1 20) (hl : l.length ≤ 50)
    (hQ : ∀ h' tk t', Kp s.heap h' → Q (.str (S (wr attTb l)) t') { s with heap := h', toks := tk }) : wpAny (model pw w) A (PySem.call (.ref 143) [.str x t]) Q E s := by
  subst hx
  refine attr_call X hroom (by rw [S_len]; exact Nat.le_trans hl (by decide)) fun h' tk t' k => ?_
  exact hQ _ _ _ k
theorem html' (hx : x = S l) (X : Ex w f s.heap) (hroom : Rm A 1 20) (hl : l.length ≤ 1000)
    (hQ : ∀ h' tk t', Kp s.heap h' → Q (.str (S (wr htmTb l)) t') { s with heap := h', toks := tk }) : wpAny (model pw w) A (PySem.call (.ref 45) [.str x t]) Q E s := by
  subst hx
  refine html_call X hroom (by rw [S_len]; exact hl) fun h' tk t' k => ?_
  rw [html_eq]
  exact hQ _ _ _ k
theorem anew' (hx : x = S l) (X : Ex w f s.heap) (hroom : Rm A 1 20) (hl : l.length ≤ 1000)
    (hQ : ∀ h' tk t', Kp s.heap h' → Q (.str (S (wr htmTb l)) t') { s with heap := h', toks := tk }) : wpAny (model pw w) A (PySem.call (.ref 148) [.str x t]) Q E s := by
  subst hx
  exact anew_call X hroom (by rw [S_len]; exact hl) fun h' tk t' k => hQ _ _ _ k
/-- the brackets open in a text as bytes -/
noncomputable def op8 (l : List Nat) : Int := open' (l.flatMap u8)
theorem nats_eq {b : Array UInt8} {l : List Nat} (h : b.toList.map (·.toNat) = l) : (nats b).toList = l := by
  rw [← h]; simp [nats]
theorem paren2' {b : Array UInt8} {u : Tok} {d : Int} (hb : b.toList.map (·.toNat) = l.flatMap u8) (X : Ex w f s.heap) (hroom : Rm A 1 20) (hl : b.size ≤ 100000)
    (hQ : ∀ h' tk t', Kp s.heap h' → Q (.int (d + op8 l) t') { s with heap := h', toks := tk }) : wpAny (model pw w) A (PySem.call (.ref 65) [.bytes b t, .int d u]) Q E s := by
  refine paren2 X hroom hl fun h' tk t' k => ?_
  rw [nats_eq hb]
  exact hQ _ _ _ k
theorem paren1' {b : Array UInt8} (hb : b.toList.map (·.toNat) = l.flatMap u8) (X : Ex w f s.heap) (hroom : Rm A 1 20) (hl : b.size ≤ 100000)
    (hQ : ∀ h' tk t', Kp s.heap h' → Q (.int (op8 l) t') { s with heap := h', toks := tk }) : wpAny (model pw w) A (PySem.call (.ref 65) [.bytes b t]) Q E s := by
  refine paren1 X hroom hl fun h' tk t' k => ?_
  rw [nats_eq hb]
  exact hQ _ _ _ k
theorem u8_le (c : Nat) : (u8 c).length ≤ 4 := by unfold u8; rw [List.length_map]; exact u8_len c
theorem u8s_le : ∀ l : List Nat, (l.flatMap u8).length ≤ 4 * l.length
  | [] => Nat.le_refl _
  | c :: r => by
    have h1 := u8_le c
    have h2 := u8s_le r
    rw [List.flatMap_cons, List.length_append, List.length_cons]
    omega
/-- signs that can be written as bytes -/
noncomputable def Nar (l : List Nat) : Prop := ∀ c ∈ l, c < 1114112 ∧ Str.isSurrogate c = false
theorem enc' {u : Tok} (hx : x = S l) (hn : Nar l) (hl : l.length ≤ 20000)
    (h : ∀ out tk, out.toList.map (·.toNat) = l.flatMap u8 → out.size ≤ 100000 → Q (.bytes out tk) { s with toks := s.toks + 1 }) : wpAny (model pw w) A (PySem.call (.builtin "str.encode") [.str x t, .str "utf-8" u]) Q E s := by
  subst hx
  refine enc_call (fun c hc => (hn c hc).2) (by rw [S_len]; exact hl) fun out tk e => h out tk e ?_
  have h1 := congrArg List.length e
  rw [List.length_map] at h1
  have h2 := u8s_le l
  have h3 : out.toList.length = out.size := rfl
  have h4 : ((S l).cps.toList.flatMap u8).length = (l.flatMap u8).length := rfl
  omega
end
theorem item_atE {prog : Program} {w : World} {A : Around} {E : Value → Shared → Prop} {s : Shared} {value slice : Expr} {a : Addr} {vs : List Value} {u : Tok} {Q : Value → Shared → Prop} {j : Int} {k : Nat} {x : Value} (e : j = (k : Int)) (hl : s.heap.IsList a vs.toArray) (hx : vs[k]? = some x) (hk : k < 1000) (h : Q x s)
    (hs : subscripted slice false (.ref a) (.int j u) = operate [.ref a, .int j u] (getItem (.ref a) (.int j u)) := by with_unfolding_all rfl) :
    wpAny (model prog w) A (subscriptTail value slice (.ref a) (.int j u)) Q E s := by
  subst e
  exact item_at hl hx hk h hs
local macro_rules | `(tactic| walk_at "subscriptTail Name") => `(tactic| (refine item_atE (by assumption) (by walk_at "LST") (by assumption) (by omega) ?_))
local macro_rules | `(tactic| walk_at "PICK") => `(tactic| first | assumption | exact sll | exact slu (by omega) | exact slf (by omega))
theorem gm_enc {w : World} {A : Around} {E : Value → Shared → Prop} {s : Shared} {x : Str} {t : Tok} {pl : Sem Bool} {Q : Value × List Value → Shared → Prop} (h : Q (.builtin "str.encode", [.str x t]) s) : wpAny (model pw w) A (getMethod (.str x t) "encode" pl) Q E s :=
  getMethod_builtin (T := "str") rfl F.plainAttrs_str F.slot_str_encode F.type_str_encode (fun a e => by cases e) h
local macro_rules | `(tactic| walk_at "getMethod str") => `(tactic| refine gm_enc ?_)
local macro_rules | `(tactic| walk_at "call builtin:str.encode") => `(tactic| (refine enc' (by with_reducible rfl) (by assumption) (by assumption) ?_; intro out tk' eo so))
local macro_rules | `(tactic| walk_at "call ref") => `(tactic| first
  | (refine c14n' (by with_reducible rfl) (by walk_at "EX") (by walk_at "RM") (by assumption) ?_; intro h' tk' t' k'; have F' := Fr.kp (by assumption) k'; have N' := News.kp (by assumption) k')
  | (refine attr' (by with_reducible rfl) (by walk_at "EX") (by walk_at "RM") (by assumption) ?_; intro h' tk' t' k'; have F' := Fr.kp (by assumption) k'; have N' := News.kp (by assumption) k')
  | (refine paren2' (by assumption) (by walk_at "EX") (by walk_at "RM") (by assumption) ?_; intro h' tk' t' k'; have F' := Fr.kp (by assumption) k'; have N' := News.kp (by assumption) k')
  | (refine counted_call (by walk_at "EX") (by walk_at "RM") (by walk_at "LST") (by assumption) (by walk_at "LST") (by assumption) (by assumption) (by assumption) (by assumption) ?_; intro h' tk' t' k'; have F' := Fr.kp (by assumption) k'; have N' := News.kp (by assumption) k'))
noncomputable def nam8 : List Str := ["written", "reply", "due", "place"]
set_option maxHeartbeats 4000000 in
theorem lw8i {w : World} {f : Nat → Obj} {A : Around} {E : Value → Shared → Prop} {s : Shared} {h₀ : Heap} {sc : Scope} {L : Addr} {cd : Value} {m : Str → Option Value} {news : List (Addr × Obj)} {i n1 n2 : Nat} {u u1 u2 : Tok} {va sa : Addr} {vvs svs : List Value} {v p : Nat → List Nat} {b : Int} {r : List Nat}
    (X : Ex w f h₀) (hA : Rm A 2 80) (S : Sc sc lls lgs) (F : Fr h₀ L s.heap m) (N : News h₀ L s.heap news) (hva : (va, lo vvs n1) ∈ news) (hsa : (sa, lo svs n2) ∈ news) (hvs : StrsAre vvs (rowL v 3)) (hss : StrsAre svs (rowL p 4)) (hi : i < 3)
    (hr : r.length ≤ 1000) (hvl : ∀ k, (v k).length ≤ 50) (hpl : ∀ k, (p k).length ≤ 50)
    (hn : Nar (r ++ ((([34] ++ wr attTb (v i)) ++ [34]) ++ p (i + 1)))) (hlaw : op8 (r ++ ((([34] ++ wr attTb (v i)) ++ [34]) ++ p (i + 1))) = counted (rowL v (i + 1)) (rowL p (i + 2)))
    (hm1 : m "place" = some (.int (i : Int) u)) (hm2 : m "values" = some (.ref va)) (hm3 : m "stretches" = some (.ref sa)) (hm4 : m "reply" = some (.str (Mine.S r) u1)) (hm5 : m "begun" = some (.int b u2)) :
    wpAny (model pw w) A (execs (forB ((forB (lawS 8)).getD 1 (.Pass default))) (envOf "law" sc L 170 cd)) (PostN s fun h' => ∃ t1 m', Fr h₀ L h' m' ∧ Same nam8 m m' ∧ News h₀ L h' news ∧ m' "reply" = some (.str (Mine.S (r ++ ((([34] ++ wr attTb (v i)) ++ [34]) ++ p (i + 1)))) t1)) E s := by
  have lim : h₀.NoLimit := X.limit
  have hh := hA.2.2
  have e2 : (i : Int) = ((i : Nat) : Int) := rfl
  have e1 : (i : Int) + 1 = ((i + 1 : Nat) : Int) := rfl
  have hvn : vvs.length = 3 := by rw [strs_len hvs, rowL_len]
  have hsn : svs.length = 4 := by rw [strs_len hss, rowL_len]
  have rowat : ∀ (q : Nat → List Nat) (n k : Nat), k < n → (rowL q n)[k]? = some (Mine.S (q k)) := fun q n k hk => by simp [rowL, hk]
  obtain ⟨y1, tv, hv, hy1⟩ := strs_at hvs i (by rw [rowL_len]; exact hi)
  rw [rowat v 3 i hi] at hy1
  injection hy1 with hy1
  subst hy1
  obtain ⟨y2, tp, hp, hy2⟩ := strs_at hss (i + 1) (by rw [rowL_len]; omega)
  rw [rowat p 4 (i + 1) (by omega)] at hy2
  injection hy2 with hy2
  subst hy2
  have rowtk : ∀ (q : Nat → List Nat) (n k : Nat), k ≤ n → (rowL q n).take k = rowL q k := fun q n k hk => by
    unfold rowL
    rw [← List.map_take, List.take_range, Nat.min_eq_left hk]
  have hst1 : StrsAre (vvs.take (i + 1)) (rowL v (i + 1)) := by rw [← rowtk v 3 (i + 1) (by omega)]; exact strs_take hvs _
  have hst2 : StrsAre (svs.take (i + 2)) (rowL p (i + 2)) := by rw [← rowtk p 4 (i + 2) (by omega)]; exact strs_take hss _
  have hc1 : (rowL v (i + 1)).length ≤ 10 := by rw [rowL_len]; omega
  have hc2 : (rowL p (i + 2)).length ≤ 10 := by rw [rowL_len]; omega
  have hb : ∀ y ∈ rowL v (i + 1) ++ rowL p (i + 2), y.length ≤ 1000 := by
    intro y hy
    rcases List.mem_append.mp hy with hy | hy
    · obtain ⟨k, _, rfl⟩ := List.mem_map.mp hy
      rw [S_len]; have := hvl k; omega
    · obtain ⟨k, _, rfl⟩ := List.mem_map.mp hy
      rw [S_len]; have := hpl k; omega
  have hvi := hvl i
  have hpi := hpl (i + 1)
  have hwl : (wr attTb (v i)).length ≤ 300 := by
    have := wr_len attTb (by kernel_rfl!) (v i)
    omega
  have hrl : (r ++ ((([34] ++ wr attTb (v i)) ++ [34]) ++ p (i + 1))).length ≤ 20000 := by
    simp only [List.length_append, List.length_cons, List.length_nil]; omega
  have hpk1 : slicePick vvs.toArray none (some ((i : Int) + 1)) none = (vvs.take (i + 1)).toArray := slu (by omega)
  have hpk2 : slicePick svs.toArray none (some ((i : Int) + 2)) none = (svs.take (i + 2)).toArray := slu (by omega)
  conv in forB _ => whnf
  walk_at "W"
  · rename_i hc
    simp at hc
  · rename_i hc
    exfalso
    apply hc
    have e : op8 _ = _ := hlaw
    exact congrArg (fun z => b + z) e
  · rename Fr h₀ L _ (fun y => if y = Str.ofString "due" then _ else _) => F1
    rename News h₀ L _ _ => N1
    refine PostN.intro ⟨_, _, F1, ((Same.refl.set (by kernel_rfl!)).set (by kernel_rfl!)).set (by kernel_rfl!), fun q hq => N1 q ?_, (if_neg (of_decide_eq_false (by kernel_rfl!))).trans (if_pos rfl)⟩
    exact .tail _ (.tail _ hq)
theorem rep_len {e p : Nat → List Nat} (he : ∀ k, (e k).length ≤ 60) (hp : ∀ k, (p k).length ≤ 10) : ∀ k, (rep e p k).length ≤ 10 + 72 * k
  | 0 => hp 0
  | k + 1 => by
    have h1 := rep_len he hp k
    have h2 := he k
    have h3 := hp (k + 1)
    show (rep e p k ++ ((([34] ++ e k) ++ [34]) ++ p (k + 1))).length ≤ _
    simp only [List.length_append, List.length_cons, List.length_nil]
    omega
noncomputable def attV (v : Nat → List Nat) (k : Nat) : List Nat := wr attTb (v k)
theorem rowat {q : Nat → List Nat} {n k : Nat} (hk : k < n) : (rowL q n)[k]? = some (S (q k)) := by simp [rowL, hk]
theorem row_at {vs : List Value} {q : Nat → List Nat} {n k : Nat} (h : StrsAre vs (rowL q n)) (hk : k < n) : ∃ t, vs[k]? = some (.str (S (q k)) t) := by
  obtain ⟨y1, tv, hv, hy1⟩ := strs_at h k (by rw [rowL_len]; exact hk)
  rw [rowat hk] at hy1
  injection hy1 with hy1
  subst hy1
  exact ⟨tv, hv⟩
set_option maxHeartbeats 1000000 in
theorem lw8b {w : World} {f : Nat → Obj} {A : Around} {E : Value → Shared → Prop} {s : Shared} {h₀ : Heap} {sc : Scope} {L : Addr} {cd : Value} {m : Str → Option Value} {news : List (Addr × Obj)} {n1 n2 : Nat} {u2 : Tok} {va sa : Addr} {vvs svs : List Value} {v p : Nat → List Nat} {b : Int}
    (X : Ex w f h₀) (hA : Rm A 2 80) (S : Sc sc lls lgs) (F : Fr h₀ L s.heap m) (N : News h₀ L s.heap news) (hva : (va, lo vvs n1) ∈ news) (hsa : (sa, lo svs n2) ∈ news) (hvs : StrsAre vvs (rowL v 3)) (hss : StrsAre svs (rowL p 4))
    (hvl : ∀ k, (v k).length ≤ 10) (hpl : ∀ k, (p k).length ≤ 10)
    (hn : ∀ i, i < 3 → Nar (rep (attV v) p (i + 1))) (hlaw : ∀ i, i < 3 → op8 (rep (attV v) p (i + 1)) = counted (rowL v (i + 1)) (rowL p (i + 2)))
    (hm2 : m "values" = some (.ref va)) (hm3 : m "stretches" = some (.ref sa)) (hm5 : m "begun" = some (.int b u2))
    (hE : PassesOwn (model pw w) A (envOf "law" sc L 170 cd) E) :
    wpAny (model pw w) A (execs (forB (lawS 8)) (envOf "law" sc L 170 cd)) (PostN s fun h' => ∃ t1 m', Fr h₀ L h' m' ∧ Same nam8 m m' ∧ News h₀ L h' news ∧ m' "reply" = some (.str (Mine.S (rep (attV v) p 3)) t1)) E s := by
  have lim : h₀.NoLimit := X.limit
  have hh := hA.2.2
  have e0 : (0 : Int) = ((0 : Nat) : Int) := rfl
  obtain ⟨tp, hp0⟩ := row_at hss (k := 0) (by decide)
  have hel : ∀ k, (attV v k).length ≤ 60 := fun k => by
    have := wr_len attTb (by kernel_rfl!) (v k)
    have := hvl k
    unfold attV
    omega
  have hrl := rep_len hel hpl
  conv in forB _ => whnf
  walk_at "W"
  refine For_inv2 h₀ (S.l _ (by walk_at "IN")) (fnsc S) ?_ (hE := hE)
  walk_at "W"
  rename Fr h₀ L _ _ => F1
  rename News h₀ L _ _ => N1
  refine IterR (n := 3) hA.2.2 (by assumption) rfl (by decide) F1 N1
    (fun i m₁ news₁ => news₁ = news ∧ Same nam8 m m₁ ∧ ∃ t, m₁ "reply" = some (.str (Mine.S (rep (attV v) p i)) t)) ⟨rfl, Same.refl.set (by kernel_rfl!), _, if_pos rfl⟩ ?_ ?_
  · rintro i u m₁ news₁ s₁ own hi ⟨rfl, hsm, t, hr⟩ - hown F2 N2
    have hs2 : Same nam8 m (fun z => if z = "place" then some (.int (i : Int) u) else m₁ z) := hsm.set (by kernel_rfl!)
    refine wpAny_mono (lw8i X hA S F2 N2 (List.mem_append_right _ hva) (List.mem_append_right _ hsa) hvs hss hi (by have := hrl i; omega) (fun k => Nat.le_trans (hvl k) (by decide)) (fun k => Nat.le_trans (hpl k) (by decide)) (hn i hi) (hlaw i hi) (if_pos rfl)
      (hs2.at hm2 (by kernel_rfl!)) (hs2.at hm3 (by kernel_rfl!)) ((if_neg (of_decide_eq_false (by kernel_rfl!))).trans hr) (hs2.at hm5 (by kernel_rfl!))) (post_step ?_) fun _ _ x => x
    rintro h' ⟨t1, m', F3, hs3, N3, e⟩
    exact ⟨m', _, F3, N3, rfl, rfl, hs2.trans hs3, t1, e⟩
  · rintro h' tk m' news' F2 N2 - ⟨rfl, hsm, t, hr⟩
    walk_at "W"
    exact PostN.intro ⟨t, m', F2, hsm, N2, hr⟩
noncomputable def nam9 : List Str := ["written", "reply", "due", "place", "values"]
set_option maxHeartbeats 1000000 in
theorem lw8 {w : World} {f : Nat → Obj} {A : Around} {E : Value → Shared → Prop} {s : Shared} {h₀ : Heap} {sc : Scope} {L : Addr} {cd : Value} {m : Str → Option Value} {news : List (Addr × Obj)} {n1 n2 n3 : Nat} {u2 : Tok} {ba ra sa : Addr} {bvs rvs svs : List Value} {v v' p : Nat → List Nat} {b : Int}
    (X : Ex w f h₀) (hA : Rm A 2 80) (S : Sc sc lls lgs) (F : Fr h₀ L s.heap m) (N : News h₀ L s.heap news) (hba : (ba, lo bvs n1) ∈ news) (hra : (ra, lo rvs n3) ∈ news) (hsa : (sa, lo svs n2) ∈ news) (hvs : StrsAre bvs (rowL v 3)) (hvs' : StrsAre rvs (rowL v' 3)) (hss : StrsAre svs (rowL p 4))
    (hvl : ∀ k, (v k).length ≤ 10) (hvl' : ∀ k, (v' k).length ≤ 10) (hpl : ∀ k, (p k).length ≤ 10)
    (hn : ∀ i, i < 3 → Nar (rep (attV v) p (i + 1))) (hlaw : ∀ i, i < 3 → op8 (rep (attV v) p (i + 1)) = counted (rowL v (i + 1)) (rowL p (i + 2)))
    (hn' : ∀ i, i < 3 → Nar (rep (attV v') p (i + 1))) (hlaw' : ∀ i, i < 3 → op8 (rep (attV v') p (i + 1)) = counted (rowL v' (i + 1)) (rowL p (i + 2)))
    (hm2 : m "bare" = some (.ref ba)) (hm1 : m "ready" = some (.ref ra)) (hm3 : m "stretches" = some (.ref sa)) (hm5 : m "begun" = some (.int b u2))
    (hE : PassesOwn (model pw w) A (envOf "law" sc L 170 cd) E) :
    wpAny (model pw w) A (exec (lawS 8) (envOf "law" sc L 170 cd)) (PostN s fun h' => ∃ t1 m', Fr h₀ L h' m' ∧ Same nam9 m m' ∧ News h₀ L h' news ∧ m' "reply" = some (.str (Mine.S (rep (attV v') p 3)) t1)) E s := by
  have lim : h₀.NoLimit := X.limit
  have hh := hA.2.2
  conv in lawS 8 => whnf
  refine For_inv2 h₀ (S.l _ (by walk_at "IN")) (fnsc S) ?_ (hE := hE)
  walk_at "W"
  rename Fr h₀ L _ _ => F1
  rename News h₀ L _ (_ :: _) => N1
  refine IterL (vs := [.ref ba, .ref ra]) hh (by walk_at "LST") F1 N1 (off_of N (Nat.le_refl _))
    (fun j m₁ news₁ => news₁ = news ∧ Same nam9 m m₁ ∧ (j = 2 → ∃ t, m₁ "reply" = some (.str (Mine.S (rep (attV v') p 3)) t))) ⟨rfl, Same.refl, fun h => by cases h⟩ ?_ ?_
  · rintro j vv m₁ news₁ s₁ own hv ⟨rfl, hsm, -⟩ - F2 N2
    have hs2 := hsm.set (x := "values") (v := vv) (by kernel_rfl!)
    have sub := sub_of (ys := nam8) (zs := nam9) (by kernel_rfl!)
    rcases j with _ | _ | j
    · injection hv with hv
      subst hv
      refine wpAny_mono (lw8b X hA S F2 N2 (List.mem_append_right _ hba) (List.mem_append_right _ hsa) hvs hss hvl hpl hn hlaw (if_pos rfl) (hs2.at hm3 (by kernel_rfl!)) (hs2.at hm5 (by kernel_rfl!)) hE) (post_step ?_) fun _ _ x => x
      rintro h' ⟨t1, m', F3, hs3, N3, e⟩
      exact ⟨m', _, F3, N3, rfl, rfl, hs2.trans (hs3.mono sub), fun h => by cases h⟩
    · injection hv with hv
      subst hv
      refine wpAny_mono (lw8b X hA S F2 N2 (List.mem_append_right _ hra) (List.mem_append_right _ hsa) hvs' hss hvl' hpl hn' hlaw' (if_pos rfl) (hs2.at hm3 (by kernel_rfl!)) (hs2.at hm5 (by kernel_rfl!)) hE) (post_step ?_) fun _ _ x => x
      rintro h' ⟨t1, m', F3, hs3, N3, e⟩
      exact ⟨m', _, F3, N3, rfl, rfl, hs2.trans (hs3.mono sub), fun _ => ⟨t1, e⟩⟩
    · cases hv
  · rintro h' tk m' news' F2 N2 - ⟨rfl, hsm, hr⟩
    obtain ⟨t, hr⟩ := hr rfl
    exact PostN.intro ⟨t, m', F2, hsm, N2, hr⟩
section
local macro_rules | `(tactic| walk_at "call ref") => `(tactic| first
  | (refine html' (by with_reducible rfl) (by walk_at "EX") (by walk_at "RM") (by assumption) ?_; intro h' tk' t' k'; have F' := Fr.kp (by assumption) k'; have N' := News.kp (by assumption) k')
  | (refine anew' (by with_reducible rfl) (by walk_at "EX") (by walk_at "RM") (by assumption) ?_; intro h' tk' t' k'; have F' := Fr.kp (by assumption) k'; have N' := News.kp (by assumption) k')
  | (refine paren1' (by assumption) (by walk_at "EX") (by walk_at "RM") (by assumption) ?_; intro h' tk' t' k'; have F' := Fr.kp (by assumption) k'; have N' := News.kp (by assumption) k')
  | (refine paren2' (by assumption) (by walk_at "EX") (by walk_at "RM") (by assumption) ?_; intro h' tk' t' k'; have F' := Fr.kp (by assumption) k'; have N' := News.kp (by assumption) k'))
theorem lw9 {w : World} {f : Nat → Obj} {A : Around} {E : Value → Shared → Prop} {s : Shared} {h₀ : Heap} {sc : Scope} {L : Addr} {cd : Value} {m : Str → Option Value} {news : List (Addr × Obj)} {u : Tok} {r : List Nat}
    (X : Ex w f h₀) (hA : Rm A 2 80) (S : Sc sc lls lgs) (F : Fr h₀ L s.heap m) (N : News h₀ L s.heap news) (hm : m "reply" = some (.str (Mine.S r) u)) (hr : r.length ≤ 1000) :
    wpAny (model pw w) A (exec (lawS 9) (envOf "law" sc L 170 cd)) (PostN s fun h' => ∃ t, Fr h₀ L h' (fun y => if y = "anew" then some (.str (Mine.S (wr htmTb r)) t) else m y) ∧ News h₀ L h' news) E s := by
  conv in lawS 9 => whnf
  walk_at "W"
  exact PostN.intro ⟨_, by assumption, by assumption⟩
theorem lw10 {w : World} {f : Nat → Obj} {A : Around} {E : Value → Shared → Prop} {s : Shared} {h₀ : Heap} {sc : Scope} {L : Addr} {cd : Value} {m : Str → Option Value} {news : List (Addr × Obj)} {n2 n3 : Nat} {ra sa : Addr} {rvs svs : List Value} {v' p : Nat → List Nat}
    (X : Ex w f h₀) (hA : Rm A 2 80) (S : Sc sc lls lgs) (F : Fr h₀ L s.heap m) (N : News h₀ L s.heap news) (hra : (ra, lo rvs n3) ∈ news) (hsa : (sa, lo svs n2) ∈ news) (hvs' : StrsAre rvs (rowL v' 3)) (hss : StrsAre svs (rowL p 4))
    (hvl' : ∀ k, (v' k).length ≤ 10) (hpl : ∀ k, (p k).length ≤ 10) (hm1 : m "ready" = some (.ref ra)) (hm3 : m "stretches" = some (.ref sa)) :
    wpAny (model pw w) A (exec (lawS 10) (envOf "law" sc L 170 cd)) (PostN s fun h' => ∃ t, Fr h₀ L h' (fun y => if y = "every" then some (.int ((rowL p 4 ++ rowL v' 3).map more).sum t) else m y) ∧ News h₀ L h' news) E s := by
  have lim : h₀.NoLimit := X.limit
  have hvn : rvs.length = 3 := by rw [strs_len hvs', rowL_len]
  have hsn : svs.length = 4 := by rw [strs_len hss, rowL_len]
  conv in lawS 10 => whnf
  walk_at "W"
  rename Fr h₀ L _ _ => F1
  rename News h₀ L _ (_ :: _) => N1
  have hz := strs_app hss hvs'
  refine srcK MoreR hA.2.2 (by walk_at "LST") (by walk_at "SZL") ?_ ?_
  · intro C v s₂ m₂ E' hv hn hm hk
    have X2 : Ex w f s₂.heap := (X.kp F1.keep).kp hk
    walk_at "W"
    obtain ⟨y, t, rfl, hy⟩ := strs_mem hz v hv
    refine more_call X2 (by walk_at "RM") ?_ fun h' tk t' k => ⟨⟨y, t, t', rfl, rfl⟩, ⟨_, _, rfl, k⟩⟩
    rcases List.mem_append.mp hy with hy | hy
    · obtain ⟨k, _, rfl⟩ := List.mem_map.mp hy
      rw [S_len]; exact Nat.le_trans (hpl k) (by decide)
    · obtain ⟨k, _, rfl⟩ := List.mem_map.mp hy
      rw [S_len]; exact Nat.le_trans (hvl' k) (by decide)
  · intro D ys h' tk' hk hnew hl hp
    have F2 := Fr.kp F1 hk
    have N2 := News.rest1 (News.kp N1 hk)
    walk_at "W"
    refine sumK hA.2.2 hl (more_ints hz hp) fun h3 tk3 t3 k3 => ?_
    have F3 := Fr.kp F2 k3
    have N3 := News.kp N2 k3
    clear F1 F2 N1 N2
    walk_at "W"
    exact PostN.intro ⟨_, by assumption, by assumption⟩
theorem lw11 {w : World} {f : Nat → Obj} {A : Around} {E : Value → Shared → Prop} {s : Shared} {h₀ : Heap} {sc : Scope} {L : Addr} {cd : Value} {m : Str → Option Value} {news : List (Addr × Obj)} {u t t' : Tok} {r : List Nat} {n : Int}
    (X : Ex w f h₀) (hA : Rm A 2 80) (S : Sc sc lls lgs) (F : Fr h₀ L s.heap m) (N : News h₀ L s.heap news) (hm : m "reply" = some (.str (Mine.S r) u)) (hm2 : m "anew" = some (.str (Mine.S (wr htmTb r)) t)) (hm3 : m "every" = some (.int n t')) (hr : r.length ≤ 1000) (hlen : (wr htmTb r).length ≤ 20000)
    (hn : Nar (wr htmTb r)) (hlaw : op8 (wr htmTb r) = n) :
    wpAny (model pw w) A (exec (lawS 11) (envOf "law" sc L 170 cd)) (PostN s fun h' => Fr h₀ L h' m ∧ News h₀ L h' news) E s := by
  conv in lawS 11 => whnf
  walk_at "W"
  · rename_i hc
    simp at hc
  · exact PostN.intro ⟨by assumption, by assumption⟩
theorem lw12 {w : World} {f : Nat → Obj} {A : Around} {E : Value → Shared → Prop} {s : Shared} {h₀ : Heap} {sc : Scope} {L : Addr} {cd : Value} {m : Str → Option Value} {news : List (Addr × Obj)} {n2 : Nat} {sa : Addr} {svs : List Value} {p : Nat → List Nat}
    (X : Ex w f h₀) (S : Sc sc lls lgs) (F : Fr h₀ L s.heap m) (N : News h₀ L s.heap news) (hsa : (sa, lo svs n2) ∈ news) (hss : StrsAre svs (rowL p 4)) (hm3 : m "stretches" = some (.ref sa)) :
    wpAny (model pw w) A (exec (lawS 12) (envOf "law" sc L 170 cd)) (PostN s fun h' => ∃ t, Fr h₀ L h' (fun y => if y = "proper" then some (.str (Mine.S (p 0)) t) else m y) ∧ News h₀ L h' news) E s := by
  have e0 : (0 : Int) = ((0 : Nat) : Int) := rfl
  obtain ⟨tp, hp0⟩ := row_at hss (k := 0) (by decide)
  conv in lawS 12 => whnf
  walk_at "W"
  exact PostN.intro ⟨_, by assumption, by assumption⟩
noncomputable def quoV (v : Nat → List Nat) (k : Nat) : List Nat := sb 34 [92, 34] (sb 92 [92, 92] (v k))
noncomputable def nam13 : List Str := ["quoted", "proper", "place"]
theorem IterRT {prog : Program} {w : World} {A : Around} {s : Shared} {env : Env} {h₀ : Heap} {E : Value → Shared → Prop} {Q : Flow → Shared → Prop} {x : Str} {px : Pos} {body : List Stmt} {m : Str → Option Value} {news : List (Addr × Obj)} {r : Addr} {n : Nat} {k : Int} {t u v : Tok} (hh : A.handled = none) (hr : IsRange s.heap r 0 k 1 t u v) (hk : k = (n : Int)) (hn : n ≤ 10) (F : Fr h₀ env.locals s.heap m) (N : News h₀ env.locals s.heap news)
    (hx : env.kindOf x = some .local) (hp : (env.scope.kind == .class || (env.scope.kind == .module && env.locals != env.globals)) = false)
    (J : Nat → (Str → Option Value) → Prop) (h0 : J 0 m)
    (step : ∀ (i : Nat) u m₁ s₁ own, i < n → J i m₁ → Fr h₀ env.locals s₁.heap (fun z => if z = x then some (.int (i : Int) u) else m₁ z) → News h₀ env.locals s₁.heap (own ++ news) → 1 ≤ s₁.toks →
      wpAny (model prog w) A (execs body env) (PostN s₁ fun h' => ∃ m₂, Fr h₀ env.locals h' m₂ ∧ News h₀ env.locals h' (own ++ news) ∧ J (i + 1) m₂) E s₁)
    (done : ∀ h' tk m', Fr h₀ env.locals h' m' → News h₀ env.locals h' news → J n m' → Q .next { s with heap := h', toks := tk }) :
    wpAny (model prog w) A (pyIter (.ref r)) (fun it s₂ => UnrAt prog w A h₀ env (.Name x px) body Q E it s₂) E s := by
  subst hk
  obtain ⟨a, b, c⟩ := newPlace F N
  have len : Builtin.Range.rangeSize 0 (n : Int) 1 = (n : Int) := by rw [rangeSize_nat]; omega
  refine wpAny_pyIter_range hr (small_one (by decide) (by decide) (by omega) (by omega)) ⟨_, _, _, n, _, _, m, news, rfl, Walks.range hh s.heap.objs.size 0 1 n, a, b, c, ?_, F.push _, N.pushKeep _, fun _ _ _ _ _ q => wpAny_of_eq (a := ()) rfl q, ?_⟩
  · exact (Heap.get?_push_size _ rfl).trans (by simp only [len, Int.zero_add, Int.sub_zero, Int.zero_mul, Int.natCast_zero])
  -- the turns that are left, from the last backwards
  have left : ∀ (k i : Nat) (m₁ : Str → Option Value), i + k = n → J i m₁ → Unr prog w A E h₀ env (.Name x px) body Q (fun i v => ∃ t, v = .int (0 + (i : Int) * 1) t) [s.heap.objs.size] { s with heap := s.heap.push { cls := .type "range_iterator", data := .fields #[rawInt 0, rawInt (Builtin.Range.rangeSize 0 n 1), rawInt 1] } } k i m₁ news := by
    intro k
    induction k with
    | zero =>
      rintro i m₁ rfl hJ h' tk F' N'
      exact done h' tk m₁ F' N' hJ
    | succ k more =>
      rintro i m₁ hi hJ _ h₁ tk₁ own ⟨u, rfl⟩ - F₁ N₁
      rw [Int.zero_add, Int.mul_one]
      refine wpAny_assign_Name (wpAny_storeName_local hx F₁.ns (fun h₂ ns₂ same => ?_) hp)
      have turn := step i u m₁ { s with heap := h₂, toks := tk₁ + 1 } own (by omega) hJ (F₁.set ns₂ same) (N₁.set same) (Nat.le_add_left _ _)
      refine wpAny_mono turn ?_ fun _ _ e => e
      rintro _ _ ⟨rfl, h₃, tk₃, rfl, m₂, F₂, N₂, hJ₂⟩
      exact ⟨rfl, h₃, tk₃, m₂, news, rfl, F₂, N₂, rfl, more (i + 1) m₂ (by omega) hJ₂⟩
  exact left n 0 m (Nat.zero_add _) h0
theorem replT {prog : Program} {w : World} {A : Around} {E : Value → Shared → Prop} {s : Shared} {x y z : Str} {t u v : Tok} {Q : Value → Shared → Prop} (hu : u ≠ 0) (hv : v ≠ 0) (huv : u ≠ v) (hyz : (y == z) = false) (hx : x.length ≤ 10000) (hz : z.length ≤ 10)
    (h : ∀ t' k, s.toks ≤ k → Q (.str (Txt.replace x y z) t') { s with toks := k }) : wpAny (model prog w) A (PySem.call (.builtin "str.replace") [.str x t, .str y u, .str z v]) Q E s := by
  have h2 : (x.length + 1) * z.length ≤ (x.length + 1) * 10 := Nat.mul_le_mul_left _ hz
  have hb : x.length + (x.length + 1) * z.length ≤ 16777216 := by omega
  refine call_gives F.slot_str_replace (typeIs_str _ _ _) F.entry_str_replace (F.args_str_replace_3 _ _ _) (gives_str_replace x y z t u v fun _ => ⟨by simp [hu, hv], by simp [huv], hyz, ?_⟩) ?_
  · have h1 := Nat.mul_le_mul_right z.length (StrLaws.occ_length_le x y 0 x.length (x.length + 1))
    exact decide_eq_false (by show ¬ _ > 16777216; omega)
  · have h3 := h t s.toks (Nat.le_refl _)
    have h4 := h s.toks (s.toks + 1) (Nat.le_succ _)
    unfold Txt.replace at h3 h4
    by_cases hc : ((Builtin.Str.occurrences x y 0 x.length (x.length + 1)).isEmpty || (y.length == 0 && z.length == 0)) = true
    · rw [if_pos hc] at h3 ⊢
      exact h3
    · rw [if_neg hc] at h4 ⊢
      exact ⟨fits_replaced y hb, h4⟩
theorem replS {prog : Program} {w : World} {A : Around} {E : Value → Shared → Prop} {s : Shared} {x y z : Str} {t u v : Tok} {Q : Value → Shared → Prop} (l : List Nat) (c : Nat) (zl : List Nat) (hx : x = S l) (hy : y = ⟨#[c]⟩) (hz : z = S zl) (hyz : (y == z) = false) (hu : u ≠ 0) (hv : v ≠ 0) (huv : u ≠ v) (hl : l.length ≤ 1000) (hzl : zl.length ≤ 10)
    (h : ∀ t' k, s.toks ≤ k → Q (.str (S (sb c zl l)) t') { s with toks := k }) : wpAny (model prog w) A (PySem.call (.builtin "str.replace") [.str x t, .str y u, .str z v]) Q E s := by
  subst hx
  refine replT hu hv huv hyz (by rw [S_len]; exact Nat.le_trans hl (by decide)) (by rw [hz, S_len]; exact hzl) fun t' k hk => ?_
  subst hy hz
  rw [replace_sb]
  exact h _ _ hk
local macro_rules | `(tactic| walk_at "call builtin:str.replace") => `(tactic| first
  | (refine replS _ 92 [92, 92] (by with_reducible rfl) (by kernel_rfl!) (by kernel_rfl!) (by kernel_rfl!) (by show (_ : Nat) ≠ 0; omega) (by show (_ : Nat) ≠ 0; omega) (by show (_ : Nat) ≠ _; omega) (by first | assumption | omega) (by decide) ?_; intro t' k' hk'; dsimp only at hk')
  | (refine replS _ 34 [92, 34] (by with_reducible rfl) (by kernel_rfl!) (by kernel_rfl!) (by kernel_rfl!) (by show (_ : Nat) ≠ 0; omega) (by show (_ : Nat) ≠ 0; omega) (by show (_ : Nat) ≠ _; omega) (by first | assumption | omega) (by decide) ?_; intro t' k' hk'; dsimp only at hk'))
theorem lw13b {w : World} {f : Nat → Obj} {A : Around} {E : Value → Shared → Prop} {s : Shared} {h₀ : Heap} {sc : Scope} {L : Addr} {cd : Value} {m : Str → Option Value} {news : List (Addr × Obj)} {i n1 n2 : Nat} {u u1 : Tok} {va sa : Addr} {vvs svs : List Value} {v p : Nat → List Nat} {r : List Nat}
    (X : Ex w f h₀) (S : Sc sc lls lgs) (F : Fr h₀ L s.heap m) (N : News h₀ L s.heap news) (hva : (va, lo vvs n1) ∈ news) (hsa : (sa, lo svs n2) ∈ news) (hvs : StrsAre vvs (rowL v 3)) (hss : StrsAre svs (rowL p 4)) (hi : i < 3)
    (htk : 1 ≤ s.toks) (hr : r.length ≤ 1000) (hvl : ∀ k, (v k).length ≤ 10) (hpl : ∀ k, (p k).length ≤ 10)
    (hm1 : m "place" = some (.int (i : Int) u)) (hm2 : m "ready" = some (.ref va)) (hm3 : m "stretches" = some (.ref sa)) (hm4 : m "proper" = some (.str (Mine.S r) u1)) :
    wpAny (model pw w) A (execs (forB (lawS 13)) (envOf "law" sc L 170 cd)) (PostN s fun h' => ∃ t1 m', Fr h₀ L h' m' ∧ Same nam13 m m' ∧ News h₀ L h' news ∧ m' "proper" = some (.str (Mine.S (r ++ ((([34] ++ quoV v i) ++ [34]) ++ p (i + 1)))) t1)) E s := by
  have e2 : (i : Int) = ((i : Nat) : Int) := rfl
  have e1 : (i : Int) + 1 = ((i + 1 : Nat) : Int) := rfl
  obtain ⟨tv, hv⟩ := row_at hvs hi
  obtain ⟨tp, hp⟩ := row_at hss (k := i + 1) (by omega)
  have hvi := hvl i
  have hpi := hpl (i + 1)
  have hl1 : (sb 92 [92, 92] (v i)).length ≤ 20 := by
    have := sb_len 92 [92, 92] 2 (by decide) (by decide) (v i)
    omega
  have hl2 : (sb 34 [92, 34] (sb 92 [92, 92] (v i))).length ≤ 40 := by
    have := sb_len 34 [92, 34] 2 (by decide) (by decide) (sb 92 [92, 92] (v i))
    omega
  conv in forB _ => whnf
  walk_at "W"
  rename Fr h₀ L _ (fun y => if y = _ then _ else _) => F1
  exact PostN.intro ⟨_, _, F1, (Same.refl.set (by kernel_rfl!)).set (by kernel_rfl!), by assumption, if_pos rfl⟩
theorem lw13 {w : World} {f : Nat → Obj} {A : Around} {E : Value → Shared → Prop} {s : Shared} {h₀ : Heap} {sc : Scope} {L : Addr} {cd : Value} {m : Str → Option Value} {news : List (Addr × Obj)} {n1 n2 : Nat} {u1 : Tok} {va sa : Addr} {vvs svs : List Value} {v p : Nat → List Nat}
    (X : Ex w f h₀) (hA : Rm A 2 80) (S : Sc sc lls lgs) (F : Fr h₀ L s.heap m) (N : News h₀ L s.heap news) (hva : (va, lo vvs n1) ∈ news) (hsa : (sa, lo svs n2) ∈ news) (hvs : StrsAre vvs (rowL v 3)) (hss : StrsAre svs (rowL p 4))
    (hvl : ∀ k, (v k).length ≤ 10) (hpl : ∀ k, (p k).length ≤ 10)
    (hm2 : m "ready" = some (.ref va)) (hm3 : m "stretches" = some (.ref sa)) (hm4 : m "proper" = some (.str (Mine.S (p 0)) u1))
    (hE : PassesOwn (model pw w) A (envOf "law" sc L 170 cd) E) :
    wpAny (model pw w) A (exec (lawS 13) (envOf "law" sc L 170 cd)) (PostN s fun h' => ∃ t1 m', Fr h₀ L h' m' ∧ Same nam13 m m' ∧ News h₀ L h' news ∧ m' "proper" = some (.str (Mine.S (rep (quoV v) p 3)) t1)) E s := by
  have lim : h₀.NoLimit := X.limit
  have hel : ∀ k, (quoV v k).length ≤ 60 := fun k => by
    have h1 := sb_len 92 [92, 92] 2 (by decide) (by decide) (v k)
    have h2 := sb_len 34 [92, 34] 2 (by decide) (by decide) (sb 92 [92, 92] (v k))
    have := hvl k
    unfold quoV
    omega
  have hrl := rep_len hel hpl
  conv in lawS 13 => whnf
  refine For_unr h₀ ?_ (hE := hE)
  walk_at "W"
  rename Fr h₀ L _ _ => F1
  rename News h₀ L _ _ => N1
  refine IterRT (n := 3) hA.2.2 (by assumption) rfl (by decide) F1 N1 (S.l _ (by walk_at "IN")) (fnsc S)
    (fun i m₁ => Same nam13 m m₁ ∧ ∃ t, m₁ "proper" = some (.str (Mine.S (rep (quoV v) p i)) t)) ⟨Same.refl, _, hm4⟩ ?_ ?_
  · rintro i u m₁ s₁ own hi ⟨hsm, t, hr⟩ F2 N2 htk
    have hs2 : Same nam13 m (fun z => if z = "place" then some (.int (i : Int) u) else m₁ z) := hsm.set (by kernel_rfl!)
    refine wpAny_mono (lw13b X S F2 N2 (List.mem_append_right _ hva) (List.mem_append_right _ hsa) hvs hss hi htk (by have := hrl i; omega) hvl hpl (if_pos rfl) (hs2.at hm2 (by kernel_rfl!)) (hs2.at hm3 (by kernel_rfl!)) ((if_neg (of_decide_eq_false (by kernel_rfl!))).trans hr)) ?_ fun _ _ x => x
    rintro _ _ ⟨rfl, h', tk, rfl, t1, m', F3, hs3, N3, e⟩
    exact PostN.intro ⟨m', F3, N3, hs2.trans hs3, t1, e⟩
  · rintro h' tk m' F2 N2 ⟨hsm, t, hr⟩
    exact PostN.intro ⟨t, m', F2, hsm, N2, hr⟩
/-- the law gives True back -/
noncomputable def PostR (s : Shared) (P : Heap → Prop) : Flow → Shared → Prop := fun f s' => f = .ret (.bool true) ∧ ∃ h' tk, s' = { s with heap := h', toks := tk } ∧ P h'
theorem PostR.intro {s : Shared} {P : Heap → Prop} {h' : Heap} {tk : Nat} {b : Bool} (hb : b = true) (h : P h') : PostR s P (.ret (.bool b)) { s with heap := h', toks := tk } := ⟨by rw [hb], _, _, rfl, h⟩
theorem lw14 {w : World} {f : Nat → Obj} {A : Around} {E : Value → Shared → Prop} {s : Shared} {h₀ : Heap} {sc : Scope} {L : Addr} {cd : Value} {m : Str → Option Value} {news : List (Addr × Obj)} {n2 : Nat} {u1 u2 : Tok} {sa : Addr} {svs : List Value} {p : Nat → List Nat} {r : List Nat} {b : Int}
    (X : Ex w f h₀) (hA : Rm A 2 80) (S : Sc sc lls lgs) (F : Fr h₀ L s.heap m) (N : News h₀ L s.heap news) (hsa : (sa, lo svs n2) ∈ news) (hss : StrsAre svs (rowL p 4))
    (hpl : ∀ k, (p k).length ≤ 10) (hr : r.length ≤ 20000) (hn : Nar r) (hlaw : op8 r = ((rowL p 4).map more).sum)
    (hm3 : m "stretches" = some (.ref sa)) (hm4 : m "proper" = some (.str (Mine.S r) u1)) (hm5 : m "begun" = some (.int b u2)) :
    wpAny (model pw w) A (exec (lawS 14) (envOf "law" sc L 170 cd)) (PostR s fun h' => Fr h₀ L h' m) E s := by
  have lim : h₀.NoLimit := X.limit
  have hsn : svs.length = 4 := by rw [strs_len hss, rowL_len]
  conv in lawS 14 => whnf
  walk_at "W"
  rename Fr h₀ L _ _ => F1
  rename News h₀ L _ _ => N1
  refine srcK MoreR hA.2.2 (by walk_at "LST") (by walk_at "SZL") ?_ ?_
  · intro C v s₂ m₂ E' hv hn hm hk
    have X2 : Ex w f s₂.heap := (X.kp F1.keep).kp hk
    walk_at "W"
    obtain ⟨y, t, rfl, hy⟩ := strs_mem hss v hv
    refine more_call X2 (by walk_at "RM") ?_ fun h' tk t' k => ⟨⟨y, t, t', rfl, rfl⟩, ⟨_, _, rfl, k⟩⟩
    obtain ⟨k, _, rfl⟩ := List.mem_map.mp hy
    rw [S_len]; exact Nat.le_trans (hpl k) (by decide)
  · intro D ys h' tk' hk hnew hl hp
    have F2 := Fr.kp F1 hk
    have N2 := News.kp N1 hk
    walk_at "W"
    refine sumK hA.2.2 hl (more_ints hss hp) fun h3 tk3 t3 k3 => ?_
    have F3 := Fr.kp F2 k3
    have N3 := News.kp N2 k3
    clear F1 F2 N1 N2
    walk_at "W"
    refine PostR.intro ?_ F3
    simp [hlaw]
end
/-- what is left: the law in plain words -/
structure PlainLaw (cs : List Nat) : Prop where
  l1 : ∀ k, (bareV cs k).length ≤ 10
  l2 : ∀ k, (readyV cs k).length ≤ 10
  l3 : ∀ k, (pads cs k).length ≤ 10
  n1 : ∀ i, i < 3 → Nar (rep (attV (bareV cs)) (pads cs) (i + 1))
  a1 : ∀ i, i < 3 → op8 (rep (attV (bareV cs)) (pads cs) (i + 1)) = counted (rowL (bareV cs) (i + 1)) (rowL (pads cs) (i + 2))
  n2 : ∀ i, i < 3 → Nar (rep (attV (readyV cs)) (pads cs) (i + 1))
  a2 : ∀ i, i < 3 → op8 (rep (attV (readyV cs)) (pads cs) (i + 1)) = counted (rowL (readyV cs) (i + 1)) (rowL (pads cs) (i + 2))
  n3 : Nar (wr htmTb (rep (attV (readyV cs)) (pads cs) 3))
  a3 : op8 (wr htmTb (rep (attV (readyV cs)) (pads cs) 3)) = ((rowL (pads cs) 4 ++ rowL (readyV cs) 3).map more).sum
  n4 : Nar (rep (quoV (readyV cs)) (pads cs) 3)
  a4 : op8 (rep (quoV (readyV cs)) (pads cs) 3) = ((rowL (pads cs) 4).map more).sum
theorem seqN {M : Model} {A : Around} {E : Value → Shared → Prop} {s : Shared} {env : Env} {st : Stmt} {rest : List Stmt} {P : Heap → Prop} {Q : Flow → Shared → Prop} (h : wpAny M A (exec st env) (PostN s P) E s) (k : ∀ h' tk, P h' → wpAny M A (execs rest env) Q E { s with heap := h', toks := tk }) :
    wpAny M A (execs (st :: rest) env) Q E s := by
  refine wpAny_execs_cons (wpAny_mono h ?_ fun _ _ x => x)
  rintro _ _ ⟨rfl, h', tk, rfl, hP⟩
  exact k h' tk hP
theorem seqR {M : Model} {A : Around} {E : Value → Shared → Prop} {s : Shared} {env : Env} {st : Stmt} {rest : List Stmt} {P : Heap → Prop} {Q : Flow → Shared → Prop} (h : wpAny M A (exec st env) (PostR s P) E s) (k : ∀ h' tk, P h' → Q (.ret (.bool true)) { s with heap := h', toks := tk }) :
    wpAny M A (execs (st :: rest) env) Q E s := by
  refine wpAny_execs_cons (wpAny_mono h ?_ fun _ _ x => x)
  rintro _ _ ⟨rfl, h', tk, rfl, hP⟩
  exact k h' tk hP
theorem lawB_eq : dBody (stI 20) = [lawS 0, lawS 1, lawS 2, lawS 3, lawS 4, lawS 5, lawS 6, lawS 7, lawS 8, lawS 9, lawS 10, lawS 11, lawS 12, lawS 13, lawS 14] := by kernel_rfl!
theorem nums_len (ns : List Int) : (nums ns).length = 9 := by
  unfold nums
  rw [List.length_take, List.length_append]
  simp
theorem nums_lt (ns : List Int) : ∀ c ∈ nums ns, c < 1000000 := by
  intro c hc
  have hc := List.mem_of_mem_take hc
  rcases List.mem_append.mp hc with hc | hc
  · obtain ⟨k, _, rfl⟩ := List.mem_map.mp hc
    have h1 := Int.fmod_lt_of_pos k (show (0 : Int) < 1000000 by decide)
    omega
  · simp at hc; omega
theorem callA_room : Rm callerA 3 83 := ⟨by decide, by decide, rfl⟩
set_option maxHeartbeats 1000000 in
theorem law_ok (HP : ∀ cs : List Nat, cs.length = 9 → (∀ c ∈ cs, c < 1000000) → PlainLaw cs) : CallOk := by
  intro w f kvs hr hd s₁ l vs ns hn X hg hl hi
  have B : B3 w f kvs := ⟨hr, hd⟩
  have H := HP (nums ns) (nums_len ns) (nums_lt ns)
  refine enter (d := 2) (u := 80) (name := "law") ["script"] lls lgs X callA_room (get19 (a := 170) rfl rfl rfl) rfl (code170 _ _) (by kernel_rfl!) (by kernel_rfl!) rfl (by kernel_rfl!) (fun A' sc L h₁ tk hA S F => ?_)
  replace F : Fr s₁.heap L h₁ (lk [("script", .ref l)]) := F
  have hE : PassesOwn (model pw w) A' (envOf "law" sc L 170 (.ref 169)) (fun _ _ => False) := by passes_own
  show wpAny _ _ (execs (dBody (stI 20)) (envOf "law" sc L 170 (.ref 169))) _ _ _
  rw [lawB_eq]
  have hcs := nums_len ns
  have hcb := nums_lt ns
  refine seqN (lw0 X hA S F hl hi hn lk_hit) ?_
  rintro h0 tk0 ⟨na, o, ws, F0, N0, ho, hia⟩
  generalize nums ns = cs at H hcs hcb hia
  refine seqN (lw1 X hA S F0 N0 hl hi hn ((if_neg (of_decide_eq_false (by kernel_rfl!))).trans lk_hit)) ?_
  rintro h1 tk1 ⟨ub, F1, N1⟩
  refine seqN (lw2 (i := 2) (x := "stretches") X hA S F1 N1 (.inl ⟨rfl, rfl⟩)) ?_
  rintro h2 tk2 ⟨sa, F2, N2, d2⟩
  refine seqN (lw3 X hA S F2 N2 d2 ((if_neg (of_decide_eq_false (by kernel_rfl!))).trans ((if_neg (of_decide_eq_false (by kernel_rfl!))).trans (if_pos rfl))) (if_pos rfl) (.head _) ho hia hcs hcb hE) ?_
  rintro h3 tk3 ⟨svs, m3, n3, F3, S3, N3, hss⟩
  have a3 : m3 "numbers" = some (.ref na) := S3.at ((if_neg (of_decide_eq_false (by kernel_rfl!))).trans ((if_neg (of_decide_eq_false (by kernel_rfl!))).trans (if_pos rfl))) (by kernel_rfl!)
  have b3 : m3 "stretches" = some (.ref sa) := S3.at (if_pos rfl) (by kernel_rfl!)
  have c3 : m3 "begun" = some (.int (begun ns) ub) := S3.at ((if_neg (of_decide_eq_false (by kernel_rfl!))).trans (if_pos rfl)) (by kernel_rfl!)
  clear S3
  refine seqN (lw2 (i := 4) (x := "bare") X hA S F3 N3 (.inr (.inl ⟨rfl, rfl⟩))) ?_
  rintro h4 tk4 ⟨ba, F4, N4, d4⟩
  refine seqN (lw2 (i := 5) (x := "ready") X hA S F4 N4 (.inr (.inr ⟨rfl, rfl⟩))) ?_
  rintro h5 tk5 ⟨ra, F5, N5, d5⟩
  have two : ∀ {a b c : Str} {u v : Value} {m : Str → Option Value} {z : Option Value}, decide (c = a) = false → decide (c = b) = false → m c = z → (fun y => if y = a then some u else (fun y => if y = b then some v else m y) y) c = z :=
    fun h1 h2 h3 => (if_neg (of_decide_eq_false h1)).trans ((if_neg (of_decide_eq_false h2)).trans h3)
  refine seqN (lw6 X B hA S F5 N5 (fun p hp => ⟨d5 p (.tail _ hp), d4 p hp⟩) (d5 _ (.head _)) (two (by kernel_rfl!) (by kernel_rfl!) a3) ((if_neg (of_decide_eq_false (by kernel_rfl!))).trans (if_pos rfl)) (if_pos rfl) (.tail _ (.head _)) ho hia hcs hcb hE) ?_
  rintro h6 tk6 ⟨rvs, bvs, m6, n1, n2, F6, S6, N6, hbs, hrs⟩
  have b6 : m6 "stretches" = some (.ref sa) := S6.at (two (by kernel_rfl!) (by kernel_rfl!) b3) (by kernel_rfl!)
  have c6 : m6 "begun" = some (.int (begun ns) ub) := S6.at (two (by kernel_rfl!) (by kernel_rfl!) c3) (by kernel_rfl!)
  have d6 : m6 "bare" = some (.ref ba) := S6.at ((if_neg (of_decide_eq_false (by kernel_rfl!))).trans (if_pos rfl)) (by kernel_rfl!)
  have e6 : m6 "ready" = some (.ref ra) := S6.at (if_pos rfl) (by kernel_rfl!)
  clear S6
  refine seqN (lw7 S F6 N6) ?_
  rintro h7 tk7 ⟨v7, F7, N7⟩
  have one : ∀ {a c : Str} {u : Value} {m : Str → Option Value} {z : Option Value}, decide (c = a) = false → m c = z → (fun y => if y = a then some u else m y) c = z :=
    fun h1 h3 => (if_neg (of_decide_eq_false h1)).trans h3
  refine seqN (lw8 (v := bareV cs) (v' := readyV cs) (p := pads cs) X hA S F7 N7 (.tail _ (.head _)) (.head _) (.tail _ (.tail _ (.head _))) hbs hrs hss H.l1 H.l2 H.l3 H.n1 H.a1 H.n2 H.a2
    (one (by kernel_rfl!) d6) (one (by kernel_rfl!) e6) (one (by kernel_rfl!) b6) (one (by kernel_rfl!) c6) hE) ?_
  rintro h8 tk8 ⟨t8, m8, F8, S8, N8, r8⟩
  have b8 : m8 "stretches" = some (.ref sa) := S8.at (one (by kernel_rfl!) b6) (by kernel_rfl!)
  have c8 : m8 "begun" = some (.int (begun ns) ub) := S8.at (one (by kernel_rfl!) c6) (by kernel_rfl!)
  have e8 : m8 "ready" = some (.ref ra) := S8.at (one (by kernel_rfl!) e6) (by kernel_rfl!)
  clear S8
  have hel : ∀ k, (attV (readyV cs) k).length ≤ 60 := fun k => by
    have := wr_len attTb (by kernel_rfl!) (readyV cs k)
    have := H.l2 k
    unfold attV
    omega
  have hrl := rep_len hel H.l3 3
  have hwl := wr_len htmTb (by kernel_rfl!) (rep (attV (readyV cs)) (pads cs) 3)
  refine seqN (lw9 X hA S F8 N8 r8 (by omega)) ?_
  rintro h9 tk9 ⟨t9, F9, N9⟩
  refine seqN (lw10 X hA S F9 N9 (.head _) (.tail _ (.tail _ (.head _))) hrs hss H.l2 H.l3 (one (by kernel_rfl!) e8) (one (by kernel_rfl!) b8)) ?_
  rintro h10 tk10 ⟨t10, F10, N10⟩
  refine seqN (lw11 X hA S F10 N10 (two (by kernel_rfl!) (by kernel_rfl!) r8) ((if_neg (of_decide_eq_false (by kernel_rfl!))).trans (if_pos rfl)) (if_pos rfl) (by omega) (by omega) H.n3 H.a3) ?_
  rintro h11 tk11 ⟨F11, N11⟩
  refine seqN (lw12 X S F11 N11 (.tail _ (.tail _ (.head _))) hss (two (by kernel_rfl!) (by kernel_rfl!) b8)) ?_
  rintro h12 tk12 ⟨t12, F12, N12⟩
  refine seqN (lw13 X hA S F12 N12 (.head _) (.tail _ (.tail _ (.head _))) hrs hss H.l2 H.l3 ((if_neg (of_decide_eq_false (by kernel_rfl!))).trans ((if_neg (of_decide_eq_false (by kernel_rfl!))).trans ((if_neg (of_decide_eq_false (by kernel_rfl!))).trans e8))) ((if_neg (of_decide_eq_false (by kernel_rfl!))).trans ((if_neg (of_decide_eq_false (by kernel_rfl!))).trans ((if_neg (of_decide_eq_false (by kernel_rfl!))).trans b8))) (if_pos rfl) hE) ?_
  rintro h13 tk13 ⟨t13, m13, F13, S13, N13, r13⟩
  have hql : ∀ k, (quoV (readyV cs) k).length ≤ 60 := fun k => by
    have h1 := sb_len 92 [92, 92] 2 (by decide) (by decide) (readyV cs k)
    have h2 := sb_len 34 [92, 34] 2 (by decide) (by decide) (sb 92 [92, 92] (readyV cs k))
    have := H.l2 k
    unfold quoV
    omega
  have hpl := rep_len hql H.l3 3
  refine seqR (lw14 X hA S F13 N13 (.tail _ (.tail _ (.head _))) hss H.l3 (by omega) H.n4 H.a4 (S13.at ((if_neg (of_decide_eq_false (by kernel_rfl!))).trans ((if_neg (of_decide_eq_false (by kernel_rfl!))).trans ((if_neg (of_decide_eq_false (by kernel_rfl!))).trans b8))) (by kernel_rfl!)) r13 (S13.at ((if_neg (of_decide_eq_false (by kernel_rfl!))).trans ((if_neg (of_decide_eq_false (by kernel_rfl!))).trans ((if_neg (of_decide_eq_false (by kernel_rfl!))).trans c8))) (by kernel_rfl!))) ?_
  intro h14 tk14 F14
  exact ⟨rfl, F14.keep, rfl, hg⟩
/-- inside a string: what is left behind its end -/
noncomputable def inn : Bool → List Nat → Option (List Nat)
  | _, [] => none
  | true, e :: r => if e = 10 then none else inn false r
  | false, d :: r => if d = 34 then some r else if d = 92 then inn true r else inn false r
theorem close_inn : ∀ l : List Nat, (close l).map (fun n => l.drop n) = inn false l
  | [] => rfl
  | [d] => by
    by_cases h1 : d = 34
    · subst h1; rfl
    by_cases h2 : d = 92
    · subst h2; rfl
    have e : close [d] = none := by
      unfold close
      rw [body_any _ h1 h2]; rfl
    rw [e]
    show none = (if d = 34 then some [] else if d = 92 then inn true [] else inn false [])
    rw [if_neg h1, if_neg h2]; rfl
  | d :: e :: r => by
    by_cases h1 : d = 34
    · subst h1
      have e : close (34 :: e :: r) = some 1 := by
        unfold close
        rw [body_34]; rfl
      rw [e]; rfl
    by_cases h2 : d = 92
    · subst h2
      by_cases h3 : e = 10
      · subst h3
        have e : close (92 :: 10 :: r) = none := by
          unfold close
          rw [body_10]; rfl
        rw [e]; rfl
      · have ih := close_inn r
        show _ = (if e = 10 then none else inn false r)
        rw [if_neg h3, ← ih]
        have e1 : close (92 :: e :: r) = (close r).map (2 + ·) := by
          unfold close
          rw [body_esc _ h3]
          have : (92 :: e :: r).drop (2 + body r) = r.drop (body r) := by rw [Nat.add_comm]; rfl
          rw [this]
          cases hr : r.drop (body r) with
          | nil => rfl
          | cons a b =>
            show (if a = 34 then some (2 + body r + 1) else none) = Option.map (2 + ·) (if a = 34 then some (body r + 1) else none)
            by_cases ha : a = 34
            · rw [if_pos ha, if_pos ha]; rfl
            · rw [if_neg ha, if_neg ha]; rfl
        rw [e1, Option.map_map]
        congr 1
        funext n
        show (92 :: e :: r).drop (2 + n) = r.drop n
        rw [Nat.add_comm]; rfl
    · have ih := close_inn (e :: r)
      show _ = (if d = 34 then some (e :: r) else if d = 92 then inn true (e :: r) else inn false (e :: r))
      rw [if_neg h1, if_neg h2, ← ih]
      have e1 : close (d :: e :: r) = (close (e :: r)).map (1 + ·) := by
        unfold close
        rw [body_any _ h1 h2]
        have : (d :: e :: r).drop (1 + body (e :: r)) = (e :: r).drop (body (e :: r)) := by rw [Nat.add_comm]; rfl
        rw [this]
        cases hr : (e :: r).drop (body (e :: r)) with
        | nil => rfl
        | cons a b =>
          show (if a = 34 then some (1 + body (e :: r) + 1) else none) = Option.map (1 + ·) (if a = 34 then some (body (e :: r) + 1) else none)
          by_cases ha : a = 34
          · rw [if_pos ha, if_pos ha]; rfl
          · rw [if_neg ha, if_neg ha]; rfl
      rw [e1, Option.map_map]
      congr 1
      funext n
      show (d :: e :: r).drop (1 + n) = (e :: r).drop n
      rw [Nat.add_comm]; rfl
/-- more rounds than signs do no more -/
theorem strip_fuel : ∀ (n m : Nat) (l : List Nat), l.length ≤ n → l.length ≤ m → strip n l = strip m l
  | 0, 0, l, _, _ => rfl
  | 0, m + 1, l, h, _ => by
    have : l = [] := List.eq_nil_of_length_eq_zero (by omega)
    subst this; rfl
  | n + 1, 0, l, _, h => by
    have : l = [] := List.eq_nil_of_length_eq_zero (by omega)
    subst this; rfl
  | n + 1, m + 1, l, h1, h2 => by
    unfold strip
    cases hf : findQ l with
    | none => rfl
    | some x =>
      have hp := findQ_pos l x hf
      dsimp only
      rw [strip_fuel n m (l.drop (x.1 + x.2)) (by rw [List.length_drop]; omega) (by rw [List.length_drop]; omega)]
noncomputable def strip' (l : List Nat) : List Nat := strip l.length l
theorem strip_len (n : Nat) (l : List Nat) (h : l.length ≤ n) : strip n l = strip' l := strip_fuel n l.length l h (Nat.le_refl _)
theorem strip_step {d : Nat} {r : List Nat} (h : (if d = 34 then close r else none) = none) : strip' (d :: r) = d :: strip' r := by
  have hf : findQ (d :: r) = (findQ r).map fun x : Nat × Nat => (x.1 + 1, x.2) := by
    show (match (if d = 34 then close r else none) with | some n => some (0, 1 + n) | none => (findQ r).map fun x : Nat × Nat => (x.1 + 1, x.2)) = _
    rw [h]
  show strip (r.length + 1) (d :: r) = _
  unfold strip
  rw [hf]
  cases hr : findQ r with
  | none =>
    show d :: r = d :: strip r.length r
    cases hn : r.length with
    | zero => rfl
    | succ k => unfold strip; rw [hr]
  | some x =>
    have hp := findQ_pos r x hr
    show (d :: r).take (x.1 + 1) ++ strip r.length ((d :: r).drop (x.1 + 1 + x.2)) = _
    have e1 : (d :: r).drop (x.1 + 1 + x.2) = r.drop (x.1 + x.2) := by
      rw [show x.1 + 1 + x.2 = (x.1 + x.2) + 1 by omega]; rfl
    rw [e1, List.take_succ_cons]
    have e2 : strip' r = r.take x.1 ++ strip' (r.drop (x.1 + x.2)) := by
      unfold strip'
      cases hn : r.length with
      | zero => omega
      | succ k =>
        have e3 : strip (k + 1) r = r.take x.1 ++ strip k (r.drop (x.1 + x.2)) := by
          show (match findQ r with | none => r | some x => r.take x.1 ++ strip k (r.drop (x.1 + x.2))) = _
          rw [hr]
        rw [e3, strip_len k _ (by rw [List.length_drop]; omega)]; rfl
    rw [e2, strip_len _ _ (by rw [List.length_drop]; omega)]
    rfl
theorem strip_out {d : Nat} (r : List Nat) (h : d ≠ 34) : strip' (d :: r) = d :: strip' r := strip_step (if_neg h)
theorem strip_open {r : List Nat} (h : inn false r = none) : strip' (34 :: r) = 34 :: strip' r := by
  refine strip_step ?_
  rw [if_pos rfl]
  rw [← close_inn] at h
  simpa using h
theorem strip_str {r r' : List Nat} (h : inn false r = some r') : strip' (34 :: r) = strip' r' := by
  rw [← close_inn] at h
  obtain ⟨n, hn, e⟩ := Option.map_eq_some_iff.mp h
  have hf : findQ (34 :: r) = some (0, 1 + n) := by
    show (match (if (34 : Nat) = 34 then close r else none) with | some n => some (0, 1 + n) | none => (findQ r).map fun x : Nat × Nat => (x.1 + 1, x.2)) = _
    rw [if_pos rfl, hn]
  show strip (r.length + 1) (34 :: r) = _
  unfold strip
  rw [hf]
  show [] ++ strip r.length ((34 :: r).drop (0 + (1 + n))) = _
  have e1 : (34 :: r).drop (0 + (1 + n)) = r.drop n := by rw [Nat.zero_add, Nat.add_comm]; rfl
  rw [e1, List.nil_append, e, strip_len]
  rw [← e, List.length_drop]; omega
theorem strip_app : ∀ (a b : List Nat), 34 ∉ a → strip' (a ++ b) = a ++ strip' b
  | [], b, _ => rfl
  | d :: a, b, h => by
    have h1 : d ≠ 34 := fun e => h (e ▸ .head _)
    show strip' (d :: (a ++ b)) = d :: (a ++ strip' b)
    rw [strip_out _ h1, strip_app a b fun m => h (.tail _ m)]
/-- the state behind a run of signs -/
noncomputable def esc (o : Bool) (l : List Nat) : Bool := l.foldl (fun o c => decide (c = 92) && !o) o
theorem inn_run : ∀ (a b : List Nat) (o : Bool), 34 ∉ a → 10 ∉ a → inn o (a ++ b) = inn (esc o a) b
  | [], b, o, _, _ => rfl
  | d :: a, b, o, h, g => by
    have h1 : d ≠ 34 := fun e => h (e ▸ .head _)
    have g1 : d ≠ 10 := fun e => g (e ▸ .head _)
    have ih := fun o => inn_run a b o (fun m => h (.tail _ m)) fun m => g (.tail _ m)
    show inn o (d :: (a ++ b)) = inn (esc (decide (d = 92) && !o) a) b
    cases o with
    | true =>
      show (if d = 10 then none else inn false (a ++ b)) = _
      rw [if_neg g1, ih]
      simp
    | false =>
      show (if d = 34 then some (a ++ b) else if d = 92 then inn true (a ++ b) else inn false (a ++ b)) = _
      rw [if_neg h1]
      by_cases h2 : d = 92
      · rw [if_pos h2, ih]; simp [h2]
      · rw [if_neg h2, ih]; simp [h2]
noncomputable def op (l : List Nat) : Int := (cnt 40 l : Int) - (cnt 41 l : Int)
theorem cnt_app (c : Nat) (a b : List Nat) : cnt c (a ++ b) = cnt c a + cnt c b := by
  unfold cnt; rw [List.filter_append, List.length_append]
theorem op_app (a b : List Nat) : op (a ++ b) = op a + op b := by
  unfold op; rw [cnt_app, cnt_app]; omega
theorem op_34 (a : List Nat) : op (34 :: a) = op a := by
  have := op_app [34] a
  have e : op [34] = 0 := by decide
  rw [e] at this
  show op ([34] ++ a) = _
  omega
theorem open_op (l : List Nat) : open' l = op (strip' l) := rfl
/-- brackets and blanks: what stands between the strings -/
noncomputable def Pad (p : List Nat) : Prop := ∀ c ∈ p, c ≠ 34 ∧ c ≠ 10 ∧ c ≠ 92
noncomputable def Wri (w : List Nat) : Prop := 34 ∉ w ∧ 10 ∉ w
theorem Pad.wri {p : List Nat} (h : Pad p) : Wri p := ⟨fun m => (h _ m).1 rfl, fun m => (h _ m).2.1 rfl⟩
theorem pad_esc : ∀ {p : List Nat}, Pad p → esc false p = false
  | [], _ => rfl
  | d :: a, h => by
    have h1 := (h d (.head _)).2.2
    show esc (decide (d = 92) && !false) a = false
    rw [decide_eq_false h1]
    exact pad_esc fun c hc => h c (.tail _ hc)
noncomputable def seg (x : List Nat × List Nat) : List Nat := 34 :: (x.1 ++ 34 :: x.2)
noncomputable def txt (l : List (List Nat × List Nat)) : List Nat := l.flatMap seg
theorem txt_cons (x : List Nat × List Nat) (l : List (List Nat × List Nat)) : txt (x :: l) = 34 :: (x.1 ++ 34 :: (x.2 ++ txt l)) := by
  show seg x ++ txt l = _
  unfold seg
  simp
noncomputable def Seg (l : List (List Nat × List Nat)) : Prop := ∀ x ∈ l, Wri x.1 ∧ Pad x.2
noncomputable def lastP (p : List Nat) : List (List Nat × List Nat) → List Nat
  | [] => p
  | x :: l => lastP x.2 l
noncomputable def sumW : List (List Nat × List Nat) → Int
  | [] => 0
  | x :: l => op x.1 + sumW l
/-- turned inside out -/
theorem turned : ∀ (l : List (List Nat × List Nat)) (p : List Nat), Pad p → Seg l → op (strip' (34 :: (p ++ txt l))) = sumW l + op (lastP p l)
  | [], p, hp, _ => by
    show op (strip' (34 :: (p ++ []))) = 0 + op p
    have h : inn false (p ++ []) = none := by
      rw [inn_run _ _ _ hp.wri.1 hp.wri.2]
      cases esc false p <;> rfl
    rw [strip_open h, op_34, strip_app _ _ hp.wri.1, op_app]
    show op p + op [] = _
    have : op ([] : List Nat) = 0 := rfl
    omega
  | x :: l, p, hp, hs => by
    have hx := hs x (.head _)
    have h : inn false (p ++ txt (x :: l)) = some (x.1 ++ 34 :: (x.2 ++ txt l)) := by
      rw [inn_run _ _ _ hp.wri.1 hp.wri.2, pad_esc hp, txt_cons]; rfl
    rw [strip_str h, strip_app _ _ hx.1.1, op_app, turned l x.2 hx.2 fun y hy => hs y (.tail _ hy)]
    show _ = op x.1 + sumW l + op (lastP x.2 l)
    omega
/-- what counts from a place outside a string on -/
noncomputable def cntF : List (List Nat × List Nat) → Int
  | [] => 0
  | x :: l => if esc false x.1 = true then (match l with | [] => op x.1 + op x.2 | _ => sumW l + op (lastP x.2 l)) else op x.2 + cntF l
theorem outside : ∀ (l : List (List Nat × List Nat)), Seg l → op (strip' (txt l)) = cntF l
  | [], _ => rfl
  | x :: l, hs => by
    have hx := hs x (.head _)
    have hl : Seg l := fun y hy => hs y (.tail _ hy)
    have h0 : inn false (x.1 ++ 34 :: (x.2 ++ txt l)) = inn (esc false x.1) (34 :: (x.2 ++ txt l)) := inn_run _ _ _ hx.1.1 hx.1.2
    rw [txt_cons]
    cases he : esc false x.1 with
    | false =>
      rw [he] at h0
      have h : inn false (x.1 ++ 34 :: (x.2 ++ txt l)) = some (x.2 ++ txt l) := h0
      rw [strip_str h, strip_app _ _ hx.2.wri.1, op_app, outside l hl]
      show _ = if esc false x.1 = true then _ else op x.2 + cntF l
      rw [he, if_neg Bool.false_ne_true]
    | true =>
      rw [he] at h0
      have h1 : inn false (x.1 ++ 34 :: (x.2 ++ txt l)) = inn false (txt l) := by
        rw [h0]
        show inn false (x.2 ++ txt l) = _
        rw [inn_run _ _ _ hx.2.wri.1 hx.2.wri.2, pad_esc hx.2]
      cases l with
      | nil =>
        have h2 : inn false (x.1 ++ 34 :: (x.2 ++ txt [])) = none := h1
        rw [strip_open h2, op_34, strip_app _ _ hx.1.1, op_app, turned [] x.2 hx.2 hl]
        show _ = if esc false x.1 = true then op x.1 + op x.2 else _
        rw [he, if_pos rfl]
        show op x.1 + (0 + op x.2) = _
        omega
      | cons y l =>
        have hy := hl y (.head _)
        have h2 : inn false (x.1 ++ 34 :: (x.2 ++ txt (y :: l))) = some (y.1 ++ 34 :: (y.2 ++ txt l)) := by
          rw [h1, txt_cons]; rfl
        rw [strip_str h2, strip_app _ _ hy.1.1, op_app, turned l y.2 hy.2 fun z hz => hl z (.tail _ hz)]
        show _ = if esc false x.1 = true then sumW (y :: l) + op (lastP x.2 (y :: l)) else _
        rw [he, if_pos rfl]
        show _ = op y.1 + sumW l + op (lastP y.2 l)
        omega
theorem esc_app (o : Bool) (a b : List Nat) : esc o (a ++ b) = esc (esc o a) b := List.foldl_append
/-- how a sign is written does not matter for the ends and the brackets -/
structure Good (g : Nat → List Nat) (c : Nat) : Prop where
  e : ∀ o, esc o (g c) = esc o [c]
  l : cnt 40 (g c) = cnt 40 [c]
  r : cnt 41 (g c) = cnt 41 [c]
theorem good_esc {g : Nat → List Nat} : ∀ (l : List Nat) (o : Bool), (∀ c ∈ l, Good g c) → esc o (l.flatMap g) = esc o l
  | [], _, _ => rfl
  | c :: l, o, h => by
    rw [List.flatMap_cons, esc_app, good_esc l _ fun d hd => h d (.tail _ hd), (h c (.head _)).e o]
    rfl
theorem good_op {g : Nat → List Nat} : ∀ l : List Nat, (∀ c ∈ l, Good g c) → op (l.flatMap g) = op l
  | [], _ => rfl
  | c :: l, h => by
    rw [List.flatMap_cons, op_app, good_op l fun d hd => h d (.tail _ hd)]
    have e : op (g c) = op [c] := by
      unfold op
      rw [(h c (.head _)).l, (h c (.head _)).r]
    rw [e, ← op_app]; rfl
theorem esc_last {o : Bool} : ∀ {l : List Nat}, (∀ c ∈ l, c ≠ 92) → l ≠ [] → esc o l = false
  | [], _, h => absurd rfl h
  | [c], h, _ => by
    show (decide (c = 92) && !o) = false
    rw [decide_eq_false (h c (.head _))]; rfl
  | c :: d :: r, h, _ => esc_last (o := decide (c = 92) && !o) (fun x hx => h x (.tail _ hx)) (by simp)
theorem cnt_none {c : Nat} {l : List Nat} (h : c ∉ l) : cnt c l = 0 := by
  unfold cnt
  rw [List.length_eq_zero_iff, List.filter_eq_nil_iff]
  intro a ha e
  exact h (by rw [← eq_of_beq e]; exact ha)
theorem esc_one {o : Bool} {c : Nat} (h : c ≠ 92) : esc o [c] = false := by
  show (decide (c = 92) && !o) = false
  rw [decide_eq_false h]; rfl
theorem good_other {g : Nat → List Nat} {c : Nat} (h1 : c ≠ 92 ∧ c ≠ 40 ∧ c ≠ 41) (h2 : ∀ d ∈ g c, d ≠ 92 ∧ d ≠ 40 ∧ d ≠ 41) (h3 : g c ≠ []) : Good g c := by
  refine ⟨fun o => ?_, ?_, ?_⟩
  · rw [esc_last (fun d hd => (h2 d hd).1) h3, esc_one h1.1]
  · rw [cnt_none fun m => (h2 _ m).2.1 rfl, cnt_none fun m => h1.2.1 (List.mem_singleton.mp m).symm]
  · rw [cnt_none fun m => (h2 _ m).2.2 rfl, cnt_none fun m => h1.2.2 (List.mem_singleton.mp m).symm]
theorem good_same {g : Nat → List Nat} {c : Nat} (h : g c = [c]) : Good g c := ⟨fun o => by rw [h], by rw [h], by rw [h]⟩
theorem att_in {tb : List (Nat × List Nat)} (hb : tb.all (fun x => decide (x.1 ≠ 92 ∧ x.1 ≠ 40 ∧ x.1 ≠ 41) && (!x.2.isEmpty) && x.2.all fun d => decide (d < 128 ∧ d ≠ 92 ∧ d ≠ 40 ∧ d ≠ 41 ∧ d ≠ 34 ∧ d ≠ 10)) = true) (c : Nat) :
    att tb c = [c] ∨ ((c ≠ 92 ∧ c ≠ 40 ∧ c ≠ 41) ∧ att tb c ≠ [] ∧ ∀ d ∈ att tb c, d < 128 ∧ d ≠ 92 ∧ d ≠ 40 ∧ d ≠ 41 ∧ d ≠ 34 ∧ d ≠ 10) := by
  unfold att
  cases h : tb.find? fun e => e.1 == c with
  | none => exact .inl rfl
  | some x =>
    refine .inr ?_
    have hx := List.all_eq_true.mp hb x (List.mem_of_find?_eq_some h)
    have hc : x.1 = c := by simpa using List.find?_some h
    simp only [Bool.and_eq_true, decide_eq_true_eq, Bool.not_eq_true', List.all_eq_true] at hx
    refine ⟨hc ▸ hx.1.1, ?_, fun d hd => hx.2 d hd⟩
    show x.2 ≠ []
    intro e
    rw [e] at hx
    exact absurd hx.1.2 (by decide)
theorem attOk : attTb.all (fun x => decide (x.1 ≠ 92 ∧ x.1 ≠ 40 ∧ x.1 ≠ 41) && (!x.2.isEmpty) && x.2.all fun d => decide (d < 128 ∧ d ≠ 92 ∧ d ≠ 40 ∧ d ≠ 41 ∧ d ≠ 34 ∧ d ≠ 10)) = true := by decide
theorem htmOk : htmTb.all (fun x => decide (x.1 ≠ 92 ∧ x.1 ≠ 40 ∧ x.1 ≠ 41) && (!x.2.isEmpty) && x.2.all fun d => decide (d < 128 ∧ d ≠ 92 ∧ d ≠ 40 ∧ d ≠ 41 ∧ d ≠ 34 ∧ d ≠ 10)) = true := by decide
theorem att_good {tb : List (Nat × List Nat)} (hb : tb.all (fun x => decide (x.1 ≠ 92 ∧ x.1 ≠ 40 ∧ x.1 ≠ 41) && (!x.2.isEmpty) && x.2.all fun d => decide (d < 128 ∧ d ≠ 92 ∧ d ≠ 40 ∧ d ≠ 41 ∧ d ≠ 34 ∧ d ≠ 10)) = true) (c : Nat) : Good (att tb) c := by
  rcases att_in hb c with h | ⟨h1, h2, h3⟩
  · exact good_same h
  · exact good_other h1 (fun d hd => ⟨(h3 d hd).2.1, (h3 d hd).2.2.1, (h3 d hd).2.2.2.1⟩) h2
/-- what the table changes is gone -/
theorem wr_gone {tb : List (Nat × List Nat)} (hb : tb.all (fun x => decide (x.1 ≠ 92 ∧ x.1 ≠ 40 ∧ x.1 ≠ 41) && (!x.2.isEmpty) && x.2.all fun d => decide (d < 128 ∧ d ≠ 92 ∧ d ≠ 40 ∧ d ≠ 41 ∧ d ≠ 34 ∧ d ≠ 10)) = true) {k : Nat} (hk : k = 34 ∨ k = 10) (ha : att tb k ≠ [k]) (l : List Nat) : k ∉ wr tb l := by
  intro hm
  obtain ⟨c, _, hc⟩ := List.mem_flatMap.mp hm
  rcases att_in hb c with h | ⟨_, _, h3⟩
  · rw [h] at hc
    have := List.mem_singleton.mp hc
    subst this
    exact ha h
  · have := (h3 k hc).2.2.2.2
    omega
theorem u8_ne {c : Nat} : u8 c ≠ [] := by
  unfold u8 Str.utf8Of
  split
  · simp
  · split
    · simp
    · split
      · simp
      · simp
theorem u8_good {c : Nat} (h : c < 1114112) : Good u8 c := by
  by_cases h1 : c < 128
  · exact good_same (u8_low h1)
  · have h2 := u8_high (by omega) h
    exact good_other ⟨by omega, by omega, by omega⟩ (fun d hd => by have := h2 d hd; omega) u8_ne
theorem u8_mem {l : List Nat} (hl : ∀ c ∈ l, c < 1114112) {k : Nat} (hk : k < 128) (h : k ∉ l) : k ∉ l.flatMap u8 := by
  intro hm
  obtain ⟨c, hc, hd⟩ := List.mem_flatMap.mp hm
  by_cases h1 : c < 128
  · rw [u8_low h1] at hd
    have := List.mem_singleton.mp hd
    subst this
    exact h hc
  · have := u8_high (by omega) (hl c hc) k hd
    omega
theorem u8_same : ∀ l : List Nat, (∀ c ∈ l, c < 128) → l.flatMap u8 = l
  | [], _ => rfl
  | c :: l, h => by
    rw [List.flatMap_cons, u8_low (h c (.head _)), u8_same l fun d hd => h d (.tail _ hd)]; rfl
/-- the signs of IMAP's strings -/
noncomputable def quo1 (c : Nat) : List Nat := if c = 92 then [92, 92] else if c = 34 then [92, 34] else [c]
theorem quo_eq : ∀ l : List Nat, sb 34 [92, 34] (sb 92 [92, 92] l) = l.flatMap quo1
  | [] => rfl
  | c :: r => by
    rw [List.flatMap_cons, ← quo_eq r]
    have e : quo1 c = sb 34 [92, 34] (sb 92 [92, 92] [c]) := by
      unfold quo1
      by_cases h1 : c = 92
      · subst h1; rfl
      by_cases h2 : c = 34
      · subst h2; rfl
      rw [if_neg h1, if_neg h2, sb_ne _ h1, sb_ne _ h2]
    rw [e, ← sb_append, ← sb_append]; rfl
theorem quo_inn : ∀ (l b : List Nat), (∀ c ∈ l, c < 1114112) → inn false ((l.flatMap quo1).flatMap u8 ++ b) = inn false b
  | [], _, _ => rfl
  | c :: l, b, h => by
    have ih := quo_inn l b fun d hd => h d (.tail _ hd)
    rw [List.flatMap_cons, List.flatMap_append, List.append_assoc]
    by_cases h1 : c = 92
    · subst h1
      have e : (quo1 92).flatMap u8 = [92, 92] := by
        show u8 92 ++ (u8 92 ++ []) = _
        rw [u8_low (by decide)]; rfl
      rw [e]; exact ih
    by_cases h2 : c = 34
    · subst h2
      have e : (quo1 34).flatMap u8 = [92, 34] := by
        show u8 92 ++ (u8 34 ++ []) = _
        rw [u8_low (by decide), u8_low (by decide)]; rfl
      rw [e]; exact ih
    · have e : (quo1 c).flatMap u8 = u8 c := by
        unfold quo1
        rw [if_neg h1, if_neg h2]
        show u8 c ++ [] = _
        rw [List.append_nil]
      rw [e]
      by_cases h3 : c < 128
      · rw [u8_low h3]
        show (if c = 34 then _ else if c = 92 then _ else inn false _) = _
        rw [if_neg h2, if_neg h1]; exact ih
      · have hh := u8_high (by omega) (h c (.head _))
        rw [inn_run _ _ _ (fun m => by have := hh _ m; omega) (fun m => by have := hh _ m; omega), (u8_good (h c (.head _))).e, esc_one h1]
        exact ih
noncomputable def nar1 (c : Nat) : Bool := decide (c < 1114112) && !Str.isSurrogate c
theorem nar_of {l : List Nat} (h : ∀ c ∈ l, nar1 c = true) : Nar l := fun c hc => by
  have := h c hc
  unfold nar1 at this
  simpa using this
theorem nar_low {c : Nat} (h : c < 128) : c < 1114112 ∧ Str.isSurrogate c = false := by
  refine ⟨by omega, ?_⟩
  unfold Str.isSurrogate
  rw [Bool.and_eq_false_iff]
  exact .inl (decide_eq_false (by omega))
theorem Nar.app {a b : List Nat} (h : Nar a) (g : Nar b) : Nar (a ++ b) := fun c hc => by
  rcases List.mem_append.mp hc with hc | hc
  · exact h c hc
  · exact g c hc
theorem Nar.low {l : List Nat} (h : ∀ c ∈ l, c < 128) : Nar l := fun c hc => nar_low (h c hc)
theorem Nar.wr {tb : List (Nat × List Nat)} (hb : tb.all (fun x => decide (x.1 ≠ 92 ∧ x.1 ≠ 40 ∧ x.1 ≠ 41) && (!x.2.isEmpty) && x.2.all fun d => decide (d < 128 ∧ d ≠ 92 ∧ d ≠ 40 ∧ d ≠ 41 ∧ d ≠ 34 ∧ d ≠ 10)) = true) {l : List Nat} (h : Nar l) : Nar (Mine.wr tb l) := by
  intro d hd
  obtain ⟨c, hc, hd⟩ := List.mem_flatMap.mp hd
  rcases att_in hb c with e | ⟨_, _, h3⟩
  · rw [e] at hd
    rw [List.mem_singleton.mp hd]; exact h c hc
  · exact nar_low (h3 d hd).1
theorem Nar.quo {l : List Nat} (h : Nar l) : Nar (l.flatMap quo1) := by
  intro d hd
  obtain ⟨c, hc, hd⟩ := List.mem_flatMap.mp hd
  unfold quo1 at hd
  split at hd
  · have : d < 128 := by simp at hd; omega
    exact nar_low this
  · split at hd
    · have : d < 128 := by simp at hd; omega
      exact nar_low this
    · rw [List.mem_singleton.mp hd]; exact h c hc
theorem cap_nar : ((List.range 10).all fun a => (List.range 26).all fun b => nar1 (capL.getD a 0 + b)) = true := by decide +kernel
theorem b1_nar : ((List.range 8).all fun a => nar1 (b1L.getD a 0)) = true := by decide +kernel
theorem p8_nar : ((List.range 8).all fun a => nar1 (p8L.getD a (0, Str.empty)).1 && (p8L.getD a (0, Str.empty)).2.cps.toList.all nar1) = true := by kernel_rfl!
theorem e7_low : ((List.range 7).all fun a => decide (e7L.getD a 0 < 128)) = true := by decide +kernel
theorem nar1_low {c : Nat} (h : c < 128) : nar1 c = true := by
  have := nar_low h
  unfold nar1
  simp [this]
theorem sgn_nar (n : Nat) : nar1 (sgn n) = true := by
  unfold sgn
  by_cases c1 : n % 8 < 2
  · rw [if_pos c1]; exact nar1_low (by omega)
  by_cases c2 : n % 8 < 4
  · rw [if_neg c1, if_pos c2]; exact nar1_low (by omega)
  by_cases c3 : n % 8 = 4
  · rw [if_neg c1, if_neg c2, if_pos c3]; exact all_at (k := n / 8 % 8) b1_nar (Nat.mod_lt _ (by decide))
  by_cases c4 : n % 8 = 5
  · rw [if_neg c1, if_neg c2, if_neg c3, if_pos c4]; exact nar1_low (of_decide_eq_true (all_at e7_low (Nat.mod_lt _ (by decide))))
  by_cases c5 : n % 8 = 6
  · rw [if_neg c1, if_neg c2, if_neg c3, if_neg c4, if_pos c5]; exact all_at (k := n / 8 / 10 % 26) (all_at (k := n / 8 % 10) cap_nar (Nat.mod_lt _ (by decide))) (Nat.mod_lt _ (by decide))
  · rw [if_neg c1, if_neg c2, if_neg c3, if_neg c4, if_neg c5]
    have := all_at p8_nar (k := n / 8 % 8) (Nat.mod_lt _ (by decide))
    exact (Bool.and_eq_true_iff.mp this).1
theorem ltr_nar (n : Nat) : ∀ c ∈ (ltr n).cps.toList, nar1 c = true := by
  unfold ltr
  by_cases c1 : n % 8 < 2
  · rw [if_pos c1]
    intro c hc
    have : c = 40 + n % 8 := by simpa using hc
    exact nar1_low (by omega)
  by_cases c2 : n % 8 < 4
  · rw [if_neg c1, if_pos c2]
    exact List.all_eq_true.mp (by kernel_rfl!)
  by_cases c3 : n % 8 = 4
  · rw [if_neg c1, if_neg c2, if_pos c3]
    exact List.all_eq_true.mp (by kernel_rfl!)
  by_cases c4 : n % 8 = 5
  · rw [if_neg c1, if_neg c2, if_neg c3, if_pos c4]
    intro c hc
    have : c = e7L.getD (n / 8 % 7) 0 := by simpa using hc
    rw [this]
    exact nar1_low (of_decide_eq_true (all_at e7_low (Nat.mod_lt _ (by decide))))
  by_cases c5 : n % 8 = 6
  · rw [if_neg c1, if_neg c2, if_neg c3, if_neg c4, if_pos c5]
    intro c hc
    have : c = 97 + n / 8 / 10 % 26 := by simpa using hc
    exact nar1_low (by omega)
  · rw [if_neg c1, if_neg c2, if_neg c3, if_neg c4, if_neg c5]
    have := all_at p8_nar (k := n / 8 % 8) (Nat.mod_lt _ (by decide))
    exact List.all_eq_true.mp (Bool.and_eq_true_iff.mp this).2
theorem bare_nar (cs : List Nat) (k : Nat) : Nar (bareV cs k) := nar_of fun c hc => by
  obtain ⟨n, _, rfl⟩ := List.mem_map.mp hc
  exact sgn_nar n
theorem ready_nar (cs : List Nat) (k : Nat) : Nar (readyV cs k) := nar_of fun c hc => by
  obtain ⟨n, _, hc⟩ := List.mem_flatMap.mp hc
  exact ltr_nar n c hc
theorem pad_mem (r : Nat) : ∀ c ∈ pad r, c = 40 ∨ c = 41 ∨ c = 32 := by
  intro c hc
  unfold pad at hc
  rcases List.mem_append.mp hc with hc | hc
  · exact .inl (List.eq_of_mem_replicate hc)
  · rcases List.mem_append.mp hc with hc | hc
    · exact .inr (.inl (List.eq_of_mem_replicate hc))
    · exact .inr (.inr (List.mem_singleton.mp hc))
theorem pads_pad (cs : List Nat) (k : Nat) : Pad (pads cs k) := fun c hc => by
  have := pad_mem _ c hc; omega
theorem pads_low (cs : List Nat) (k : Nat) : ∀ c ∈ pads cs k, c < 128 := fun c hc => by
  have := pad_mem _ c hc; omega
theorem pads_len (cs : List Nat) (k : Nat) : (pads cs k).length ≤ 10 := by
  unfold pads pad
  simp only [List.length_append, List.length_replicate, List.length_cons, List.length_nil]
  have h1 := Nat.mod_lt (rests cs k) (show 0 < 3 by decide)
  have h2 := Nat.mod_lt (rests cs k / 3) (show 0 < 3 by decide)
  omega
theorem sl3_len (cs : List Nat) (k : Nat) : (sl3 cs k).length ≤ 3 := List.length_take_le _ _
theorem bare_len (cs : List Nat) (k : Nat) : (bareV cs k).length ≤ 10 := by
  have := sl3_len cs k
  unfold bareV
  rw [List.length_map]; omega
theorem ready_len (cs : List Nat) (k : Nat) : (readyV cs k).length ≤ 10 := by
  have := sl3_len cs k
  have h2 := fold_le (sl3 cs k)
  unfold readyV
  omega
theorem rep_nar {e p : Nat → List Nat} (he : ∀ k, Nar (e k)) (hp : ∀ k, Nar (p k)) : ∀ k, Nar (rep e p k)
  | 0 => hp 0
  | k + 1 => (rep_nar he hp k).app ((((Nar.low fun c hc => by rw [List.mem_singleton.mp hc]; decide).app (he k)).app (Nar.low fun c hc => by rw [List.mem_singleton.mp hc]; decide)).app (hp (k + 1)))
/-- the parts of a reply, as bytes -/
noncomputable def segs (e p : Nat → List Nat) (k : Nat) : List (List Nat × List Nat) := (List.range k).map fun j => ((e j).flatMap u8, p (j + 1))
theorem rep_txt {e p : Nat → List Nat} (hp : ∀ k, ∀ c ∈ p k, c < 128) : ∀ k, (rep e p k).flatMap u8 = p 0 ++ txt (segs e p k)
  | 0 => by
    show (p 0).flatMap u8 = p 0 ++ []
    rw [u8_same _ (hp 0), List.append_nil]
  | k + 1 => by
    have ih := rep_txt (e := e) hp k
    have a1 : (rep e p (k + 1)).flatMap u8 = (rep e p k).flatMap u8 ++ ((([34] ++ e k) ++ [34]) ++ p (k + 1)).flatMap u8 := List.flatMap_append
    have a2 : segs e p (k + 1) = segs e p k ++ [((e k).flatMap u8, p (k + 1))] := by
      unfold segs
      rw [List.range_succ, List.map_append]; rfl
    have a3 : txt (segs e p (k + 1)) = txt (segs e p k) ++ seg ((e k).flatMap u8, p (k + 1)) := by
      rw [a2]
      unfold txt
      rw [List.flatMap_append]
      simp
    rw [a1, a3, ih, List.append_assoc]
    congr 2
    simp only [List.flatMap_append, u8_same _ (hp (k + 1)), List.flatMap_cons, List.flatMap_nil, u8_low (show 34 < 128 by decide)]
    unfold seg
    simp
theorem op8_rep {e p : Nat → List Nat} (hp : ∀ k, ∀ c ∈ p k, c < 128) (hp2 : ∀ k, Pad (p k)) (he : ∀ k, Wri ((e k).flatMap u8)) (k : Nat) : op8 (rep e p k) = op (p 0) + cntF (segs e p k) := by
  unfold op8
  rw [open_op, rep_txt hp, strip_app _ _ (hp2 0).wri.1, op_app, outside]
  intro x hx
  obtain ⟨j, _, rfl⟩ := List.mem_map.mp hx
  exact ⟨he j, hp2 (j + 1)⟩
theorem att_wri {v : List Nat} (h : Nar v) : Wri ((wr attTb v).flatMap u8) :=
  ⟨u8_mem (fun c hc => (Nar.wr attOk h c hc).1) (by decide) (wr_gone attOk (.inl rfl) (by decide) v), u8_mem (fun c hc => (Nar.wr attOk h c hc).1) (by decide) (wr_gone attOk (.inr rfl) (by decide) v)⟩
theorem att_esc {v : List Nat} (h : Nar v) : esc false ((wr attTb v).flatMap u8) = oddEnd v := by
  rw [good_esc _ _ fun c hc => u8_good (Nar.wr attOk h c hc).1]
  exact good_esc v false fun c _ => att_good attOk c
theorem u8_op {l : List Nat} (h : Nar l) : op (l.flatMap u8) = op l := good_op _ fun c hc => u8_good (h c hc).1
theorem wr_op {tb : List (Nat × List Nat)} (hb : tb.all (fun x => decide (x.1 ≠ 92 ∧ x.1 ≠ 40 ∧ x.1 ≠ 41) && (!x.2.isEmpty) && x.2.all fun d => decide (d < 128 ∧ d ≠ 92 ∧ d ≠ 40 ∧ d ≠ 41 ∧ d ≠ 34 ∧ d ≠ 10)) = true) (l : List Nat) : op (wr tb l) = op l := good_op l fun c _ => att_good hb c
theorem att_op {v : List Nat} (h : Nar v) : op ((wr attTb v).flatMap u8) = op v := by rw [u8_op (Nar.wr attOk h), wr_op attOk]
theorem more_S (l : List Nat) : more (S l) = op l := rfl
theorem odd_S (l : List Nat) : oddEnd (S l).cps.toList = oddEnd l := rfl
theorem row1 (v : Nat → List Nat) : rowL v 1 = [S (v 0)] := rfl
theorem row2 (v : Nat → List Nat) : rowL v 2 = [S (v 0), S (v 1)] := rfl
theorem row3 (v : Nat → List Nat) : rowL v 3 = [S (v 0), S (v 1), S (v 2)] := rfl
theorem row4 (v : Nat → List Nat) : rowL v 4 = [S (v 0), S (v 1), S (v 2), S (v 3)] := rfl
theorem cnt_one (v p : Nat → List Nat) (hv : ∀ k, Nar (v k)) : op (p 0) + cntF (segs (fun k => wr attTb (v k)) p 1) = counted (rowL v 1) (rowL p 2) := by
  rw [row1, row2]
  unfold counted fstBad last1 segs
  simp only [List.range_succ, List.range_zero, List.nil_append, List.map_append, List.map_cons, List.map_nil, cntF, att_esc (hv _), att_op (hv _), sumW, lastP, List.takeWhile_cons, List.takeWhile_nil, odd_S]
  rcases Bool.eq_false_or_eq_true (oddEnd (v 0)) with h0 | h0 <;> simp [more_S, h0] <;> omega
theorem cnt_two (v p : Nat → List Nat) (hv : ∀ k, Nar (v k)) : op (p 0) + cntF (segs (fun k => wr attTb (v k)) p 2) = counted (rowL v 2) (rowL p 3) := by
  rw [row2, row3]
  unfold counted fstBad last1 segs
  simp only [List.range_succ, List.range_zero, List.nil_append, List.cons_append, List.map_append, List.map_cons, List.map_nil, cntF, att_esc (hv _), att_op (hv _), sumW, lastP, List.takeWhile_cons, List.takeWhile_nil, odd_S]
  rcases Bool.eq_false_or_eq_true (oddEnd (v 0)) with h0 | h0 <;> rcases Bool.eq_false_or_eq_true (oddEnd (v 1)) with h1 | h1 <;> simp [more_S, h0, h1] <;> omega
theorem cnt_three (v p : Nat → List Nat) (hv : ∀ k, Nar (v k)) : op (p 0) + cntF (segs (fun k => wr attTb (v k)) p 3) = counted (rowL v 3) (rowL p 4) := by
  rw [row3, row4]
  unfold counted fstBad last1 segs
  simp only [List.range_succ, List.range_zero, List.nil_append, List.cons_append, List.map_append, List.map_cons, List.map_nil, cntF, att_esc (hv _), att_op (hv _), sumW, lastP, List.takeWhile_cons, List.takeWhile_nil, odd_S]
  rcases Bool.eq_false_or_eq_true (oddEnd (v 0)) with h0 | h0 <;> rcases Bool.eq_false_or_eq_true (oddEnd (v 1)) with h1 | h1 <;> rcases Bool.eq_false_or_eq_true (oddEnd (v 2)) with h2 | h2 <;> simp [more_S, h0, h1, h2] <;> omega
theorem law_a {v p : Nat → List Nat} (hv : ∀ k, Nar (v k)) (hp : ∀ k, ∀ c ∈ p k, c < 128) (hp2 : ∀ k, Pad (p k)) : ∀ i, i < 3 → op8 (rep (attV v) p (i + 1)) = counted (rowL v (i + 1)) (rowL p (i + 2)) := by
  intro i hi
  show op8 (rep (fun k => wr attTb (v k)) p (i + 1)) = _
  rw [op8_rep hp hp2 fun k => att_wri (hv k)]
  rcases i with _ | _ | _ | i
  · exact cnt_one v p hv
  · exact cnt_two v p hv
  · exact cnt_three v p hv
  · omega
theorem html_free {l : List Nat} (h : Nar l) : op8 (wr htmTb l) = op l := by
  unfold op8
  have h1 : 34 ∉ (wr htmTb l).flatMap u8 := u8_mem (fun c hc => (Nar.wr htmOk h c hc).1) (by decide) (wr_gone htmOk (.inl rfl) (by decide) l)
  have h2 := strip_app _ [] h1
  rw [List.append_nil] at h2
  rw [open_op, h2]
  show op (_ ++ []) = _
  rw [List.append_nil, u8_op (Nar.wr htmOk h), wr_op htmOk]
theorem op_rep (e p : Nat → List Nat) : ∀ k, op (rep e p (k + 1)) = op (rep e p k) + (op (e k) + op (p (k + 1))) := by
  intro k
  show op (rep e p k ++ ((([34] ++ e k) ++ [34]) ++ p (k + 1))) = _
  rw [op_app, op_app, op_app, op_app]
  have : op [34] = 0 := by decide
  omega
theorem law_h {v p : Nat → List Nat} (hv : ∀ k, Nar (v k)) (hp : ∀ k, ∀ c ∈ p k, c < 128) : op8 (wr htmTb (rep (attV v) p 3)) = ((rowL p 4 ++ rowL v 3).map more).sum := by
  rw [html_free (rep_nar (e := attV v) (fun k => Nar.wr attOk (hv k)) (fun k => Nar.low (hp k)) 3), op_rep, op_rep, op_rep, row3, row4]
  have e : ∀ k, op (attV v k) = op (v k) := fun k => wr_op attOk (v k)
  rw [e, e, e]
  show op (p 0) + _ + _ + _ = _
  simp [more_S]
  omega
theorem quo_cut {v p : Nat → List Nat} (hv : ∀ k, Nar (v k)) (hp : ∀ k, ∀ c ∈ p k, c < 128) (hp2 : ∀ k, Pad (p k)) : ∀ (l : List Nat), op (strip' (txt (l.map fun j => ((quoV v j).flatMap u8, p (j + 1))))) = (l.map fun j => op (p (j + 1))).sum
  | [] => rfl
  | j :: l => by
    rw [List.map_cons, txt_cons]
    have h : inn false ((quoV v j).flatMap u8 ++ 34 :: (p (j + 1) ++ txt (l.map fun j => ((quoV v j).flatMap u8, p (j + 1))))) = some (p (j + 1) ++ txt (l.map fun j => ((quoV v j).flatMap u8, p (j + 1)))) := by
      unfold quoV
      rw [quo_eq, quo_inn _ _ fun c hc => (hv j c hc).1]; rfl
    rw [strip_str h, strip_app _ _ (hp2 _).wri.1, op_app, quo_cut hv hp hp2 l, List.map_cons, List.sum_cons]
theorem law_q {v p : Nat → List Nat} (hv : ∀ k, Nar (v k)) (hp : ∀ k, ∀ c ∈ p k, c < 128) (hp2 : ∀ k, Pad (p k)) : op8 (rep (quoV v) p 3) = ((rowL p 4).map more).sum := by
  unfold op8
  rw [open_op, rep_txt hp, strip_app _ _ (hp2 0).wri.1, op_app]
  unfold segs
  rw [quo_cut hv hp hp2, row4]
  simp [more_S, List.range_succ]
theorem plain (cs : List Nat) (_hcs : cs.length = 9) (_hcb : ∀ c ∈ cs, c < 1000000) : PlainLaw cs where
  l1 := bare_len cs
  l2 := ready_len cs
  l3 := pads_len cs
  n1 i _ := rep_nar (fun k => Nar.wr attOk (bare_nar cs k)) (fun k => Nar.low (pads_low cs k)) (i + 1)
  a1 := law_a (bare_nar cs) (pads_low cs) (pads_pad cs)
  n2 i _ := rep_nar (fun k => Nar.wr attOk (ready_nar cs k)) (fun k => Nar.low (pads_low cs k)) (i + 1)
  a2 := law_a (ready_nar cs) (pads_low cs) (pads_pad cs)
  n3 := Nar.wr htmOk (rep_nar (fun k => Nar.wr attOk (ready_nar cs k)) (fun k => Nar.low (pads_low cs k)) 3)
  a3 := law_h (ready_nar cs) (pads_low cs)
  n4 := rep_nar (fun k => by unfold quoV; rw [quo_eq]; exact Nar.quo (ready_nar cs k)) (fun k => Nar.low (pads_low cs k)) 3
  a4 := law_q (ready_nar cs) (pads_low cs) (pads_pad cs)
theorem the_law : PySem.Challenge.rw_xn0012_01.Holds := holds_of (law_ok plain)
end Mine
end
theorem PySem.Challenge.cw_xn0012_01_holds : PySem.Challenge.rw_xn0012_01.Holds :=
  Mine.the_law
