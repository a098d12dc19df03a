import PyProof.Rows.All
import Wide.All
import OpenK.AllK
import Wide.FinOn
import PySem.Challenge.RW_st0009_01
set_option Elab.async false
section
open PySem PySem.W PyProof.Rows
namespace Mine
section
set_option maxRecDepth 100000
set_option maxHeartbeats 8000000
/-- the text without the three statements whose values are not told by their words -/
noncomputable def topQ : Program := { PySem.Challenge.pw_st0009_01 with main := { PySem.Challenge.pw_st0009_01.main with body := ((PySem.Challenge.pw_st0009_01.main.body.eraseIdx 57).eraseIdx 6).eraseIdx 5 } }
noncomputable def topL : List Str := [Str.ofString "_twin_re_1", Str.ofString "_twin_re_2", Str.ofString "EXACT_TOKEN_TYPES"]
/-- a def's object, of the text's i-th statement -/
noncomputable def fobjOf (c : Value) (i g : Nat) (pm cd : Value) : Obj := match PySem.Challenge.pw_st0009_01.main.body.getD i default with
  | .FunctionDef n a b _ _ _ sc _ _ _ => ⟨c, none, .func ⟨n, n, a, .stmts b, sc, g, [], .none, .none, .none, pm, none, cd, .none, 0⟩, #[]⟩
  | _ => default
noncomputable def dE (P : Params) (k : String) (n : Nat) (v : Value) : DictEntry := ⟨PyData.keyHash P (Str.ofString k), .str (Str.ofString k) n, v⟩
noncomputable def vS (s : String) (n : Nat) : Value := .str (Str.ofString s) n
noncomputable def vI (i : Int) (n : Nat) : Value := .int i n
/-! the objects behind the opening (oA) and those that the text makes or changes (oB) -/
noncomputable def oA0 (P : Params) : Obj := Obj.mk (Value.type "dict") none (Data.dict #[dE P "__name__" 1 (vS "builtins" 160), dE P "__doc__" 2 (Value.builtin "builtins.__doc__:str#opaque"), dE P "__package__" 3 (Value.builtin
    "builtins.__package__:str#opaque"), dE P "__loader__" 4 (Value.builtin "builtins.__loader__:shared#opaque"), dE P "__spec__" 5 (Value.builtin "builtins.__spec__#opaque"), dE P "__build_class__"
    6 (Value.builtin "__build_class__"), dE P "__import__" 7 (Value.builtin "__import__"), dE P "abs" 8 (Value.builtin "abs"), dE P "all" 9 (Value.builtin "all"), dE P "any" 10 (Value.builtin
    "any"), dE P "ascii" 11 (Value.builtin "ascii"), dE P "bin" 12 (Value.builtin "bin"), dE P "breakpoint" 13 (Value.builtin "breakpoint"), dE P "callable" 14 (Value.builtin "callable"),
    dE P "chr" 15 (Value.builtin "chr"), dE P "compile" 16 (Value.builtin "compile"), dE P "delattr" 17 (Value.builtin "delattr"), dE P "dir" 18 (Value.builtin "dir"), dE P "divmod"
    19 (Value.builtin "divmod"), dE P "eval" 20 (Value.builtin "eval"), dE P "exec" 21 (Value.builtin "exec"), dE P "format" 22 (Value.builtin "format"), dE P "getattr" 23 (Value.builtin
    "getattr"), dE P "globals" 24 (Value.builtin "globals"), dE P "hasattr" 25 (Value.builtin "hasattr"), dE P "hash" 26 (Value.builtin "hash"), dE P "hex" 27 (Value.builtin "hex"),
    dE P "id" 28 (Value.builtin "id"), dE P "input" 29 (Value.builtin "input"), dE P "isinstance" 30 (Value.builtin "isinstance"), dE P "issubclass" 31 (Value.builtin "issubclass"),
    dE P "iter" 32 (Value.builtin "iter"), dE P "aiter" 33 (Value.builtin "aiter"), dE P "len" 34 (Value.builtin "len"), dE P "locals" 35 (Value.builtin "locals"), dE P "max" 36 (Value.builtin
    "max"), dE P "min" 37 (Value.builtin "min"), dE P "next" 38 (Value.builtin "next"), dE P "anext" 39 (Value.builtin "anext"), dE P "oct" 40 (Value.builtin "oct"), dE P "ord" 41 (Value.builtin
    "ord"), dE P "pow" 42 (Value.builtin "pow"), dE P "print" 43 (Value.builtin "print"), dE P "repr" 44 (Value.builtin "repr"), dE P "round" 45 (Value.builtin "round"), dE P "setattr"
    46 (Value.builtin "setattr"), dE P "sorted" 47 (Value.builtin "sorted"), dE P "sum" 48 (Value.builtin "sum"), dE P "vars" 49 (Value.builtin "vars"), dE P "None" 50 Value.none, dE
    P "Ellipsis" 51 Value.ellipsis, dE P "NotImplemented" 52 Value.notImplemented, dE P "False" 53 (Value.bool false), dE P "True" 54 (Value.bool true), dE P "bool" 55 (Value.type "bool"),
    dE P "memoryview" 56 (Value.type "memoryview"), dE P "bytearray" 57 (Value.type "bytearray"), dE P "bytes" 58 (Value.type "bytes"), dE P "classmethod" 59 (Value.type "classmethod"),
    dE P "complex" 60 (Value.type "complex"), dE P "dict" 61 (Value.type "dict"), dE P "enumerate" 62 (Value.type "enumerate"), dE P "filter" 63 (Value.type "filter"), dE P "float" 64
    (Value.type "float"), dE P "frozenset" 65 (Value.type "frozenset"), dE P "property" 66 (Value.type "property"), dE P "int" 67 (Value.type "int"), dE P "list" 68 (Value.type "list"),
    dE P "map" 69 (Value.type "map"), dE P "object" 70 (Value.type "object"), dE P "range" 71 (Value.type "range"), dE P "reversed" 72 (Value.type "reversed"), dE P "set" 73 (Value.type
    "set"), dE P "slice" 74 (Value.type "slice"), dE P "staticmethod" 75 (Value.type "staticmethod"), dE P "str" 76 (Value.type "str"), dE P "super" 77 (Value.type "super"), dE P "tuple"
    78 (Value.type "tuple"), dE P "type" 79 (Value.type "type"), dE P "zip" 80 (Value.type "zip"), dE P "__debug__" 81 (Value.bool true), dE P "BaseException" 82 (Value.type "BaseException"),
    dE P "BaseExceptionGroup" 83 (Value.type "BaseExceptionGroup"), dE P "Exception" 84 (Value.type "Exception"), dE P "GeneratorExit" 85 (Value.type "GeneratorExit"), dE P "KeyboardInterrupt"
    86 (Value.type "KeyboardInterrupt"), dE P "SystemExit" 87 (Value.type "SystemExit"), dE P "ArithmeticError" 88 (Value.type "ArithmeticError"), dE P "AssertionError" 89 (Value.type
    "AssertionError"), dE P "AttributeError" 90 (Value.type "AttributeError"), dE P "BufferError" 91 (Value.type "BufferError"), dE P "EOFError" 92 (Value.type "EOFError"), dE P "ImportError"
    93 (Value.type "ImportError"), dE P "LookupError" 94 (Value.type "LookupError"), dE P "MemoryError" 95 (Value.type "MemoryError"), dE P "NameError" 96 (Value.type "NameError"), dE
    P "OSError" 97 (Value.type "OSError"), dE P "ReferenceError" 98 (Value.type "ReferenceError"), dE P "RuntimeError" 99 (Value.type "RuntimeError"), dE P "StopAsyncIteration" 100 (Value.type
    "StopAsyncIteration"), dE P "StopIteration" 101 (Value.type "StopIteration"), dE P "SyntaxError" 102 (Value.type "SyntaxError"), dE P "SystemError" 103 (Value.type "SystemError"),
    dE P "TypeError" 104 (Value.type "TypeError"), dE P "ValueError" 105 (Value.type "ValueError"), dE P "Warning" 106 (Value.type "Warning"), dE P "FloatingPointError" 107 (Value.type
    "FloatingPointError"), dE P "OverflowError" 108 (Value.type "OverflowError"), dE P "ZeroDivisionError" 109 (Value.type "ZeroDivisionError"), dE P "BytesWarning" 110 (Value.type "BytesWarning"),
    dE P "DeprecationWarning" 111 (Value.type "DeprecationWarning"), dE P "EncodingWarning" 112 (Value.type "EncodingWarning"), dE P "FutureWarning" 113 (Value.type "FutureWarning"),
    dE P "ImportWarning" 114 (Value.type "ImportWarning"), dE P "PendingDeprecationWarning" 115 (Value.type "PendingDeprecationWarning"), dE P "ResourceWarning" 116 (Value.type "ResourceWarning"),
    dE P "RuntimeWarning" 117 (Value.type "RuntimeWarning"), dE P "SyntaxWarning" 118 (Value.type "SyntaxWarning"), dE P "UnicodeWarning" 119 (Value.type "UnicodeWarning"), dE P "UserWarning"
    120 (Value.type "UserWarning"), dE P "BlockingIOError" 121 (Value.type "BlockingIOError"), dE P "ChildProcessError" 122 (Value.type "ChildProcessError"), dE P "ConnectionError" 123
    (Value.type "ConnectionError"), dE P "FileExistsError" 124 (Value.type "FileExistsError"), dE P "FileNotFoundError" 125 (Value.type "FileNotFoundError"), dE P "InterruptedError"
    126 (Value.type "InterruptedError"), dE P "IsADirectoryError" 127 (Value.type "IsADirectoryError"), dE P "NotADirectoryError" 128 (Value.type "NotADirectoryError"), dE P "PermissionError"
    129 (Value.type "PermissionError"), dE P "ProcessLookupError" 130 (Value.type "ProcessLookupError"), dE P "TimeoutError" 131 (Value.type "TimeoutError"), dE P "IndentationError"
    132 (Value.type "IndentationError"), dE P "_IncompleteInputError" 133 (Value.type "_IncompleteInputError"), dE P "IndexError" 134 (Value.type "IndexError"), dE P "KeyError" 135 (Value.type
    "KeyError"), dE P "ModuleNotFoundError" 136 (Value.type "ModuleNotFoundError"), dE P "NotImplementedError" 137 (Value.type "NotImplementedError"), dE P "PythonFinalizationError"
    138 (Value.type "PythonFinalizationError"), dE P "RecursionError" 139 (Value.type "RecursionError"), dE P "UnboundLocalError" 140 (Value.type "UnboundLocalError"), dE P "UnicodeError"
    141 (Value.type "UnicodeError"), dE P "BrokenPipeError" 142 (Value.type "BrokenPipeError"), dE P "ConnectionAbortedError" 143 (Value.type "ConnectionAbortedError"), dE P "ConnectionRefusedError"
    144 (Value.type "ConnectionRefusedError"), dE P "ConnectionResetError" 145 (Value.type "ConnectionResetError"), dE P "TabError" 146 (Value.type "TabError"), dE P "UnicodeDecodeError"
    147 (Value.type "UnicodeDecodeError"), dE P "UnicodeEncodeError" 148 (Value.type "UnicodeEncodeError"), dE P "UnicodeTranslateError" 149 (Value.type "UnicodeTranslateError"), dE
    P "ExceptionGroup" 150 (Value.type "ExceptionGroup"), dE P "EnvironmentError" 151 (Value.type "OSError"), dE P "IOError" 152 (Value.type "OSError"), dE P "open" 153 (Value.builtin
    "open"), dE P "quit" 154 (Value.builtin "builtins.quit#opaque"), dE P "exit" 155 (Value.builtin "builtins.exit#opaque"), dE P "copyright" 156 (Value.builtin "builtins.copyright#opaque"),
    dE P "credits" 157 (Value.builtin "builtins.credits#opaque"), dE P "license" 158 (Value.builtin "builtins.license#opaque"), dE P "help" 159 (Value.builtin "builtins.help#opaque")]
    159) #[]
noncomputable def oA1 (P : Params) : Obj := Obj.mk (Value.type "dict") none (Data.dict #[dE P "builtins" 162 (Value.ref 4), dE P "__main__" 163 (Value.ref 5), dE P "_sre" 244 (Value.ref 12)] 3) #[]
noncomputable def oA2 (P : Params) : Obj := Obj.mk Value.none none (Data.dict #[dE P "\x69mport.loaded._sre" 183 (Value.bool true), dE P "class._frozen_importlib.BuiltinImporter" 185 (Value.ref 14), dE P "watched.\x69mport" 206 (Value.ref
    18), dE P "class._frozen_importlib.ModuleSpec" 216 (Value.ref 22), dE P "sys.modules.booked-epoch" 245 (vI 3 0), dE P "\x69mport.later-laid._sre" 270 (Value.bool true), dE P "watched.library"
    272 (Value.ref 27), dE P "watched.library-objects" 0 (vS "\x0c" 0), dE P "watched.library-deep._sre" 273 (Value.str ⟨#[4, 0, 0, 11, 4, 0, 0, 11, 4, 0, 0, 3, 4, 0, 0, 11, 8, 4, 100,
    105, 99, 116, 2]⟩ 0)] 9) #[]
noncomputable def oA3 (P : Params) : Obj := Obj.mk (Value.type "dict") none (Data.dict #[dE P "__name__" 165 (vS "__main__" 164), dE P "__doc__" 166 Value.none, dE P "__package__" 167 Value.none, dE P "__loader__" 168 (Value.builtin
    "__main__.__loader__#opaque"), dE P "__spec__" 169 Value.none, dE P "__annotations__" 170 (Value.ref 6), dE P "__builtins__" 171 (Value.ref 4), dE P "__file__" 173 (vS "/claim/cut.py"
    172), dE P "__cached__" 174 Value.none, dE P "_sre" 275 (Value.ref 12)] 10) #[]
noncomputable def oA4 (_ : Params) : Obj := Obj.mk (Value.type "module") (some 0) Data.plain #[]
noncomputable def oA5 (_ : Params) : Obj := Obj.mk (Value.type "module") (some 3) Data.plain #[]
noncomputable def oA6 (_ : Params) : Obj := Obj.mk (Value.type "dict") none (Data.dict #[]) #[]
noncomputable def oA7 (_ : Params) : Obj := Obj.mk (Value.type "tuple") none (Data.seq #[]) #[]
noncomputable def oA8 (_ : Params) : Obj := Obj.mk Value.none none (Data.fields #[]) #[]
noncomputable def oA9 (_ : Params) : Obj := Obj.mk (Value.type "code") none (Data.fields #[vS "<module>" 176, vS "<module>" 177, vS "/claim/cut.py" 178, vI 1 0, vI 0 0, vI 0 0, vI 0 0, vI 0 0, Value.ref 7, Value.bool false, vI
    175 0, Value.ref 8, Value.none, Value.none, Value.none, Value.none, vI 179 0, vI 1 0, vS "/claim/cut.py" 180]) #[]
noncomputable def oA10 (_ : Params) : Obj := Obj.mk (Value.type "frame") none Data.plain #[some (Value.ref 9), some (Value.ref 3), some (Value.ref 3), none, some (vS "__main__" 164), none, some (Value.ref 0)]
noncomputable def oA11 (P : Params) : Obj := Obj.mk (Value.type "dict") none (Data.dict #[dE P "__name__" 247 (vS "_sre" 246), dE P "__doc__" 248 Value.none, dE P "__package__" 250 (vS "" 249), dE P "__loader__" 251 (Value.builtin
    "off-the-table:_sre.__loader__:shared#opaque"), dE P "__spec__" 252 (Value.builtin "off-the-table:_sre.__spec__:shared#opaque"), dE P "compile" 253 (Value.builtin "_sre.compile"),
    dE P "template" 254 (Value.builtin "off-the-table:_sre.template:shared#opaque"), dE P "getcodesize" 255 (Value.builtin "off-the-table:_sre.getcodesize:shared#opaque"), dE P "ascii_iscased"
    256 (Value.builtin "off-the-table:_sre.ascii_iscased:shared#opaque"), dE P "unicode_iscased" 257 (Value.builtin "off-the-table:_sre.unicode_iscased:shared#opaque"), dE P "ascii_tolower"
    258 (Value.builtin "off-the-table:_sre.ascii_tolower:shared#opaque"), dE P "unicode_tolower" 259 (Value.builtin "off-the-table:_sre.unicode_tolower:shared#opaque"), dE P "MAGIC"
    261 (vI 20230612 260), dE P "CODESIZE" 263 (vI 4 262), dE P "MAXREPEAT" 265 (vI 4294967295 264), dE P "MAXGROUPS" 267 (vI 1073741823 266), dE P "copyright" 269 (vS " SRE 2.2.2 Copyright (c) 1997-2002 by Secret Labs AB "
    268)] 17) #[]
noncomputable def oA12 (_ : Params) : Obj := Obj.mk (Value.type "module") (some 11) Data.plain #[]
noncomputable def oA13 (P : Params) : Obj := Obj.mk (Value.type "dict") none (Data.dict #[dE P "__module__" 189 (vS "_frozen_importlib" 186), dE P "__firstlineno__" 190 (vI 971 187), dE P "__doc__" 191 (Value.builtin "_frozen_importlib.BuiltinImporter.__doc__:str#opaque"),
    dE P "_ORIGIN" 192 (vS "built-in" 188), dE P "find_spec" 193 (Value.builtin "_frozen_importlib.BuiltinImporter.find_spec#opaque"), dE P "create_module" 194 (Value.builtin "_frozen_importlib.BuiltinImporter.create_module#opaque"),
    dE P "exec_module" 195 (Value.builtin "_frozen_importlib.BuiltinImporter.exec_module#opaque"), dE P "get_code" 196 (Value.builtin "_frozen_importlib.BuiltinImporter.get_code#opaque"),
    dE P "get_source" 197 (Value.builtin "_frozen_importlib.BuiltinImporter.get_source#opaque"), dE P "is_package" 198 (Value.builtin "_frozen_importlib.BuiltinImporter.is_package#opaque"),
    dE P "load_module" 199 (Value.builtin "_frozen_importlib.BuiltinImporter.load_module#opaque"), dE P "__static_attributes__" 200 (Value.ref 15), dE P "__dict__" 202 (Value.ref 16),
    dE P "__weakref__" 204 (Value.ref 17)] 14) #[]
noncomputable def oA14 (_ : Params) : Obj := Obj.mk (Value.type "type") none (Data.cls (ClassData.mk (Str.ofString "BuiltinImporter") [Value.type "object"] [Value.ref 14, Value.type "object"] 13 (Str.ofString "BuiltinImporter")
    true [] [] false none false)) #[]
noncomputable def oA15 (_ : Params) : Obj := Obj.mk (Value.type "tuple") none (Data.seq #[]) #[]
noncomputable def oA16 (_ : Params) : Obj := Obj.mk (Value.type "getset_descriptor") none (Data.fields #[vS "__dict__" 201, Value.ref 14, Value.builtin "function.__dict__", Value.builtin "function.__dict__#set"]) #[]
noncomputable def oA17 (_ : Params) : Obj := Obj.mk (Value.type "getset_descriptor") none (Data.fields #[vS "__weakref__" 203, Value.ref 14, Value.builtin "ExceptionGroup.__weakref__", Value.none]) #[]
noncomputable def oA18 (_ : Params) : Obj := Obj.mk Value.none none (Data.seq #[vI 13 0, Value.str ⟨#[6, 189, 10, 95, 95, 109, 111, 100, 117, 108, 101, 95, 95, 6, 186, 17, 95, 102, 114, 111, 122, 101, 110, 95, 105, 109, 112, 111,
    114, 116, 108, 105, 98, 6, 190, 15, 95, 95, 102, 105, 114, 115, 116, 108, 105, 110, 101, 110, 111, 95, 95, 4, 187, 0, 971, 6, 191, 7, 95, 95, 100, 111, 99, 95, 95, 9, 52, 95, 102,
    114, 111, 122, 101, 110, 95, 105, 109, 112, 111, 114, 116, 108, 105, 98, 46, 66, 117, 105, 108, 116, 105, 110, 73, 109, 112, 111, 114, 116, 101, 114, 46, 95, 95, 100, 111, 99, 95,
    95, 58, 115, 116, 114, 35, 111, 112, 97, 113, 117, 101, 6, 192, 7, 95, 79, 82, 73, 71, 73, 78, 6, 188, 8, 98, 117, 105, 108, 116, 45, 105, 110, 6, 193, 9, 102, 105, 110, 100, 95,
    115, 112, 101, 99, 9, 50, 95, 102, 114, 111, 122, 101, 110, 95, 105, 109, 112, 111, 114, 116, 108, 105, 98, 46, 66, 117, 105, 108, 116, 105, 110, 73, 109, 112, 111, 114, 116, 101,
    114, 46, 102, 105, 110, 100, 95, 115, 112, 101, 99, 35, 111, 112, 97, 113, 117, 101, 6, 194, 13, 99, 114, 101, 97, 116, 101, 95, 109, 111, 100, 117, 108, 101, 9, 54, 95, 102, 114,
    111, 122, 101, 110, 95, 105, 109, 112, 111, 114, 116, 108, 105, 98, 46, 66, 117, 105, 108, 116, 105, 110, 73, 109, 112, 111, 114, 116, 101, 114, 46, 99, 114, 101, 97, 116, 101, 95,
    109, 111, 100, 117, 108, 101, 35, 111, 112, 97, 113, 117, 101, 6, 195, 11, 101, 120, 101, 99, 95, 109, 111, 100, 117, 108, 101, 9, 52, 95, 102, 114, 111, 122, 101, 110, 95, 105,
    109, 112, 111, 114, 116, 108, 105, 98, 46, 66, 117, 105, 108, 116, 105, 110, 73, 109, 112, 111, 114, 116, 101, 114, 46, 101, 120, 101, 99, 95, 109, 111, 100, 117, 108, 101, 35, 111,
    112, 97, 113, 117, 101, 6, 196, 8, 103, 101, 116, 95, 99, 111, 100, 101, 9, 49, 95, 102, 114, 111, 122, 101, 110, 95, 105, 109, 112, 111, 114, 116, 108, 105, 98, 46, 66, 117, 105,
    108, 116, 105, 110, 73, 109, 112, 111, 114, 116, 101, 114, 46, 103, 101, 116, 95, 99, 111, 100, 101, 35, 111, 112, 97, 113, 117, 101, 6, 197, 10, 103, 101, 116, 95, 115, 111, 117,
    114, 99, 101, 9, 51, 95, 102, 114, 111, 122, 101, 110, 95, 105, 109, 112, 111, 114, 116, 108, 105, 98, 46, 66, 117, 105, 108, 116, 105, 110, 73, 109, 112, 111, 114, 116, 101, 114,
    46, 103, 101, 116, 95, 115, 111, 117, 114, 99, 101, 35, 111, 112, 97, 113, 117, 101, 6, 198, 10, 105, 115, 95, 112, 97, 99, 107, 97, 103, 101, 9, 51, 95, 102, 114, 111, 122, 101,
    110, 95, 105, 109, 112, 111, 114, 116, 108, 105, 98, 46, 66, 117, 105, 108, 116, 105, 110, 73, 109, 112, 111, 114, 116, 101, 114, 46, 105, 115, 95, 112, 97, 99, 107, 97, 103, 101,
    35, 111, 112, 97, 113, 117, 101, 6, 199, 11, 108, 111, 97, 100, 95, 109, 111, 100, 117, 108, 101, 9, 52, 95, 102, 114, 111, 122, 101, 110, 95, 105, 109, 112, 111, 114, 116, 108,
    105, 98, 46, 66, 117, 105, 108, 116, 105, 110, 73, 109, 112, 111, 114, 116, 101, 114, 46, 108, 111, 97, 100, 95, 109, 111, 100, 117, 108, 101, 35, 111, 112, 97, 113, 117, 101, 6,
    200, 21, 95, 95, 115, 116, 97, 116, 105, 99, 95, 97, 116, 116, 114, 105, 98, 117, 116, 101, 115, 95, 95, 4, 0, 0, 15, 6, 202, 8, 95, 95, 100, 105, 99, 116, 95, 95, 4, 0, 0, 16, 6,
    204, 11, 95, 95, 119, 101, 97, 107, 114, 101, 102, 95, 95, 4, 0, 0, 17]⟩ 0, Value.bool true, Value.bool true, vS "" 205, vI 21 0, Value.str ⟨#[6, 227, 10, 95, 95, 109, 111, 100,
    117, 108, 101, 95, 95, 6, 217, 17, 95, 102, 114, 111, 122, 101, 110, 95, 105, 109, 112, 111, 114, 116, 108, 105, 98, 6, 228, 15, 95, 95, 102, 105, 114, 115, 116, 108, 105, 110, 101,
    110, 111, 95, 95, 4, 218, 0, 562, 6, 229, 7, 95, 95, 100, 111, 99, 95, 95, 9, 47, 95, 102, 114, 111, 122, 101, 110, 95, 105, 109, 112, 111, 114, 116, 108, 105, 98, 46, 77, 111, 100,
    117, 108, 101, 83, 112, 101, 99, 46, 95, 95, 100, 111, 99, 95, 95, 58, 115, 116, 114, 35, 111, 112, 97, 113, 117, 101, 6, 230, 8, 95, 95, 105, 110, 105, 116, 95, 95, 9, 44, 95, 102,
    114, 111, 122, 101, 110, 95, 105, 109, 112, 111, 114, 116, 108, 105, 98, 46, 77, 111, 100, 117, 108, 101, 83, 112, 101, 99, 46, 95, 95, 105, 110, 105, 116, 95, 95, 35, 111, 112,
    97, 113, 117, 101, 6, 231, 8, 95, 95, 114, 101, 112, 114, 95, 95, 9, 44, 95, 102, 114, 111, 122, 101, 110, 95, 105, 109, 112, 111, 114, 116, 108, 105, 98, 46, 77, 111, 100, 117,
    108, 101, 83, 112, 101, 99, 46, 95, 95, 114, 101, 112, 114, 95, 95, 35, 111, 112, 97, 113, 117, 101, 6, 232, 6, 95, 95, 101, 113, 95, 95, 9, 42, 95, 102, 114, 111, 122, 101, 110,
    95, 105, 109, 112, 111, 114, 116, 108, 105, 98, 46, 77, 111, 100, 117, 108, 101, 83, 112, 101, 99, 46, 95, 95, 101, 113, 95, 95, 35, 111, 112, 97, 113, 117, 101, 6, 233, 6, 99, 97,
    99, 104, 101, 100, 9, 42, 95, 102, 114, 111, 122, 101, 110, 95, 105, 109, 112, 111, 114, 116, 108, 105, 98, 46, 77, 111, 100, 117, 108, 101, 83, 112, 101, 99, 46, 99, 97, 99, 104,
    101, 100, 35, 111, 112, 97, 113, 117, 101, 6, 234, 6, 112, 97, 114, 101, 110, 116, 9, 42, 95, 102, 114, 111, 122, 101, 110, 95, 105, 109, 112, 111, 114, 116, 108, 105, 98, 46, 77,
    111, 100, 117, 108, 101, 83, 112, 101, 99, 46, 112, 97, 114, 101, 110, 116, 35, 111, 112, 97, 113, 117, 101, 6, 235, 12, 104, 97, 115, 95, 108, 111, 99, 97, 116, 105, 111, 110, 9,
    48, 95, 102, 114, 111, 122, 101, 110, 95, 105, 109, 112, 111, 114, 116, 108, 105, 98, 46, 77, 111, 100, 117, 108, 101, 83, 112, 101, 99, 46, 104, 97, 115, 95, 108, 111, 99, 97, 116,
    105, 111, 110, 35, 111, 112, 97, 113, 117, 101, 6, 236, 21, 95, 95, 115, 116, 97, 116, 105, 99, 95, 97, 116, 116, 114, 105, 98, 117, 116, 101, 115, 95, 95, 4, 0, 0, 23, 6, 238, 8,
    95, 95, 100, 105, 99, 116, 95, 95, 4, 0, 0, 24, 6, 240, 11, 95, 95, 119, 101, 97, 107, 114, 101, 102, 95, 95, 4, 0, 0, 25, 6, 241, 8, 95, 95, 104, 97, 115, 104, 95, 95, 0]⟩ 0, Value.bool
    true, Value.bool true, vS "" 242] 1) #[]
noncomputable def oA19 (_ : Params) : Obj := Obj.mk (Value.type "list") none (Data.seq #[]) #[]
noncomputable def oA20 (P : Params) : Obj := Obj.mk (Value.type "dict") none (Data.dict #[dE P "name" 208 (vS "_sre" 207), dE P "loader" 209 (Value.ref 14), dE P "origin" 210 (vS "built-in" 184), dE P "loader_state" 211 Value.none,
    dE P "submodule_search_locations" 212 Value.none, dE P "_uninitialized_submodules" 213 (Value.ref 19), dE P "_set_fileattr" 214 (Value.bool false), dE P "_cached" 215 Value.none,
    dE P "_initializing" 243 (Value.bool false)] 9) #[]
noncomputable def oA21 (P : Params) : Obj := Obj.mk (Value.type "dict") none (Data.dict #[dE P "__module__" 227 (vS "_frozen_importlib" 217), dE P "__firstlineno__" 228 (vI 562 218), dE P "__doc__" 229 (Value.builtin "_frozen_importlib.ModuleSpec.__doc__:str#opaque"),
    dE P "__init__" 230 (Value.builtin "_frozen_importlib.ModuleSpec.__init__#opaque"), dE P "__repr__" 231 (Value.builtin "_frozen_importlib.ModuleSpec.__repr__#opaque"), dE P "__eq__"
    232 (Value.builtin "_frozen_importlib.ModuleSpec.__eq__#opaque"), dE P "cached" 233 (Value.builtin "_frozen_importlib.ModuleSpec.cached#opaque"), dE P "parent" 234 (Value.builtin
    "_frozen_importlib.ModuleSpec.parent#opaque"), dE P "has_location" 235 (Value.builtin "_frozen_importlib.ModuleSpec.has_location#opaque"), dE P "__static_attributes__" 236 (Value.ref
    23), dE P "__dict__" 238 (Value.ref 24), dE P "__weakref__" 240 (Value.ref 25), dE P "__hash__" 241 Value.none] 13) #[]
noncomputable def oA22 (_ : Params) : Obj := Obj.mk (Value.type "type") none (Data.cls (ClassData.mk (Str.ofString "ModuleSpec") [Value.type "object"] [Value.ref 22, Value.type "object"] 21 (Str.ofString "ModuleSpec") true [] []
    false none false)) #[]
noncomputable def oA23 (_ : Params) : Obj := Obj.mk (Value.type "tuple") none (Data.seq #[vS "_cached" 219, vS "_set_fileattr" 220, vS "_uninitialized_submodules" 221, vS "loader" 222, vS "loader_state" 223, vS "name" 224, vS "origin"
    225, vS "submodule_search_locations" 226]) #[]
noncomputable def oA24 (_ : Params) : Obj := Obj.mk (Value.type "getset_descriptor") none (Data.fields #[vS "__dict__" 237, Value.ref 22, Value.builtin "function.__dict__", Value.builtin "function.__dict__#set"]) #[]
noncomputable def oA25 (_ : Params) : Obj := Obj.mk (Value.type "getset_descriptor") none (Data.fields #[vS "__weakref__" 239, Value.ref 22, Value.builtin "ExceptionGroup.__weakref__", Value.none]) #[]
noncomputable def oA26 (_ : Params) : Obj := Obj.mk (Value.ref 22) (some 20) Data.plain #[]
noncomputable def oA27 (_ : Params) : Obj := Obj.mk Value.none none (Data.seq #[vI 11 0, Value.str (Str.mk #[6, 247, 8, 95, 95, 110, 97, 109, 101, 95, 95, 6, 246, 4, 95, 115, 114, 101, 6, 248, 7, 95, 95, 100, 111, 99, 95, 95, 0,
    6, 250, 11, 95, 95, 112, 97, 99, 107, 97, 103, 101, 95, 95, 6, 249, 0, 6, 251, 10, 95, 95, 108, 111, 97, 100, 101, 114, 95, 95, 4, 0, 0, 14, 6, 252, 8, 95, 95, 115, 112, 101, 99,
    95, 95, 4, 0, 0, 26, 6, 253, 7, 99, 111, 109, 112, 105, 108, 101, 9, 12, 95, 115, 114, 101, 46, 99, 111, 109, 112, 105, 108, 101, 6, 254, 8, 116, 101, 109, 112, 108, 97, 116, 101,
    9, 13, 95, 115, 114, 101, 46, 116, 101, 109, 112, 108, 97, 116, 101, 6, 255, 11, 103, 101, 116, 99, 111, 100, 101, 115, 105, 122, 101, 9, 16, 95, 115, 114, 101, 46, 103, 101, 116,
    99, 111, 100, 101, 115, 105, 122, 101, 6, 256, 13, 97, 115, 99, 105, 105, 95, 105, 115, 99, 97, 115, 101, 100, 9, 18, 95, 115, 114, 101, 46, 97, 115, 99, 105, 105, 95, 105, 115,
    99, 97, 115, 101, 100, 6, 257, 15, 117, 110, 105, 99, 111, 100, 101, 95, 105, 115, 99, 97, 115, 101, 100, 9, 20, 95, 115, 114, 101, 46, 117, 110, 105, 99, 111, 100, 101, 95, 105,
    115, 99, 97, 115, 101, 100, 6, 258, 13, 97, 115, 99, 105, 105, 95, 116, 111, 108, 111, 119, 101, 114, 9, 18, 95, 115, 114, 101, 46, 97, 115, 99, 105, 105, 95, 116, 111, 108, 111,
    119, 101, 114, 6, 259, 15, 117, 110, 105, 99, 111, 100, 101, 95, 116, 111, 108, 111, 119, 101, 114, 9, 20, 95, 115, 114, 101, 46, 117, 110, 105, 99, 111, 100, 101, 95, 116, 111,
    108, 111, 119, 101, 114, 6, 261, 5, 77, 65, 71, 73, 67, 4, 260, 0, 20230612, 6, 263, 8, 67, 79, 68, 69, 83, 73, 90, 69, 4, 262, 0, 4, 6, 265, 9, 77, 65, 88, 82, 69, 80, 69, 65, 84,
    4, 264, 0, 4294967295, 6, 267, 9, 77, 65, 88, 71, 82, 79, 85, 80, 83, 4, 266, 0, 1073741823, 6, 269, 9, 99, 111, 112, 121, 114, 105, 103, 104, 116, 6, 268, 53, 32, 83, 82, 69, 32,
    50, 46, 50, 46, 50, 32, 67, 111, 112, 121, 114, 105, 103, 104, 116, 32, 40, 99, 41, 32, 49, 57, 57, 55, 45, 50, 48, 48, 50, 32, 98, 121, 32, 83, 101, 99, 114, 101, 116, 32, 76, 97,
    98, 115, 32, 65, 66, 32]) 0, Value.bool true, Value.bool false, vS "_sre" 271]) #[]
noncomputable def oB3 (P : Params) : Obj := Obj.mk (Value.type "dict") none (Data.dict #[dE P "__name__" 165 (vS "law_st0009_01" 560), dE P "__doc__" 166 Value.none, dE P "__package__" 167 Value.none, dE P "__loader__" 168 (Value.builtin
    "__main__.__loader__#opaque"), dE P "__spec__" 169 Value.none, dE P "__annotations__" 170 (Value.ref 6), dE P "__builtins__" 171 (Value.ref 4), dE P "__file__" 173 (vS "/claim/cut.py"
    172), dE P "__cached__" 174 Value.none, dE P "_sre" 275 (Value.ref 12), dE P "_raise_serialization_error" 290 (Value.ref 38), dE P "_escape_attrib_c14n" 297 (Value.ref 45), dE P
    "_twin_re_1" 315 (Value.ref 50), dE P "_twin_re_2" 357 (Value.ref 55), dE P "CRLF" 359 (vS "\x0d\n" 358), dE P "quotedata" 366 (Value.ref 62), dE P "LPAR" 368 (vI 7 367), dE P "RPAR"
    370 (vI 8 369), dE P "LSQB" 372 (vI 9 371), dE P "RSQB" 374 (vI 10 373), dE P "COLON" 376 (vI 11 375), dE P "COMMA" 378 (vI 12 377), dE P "SEMI" 380 (vI 13 379), dE P "PLUS" 382
    (vI 14 381), dE P "MINUS" 384 (vI 15 383), dE P "STAR" 386 (vI 16 385), dE P "SLASH" 388 (vI 17 387), dE P "VBAR" 390 (vI 18 389), dE P "AMPER" 392 (vI 19 391), dE P "LESS" 394 (vI
    20 393), dE P "GREATER" 396 (vI 21 395), dE P "EQUAL" 398 (vI 22 397), dE P "DOT" 400 (vI 23 399), dE P "PERCENT" 402 (vI 24 401), dE P "LBRACE" 404 (vI 25 403), dE P "RBRACE" 406
    (vI 26 405), dE P "EQEQUAL" 408 (vI 27 407), dE P "NOTEQUAL" 410 (vI 28 409), dE P "LESSEQUAL" 412 (vI 29 411), dE P "GREATEREQUAL" 414 (vI 30 413), dE P "TILDE" 416 (vI 31 415),
    dE P "CIRCUMFLEX" 418 (vI 32 417), dE P "LEFTSHIFT" 420 (vI 33 419), dE P "RIGHTSHIFT" 422 (vI 34 421), dE P "DOUBLESTAR" 424 (vI 35 423), dE P "PLUSEQUAL" 426 (vI 36 425), dE P
    "MINEQUAL" 428 (vI 37 427), dE P "STAREQUAL" 430 (vI 38 429), dE P "SLASHEQUAL" 432 (vI 39 431), dE P "PERCENTEQUAL" 434 (vI 40 433), dE P "AMPEREQUAL" 436 (vI 41 435), dE P "VBAREQUAL"
    438 (vI 42 437), dE P "CIRCUMFLEXEQUAL" 440 (vI 43 439), dE P "LEFTSHIFTEQUAL" 442 (vI 44 441), dE P "RIGHTSHIFTEQUAL" 444 (vI 45 443), dE P "DOUBLESTAREQUAL" 446 (vI 46 445), dE
    P "DOUBLESLASH" 448 (vI 47 447), dE P "DOUBLESLASHEQUAL" 450 (vI 48 449), dE P "AT" 452 (vI 49 451), dE P "ATEQUAL" 454 (vI 50 453), dE P "RARROW" 456 (vI 51 455), dE P "ELLIPSIS"
    458 (vI 52 457), dE P "COLONEQUAL" 460 (vI 53 459), dE P "EXCLAMATION" 462 (vI 54 461), dE P "EXACT_TOKEN_TYPES" 559 (Value.ref 63), dE P "_law_cells" 571 (Value.ref 72), dE P "_law_operators"
    579 (Value.ref 79), dE P "_law_spelled" 585 (Value.ref 84), dE P "_law_number" 595 (Value.ref 91), dE P "_law_shares" 601 (Value.ref 96), dE P "law" 607 (Value.ref 101)] 71) #[]
noncomputable def oB28 (_ : Params) : Obj := Obj.mk (Value.type "tuple") none (Data.seq #[]) #[]
noncomputable def oB29 (_ : Params) : Obj := Obj.mk Value.none none (Data.fields #[vI 3 0, vI 0 0, Value.ref 37, vI 5 0, vI 0 0, Value.ref 44, vI 26 0, vI 0 0, Value.ref 61, vI 78 0, vI 0 0, Value.ref 71, vI 82 0, vI 0 0, Value.ref
    78, vI 86 0, vI 0 0, Value.ref 83, vI 89 0, vI 0 0, Value.ref 90, vI 95 0, vI 0 0, Value.ref 95, vI 101 0, vI 0 0, Value.ref 100]) #[]
noncomputable def oB30 (_ : Params) : Obj := Obj.mk (Value.type "code") none (Data.fields #[vS "<module>" 277, vS "<module>" 278, vS "/claim/cut.py" 279, vI 1 0, vI 0 0, vI 0 0, vI 0 0, vI 0 0, Value.ref 28, Value.bool false, vI
    276 0, Value.ref 29, Value.none, Value.none, Value.none, Value.none, vI 280 0, vI 1 0, vS "/claim/cut.py" 281]) #[]
noncomputable def oB31 (_ : Params) : Obj := Obj.mk (Value.type "frame") none Data.plain #[some (Value.ref 30), some (Value.ref 3), some (Value.ref 3), none, some (vS "__main__" 164), none, some (Value.ref 0)]
noncomputable def oB32 (_ : Params) : Obj := Obj.mk (Value.type "tuple") none (Data.seq #[]) #[]
noncomputable def oB33 (_ : Params) : Obj := Obj.mk Value.none none (Data.fields #[]) #[]
noncomputable def oB34 (_ : Params) : Obj := Obj.mk (Value.type "tuple") none (Data.seq #[vS "text" 287]) #[]
noncomputable def oB35 (_ : Params) : Obj := Obj.mk (Value.type "tuple") none (Data.seq #[]) #[]
noncomputable def oB36 (_ : Params) : Obj := fobjOf .none 2 0 (Value.none) (Value.none)
noncomputable def oB37 (_ : Params) : Obj := Obj.mk (Value.type "code") none (Data.fields #[vS "_raise_serialization_error" 284, vS "_raise_serialization_error" 285, vS "/claim/cut.py" 286, vI 3 0, vI 1 0, vI 0 0, vI 0 0, vI 3
    0, Value.ref 32, Value.bool true, vI 276 0, Value.ref 33, Value.none, Value.ref 34, Value.ref 35, Value.ref 36, vI 288 0, vI 3 0, vS "/claim/cut.py" 289]) #[]
noncomputable def oB38 (_ : Params) : Obj := fobjOf (.type "function") 2 3 (Value.str (Str.ofString "cpy313.xml.etree.ElementTree") 282) (Value.ref 37)
noncomputable def oB39 (_ : Params) : Obj := Obj.mk (Value.type "tuple") none (Data.seq #[]) #[]
noncomputable def oB40 (_ : Params) : Obj := Obj.mk Value.none none (Data.fields #[]) #[]
noncomputable def oB41 (_ : Params) : Obj := Obj.mk (Value.type "tuple") none (Data.seq #[vS "text" 294]) #[]
noncomputable def oB42 (_ : Params) : Obj := Obj.mk (Value.type "tuple") none (Data.seq #[]) #[]
noncomputable def oB43 (_ : Params) : Obj := fobjOf .none 3 0 (Value.none) (Value.none)
noncomputable def oB44 (_ : Params) : Obj := Obj.mk (Value.type "code") none (Data.fields #[vS "_escape_attrib_c14n" 291, vS "_escape_attrib_c14n" 292, vS "/claim/cut.py" 293, vI 5 0, vI 1 0, vI 0 0, vI 0 0, vI 3 0, Value.ref 39,
    Value.bool true, vI 276 0, Value.ref 40, Value.none, Value.ref 41, Value.ref 42, Value.ref 43, vI 295 0, vI 5 0, vS "/claim/cut.py" 296]) #[]
noncomputable def oB45 (_ : Params) : Obj := fobjOf (.type "function") 3 3 (Value.str (Str.ofString "cpy313.xml.etree.ElementTree") 282) (Value.ref 44)
noncomputable def oB46 (_ : Params) : Obj := Obj.mk (Value.type "list") none (Data.seq #[vI 14 303, vI 4 304, vI 0 305, vI 1 306, vI 1 307, vI 6 308, vI 1 309, vI 16 310, vI 46 311, vI 1 312]) #[]
noncomputable def oB47 (_ : Params) : Obj := Obj.mk (Value.type "dict") none (Data.dict #[]) #[]
noncomputable def oB48 (_ : Params) : Obj := Obj.mk (Value.type "tuple") none (Data.seq #[Value.none]) #[]
noncomputable def oB49 (_ : Params) : Obj := Obj.mk (Value.type "tuple") none (Data.seq #[vI 14 0, vI 4 0, vI 0 0, vI 1 0, vI 1 0, vI 6 0, vI 1 0, vI 16 0, vI 46 0, vI 1 0]) #[]
noncomputable def oB50 (_ : Params) : Obj := Obj.mk (Value.type "re.Pattern") none (Data.fields #[vS "(?m)^\\." 301, vI 40 314, vI 0 0, Value.none, Value.none, Value.ref 49, vI 0 0]) #[]
noncomputable def oB51 (_ : Params) : Obj := Obj.mk (Value.type "list") none (Data.seq #[vI 14 319, vI 9 320, vI 4 321, vI 1 322, vI 2 323, vI 16 324, vI 10 325, vI 16 326, vI 13 327, vI 0 328, vI 7 329, vI 7 330, vI 16 331, vI
    13 332, vI 16 333, vI 10 334, vI 15 335, vI 18 336, vI 5 337, vI 16 338, vI 10 339, vI 15 340, vI 13 341, vI 11 342, vI 16 343, vI 13 344, vI 5 345, vI 5 346, vI 0 347, vI 16 348,
    vI 10 349, vI 1 350, vI 15 351, vI 2 352, vI 0 353, vI 1 354]) #[]
noncomputable def oB52 (_ : Params) : Obj := Obj.mk (Value.type "dict") none (Data.dict #[]) #[]
noncomputable def oB53 (_ : Params) : Obj := Obj.mk (Value.type "tuple") none (Data.seq #[Value.none]) #[]
noncomputable def oB54 (_ : Params) : Obj := Obj.mk (Value.type "tuple") none (Data.seq #[vI 14 0, vI 9 0, vI 4 0, vI 1 0, vI 2 0, vI 16 0, vI 10 0, vI 16 0, vI 13 0, vI 0 0, vI 7 0, vI 7 0, vI 16 0, vI 13 0, vI 16 0, vI 10 0,
    vI 15 0, vI 18 0, vI 5 0, vI 16 0, vI 10 0, vI 15 0, vI 13 0, vI 11 0, vI 16 0, vI 13 0, vI 5 0, vI 5 0, vI 0 0, vI 16 0, vI 10 0, vI 1 0, vI 15 0, vI 2 0, vI 0 0, vI 1 0]) #[]
noncomputable def oB55 (_ : Params) : Obj := Obj.mk (Value.type "re.Pattern") none (Data.fields #[vS "(?:\\r\\n|\\n|\\r(?!\\n))" 317, vI 32 356, vI 0 0, Value.none, Value.none, Value.ref 54, vI 0 0]) #[]
noncomputable def oB56 (_ : Params) : Obj := Obj.mk (Value.type "tuple") none (Data.seq #[]) #[]
noncomputable def oB57 (_ : Params) : Obj := Obj.mk Value.none none (Data.fields #[]) #[]
noncomputable def oB58 (_ : Params) : Obj := Obj.mk (Value.type "tuple") none (Data.seq #[vS "data" 363]) #[]
noncomputable def oB59 (_ : Params) : Obj := Obj.mk (Value.type "tuple") none (Data.seq #[]) #[]
noncomputable def oB60 (_ : Params) : Obj := fobjOf .none 8 0 (Value.none) (Value.none)
noncomputable def oB61 (_ : Params) : Obj := Obj.mk (Value.type "code") none (Data.fields #[vS "quotedata" 360, vS "quotedata" 361, vS "/claim/cut.py" 362, vI 26 0, vI 1 0, vI 0 0, vI 0 0, vI 3 0, Value.ref 56, Value.bool true,
    vI 276 0, Value.ref 57, Value.none, Value.ref 58, Value.ref 59, Value.ref 60, vI 364 0, vI 26 0, vS "/claim/cut.py" 365]) #[]
noncomputable def oB62 (_ : Params) : Obj := fobjOf (.type "function") 8 3 (Value.str (Str.ofString "cpy313.smtplib") 298) (Value.ref 61)
noncomputable def oB63 (P : Params) : Obj := Obj.mk (Value.type "dict") none (Data.dict #[dE P "!" 463 (vI 54 461), dE P "!=" 465 (vI 28 409), dE P "%" 467 (vI 24 401), dE P "%=" 469 (vI 40 433), dE P "&" 471 (vI 19 391), dE P
    "&=" 473 (vI 41 435), dE P "(" 475 (vI 7 367), dE P ")" 477 (vI 8 369), dE P "*" 479 (vI 16 385), dE P "**" 481 (vI 35 423), dE P "**=" 483 (vI 46 445), dE P "*=" 485 (vI 38 429),
    dE P "+" 487 (vI 14 381), dE P "+=" 489 (vI 36 425), dE P "," 491 (vI 12 377), dE P "-" 493 (vI 15 383), dE P "-=" 495 (vI 37 427), dE P "->" 497 (vI 51 455), dE P "." 499 (vI 23
    399), dE P "..." 501 (vI 52 457), dE P "/" 503 (vI 17 387), dE P "//" 505 (vI 47 447), dE P "//=" 507 (vI 48 449), dE P "/=" 509 (vI 39 431), dE P ":" 511 (vI 11 375), dE P ":="
    513 (vI 53 459), dE P ";" 515 (vI 13 379), dE P "<" 517 (vI 20 393), dE P "<<" 519 (vI 33 419), dE P "<<=" 521 (vI 44 441), dE P "<=" 523 (vI 29 411), dE P "=" 525 (vI 22 397), dE
    P "==" 527 (vI 27 407), dE P ">" 529 (vI 21 395), dE P ">=" 531 (vI 30 413), dE P ">>" 532 (vI 34 421), dE P ">>=" 533 (vI 45 443), dE P "@" 534 (vI 49 451), dE P "@=" 535 (vI 50
    453), dE P "[" 536 (vI 9 371), dE P "]" 537 (vI 10 373), dE P "^" 538 (vI 32 417), dE P "^=" 539 (vI 43 439), dE P "{" 540 (vI 25 403), dE P "|" 541 (vI 18 389), dE P "|=" 542 (vI
    42 437), dE P "}" 543 (vI 26 405), dE P "~" 544 (vI 31 415)] 48) #[]
noncomputable def oB64 (P : Params) : Obj := Obj.mk (Value.type "dict") none (Data.dict #[dE P "->" 497 (vI 51 455), dE P "." 499 (vI 23 399), dE P "..." 501 (vI 52 457), dE P "/" 503 (vI 17 387), dE P "//" 505 (vI 47 447), dE
    P "//=" 507 (vI 48 449), dE P "/=" 509 (vI 39 431), dE P ":" 511 (vI 11 375), dE P ":=" 513 (vI 53 459), dE P ";" 515 (vI 13 379), dE P "<" 517 (vI 20 393), dE P "<<" 519 (vI 33
    419), dE P "<<=" 521 (vI 44 441), dE P "<=" 523 (vI 29 411), dE P "=" 525 (vI 22 397), dE P "==" 527 (vI 27 407), dE P ">" 529 (vI 21 395)] 17) #[]
noncomputable def oB65 (P : Params) : Obj := Obj.mk (Value.type "dict") none (Data.dict #[dE P ">=" 531 (vI 30 413), dE P ">>" 532 (vI 34 421), dE P ">>=" 533 (vI 45 443), dE P "@" 534 (vI 49 451), dE P "@=" 535 (vI 50 453), dE
    P "[" 536 (vI 9 371), dE P "]" 537 (vI 10 373), dE P "^" 538 (vI 32 417), dE P "^=" 539 (vI 43 439), dE P "{" 540 (vI 25 403), dE P "|" 541 (vI 18 389), dE P "|=" 542 (vI 42 437),
    dE P "}" 543 (vI 26 405), dE P "~" 544 (vI 31 415)] 14) #[]
noncomputable def oB66 (_ : Params) : Obj := Obj.mk (Value.type "tuple") none (Data.seq #[]) #[]
noncomputable def oB67 (_ : Params) : Obj := Obj.mk Value.none none (Data.fields #[]) #[]
noncomputable def oB68 (_ : Params) : Obj := Obj.mk (Value.type "tuple") none (Data.seq #[vS "script" 565, vS "cells" 566, vS "place" 567, vS "number" 568]) #[]
noncomputable def oB69 (_ : Params) : Obj := Obj.mk (Value.type "tuple") none (Data.seq #[]) #[]
noncomputable def oB70 (_ : Params) : Obj := fobjOf .none 59 0 (Value.none) (Value.none)
noncomputable def oB71 (_ : Params) : Obj := Obj.mk (Value.type "code") none (Data.fields #[vS "_law_cells" 562, vS "_law_cells" 563, vS "/claim/cut.py" 564, vI 78 0, vI 2 0, vI 0 0, vI 0 0, vI 3 0, Value.ref 66, Value.bool true,
    vI 276 0, Value.ref 67, Value.none, Value.ref 68, Value.ref 69, Value.ref 70, vI 569 0, vI 78 0, vS "/claim/cut.py" 570]) #[]
noncomputable def oB72 (_ : Params) : Obj := fobjOf (.type "function") 59 3 (Value.str (Str.ofString "law_st0009_01") 560) (Value.ref 71)
noncomputable def oB73 (_ : Params) : Obj := Obj.mk (Value.type "tuple") none (Data.seq #[]) #[]
noncomputable def oB74 (_ : Params) : Obj := Obj.mk Value.none none (Data.fields #[]) #[]
noncomputable def oB75 (_ : Params) : Obj := Obj.mk (Value.type "tuple") none (Data.seq #[vS "early" 575, vS "late" 576]) #[]
noncomputable def oB76 (_ : Params) : Obj := Obj.mk (Value.type "tuple") none (Data.seq #[]) #[]
noncomputable def oB77 (_ : Params) : Obj := fobjOf .none 60 0 (Value.none) (Value.none)
noncomputable def oB78 (_ : Params) : Obj := Obj.mk (Value.type "code") none (Data.fields #[vS "_law_operators" 572, vS "_law_operators" 573, vS "/claim/cut.py" 574, vI 82 0, vI 0 0, vI 0 0, vI 0 0, vI 3 0, Value.ref 73, Value.bool
    true, vI 276 0, Value.ref 74, Value.none, Value.ref 75, Value.ref 76, Value.ref 77, vI 577 0, vI 82 0, vS "/claim/cut.py" 578]) #[]
noncomputable def oB79 (_ : Params) : Obj := fobjOf (.type "function") 60 3 (Value.str (Str.ofString "law_st0009_01") 560) (Value.ref 78)
noncomputable def oB80 (_ : Params) : Obj := Obj.mk (Value.type "tuple") none (Data.seq #[]) #[]
noncomputable def oB81 (_ : Params) : Obj := Obj.mk Value.none none (Data.fields #[]) #[]
noncomputable def oB82 (_ : Params) : Obj := fobjOf .none 61 0 (Value.none) (Value.none)
noncomputable def oB83 (_ : Params) : Obj := Obj.mk (Value.type "code") none (Data.fields #[vS "_law_spelled" 580, vS "_law_spelled" 581, vS "/claim/cut.py" 582, vI 86 0, vI 1 0, vI 0 0, vI 0 0, vI 3 0, Value.ref 80, Value.bool
    true, vI 276 0, Value.ref 81, Value.none, Value.none, Value.none, Value.ref 82, vI 583 0, vI 86 0, vS "/claim/cut.py" 584]) #[]
noncomputable def oB84 (_ : Params) : Obj := fobjOf (.type "function") 61 3 (Value.str (Str.ofString "law_st0009_01") 560) (Value.ref 83)
noncomputable def oB85 (_ : Params) : Obj := Obj.mk (Value.type "tuple") none (Data.seq #[]) #[]
noncomputable def oB86 (_ : Params) : Obj := Obj.mk Value.none none (Data.fields #[]) #[]
noncomputable def oB87 (_ : Params) : Obj := Obj.mk (Value.type "tuple") none (Data.seq #[vS "row" 589, vS "times" 590, vS "name" 591, vS "sign" 592]) #[]
noncomputable def oB88 (_ : Params) : Obj := Obj.mk (Value.type "tuple") none (Data.seq #[]) #[]
noncomputable def oB89 (_ : Params) : Obj := fobjOf .none 62 0 (Value.none) (Value.none)
noncomputable def oB90 (_ : Params) : Obj := Obj.mk (Value.type "code") none (Data.fields #[vS "_law_number" 586, vS "_law_number" 587, vS "/claim/cut.py" 588, vI 89 0, vI 2 0, vI 0 0, vI 0 0, vI 3 0, Value.ref 85, Value.bool true,
    vI 276 0, Value.ref 86, Value.none, Value.ref 87, Value.ref 88, Value.ref 89, vI 593 0, vI 89 0, vS "/claim/cut.py" 594]) #[]
noncomputable def oB91 (_ : Params) : Obj := fobjOf (.type "function") 62 3 (Value.str (Str.ofString "law_st0009_01") 560) (Value.ref 90)
noncomputable def oB92 (_ : Params) : Obj := Obj.mk (Value.type "tuple") none (Data.seq #[]) #[]
noncomputable def oB93 (_ : Params) : Obj := Obj.mk Value.none none (Data.fields #[]) #[]
noncomputable def oB94 (_ : Params) : Obj := fobjOf .none 63 0 (Value.none) (Value.none)
noncomputable def oB95 (_ : Params) : Obj := Obj.mk (Value.type "code") none (Data.fields #[vS "_law_shares" 596, vS "_law_shares" 597, vS "/claim/cut.py" 598, vI 95 0, vI 2 0, vI 0 0, vI 0 0, vI 3 0, Value.ref 92, Value.bool true,
    vI 276 0, Value.ref 93, Value.none, Value.none, Value.none, Value.ref 94, vI 599 0, vI 95 0, vS "/claim/cut.py" 600]) #[]
noncomputable def oB96 (_ : Params) : Obj := fobjOf (.type "function") 63 3 (Value.str (Str.ofString "law_st0009_01") 560) (Value.ref 95)
noncomputable def oB97 (_ : Params) : Obj := Obj.mk (Value.type "tuple") none (Data.seq #[]) #[]
noncomputable def oB98 (_ : Params) : Obj := Obj.mk Value.none none (Data.fields #[]) #[]
noncomputable def oB99 (_ : Params) : Obj := fobjOf .none 64 0 (Value.none) (Value.none)
noncomputable def oB100 (_ : Params) : Obj := Obj.mk (Value.type "code") none (Data.fields #[vS "law" 602, vS "law" 603, vS "/claim/cut.py" 604, vI 101 0, vI 1 0, vI 0 0, vI 0 0, vI 3 0, Value.ref 97, Value.bool true, vI 276 0,
    Value.ref 98, Value.none, Value.none, Value.none, Value.ref 99, vI 605 0, vI 101 0, vS "/claim/cut.py" 606]) #[]
noncomputable def oB101 (_ : Params) : Obj := fobjOf (.type "function") 64 3 (Value.str (Str.ofString "law_st0009_01") 560) (Value.ref 100)
noncomputable def oP3 (P : Params) : Obj := Obj.mk (Value.type "dict") none (Data.dict #[dE P "__name__" 165 (vS "__main__" 164), dE P "__doc__" 166 Value.none, dE P "__package__" 167 Value.none, dE P "__loader__" 168 (Value.builtin
    "__main__.__loader__#opaque"), dE P "__spec__" 169 Value.none, dE P "__annotations__" 170 (Value.ref 6), dE P "__builtins__" 171 (Value.ref 4), dE P "__file__" 173 (vS "/claim/cut.py"
    172), dE P "__cached__" 174 Value.none, dE P "_sre" 275 (Value.ref 12)] 10) #[]
noncomputable def oP29 (_ : Params) : Obj := Obj.mk Value.none none (Data.fields #[]) #[]
noncomputable def oC3 (P : Params) : Obj := Obj.mk (Value.type "dict") none (Data.dict #[dE P "__name__" 165 (vS "cpy313.smtplib" 298), dE P "__doc__" 166 Value.none, dE P "__package__" 167 Value.none, dE P "__loader__" 168 (Value.builtin
    "__main__.__loader__#opaque"), dE P "__spec__" 169 Value.none, dE P "__annotations__" 170 (Value.ref 6), dE P "__builtins__" 171 (Value.ref 4), dE P "__file__" 173 (vS "/claim/cut.py"
    172), dE P "__cached__" 174 Value.none, dE P "_sre" 275 (Value.ref 12), dE P "_raise_serialization_error" 290 (Value.ref 38), dE P "_escape_attrib_c14n" 297 (Value.ref 45), dE P
    "_twin_re_1" 315 (Value.ref 50), dE P "_twin_re_2" 357 (Value.ref 55), dE P "CRLF" 359 (vS "\x0d\n" 358), dE P "quotedata" 366 (Value.ref 62), dE P "LPAR" 368 (vI 7 367), dE P "RPAR"
    370 (vI 8 369), dE P "LSQB" 372 (vI 9 371), dE P "RSQB" 374 (vI 10 373), dE P "COLON" 376 (vI 11 375), dE P "COMMA" 378 (vI 12 377), dE P "SEMI" 380 (vI 13 379), dE P "PLUS" 382
    (vI 14 381), dE P "MINUS" 384 (vI 15 383), dE P "STAR" 386 (vI 16 385), dE P "SLASH" 388 (vI 17 387), dE P "VBAR" 390 (vI 18 389), dE P "AMPER" 392 (vI 19 391), dE P "LESS" 394 (vI
    20 393), dE P "GREATER" 396 (vI 21 395), dE P "EQUAL" 398 (vI 22 397), dE P "DOT" 400 (vI 23 399), dE P "PERCENT" 402 (vI 24 401), dE P "LBRACE" 404 (vI 25 403), dE P "RBRACE" 406
    (vI 26 405), dE P "EQEQUAL" 408 (vI 27 407), dE P "NOTEQUAL" 410 (vI 28 409), dE P "LESSEQUAL" 412 (vI 29 411), dE P "GREATEREQUAL" 414 (vI 30 413), dE P "TILDE" 416 (vI 31 415),
    dE P "CIRCUMFLEX" 418 (vI 32 417), dE P "LEFTSHIFT" 420 (vI 33 419), dE P "RIGHTSHIFT" 422 (vI 34 421), dE P "DOUBLESTAR" 424 (vI 35 423), dE P "PLUSEQUAL" 426 (vI 36 425), dE P
    "MINEQUAL" 428 (vI 37 427), dE P "STAREQUAL" 430 (vI 38 429), dE P "SLASHEQUAL" 432 (vI 39 431), dE P "PERCENTEQUAL" 434 (vI 40 433), dE P "AMPEREQUAL" 436 (vI 41 435), dE P "VBAREQUAL"
    438 (vI 42 437), dE P "CIRCUMFLEXEQUAL" 440 (vI 43 439), dE P "LEFTSHIFTEQUAL" 442 (vI 44 441), dE P "RIGHTSHIFTEQUAL" 444 (vI 45 443), dE P "DOUBLESTAREQUAL" 446 (vI 46 445), dE
    P "DOUBLESLASH" 448 (vI 47 447), dE P "DOUBLESLASHEQUAL" 450 (vI 48 449), dE P "AT" 452 (vI 49 451), dE P "ATEQUAL" 454 (vI 50 453), dE P "RARROW" 456 (vI 51 455), dE P "ELLIPSIS"
    458 (vI 52 457), dE P "COLONEQUAL" 460 (vI 53 459), dE P "EXCLAMATION" 462 (vI 54 461)] 64) #[]
noncomputable def oC29 (_ : Params) : Obj := Obj.mk Value.none none (Data.fields #[vI 3 0, vI 0 0, Value.ref 37, vI 5 0, vI 0 0, Value.ref 44, vI 26 0, vI 0 0, Value.ref 61]) #[]
noncomputable def oD3 (P : Params) : Obj := Obj.mk (Value.type "dict") none (Data.dict #[dE P "__name__" 165 (vS "cpy313.smtplib" 298), dE P "__doc__" 166 Value.none, dE P "__package__" 167 Value.none, dE P "__loader__" 168 (Value.builtin
    "__main__.__loader__#opaque"), dE P "__spec__" 169 Value.none, dE P "__annotations__" 170 (Value.ref 6), dE P "__builtins__" 171 (Value.ref 4), dE P "__file__" 173 (vS "/claim/cut.py"
    172), dE P "__cached__" 174 Value.none, dE P "_sre" 275 (Value.ref 12), dE P "_raise_serialization_error" 290 (Value.ref 38), dE P "_escape_attrib_c14n" 297 (Value.ref 45), dE P
    "_twin_re_1" 315 (Value.ref 50), dE P "_twin_re_2" 357 (Value.ref 55), dE P "CRLF" 359 (vS "\x0d\n" 358), dE P "quotedata" 366 (Value.ref 62), dE P "LPAR" 368 (vI 7 367), dE P "RPAR"
    370 (vI 8 369), dE P "LSQB" 372 (vI 9 371), dE P "RSQB" 374 (vI 10 373), dE P "COLON" 376 (vI 11 375), dE P "COMMA" 378 (vI 12 377), dE P "SEMI" 380 (vI 13 379), dE P "PLUS" 382
    (vI 14 381), dE P "MINUS" 384 (vI 15 383), dE P "STAR" 386 (vI 16 385), dE P "SLASH" 388 (vI 17 387), dE P "VBAR" 390 (vI 18 389), dE P "AMPER" 392 (vI 19 391), dE P "LESS" 394 (vI
    20 393), dE P "GREATER" 396 (vI 21 395), dE P "EQUAL" 398 (vI 22 397), dE P "DOT" 400 (vI 23 399), dE P "PERCENT" 402 (vI 24 401), dE P "LBRACE" 404 (vI 25 403), dE P "RBRACE" 406
    (vI 26 405), dE P "EQEQUAL" 408 (vI 27 407), dE P "NOTEQUAL" 410 (vI 28 409), dE P "LESSEQUAL" 412 (vI 29 411), dE P "GREATEREQUAL" 414 (vI 30 413), dE P "TILDE" 416 (vI 31 415),
    dE P "CIRCUMFLEX" 418 (vI 32 417), dE P "LEFTSHIFT" 420 (vI 33 419), dE P "RIGHTSHIFT" 422 (vI 34 421), dE P "DOUBLESTAR" 424 (vI 35 423), dE P "PLUSEQUAL" 426 (vI 36 425), dE P
    "MINEQUAL" 428 (vI 37 427), dE P "STAREQUAL" 430 (vI 38 429), dE P "SLASHEQUAL" 432 (vI 39 431), dE P "PERCENTEQUAL" 434 (vI 40 433), dE P "AMPEREQUAL" 436 (vI 41 435), dE P "VBAREQUAL"
    438 (vI 42 437), dE P "CIRCUMFLEXEQUAL" 440 (vI 43 439), dE P "LEFTSHIFTEQUAL" 442 (vI 44 441), dE P "RIGHTSHIFTEQUAL" 444 (vI 45 443), dE P "DOUBLESTAREQUAL" 446 (vI 46 445), dE
    P "DOUBLESLASH" 448 (vI 47 447), dE P "DOUBLESLASHEQUAL" 450 (vI 48 449), dE P "AT" 452 (vI 49 451), dE P "ATEQUAL" 454 (vI 50 453), dE P "RARROW" 456 (vI 51 455), dE P "ELLIPSIS"
    458 (vI 52 457), dE P "COLONEQUAL" 460 (vI 53 459), dE P "EXCLAMATION" 462 (vI 54 461), dE P "EXACT_TOKEN_TYPES" 559 (Value.ref 63)] 65) #[]
noncomputable def oD29 (_ : Params) : Obj := Obj.mk Value.none none (Data.fields #[vI 3 0, vI 0 0, Value.ref 37, vI 5 0, vI 0 0, Value.ref 44, vI 26 0, vI 0 0, Value.ref 61]) #[]

noncomputable def topLife : Life := Life.mk [] [] [] 0 [] [] false #[] [] 0 false false false 0 [2000, 10, 10] false 0 true [] [] 0 false
noncomputable def topH0 (P : Params) : Heap := ⟨#[oA0 P, oA1 P, oA2 P, oA3 P, oA4 P, oA5 P, oA6 P, oA7 P, oA8 P, oA9 P, oA10 P, oA11 P, oA12 P, oA13 P, oA14 P, oA15 P, oA16 P, oA17 P, oA18 P, oA19 P, oA20 P, oA21 P, oA22 P, oA23 P, oA24 P, oA25 P, oA26 P, oA27 P], topLife⟩
noncomputable def topH1 (P : Params) : Heap := ⟨#[oA0 P, oA1 P, oA2 P, oB3 P, oA4 P, oA5 P, oA6 P, oA7 P, oA8 P, oA9 P, oA10 P, oA11 P, oA12 P, oA13 P, oA14 P, oA15 P, oA16 P, oA17 P, oA18 P, oA19 P, oA20 P, oA21 P, oA22 P, oA23 P, oA24 P, oA25 P, oA26 P, oA27 P, oB28 P, oB29 P, oB30 P, oB31 P, oB32 P, oB33 P, oB34 P, oB35 P, oB36 P, oB37 P, oB38 P, oB39 P, oB40 P, oB41 P, oB42 P, oB43 P, oB44 P, oB45 P, oB46 P, oB47 P, oB48 P, oB49 P, oB50 P, oB51 P, oB52 P, oB53 P, oB54 P, oB55 P, oB56 P, oB57 P, oB58 P, oB59 P, oB60 P, oB61 P, oB62 P, oB63 P, oB64 P, oB65 P, oB66 P, oB67 P, oB68 P, oB69 P, oB70 P, oB71 P, oB72 P, oB73 P, oB74 P, oB75 P, oB76 P, oB77 P, oB78 P, oB79 P, oB80 P, oB81 P, oB82 P, oB83 P, oB84 P, oB85 P, oB86 P, oB87 P, oB88 P, oB89 P, oB90 P, oB91 P, oB92 P, oB93 P, oB94 P, oB95 P, oB96 P, oB97 P, oB98 P, oB99 P, oB100 P, oB101 P], topLife⟩
noncomputable def topS0 (w : World) (os : OsState) : Shared := ⟨topH0 w.params, #[], {}, 276, os⟩
noncomputable def topS1 (w : World) (os : OsState) : Shared := ⟨topH1 w.params, #[], {}, 608, os⟩
/-! the states at the cuts: ahead of the text's first statement (P), ahead of its dict of names (C) and behind it (D) -/
noncomputable def topSP (w : World) (os : OsState) : Shared := ⟨⟨#[oA0 w.params, oA1 w.params, oA2 w.params, oP3 w.params, oA4 w.params, oA5 w.params, oA6 w.params, oA7 w.params, oA8 w.params, oA9 w.params, oA10 w.params, oA11 w.params, oA12 w.params, oA13 w.params, oA14 w.params, oA15 w.params, oA16 w.params, oA17 w.params, oA18 w.params, oA19 w.params, oA20 w.params, oA21 w.params, oA22 w.params, oA23 w.params, oA24 w.params, oA25 w.params, oA26 w.params, oA27 w.params, oB28 w.params, oP29 w.params, oB30 w.params, oB31 w.params], topLife⟩, #[], {}, 282, os⟩
noncomputable def topSC (w : World) (os : OsState) : Shared := ⟨⟨#[oA0 w.params, oA1 w.params, oA2 w.params, oC3 w.params, oA4 w.params, oA5 w.params, oA6 w.params, oA7 w.params, oA8 w.params, oA9 w.params, oA10 w.params, oA11 w.params, oA12 w.params, oA13 w.params, oA14 w.params, oA15 w.params, oA16 w.params, oA17 w.params, oA18 w.params, oA19 w.params, oA20 w.params, oA21 w.params, oA22 w.params, oA23 w.params, oA24 w.params, oA25 w.params, oA26 w.params, oA27 w.params, oB28 w.params, oC29 w.params, oB30 w.params, oB31 w.params, oB32 w.params, oB33 w.params, oB34 w.params, oB35 w.params, oB36 w.params, oB37 w.params, oB38 w.params, oB39 w.params, oB40 w.params, oB41 w.params, oB42 w.params, oB43 w.params, oB44 w.params, oB45 w.params, oB46 w.params, oB47 w.params, oB48 w.params, oB49 w.params, oB50 w.params, oB51 w.params, oB52 w.params, oB53 w.params, oB54 w.params, oB55 w.params, oB56 w.params, oB57 w.params, oB58 w.params, oB59 w.params, oB60 w.params, oB61 w.params, oB62 w.params], topLife⟩, #[], {}, 463, os⟩
noncomputable def topSD (w : World) (os : OsState) : Shared := ⟨⟨#[oA0 w.params, oA1 w.params, oA2 w.params, oD3 w.params, oA4 w.params, oA5 w.params, oA6 w.params, oA7 w.params, oA8 w.params, oA9 w.params, oA10 w.params, oA11 w.params, oA12 w.params, oA13 w.params, oA14 w.params, oA15 w.params, oA16 w.params, oA17 w.params, oA18 w.params, oA19 w.params, oA20 w.params, oA21 w.params, oA22 w.params, oA23 w.params, oA24 w.params, oA25 w.params, oA26 w.params, oA27 w.params, oB28 w.params, oD29 w.params, oB30 w.params, oB31 w.params, oB32 w.params, oB33 w.params, oB34 w.params, oB35 w.params, oB36 w.params, oB37 w.params, oB38 w.params, oB39 w.params, oB40 w.params, oB41 w.params, oB42 w.params, oB43 w.params, oB44 w.params, oB45 w.params, oB46 w.params, oB47 w.params, oB48 w.params, oB49 w.params, oB50 w.params, oB51 w.params, oB52 w.params, oB53 w.params, oB54 w.params, oB55 w.params, oB56 w.params, oB57 w.params, oB58 w.params, oB59 w.params, oB60 w.params, oB61 w.params, oB62 w.params, oB63 w.params, oB64 w.params, oB65 w.params], topLife⟩, #[], {}, 560, os⟩
noncomputable def topE : Env := { scope := PySem.Challenge.pw_st0009_01.main.scope, locals := mainNs, globals := mainNs, cells := [], code := .ref 30, frame := some 31 }
noncomputable def topB : List Stmt := behindTheImports PySem.Challenge.pw_st0009_01
noncomputable def topC : Code := .body topB topE
/-- what stands in the heap behind the text, as far as the calls ask for it -/
noncomputable def topK : Params → Frag := fun P => [
  (nat_lit 3, Obj.mk (Value.type "dict") Option.none (Data.dict #[DictEntry.mk (PyData.keyHash P (Str.ofString "__name__")) (Value.str (Str.ofString "__name__") 165) (Value.str (Str.ofString "law_st0009_01")
    560), DictEntry.mk (PyData.keyHash P (Str.ofString "__doc__")) (Value.str (Str.ofString "__doc__") 166) Value.none, DictEntry.mk (PyData.keyHash P (Str.ofString "__package__")) (Value.str
    (Str.ofString "__package__") 167) Value.none, DictEntry.mk (PyData.keyHash P (Str.ofString "__loader__")) (Value.str (Str.ofString "__loader__") 168) (Value.builtin "__main__.__loader__#opaque"),
    DictEntry.mk (PyData.keyHash P (Str.ofString "__spec__")) (Value.str (Str.ofString "__spec__") 169) Value.none, DictEntry.mk (PyData.keyHash P (Str.ofString "__annotations__")) (Value.str
    (Str.ofString "__annotations__") 170) (Value.ref 6), DictEntry.mk (PyData.keyHash P (Str.ofString "__builtins__")) (Value.str (Str.ofString "__builtins__") 171) (Value.ref 4), DictEntry.mk
    (PyData.keyHash P (Str.ofString "__file__")) (Value.str (Str.ofString "__file__") 173) (Value.str (Str.ofString "/claim/cut.py") 172), DictEntry.mk (PyData.keyHash P (Str.ofString
    "__cached__")) (Value.str (Str.ofString "__cached__") 174) Value.none, DictEntry.mk (PyData.keyHash P (Str.ofString "_sre")) (Value.str (Str.ofString "_sre") 275) (Value.ref 12),
    DictEntry.mk (PyData.keyHash P (Str.ofString "_raise_serialization_error")) (Value.str (Str.ofString "_raise_serialization_error") 290) (Value.ref 38), DictEntry.mk (PyData.keyHash
    P (Str.ofString "_escape_attrib_c14n")) (Value.str (Str.ofString "_escape_attrib_c14n") 297) (Value.ref 45), DictEntry.mk (PyData.keyHash P (Str.ofString "_twin_re_1")) (Value.str
    (Str.ofString "_twin_re_1") 315) (Value.ref 50), DictEntry.mk (PyData.keyHash P (Str.ofString "_twin_re_2")) (Value.str (Str.ofString "_twin_re_2") 357) (Value.ref 55), DictEntry.mk
    (PyData.keyHash P (Str.ofString "CRLF")) (Value.str (Str.ofString "CRLF") 359) (Value.str (Str.ofString "\x0d\n") 358), DictEntry.mk (PyData.keyHash P (Str.ofString "quotedata"))
    (Value.str (Str.ofString "quotedata") 366) (Value.ref 62), DictEntry.mk (PyData.keyHash P (Str.ofString "LPAR")) (Value.str (Str.ofString "LPAR") 368) (Value.int 7 367), DictEntry.mk
    (PyData.keyHash P (Str.ofString "RPAR")) (Value.str (Str.ofString "RPAR") 370) (Value.int 8 369), DictEntry.mk (PyData.keyHash P (Str.ofString "LSQB")) (Value.str (Str.ofString "LSQB")
    372) (Value.int 9 371), DictEntry.mk (PyData.keyHash P (Str.ofString "RSQB")) (Value.str (Str.ofString "RSQB") 374) (Value.int 10 373), DictEntry.mk (PyData.keyHash P (Str.ofString
    "COLON")) (Value.str (Str.ofString "COLON") 376) (Value.int 11 375), DictEntry.mk (PyData.keyHash P (Str.ofString "COMMA")) (Value.str (Str.ofString "COMMA") 378) (Value.int 12 377),
    DictEntry.mk (PyData.keyHash P (Str.ofString "SEMI")) (Value.str (Str.ofString "SEMI") 380) (Value.int 13 379), DictEntry.mk (PyData.keyHash P (Str.ofString "PLUS")) (Value.str (Str.ofString
    "PLUS") 382) (Value.int 14 381), DictEntry.mk (PyData.keyHash P (Str.ofString "MINUS")) (Value.str (Str.ofString "MINUS") 384) (Value.int 15 383), DictEntry.mk (PyData.keyHash P
    (Str.ofString "STAR")) (Value.str (Str.ofString "STAR") 386) (Value.int 16 385), DictEntry.mk (PyData.keyHash P (Str.ofString "SLASH")) (Value.str (Str.ofString "SLASH") 388) (Value.int
    17 387), DictEntry.mk (PyData.keyHash P (Str.ofString "VBAR")) (Value.str (Str.ofString "VBAR") 390) (Value.int 18 389), DictEntry.mk (PyData.keyHash P (Str.ofString "AMPER")) (Value.str
    (Str.ofString "AMPER") 392) (Value.int 19 391), DictEntry.mk (PyData.keyHash P (Str.ofString "LESS")) (Value.str (Str.ofString "LESS") 394) (Value.int 20 393), DictEntry.mk (PyData.keyHash
    P (Str.ofString "GREATER")) (Value.str (Str.ofString "GREATER") 396) (Value.int 21 395), DictEntry.mk (PyData.keyHash P (Str.ofString "EQUAL")) (Value.str (Str.ofString "EQUAL")
    398) (Value.int 22 397), DictEntry.mk (PyData.keyHash P (Str.ofString "DOT")) (Value.str (Str.ofString "DOT") 400) (Value.int 23 399), DictEntry.mk (PyData.keyHash P (Str.ofString
    "PERCENT")) (Value.str (Str.ofString "PERCENT") 402) (Value.int 24 401), DictEntry.mk (PyData.keyHash P (Str.ofString "LBRACE")) (Value.str (Str.ofString "LBRACE") 404) (Value.int
    25 403), DictEntry.mk (PyData.keyHash P (Str.ofString "RBRACE")) (Value.str (Str.ofString "RBRACE") 406) (Value.int 26 405), DictEntry.mk (PyData.keyHash P (Str.ofString "EQEQUAL"))
    (Value.str (Str.ofString "EQEQUAL") 408) (Value.int 27 407), DictEntry.mk (PyData.keyHash P (Str.ofString "NOTEQUAL")) (Value.str (Str.ofString "NOTEQUAL") 410) (Value.int 28 409),
    DictEntry.mk (PyData.keyHash P (Str.ofString "LESSEQUAL")) (Value.str (Str.ofString "LESSEQUAL") 412) (Value.int 29 411), DictEntry.mk (PyData.keyHash P (Str.ofString "GREATEREQUAL"))
    (Value.str (Str.ofString "GREATEREQUAL") 414) (Value.int 30 413), DictEntry.mk (PyData.keyHash P (Str.ofString "TILDE")) (Value.str (Str.ofString "TILDE") 416) (Value.int 31 415),
    DictEntry.mk (PyData.keyHash P (Str.ofString "CIRCUMFLEX")) (Value.str (Str.ofString "CIRCUMFLEX") 418) (Value.int 32 417), DictEntry.mk (PyData.keyHash P (Str.ofString "LEFTSHIFT"))
    (Value.str (Str.ofString "LEFTSHIFT") 420) (Value.int 33 419), DictEntry.mk (PyData.keyHash P (Str.ofString "RIGHTSHIFT")) (Value.str (Str.ofString "RIGHTSHIFT") 422) (Value.int
    34 421), DictEntry.mk (PyData.keyHash P (Str.ofString "DOUBLESTAR")) (Value.str (Str.ofString "DOUBLESTAR") 424) (Value.int 35 423), DictEntry.mk (PyData.keyHash P (Str.ofString
    "PLUSEQUAL")) (Value.str (Str.ofString "PLUSEQUAL") 426) (Value.int 36 425), DictEntry.mk (PyData.keyHash P (Str.ofString "MINEQUAL")) (Value.str (Str.ofString "MINEQUAL") 428) (Value.int
    37 427), DictEntry.mk (PyData.keyHash P (Str.ofString "STAREQUAL")) (Value.str (Str.ofString "STAREQUAL") 430) (Value.int 38 429), DictEntry.mk (PyData.keyHash P (Str.ofString "SLASHEQUAL"))
    (Value.str (Str.ofString "SLASHEQUAL") 432) (Value.int 39 431), DictEntry.mk (PyData.keyHash P (Str.ofString "PERCENTEQUAL")) (Value.str (Str.ofString "PERCENTEQUAL") 434) (Value.int
    40 433), DictEntry.mk (PyData.keyHash P (Str.ofString "AMPEREQUAL")) (Value.str (Str.ofString "AMPEREQUAL") 436) (Value.int 41 435), DictEntry.mk (PyData.keyHash P (Str.ofString
    "VBAREQUAL")) (Value.str (Str.ofString "VBAREQUAL") 438) (Value.int 42 437), DictEntry.mk (PyData.keyHash P (Str.ofString "CIRCUMFLEXEQUAL")) (Value.str (Str.ofString "CIRCUMFLEXEQUAL")
    440) (Value.int 43 439), DictEntry.mk (PyData.keyHash P (Str.ofString "LEFTSHIFTEQUAL")) (Value.str (Str.ofString "LEFTSHIFTEQUAL") 442) (Value.int 44 441), DictEntry.mk (PyData.keyHash
    P (Str.ofString "RIGHTSHIFTEQUAL")) (Value.str (Str.ofString "RIGHTSHIFTEQUAL") 444) (Value.int 45 443), DictEntry.mk (PyData.keyHash P (Str.ofString "DOUBLESTAREQUAL")) (Value.str
    (Str.ofString "DOUBLESTAREQUAL") 446) (Value.int 46 445), DictEntry.mk (PyData.keyHash P (Str.ofString "DOUBLESLASH")) (Value.str (Str.ofString "DOUBLESLASH") 448) (Value.int 47
    447), DictEntry.mk (PyData.keyHash P (Str.ofString "DOUBLESLASHEQUAL")) (Value.str (Str.ofString "DOUBLESLASHEQUAL") 450) (Value.int 48 449), DictEntry.mk (PyData.keyHash P (Str.ofString
    "AT")) (Value.str (Str.ofString "AT") 452) (Value.int 49 451), DictEntry.mk (PyData.keyHash P (Str.ofString "ATEQUAL")) (Value.str (Str.ofString "ATEQUAL") 454) (Value.int 50 453),
    DictEntry.mk (PyData.keyHash P (Str.ofString "RARROW")) (Value.str (Str.ofString "RARROW") 456) (Value.int 51 455), DictEntry.mk (PyData.keyHash P (Str.ofString "ELLIPSIS")) (Value.str
    (Str.ofString "ELLIPSIS") 458) (Value.int 52 457), DictEntry.mk (PyData.keyHash P (Str.ofString "COLONEQUAL")) (Value.str (Str.ofString "COLONEQUAL") 460) (Value.int 53 459), DictEntry.mk
    (PyData.keyHash P (Str.ofString "EXCLAMATION")) (Value.str (Str.ofString "EXCLAMATION") 462) (Value.int 54 461), DictEntry.mk (PyData.keyHash P (Str.ofString "EXACT_TOKEN_TYPES"))
    (Value.str (Str.ofString "EXACT_TOKEN_TYPES") 559) (Value.ref 63), DictEntry.mk (PyData.keyHash P (Str.ofString "_law_cells")) (Value.str (Str.ofString "_law_cells") 571) (Value.ref
    72), DictEntry.mk (PyData.keyHash P (Str.ofString "_law_operators")) (Value.str (Str.ofString "_law_operators") 579) (Value.ref 79), DictEntry.mk (PyData.keyHash P (Str.ofString
    "_law_spelled")) (Value.str (Str.ofString "_law_spelled") 585) (Value.ref 84), DictEntry.mk (PyData.keyHash P (Str.ofString "_law_number")) (Value.str (Str.ofString "_law_number")
    595) (Value.ref 91), DictEntry.mk (PyData.keyHash P (Str.ofString "_law_shares")) (Value.str (Str.ofString "_law_shares") 601) (Value.ref 96), DictEntry.mk (PyData.keyHash P (Str.ofString
    "law")) (Value.str (Str.ofString "law") 607) (Value.ref 101)] 71) #[]),
  (nat_lit 44, Obj.mk (Value.type "code") Option.none (Data.fields #[Value.str (Str.ofString "_escape_attrib_c14n") 291, Value.str (Str.ofString "_escape_attrib_c14n") 292, Value.str (Str.ofString
    "/claim/cut.py") 293, Value.int 5 0, Value.int 1 0, Value.int 0 0, Value.int 0 0, Value.int 3 0, Value.ref 39, Value.bool Bool.true, Value.int 276 0, Value.ref 40, Value.none, Value.ref
    41, Value.ref 42, Value.ref 43, Value.int 295 0, Value.int 5 0, Value.str (Str.ofString "/claim/cut.py") 296]) #[]),
  (nat_lit 45, (by refine' (fun (o : Obj) (_ : (fobjOf (.type "function") 3 3 (Value.str (Str.ofString "cpy313.xml.etree.ElementTree") 282) (Value.ref 44)) = o) => o) _ ?h; (case h => (conv => lhs; whnf)) : Obj)),
  (nat_lit 49, Obj.mk (Value.type "tuple") Option.none (Data.seq #[Value.int 14 0, Value.int 4 0, Value.int 0 0, Value.int 1 0, Value.int 1 0, Value.int 6 0, Value.int 1 0, Value.int 16 0, Value.int
    46 0, Value.int 1 0]) #[]),
  (nat_lit 50, Obj.mk (Value.type "re.Pattern") Option.none (Data.fields #[Value.str (Str.ofString "(?m)^\\.") 301, Value.int 40 314, Value.int 0 0, Value.none, Value.none, Value.ref 49, Value.int
    0 0]) #[]),
  (nat_lit 54, Obj.mk (Value.type "tuple") Option.none (Data.seq #[Value.int 14 0, Value.int 9 0, Value.int 4 0, Value.int 1 0, Value.int 2 0, Value.int 16 0, Value.int 10 0, Value.int 16 0, Value.int
    13 0, Value.int 0 0, Value.int 7 0, Value.int 7 0, Value.int 16 0, Value.int 13 0, Value.int 16 0, Value.int 10 0, Value.int 15 0, Value.int 18 0, Value.int 5 0, Value.int 16 0,
    Value.int 10 0, Value.int 15 0, Value.int 13 0, Value.int 11 0, Value.int 16 0, Value.int 13 0, Value.int 5 0, Value.int 5 0, Value.int 0 0, Value.int 16 0, Value.int 10 0, Value.int
    1 0, Value.int 15 0, Value.int 2 0, Value.int 0 0, Value.int 1 0]) #[]),
  (nat_lit 55, Obj.mk (Value.type "re.Pattern") Option.none (Data.fields #[Value.str (Str.ofString "(?:\\r\\n|\\n|\\r(?!\\n))") 317, Value.int 32 356, Value.int 0 0, Value.none, Value.none, Value.ref
    54, Value.int 0 0]) #[]),
  (nat_lit 61, Obj.mk (Value.type "code") Option.none (Data.fields #[Value.str (Str.ofString "quotedata") 360, Value.str (Str.ofString "quotedata") 361, Value.str (Str.ofString "/claim/cut.py") 362,
    Value.int 26 0, Value.int 1 0, Value.int 0 0, Value.int 0 0, Value.int 3 0, Value.ref 56, Value.bool Bool.true, Value.int 276 0, Value.ref 57, Value.none, Value.ref 58, Value.ref
    59, Value.ref 60, Value.int 364 0, Value.int 26 0, Value.str (Str.ofString "/claim/cut.py") 365]) #[]),
  (nat_lit 62, (by refine' (fun (o : Obj) (_ : (fobjOf (.type "function") 8 3 (Value.str (Str.ofString "cpy313.smtplib") 298) (Value.ref 61)) = o) => o) _ ?h; (case h => (conv => lhs; whnf)) : Obj)),
  (nat_lit 63, Obj.mk (Value.type "dict") Option.none (Data.dict #[DictEntry.mk (PyData.keyHash P (Str.ofString "!")) (Value.str (Str.ofString "!") 463) (Value.int 54 461), DictEntry.mk (PyData.keyHash
    P (Str.ofString "!=")) (Value.str (Str.ofString "!=") 465) (Value.int 28 409), DictEntry.mk (PyData.keyHash P (Str.ofString "%")) (Value.str (Str.ofString "%") 467) (Value.int 24
    401), DictEntry.mk (PyData.keyHash P (Str.ofString "%=")) (Value.str (Str.ofString "%=") 469) (Value.int 40 433), DictEntry.mk (PyData.keyHash P (Str.ofString "&")) (Value.str (Str.ofString
    "&") 471) (Value.int 19 391), DictEntry.mk (PyData.keyHash P (Str.ofString "&=")) (Value.str (Str.ofString "&=") 473) (Value.int 41 435), DictEntry.mk (PyData.keyHash P (Str.ofString
    "(")) (Value.str (Str.ofString "(") 475) (Value.int 7 367), DictEntry.mk (PyData.keyHash P (Str.ofString ")")) (Value.str (Str.ofString ")") 477) (Value.int 8 369), DictEntry.mk
    (PyData.keyHash P (Str.ofString "*")) (Value.str (Str.ofString "*") 479) (Value.int 16 385), DictEntry.mk (PyData.keyHash P (Str.ofString "**")) (Value.str (Str.ofString "**") 481)
    (Value.int 35 423), DictEntry.mk (PyData.keyHash P (Str.ofString "**=")) (Value.str (Str.ofString "**=") 483) (Value.int 46 445), DictEntry.mk (PyData.keyHash P (Str.ofString "*="))
    (Value.str (Str.ofString "*=") 485) (Value.int 38 429), DictEntry.mk (PyData.keyHash P (Str.ofString "+")) (Value.str (Str.ofString "+") 487) (Value.int 14 381), DictEntry.mk (PyData.keyHash
    P (Str.ofString "+=")) (Value.str (Str.ofString "+=") 489) (Value.int 36 425), DictEntry.mk (PyData.keyHash P (Str.ofString ",")) (Value.str (Str.ofString ",") 491) (Value.int 12
    377), DictEntry.mk (PyData.keyHash P (Str.ofString "-")) (Value.str (Str.ofString "-") 493) (Value.int 15 383), DictEntry.mk (PyData.keyHash P (Str.ofString "-=")) (Value.str (Str.ofString
    "-=") 495) (Value.int 37 427), DictEntry.mk (PyData.keyHash P (Str.ofString "->")) (Value.str (Str.ofString "->") 497) (Value.int 51 455), DictEntry.mk (PyData.keyHash P (Str.ofString
    ".")) (Value.str (Str.ofString ".") 499) (Value.int 23 399), DictEntry.mk (PyData.keyHash P (Str.ofString "...")) (Value.str (Str.ofString "...") 501) (Value.int 52 457), DictEntry.mk
    (PyData.keyHash P (Str.ofString "/")) (Value.str (Str.ofString "/") 503) (Value.int 17 387), DictEntry.mk (PyData.keyHash P (Str.ofString "//")) (Value.str (Str.ofString "//") 505)
    (Value.int 47 447), DictEntry.mk (PyData.keyHash P (Str.ofString "//=")) (Value.str (Str.ofString "//=") 507) (Value.int 48 449), DictEntry.mk (PyData.keyHash P (Str.ofString "/="))
    (Value.str (Str.ofString "/=") 509) (Value.int 39 431), DictEntry.mk (PyData.keyHash P (Str.ofString ":")) (Value.str (Str.ofString ":") 511) (Value.int 11 375), DictEntry.mk (PyData.keyHash
    P (Str.ofString ":=")) (Value.str (Str.ofString ":=") 513) (Value.int 53 459), DictEntry.mk (PyData.keyHash P (Str.ofString ";")) (Value.str (Str.ofString ";") 515) (Value.int 13
    379), DictEntry.mk (PyData.keyHash P (Str.ofString "<")) (Value.str (Str.ofString "<") 517) (Value.int 20 393), DictEntry.mk (PyData.keyHash P (Str.ofString "<<")) (Value.str (Str.ofString
    "<<") 519) (Value.int 33 419), DictEntry.mk (PyData.keyHash P (Str.ofString "<<=")) (Value.str (Str.ofString "<<=") 521) (Value.int 44 441), DictEntry.mk (PyData.keyHash P (Str.ofString
    "<=")) (Value.str (Str.ofString "<=") 523) (Value.int 29 411), DictEntry.mk (PyData.keyHash P (Str.ofString "=")) (Value.str (Str.ofString "=") 525) (Value.int 22 397), DictEntry.mk
    (PyData.keyHash P (Str.ofString "==")) (Value.str (Str.ofString "==") 527) (Value.int 27 407), DictEntry.mk (PyData.keyHash P (Str.ofString ">")) (Value.str (Str.ofString ">") 529)
    (Value.int 21 395), DictEntry.mk (PyData.keyHash P (Str.ofString ">=")) (Value.str (Str.ofString ">=") 531) (Value.int 30 413), DictEntry.mk (PyData.keyHash P (Str.ofString ">>"))
    (Value.str (Str.ofString ">>") 532) (Value.int 34 421), DictEntry.mk (PyData.keyHash P (Str.ofString ">>=")) (Value.str (Str.ofString ">>=") 533) (Value.int 45 443), DictEntry.mk
    (PyData.keyHash P (Str.ofString "@")) (Value.str (Str.ofString "@") 534) (Value.int 49 451), DictEntry.mk (PyData.keyHash P (Str.ofString "@=")) (Value.str (Str.ofString "@=") 535)
    (Value.int 50 453), DictEntry.mk (PyData.keyHash P (Str.ofString "[")) (Value.str (Str.ofString "[") 536) (Value.int 9 371), DictEntry.mk (PyData.keyHash P (Str.ofString "]")) (Value.str
    (Str.ofString "]") 537) (Value.int 10 373), DictEntry.mk (PyData.keyHash P (Str.ofString "^")) (Value.str (Str.ofString "^") 538) (Value.int 32 417), DictEntry.mk (PyData.keyHash
    P (Str.ofString "^=")) (Value.str (Str.ofString "^=") 539) (Value.int 43 439), DictEntry.mk (PyData.keyHash P (Str.ofString "{")) (Value.str (Str.ofString "{") 540) (Value.int 25
    403), DictEntry.mk (PyData.keyHash P (Str.ofString "|")) (Value.str (Str.ofString "|") 541) (Value.int 18 389), DictEntry.mk (PyData.keyHash P (Str.ofString "|=")) (Value.str (Str.ofString
    "|=") 542) (Value.int 42 437), DictEntry.mk (PyData.keyHash P (Str.ofString "}")) (Value.str (Str.ofString "}") 543) (Value.int 26 405), DictEntry.mk (PyData.keyHash P (Str.ofString
    "~")) (Value.str (Str.ofString "~") 544) (Value.int 31 415)] 48) #[]),
  (nat_lit 71, Obj.mk (Value.type "code") Option.none (Data.fields #[Value.str (Str.ofString "_law_cells") 562, Value.str (Str.ofString "_law_cells") 563, Value.str (Str.ofString "/claim/cut.py") 564,
    Value.int 78 0, Value.int 2 0, Value.int 0 0, Value.int 0 0, Value.int 3 0, Value.ref 66, Value.bool Bool.true, Value.int 276 0, Value.ref 67, Value.none, Value.ref 68, Value.ref
    69, Value.ref 70, Value.int 569 0, Value.int 78 0, Value.str (Str.ofString "/claim/cut.py") 570]) #[]),
  (nat_lit 72, (by refine' (fun (o : Obj) (_ : (fobjOf (.type "function") 59 3 (Value.str (Str.ofString "law_st0009_01") 560) (Value.ref 71)) = o) => o) _ ?h; (case h => (conv => lhs; whnf)) : Obj)),
  (nat_lit 78, Obj.mk (Value.type "code") Option.none (Data.fields #[Value.str (Str.ofString "_law_operators") 572, Value.str (Str.ofString "_law_operators") 573, Value.str (Str.ofString "/claim/cut.py")
    574, Value.int 82 0, Value.int 0 0, Value.int 0 0, Value.int 0 0, Value.int 3 0, Value.ref 73, Value.bool Bool.true, Value.int 276 0, Value.ref 74, Value.none, Value.ref 75, Value.ref
    76, Value.ref 77, Value.int 577 0, Value.int 82 0, Value.str (Str.ofString "/claim/cut.py") 578]) #[]),
  (nat_lit 79, (by refine' (fun (o : Obj) (_ : (fobjOf (.type "function") 60 3 (Value.str (Str.ofString "law_st0009_01") 560) (Value.ref 78)) = o) => o) _ ?h; (case h => (conv => lhs; whnf)) : Obj)),
  (nat_lit 83, Obj.mk (Value.type "code") Option.none (Data.fields #[Value.str (Str.ofString "_law_spelled") 580, Value.str (Str.ofString "_law_spelled") 581, Value.str (Str.ofString "/claim/cut.py")
    582, Value.int 86 0, Value.int 1 0, Value.int 0 0, Value.int 0 0, Value.int 3 0, Value.ref 80, Value.bool Bool.true, Value.int 276 0, Value.ref 81, Value.none, Value.none, Value.none,
    Value.ref 82, Value.int 583 0, Value.int 86 0, Value.str (Str.ofString "/claim/cut.py") 584]) #[]),
  (nat_lit 84, (by refine' (fun (o : Obj) (_ : (fobjOf (.type "function") 61 3 (Value.str (Str.ofString "law_st0009_01") 560) (Value.ref 83)) = o) => o) _ ?h; (case h => (conv => lhs; whnf)) : Obj)),
  (nat_lit 90, Obj.mk (Value.type "code") Option.none (Data.fields #[Value.str (Str.ofString "_law_number") 586, Value.str (Str.ofString "_law_number") 587, Value.str (Str.ofString "/claim/cut.py")
    588, Value.int 89 0, Value.int 2 0, Value.int 0 0, Value.int 0 0, Value.int 3 0, Value.ref 85, Value.bool Bool.true, Value.int 276 0, Value.ref 86, Value.none, Value.ref 87, Value.ref
    88, Value.ref 89, Value.int 593 0, Value.int 89 0, Value.str (Str.ofString "/claim/cut.py") 594]) #[]),
  (nat_lit 91, (by refine' (fun (o : Obj) (_ : (fobjOf (.type "function") 62 3 (Value.str (Str.ofString "law_st0009_01") 560) (Value.ref 90)) = o) => o) _ ?h; (case h => (conv => lhs; whnf)) : Obj)),
  (nat_lit 95, Obj.mk (Value.type "code") Option.none (Data.fields #[Value.str (Str.ofString "_law_shares") 596, Value.str (Str.ofString "_law_shares") 597, Value.str (Str.ofString "/claim/cut.py")
    598, Value.int 95 0, Value.int 2 0, Value.int 0 0, Value.int 0 0, Value.int 3 0, Value.ref 92, Value.bool Bool.true, Value.int 276 0, Value.ref 93, Value.none, Value.none, Value.none,
    Value.ref 94, Value.int 599 0, Value.int 95 0, Value.str (Str.ofString "/claim/cut.py") 600]) #[]),
  (nat_lit 96, (by refine' (fun (o : Obj) (_ : (fobjOf (.type "function") 63 3 (Value.str (Str.ofString "law_st0009_01") 560) (Value.ref 95)) = o) => o) _ ?h; (case h => (conv => lhs; whnf)) : Obj)),
  (nat_lit 100, Obj.mk (Value.type "code") Option.none (Data.fields #[Value.str (Str.ofString "law") 602, Value.str (Str.ofString "law") 603, Value.str (Str.ofString "/claim/cut.py") 604, Value.int
    101 0, Value.int 1 0, Value.int 0 0, Value.int 0 0, Value.int 3 0, Value.ref 97, Value.bool Bool.true, Value.int 276 0, Value.ref 98, Value.none, Value.none, Value.none, Value.ref
    99, Value.int 605 0, Value.int 101 0, Value.str (Str.ofString "/claim/cut.py") 606]) #[]),
  (nat_lit 101, (by refine' (fun (o : Obj) (_ : (fobjOf (.type "function") 64 3 (Value.str (Str.ofString "law_st0009_01") 560) (Value.ref 100)) = o) => o) _ ?h; (case h => (conv => lhs; whnf)) : Obj))] 
noncomputable def topH : Hook := kHook topK [3, 44, 45, 49, 50, 54, 55, 61, 62, 63, 71, 72, 78, 79, 83, 84, 90, 91, 95, 96, 100, 101] (fun _ => by kernel_rfl)
theorem top_open : ∀ w : World, (fencedOpening treeTable PySem.Challenge.rw_st0009_01.row.toRowW.prog w 3824).map (fun s => (s.heap, s.gens, s.drawn, s.toks)) = some (topH0 w.params, #[], {}, 276) := fun w => by kernel_rfl
theorem top_size : ∀ w : World, ((topH0 w.params).isNs mainGlobals && (#[] : Array GenState).size == 0, (topH0 w.params).objs.size, (topH0 w.params).nsMap mainGlobals "__annotations__") = (true, 28, some (.ref 6)) := fun w => by kernel_rfl
theorem top_pre : ∀ (w : World) (os : OsState), topGo treeTable PySem.Challenge.rw_st0009_01.row.toRowW.prog w 28 (some (.ref 6)) 12 (topS0 w os) (topStub PySem.Challenge.rw_st0009_01.row.toRowW.prog) = some (topSP w os, ⟨denote treeTable topC, topC, ⟨0, 0, 0, 0⟩, [topFrame ⟨0, 0, 0, 0⟩]⟩) := fun w os => by kernel_rfl
theorem top_block : ∀ (w : World) (os : OsState), segRun treeTable PySem.Challenge.rw_st0009_01.row.toRowW.prog w 28 (some (.ref 6)) 1 1 (topSP w os) (blockOf topB topE topC ⟨0, 0, 0, 0⟩ [topFrame ⟨0, 0, 0, 0⟩]) = some (.next, topSP w os, topC, ⟨0, 0, 0, 0⟩) := fun w os => by kernel_rfl
theorem top_seg1 : ∀ (w : World) (os : OsState), segRun treeTable PySem.Challenge.rw_st0009_01.row.toRowW.prog w 28 (some (.ref 6)) 1 691 (topSP w os) (piecesOf (topB.take 56) topE topC ⟨0, 0, 0, 0⟩ [topFrame ⟨0, 0, 0, 0⟩]) = some (.next, topSC w os, topC, ⟨75, 0, 75, 11⟩) := fun w os => by kernel_rfl
theorem top_seg2_false : ∀ (w : World) (os : OsState), segRun treeTable PySem.Challenge.rw_st0009_01.row.toRowW.prog (w.withFollow "special-get-raises" false) 28 (some (.ref 6)) 1 979 (topSC (w.withFollow "special-get-raises" false) os) (piecesOf ((topB.drop 56).take 1) topE topC ⟨75, 0, 75, 11⟩ [topFrame ⟨0, 0, 0, 0⟩]) = some (.next, topSD (w.withFollow "special-get-raises" false) os, topC, ⟨76, 0, 76, 17⟩) := fun w os => by kernel_rfl
theorem top_seg2_true : ∀ (w : World) (os : OsState), segRun treeTable PySem.Challenge.rw_st0009_01.row.toRowW.prog (w.withFollow "special-get-raises" true) 28 (some (.ref 6)) 1 979 (topSC (w.withFollow "special-get-raises" true) os) (piecesOf ((topB.drop 56).take 1) topE topC ⟨75, 0, 75, 11⟩ [topFrame ⟨0, 0, 0, 0⟩]) = some (.next, topSD (w.withFollow "special-get-raises" true) os, topC, ⟨76, 0, 76, 17⟩) := fun w os => by kernel_rfl
theorem top_seg2 (w : World) : ∀ os : OsState, segRun treeTable PySem.Challenge.rw_st0009_01.row.toRowW.prog w 28 (some (.ref 6)) 1 979 (topSC w os) (piecesOf ((topB.drop 56).take 1) topE topC ⟨75, 0, 75, 11⟩ [topFrame ⟨0, 0, 0, 0⟩]) = some (.next, topSD w os, topC, ⟨76, 0, 76, 17⟩) :=
  byRow2 "special-get-raises" (P := fun w => ∀ os : OsState, segRun treeTable PySem.Challenge.rw_st0009_01.row.toRowW.prog w 28 (some (.ref 6)) 1 979 (topSC w os) (piecesOf ((topB.drop 56).take 1) topE topC ⟨75, 0, 75, 11⟩ [topFrame ⟨0, 0, 0, 0⟩]) = some (.next, topSD w os, topC, ⟨76, 0, 76, 17⟩)) (fun w => top_seg2_false w) (fun w => top_seg2_true w) w
theorem top_seg3 : ∀ (w : World) (os : OsState), segRun treeTable PySem.Challenge.rw_st0009_01.row.toRowW.prog w 28 (some (.ref 6)) 1 182 (topSD w os) (piecesOf (topB.drop 57) topE topC ⟨76, 0, 76, 17⟩ [topFrame ⟨0, 0, 0, 0⟩]) = some (.next, topS1 w os, topC, ⟨101, 0, 129, 64⟩) := fun w os => by kernel_rfl
theorem top_fin : ∀ (w : World) (os : OsState), topRun treeTable PySem.Challenge.rw_st0009_01.row.toRowW.prog w 28 (some (.ref 6)) 2 (topS1 w os) ⟨doneF .next, topC, ⟨101, 0, 129, 64⟩, [topFrame ⟨0, 0, 0, 0⟩]⟩ = some (topS1 w os) := fun w os => by kernel_rfl
theorem top_cut : topB = topB.take 56 ++ ((topB.drop 56).take 1 ++ (topB.drop 57 ++ [])) := by kernel_rfl
theorem top_run (w : World) (os : OsState) : topRun treeTable PySem.Challenge.rw_st0009_01.row.toRowW.prog w 28 (some (.ref 6)) (12 + (1 + (691 + (979 + (182 + 2))))) (topS0 w os) (topStub PySem.Challenge.rw_st0009_01.row.toRowW.prog) = some (topS1 w os) := by
  have k := piece_app (top_seg1 w os) (piece_app (top_seg2 w os) (piece_app (top_seg3 w os) (piece_nil (top_fin w os))))
  rw [← top_cut] at k
  exact go_top (top_pre w os) (piece_block (top_block w os) k)
theorem top_kept : ∀ (w : World) (os : OsState), (staticsOk (importedModules PySem.Challenge.rw_st0009_01.row.toRowW.prog.main.body) (topH0 w.params) (topH1 w.params) && namesBound PySem.Challenge.rw_st0009_01.row.toRowW.prog (topH1 w.params) && gensDone (topS1 w os) && laidKept (topH0 w.params) (topH1 w.params)) = true := fun w os => by kernel_rfl
theorem top_key0 : ∀ (w : World) (os : OsState), ((topS1 w os).heap.keysOk (looseW topQ topL) ((recsOf topQ).map (·.name)) ((litsOf topQ).map (·.1)) ((clssOf topQ (looseW topQ topL)).map (·.name))) = true := fun w os => by kernel_rfl
theorem top_key1 : ∀ (w : World) (os : OsState), ((topS1 w os).heap.accountedOkI (importedModules PySem.Challenge.rw_st0009_01.row.toRowW.prog.main.body)) = true := fun w os => by kernel_rfl
theorem top_key2 : ∀ (w : World) (os : OsState), ((topS1 w os).heap.isNs mainGlobals) = true := fun w os => by kernel_rfl
theorem top_key3 : ∀ (w : World) (os : OsState), ((topS1 w os).heap.isNs builtinsNs) = true := fun w os => by kernel_rfl
theorem top_key4 : ∀ (w : World) (os : OsState), (tablesOk topQ (topS1 w os).heap) = true := fun w os => by kernel_rfl
theorem top_key5 : ∀ (w : World) (os : OsState), ((fun s : Shared => xlAt topQ [] s && recOk (RowW.records PySem.Challenge.rw_st0009_01.row.toRowW) s) (topS1 w os)) = true := fun w os => by kernel_rfl
theorem top_key6 : ∀ (w : World) (os : OsState), ((if true then (topS1 w os).gens.size == 0 else !leftWithCleanup (topS1 w os).gens)) = true := fun w os => by kernel_rfl
theorem top_see0 : ∀ (w : World) (os : OsState), seen ((recsOf topQ).map (·.name)) (ownsOf topQ) [] { topS1 w os with gens := #[] } = expectedOf topQ := fun w os => by kernel_rfl
theorem top_see1 : ∀ (w : World) (os : OsState), (topS1 w os).heap.bltView = bltViewBooted := fun w os => by kernel_rfl
theorem top_see3 : ∀ (w : World) (os : OsState), tabsOk topQ (topS1 w os) = true := fun w os => by kernel_rfl
theorem top_see4 : ∀ (w : World) (os : OsState), pinSeenD topQ (drecsOf topQ) (topS1 w os) = pinGoodD (drecsOf topQ) := fun w os => by kernel_rfl
theorem top_see5 : ∀ (w : World) (os : OsState), plainSeenE topQ (looseW topQ topL) (topS1 w os) = plainGoodE topQ (looseW topQ topL) := fun w os => by kernel_rfl
theorem top_see6 : ∀ (w : World) (os : OsState), plainSeenD topQ topL (topS1 w os) = plainGoodD topQ topL := fun w os => by kernel_rfl
theorem top_see7 : ∀ (w : World) (os : OsState), wideSeen topQ (topS1 w os) = wideGood topQ := fun w os => by kernel_rfl
theorem top_see8 : ∀ (w : World) (os : OsState), clsSeenW topQ topL (topS1 w os) = clsGoodW topQ topL := fun w os => by kernel_rfl
theorem top_seen (w : World) (os : OsState) : (openSeen topQ topL (importedModules PySem.Challenge.rw_st0009_01.row.toRowW.prog.main.body) (fun s => xlAt topQ [] s && recOk (RowW.records PySem.Challenge.rw_st0009_01.row.toRowW) s) true (topS1 w os)) = openGood topQ topL :=
  looks_pair (top_see0 w os) (looks_pair (top_see1 w os) (looks_pair (look_both (look_both (look_both (look_both (look_both (look_both (top_key0 w os) (top_key1 w os)) (top_key2 w os)) (top_key3 w os)) (top_key4 w os)) (top_key5 w os)) (top_key6 w os)) (looks_pair (top_see3 w os) (looks_pair (top_see4 w os) (looks_pair (top_see5 w os) (looks_pair (top_see6 w os) (looks_pair (top_see7 w os) (top_see8 w os))))))))
theorem top_obs : ∀ (w : World) (os : OsState), Hook.obs topH (topS1 w os) = Hook.val topH w := fun w os => by kernel_rfl
theorem left0 : LeftO PySem.Challenge.rw_st0009_01.row.toRowW.prog topQ topL (fun s => xlAt topQ [] s && recOk (RowW.records PySem.Challenge.rw_st0009_01.row.toRowW) s) (Hook.obs topH) (Hook.val topH) 3824 :=
  LeftO.of_pieces (H₀ := topH0) (H₁ := topH1) (gs₀ := #[]) (gs₁ := #[]) (d₀ := {}) (d₁ := {}) (k₀ := 276) (k₁ := 608) (m₀ := 28) (ann := some (.ref 6)) (M := 12 + (1 + (691 + (979 + (182 + 2))))) top_open top_size top_run rfl (fun w => funext fun os => looks_pair (top_kept w os) (looks_pair (top_seen w os) (top_obs w os)))
theorem hd {d : DefRec} {kwd : List (Str × Expr)} (h1 : defOf topQ PySem.Challenge.rw_st0009_01.row.name = some (d, kwd)) (h2 : PySem.Challenge.rw_st0009_01.row.prog.theDef PySem.Challenge.rw_st0009_01.row.name = some (d.params, d.body, d.scope)) (h3 : kwWritten? d.params.kwonlyargs d.params.kw_defaults = some kwd)
    (walk : WalkO topQ [Str.ofString "_twin_re_1", Str.ofString "_twin_re_2", Str.ofString "EXACT_TOKEN_TYPES"] (XL topQ []) (Hook.says topH) PySem.Challenge.rw_st0009_01.row.toRowW d kwd fun f vs => PySem.call f vs) : PySem.Challenge.rw_st0009_01.Holds := by
  w_on
  o_law
  refine holds_open (q := topQ) (loose := topL) (Xt := fun s => xlAt topQ [] s && recOk (RowW.records PySem.Challenge.rw_st0009_01.row.toRowW) s) (XP := XL topQ []) (Yf := Hook.obs topH) (Ya := Hook.val topH) (YP := Hook.says topH) (N := 3824) left0 (Hook.of topH) (Hook.keeps topH) (fun s e => xl_of s (Bool.and_eq_true_iff.mp e).1) XL.keeps h1 h2 h3 (fun s e => recFacts_of (Bool.and_eq_true_iff.mp e).2) (by rfl) (by first | assumption | decide +kernel) (by decide +kernel) ⟨rfl, rfl, rfl, rfl, rfl, by decide +kernel⟩ ?hw walk
  case hw => w_witness2
end
end Mine
end
section
open PySem PySem.W PyProof.Rows
namespace Mine
set_option maxRecDepth 100000

/-- what a call of the def at f, with the values vs, gives, where it changes no object that stood: R says of the heap before, the heap behind and the value -/
noncomputable def Asks (w : World) (mean : ExcName → Option Value) (mg mb : Str → Option Value) (f : Addr) (vs : List Value) (R : Heap → Heap → Value → Prop) : Prop :=
  ∀ (dp un : Nat) (gd : Option (List Code)) (cn : Str) (cs : Scope) (a : Addr) (ccd : Value) (cl : List (Str × Addr)) (outer : List Env) (A₀ : Around) (base h₀ : Heap) (L : Addr) (m : Str → Option Value) (s : Shared)
    (Q E : Value → Shared → Prop),
    Below A₀ base outer h₀ → Fr h₀ L s.heap m → (topK w.params).In h₀ → Top topQ (looseW topQ [Str.ofString "_twin_re_1", Str.ofString "_twin_re_2", Str.ofString "EXACT_TOKEN_TYPES"]) mean mg mb h₀ → cs.kind = .function → dp + 10 < recursionLimit → un + 80 < cLine →
    (∀ r h' tk', (∀ b o, s.heap.get? b = some o → h'.get? b = some o) → s.toks ≤ tk' → R s.heap h' r → Q r { s with heap := h', toks := tk' }) →
    wpAny (model PySem.Challenge.rw_st0009_01.row.prog w) (ktrTop dp un gd cn cs L a ccd cl outer) (call (.ref f) vs) Q E s

/-- a frame's names, the newest first -/
noncomputable def mp : List (Str × Value) → Str → Option Value
  | [] => fun _ => none
  | p :: r => fun y => if y = p.1 then some p.2 else mp r y
theorem mp_lookup : ∀ l : List (Str × Value), (fun y => l.lookup y) = mp l
  | [] => rfl
  | p :: r => by
    funext y
    have ih := congrFun (mp_lookup r) y
    show List.lookup y (p :: r) = if y = p.1 then some p.2 else mp r y
    rw [List.lookup_cons]
    by_cases h : y = p.1
    · rw [if_pos h, h]; simp
    · rw [if_neg h, ← ih, beq_eq_false_iff_ne.mpr h]
theorem mp_head {n : Str} {v v' : Value} {l : List (Str × Value)} : mp ((n, v') :: (n, v) :: l) = mp ((n, v') :: l) := by
  funext y
  show (if y = n then _ else if y = n then _ else _) = if y = n then _ else _
  split <;> rfl

section
variable {prog : Program} {w : World} {A A₀ : Around} {s : Shared} {K : Frag} {L : Addr} {h₀ base : Heap} {m mg mb : Str → Option Value} {p : Program} {loose : List Str} {mean : ExcName → Option Value}

theorem below_grown {outer : List Env} {env : Env} (B : Below A₀ base outer h₀) (F : Fr h₀ L s.heap m) (hA : A.frames = some (env :: outer)) (hf : env.frame = some L) (hke : env.scope.kind = .function) : Below A base (env :: outer) s.heap :=
  (groundX (R := fun _ _ => True) B F (news := []) (fun _ h => nomatch h) hA hf hke).2.1

/-- a def without cells is entered; the heap at the call is its ground -/
theorem enter0 {env : Env} {outer : List Env} {R : Result → Shared → Prop} {name qual : Str} {params : Arguments} {body : List Stmt} {scope : Scope} {dV kV doc pm cdv ct oc : Value} {an od : Option Addr} {osl : Array (Option Value)} {f : Addr} {args : Args} {binds bs : List (Str × Value)}
    (B : Below A₀ base outer h₀) (F : Fr h₀ L s.heap m) (X₀ : K.In h₀) (T : Top p loose mean mg mb h₀) (hA : A.frames = some (env :: outer)) (hf : env.frame = some L) (hke : env.scope.kind = .function)
    (ho : K.lookup f = some ⟨oc, od, .func (fnOf name qual params body scope dV kV doc pm an cdv ct), osl⟩) (hcd : codeIn K cdv qual = true) (hroom : A.depth < recursionLimit)
    (hbind : BindsTo s (fnOf name qual params body scope dV kV doc pm an cdv ct) args binds) (hloc : ∀ y ∈ binds, scope.names.lookup y.1 = some .local) (hbs : binds.reverse = bs)
    (h : ∀ g L' h₁, s.heap = g → Fr g L' h₁ (mp bs) → Below A base (env :: outer) g → K.In g → Top p loose mean mg mb g →
      wpAny (model prog w) (A.deeper (envOf qual scope L' f cdv)) (execs body (envOf qual scope L' f cdv))
        (fun fl s' => R (.ok (.ret (match fl with | .ret v => v | _ => .none))) s')
        (fun e s' => wpAny (model prog w) (A.deeper (envOf qual scope L' f cdv)) (leaving (envOf qual scope L' f cdv) e) (fun _ s'' => R (.error e) s'') (fun e' s'' => R (.error e') s'') s')
        { s with heap := h₁, toks := s.toks + binds.length })
    (hco : scope.isCoroutine = false) (hgen : scope.isGenerator = false) (hk : scope.kind = .function)
    (hcell : ∀ x ∈ scope.names, x.2 ≠ .cell) : codeAny (model prog w) A (.call (.ref f) args) R s :=
  codeAny_call_def (fd := fnX name qual params body scope [] dV kV doc pm an cdv ct) (body := body) (binds := binds) hroom ((X₀.keeps F.keep) _ _ ho) rfl (T.nolimit.keeps F.keep) (codeRec_of (X₀.keeps F.keep) hcd) rfl hbind hcell hloc
    (fun h₁ hns hk₁ => h _ s.heap.objs.size h₁ rfl ⟨by rw [← hbs, ← mp_lookup]; exact hns, hk₁, Nat.le_refl _⟩ (below_grown B F hA hf hke) (X₀.keeps F.keep) (T.keeps F.keep)) hco hgen hk

/-- a def without cells is entered; one object is the callee's own to change -/
theorem enterH {env : Env} {outer : List Env} {R : Result → Shared → Prop} {name qual : Str} {params : Arguments} {body : List Stmt} {scope : Scope} {dV kV doc pm cdv ct oc : Value} {an od : Option Addr} {osl : Array (Option Value)} {f c : Addr} {oC : Obj} {args : Args} {binds bs : List (Str × Value)}
    (B : Below A₀ base outer h₀) (F : Fr h₀ L s.heap m) (X₀ : K.In h₀) (T : Top p loose mean mg mb h₀) (N : News h₀ L s.heap [(c, oC)]) (hA : A.frames = some (env :: outer)) (hf : env.frame = some L) (hke : env.scope.kind = .function)
    (ho : K.lookup f = some ⟨oc, od, .func (fnOf name qual params body scope dV kV doc pm an cdv ct), osl⟩) (hcd : codeIn K cdv qual = true) (hroom : A.depth < recursionLimit)
    (hbind : BindsTo s (fnOf name qual params body scope dV kV doc pm an cdv ct) args binds) (hloc : ∀ y ∈ binds, scope.names.lookup y.1 = some .local) (hbs : binds.reverse = bs)
    (h : ∀ g L' h₁, (∀ b o, b ≠ c → s.heap.get? b = some o → g.get? b = some o) → Fr g L' h₁ (mp bs) → News g L' h₁ [(c, oC)] → Below A base (env :: outer) g → K.In g → Top p loose mean mg mb g →
      wpAny (model prog w) (A.deeper (envOf qual scope L' f cdv)) (execs body (envOf qual scope L' f cdv))
        (fun fl s' => R (.ok (.ret (match fl with | .ret v => v | _ => .none))) s')
        (fun e s' => wpAny (model prog w) (A.deeper (envOf qual scope L' f cdv)) (leaving (envOf qual scope L' f cdv) e) (fun _ s'' => R (.error e) s'') (fun e' s'' => R (.error e') s'') s')
        { s with heap := h₁, toks := s.toks + binds.length })
    (hco : scope.isCoroutine = false) (hgen : scope.isGenerator = false) (hk : scope.kind = .function)
    (hcell : ∀ x ∈ scope.names, x.2 ≠ .cell) : codeAny (model prog w) A (.call (.ref f) args) R s := by
  obtain ⟨FG, BG, st, _⟩ := groundX (R := fun _ _ => True) B F N hA hf hke
  refine codeAny_call_def (fd := fnX name qual params body scope [] dV kV doc pm an cdv ct) (body := body) (binds := binds) hroom ((X₀.keeps F.keep) _ _ ho) rfl (T.nolimit.keeps F.keep) (codeRec_of (X₀.keeps F.keep) hcd) rfl hbind hcell hloc
    (fun h₁ hns hk₁ => h (hideAll s.heap ([(c, oC)].map (·.1))) s.heap.objs.size h₁ (fun b o hb e => hideAll_get _ e (by simpa using hb)) ⟨by rw [← hbs, ← mp_lookup]; exact hns, fun b o e => hk₁ b o (of_hideAll _ e), Nat.le_of_eq (hideAll_size _ _)⟩
      (fun q hq => ⟨hk₁ _ _ (N q hq).1, Nat.ne_of_lt (Heap.lt_size (N q hq).1), hideAll_none _ (List.mem_map_of_mem hq)⟩) BG (X₀.keeps (h' := hideAll s.heap ([(c, oC)].map (·.1))) fun b o e => st b o e) (T.keeps (h' := hideAll s.heap ([(c, oC)].map (·.1))) fun b o e => st b o e)) hco hgen hk

/-- a def with cells is entered -/
theorem enterC {env : Env} {outer : List Env} {R : Result → Shared → Prop} {name qual : Str} {params : Arguments} {body : List Stmt} {scope : Scope} {dV kV doc pm cdv ct oc : Value} {an od : Option Addr} {osl : Array (Option Value)} {f : Addr} {args : Args} {binds : List (Str × Value)}
    (B : Below A₀ base outer h₀) (F : Fr h₀ L s.heap m) (X₀ : K.In h₀) (T : Top p loose mean mg mb h₀) (hA : A.frames = some (env :: outer)) (hf : env.frame = some L) (hke : env.scope.kind = .function)
    (ho : K.lookup f = some ⟨oc, od, .func (fnOf name qual params body scope dV kV doc pm an cdv ct), osl⟩) (hcd : codeIn K cdv qual = true) (hroom : A.depth < recursionLimit)
    (hbind : BindsTo s (fnOf name qual params body scope dV kV doc pm an cdv ct) args binds) (hkind : (binds.all fun y => scope.names.lookup y.1 == some .local || scope.names.lookup y.1 == some .cell) = true)
    (hnd : ((cellsFrom 0 scope.names []).map (·.1)).Nodup)
    (h : ∀ g L' h₁ tk cells, s.heap = g → Fr g L' h₁ (bindL (envOfC qual scope L' f cdv).kindOf binds fun _ => none) → News g L' h₁ cells →
      CellsAre (bindC (envOfC qual scope L' f cdv).kindOf binds fun _ => none) (cellsFrom (L' + 1) scope.names []) cells → Below A base (env :: outer) g → K.In g → Top p loose mean mg mb g →
      wpAny (model prog w) (A.deeper (envOfC qual scope L' f cdv)) (execs body (envOfC qual scope L' f cdv))
        (fun fl s' => R (.ok (.ret (match fl with | .ret v => v | _ => .none))) s')
        (fun e s' => wpAny (model prog w) (A.deeper (envOfC qual scope L' f cdv)) (leaving (envOfC qual scope L' f cdv) e) (fun _ s'' => R (.error e) s'') (fun e' s'' => R (.error e') s'') s')
        { s with heap := h₁, toks := tk })
    (hco : scope.isCoroutine = false) (hgen : scope.isGenerator = false) (hk : scope.kind = .function) : codeAny (model prog w) A (.call (.ref f) args) R s := by
  refine codeAny_call_function (fd := fnX name qual params body scope [] dV kV doc pm an cdv ct) hroom ((X₀.keeps F.keep) _ _ ho) rfl hco hgen rfl (codeRec_of (X₀.keeps F.keep) hcd) (hbind _ _ _ _ ?_)
  refine wpAny_newFunctionEnv_cells hk (kindsX hkind _) fun env' he s' x => ?_
  subst he
  refine ⟨(T.nolimit.keeps F.keep).keeps x.toInCall.keep, codeAny_func ?_⟩
  obtain ⟨h₁, tk, rfl, _⟩ := x.done
  obtain ⟨cells, NC, Y⟩ := Cl.news (h₀ := s.heap) (Nat.le_refl _) fun n c hm => ⟨x.cell n c (lookup_of_mem_nodup (cellsFrom_names scope.names 0 (s.heap.objs.size + 1) [] [] rfl ▸ hnd) hm), x.above n c hm⟩
  exact h _ s.heap.objs.size h₁ tk cells rfl ⟨x.toInCall.ns, x.toInCall.keep, Nat.le_refl _⟩ NC Y (below_grown B F hA hf hke) (X₀.keeps F.keep) (T.keeps F.keep)
end

section
variable {M : Model} {A : Around} {E : Value → Shared → Prop} {s : Shared}
theorem wpPos {α : Type} {t : Sem α} {Q : α → Shared → Prop} (h0 : 0 < s.toks) (h : ∀ tk, 0 < tk → wpAny M A t Q E { s with toks := tk }) : wpAny M A t Q E s := h s.toks h0
theorem wpTok {α : Type} {t : Sem α} {Q : α → Shared → Prop} (h : ∀ tk, wpAny M A t Q E { s with toks := tk }) : wpAny M A t Q E s := h s.toks
theorem cutS {st : Stmt} {rest : List Stmt} {env : Env} {Q : Flow → Shared → Prop} (P : Shared → Prop) (h : wpAny M A (exec st env) (fun f s' => f = .next ∧ P s') E s)
    (k : ∀ s', P s' → wpAny M A (execs rest env) Q E s') : wpAny M A (execs (st :: rest) env) Q E s :=
  wpAny_execs_cons (wpAny_mono h (fun f s' hp => by obtain ⟨e, hp⟩ := hp; subst e; exact k s' hp) fun _ _ e => e)
end

end Mine
end
section
open PySem PySem.W PyProof.Rows
namespace Mine
set_option maxRecDepth 100000

/-- each sign c by z's signs -/
noncomputable def sub1 (c : Nat) (z : List Nat) (l : List Nat) : List Nat := l.flatMap fun k => if k = c then z else [k]
theorem sub1_free {c : Nat} {z : List Nat} : ∀ {l : List Nat}, c ∉ l → sub1 c z l = l
  | [], _ => rfl
  | k :: r, h => by
    have h1 : ¬ k = c := fun e => h (e ▸ List.mem_cons_self ..)
    have ih := sub1_free (c := c) (z := z) (l := r) fun m => h (List.mem_cons_of_mem _ m)
    unfold sub1 at ih ⊢
    rw [List.flatMap_cons, ih, if_neg h1]; rfl
theorem sub1_append (c : Nat) (z a b : List Nat) : sub1 c z (a ++ b) = sub1 c z a ++ sub1 c z b := List.flatMap_append
theorem sub1_join (c : Nat) (z : Str) : ∀ parts : List Str, (∀ p ∈ parts, c ∉ p.cps.toList) → sub1 c z.cps.toList (Str.join ⟨#[c]⟩ parts).cps.toList = (Str.join z parts).cps.toList
  | [], _ => rfl
  | [p], h => sub1_free (h p (List.mem_singleton.mpr rfl))
  | p :: q :: r, h => by
    have ih := sub1_join c z (q :: r) fun a ha => h a (List.mem_cons_of_mem _ ha)
    have e1 : ∀ y : Str, Str.join y (p :: q :: r) = p ++ y ++ Str.join y (q :: r) := fun _ => rfl
    rw [e1, e1]
    simp only [Str.cps_append, Array.toList_append]
    rw [sub1_append, sub1_append, ih, sub1_free (h p (List.mem_cons_self ..))]
    have e2 : sub1 c z.cps.toList [c] = z.cps.toList := by simp [sub1]
    rw [e2]
theorem rep_list (x z : Str) (c : Nat) : (Txt.replace x ⟨#[c]⟩ z).cps.toList = sub1 c z.cps.toList x.cps.toList := by
  rw [StrLaws.replace_one, ← sub1_join c z _ (StrLaws.split_free x c), StrLaws.join_split]
theorem sub1_length {c : Nat} {z : List Nat} {b : Nat} (hz : z.length ≤ b) (hb : 1 ≤ b) : ∀ l : List Nat, (sub1 c z l).length ≤ b * l.length
  | [] => by simp [sub1]
  | k :: r => by
    have ih := sub1_length (c := c) hz hb r
    unfold sub1 at ih ⊢
    rw [List.flatMap_cons, List.length_append, List.length_cons, Nat.mul_succ]
    have h1 : (if k = c then z else [k]).length ≤ b := by
      split
      · exact hz
      · exact hb
    omega
theorem rep_length {x z : Str} {c b n : Nat} (hz : z.length ≤ b) (hb : 1 ≤ b) (hx : x.length ≤ n) : (Txt.replace x ⟨#[c]⟩ z).length ≤ b * n := by
  have h := sub1_length (c := c) (z := z.cps.toList) (b := b) (by simpa [Str.length] using hz) hb x.cps.toList
  rw [← rep_list] at h
  have h2 : b * x.cps.toList.length ≤ b * n := Nat.mul_le_mul_left _ (by simpa [Str.length] using hx)
  have e : (Txt.replace x ⟨#[c]⟩ z).length = (Txt.replace x ⟨#[c]⟩ z).cps.toList.length := by simp [Str.length]
  omega
theorem str_ext {a b : Str} (h : a.cps.toList = b.cps.toList) : a = b := Str.ext' (Array.ext' h)
theorem rep_none {x z : Str} {c : Nat} (h : (Builtin.Str.occurrences x ⟨#[c]⟩ 0 x.length 1).isEmpty = true) : Txt.replace x ⟨#[c]⟩ z = x := by
  have h1 := StrLaws.found_one x c
  rw [h] at h1
  have h2 : c ∉ x.cps.toList := by simpa using h1
  exact str_ext (by rw [rep_list, sub1_free h2])
end Mine
end
section
open PySem PySem.W PyProof.Rows PySem.Calls
namespace Mine
set_option maxRecDepth 100000
section
variable {prog : Program} {w : World} {A : Around} {E : Value → Shared → Prop} {s : Shared} {h₀ : Heap} {L : Addr} {m : Str → Option Value} {env : Env}

/-- the source of a block is a text -/
noncomputable def SrcT (prog : Program) (w : World) (A : Around) (h₀ : Heap) (L : Addr) (m : Str → Option Value) (env : Env) (elt : Expr) (x : Str) (scope : Scope) (cl : List (Str × Addr)) (Q : Value → Shared → Prop) (xv : Value) (s₁ : Shared) : Prop :=
  ∃ y t news, xv = .str y t ∧ A.handled = none ∧ Fr h₀ L s₁.heap m ∧ News h₀ L s₁.heap news ∧ y.cps.size ≤ sizeLine ∧
    ∀ g, LCg.CompRest prog w A h₀ L m env elt x scope cl { s₁ with heap := g } (fun _ => True) (SignAt y) (LCg.FinE h₀ L m { s₁ with heap := g } Q) y.cps.size 0 [] news

theorem sign_block {elt iter : Expr} {x : Str} {px : Pos} {scope : Scope} {cl : List (Str × Addr)} {pos : Pos} {Q : Value → Shared → Prop} {y : Str} {t : Tok} {T : String} {news : List (Addr × Obj)} {s₁ : Shared}
    (W : Walks prog w A s₁.heap.objs.size [s₁.heap.objs.size] [s₁.heap.objs.size] y.cps.size (SignAt y) (fun i h => h.IsStrIter s₁.heap.objs.size T y t i))
    (F : Fr h₀ L s₁.heap m) (N : News h₀ L s₁.heap news) (hsz : y.cps.size ≤ sizeLine)
    (hcell : ∀ y ∈ scope.names, y.2 ≠ .cell) (hkind : scope.kind = .function) (hx : scope.names.lookup x = some .local)
    (R : ∀ g, LCg.CompRest prog w A h₀ L m env elt x scope cl { s₁ with heap := g } (fun _ => True) (SignAt y) (LCg.FinE h₀ L m { s₁ with heap := g } Q) y.cps.size 0 [] news) :
    wpAny (model prog w) A (newList []) (fun acc s₃ => wpAny (model prog w) A (newFunctionEnv scope env.globals cl [] env.qual none .none (some env)) (fun cenv s₄ =>
      codeAny (model prog w) A (.compStart (.ListComp elt [⟨.Name x px, iter, [], 0⟩] scope pos) 0 (.ref s₁.heap.objs.size) acc { cenv with scope := relabel scope env })
        (compPost (model prog w) A E none Q acc cenv.locals) s₄) E s₃) E
      { s₁ with heap := s₁.heap.push { cls := .type T, data := .fields #[.str y t, .int 0 0] } } := by
  have up : ∀ b o, s₁.heap.get? b = some o → (s₁.heap.push { cls := .type T, data := .fields #[.str y t, .int 0 0] }).get? b = some o := fun b o e => Heap.get?_push_of_some _ e
  refine LCg.block_U (RR := compPost (model prog w) A E none Q) W hsz (fun i h st => by obtain ⟨o, e, _⟩ := st; exact ⟨o, e⟩) (fun i h h' o nw st e e' _ _ _ => ?_) hcell hkind hx ⟨_, Heap.get?_push_size _ rfl, rfl, rfl⟩ (fun b hb => ?_)
      (F.keeps up) (N.grown up) (Nat.ne_of_lt F.ns.lt) (next_is_new F) (fun p hp => Nat.ne_of_lt (Heap.lt_size (N p hp).1)) trivial (R _) ?_
  · obtain ⟨o', q, r⟩ := st
    rw [e] at q
    cases q
    exact ⟨o, e', r⟩
  · show b < (s₁.heap.push _).objs.size
    rw [Heap.size_push, List.mem_singleton.mp hb]
    exact Nat.lt_succ_self _
  · intro D C h tk m' ys news' F' N' o1 hn hC₀ hD₀ hCL hDL hCD offC fin
    refine ⟨m', hn, fun h'' hs'' => fin D h'' tk (F'.change hs'' hCL hC₀) (fun p hp => ?_) o1⟩
    refine ⟨hs''.extBut _ _ ?_ (N' p hp).1, (N' p hp).2⟩
    rcases List.mem_cons.mp hp with rfl | hp
    · exact Ne.symm hCD
    · exact offC p hp

theorem comp_text {elt iter : Expr} {x : Str} {px : Pos} {scope : Scope} {cl : List (Str × Addr)} {pos : Pos} {Q : Value → Shared → Prop} (_F₀ : Fr h₀ L s.heap m)
    (hclos : closureFor scope env = pure cl) (hcell : ∀ y ∈ scope.names, y.2 ≠ .cell) (hkind : scope.kind = .function)
    (hnames : ∀ y ∈ scope.names, y.2 = .local → scope.names.lookup y.1 = some .local) (hx : scope.names.lookup x = some .local)
    (h : wpAny (model prog w) A (eval iter env) (SrcT prog w A h₀ L m env elt x scope cl Q) E s)
    (hs : ∀ x, foldedSetIterable iter env x = pure x := by intro _; rfl) :
    wpAny (model prog w) A (eval (.ListComp elt [⟨.Name x px, iter, [], 0⟩] scope pos) env) Q E s := by
  rw [eval_ListComp]
  refine wpAny_comprehension_free (use := none) rfl hs hclos hkind hnames (wpAny_mono h (fun xv s₁ h₁ => ?_) fun _ _ e => e)
  obtain ⟨y, t, news, rfl, hh, F, N, hsz, R⟩ := h₁
  cases ha : y.cps.all (· < 128)
  · refine wpAny_pyIter_wide ha ?_
    have := sign_block (pos := pos) (iter := iter) (px := px) (E := E) (T := "str_iterator") (Walks.strWide hh _ y t) F N hsz hcell hkind hx R
    exact this
  · refine wpAny_pyIter_ascii ha ?_
    have := sign_block (pos := pos) (iter := iter) (px := px) (E := E) (T := "str_ascii_iterator") (Walks.strAscii hh _ y t) F N hsz hcell hkind hx R
    exact this

/-- a block whose turns lay nothing onto the ledger -/
theorem rest_same {elt : Expr} {x : Str} {scope : Scope} {cl : List (Str × Addr)} {S : List (Addr × Obj) → Prop} {P : Nat → Value → Prop} {Fin : List Value → List (Addr × Obj) → Prop} {news : List (Addr × Obj)} {n : Nat} (Y : Nat → Value → Prop)
    (turn : ∀ i v ys I oI C oC D m₂ h tk (E' : Value → Shared → Prop), i < n → ys.length = i → P i v → LCg.NsObj oC m₂ → m₂ x = some v → Fr h₀ L h m → News h₀ L h ((I, oI) :: (C, oC) :: (D, LCg.lst ys) :: news) → LCg.Off3 I C D news → ((@Ne Nat I C) ∧ (@Ne Nat I D) ∧ (@Ne Nat C D)) →
      wpAny (model prog w) A (eval elt (compEnvC scope cl C env)) (LCg.CompEnd h₀ L m { s with heap := h, toks := tk } I oI C oC D (LCg.lst ys) S (fun y news' => news' = news ∧ Y i y)) E' { s with heap := h, toks := tk })
    (fin : ∀ ys, ys.length = n → (∀ i v, ys[i]? = some v → Y i v) → Fin ys news) : LCg.CompRest prog w A h₀ L m env elt x scope cl s S P Fin n 0 [] news := by
  have key : ∀ (j i : Nat) (ys : List Value), i + j = n → ys.length = i → (∀ k v, ys[k]? = some v → Y k v) → LCg.CompRest prog w A h₀ L m env elt x scope cl s S P Fin j i ys news := by
    intro j
    induction j with
    | zero => exact fun i ys hi hl hy => LCg.CompRest.zero (fin ys (by omega) hy)
    | succ j ih =>
      intro i ys hi hl hy
      refine LCg.CompRest.succ ?_
      intro v I oI C oC D m₂ h tk E' hv hC hx F N off ne
      refine wpAny_mono (turn i v ys I oI C oC D m₂ h tk E' (by omega) hl hv hC hx F N off ne) (fun y s₂ hq => ?_) fun _ _ e => e
      obtain ⟨h', tk', nw, e, F', N', off', hS, hn, hy'⟩ := hq
      subst hn
      refine ⟨h', tk', nw, e, F', N', off', hS, ih (i + 1) _ (by omega) (by simp [hl]) fun k v' hk => ?_⟩
      by_cases hlt : k < ys.length
      · rw [List.getElem?_append_left hlt] at hk
        exact hy k v' hk
      · rw [List.getElem?_append_right (by omega)] at hk
        have hk0 : k - ys.length = 0 := by
          cases hq : k - ys.length with
          | zero => rfl
          | succ q => rw [hq] at hk; simp at hk
        rw [hk0] at hk
        simp at hk
        have : k = i := by omega
        subst this
        exact hk ▸ hy'
  exact key n 0 [] (by omega) rfl (fun k v hk => by simp at hk)
/-- a block by an invariant over what is made and the ledger -/
theorem rest_inv {elt : Expr} {x : Str} {scope : Scope} {cl : List (Str × Addr)} {S : List (Addr × Obj) → Prop} {P : Nat → Value → Prop} {Fin : List Value → List (Addr × Obj) → Prop} {news₀ : List (Addr × Obj)} {n : Nat} (Inv : Nat → List Value → List (Addr × Obj) → Prop)
    (turn : ∀ i v ys news I oI C oC D m₂ h tk (E' : Value → Shared → Prop), i < n → Inv i ys news → P i v → LCg.NsObj oC m₂ → m₂ x = some v → Fr h₀ L h m → News h₀ L h ((I, oI) :: (C, oC) :: (D, LCg.lst ys) :: news) → LCg.Off3 I C D news → ((@Ne Nat I C) ∧ (@Ne Nat I D) ∧ (@Ne Nat C D)) →
      wpAny (model prog w) A (eval elt (compEnvC scope cl C env)) (LCg.CompEnd h₀ L m { s with heap := h, toks := tk } I oI C oC D (LCg.lst ys) S (fun y news' => Inv (i + 1) (ys ++ [y]) news')) E' { s with heap := h, toks := tk })
    (h0 : Inv 0 [] news₀) (fin : ∀ ys news, Inv n ys news → Fin ys news) : LCg.CompRest prog w A h₀ L m env elt x scope cl s S P Fin n 0 [] news₀ := by
  have key : ∀ (j i : Nat) (ys : List Value) (news : List (Addr × Obj)), i + j = n → Inv i ys news → LCg.CompRest prog w A h₀ L m env elt x scope cl s S P Fin j i ys news := by
    intro j
    induction j with
    | zero => exact fun i ys news hi hy => LCg.CompRest.zero (fin ys news (by have : i = n := by omega
                                                                              exact this ▸ hy))
    | succ j ih =>
      intro i ys news hi hy
      refine LCg.CompRest.succ ?_
      intro v I oI C oC D m₂ h tk E' hv hC hx F N off ne
      refine wpAny_mono (turn i v ys news I oI C oC D m₂ h tk E' (by omega) hy hv hC hx F N off ne) (fun y s₂ hq => ?_) fun _ _ e => e
      obtain ⟨h', tk', nw, e, F', N', off', hS, hy'⟩ := hq
      exact ⟨h', tk', nw, e, F', N', off', hS, ih (i + 1) _ nw (by omega) hy'⟩
  exact key n 0 [] news₀ (by omega) h0
end
end Mine
end
section
open PySem PySem.Sre
namespace Mine
set_option maxRecDepth 100000
noncomputable def code1 : Array Nat := #[14, 4, 0, 1, 1, 6, 1, 16, 46, 1]
/-- the machine as it stands ready at a place -/
noncomputable def at1 (text : Array Nat) (s h : Nat) (first mu : Bool) (seen : Seen) : M :=
  { code := code1, text, lim := text.size, start := s, lastStart := text.size, wholeText := false, mustAdvance := mu, pc := 5, pos := s, handed := h, outermost := first, marks := #[], lastmark := -1, lastindex := -1, loops := #[], inner := none,
    frames := [{ wait := .nextStart, pc := 5, pos := s, outermost := first }], weight := 1, answer := none, seen, outcome := none }
noncomputable def lineAt (text : Array Nat) (s : Nat) : Bool := s == 0 || text.getD (s - 1) 0 == 10
theorem run_add (a b : Nat) (m : M) : M.runFor (a + b) m = M.runFor b (M.runFor a m) := by
  induction a generalizing m with
  | zero => rw [Nat.zero_add]; rfl
  | succ a ih =>
    rw [Nat.succ_add]
    show (if m.outcome.isSome then m else M.runFor (a + b) m.step) = M.runFor b (if m.outcome.isSome then m else M.runFor a m.step)
    by_cases h : m.outcome.isSome = true
    · rw [if_pos h, if_pos h]
      cases b with
      | zero => rfl
      | succ b => show m = if m.outcome.isSome then m else _; rw [if_pos h]
    · rw [if_neg h, if_neg h, ih]
noncomputable def m1 (text : Array Nat) (s : Nat) (mu : Bool) : M :=
  { code := code1, text, lim := text.size, start := s, pc := 5, pos := s, handed := s, marks := #[], mustAdvance := mu, seen := ({} : Seen).add 14 }
theorem search1 (text : Array Nat) (s : Nat) (mu : Bool) : forSearch code1 text 0 s text.size mu =
    (if (decide (s > text.size) || decide (text.size - s < 1)) = true then (m1 text s mu).say false else { m1 text s mu with lastStart := text.size }.attemptFrom s true) := by rfl
theorem start1 (text : Array Nat) (s : Nat) (mu : Bool) (hs : s < text.size) : forSearch code1 text 0 s text.size mu = at1 text s s true mu (({} : Seen).add 14) := by
  have h1 : (decide (s > text.size) || decide (text.size - s < 1)) = false := by
    rw [decide_eq_false (by omega), decide_eq_false (by omega)]; rfl
  rw [search1, h1, if_neg Bool.false_ne_true]
  rfl
theorem end1 (text : Array Nat) (s : Nat) (mu : Bool) (hs : ¬ s < text.size) : (M.runFor 1 (forSearch code1 text 0 s text.size mu)).outcome = some .failed := by
  have h1 : (decide (s > text.size) || decide (text.size - s < 1)) = true := by
    rw [decide_eq_true (show text.size - s < 1 by omega), Bool.or_true]
  rw [search1, h1, if_pos rfl]
  rfl
theorem no1 (text : Array Nat) (s h : Nat) (first mu : Bool) (seen : Seen) (hl0 : s ≠ 0) (hl : text[s - 1]?.getD 0 ≠ 10) (hs : s < text.size) :
    M.runFor 2 (at1 text s h first mu seen) = at1 text (s + 1) (s + 1) false false ((seen.add 6).add 44) := by
  simp [M.runFor, at1, code1, M.step, M.exec, M.word, M.isAt, ops, hl, hl0, M.say, M.resume, M.putBack, hs, M.attemptFrom, M.hasFirstSet, M.attemptAt, M.attempt]
theorem no1b (text : Array Nat) (s h : Nat) (first mu : Bool) (seen : Seen) (hl : s = 0 ∨ text[s - 1]?.getD 0 = 10) (hs : s < text.size) (hc : (text[s] == 46) = false) :
    M.runFor 3 (at1 text s h first mu seen) = at1 text (s + 1) (s + 1) false false (((seen.add 6).add 44).add 16) := by
  have hs' : ¬ text.size ≤ s := by omega
  simp [M.runFor, at1, code1, M.step, M.exec, M.word, M.isAt, ops, hl, hs', accepts, hc, M.say, M.resume, M.putBack, hs, M.attemptFrom, M.hasFirstSet, M.attemptAt, M.attempt]
theorem yes1 (text : Array Nat) (s h : Nat) (first mu : Bool) (seen : Seen) (hl : s = 0 ∨ text[s - 1]?.getD 0 = 10) (hs : s < text.size) (hc : (text[s]?.getD 0 == 46) = true) :
    M.runFor 5 (at1 text s h first mu seen) = { at1 text s (s + 1) first mu ((((seen.add 6).add 44).add 16).add 1) with frames := [], weight := 0, answer := some true, outcome := some .matched } := by
  have hs' : ¬ text.size ≤ s := by omega
  have hw : itemWidth #[14, 4, 0, 1, 1, 6, 1, 16, 46, 1] 7 = 2 := by decide
  simp [M.runFor, at1, code1, M.step, M.exec, M.word, M.isAt, ops, hl, hs', accepts, hc, M.say, M.resume, hw]
theorem over1a (text : Array Nat) (s h : Nat) (first mu : Bool) (seen : Seen) (h1 : text.size ≤ s) (h2 : ¬ s < text.size) (hl : s = 0 ∨ text[s - 1]?.getD 0 = 10) :
    (M.runFor 4 (at1 text s h first mu seen)).outcome = some .failed := by
  simp [M.runFor, at1, code1, M.step, M.exec, M.word, M.isAt, ops, hl, M.say, M.resume, h1, h2]
theorem over1b (text : Array Nat) (s h : Nat) (first mu : Bool) (seen : Seen) (h2 : ¬ s < text.size) (hl0 : s ≠ 0) (hl : text[s - 1]?.getD 0 ≠ 10) :
    (M.runFor 3 (at1 text s h first mu seen)).outcome = some .failed := by
  simp [M.runFor, at1, code1, M.step, M.exec, M.word, M.isAt, ops, hl, hl0, M.say, M.resume, h2]

/-- the first place from s on that hits, or none -/
noncomputable def Next (hit : Nat → Prop) (size s : Nat) : Option Nat → Prop
  | some p => s ≤ p ∧ p < size ∧ hit p ∧ ∀ q, s ≤ q → q < p → ¬ hit q
  | none => ∀ q, s ≤ q → q < size → ¬ hit q
theorem Next.skip {hit : Nat → Prop} {size s : Nat} (h : ¬ hit s) : ∀ {r : Option Nat}, Next hit size (s + 1) r → Next hit size s r
  | some p, ⟨h1, h2, h3, h4⟩ => ⟨by omega, h2, h3, fun q a b => if e : q = s then e ▸ h else h4 q (by omega) b⟩
  | none, h1 => fun q a b => if e : q = s then e ▸ h else h1 q (by omega) b
/-- what a search leaves -/
noncomputable def Leaves (m : M) (w : Nat → Nat) : Option Nat → Prop
  | some p => m.outcome = some .matched ∧ m.start = p ∧ m.handed = p + w p
  | none => m.outcome = some .failed
noncomputable def hit1 (text : Array Nat) (p : Nat) : Prop := (p = 0 ∨ text[p - 1]?.getD 0 = 10) ∧ text[p]?.getD 0 = 46
theorem find1 (text : Array Nat) : ∀ (d s h : Nat) (first mu : Bool) (seen : Seen), text.size - s = d → s ≤ text.size →
    ∃ n r, n ≤ 3 * d + 5 ∧ Next (hit1 text) text.size s r ∧ Leaves (M.runFor n (at1 text s h first mu seen)) (fun _ => 1) r := by
  intro d
  induction d with
  | zero =>
    intro s h first mu seen hd hs
    by_cases hl : s = 0 ∨ text[s - 1]?.getD 0 = 10
    · exact ⟨4, none, by omega, fun q a b => by omega, over1a text s h first mu seen (by omega) (by omega) hl⟩
    · rw [not_or] at hl
      exact ⟨3, none, by omega, fun q a b => by omega, over1b text s h first mu seen (by omega) hl.1 hl.2⟩
  | succ d ih =>
    intro s h first mu seen hd hs
    have hlt : s < text.size := by omega
    by_cases hl : s = 0 ∨ text[s - 1]?.getD 0 = 10
    · cases hc : (text[s]?.getD 0 == 46)
      · have hc' : (text[s] == 46) = false := by simpa [hlt] using hc
        obtain ⟨n, r, hn, hN, hL⟩ := ih (s + 1) (s + 1) false false (((seen.add 6).add 44).add 16) (by omega) (by omega)
        refine ⟨3 + n, r, by omega, hN.skip (fun x => by simp [x.2] at hc), ?_⟩
        rw [run_add, no1b text s h first mu seen hl hlt hc']
        exact hL
      · refine ⟨5, some s, by omega, ⟨Nat.le_refl _, hlt, ⟨hl, by simpa using hc⟩, fun q a b => by omega⟩, ?_⟩
        rw [yes1 text s h first mu seen hl hlt hc]
        exact ⟨rfl, rfl, rfl⟩
    · rw [not_or] at hl
      obtain ⟨n, r, hn, hN, hL⟩ := ih (s + 1) (s + 1) false false ((seen.add 6).add 44) (by omega) (by omega)
      refine ⟨2 + n, r, by omega, hN.skip (fun x => x.1.elim hl.1 hl.2), ?_⟩
      rw [run_add, no1 text s h first mu seen hl.1 hl.2 hlt]
      exact hL
theorem srch1 (text : Array Nat) (s : Nat) (mu : Bool) (hs : s ≤ text.size) :
    ∃ n r, n ≤ 3 * text.size + 5 ∧ Next (hit1 text) text.size s r ∧ Leaves (M.runFor n (forSearch code1 text 0 s text.size mu)) (fun _ => 1) r := by
  by_cases hlt : s < text.size
  · rw [start1 text s mu hlt]
    obtain ⟨n, r, hn, hN, hL⟩ := find1 text (text.size - s) s s true mu (({} : Seen).add 14) rfl hs
    exact ⟨n, r, by omega, hN, hL⟩
  · exact ⟨1, none, by omega, fun q a b => by omega, end1 text s mu hlt⟩

/- the second pattern -/
noncomputable def code2 : Array Nat := #[14, 9, 4, 1, 2, 16, 10, 16, 13, 0, 7, 7, 16, 13, 16, 10, 15, 18, 5, 16, 10, 15, 13, 11, 16, 13, 5, 5, 0, 16, 10, 1, 15, 2, 0, 1]
noncomputable def at2 (text : Array Nat) (s h : Nat) (seen : Seen) : M :=
  { code := code2, text, lim := text.size, start := s, lastStart := text.size, wholeText := false, mustAdvance := false, pc := 10, pos := s, handed := h, outermost := true, marks := #[], lastmark := -1, lastindex := -1, loops := #[], inner := none,
    frames := [{ wait := .nextStart, pc := 10, pos := s, outermost := true }], weight := 1, answer := none, seen, outcome := none }
noncomputable def m2 (text : Array Nat) (s : Nat) (mu : Bool) (seen : Seen) : M :=
  { code := code2, text, lim := text.size, start := s, pc := 10, pos := s, handed := s, marks := #[], mustAdvance := mu, seen }
theorem search2 (text : Array Nat) (s : Nat) (mu : Bool) : forSearch code2 text 0 s text.size mu =
    (if (decide (s > text.size) || decide (text.size - s < 1)) = true then (m2 text s mu (({} : Seen).add 14)).say false else { m2 text s mu (({} : Seen).add 14) with lastStart := text.size }.attemptFrom s true) := by rfl
theorem end2 (text : Array Nat) (s : Nat) (mu : Bool) (hs : ¬ s < text.size) : (M.runFor 1 (forSearch code2 text 0 s text.size mu)).outcome = some .failed := by
  have h1 : (decide (s > text.size) || decide (text.size - s < 1)) = true := by
    rw [decide_eq_true (show text.size - s < 1 by omega), Bool.or_true]
  rw [search2, h1, if_pos rfl]
  rfl
theorem start2 (text : Array Nat) (s : Nat) (mu : Bool) (hs : s < text.size) : forSearch code2 text 0 s text.size mu = { m2 text s mu (({} : Seen).add 14) with lastStart := text.size }.attemptFrom s true := by
  have h1 : (decide (s > text.size) || decide (text.size - s < 1)) = false := by
    rw [decide_eq_false (by omega), decide_eq_false (by omega)]; rfl
  rw [search2, h1, if_neg Bool.false_ne_true]
theorem inset2 (c : Nat) (seen : Seen) : ∃ seen', inSet code2 c code2.size 5 true seen = .ok (c == 10 || c == 13, seen') := by
  have e : code2.size = 36 := by decide
  rw [e]
  cases h1 : (c == 10)
  · cases h2 : (c == 13)
    · exact ⟨((seen.add 16).add 16).add 0, by simp [inSet, code2, ops, h1, h2]⟩
    · exact ⟨(seen.add 16).add 16, by simp [inSet, code2, ops, h1, h2]⟩
  · exact ⟨seen.add 16, by simp [inSet, code2, ops, h1]⟩
noncomputable def hit2 (text : Array Nat) (p : Nat) : Prop := text[p]?.getD 0 = 10 ∨ text[p]?.getD 0 = 13
theorem admit2 (m : M) (hm : m.code = code2) (hl : m.lim = m.text.size) : ∀ (fuel s : Nat) (seen : Seen), m.text.size + 1 - s = fuel → s ≤ m.text.size →
    ∃ r seen', M.admitted m fuel s seen = .ok (r, seen') ∧ Next (hit2 m.text) m.text.size s r := by
  intro fuel
  induction fuel with
  | zero => intro s seen hf hs; omega
  | succ fuel ih =>
    intro s seen hf hs
    unfold M.admitted
    by_cases hge : s ≥ m.lim
    · rw [if_pos hge]
      exact ⟨none, seen, rfl, fun q a b => by omega⟩
    · rw [if_neg hge, hm]
      obtain ⟨seen', he⟩ := inset2 (m.text.getD s 0) seen
      rw [he]
      have hg : m.text.getD s 0 = m.text[s]?.getD 0 := by simp
      cases hb : (m.text.getD s 0 == 10 || m.text.getD s 0 == 13)
      · obtain ⟨r, s2, e2, hN⟩ := ih (s + 1) seen' (by omega) (by omega)
        refine ⟨r, s2, ?_, hN.skip fun x => ?_⟩
        · dsimp only
          exact e2
        · rw [hg] at hb
          rcases x with x | x <;> rw [x] at hb <;> simp at hb
      · refine ⟨some s, seen', rfl, Nat.le_refl _, by omega, ?_, fun q a b => by omega⟩
        rw [hg] at hb
        unfold hit2
        simpa using hb
noncomputable def w2 (text : Array Nat) (p : Nat) : Nat := if text[p]?.getD 0 = 13 ∧ p + 1 < text.size ∧ text[p + 1]?.getD 0 = 10 then 2 else 1
theorem jump2 : itemWidth code2 12 = 2 ∧ itemWidth code2 14 = 2 ∧ itemWidth code2 19 = 2 ∧ itemWidth code2 24 = 2 ∧ itemWidth code2 29 = 2 := by decide
theorem run10 (text : Array Nat) (s h : Nat) (seen : Seen) (hs : s < text.size) (h1 : (text[s]?.getD 0 == 13) = false) (h2 : (text[s]?.getD 0 == 10) = true) :
    M.runFor 9 (at2 text s h seen) = { at2 text s (s + 1) (((((seen.add 7).add 16).add 16).add 15).add 1) with frames := [], weight := 0, answer := some true, outcome := some .matched } := by
  have hs' : ¬ text.size ≤ s := by omega
  have hw : itemWidth #[14, 9, 4, 1, 2, 16, 10, 16, 13, 0, 7, 7, 16, 13, 16, 10, 15, 18, 5, 16, 10, 15, 13, 11, 16, 13, 5, 5, 0, 16, 10, 1, 15, 2, 0, 1] 19 = 2 := by decide
  simp [M.runFor, at2, code2, M.step, M.exec, M.word, ops, h1, h2, hs', accepts, M.say, M.resume, hw, M.alternative, M.attempt, M.frame, M.keep, M.putBack]
theorem run13a (text : Array Nat) (s h : Nat) (seen : Seen) (hs : s + 1 < text.size) (h1 : (text[s]?.getD 0 == 13) = true) (h2 : (text[s + 1]?.getD 0 == 10) = true) :
    M.runFor 8 (at2 text s h seen) = { at2 text s (s + 2) (((((seen.add 7).add 16).add 16).add 15).add 1) with frames := [], weight := 0, answer := some true, outcome := some .matched } := by
  have hs' : ¬ text.size ≤ s := by omega
  have hs2 : ¬ text.size ≤ s + 1 := by omega
  have hw : itemWidth #[14, 9, 4, 1, 2, 16, 10, 16, 13, 0, 7, 7, 16, 13, 16, 10, 15, 18, 5, 16, 10, 15, 13, 11, 16, 13, 5, 5, 0, 16, 10, 1, 15, 2, 0, 1] 12 = 2 := by decide
  have hw2 : itemWidth #[14, 9, 4, 1, 2, 16, 10, 16, 13, 0, 7, 7, 16, 13, 16, 10, 15, 18, 5, 16, 10, 15, 13, 11, 16, 13, 5, 5, 0, 16, 10, 1, 15, 2, 0, 1] 14 = 2 := by decide
  simp [M.runFor, at2, code2, M.step, M.exec, M.word, ops, h1, h2, hs', hs2, accepts, M.say, M.resume, hw, hw2, M.alternative, M.attempt, M.frame, M.keep, M.putBack]
theorem run13b (text : Array Nat) (s h : Nat) (seen : Seen) (hs : s < text.size) (hs2 : ¬ text.size ≤ s + 1) (h1 : (text[s]?.getD 0 == 13) = true) (h2 : (text[s + 1]?.getD 0 == 10) = false) (h3 : (text[s]?.getD 0 == 10) = false) :
    M.runFor 15 (at2 text s h seen) = { at2 text s (s + 1) (((((((((seen.add 7).add 16).add 16).add 16).add 16).add 5).add 16).add 15).add 1) with frames := [], weight := 0, answer := some true, outcome := some .matched } := by
  have hs' : ¬ text.size ≤ s := by omega
  have hw : itemWidth #[14, 9, 4, 1, 2, 16, 10, 16, 13, 0, 7, 7, 16, 13, 16, 10, 15, 18, 5, 16, 10, 15, 13, 11, 16, 13, 5, 5, 0, 16, 10, 1, 15, 2, 0, 1] 12 = 2 := by decide
  have hw2 : itemWidth #[14, 9, 4, 1, 2, 16, 10, 16, 13, 0, 7, 7, 16, 13, 16, 10, 15, 18, 5, 16, 10, 15, 13, 11, 16, 13, 5, 5, 0, 16, 10, 1, 15, 2, 0, 1] 24 = 2 := by decide
  simp [M.runFor, at2, code2, M.step, M.exec, M.word, ops, h1, h2, h3, hs', hs2, accepts, M.say, M.resume, hw, hw2, M.alternative, M.attempt, M.frame, M.keep, M.putBack]
theorem run13c (text : Array Nat) (s h : Nat) (seen : Seen) (hs : s < text.size) (hs2 : text.size ≤ s + 1) (h1 : (text[s]?.getD 0 == 13) = true) (h3 : (text[s]?.getD 0 == 10) = false) :
    M.runFor 15 (at2 text s h seen) = { at2 text s (s + 1) (((((((((seen.add 7).add 16).add 16).add 16).add 16).add 5).add 16).add 15).add 1) with frames := [], weight := 0, answer := some true, outcome := some .matched } := by
  have hs' : ¬ text.size ≤ s := by omega
  have hw : itemWidth #[14, 9, 4, 1, 2, 16, 10, 16, 13, 0, 7, 7, 16, 13, 16, 10, 15, 18, 5, 16, 10, 15, 13, 11, 16, 13, 5, 5, 0, 16, 10, 1, 15, 2, 0, 1] 12 = 2 := by decide
  have hw2 : itemWidth #[14, 9, 4, 1, 2, 16, 10, 16, 13, 0, 7, 7, 16, 13, 16, 10, 15, 18, 5, 16, 10, 15, 13, 11, 16, 13, 5, 5, 0, 16, 10, 1, 15, 2, 0, 1] 24 = 2 := by decide
  simp [M.runFor, at2, code2, M.step, M.exec, M.word, ops, h1, h3, hs', hs2, accepts, M.say, M.resume, hw, hw2, M.alternative, M.attempt, M.frame, M.keep, M.putBack]
theorem run2 (text : Array Nat) (s h : Nat) (seen : Seen) (hs : s < text.size) (hh : hit2 text s) : ∃ n, n ≤ 15 ∧ Leaves (M.runFor n (at2 text s h seen)) (w2 text) (some s) := by
  by_cases h10 : text[s]?.getD 0 = 10
  · refine ⟨9, by omega, ?_⟩
    rw [run10 text s h seen hs (by rw [h10]; rfl) (by rw [h10]; rfl)]
    have hw : w2 text s = 1 := by unfold w2; rw [h10]; simp
    exact ⟨rfl, rfl, by rw [hw]; rfl⟩
  have h13 : text[s]?.getD 0 = 13 := hh.resolve_left h10
  have hne : (text[s]?.getD 0 == 10) = false := by rw [h13]; rfl
  by_cases hb : text.size ≤ s + 1
  · refine ⟨15, by omega, ?_⟩
    rw [run13c text s h seen hs hb (by rw [h13]; rfl) hne]
    have hw : w2 text s = 1 := by unfold w2; rw [if_neg (by omega)]
    exact ⟨rfl, rfl, by rw [hw]; rfl⟩
  cases hn : (text[s + 1]?.getD 0 == 10)
  · refine ⟨15, by omega, ?_⟩
    rw [run13b text s h seen hs hb (by rw [h13]; rfl) hn hne]
    have hw : w2 text s = 1 := by
      unfold w2
      rw [if_neg]
      rintro ⟨_, _, x⟩
      rw [x] at hn
      cases hn
    exact ⟨rfl, rfl, by rw [hw]; rfl⟩
  · refine ⟨8, by omega, ?_⟩
    rw [run13a text s h seen (by omega) (by rw [h13]; rfl) hn]
    have hw : w2 text s = 2 := by
      unfold w2
      rw [if_pos ⟨h13, by omega, by simpa using hn⟩]
    exact ⟨rfl, rfl, by rw [hw]; rfl⟩
theorem srch2 (text : Array Nat) (s : Nat) (mu : Bool) (hs : s ≤ text.size) :
    ∃ n r, n ≤ 15 ∧ Next (hit2 text) text.size s r ∧ Leaves (M.runFor n (forSearch code2 text 0 s text.size mu)) (w2 text) r := by
  by_cases hlt : s < text.size
  · rw [start2 text s mu hlt]
    obtain ⟨r, seen', he, hN⟩ := admit2 { m2 text s mu (({} : Seen).add 14) with lastStart := text.size } rfl rfl (text.size + 1 - s) s (({} : Seen).add 14) rfl hs
    have hf : ({ m2 text s mu (({} : Seen).add 14) with lastStart := text.size } : M).hasFirstSet = true := by rfl
    have hA : ({ m2 text s mu (({} : Seen).add 14) with lastStart := text.size } : M).attemptFrom s true = (match (Except.ok (r, seen') : Except String (Option Nat × Seen)) with
        | .ok (some p, seen) => ({ m2 text s mu seen with lastStart := text.size, mustAdvance := false } : M).attemptAt p true
        | .ok (none, seen) => ({ m2 text s mu seen with lastStart := text.size } : M).say false
        | .error why => ({ m2 text s mu (({} : Seen).add 14) with lastStart := text.size } : M).stick why) := by
      rw [← he]
      unfold M.attemptFrom
      rw [hf]
      rfl
    rw [hA]
    cases r with
    | none => exact ⟨1, none, by omega, hN, rfl⟩
    | some p =>
      obtain ⟨n, hn, hL⟩ := run2 text p p seen' hN.2.1 hN.2.2.1
      refine ⟨n, some p, hn, hN, ?_⟩
      have e : ({ m2 text s mu seen' with lastStart := text.size, mustAdvance := false } : M).attemptAt p true = at2 text p p seen' := rfl
      show Leaves (M.runFor n (({ m2 text s mu seen' with lastStart := text.size, mustAdvance := false } : M).attemptAt p true)) _ _
      rw [e]
      exact hL
  · exact ⟨1, none, by omega, fun q a b => by omega, end2 text s mu hlt⟩
end Mine
end
section
open PySem PySem.W PyProof.Rows PySem.Calls PySem.Builtin PySem.Builtin.Re PySem.Flt
namespace Mine
set_option maxRecDepth 100000
section
variable {M : Model} {A : Around} {E : Value → Shared → Prop} {s : Shared}
theorem drive {Q : Sre.M → Shared → Prop} : ∀ (T n : Nat) (m : Sre.M), n < 4 * T → (Sre.M.runFor n m).outcome.isSome = true → Q (Sre.M.runFor n m) s → wpAny M A (reDrive T m) Q E s := by
  intro T
  induction T with
  | zero => intro n m h; omega
  | succ T ih =>
    intro n m hn ho hQ
    show wpAny M A (if (m.runFor reTurnSteps).outcome.isSome then pure (m.runFor reTurnSteps) else (rule "sre.turn" >>= fun _ => reDrive T (m.runFor reTurnSteps))) Q E s
    have e4 : reTurnSteps = 4 := rfl
    rw [e4]
    by_cases h4 : (m.runFor 4).outcome.isSome = true
    · rw [if_pos h4]
      have stable : ∀ (k : Nat) (x : Sre.M), x.outcome.isSome = true → Sre.M.runFor k x = x := by
        intro k x hx
        cases k with
        | zero => rfl
        | succ k => show (if x.outcome.isSome then x else _) = x; rw [if_pos hx]
      have e : Sre.M.runFor n m = Sre.M.runFor 4 m := by
        by_cases hle : n ≤ 4
        · have : n + (4 - n) = 4 := by omega
          rw [← this, run_add, stable _ _ ho]
        · have : 4 + (n - 4) = n := by omega
          rw [← this, run_add, stable _ _ h4]
      exact wpAny_pure (e ▸ hQ)
    · rw [if_neg h4]
      by_cases hle : n ≤ 4
      · exfalso
        apply h4
        have e : n + (4 - n) = 4 := by omega
        rw [← e, run_add]
        cases hk : 4 - n with
        | zero => exact ho
        | succ k => show (if (Sre.M.runFor n m).outcome.isSome then Sre.M.runFor n m else _).outcome.isSome = true; rw [if_pos ho]; exact ho
      · have e : 4 + (n - 4) = n := by omega
        refine wpAny_bind (wpAny_rule (ih (n - 4) _ (by omega) ?_ ?_))
        · rw [← run_add, e]; exact ho
        · rw [← run_add, e]; exact hQ
theorem rules_loop {α : Type} {f : α → PUnit → Sem (ForInStep PUnit)} {Q : PUnit → Shared → Prop} (hf : ∀ a, wpAny M A (f a ⟨⟩) (fun r s' => r = .yield ⟨⟩ ∧ s' = s) E s) (hQ : Q ⟨⟩ s) : ∀ l : List α, wpAny M A (forIn l ⟨⟩ f) Q E s
  | [] => by rw [List.forIn_nil]; exact wpAny_pure hQ
  | a :: r => by
    rw [List.forIn_cons]
    refine wpAny_bind (wpAny_mono (hf a) (fun x s' h => ?_) fun _ _ e => e)
    rw [h.1, h.2]
    exact rules_loop hf hQ r
theorem runEnd {Q : Option Sre.M → Shared → Prop} {n : Nat} {m : Sre.M} (hn : n < 4 * 2 ^ 64) (h : ((Sre.M.runFor n m).outcome = some .matched ∧ Q (some (Sre.M.runFor n m)) s) ∨ ((Sre.M.runFor n m).outcome = some .failed ∧ Q none s)) : wpAny M A (reRunToEnd m) Q E s := by
  show wpAny M A (reDrive (2 ^ 64) m >>= _) Q E s
  refine wpAny_bind (drive (2 ^ 64) n m hn (by rcases h with h | h <;> rw [h.1] <;> rfl) ?_)
  refine wpAny_bind (rules_loop (fun i => ?_) ?_ _)
  · refine wpAny_ite ?_
    split
    · exact wpAny_bind (wpAny_rule (wpAny_pure ⟨rfl, rfl⟩))
    · exact wpAny_pure ⟨rfl, rfl⟩
  · rcases h with h | h <;> rw [h.1] <;> exact wpAny_pure h.2
end

section
variable {M : Model} {A : Around} {E : Value → Shared → Prop} {s : Shared}
theorem target {a : Addr} {x : Str} {t : Tok} {r : PatRec} {Q : ReTarget → Shared → Prop} (hp : IsPattern s.heap a r) (hk : r.kind = 0)
    (h : Q ⟨.ref a, .str x t, r.code.toArray, x.cps, 0, r.groups, 0, x.cps.size⟩ s) : wpAny M A (reWholeTarget (.ref a) (.str x t)) Q E s := by
  obtain ⟨fs, T, ws, n, h1, h2, h3, h4, h5, h6⟩ := hp
  show wpAny M A (fieldsOf (.ref a) >>= _) Q E s
  refine wpAny_bind (?_ : wpAny M A (fieldsOf (.ref a)) _ E s)
  refine wpAny_bind (wpAny_load h1 (wpAny_pure ?_))
  refine wpAny_bind (?_ : wpAny M A (reTextOf (.str x t)) _ E s)
  refine wpAny_bind (wpAny_pure (wpAny_pure ?_))
  dsimp only
  rw [h4, hk]
  refine wpAny_bind (wpAny_pure ?_ : wpAny M A (pure PUnit.unit) _ E s)
  refine wpAny_bind (?_ : wpAny M A (reRawItems (fs.getD 5 .none)) _ E s)
  rw [h2]
  refine wpAny_bind (wpAny_seqItems h5 rfl (wpAny_pure (wpAny_pure ?_)))
  have e : Array.map (fun x => x.toNat) (Array.map reRawOf ((some ws).getD #[])) = r.code.toArray := by
    rw [← h6]; rfl
  rw [h3, e]
  exact h
end

theorem plain_sub_loop : plainId "re.Pattern.sub.loop" = true := by decide +kernel
theorem entry_sub_loop : entryFor table "re.Pattern.sub.loop" = some Builtin.«re.Pattern.sub.loop» := entryFor_of_fast (by kernel_rfl)
theorem plain_sub : plainId "re.Pattern.sub" = true := by decide +kernel
theorem entry_sub : entryFor table "re.Pattern.sub" = some Builtin.«re.Pattern.sub» := entryFor_of_fast (by kernel_rfl)
section
variable {prog : Program} {w : World} {A : Around} {R : Result → Shared → Prop}
/-- a search of the pattern that r tells, in the text x -/
noncomputable def Searches (r : PatRec) (x : Str) (hit : Nat → Prop) (wd : Nat → Nat) : Prop :=
  ∀ (s : Nat) (mu : Bool), s ≤ x.cps.size → ∃ n o, n < 4 * 2 ^ 64 ∧ Next hit x.cps.size s o ∧ Leaves (Sre.M.runFor n (Sre.forSearch r.code.toArray x.cps r.groups s x.cps.size mu)) wd o
theorem strs_push {z : Str} {u : Tok} : ∀ {vs : List Value} {ys : List Str}, StrsAre vs ys → StrsAre (vs ++ [.str z u]) (ys ++ [z])
  | _, _, .nil => .cons z u .nil
  | _, _, .cons y t r => .cons y t (strs_push r)
noncomputable def cat (ys : List Str) : List Nat := ys.flatMap fun y => y.cps.toList
theorem cat_push (ys : List Str) (z : Str) : cat (ys ++ [z]) = cat ys ++ z.cps.toList := by simp [cat]
theorem cat_join {e : Str} (he : e = ⟨#[]⟩) : ∀ ys : List Str, (Str.join e ys).cps.toList = cat ys
  | [] => rfl
  | [p] => by simp [Str.join, cat]
  | p :: q :: r => by
    have ih := cat_join he (q :: r)
    have e1 : Str.join e (p :: q :: r) = p ++ e ++ Str.join e (q :: r) := rfl
    have e2 : cat (p :: q :: r) = p.cps.toList ++ cat (q :: r) := rfl
    rw [e1, e2, ← ih, he]
    simp only [Str.cps_append, Array.toList_append]
    simp
theorem push_D {s : Shared} {D : Addr} {its : Array Value} {c : Nat} {v : Value} {E : Value → Shared → Prop} {Q : PUnit → Shared → Prop} (hD : s.heap.get? D = some { cls := .type "list", dict := none, data := .seq its c, slots := #[] }) (hsz : its.size ≤ 100000)
    (h : ∀ h' c', (∀ b o, b ≠ D → s.heap.get? b = some o → h'.get? b = some o) → h'.get? D = some { cls := .type "list", dict := none, data := .seq (its.push v) c', slots := #[] } → Q ⟨⟩ { s with heap := h' }) :
    wpAny (model prog w) A (updateSeq D fun x => x.push v) Q E s := by
  refine wpAny_updateSeq hD rfl (h _ _ (fun b o hb e => (Heap.get?_update_other _ _ (Ne.symm hb)).trans e) (Heap.get?_update_self _ hD rfl)) (by rw [sizeLine_eq]; omega) (by rw [Array.size_push, sizeLine_eq]; omega)
theorem sub_loop {a D : Addr} {x z : Str} {t u : Tok} {r : PatRec} {hit : Nat → Prop} {wd : Nat → Nat} {f : Nat → List Nat} (hS : Searches r x hit wd) (hk : r.kind = 0) (hx : x.cps.size ≤ 1000) (hz : z.length ≤ 2)
    (hw : ∀ p, p < x.cps.size → hit p → 1 ≤ wd p ∧ p + wd p ≤ x.cps.size)
    (hf1 : ∀ st p, Next hit x.cps.size st (some p) → f st = (x.cps.toList.drop st).take (p - st) ++ z.cps.toList ++ f (p + wd p))
    (hf0 : ∀ st, st ≤ x.cps.size → Next hit x.cps.size st none → f st = x.cps.toList.drop st) :
    ∀ (k st : Nat) (mu : Bool) (n : Nat) (s : Shared) (its : Array Value) (ys : List Str) (c : Nat), x.cps.size - st = k → st ≤ x.cps.size → (∀ h' : Heap, (∀ b o, b ≠ D → s.heap.get? b = some o → h'.get? b = some o) → IsPattern h' a r) →
    s.heap.get? D = some { cls := .type "list", dict := none, data := .seq its c, slots := #[] } → StrsAre its.toList ys → its.size ≤ 2 * st → (ys.map (·.length)).sum ≤ 3 * st →
    (∀ h' tk t', (∀ b o, b ≠ D → s.heap.get? b = some o → h'.get? b = some o) → R (.ok (.ret (.str ⟨(cat ys ++ f st).toArray⟩ t'))) { s with heap := h', toks := tk }) →
    codeAny (model prog w) A (.builtin "re.Pattern.sub.loop" ⟨[.ref a, .str x t, .str z u, rawInt 0, rawInt 0, rawInt n, rawInt st, rawInt st, .bool mu, .ref D, .bool false], []⟩) R s := by
  intro k
  induction k using Nat.strongRecOn with
  | _ k ih =>
    intro st mu n s its ys c hk' hst hpk hD hys hsz hsum hR
    refine codeAny_builtin entry_sub_loop ?_
    rw [Around.under_plainId plain_sub_loop _]
    show wpAny _ A.in1 (reWholeTarget (.ref a) (.str x t) >>= _) _ _ s
    refine wpAny_bind (target (hpk _ fun _ _ _ e => e) hk ?_)
    show wpAny _ A.in1 (reLiteralCannotBeTurned (.str z u) >>= _) _ _ s
    refine wpAny_bind (wpAny_pure ?_ : wpAny _ A.in1 (pure PUnit.unit) _ _ s)
    show wpAny _ A.in1 (reNextFound ⟨.ref a, .str x t, r.code.toArray, x.cps, 0, r.groups, 0, x.cps.size⟩ st mu >>= _) _ _ s
    obtain ⟨n0, o, hn0, hN, hL⟩ := hS st mu hst
    refine wpAny_bind (runEnd hn0 ?_)
    cases o with
    | none =>
      refine .inr ⟨hL, ?_⟩
      have hq := hf0 st hst hN
      have hxl : x.length ≤ 1000 := hx
      -- the end
      have jp : ∀ (s1 : Shared) (its1 : Array Value) (ys1 : List Str) (c1 : Nat), (∃ h1 tk1, s1 = { s with heap := h1, toks := tk1 }) → (∀ b o, b ≠ D → s.heap.get? b = some o → s1.heap.get? b = some o) →
          s1.heap.get? D = some { cls := .type "list", dict := none, data := .seq its1 c1, slots := #[] } → StrsAre its1.toList ys1 → its1.size ≤ 2 * x.cps.size + 1 → (ys1.map (·.length)).sum ≤ 4 * x.cps.size → cat ys1 = cat ys ++ f st →
          wpAny (model prog w) A.in1 (do
            let joiner ← reSlice x.cps 0 0 0
            let items ← seqItems? (.ref D)
            if (items.getD #[]).isEmpty = true then ret joiner else do
              let text ← call (.builtin "str.join") [joiner, .ref D]
              ret text)
            (fun fin s' => match fin with | .done f => R (.ok f) s' | .again c' => c'.quiet = true ∧ codeAny (model prog w) A c' R s') (fun e s' => R (.error e) s') s1 := by
        rintro s1 its1 ys1 c1 ⟨h1, tk1, rfl⟩ hkeep hD1 hy1 hz1 hm1 hc1
        have he0 : (⟨x.cps.extract 0 0⟩ : Str) = ⟨#[]⟩ := by simp
        refine wpAny_bind (wpAny_mkStr ?_ (by rw [he0]; exact Nat.zero_le _) : wpAny _ A.in1 (mkStr ⟨x.cps.extract 0 0⟩) _ _ _)
        refine wpAny_bind (wpAny_seqItems hD1 rfl ?_)
        have hlen : its1.toList.length = ys1.length := hy1.length
        by_cases hemp : its1.isEmpty = true
        · show wpAny _ A.in1 (if its1.isEmpty = true then _ else _) _ _ _
          rw [if_pos hemp]
          have h0 : ys1 = [] := by
            have : its1.size = 0 := by simpa [Array.isEmpty] using hemp
            exact List.eq_nil_of_length_eq_zero (by rw [← hlen]; simpa using this)
          have hc0 : cat ys ++ f st = [] := by rw [← hc1, h0]; rfl
          refine wpAny_pure ?_
          have := hR h1 (tk1 + 1) tk1 hkeep
          rw [hc0] at this
          rw [he0]
          exact this
        · show wpAny _ A.in1 (if its1.isEmpty = true then _ else _) _ _ _
          rw [if_neg hemp]
          refine wpAny_bind (join_listW ⟨_, hD1, rfl, _, rfl⟩ hy1 (by rw [he0]; exact Nat.zero_le _) ?_ ?_)
          · have : ys1.length = its1.size := by rw [← hlen]; simp
            omega
          intro t' k2
          refine wpAny_pure ?_
          have ht : Txt.join ⟨x.cps.extract 0 0⟩ ys1 = ⟨(cat ys ++ f st).toArray⟩ := by
            refine str_ext ?_
            rw [← hc1, ← cat_join he0]
            exact congrArg (fun y => y.cps.toList) (StrLaws.glued_eq_join _ _)
          show R (.ok (.ret (.str (Txt.join ⟨x.cps.extract 0 0⟩ ys1) t'))) _
          rw [ht]
          exact hR h1 k2 t' hkeep
      by_cases hlt : st < x.cps.size
      · show wpAny _ A.in1 (if st < x.cps.size then (reSlice x.cps 0 st x.cps.size >>= fun v => updateSeq D (fun y => y.push v) >>= fun _ => _) else _) _ _ s
        rw [if_pos hlt]
        have hl2 : (⟨x.cps.extract st x.cps.size⟩ : Str).length ≤ x.cps.size - st := by simp [Str.length]
        refine wpAny_bind (wpAny_mkStr ?_ (by rw [sizeLine_eq]; omega) : wpAny _ A.in1 (mkStr ⟨x.cps.extract st x.cps.size⟩) _ _ _)
        refine wpAny_bind (push_D hD (by omega) fun h2 c2 hk2 hD2 => ?_)
        refine jp _ _ (ys ++ [⟨x.cps.extract st x.cps.size⟩]) c2 ⟨_, _, rfl⟩ hk2 hD2 ?_ ?_ ?_ ?_
        · rw [Array.toList_push]; exact strs_push hys
        · rw [Array.size_push]; omega
        · rw [List.map_append, List.sum_append]
          simp only [List.map_cons, List.map_nil, List.sum_cons, List.sum_nil]
          omega
        · rw [cat_push, hq]
          congr 1
          simp
          exact List.take_of_length_le (by simp)
      · show wpAny _ A.in1 (if st < x.cps.size then _ else _) _ _ s
        rw [if_neg hlt]
        refine jp s its ys c ⟨_, _, rfl⟩ (fun _ _ _ e => e) hD hys (by omega) (by omega) ?_
        rw [hq]
        have : x.cps.toList.drop st = [] := List.drop_eq_nil_of_le (by simp; omega)
        rw [this, List.append_nil]
    | some p =>
      refine .inl ⟨hL.1, ?_⟩
      obtain ⟨_, hs1, hs2⟩ := hL
      generalize Sre.M.runFor n0 (Sre.forSearch r.code.toArray x.cps r.groups st x.cps.size mu) = m at hs1 hs2
      obtain ⟨hp1, hp2, hp3, hp4⟩ := id hN
      obtain ⟨hw1, hw2⟩ := hw p hp2 hp3
      have hq := hf1 st p hN
      -- the rest of the turn
      have jp : ∀ (s1 : Shared) (its1 : Array Value) (ys1 : List Str) (c1 : Nat), (∃ h1 tk1, s1 = { s with heap := h1, toks := tk1 }) → (∀ b o, b ≠ D → s.heap.get? b = some o → s1.heap.get? b = some o) →
          s1.heap.get? D = some { cls := .type "list", dict := none, data := .seq its1 c1, slots := #[] } → StrsAre its1.toList ys1 → its1.size ≤ 2 * st + 1 → (ys1.map (·.length)).sum ≤ 3 * st + (p - st) → cat ys1 = cat ys ++ (x.cps.toList.drop st).take (p - st) →
          wpAny (model prog w) A.in1 (updateSeq D (fun y => y.push (.str z u)) >>= fun _ => again (.builtin "re.Pattern.sub.loop" ⟨[.ref a, .str x t, .str z u, rawInt 0, rawInt 0, rawInt (n + 1), rawInt m.handed, rawInt m.handed, .bool (m.handed == m.start), .ref D, .bool false], []⟩))
            (fun fin s' => match fin with | .done f => R (.ok f) s' | .again c' => c'.quiet = true ∧ codeAny (model prog w) A c' R s') (fun e s' => R (.error e) s') s1 := by
        rintro s1 its1 ys1 c1 ⟨h1, tk1, rfl⟩ hkeep hD1 hy1 hz1 hm1 hc1
        refine wpAny_bind (push_D hD1 (by omega) fun h2 c2 hk2 hD2 => ?_)
        refine wpAny_pure ⟨plainId_quiet plain_sub_loop _, ?_⟩
        rw [hs2]
        refine ih (x.cps.size - (p + wd p)) (by omega) (p + wd p) _ (n + 1) _ _ (ys1 ++ [z]) c2 rfl hw2 (fun h' hh => hpk h' fun b o hb e => hh b o hb (hk2 b o hb (hkeep b o hb e))) hD2 ?_ ?_ ?_ ?_
        · rw [Array.toList_push]; exact strs_push hy1
        · rw [Array.size_push]; omega
        · rw [List.map_append, List.sum_append]; simp; omega
        · intro h' tk t' hh
          have e : cat (ys1 ++ [z]) ++ f (p + wd p) = cat ys ++ f st := by
            rw [cat_push, hc1, hq]; simp
          rw [e]
          exact hR h' tk t' fun b o hb eo => hh b o hb (hk2 b o hb (hkeep b o hb eo))
      by_cases hlt : st < p
      · show wpAny _ A.in1 (if st < m.start then (reSlice x.cps 0 st m.start >>= fun v => updateSeq D (fun y => y.push v) >>= fun _ => _) else _) _ _ s
        rw [if_pos (hs1 ▸ hlt), hs1]
        have hl2 : (⟨x.cps.extract st p⟩ : Str).length = p - st := by simp [Str.length]; omega
        refine wpAny_bind (wpAny_mkStr ?_ (by rw [hl2, sizeLine_eq]; omega) : wpAny _ A.in1 (mkStr ⟨x.cps.extract st p⟩) _ _ _)
        refine wpAny_bind (push_D hD (by omega) fun h2 c2 hk2 hD2 => ?_)
        have := jp { s with heap := h2, toks := s.toks + 1 } (its.push (.str ⟨x.cps.extract st p⟩ s.toks)) (ys ++ [⟨x.cps.extract st p⟩]) c2 ⟨_, _, rfl⟩ hk2 hD2 ?_ ?_ ?_ ?_
        · rw [hs1] at this
          exact this
        · rw [Array.toList_push]; exact strs_push hys
        · rw [Array.size_push]; omega
        · rw [List.map_append, List.sum_append]
          simp only [List.map_cons, List.map_nil, List.sum_cons, List.sum_nil]
          omega
        · rw [cat_push]
          congr 1
          simp
      · show wpAny _ A.in1 (if st < m.start then _ else _) _ _ s
        rw [if_neg (hs1 ▸ hlt)]
        have he : p = st := by omega
        exact jp s its ys c ⟨_, _, rfl⟩ (fun _ _ _ e => e) hD hys (by omega) (by omega) (by rw [he]; simp)
end

theorem slot_sub : Slot "re.Pattern" "sub" "re.Pattern.sub" :=
  .of (owner := "re.Pattern") (n := "sub") (by rw [typeLookup_type, builtinLookup_eq_fast]; kernel_rfl) (by decide +kernel) (by decide +kernel) (by decide +kernel)
    (by first | exact .inl (by decide +kernel) | exact .inr (by decide +kernel)) (by rw [isSubtype_type]; kernel_rfl)
theorem args_sub (a b c : Value) : argsOk "re.Pattern.sub" ⟨[a, b, c], []⟩ := by unfold argsOk; kernel_rfl
theorem named_sub (z x : Value) : reNamed "re.Pattern.sub" "sub" ["repl", "string", "count"] 2 [z, x] [] = pure [some z, some x, none] := by rfl
theorem type_sub : typeOf (.builtin "re.Pattern.sub") = pure (.type "method_descriptor") := by show builtinType _ = _; rw [builtinType_eq_fast]; kernel_rfl
theorem str_no_call : typeLookup (.type "str") "__call__" = pure none := by rw [typeLookup_type, builtinLookup_eq_fast]; kernel_rfl

section
variable {prog : Program} {w : World} {A : Around} {E : Value → Shared → Prop} {s : Shared}
theorem call_sub {a : Addr} {x z : Str} {t u : Tok} {r : PatRec} {hit : Nat → Prop} {wd : Nat → Nat} {f : Nat → List Nat} {Q : Value → Shared → Prop} (hp : IsPattern s.heap a r) (hS : Searches r x hit wd) (hk : r.kind = 0) (hx : x.cps.size ≤ 1000) (hz : z.length ≤ 2) (hz2 : z.cps.contains 92 = false)
    (hw : ∀ p, p < x.cps.size → hit p → 1 ≤ wd p ∧ p + wd p ≤ x.cps.size)
    (hf1 : ∀ st p, Next hit x.cps.size st (some p) → f st = (x.cps.toList.drop st).take (p - st) ++ z.cps.toList ++ f (p + wd p))
    (hf0 : ∀ st, st ≤ x.cps.size → Next hit x.cps.size st none → f st = x.cps.toList.drop st)
    (hQ : ∀ h' tk t', (∀ b o, s.heap.get? b = some o → h'.get? b = some o) → Q (.str ⟨(f 0).toArray⟩ t') { s with heap := h', toks := tk }) :
    wpAny (model prog w) A (call (.builtin "re.Pattern.sub") [.ref a, .str z u, .str x t]) Q E s := by
  have hT : s.TypeIs (.ref a) "re.Pattern" := by obtain ⟨fs, T, ws, n, h1, _⟩ := hp; exact ⟨_, h1, rfl⟩
  refine wpAny_call (codeAny_call_builtin plain_sub entry_sub (slot_sub.check _ _ _ _ _ _ _ _ hT (args_sub _ _ _) ?_))
  show wpAny _ A.in1 (reNamed "re.Pattern.sub" "sub" ["repl", "string", "count"] 2 [.str z u, .str x t] [] >>= _) _ _ s
  rw [named_sub]
  refine wpAny_bind (wpAny_pure ?_)
  refine wpAny_bind (wpAny_pure ?_ : wpAny _ A.in1 (pure (0 : Int)) _ _ _)
  refine wpAny_bind (wpAny_specialOf (typeIs_str _ _ _) str_no_call ?_ : wpAny _ A.in1 (specialOf (.str z u) "__call__") _ _ _)
  refine wpAny_bind (wpAny_pure ?_ : wpAny _ A.in1 (pure (some z)) _ _ _)
  refine wpAny_bind (wpAny_pure ?_ : wpAny _ A.in1 (pure (!z.cps.contains 92)) _ _ _)
  rw [hz2]
  refine wpAny_bind (wpAny_pure ?_ : wpAny _ A.in1 (pure (Value.str z u, (0 : Int))) _ _ _)
  refine wpAny_bind (wpAny_holding (target hp hk ?_) : wpAny _ A.in1 (holding [.str z u] (reWholeTarget (.ref a) (.str x t))) _ _ _)
  refine wpAny_bind (wpAny_newList ?_ (by exact Nat.zero_le _) : wpAny _ A.in1 (newList []) _ _ _)
  have up : ∀ b o, s.heap.get? b = some o → (s.heap.push { cls := .type "list", data := .seq ([] : List Value).toArray }).get? b = some o := fun b o e => Heap.get?_push_of_some _ e
  refine wpAny_pure ⟨plainId_quiet plain_sub_loop _, ?_⟩
  refine sub_loop hS hk hx hz hw hf1 hf0 (x.cps.size - 0) 0 false 0 { s with heap := s.heap.push { cls := .type "list", data := .seq ([] : List Value).toArray } } #[] [] 0 rfl (Nat.zero_le _) (fun h' hh => ?_) (Heap.get?_push_size _ rfl) .nil (Nat.zero_le _) (Nat.zero_le _) ?_
  · refine hp.keeps fun b o e => hh b o (fun q => ?_) (up b o e)
    exact absurd (Heap.lt_size e) (q ▸ Nat.lt_irrefl _)
  · intro h' tk t' hh
    refine hQ h' tk t' fun b o e => hh b o (fun q => ?_) (up b o e)
    exact absurd (Heap.lt_size e) (q ▸ Nat.lt_irrefl _)
end
end Mine
end
section
open PySem PySem.W PyProof.Rows PySem.Calls
namespace Mine
set_option maxRecDepth 100000
theorem allObj_mono {k k' : List (Addr × Obj) → Prop} : ∀ {ws : List (Addr × String)}, (∀ its, k its → k' its) → AllObj ws k → AllObj ws k'
  | [], h, x => h [] x
  | w :: r, h, x => fun o ho => allObj_mono (ws := r) (fun its y => h _ y) (x o ho)
section
variable {prog : Program} {w : World} {A : Around} {E : Value → Shared → Prop} {s : Shared} {env : Env} {h₀ : Heap} {target : Expr} {body : List Stmt} {Q : Flow → Shared → Prop} {ws : List (Addr × String)} {keep : List (Addr × Obj)}
theorem unrPost_mono {L : Addr} {s₁ : Shared} {its : List (Addr × Obj)} {R R' : (Str → Option Value) → List (Addr × Obj) → Prop} {Q : Flow → Shared → Prop} (h : ∀ m n, R m n → R' m n) (f : Flow) (s₂ : Shared) (x : UnrPostW h₀ L s₁ its R Q f s₂) : UnrPostW h₀ L s₁ its R' Q f s₂ := by
  have e : UnrEndW h₀ L s₁ its R s₂ → UnrEndW h₀ L s₁ its R' s₂ := by
    rintro ⟨h', tk, m', news', a, b, c, d, r⟩
    exact ⟨h', tk, m', news', a, b, c, d, h _ _ r⟩
  cases f with
  | ret v => exact x
  | brk => exact x
  | next => exact e x
  | cont => exact e x
/-- a loop over known items, by an invariant -/
theorem items_ind (Inv : List Itm → (Str → Option Value) → List (Addr × Obj) → Prop)
    (hstep : ∀ a r m news, Inv (a :: r) m news → ∀ v h tk, a.Is v h → Fr h₀ env.locals h m → AllObj ws (fun its => News h₀ env.locals h (its ++ news) →
      wpAny (model prog w) A (assign target env v) (fun _ s₂ => wpAny (model prog w) A (execs body env) (UnrPostW h₀ env.locals { s with heap := h, toks := tk } its (fun m' n' => SubL keep n' ∧ Inv r m' n') Q) E s₂) E { s with heap := h, toks := tk }))
    (h0 : ∀ m news, Inv [] m news → ∀ h tk, Fr h₀ env.locals h m → News h₀ env.locals h news → Q .next { s with heap := h, toks := tk }) :
    ∀ xs m news, Inv xs m news → ItemsRest prog w A E h₀ env target body Q s ws keep xs m news
  | [], m, news, hi => ItemsRest.zero (h0 m news hi)
  | a :: r, m, news, hi => by
    intro v h tk ha F
    refine allObj_mono (fun its x N => ?_) (hstep a r m news hi v h tk ha F)
    refine wpAny_mono (x N) (fun _ s₂ y => wpAny_mono y (fun f s₃ z => ?_) fun _ _ e => e) fun _ _ e => e
    exact unrPost_mono (fun m' n' q => ⟨q.1, items_ind Inv hstep h0 r m' n' q.2⟩) f s₃ z
end
end Mine
end
section
open PySem PySem.W PyProof.Rows PySem.Calls
namespace Mine
set_option maxRecDepth 100000
/-- the ledger with one object written anew -/
noncomputable def put (S : Addr) (o : Obj) (news : List (Addr × Obj)) : List (Addr × Obj) := (S, o) :: news.filter fun p => decide (@Ne Nat p.1 S)
theorem put_ne {S : Addr} {o : Obj} {news : List (Addr × Obj)} {p : Addr × Obj} (h : p ∈ news) (hn : @Ne Nat p.1 S) : p ∈ put S o news := List.mem_cons_of_mem _ (List.mem_filter.mpr ⟨h, by simpa using hn⟩)
theorem put_self {S : Addr} {o : Obj} {news : List (Addr × Obj)} : (S, o) ∈ put S o news := .head _
theorem put_cases {S : Addr} {o : Obj} {news : List (Addr × Obj)} {p : Addr × Obj} (h : p ∈ put S o news) : p = (S, o) ∨ (p ∈ news ∧ @Ne Nat p.1 S) := by
  rcases List.mem_cons.mp h with h | h
  · exact .inl h
  · have := List.mem_filter.mp h
    exact .inr ⟨this.1, by simpa using this.2⟩
theorem news_put {h₀ h h' : Heap} {L S : Addr} {o' : Obj} {news : List (Addr × Obj)} (N : News h₀ L h news) (hs : Heap.SameBut S h h') (ho : h'.get? S = some o') (hL : S ≠ L) (h0 : h₀.get? S = none) : News h₀ L h' (put S o' news) := by
  intro p hp
  rcases put_cases hp with rfl | ⟨hp, hn⟩
  · exact ⟨ho, hL, h0⟩
  · exact ⟨hs.extBut _ _ hn (N p hp).1, (N p hp).2⟩
section
variable {prog : Program} {w : World} {A : Around} {E : Value → Shared → Prop} {s₂ : Shared} {env : Env} {h₀ : Heap} {body : List Stmt} {Q : Flow → Shared → Prop}
theorem turn_end {L I : Addr} {own all news₂ : List (Addr × Obj)} {Jn : (Str → Option Value) → List (Addr × Obj) → Prop} {s₁ : Shared} {Qr : Value → Shared → Prop} {Qb : Shared → Prop} {h₃ : Heap} {tk₃ : Nat} {m₂ : Str → Option Value}
    (F₃ : Fr h₀ L h₃ m₂) (N₃ : News h₀ L h₃ all) (ho : ∀ p ∈ own, p ∈ all) (hn : ∀ p ∈ news₂, p ∈ all) (hI : ∀ p ∈ news₂, p.1 ≠ I) (j : Jn m₂ news₂) : LoopStepV h₀ L [I] own Jn s₁ Qr Qb .next { s₁ with heap := h₃, toks := tk₃ } :=
  ⟨rfl, h₃, tk₃, m₂, news₂, rfl, F₃, fun p hp => by
    rcases List.mem_append.mp hp with hp | hp
    · exact N₃ p (ho p hp)
    · exact N₃ p (hn p hp), fun p hp q => hI p hp (List.mem_singleton.mp q), j⟩
/-- a loop whose target is a name, over anything that is walked -/
theorem turns_name {x : Str} {px : Pos} {I : Addr} {fp : List Addr} {n : Nat} {P : Nat → Value → Prop} {St : Nat → Heap → Prop} {m : Str → Option Value} {news : List (Addr × Obj)} (W : Walks prog w A I fp [I] n P St)
    (hIo : ∀ i h, St i h → ∃ o, h.get? I = some o ∧ ∃ fs, o.data = .fields fs) (hL : env.locals ∉ fp) (hI : h₀.get? I = none) (hst : St 0 s₂.heap) (F : Fr h₀ env.locals s₂.heap m) (N : News h₀ env.locals s₂.heap news) (hnI : ∀ p ∈ news, p.1 ≠ I)
    (J : Nat → (Str → Option Value) → List (Addr × Obj) → Prop) (h0 : J 0 m news)
    (step : ∀ i v m₁ news₁ h₁ tk₁ own oI, i < n → P i v → J i m₁ news₁ → (∀ p ∈ news₁, p.1 ≠ I) → (∀ p ∈ own, p.1 ∈ fp) → (I, oI) ∈ own → (∃ fs, oI.data = .fields fs) → Fr h₀ env.locals h₁ m₁ → News h₀ env.locals h₁ (own ++ news₁) →
      wpAny (model prog w) A (assign (.Name x px) env v) (fun _ s₃ => wpAny (model prog w) A (execs body env)
        (LoopStepV h₀ env.locals [I] own (J (i + 1)) { s₂ with heap := h₁, toks := tk₁ } (fun v s' => Q (.ret v) s') fun s' => Q .next s') E s₃) E { s₂ with heap := h₁, toks := tk₁ })
    (done : ∀ h' tk m' news', Fr h₀ env.locals h' m' → News h₀ env.locals h' news' → J n m' news' → Q .next { s₂ with heap := h', toks := tk }) :
    TurnsAt prog w A h₀ env (.Name x px) body Q E (.ref I) s₂ := by
  refine ⟨I, fp, [I], n, fun i v h => P i v ∧ St (i + 1) h, _, St, m, news, J, rfl, ⟨W.sub, W.frame, fun i s Q E hi st hQ => W.item i s Q E hi st fun v h' tk hP st' hk => hQ v h' tk (⟨hP, st'⟩ : P i v ∧ St (i + 1) h') hk, fun i v s Q E hm hQ => ?_, W.done⟩, hL, ?_, ?_, hst, F, N, h0, ?_, ?_⟩
  · exact wpAny_pure (hQ s.heap hm hm.2 fun _ _ _ e => e)
  · intro b hb
    rw [List.mem_singleton.mp hb]
    exact hI
  · intro p hp q
    exact hnI p hp (List.mem_singleton.mp q)
  · intro i v m₁ news₁ h₁ tk₁ own hi hP hJ hn ho _ hob st F₁ N₁
    obtain ⟨oI, heI, hfs⟩ := hIo _ _ hP.2
    exact step i v m₁ news₁ h₁ tk₁ own oI hi hP.1 hJ (fun p hp q => hn p hp (List.mem_singleton.mpr q)) ho (hob I (W.sub I (List.mem_singleton.mpr rfl)) hI oI heI) hfs F₁ N₁
  · intro h' tk m' news' F' N' _ hJ
    exact done h' tk m' news' F' N' hJ
/-- over a list of the ground's -/
theorem for_base {x : Str} {px : Pos} {l : Addr} {vs : List Value} {m : Str → Option Value} {news : List (Addr × Obj)} {s : Shared} (hh : A.handled = none) (hl : h₀.IsList l vs.toArray) (F : Fr h₀ env.locals s.heap m) (N : News h₀ env.locals s.heap news)
    (J : Nat → (Str → Option Value) → List (Addr × Obj) → Prop) (h0 : J 0 m news)
    (step : ∀ I i v m₁ news₁ h₁ tk₁ own oI, (∀ p ∈ news, p.1 ≠ I) → vs[i]? = some v → J i m₁ news₁ → (∀ p ∈ news₁, p.1 ≠ I) → (∀ p ∈ own, p.1 = I ∨ p.1 = l) → (I, oI) ∈ own → (∃ fs, oI.data = .fields fs) → Fr h₀ env.locals h₁ m₁ → News h₀ env.locals h₁ (own ++ news₁) →
      wpAny (model prog w) A (assign (.Name x px) env v) (fun _ s₃ => wpAny (model prog w) A (execs body env)
        (LoopStepV h₀ env.locals [I] own (J (i + 1)) { s with heap := h₁, toks := tk₁ } (fun v s' => Q (.ret v) s') fun s' => Q .next s') E s₃) E { s with heap := h₁, toks := tk₁ })
    (done : ∀ h' tk m' news', Fr h₀ env.locals h' m' → News h₀ env.locals h' news' → J vs.length m' news' → Q .next { s with heap := h', toks := tk }) :
    wpAny (model prog w) A (pyIter (.ref l)) (fun it s₂ => TurnsAt prog w A h₀ env (.Name x px) body Q E it s₂) E s := by
  have hls : s.heap.IsList l vs.toArray := hl.at fun o e => F.keep l o e
  obtain ⟨ol, hol, _⟩ := id hl
  have hlt : l < h₀.objs.size := Heap.lt_size hol
  have hls2 : l < s.heap.objs.size := by obtain ⟨_, e, _⟩ := hls; exact Heap.lt_size e
  have hlL : env.locals ≠ l := Ne.symm (Nat.ne_of_lt (Nat.lt_of_lt_of_le hlt F.above))
  refine wpAny_pyIter_list hls ?_
  have up : ∀ b o, s.heap.get? b = some o → (s.heap.push { cls := .type "list_iterator", data := .fields #[.ref l, .int 0 0] }).get? b = some o := fun b o e => Heap.get?_push_of_some _ e
  refine turns_name (Walks.list hh s.heap.objs.size l (Nat.ne_of_lt hls2) vs.toArray) (fun i h st => by obtain ⟨o, e, _, r⟩ := st.1; exact ⟨o, e, _, r⟩) ?_ (next_is_new F) ⟨⟨_, Heap.get?_push_size _ rfl, rfl, rfl⟩, hls.at fun o e => up _ _ e⟩ (F.keeps up) (N.grown up) (fun p hp => Nat.ne_of_lt (Heap.lt_size (N p hp).1)) J h0 ?_ ?_
  · intro hm
    rcases List.mem_cons.mp hm with e | hm
    · exact absurd F.ns.lt (e ▸ Nat.lt_irrefl _)
    · exact hlL (List.mem_singleton.mp hm)
  · intro i v m₁ news₁ h₁ tk₁ own oI hi hP hJ hn ho hI hfs F₁ N₁
    exact step _ i v m₁ news₁ h₁ tk₁ own oI (fun p hp => Nat.ne_of_lt (Heap.lt_size (N p hp).1)) (by simpa using hP) hJ hn (fun p hp => by simpa using ho p hp) hI hfs F₁ N₁
  · intro h' tk m' news' F' N' hJ
    exact done h' tk m' news' F' N' (by simpa using hJ)
/-- over a list of the ledger's -/
theorem for_own {x : Str} {px : Pos} {l : Addr} {vs : List Value} {nl : Nat} {m : Str → Option Value} {news : List (Addr × Obj)} {s : Shared} (hh : A.handled = none) (F : Fr h₀ env.locals s.heap m) (N : News h₀ env.locals s.heap news) (hm : (l, W.listOf vs.toArray nl) ∈ news)
    (J : Nat → (Str → Option Value) → List (Addr × Obj) → Prop) (h0 : J 0 m news)
    (step : ∀ I i v m₁ news₁ h₁ tk₁ own oI, (∀ p ∈ news, p.1 ≠ I) → vs[i]? = some v → J i m₁ news₁ → (∀ p ∈ news₁, p.1 ≠ I) → (∀ p ∈ own, p.1 = I ∨ p.1 = l) → (I, oI) ∈ own → (∃ fs, oI.data = .fields fs) → Fr h₀ env.locals h₁ m₁ → News h₀ env.locals h₁ (own ++ news₁) →
      wpAny (model prog w) A (assign (.Name x px) env v) (fun _ s₃ => wpAny (model prog w) A (execs body env)
        (LoopStepV h₀ env.locals [I] own (J (i + 1)) { s with heap := h₁, toks := tk₁ } (fun v s' => Q (.ret v) s') fun s' => Q .next s') E s₃) E { s with heap := h₁, toks := tk₁ })
    (done : ∀ h' tk m' news', Fr h₀ env.locals h' m' → News h₀ env.locals h' news' → J vs.length m' news' → Q .next { s with heap := h', toks := tk }) :
    wpAny (model prog w) A (pyIter (.ref l)) (fun it s₂ => TurnsAt prog w A h₀ env (.Name x px) body Q E it s₂) E s := by
  have hls : s.heap.IsList l vs.toArray := PySem.IsL.isList (N _ hm).1
  have hls2 : l < s.heap.objs.size := by obtain ⟨_, e, _⟩ := hls; exact Heap.lt_size e
  have hlL : env.locals ≠ l := Ne.symm (N _ hm).2.1
  refine wpAny_pyIter_list hls ?_
  have up : ∀ b o, s.heap.get? b = some o → (s.heap.push { cls := .type "list_iterator", data := .fields #[.ref l, .int 0 0] }).get? b = some o := fun b o e => Heap.get?_push_of_some _ e
  refine turns_name (Walks.list hh s.heap.objs.size l (Nat.ne_of_lt hls2) vs.toArray) (fun i h st => by obtain ⟨o, e, _, r⟩ := st.1; exact ⟨o, e, _, r⟩) ?_ (next_is_new F) ⟨⟨_, Heap.get?_push_size _ rfl, rfl, rfl⟩, hls.at fun o e => up _ _ e⟩ (F.keeps up) (N.grown up) (fun p hp => Nat.ne_of_lt (Heap.lt_size (N p hp).1)) J h0 ?_ ?_
  · intro hm
    rcases List.mem_cons.mp hm with e | hm
    · exact absurd F.ns.lt (e ▸ Nat.lt_irrefl _)
    · exact hlL (List.mem_singleton.mp hm)
  · intro i v m₁ news₁ h₁ tk₁ own oI hi hP hJ hn ho hI hfs F₁ N₁
    exact step _ i v m₁ news₁ h₁ tk₁ own oI (fun p hp => Nat.ne_of_lt (Heap.lt_size (N p hp).1)) (by simpa using hP) hJ hn (fun p hp => by simpa using ho p hp) hI hfs F₁ N₁
  · intro h' tk m' news' F' N' hJ
    exact done h' tk m' news' F' N' (by simpa using hJ)
/-- over a range -/
theorem for_range {x : Str} {px : Pos} {r : Addr} {a b c : Int} {t u v : Tok} {n : Nat} {m : Str → Option Value} {news : List (Addr × Obj)} {s : Shared} (hh : A.handled = none) (hr : IsRange s.heap r a b c t u v) (hsmall : Builtin.Range.small a b c = true) (hn : Builtin.Range.rangeSize a b c = (n : Int)) (F : Fr h₀ env.locals s.heap m) (N : News h₀ env.locals s.heap news)
    (J : Nat → (Str → Option Value) → List (Addr × Obj) → Prop) (h0 : J 0 m news)
    (step : ∀ I (i : Nat) t m₁ news₁ h₁ tk₁ own oI, i < n → J i m₁ news₁ → (∀ p ∈ news₁, p.1 ≠ I) → (∀ p ∈ own, p.1 = I) → (I, oI) ∈ own → (∃ fs, oI.data = .fields fs) → Fr h₀ env.locals h₁ m₁ → News h₀ env.locals h₁ (own ++ news₁) →
      wpAny (model prog w) A (assign (.Name x px) env (.int (a + (i : Int) * c) t)) (fun _ s₃ => wpAny (model prog w) A (execs body env)
        (LoopStepV h₀ env.locals [I] own (J (i + 1)) { s with heap := h₁, toks := tk₁ } (fun v s' => Q (.ret v) s') fun s' => Q .next s') E s₃) E { s with heap := h₁, toks := tk₁ })
    (done : ∀ h' tk m' news', Fr h₀ env.locals h' m' → News h₀ env.locals h' news' → J n m' news' → Q .next { s with heap := h', toks := tk }) :
    wpAny (model prog w) A (pyIter (.ref r)) (fun it s₂ => TurnsAt prog w A h₀ env (.Name x px) body Q E it s₂) E s := by
  refine wpAny_pyIter_range hr hsmall ?_
  rw [hn]
  have up : ∀ b' o, s.heap.get? b' = some o → (s.heap.push { cls := .type "range_iterator", data := .fields #[rawInt a, rawInt (n : Int), rawInt c] }).get? b' = some o := fun b o e => Heap.get?_push_of_some _ e
  refine turns_name (Walks.range hh s.heap.objs.size a c n) (fun i h st => ⟨_, st, _, rfl⟩) ?_ (next_is_new F) ?_ (F.keeps up) (N.grown up) (fun p hp => Nat.ne_of_lt (Heap.lt_size (N p hp).1)) J h0 ?_ ?_
  · intro hm
    exact absurd F.ns.lt ((List.mem_singleton.mp hm) ▸ Nat.lt_irrefl _)
  · show IsRangeIter _ _ _ _ _
    simpa using Heap.get?_push_size _ rfl
  · intro i v m₁ news₁ h₁ tk₁ own oI hi hP hJ hn' ho hI hfs F₁ N₁
    obtain ⟨t, rfl⟩ := hP
    exact step _ i t m₁ news₁ h₁ tk₁ own oI hi hJ hn' (fun p hp => List.mem_singleton.mp (ho p hp)) hI hfs F₁ N₁
  · exact done
end
section
variable {prog : Program} {w : World} {A : Around} {E : Value → Shared → Prop} {s : Shared} {h₀ : Heap} {L : Addr} {m : Str → Option Value} {news : List (Addr × Obj)}
theorem store_cell {cn x : Str} {cs : Scope} {a c : Addr} {ccd : Value} {cl : List (Str × Addr)} {o : Obj} {v : Value} {v₀ : Option Value} {Q : Unit → Shared → Prop} (F : Fr h₀ L s.heap m) (N : News h₀ L s.heap news) (hc : cl.lookup x = some c) (hm : (c, o) ∈ news) (hd : o.data = .cell v₀)
    (hk : cs.kind = .function) (hx : (envX cn cs L a ccd cl).kindOf x = some .cell)
    (h : ∀ h' o', Fr h₀ L h' m → News h₀ L h' (put c o' news) → o'.data = .cell (some v) → Q () { s with heap := h' }) : wpAny (model prog w) A (storeName (envX cn cs L a ccd cl) x v) Q E s := by
  have hmem := N (c, o) hm
  refine wpAny_storeName_cell hk hx hc ⟨o, hmem.1, hd⟩ fun h' hv hs => ?_
  obtain ⟨o', ho', hd'⟩ := hv
  refine h h' o' ⟨F.ns.sameBut hs (Ne.symm hmem.2.1), fun b ob e => (hs.2 b (fun q => ?_)).trans (F.keep b ob e), F.above⟩ (news_put N hs ho' hmem.2.1 hmem.2.2) hd'
  rw [q, hmem.2.2] at e; cases e
theorem item_at {value slice : Expr} {l : Addr} {vs : List Value} {k : Int} {u : Tok} {v : Value} {Q : Value → Shared → Prop} {n : Nat} (ho : s.heap.get? l = some (W.listOf vs.toArray n)) (h0 : 0 ≤ k) (hhi : k < 2 ^ 63) (hx : vs[k.toNat]? = some v) (h : Q v s)
    (hs : subscripted slice false (.ref l) (.int k u) = operate [.ref l, .int k u] (getItem (.ref l) (.int k u)) := by with_unfolding_all rfl) :
    wpAny (model prog w) A (subscriptTail value slice (.ref l) (.int k u)) Q E s :=
  have hl : s.heap.IsList l vs.toArray := PySem.IsL.isList (n := n) ho
  tail_any hl.typeIs slot_list_getitem.lookup (wpAny_getItem_list hl h0 hhi (by simpa using hx) h) hs
theorem set_at {l : Addr} {vs : List Value} {k : Int} {u : Tok} {v : Value} {Q : Unit → Shared → Prop} {n : Nat} (F : Fr h₀ L s.heap m) (N : News h₀ L s.heap news) (hm : (l, W.listOf vs.toArray n) ∈ news) (h0 : 0 ≤ k) (hhi : k < 2 ^ 63) (hk : k < vs.length)
    (h : ∀ h', Fr h₀ L h' m → News h₀ L h' (put l (W.listOf (vs.set k.toNat v).toArray n) news) → Q () { s with heap := h' }) :
    wpAny (model prog w) A (setItem (.ref l) (.int k u) v) Q E s := by
  have z := N _ hm
  refine ki_setAt z.1 h0 hhi (by simpa using hk) ?_
  refine h _ (F.change (Heap.SameBut.update ..) z.2.1 z.2.2) (news_put N (Heap.SameBut.update ..) ?_ z.2.1 z.2.2)
  have e := Heap.get?_update_self (Obj.mapSeq (·.setIfInBounds k.toNat v)) z.1 rfl
  refine e.trans ?_
  show some (W.listOf (vs.toArray.setIfInBounds k.toNat v) _) = _
  have e2 : vs.toArray.setIfInBounds k.toNat v = (vs.set k.toNat v).toArray := by
    apply Array.toList_inj.mp
    simp
  rw [e2]
  simp
end
end Mine
end
section
open PySem PySem.W PyProof.Rows PySem.Calls
namespace Mine
set_option maxRecDepth 100000
section
variable {prog : Program} {w : World} {A : Around} {E : Value → Shared → Prop} {s₂ : Shared} {env : Env} {h₀ : Heap} {body : List Stmt} {Q : Flow → Shared → Prop}
/-- over a list of the ledger's that the loop alone keeps -/
theorem for_own2 {x : Str} {px : Pos} {l : Addr} {vs : List Value} {nl : Nat} {m : Str → Option Value} {news : List (Addr × Obj)} {s : Shared} (hh : A.handled = none) (F : Fr h₀ env.locals s.heap m) (N : News h₀ env.locals s.heap news) {newsL : List (Addr × Obj)} (NL : News h₀ env.locals s.heap newsL) (hm : (l, W.listOf vs.toArray nl) ∈ newsL)
    (J : Nat → (Str → Option Value) → List (Addr × Obj) → Prop) (h0 : J 0 m news)
    (step : ∀ I i v m₁ news₁ h₁ tk₁ own oI, (∀ p ∈ news, p.1 ≠ I) → vs[i]? = some v → J i m₁ news₁ → (∀ p ∈ news₁, p.1 ≠ I) → (∀ p ∈ own, p.1 = I ∨ p.1 = l) → (I, oI) ∈ own → (∃ fs, oI.data = .fields fs) → Fr h₀ env.locals h₁ m₁ → News h₀ env.locals h₁ (own ++ news₁) →
      wpAny (model prog w) A (assign (.Name x px) env v) (fun _ s₃ => wpAny (model prog w) A (execs body env)
        (LoopStepV h₀ env.locals [I] own (J (i + 1)) { s with heap := h₁, toks := tk₁ } (fun v s' => Q (.ret v) s') fun s' => Q .next s') E s₃) E { s with heap := h₁, toks := tk₁ })
    (done : ∀ h' tk m' news', Fr h₀ env.locals h' m' → News h₀ env.locals h' news' → J vs.length m' news' → Q .next { s with heap := h', toks := tk }) :
    wpAny (model prog w) A (pyIter (.ref l)) (fun it s₂ => TurnsAt prog w A h₀ env (.Name x px) body Q E it s₂) E s := by
  have hls : s.heap.IsList l vs.toArray := PySem.IsL.isList (NL _ hm).1
  have hls2 : l < s.heap.objs.size := by obtain ⟨_, e, _⟩ := hls; exact Heap.lt_size e
  have hlL : env.locals ≠ l := Ne.symm (NL _ hm).2.1
  refine wpAny_pyIter_list hls ?_
  have up : ∀ b o, s.heap.get? b = some o → (s.heap.push { cls := .type "list_iterator", data := .fields #[.ref l, .int 0 0] }).get? b = some o := fun b o e => Heap.get?_push_of_some _ e
  refine turns_name (Walks.list hh s.heap.objs.size l (Nat.ne_of_lt hls2) vs.toArray) (fun i h st => by obtain ⟨o, e, _, r⟩ := st.1; exact ⟨o, e, _, r⟩) ?_ (next_is_new F) ⟨⟨_, Heap.get?_push_size _ rfl, rfl, rfl⟩, hls.at fun o e => up _ _ e⟩ (F.keeps up) (N.grown up) (fun p hp => Nat.ne_of_lt (Heap.lt_size (N p hp).1)) J h0 ?_ ?_
  · intro hm
    rcases List.mem_cons.mp hm with e | hm
    · exact absurd F.ns.lt (e ▸ Nat.lt_irrefl _)
    · exact hlL (List.mem_singleton.mp hm)
  · intro i v m₁ news₁ h₁ tk₁ own oI hi hP hJ hn ho hI hfs F₁ N₁
    exact step _ i v m₁ news₁ h₁ tk₁ own oI (fun p hp => Nat.ne_of_lt (Heap.lt_size (N p hp).1)) (by simpa using hP) hJ hn (fun p hp => by simpa using ho p hp) hI hfs F₁ N₁
  · intro h' tk m' news' F' N' hJ
    exact done h' tk m' news' F' N' (by simpa using hJ)
end
end Mine
end
section
open PySem PySem.W PyProof.Rows PySem.Calls
namespace Mine
set_option maxRecDepth 100000
section
variable {prog : Program} {w : World} {A : Around} {E : Value → Shared → Prop} {s : Shared} {h₀ : Heap} {L l : Addr} {m : Str → Option Value} {news : List (Addr × Obj)} {value slice : PySem.Expr}
/-- a slice of a list that may be a call's answer -/
theorem slice_any {items : Array Value} {vl vu : Value} {lo hi : Option Int} {Q : Value → Shared → Prop}
    (F : Fr h₀ L s.heap m) (N : News h₀ L s.heap news) (hl : s.heap.IsList l items) (pl : IsPart vl lo) (pu : IsPart vu hi)
    (h : ∀ D h', Fr h₀ L h' m → News h₀ L h' ((D, W.listOf (slicePick items lo hi none) 0) :: news) → (∀ p ∈ news, p.1 < D) → Q (.ref D) { s with heap := h' })
    (hs : subscripted slice false (.ref l) (.ref s.heap.objs.size) = operate [.ref s.heap.objs.size, .ref l] (getItem (.ref l) (.ref s.heap.objs.size)))
    (hsz : items.size ≤ sizeLine) :
    wpAny (model prog w) A (subscriptTail value slice (.ref l) (.ref s.heap.objs.size)) Q E { s with heap := s.heap.push { cls := .type "slice", data := .fields #[vl, vu, .none] } } := by
  refine tail_any (Heap.IsList.typeIs (s := { s with heap := s.heap.push { cls := .type "slice", data := .fields #[vl, vu, .none] } }) (hl.push _)) list_getitem_lookup
    (wpAny_getItem_list_slice (hl.push _) (Heap.IsSliceOf.new ..) pl pu .none (by simp) ?_ hsz) hs
  have N1 := News.push (F.push { cls := .type "slice", data := .fields #[vl, vu, .none] }) (N.grown fun _ _ e => Heap.get?_push_of_some _ e) { cls := .type "list", data := .seq (slicePick items lo hi none) }
  rw [Heap.size_push] at N1
  show Q (.ref (s.heap.push _).objs.size) _
  rw [Heap.size_push]
  exact h _ _ ((F.push _).push _) N1 fun p hp => Nat.lt_succ_of_lt (Heap.lt_size (N p hp).1)
end
end Mine
end
section
open PySem PySem.W PyProof.Rows PySem.Calls
namespace Mine
section
variable {prog : Program} {w : World} {A : Around} {E : Value → Shared → Prop} {s : Shared}
theorem ints_mem : ∀ {vs : List Value} {ns : List Int}, IntsAre vs ns → ∀ y ∈ vs, ∃ z t, y = Value.int z t
  | _, _, .nil, _, h => nomatch h
  | _, _, .cons n t r, y, h => by
    rcases List.mem_cons.mp h with rfl | h
    · exact ⟨_, _, rfl⟩
    · exact ints_mem r y h
/-- no None among ints -/
theorem none_in {l : Addr} {vs : List Value} {ns : List Int} {Q : Value → Shared → Prop} (hl : s.heap.IsList l vs.toArray) (hi : IntsAre vs ns) (hu : A.units + 2 < cLine) (h : Q (.bool false) s) : wpAny (model prog w) A (compareOp .In .none (.ref l)) Q E s := by
  refine PySem.SeqAt.in_listAt (fun _ => false) hl (fun y hy => ?_) (by rw [show vs.toArray.any (fun _ => false) = false from Array.any_eq_false.mpr (fun _ _ q => Bool.false_ne_true q)]; exact h)
  obtain ⟨z, t, rfl⟩ := ints_mem hi y (by simpa using hy)
  exact PySem.SeqAt.eqAt_reads (.int z) .none A.in1 s _ _ _ _ (.int z t) .none rfl rfl (by show A.units + 1 + _ < cLine; simp [PyData.depth]; omega)
end
end Mine
end
section
open PySem PySem.W PyProof.Rows PySem.Builtin PySem.Builtin.Str PySem.StrLaws
namespace Mine
set_option maxRecDepth 100000
/-- a list of signs cut at y -/
noncomputable def cutL (y : List Nat) : Nat → List Nat → List Nat → List (List Nat)
  | _, acc, [] => [acc.reverse]
  | k + 1, acc, _ :: r => cutL y k acc r
  | 0, acc, c :: r => if y.isPrefixOf (c :: r) = true then acc.reverse :: cutL y (y.length - 1) [] r else cutL y 0 (c :: acc) r
theorem cut_nil (y : List Nat) (k : Nat) (acc : List Nat) : cutL y k acc [] = [acc.reverse] := by cases k <;> rfl
theorem cut_skip (y : List Nat) (acc : List Nat) : ∀ (k : Nat) (l : List Nat), cutL y k acc l = cutL y 0 acc (l.drop k)
  | 0, l => by rw [List.drop_zero]
  | k + 1, [] => by rw [List.drop_nil, cut_nil, cut_nil]
  | k + 1, c :: r => by
    rw [List.drop_succ_cons, ← cut_skip y acc k r]
    rfl
theorem cut_hit {y l acc : List Nat} (hy : 1 ≤ y.length) (h : y.isPrefixOf l = true) : cutL y 0 acc l = acc.reverse :: cutL y 0 [] (l.drop y.length) := by
  cases l with
  | nil =>
    cases y with
    | nil => simp at hy
    | cons a b => simp [List.isPrefixOf] at h
  | cons c r =>
    have e : cutL y 0 acc (c :: r) = if y.isPrefixOf (c :: r) = true then acc.reverse :: cutL y (y.length - 1) [] r else cutL y 0 (c :: acc) r := rfl
    rw [e, if_pos h, cut_skip]
    congr 2
    have e2 : y.length = (y.length - 1) + 1 := by omega
    rw [e2, List.drop_succ_cons]
    rfl
theorem cut_gap {y : List Nat} : ∀ (n : Nat) (acc l : List Nat), n ≤ l.length → (∀ j, j < n → y.isPrefixOf (l.drop j) = false) → cutL y 0 acc l = cutL y 0 ((l.take n).reverse ++ acc) (l.drop n)
  | 0, _, _, _, _ => by simp
  | n + 1, acc, [], h, _ => by simp at h
  | n + 1, acc, c :: r, h, hj => by
    have h0 : y.isPrefixOf (c :: r) = false := hj 0 (by omega)
    have e : cutL y 0 acc (c :: r) = if y.isPrefixOf (c :: r) = true then acc.reverse :: cutL y (y.length - 1) [] r else cutL y 0 (c :: acc) r := rfl
    rw [e, if_neg (by rw [h0]; exact Bool.false_ne_true), cut_gap n (c :: acc) r (by simpa using h) fun j hj' => by simpa using hj (j + 1) (by omega)]
    simp
theorem cut_none {y acc l : List Nat} (h : ∀ j, j < l.length → y.isPrefixOf (l.drop j) = false) : cutL y 0 acc l = [acc.reverse ++ l] := by
  rw [cut_gap l.length acc l (Nat.le_refl _) h, List.take_length, List.drop_length, cut_nil]
  simp
theorem at_iff {x y : PySem.Str} (hy : 1 ≤ y.length) (k : Nat) : At x y x.length k ↔ y.cps.toList.isPrefixOf (x.cps.toList.drop k) = true := by
  unfold At
  rw [subAt_eq, List.isPrefixOf_iff_prefix, List.prefix_iff_eq_take, beq_iff_eq]
  have hl : y.cps.toList.length = y.length := by simp [PySem.Str.length]
  have hx : x.cps.toList.length = x.length := by simp [PySem.Str.length]
  rw [hl]
  constructor
  · intro h; exact h.2.symm
  · intro h
    refine ⟨?_, h.symm⟩
    have h2 := congrArg List.length h
    rw [List.length_take, List.length_drop, hl, hx] at h2
    omega
theorem not_at {x y : PySem.Str} (hy : 1 ≤ y.length) {k : Nat} (h : ¬ At x y x.length k) : y.cps.toList.isPrefixOf (x.cps.toList.drop k) = false := by
  cases e : y.cps.toList.isPrefixOf (x.cps.toList.drop k)
  · rfl
  · exact absurd ((at_iff hy k).mpr e) h
theorem parts_cut {x y : PySem.Str} (hy : 1 ≤ y.length) : ∀ (cuts : List Nat) (a f : Nat), ChainG x y x.length a cuts f → (∀ k, f ≤ k → ¬ At x y x.length k) → (partsFrom x y.length a cuts).map (fun p => p.cps.toList) = cutL y.cps.toList 0 [] (x.cps.toList.drop a)
  | [], a, f, h, hn => by
    have e : f = a := h
    subst e
    rw [cut_none (fun j _ => by rw [List.drop_drop]; exact not_at hy (hn _ (by omega)))]
    show [(strSub x f x.length).cps.toList] = _
    rw [strSub_toList]
    congr 1
    rw [List.reverse_nil, List.nil_append]
    exact List.take_of_length_le (by simp [PySem.Str.length])
  | c :: r, a, f, h, hn => by
    obtain ⟨h1, h2, h3, h4⟩ := h
    have hlen : c + y.length ≤ x.cps.toList.length := by have := h2.1; simpa [PySem.Str.length] using this
    have hyl : y.cps.toList.length = y.length := by simp [PySem.Str.length]
    have ih := parts_cut hy r (c + y.length) f h4 hn
    show (strSub x a c).cps.toList :: (partsFrom x y.length (c + y.length) r).map (fun p => p.cps.toList) = _
    rw [ih, strSub_toList, cut_gap (c - a) [] (x.cps.toList.drop a) (by rw [List.length_drop]; omega) (fun j hj => by rw [List.drop_drop]; exact not_at hy (h3 _ (by omega) (by omega))), List.drop_drop, show a + (c - a) = c by omega,
      cut_hit (by omega) ((at_iff hy c).mp h2), List.drop_drop, hyl, List.append_nil, List.reverse_reverse]
theorem split_cut {x y : PySem.Str} (hy : 1 ≤ y.length) (hk : PySem.Builtin.Str.strKind y = 1) : (Txt.split x y).map (fun p => p.cps.toList) = cutL y.cps.toList 0 [] x.cps.toList := by
  obtain ⟨f, hG, hn⟩ := occ_tight x y hy
  unfold Txt.split
  split
  · rename_i hc
    rw [Bool.or_eq_true, decide_eq_true_eq, decide_eq_true_eq] at hc
    rcases hc with h | h
    · rw [cut_none (fun j _ => not_at hy fun q => by have := q.1; omega)]
      rfl
    · exfalso
      rw [hk] at h
      unfold PySem.Builtin.Str.strKind at h
      split at h
      · omega
      · split at h <;> omega
  · split
    · rename_i he
      have e0 : occurrences x y 0 x.length (x.length + 1) = [] := List.isEmpty_iff.mp he
      rw [e0] at hG
      have ef : f = 0 := hG
      subst ef
      rw [cut_none (fun j _ => not_at hy (hn j (by omega)))]
      rfl
    · rw [partsBetween_eq, parts_cut hy _ 0 f hG hn, List.drop_zero]
noncomputable def joinL (z : List Nat) : List (List Nat) → List Nat
  | [] => []
  | [p] => p
  | p :: q :: r => p ++ z ++ joinL z (q :: r)
theorem join_list (z : PySem.Str) : ∀ ps : List PySem.Str, (PySem.Str.join z ps).cps.toList = joinL z.cps.toList (ps.map fun p => p.cps.toList)
  | [] => rfl
  | [p] => rfl
  | p :: q :: r => by
    have ih := join_list z (q :: r)
    show (p ++ z ++ PySem.Str.join z (q :: r)).cps.toList = p.cps.toList ++ z.cps.toList ++ joinL z.cps.toList ((q :: r).map fun p => p.cps.toList)
    rw [← ih]
    simp only [PySem.Str.cps_append, Array.toList_append]
theorem replace_cut {x y z : PySem.Str} (hy : 1 ≤ y.length) : (Txt.replace x y z).cps.toList = joinL z.cps.toList (cutL y.cps.toList 0 [] x.cps.toList) := by
  obtain ⟨f, hG, hn⟩ := occ_tight x y hy
  unfold Txt.replace
  split
  · rename_i hc
    rw [Bool.or_eq_true, Bool.and_eq_true, beq_iff_eq] at hc
    rcases hc with h | h
    · have e0 : occurrences x y 0 x.length (x.length + 1) = [] := List.isEmpty_iff.mp h
      rw [e0] at hG
      have ef : f = 0 := hG
      subst ef
      rw [cut_none (fun j _ => not_at hy (hn j (by omega)))]
      rfl
    · omega
  · rw [glued_eq_join, join_list, partsBetween_eq, parts_cut hy _ 0 f hG hn, List.drop_zero]
end Mine
end
section
open PySem PySem.W PyProof.Rows
namespace Mine
set_option maxRecDepth 100000

/-- the replacing of a sign by a text, as the def writes it -/
noncomputable def rp (x : Str) (c z : String) : Str := Txt.replace x (Str.ofString c) (Str.ofString z)
noncomputable def escT (x : Str) : Str := rp (rp (rp (rp (rp (rp x "&" "&amp;") "<" "&lt;") "\"" "&quot;") "\t" "&#x9;") "\n" "&#xA;") "\r" "&#xD;"
theorem rp_length {x : Str} {c z : String} (k : Nat) {n : Nat} (hx : x.length ≤ n) (hc : Str.ofString c = ⟨#[k]⟩ := by decide +kernel) (hz : (Str.ofString z).length ≤ 6 := by decide +kernel) : (rp x c z).length ≤ 6 * n := by
  unfold rp
  rw [hc]
  exact rep_length hz (by omega) hx
theorem rp_none {x : Str} {c z : String} (k : Nat) (h : (Builtin.Str.occurrences x (Str.ofString c) 0 x.length 1).isEmpty = true) (hc : Str.ofString c = ⟨#[k]⟩ := by decide +kernel) : rp x c z = x := by
  unfold rp
  rw [hc] at h ⊢
  exact rep_none h

section
local macro_rules | `(tactic| walk_at "execs cons") => `(tactic| ((try dsimp only); (with_reducible refine wpAny_execs_cons ?_); try dsimp only))
local macro_rules | `(tactic| walk_at "execs nil") => `(tactic| ((try dsimp only); (with_reducible refine wpAny_execs_nil ?_); try dsimp only))

noncomputable def EscAt (s₀ : Shared) (g : Heap) (L : Addr) (x : Str) (s' : Shared) : Prop :=
  ∃ h' tk t, s' = { s₀ with heap := h', toks := tk } ∧ 0 < tk ∧ Fr g L h' (mp [(Str.ofString "text", .str x t)]) ∧ News g L h' []

set_option maxHeartbeats 8000000 in
theorem esc_asks (w : World) (mean : ExcName → Option Value) (mg mb : Str → Option Value) (x : Str) (t : Tok) (hx : x.length ≤ 100) :
    Asks w mean mg mb 45 [.str x t] (fun _ _ r => ∃ t, r = .str (escT x) t) := by
  unfold Asks
  k_fill
  intro dp un gd cn cs a ccd cl outer A₀ base h₀ L m s Q E B F X T hk hdp hun hret
  refine wpAny_with_toks (Nat.le_refl _) ?_
  refine wpAny_call ?_
  refine' enter0 (binds := [(Str.ofString "text", .str x t)]) ?k1 ?k2 ?k3 ?k5 ?kA ?kF ?kK ?k6 ?k7 ?k8 ?k9 ?kB ?kR ?_ ?c2 ?c3 ?c4 ?c5
  case kR => exact rfl
  case kA => exact rfl
  case kF => exact rfl
  case kK => assumption
  case k1 => k_asm
  case k2 => k_asm
  case k3 => k_asm
  case k5 => k_asm
  case k6 => k_is
  case k7 => k_is
  case k8 => ktr_room
  case k9 => exact BindsTo.of_eq (by kernel_rfl)
  case c5 => decide
  case kB => exact locs rfl
  case c2 => exact rfl
  case c3 => exact rfl
  case c4 => exact rfl
  intro g L' h' hg F' B' X' T'
  dsimp only
  clear F T X B
  have N' : News g L' h' [] := fun _ h => nomatch h
  refine wpPos (by show 0 < s.toks + _; simp) ?_
  intro tk htk
  dsimp only
  have F2 := F'
  clear F'
  walk1
  walk1
  refine cutS (P := EscAt s g L' (rp x "&" "&amp;")) ?_ ?_
  · skip
    k_steps
    · exact ⟨_, _, _, rfl, by omega, by rw [rp_none 38 (by assumption)]; assumption, by assumption⟩
    · exact ⟨_, _, _, rfl, by omega, by rw [← mp_head]; assumption, by assumption⟩
  clear F2 N' htk tk
  rintro _ ⟨h1, tk, t, rfl, htk, F2, N'⟩
  have hx := rp_length (c := "&") (z := "&amp;") 38 hx
  refine cutS (P := EscAt s g L' (rp (rp x "&" "&amp;") "<" "&lt;")) ?_ ?_
  · skip
    k_steps
    · exact ⟨_, _, _, rfl, by omega, by rw [rp_none 60 (by assumption)]; assumption, by assumption⟩
    · exact ⟨_, _, _, rfl, by omega, by rw [← mp_head]; assumption, by assumption⟩
  clear F2 N' htk tk
  rintro _ ⟨h1, tk, t, rfl, htk, F2, N'⟩
  have hx := rp_length (c := "<") (z := "&lt;") 60 hx
  refine cutS (P := EscAt s g L' (rp (rp (rp x "&" "&amp;") "<" "&lt;") "\"" "&quot;")) ?_ ?_
  · skip
    k_steps
    · exact ⟨_, _, _, rfl, by omega, by rw [rp_none 34 (by assumption)]; assumption, by assumption⟩
    · exact ⟨_, _, _, rfl, by omega, by rw [← mp_head]; assumption, by assumption⟩
  clear F2 N' htk tk
  rintro _ ⟨h1, tk, t, rfl, htk, F2, N'⟩
  have hx := rp_length (c := "\"") (z := "&quot;") 34 hx
  refine cutS (P := EscAt s g L' (rp (rp (rp (rp x "&" "&amp;") "<" "&lt;") "\"" "&quot;") "\t" "&#x9;")) ?_ ?_
  · skip
    k_steps
    · exact ⟨_, _, _, rfl, by omega, by rw [rp_none 9 (by assumption)]; assumption, by assumption⟩
    · exact ⟨_, _, _, rfl, by omega, by rw [← mp_head]; assumption, by assumption⟩
  clear F2 N' htk tk
  rintro _ ⟨h1, tk, t, rfl, htk, F2, N'⟩
  have hx := rp_length (c := "\t") (z := "&#x9;") 9 hx
  refine cutS (P := EscAt s g L' (rp (rp (rp (rp (rp x "&" "&amp;") "<" "&lt;") "\"" "&quot;") "\t" "&#x9;") "\n" "&#xA;")) ?_ ?_
  · skip
    k_steps
    · exact ⟨_, _, _, rfl, by omega, by rw [rp_none 10 (by assumption)]; assumption, by assumption⟩
    · exact ⟨_, _, _, rfl, by omega, by rw [← mp_head]; assumption, by assumption⟩
  clear F2 N' htk tk
  rintro _ ⟨h1, tk, t, rfl, htk, F2, N'⟩
  have hx := rp_length (c := "\n") (z := "&#xA;") 10 hx
  refine cutS (P := EscAt s g L' (rp (rp (rp (rp (rp (rp x "&" "&amp;") "<" "&lt;") "\"" "&quot;") "\t" "&#x9;") "\n" "&#xA;") "\r" "&#xD;")) ?_ ?_
  · skip
    k_steps
    · exact ⟨_, _, _, rfl, by omega, by rw [rp_none 13 (by assumption)]; assumption, by assumption⟩
    · exact ⟨_, _, _, rfl, by omega, by rw [← mp_head]; assumption, by assumption⟩
  clear F2 N' htk tk
  rintro _ ⟨h1, tk, t, rfl, htk, F2, N'⟩
  have hx := rp_length (c := "\r") (z := "&#xD;") 13 hx
  k_steps
  skip
  exact hret _ _ _ (hg ▸ F2.keep) (by assumption) ⟨_, rfl⟩
end
end Mine
end
section
open PySem PySem.W PyProof.Rows
namespace Mine
set_option maxRecDepth 100000
/-- a sign's own spelling -/
noncomputable def sp (c : Nat) : List Nat :=
  if c = 38 then [38, 97, 109, 112, 59] else if c = 60 then [38, 108, 116, 59] else if c = 34 then [38, 113, 117, 111, 116, 59] else if c = 9 then [38, 35, 120, 57, 59] else if c = 13 then [38, 35, 120, 68, 59] else if c = 10 then [38, 35, 120, 65, 59] else [c]
theorem sp_length (c : Nat) : (sp c).length ≤ 6 := by
  unfold sp
  repeat' split
  all_goals simp
noncomputable def spS (c : Nat) : Str := ⟨(sp c).toArray⟩
noncomputable def spT (x : Str) : Str := ⟨(x.cps.toList.flatMap sp).toArray⟩
theorem join_empty {z : Str} (hz : z = ⟨#[]⟩) : ∀ l : List Str, (Str.join z l).cps.toList = l.flatMap fun y => y.cps.toList
  | [] => rfl
  | [p] => by simp [Str.join]
  | p :: q :: r => by
    have ih := join_empty hz (q :: r)
    have e1 : Str.join z (p :: q :: r) = p ++ z ++ Str.join z (q :: r) := rfl
    rw [e1, List.flatMap_cons, ← ih, hz]
    simp only [Str.cps_append, Array.toList_append]
    simp
theorem spT_join {z : Str} (hz : z = ⟨#[]⟩) (x : Str) : Str.join z (x.cps.toList.map spS) = spT x := str_ext (by
  rw [join_empty hz, List.flatMap_map]
  rfl)
theorem strsAre_of (g : Nat → Str) : ∀ (l : List Nat) (ys : List Value), ys.length = l.length → (∀ (i : Nat) (v : Value), ys[i]? = some v → ∃ (c : Nat) (t : Tok), l[i]? = some c ∧ v = Value.str (g c) t) → StrsAre ys (l.map g)
  | [], [], _, _ => .nil
  | [], _ :: _, h, _ => by simp at h
  | _ :: _, [], h, _ => by simp at h
  | c :: l, y :: ys, h, hy => by
    obtain ⟨c', t, e, rfl⟩ := hy 0 y rfl
    simp at e
    subst e
    exact .cons _ _ (strsAre_of g l ys (by simpa using h) fun i v e => by simpa using hy (i + 1) v (by simpa using e))
theorem look_hit {k : PyData} {a b : PyData} {r : List (PyData × PyData)} (h : Spec.same a k = true) : Spec.lookup k ((a, b) :: r) = some b := by simp [Spec.lookup, h]
theorem look_miss {k : PyData} {a b : PyData} {r : List (PyData × PyData)} (h : Spec.same a k = false) : Spec.lookup k ((a, b) :: r) = Spec.lookup k r := by simp [Spec.lookup, h]
theorem same_sign {a : String} {k c : Nat} (h : Str.ofString a = ⟨#[k]⟩) : Spec.same (.str (Str.ofString a)) (.str ⟨#[c]⟩) = decide (c = k) := by
  rw [h]
  show ((⟨#[k]⟩ : Str) == ⟨#[c]⟩) = _
  by_cases e : c = k
  · subst e
    rw [decide_eq_true rfl]
    exact beq_self_eq_true _
  · rw [decide_eq_false e]
    refine beq_eq_false_iff_ne.mpr fun q => e ?_
    have q1 : (#[k] : Array Nat) = #[c] := congrArg Str.cps q
    have q2 : [k] = [c] := congrArg Array.toList q1
    exact (List.cons.inj q2).1.symm
noncomputable def spData : List (PyData × PyData) := [(.str (Str.ofString "&"), .str (Str.ofString "&amp;")), (.str (Str.ofString "<"), .str (Str.ofString "&lt;")), (.str (Str.ofString "\""), .str (Str.ofString "&quot;")), (.str (Str.ofString "\t"), .str (Str.ofString "&#x9;")), (.str (Str.ofString "\r"), .str (Str.ofString "&#xD;")), (.str (Str.ofString "\n"), .str (Str.ofString "&#xA;"))]
theorem sp_lookup (c : Nat) : (Spec.lookup (PyData.str ⟨#[c]⟩) spData).getD (PyData.str ⟨#[c]⟩) = PyData.str (spS c) := by
  have e1 : Str.ofString "&" = ⟨#[38]⟩ := by decide +kernel
  have e2 : Str.ofString "<" = ⟨#[60]⟩ := by decide +kernel
  have e3 : Str.ofString "\"" = ⟨#[34]⟩ := by decide +kernel
  have e4 : Str.ofString "\t" = ⟨#[9]⟩ := by decide +kernel
  have e5 : Str.ofString "\r" = ⟨#[13]⟩ := by decide +kernel
  have e6 : Str.ofString "\n" = ⟨#[10]⟩ := by decide +kernel
  unfold spData spS sp
  by_cases h1 : c = 38
  · rw [look_hit (by rw [same_sign e1]; exact decide_eq_true h1), if_pos h1]; exact congrArg PyData.str (by decide +kernel)
  rw [look_miss (by rw [same_sign e1]; exact decide_eq_false h1), if_neg h1]
  by_cases h2 : c = 60
  · rw [look_hit (by rw [same_sign e2]; exact decide_eq_true h2), if_pos h2]; exact congrArg PyData.str (by decide +kernel)
  rw [look_miss (by rw [same_sign e2]; exact decide_eq_false h2), if_neg h2]
  by_cases h3 : c = 34
  · rw [look_hit (by rw [same_sign e3]; exact decide_eq_true h3), if_pos h3]; exact congrArg PyData.str (by decide +kernel)
  rw [look_miss (by rw [same_sign e3]; exact decide_eq_false h3), if_neg h3]
  by_cases h4 : c = 9
  · rw [look_hit (by rw [same_sign e4]; exact decide_eq_true h4), if_pos h4]; exact congrArg PyData.str (by decide +kernel)
  rw [look_miss (by rw [same_sign e4]; exact decide_eq_false h4), if_neg h4]
  by_cases h5 : c = 13
  · rw [look_hit (by rw [same_sign e5]; exact decide_eq_true h5), if_pos h5]; exact congrArg PyData.str (by decide +kernel)
  rw [look_miss (by rw [same_sign e5]; exact decide_eq_false h5), if_neg h5]
  by_cases h6 : c = 10
  · rw [look_hit (by rw [same_sign e6]; exact decide_eq_true h6), if_pos h6]; exact congrArg PyData.str (by decide +kernel)
  rw [look_miss (by rw [same_sign e6]; exact decide_eq_false h6), if_neg h6]
  rfl
theorem sp_flat {v : Value} {c : Nat} (h : PyProof.V.Flat v ((Spec.lookup (PyData.str ⟨#[c]⟩) spData).getD (PyData.str ⟨#[c]⟩))) : ∃ t, v = .str (spS c) t := by
  rw [sp_lookup] at h
  exact h.str_inv
theorem spS_sum : ∀ l : List Nat, ((l.map spS).map (·.length)).sum ≤ 6 * l.length
  | [] => by simp
  | c :: r => by
    have ih := spS_sum r
    have h1 : (spS c).length ≤ 6 := by simpa [spS, Str.length] using sp_length c
    simp only [List.map_cons, List.sum_cons, List.length_cons]
    omega
section
local macro_rules | `(tactic| walk_at "execs cons") => `(tactic| ((try dsimp only); (with_reducible refine wpAny_execs_cons ?_); try dsimp only))
local macro_rules | `(tactic| walk_at "execs nil") => `(tactic| ((try dsimp only); (with_reducible refine wpAny_execs_nil ?_); try dsimp only))
set_option maxHeartbeats 8000000 in
theorem spell_asks (w : World) (mean : ExcName → Option Value) (mg mb : Str → Option Value) (x : Str) (t : Tok) (hx : x.length ≤ 100) :
    Asks w mean mg mb 84 [.str x t] (fun _ _ r => ∃ t, r = .str (spT x) t) := by
  unfold Asks
  k_fill
  intro dp un gd cn cs a ccd cl outer A₀ base h₀ L m s Q E B F X T hk hdp hun hret
  refine wpAny_with_toks (Nat.le_refl _) ?_
  refine wpAny_call ?_
  refine' enterC ?k1 ?k2 ?k3 ?k5 ?kA ?kF ?kK ?k6 ?k7 ?k8 ?k9 ?kB ?kD ?_ ?c2 ?c3 ?c4
  case kA => exact rfl
  case kF => exact rfl
  case kK => assumption
  case k1 => k_asm
  case k2 => k_asm
  case k3 => k_asm
  case k5 => k_asm
  case k6 => k_is
  case k7 => k_is
  case k8 => ktr_room
  case k9 => exact BindsTo.of_eq rfl
  case kB => exact rfl
  case kD => decide +kernel
  case c2 => exact rfl
  case c3 => exact rfl
  case c4 => exact rfl
  intro g L' h' tk' cells' hg F' N' Y' B' X' T'
  dsimp only
  clear F T X B
  obtain ⟨o', hE', d1'⟩ := CellsAre.one Y'
  subst hE'
  clear Y'
  have F2 : Fr g L' h' (mp [(Str.ofString "text", .str x t)]) := F'
  have d2 : o'.data = .cell none := d1'
  clear F' d1'
  iterate 31 (try (walk1; try dsimp only))
  refine wpTok ?_
  intro tk
  dsimp only
  k_dflt (refine comp_text (by assumption) (by with_unfolding_all rfl) (by decide) (by rfl) (by decide) (by rfl) ?_)
  walk1
  rename Fr _ _ _ _ => F3
  rename News _ _ _ _ => N3
  refine ⟨_, _, _, rfl, rfl, F3, N3, by rw [sizeLine_eq]; exact Nat.le_trans hx (by decide), fun gg => rest_same (fun i v => ∃ c t, x.cps.toList[i]? = some c ∧ v = .str (spS c) t) ?_ ?_⟩
  · intro i v ys I oI C oC D m₂ h tk E' hi hys hv hC hm F N off ne
    obtain ⟨c, u, hc, rfl⟩ := hv
    dsimp only
    iterate 12 (try (walk1; try dsimp only))
    rename PyProof.V.Flat _ _ => hfl
    obtain ⟨t2, rfl⟩ := sp_flat hfl
    exact LCg.CompEnd.intro F N _ (fun _ h => h) off trivial ⟨rfl, c, t2, by simpa using hc, rfl⟩
  · intro ys hl hY
    intro D h tk F N o1
    have hS := strsAre_of spS x.cps.toList ys (by simpa using hl) hY
    iterate 2 (try (walk1; try dsimp only))
    refine join_listW (News.isList N (.head _)) hS (by decide +kernel) ?_ ?_
    · have := spS_sum x.cps.toList
      have hx' : x.cps.toList.length ≤ 100 := by simpa [Str.length] using hx
      rw [List.length_map]
      omega
    intro t' k hle
    dsimp only
    refine hret _ _ _ (hg ▸ F.keep) hle ⟨t', ?_⟩
    exact congrArg (fun y => Value.str y t') ((StrLaws.glued_eq_join _ _).trans (spT_join (by decide +kernel) x))
end
end Mine
end
section
open PySem PySem.W PyProof.Rows
namespace Mine
set_option maxRecDepth 100000
noncomputable def opsText : Str := Str.ofString "( ) [ ] : , ; + - * / | & < > = . % { } == != <= >= ~ ^ << >> ** " ++ Str.ofString "+= -= *= /= %= &= |= ^= <<= >>= **= // //= @ @= -> ... := !"
noncomputable def opsL : List Str := Txt.split opsText (Str.ofString " ")
section
local macro_rules | `(tactic| walk_at "execs cons") => `(tactic| ((try dsimp only); (with_reducible refine wpAny_execs_cons ?_); try dsimp only))
local macro_rules | `(tactic| walk_at "execs nil") => `(tactic| ((try dsimp only); (with_reducible refine wpAny_execs_nil ?_); try dsimp only))
set_option maxHeartbeats 8000000 in
theorem ops_asks (w : World) (mean : ExcName → Option Value) (mg mb : Str → Option Value) :
    Asks w mean mg mb 79 [] (fun h h' r => ∃ D items, r = .ref D ∧ h'.get? D = some (W.listOf items 0) ∧ h.get? D = none ∧ StrsAre items.toList opsL) := by
  unfold Asks
  k_fill
  intro dp un gd cn cs a ccd cl outer A₀ base h₀ L m s Q E B F X T hk hdp hun hret
  refine wpAny_with_toks (Nat.le_refl _) ?_
  refine wpAny_call ?_
  refine' enter0 (binds := []) ?k1 ?k2 ?k3 ?k5 ?kA ?kF ?kK ?k6 ?k7 ?k8 ?k9 ?kB ?kR ?_ ?c2 ?c3 ?c4 ?c5
  case kR => exact rfl
  case kA => exact rfl
  case kF => exact rfl
  case kK => assumption
  case k1 => k_asm
  case k2 => k_asm
  case k3 => k_asm
  case k5 => k_asm
  case k6 => k_is
  case k7 => k_is
  case k8 => ktr_room
  case k9 => exact BindsTo.of_eq (by kernel_rfl)
  case c5 => decide
  case kB => exact locs rfl
  case c2 => exact rfl
  case c3 => exact rfl
  case c4 => exact rfl
  intro g L' h' hg F' B' X' T'
  dsimp only
  clear F T X B
  have N' : News g L' h' [] := fun _ h => nomatch h
  iterate 60 (try (walk1; try dsimp only))
  rename News _ _ _ [_] => N9
  rename List.map _ _ = Txt.split _ _ => e9
  rename StrsAre _ _ => a9
  rename Fr _ _ _ _ => F9
  have n9 := N9 _ (.head _)
  rw [e9] at a9
  exact hret _ _ _ (hg ▸ F9.keep) (by assumption) ⟨_, _, rfl, n9.1, hg ▸ n9.2.2, a9⟩
end
end Mine
end
section
open PySem PySem.W PyProof.Rows
namespace Mine
set_option maxRecDepth 100000
/-- the operators' signs, written out -/
noncomputable def opsN : List (List Nat) := ["(", ")", "[", "]", ":", ",", ";", "+", "-", "*", "/", "|", "&", "<", ">", "=", ".", "%", "{", "}", "==", "!=", "<=", ">=", "~", "^", "<<", ">>", "**", "+=", "-=", "*=", "/=", "%=", "&=", "|=", "^=", "<<=", ">>=", "**=", "//", "//=", "@", "@=", "->", "...", ":=", "!"].map fun (s : String) => (Str.ofString s).cps.toList
theorem ops_len : opsL.length = 48 := by decide +kernel
theorem ops_are : opsL.map (fun y => y.cps.toList) = opsN := by decide +kernel
end Mine
end
section
open PySem PySem.W PyProof.Rows
namespace Mine
set_option maxRecDepth 100000
@[reducible] def nr1 (x : Str) : Str := Txt.replace x (Str.ofString "&quot;") (Str.ofString "\"")
@[reducible] def nr2 (x : Str) : Str := Txt.replace (nr1 x) (Str.ofString "&#x9;") (Str.ofString "\t")
@[reducible] def nr3 (x : Str) : Str := Txt.replace (nr2 x) (Str.ofString "&lt;") (Str.ofString "<")
@[reducible] def nr4 (x : Str) : Str := Txt.replace (nr3 x) (Str.ofString "&amp;") (Str.ofString "&")
noncomputable def tokD : List (PyData × PyData) := [(.str ⟨#[33]⟩, .int 54), (.str ⟨#[33, 61]⟩, .int 28), (.str ⟨#[37]⟩, .int 24), (.str ⟨#[37, 61]⟩, .int 40), (.str ⟨#[38]⟩, .int 19), (.str ⟨#[38, 61]⟩, .int 41), (.str ⟨#[40]⟩, .int 7), (.str ⟨#[41]⟩, .int 8), (.str ⟨#[42]⟩, .int 16), (.str ⟨#[42, 42]⟩, .int 35), (.str ⟨#[42, 42, 61]⟩, .int 46), (.str ⟨#[42, 61]⟩, .int 38), (.str ⟨#[43]⟩, .int 14), (.str ⟨#[43, 61]⟩, .int 36), (.str ⟨#[44]⟩, .int 12), (.str ⟨#[45]⟩, .int 15), (.str ⟨#[45, 61]⟩, .int 37), (.str ⟨#[45, 62]⟩, .int 51), (.str ⟨#[46]⟩, .int 23), (.str ⟨#[46, 46, 46]⟩, .int 52), (.str ⟨#[47]⟩, .int 17), (.str ⟨#[47, 47]⟩, .int 47), (.str ⟨#[47, 47, 61]⟩, .int 48), (.str ⟨#[47, 61]⟩, .int 39), (.str ⟨#[58]⟩, .int 11), (.str ⟨#[58, 61]⟩, .int 53), (.str ⟨#[59]⟩, .int 13), (.str ⟨#[60]⟩, .int 20), (.str ⟨#[60, 60]⟩, .int 33), (.str ⟨#[60, 60, 61]⟩, .int 44), (.str ⟨#[60, 61]⟩, .int 29), (.str ⟨#[61]⟩, .int 22), (.str ⟨#[61, 61]⟩, .int 27), (.str ⟨#[62]⟩, .int 21), (.str ⟨#[62, 61]⟩, .int 30), (.str ⟨#[62, 62]⟩, .int 34), (.str ⟨#[62, 62, 61]⟩, .int 45), (.str ⟨#[64]⟩, .int 49), (.str ⟨#[64, 61]⟩, .int 50), (.str ⟨#[91]⟩, .int 9), (.str ⟨#[93]⟩, .int 10), (.str ⟨#[94]⟩, .int 32), (.str ⟨#[94, 61]⟩, .int 43), (.str ⟨#[123]⟩, .int 25), (.str ⟨#[124]⟩, .int 18), (.str ⟨#[124, 61]⟩, .int 42), (.str ⟨#[125]⟩, .int 26), (.str ⟨#[126]⟩, .int 31)]
/-- the number that _law_number reads off a row -/
noncomputable def numT (x : Str) (k : Int) : PyData := (Spec.lookup (.str (Txt.rstripChars (if (Txt.item (nr4 x) 0 == Str.ofString ".") = true then Txt.slice (nr4 x) (some k) none else nr4 x) (Str.ofString "\t\""))) tokD).getD .none
section
local macro_rules | `(tactic| walk_at "call builtin:str.replace") => `(tactic| k_dflt ((refine' SC.replaceW ?u ?v ?uv ?yz ?x ?z ?_); (case u => (show @Ne Nat _ _; omega)); (case v => (show @Ne Nat _ _; omega)); (case uv => (show @Ne Nat _ _; omega)); (case yz => decide +kernel); (case x => omega); (case z => decide +kernel); intro _ _))
local macro_rules | `(tactic| walk_at "execs cons") => `(tactic| ((try dsimp only); (with_reducible refine wpAny_execs_cons ?_); try dsimp only))
local macro_rules | `(tactic| walk_at "execs nil") => `(tactic| ((try dsimp only); (with_reducible refine wpAny_execs_nil ?_); try dsimp only))
local macro_rules | `(tactic| walk_at "exec For Tuple List cons nil") => `(tactic| k_dflt (refine' For_turns ?F ?h ?hs ?hE; (case F => assumption); (case hs => (intro _; rfl)); (case hE => passes_own)))
set_option maxHeartbeats 8000000 in
theorem num_asks (w : World) (mean : ExcName → Option Value) (mg mb : Str → Option Value) (x : Str) (t : Tok) (k : Int) (t2 : Tok) (hk1 : 1 ≤ k) (hk2 : k ≤ 2)
    (hx : x.length ≤ 100) (hx1 : (nr1 x).length ≤ 100) (hx2 : (nr2 x).length ≤ 100) (hx3 : (nr3 x).length ≤ 100) (hx4 : (nr4 x).length ≤ 100) (hx0 : 0 < (nr4 x).length) :
    Asks w mean mg mb 91 [.str x t, .int k t2] (fun _ _ r => PyProof.V.Flat r (numT x k)) := by
  unfold Asks
  k_fill
  intro dp un gd cn cs a ccd cl outer A₀ base h₀ L m s Q E B F X T hk hdp hun hret
  refine wpAny_with_toks (Nat.le_refl _) ?_
  refine wpAny_call ?_
  refine' enter0 (binds := [(Str.ofString "row", .str x t), (Str.ofString "times", .int k t2)]) ?k1 ?k2 ?k3 ?k5 ?kA ?kF ?kK ?k6 ?k7 ?k8 ?k9 ?kB ?kR ?_ ?c2 ?c3 ?c4 ?c5
  case kR => exact rfl
  case kA => exact rfl
  case kF => exact rfl
  case kK => assumption
  case k1 => k_asm
  case k2 => k_asm
  case k3 => k_asm
  case k5 => k_asm
  case k6 => k_is
  case k7 => k_is
  case k8 => ktr_room
  case k9 => exact BindsTo.of_eq (by kernel_rfl)
  case c5 => decide
  case kB => exact locs rfl
  case c2 => exact rfl
  case c3 => exact rfl
  case c4 => exact rfl
  intro g L' h' hg F' B' X' T'
  dsimp only
  clear F T X B
  have N' : News g L' h' [] := fun _ h => nomatch h
  refine wpPos ?hpos ?_
  case hpos => (dsimp only; simp only [List.length_cons, List.length_nil]; omega)
  intro tk htk
  dsimp only
  dsimp only [nr4, nr3, nr2, nr1] at hx1 hx2 hx3 hx4 hx0
  iterate 150 (try (walk1; try dsimp only))
  · iterate 30 (walk1; try dsimp only)
    rename Fr _ _ _ _ => F9
    rename PyProof.V.Flat _ _ => f9
    rename (_ == _) = true => c9
    exact hret _ _ _ (hg ▸ F9.keep) (by assumption) (by unfold numT; rw [if_pos c9]; exact f9)
  · iterate 19 (walk1; try dsimp only)
    rename Fr _ _ _ _ => F9
    rename PyProof.V.Flat _ _ => f9
    rename (_ == _) = false => c9
    exact hret _ _ _ (hg ▸ F9.keep) (by assumption) (by unfold numT; rw [if_neg (by rw [c9]; exact Bool.false_ne_true)]; exact f9)
end
end Mine
end
section
open PySem PySem.W PyProof.Rows
namespace Mine
set_option maxRecDepth 100000
theorem plain_pattern : PlainAttrs "re.Pattern" :=
  ⟨⟨"object.__getattribute__", by rw [typeLookup_type, builtinLookup_eq_fast]; kernel_rfl, by decide +kernel⟩, by rw [typeLookup_type, builtinLookup_eq_fast]; kernel_rfl⟩
noncomputable def pat1 : Flt.PatRec := ⟨Str.ofString "", code1.toList, 0, 0⟩
noncomputable def pat2 : Flt.PatRec := ⟨Str.ofString "", code2.toList, 0, 0⟩
section
variable {prog : Program} {w : World} {A : Around} {E : Value → Shared → Prop} {s : Shared}
theorem pat_method {a : Addr} {r : Flt.PatRec} {pl : Sem Bool} {Q : Value × List Value → Shared → Prop} (hp : Flt.IsPattern s.heap a r) (h : Q (.builtin "re.Pattern.sub", [.ref a]) s) : wpAny (model prog w) A (getMethod (.ref a) "sub" pl) Q E s := by
  obtain ⟨fs, T, ws, n, h1, _⟩ := hp
  exact getMethod_builtin ⟨_, h1, rfl⟩ plain_pattern slot_sub type_sub (fun b e => by cases e; exact ⟨_, h1, rfl⟩) h
end
/-- one dot more for each dot at a line's start -/
noncomputable def dotsF (b : Bool) : List Nat → List Nat
  | [] => []
  | c :: r => if b = true ∧ c = 46 then 46 :: 46 :: dotsF false r else c :: dotsF (c == 10) r
/-- each line's end by a return and a feed -/
noncomputable def crlfF : List Nat → List Nat
  | [] => []
  | [c] => if c = 10 ∨ c = 13 then [13, 10] else [c]
  | c :: d :: r => if c = 13 ∧ d = 10 then 13 :: 10 :: crlfF r else if c = 10 ∨ c = 13 then 13 :: 10 :: crlfF (d :: r) else c :: crlfF (d :: r)
theorem searches1 (x : Str) (hx : x.cps.size ≤ 1000) : Searches pat1 x (hit1 x.cps) (fun _ => 1) := by
  intro s mu hs
  obtain ⟨n, r, hn, hN, hL⟩ := srch1 x.cps s mu hs
  exact ⟨n, r, by omega, hN, hL⟩
theorem searches2 (x : Str) : Searches pat2 x (hit2 x.cps) (w2 x.cps) := by
  intro s mu hs
  obtain ⟨n, r, hn, hN, hL⟩ := srch2 x.cps s mu hs
  exact ⟨n, r, by omega, hN, hL⟩
/-- the text from a place on, dotted -/
noncomputable def f1 (l : List Nat) (s : Nat) : List Nat := dotsF (s == 0 || (l[s - 1]?.getD 0) == 10) (l.drop s)
noncomputable def f2 (l : List Nat) (s : Nat) : List Nat := crlfF (l.drop s)
theorem dots_skip (l : List Nat) {hit : Nat → Prop} (hh : ∀ p, hit p ↔ (p = 0 ∨ l[p - 1]?.getD 0 = 10) ∧ l[p]?.getD 0 = 46) : ∀ (d s p : Nat), p - s = d → s ≤ p → p ≤ l.length → (∀ q, s ≤ q → q < p → ¬ hit q) → f1 l s = (l.drop s).take (p - s) ++ f1 l p := by
  intro d
  induction d with
  | zero => intro s p hd hs _ _; have : s = p := by omega
            subst this; simp
  | succ d ih =>
    intro s p hd hs hp hno
    have hlt : s < l.length := by omega
    have hc := hno s (Nat.le_refl _) (by omega)
    rw [hh] at hc
    have hdrop : l.drop s = l[s] :: l.drop (s + 1) := List.drop_eq_getElem_cons hlt
    have e1 : f1 l s = l[s] :: f1 l (s + 1) := by
      unfold f1
      rw [hdrop]
      have hg : l[s]?.getD 0 = l[s] := by simp [hlt]
      rw [hg] at hc
      show (if _ = true ∧ l[s] = 46 then _ else _) = _
      rw [if_neg]
      · simp [hlt]
      · rintro ⟨x, y⟩
        refine hc ⟨?_, y⟩
        simpa using x
    have e2 : p - s = (p - (s + 1)) + 1 := by omega
    rw [e1, ih (s + 1) p (by omega) (by omega) hp fun q a b => hno q (by omega) b, hdrop, e2]
    rfl
theorem crlf_skip (l : List Nat) {hit : Nat → Prop} (hh : ∀ p, hit p ↔ l[p]?.getD 0 = 10 ∨ l[p]?.getD 0 = 13) : ∀ (d s p : Nat), p - s = d → s ≤ p → p ≤ l.length → (∀ q, s ≤ q → q < p → ¬ hit q) → f2 l s = (l.drop s).take (p - s) ++ f2 l p := by
  intro d
  induction d with
  | zero => intro s p hd hs _ _; have : s = p := by omega
            subst this; simp
  | succ d ih =>
    intro s p hd hs hp hno
    have hlt : s < l.length := by omega
    have hc := hno s (Nat.le_refl _) (by omega)
    rw [hh] at hc
    have hg : l[s]?.getD 0 = l[s] := by simp [hlt]
    rw [hg] at hc
    have hdrop : l.drop s = l[s] :: l.drop (s + 1) := List.drop_eq_getElem_cons hlt
    have e1 : f2 l s = l[s] :: f2 l (s + 1) := by
      unfold f2
      rw [hdrop]
      cases l.drop (s + 1) with
      | nil => show (if _ then _ else _) = _; rw [if_neg hc]; rfl
      | cons d r =>
        show (if l[s] = 13 ∧ d = 10 then _ else if _ then _ else _) = _
        rw [if_neg (fun x => hc (.inr x.1)), if_neg hc]
    have e2 : p - s = (p - (s + 1)) + 1 := by omega
    rw [e1, ih (s + 1) p (by omega) (by omega) hp fun q a b => hno q (by omega) b, hdrop, e2]
    rfl
theorem arr_get (x : Array Nat) (p : Nat) : x[p]?.getD 0 = x.toList[p]?.getD 0 := by simp
theorem hit1_iff (x : Array Nat) (p : Nat) : hit1 x p ↔ (p = 0 ∨ x.toList[p - 1]?.getD 0 = 10) ∧ x.toList[p]?.getD 0 = 46 := by unfold hit1; rw [arr_get, arr_get]
theorem hit2_iff (x : Array Nat) (p : Nat) : hit2 x p ↔ x.toList[p]?.getD 0 = 10 ∨ x.toList[p]?.getD 0 = 13 := by unfold hit2; rw [arr_get]
theorem dots_at (l : List Nat) (p : Nat) (hp : p < l.length) (h1 : p = 0 ∨ l[p - 1]?.getD 0 = 10) (h2 : l[p]?.getD 0 = 46) : f1 l p = [46, 46] ++ f1 l (p + 1) := by
  unfold f1
  have hdrop : l.drop p = l[p] :: l.drop (p + 1) := List.drop_eq_getElem_cons hp
  have hg : l[p]?.getD 0 = l[p] := by simp [hp]
  rw [hg] at h2
  rw [hdrop]
  show (if _ = true ∧ l[p] = 46 then _ else _) = _
  rw [if_pos ⟨by simpa using h1, h2⟩]
  simp [hp, h2]
theorem crlf_at (l : List Nat) (p : Nat) (hp : p < l.length) (h : l[p]?.getD 0 = 10 ∨ l[p]?.getD 0 = 13) : f2 l p = [13, 10] ++ f2 l (p + if l[p]?.getD 0 = 13 ∧ p + 1 < l.length ∧ l[p + 1]?.getD 0 = 10 then 2 else 1) := by
  unfold f2
  have hdrop : l.drop p = l[p] :: l.drop (p + 1) := List.drop_eq_getElem_cons hp
  have hg : l[p]?.getD 0 = l[p] := by simp [hp]
  rw [hg] at h ⊢
  by_cases h2 : p + 1 < l.length
  · have hdrop2 : l.drop (p + 1) = l[p + 1] :: l.drop (p + 2) := List.drop_eq_getElem_cons h2
    have hg2 : l[p + 1]?.getD 0 = l[p + 1] := by simp [h2]
    rw [hg2]
    by_cases hc : l[p] = 13 ∧ l[p + 1] = 10
    · rw [if_pos ⟨hc.1, h2, hc.2⟩, hdrop, hdrop2]
      show (if l[p] = 13 ∧ l[p + 1] = 10 then _ else _) = _
      rw [if_pos hc]; rfl
    · rw [if_neg (fun x => hc ⟨x.1, x.2.2⟩), hdrop, hdrop2]
      show (if l[p] = 13 ∧ l[p + 1] = 10 then _ else if _ then _ else _) = _
      rw [if_neg hc, if_pos h]; rfl
  · rw [if_neg (fun x => h2 x.2.1), hdrop, List.drop_eq_nil_of_le (by omega)]
    show (if _ then _ else _) = _
    rw [if_pos h]; rfl
theorem dots_all (l : List Nat) : f1 l l.length = [] := by unfold f1; rw [List.drop_length]; rfl
theorem crlf_all (l : List Nat) : f2 l l.length = [] := by unfold f2; rw [List.drop_length]; rfl
section
variable {prog : Program} {w : World} {A : Around} {E : Value → Shared → Prop} {s : Shared}
theorem sub_dots {a : Addr} {x z : Str} {t u : Tok} {Q : Value → Shared → Prop} (hp : Flt.IsPattern s.heap a pat1) (hx : x.length ≤ 1000) (hz : z = ⟨#[46, 46]⟩)
    (hQ : ∀ h' tk t', (∀ b o, s.heap.get? b = some o → h'.get? b = some o) → Q (.str ⟨(dotsF true x.cps.toList).toArray⟩ t') { s with heap := h', toks := tk }) :
    wpAny (model prog w) A (call (.builtin "re.Pattern.sub") [.ref a, .str z u, .str x t]) Q E s := by
  subst hz
  refine call_sub (f := f1 x.cps.toList) hp (searches1 x hx) rfl hx (by decide) (by decide +kernel) (fun p hp' _ => ⟨Nat.le_refl _, hp'⟩) ?_ ?_ ?_
  · rintro st p ⟨h1, h2, h3, h4⟩
    rw [dots_skip x.cps.toList (hit1_iff x.cps) (p - st) st p rfl h1 (by simpa using Nat.le_of_lt h2) h4, List.append_assoc]
    have h3' := (hit1_iff x.cps p).mp h3
    rw [dots_at x.cps.toList p (by simpa using h2) h3'.1 h3'.2]
  · intro st hst hN
    have h4 : ∀ q, st ≤ q → q < x.cps.size → ¬ hit1 x.cps q := hN
    rw [dots_skip x.cps.toList (hit1_iff x.cps) (x.cps.size - st) st x.cps.size rfl hst (by simp) h4]
    have : f1 x.cps.toList x.cps.size = [] := by have := dots_all x.cps.toList; simpa using this
    rw [this, List.append_nil]
    exact List.take_of_length_le (by simp)
  · exact hQ
theorem sub_crlf {a : Addr} {x z : Str} {t u : Tok} {Q : Value → Shared → Prop} (hp : Flt.IsPattern s.heap a pat2) (hx : x.length ≤ 1000) (hz : z = ⟨#[13, 10]⟩)
    (hQ : ∀ h' tk t', (∀ b o, s.heap.get? b = some o → h'.get? b = some o) → Q (.str ⟨(crlfF x.cps.toList).toArray⟩ t') { s with heap := h', toks := tk }) :
    wpAny (model prog w) A (call (.builtin "re.Pattern.sub") [.ref a, .str z u, .str x t]) Q E s := by
  subst hz
  have hwd : ∀ p, w2 x.cps p = if x.cps.toList[p]?.getD 0 = 13 ∧ p + 1 < x.cps.toList.length ∧ x.cps.toList[p + 1]?.getD 0 = 10 then 2 else 1 := by
    intro p
    unfold w2
    rw [arr_get, arr_get]
    simp
  refine call_sub (f := f2 x.cps.toList) (wd := w2 x.cps) hp (searches2 x) rfl hx (by decide) (by decide +kernel) (fun p hp' _ => ?_) ?_ ?_ ?_
  · unfold w2
    split <;> omega
  · rintro st p ⟨h1, h2, h3, h4⟩
    rw [crlf_skip x.cps.toList (hit2_iff x.cps) (p - st) st p rfl h1 (by simpa using Nat.le_of_lt h2) h4, List.append_assoc]
    rw [crlf_at x.cps.toList p (by simpa using h2) ((hit2_iff x.cps p).mp h3), hwd]
  · intro st hst hN
    have h4 : ∀ q, st ≤ q → q < x.cps.size → ¬ hit2 x.cps q := hN
    rw [crlf_skip x.cps.toList (hit2_iff x.cps) (x.cps.size - st) st x.cps.size rfl hst (by simp) h4]
    have : f2 x.cps.toList x.cps.size = [] := by have := crlf_all x.cps.toList; simpa using this
    rw [this, List.append_nil]
    exact List.take_of_length_le (by simp)
  · exact hQ
end
section
local macro_rules | `(tactic| walk_at "execs cons") => `(tactic| ((try dsimp only); (with_reducible refine wpAny_execs_cons ?_); try dsimp only))
local macro_rules | `(tactic| walk_at "execs nil") => `(tactic| ((try dsimp only); (with_reducible refine wpAny_execs_nil ?_); try dsimp only))
theorem crlf_length : ∀ l : List Nat, (crlfF l).length ≤ 2 * l.length
  | [] => Nat.le_refl _
  | [c] => by unfold crlfF; split <;> simp
  | c :: d :: r => by
    have h1 := crlf_length r
    have h2 := crlf_length (d :: r)
    unfold crlfF
    simp only [List.length_cons] at h1 h2 ⊢
    split
    · simp only [List.length_cons]; omega
    · split <;> simp only [List.length_cons] <;> omega
noncomputable def quoteT (x : Str) : Str := ⟨(dotsF true (crlfF x.cps.toList)).toArray⟩
set_option maxHeartbeats 8000000 in
theorem quote_asks (w : World) (mean : ExcName → Option Value) (mg mb : Str → Option Value) (x : Str) (t : Tok) (hx : x.length ≤ 400) :
    Asks w mean mg mb 62 [.str x t] (fun _ _ r => ∃ t, r = .str (quoteT x) t) := by
  unfold Asks
  k_fill
  intro dp un gd cn cs a ccd cl outer A₀ base h₀ L m s Q E B F X T hk hdp hun hret
  refine wpAny_with_toks (Nat.le_refl _) ?_
  refine wpAny_call ?_
  refine' enter0 (binds := [(Str.ofString "data", .str x t)]) ?k1 ?k2 ?k3 ?k5 ?kA ?kF ?kK ?k6 ?k7 ?k8 ?k9 ?kB ?kR ?_ ?c2 ?c3 ?c4 ?c5
  case kR => exact rfl
  case kA => exact rfl
  case kF => exact rfl
  case kK => assumption
  case k1 => k_asm
  case k2 => k_asm
  case k3 => k_asm
  case k5 => k_asm
  case k6 => k_is
  case k7 => k_is
  case k8 => ktr_room
  case k9 => exact BindsTo.of_eq (by kernel_rfl)
  case c5 => decide
  case kB => exact locs rfl
  case c2 => exact rfl
  case c3 => exact rfl
  case c4 => exact rfl
  intro g L' h' hg F' B' X' T'
  dsimp only
  clear F T X B
  have N' : News g L' h' [] := fun _ h => nomatch h
  have o50 : (topK w.params).lookup 50 = some { cls := .type "re.Pattern", data := .fields #[.str { cps := #[40, 63, 109, 41, 94, 92, 46] } 301, .int 40 314, .int 0 0, .none, .none, .ref 49, .int 0 0] } := by kernel_rfl
  have o49 : (topK w.params).lookup 49 = some { cls := .type "tuple", data := .seq (#[14, 4, 0, 1, 1, 6, 1, 16, 46, 1].map fun n => Value.int n 0) 0 } := by kernel_rfl
  have o55 : (topK w.params).lookup 55 = some { cls := .type "re.Pattern", data := .fields #[.str { cps := #[40, 63, 58, 92, 114, 92, 110, 124, 92, 110, 124, 92, 114, 40, 63, 33, 92, 110, 41, 41] } 317, .int 32 356, .int 0 0, .none, .none, .ref 54, .int 0 0] } := by kernel_rfl
  have o54 : (topK w.params).lookup 54 = some { cls := .type "tuple", data := .seq (#[14, 9, 4, 1, 2, 16, 10, 16, 13, 0, 7, 7, 16, 13, 16, 10, 15, 18, 5, 16, 10, 15, 13, 11, 16, 13, 5, 5, 0, 16, 10, 1, 15, 2, 0, 1].map fun n => Value.int n 0) 0 } := by kernel_rfl
  have p1 : Flt.IsPattern g 50 pat1 := ⟨_, 49, _, 0, X' _ _ o50, rfl, rfl, rfl, X' _ _ o49, by decide +kernel⟩
  have p2 : Flt.IsPattern g 55 pat2 := ⟨_, 54, _, 0, X' _ _ o55, rfl, rfl, rfl, X' _ _ o54, by decide +kernel⟩
  have p1' : Flt.IsPattern h' 50 pat1 := p1.keeps F'.keep
  have p2' : Flt.IsPattern h' 55 pat2 := p2.keeps F'.keep
  iterate 4 (walk1; try dsimp only)
  refine pat_method (r := pat1) p1' ?_
  try dsimp only
  iterate 6 (walk1; try dsimp only)
  refine pat_method (r := pat2) p2' ?_
  try dsimp only
  iterate 6 (walk1; try dsimp only)
  refine sub_crlf p2' (Nat.le_trans hx (by decide)) (by decide +kernel) fun h2 tk2 t2 hk2 => ?_
  dsimp only
  have p1'' : Flt.IsPattern h2 50 pat1 := p1'.keeps hk2
  have F2 := F'.keeps hk2
  iterate 1 (walk1; try dsimp only)
  refine sub_dots p1'' ?_ (by decide +kernel) fun h3 tk3 t3 hk3 => ?_
  · have := crlf_length x.cps.toList
    have hx' : x.cps.toList.length ≤ 400 := by simpa [Str.length] using hx
    show (crlfF x.cps.toList).toArray.size ≤ 1000
    simp only [List.size_toArray]
    omega
  intro hle
  exact hret _ _ _ (fun b o e => hk3 b o (hk2 b o (F'.keep b o (hg ▸ e)))) hle ⟨_, rfl⟩
end
end Mine
end
section
open PySem PySem.W PyProof.Rows
namespace Mine
set_option maxRecDepth 100000
noncomputable def CellsAre10 (o : Obj) (zs : List Int) : Prop := ∃ cs n, o = W.listOf cs.toArray n ∧ IntsAre cs zs ∧ zs.length = 10 ∧ ∀ z ∈ zs, 0 ≤ z
section
local macro_rules | `(tactic| walk_at "execs cons") => `(tactic| ((try dsimp only); (with_reducible refine wpAny_execs_cons ?_); try dsimp only))
local macro_rules | `(tactic| walk_at "execs nil") => `(tactic| ((try dsimp only); (with_reducible refine wpAny_execs_nil ?_); try dsimp only))
local macro_rules | `(tactic| walk_at "exec For Tuple Call cons nil") => `(tactic| k_dflt (refine' For_turns ?F ?h ?hs ?hE; (case F => assumption); (case hs => (intro _; rfl)); (case hE => passes_own)))
set_option maxHeartbeats 8000000 in
theorem cells_asks (w : World) (mean : ExcName → Option Value) (mg mb : Str → Option Value) (dp un : Nat) (gd : Option (List Code)) (cn : Str) (cs : Scope) (a : Addr) (ccd : Value) (cl : List (Str × Addr)) (outer : List Env) (A₀ : Around) (base h₀ : Heap) (L : Addr) (m : Str → Option Value) (s : Shared)
    (Q E : Value → Shared → Prop) (B : Below A₀ base outer h₀) (F : Fr h₀ L s.heap m) (X : (topK w.params).In h₀) (T : Top topQ (looseW topQ [Str.ofString "_twin_re_1", Str.ofString "_twin_re_2", Str.ofString "EXACT_TOKEN_TYPES"]) mean mg mb h₀) (hk : cs.kind = .function) (hdp : dp + 10 < recursionLimit) (hun : un + 80 < cLine)
    (sl c : Addr) (vs : List Value) (ns : List Int) (oC : Obj) (zs : List Int) (hsl : s.heap.IsList sl vs.toArray) (hsc : sl ≠ c) (hvs : IntsAre vs ns) (hns : ns.length ≤ 63) (hC : CellsAre10 oC zs) (N : News h₀ L s.heap [(c, oC)])
    (hret : ∀ h' tk' oC' zs', (∀ b o, b ≠ c → s.heap.get? b = some o → h'.get? b = some o) → h'.get? c = some oC' → CellsAre10 oC' zs' → Q (.ref c) { s with heap := h', toks := tk' }) :
    wpAny (model PySem.Challenge.rw_st0009_01.row.prog w) (ktrTop dp un gd cn cs L a ccd cl outer) (call (.ref 72) [.ref sl, .ref c]) Q E s := by
  revert X
  k_fill
  intro X
  refine wpAny_call ?_
  refine' enterH (binds := [(Str.ofString "script", .ref sl), (Str.ofString "cells", .ref c)]) ?k1 ?k2 ?k3 ?k5 ?k4 ?kA ?kF ?kK ?k6 ?k7 ?k8 ?k9 ?kB ?kR ?_ ?c2 ?c3 ?c4 ?c5
  case kR => exact rfl
  case kA => exact rfl
  case kF => exact rfl
  case kK => assumption
  case k1 => k_asm
  case k2 => k_asm
  case k3 => k_asm
  case k5 => k_asm
  case k4 => exact N
  case k6 => k_is
  case k7 => k_is
  case k8 => ktr_room
  case k9 => exact BindsTo.of_eq (by kernel_rfl)
  case c5 => decide
  case kB => exact locs rfl
  case c2 => exact rfl
  case c3 => exact rfl
  case c4 => exact rfl
  intro g L' h' hg F' N' B' X' T'
  dsimp only
  clear F T X B N
  have hsg : g.IsList sl vs.toArray := by obtain ⟨o, ho, r⟩ := hsl; exact ⟨o, hg _ _ hsc ho, r⟩
  iterate 13 (walk1; try dsimp only)
  k_dflt refine' kmk_slice_ints (s := { heap := h', gens := s.gens, drawn := s.drawn, toks := _, os := s.os }) (vs := vs) (ns := ns) ?sF ?sN ?sl ?sp ?sq ?si ?sm ?sc ?_ ?ss ?st ?sz
  case sF => k_asm
  case sN => k_asm
  case sl => exact Fr.lst F' hsg
  case sp => kmk_part
  case sq => kmk_part
  case si => exact hvs
  case sm => kmk_nums
  case sc => kmk_len
  case ss => with_unfolding_all rfl
  case st => kmk_pure
  case sz => exact kmk_sz hvs (by rw [sizeLine_eq]; omega)
  intro D ws h2 F2 N2 l1 hI hC1 hC2
  walk1
  refine ktu_enum (vs := ws) (n := 0) rfl F2 N2 (.head _) rfl rfl rfl ?_
  intro I lI
  have hDc : @LT.lt Nat _ c D := l1 _ (.head _)
  have hDI : @LT.lt Nat _ D I := lI _ (.head _)
  have hcI : @LT.lt Nat _ c I := lI _ (.tail _ (.head _))
  clear F2 N2 l1 lI F' N' hsg
  refine items_ind (fun xs m nw => ∃ (ws' : List Value) (ks : List Int) (i : Nat) (u : Str → Option Value) (oC' : Obj) (zs' : List Int), xs = enumItems i ws' ∧ IntsAre ws' ks ∧ CellsAre10 oC' zs' ∧ nw = [(D, W.listOf ws.toArray 0), (c, oC')] ∧
      m = (fun y => if y = Str.ofString "number" then u y else if y = Str.ofString "place" then u y else mp [(Str.ofString "cells", Value.ref c), (Str.ofString "script", Value.ref sl)] y)) ?_ ?_ _ _ _ ?_
  · rintro a0 r m1 nw ⟨ws', ks, i, u, oC', zs', hx, hks, hC', rfl, rfl⟩ v h tk ha F
    cases hks with
    | nil => cases hx
    | @cons k0 t0 vs0 ks0 hr =>
      cases hx
      obtain ⟨T, t, rfl, hT⟩ := ha
      obtain ⟨cs', n', rfl, hcs, hz10, hz0⟩ := hC'
      intro o1 hc1 o2 hc2 N
      simp only [List.cons_append, List.nil_append] at N
      dsimp only at hc1 hc2 ⊢
      have hlen : cs'.length = 10 := hcs.length.trans hz10
      have hk0 : 0 ≤ (i : Int).fmod (zs'.length : Int) := by rw [hz10]; exact Int.fmod_nonneg_of_pos _ (by decide)
      have hk1 : (i : Int).fmod (zs'.length : Int) < (zs'.length : Int) := by rw [hz10]; exact Int.fmod_lt_of_pos _ (by decide)
      iterate 30 (walk1; try dsimp only)
      rename Fr _ _ _ (fun y => if y = Str.ofString "number" then some _ else _) => F9
      rename News _ _ _ _ => N9
      refine' ksa_set (vs := cs') (ns := zs') (n := n') ?sF ?sN ?sU hcs hk0 hk1 ?sfit ?_
      case sF => exact F9
      case sN => exact N9
      case sU => exact .tail (by show @Ne Nat _ _; omega) (.tail (by show @Ne Nat _ _; omega) (.tail (by show @Ne Nat _ _; omega) (.head fun _ h => nomatch h)))
      case sfit => rw [hz10] at hk1 ⊢; omega
      intro h3 F3 N3 hi3 hl3 _
      walk1
      refine UnrEndW.intro F3 N3 [(D, W.listOf ws.toArray 0), (c, _)] ⟨.head _, .tail _ (.head _), trivial⟩ ⟨.tail _ (.tail _ (.head _)), .tail _ (.tail _ (.tail _ (.head _))), trivial⟩ ?_ ⟨⟨.head _, trivial⟩, vs0, ks0, i + 1, (fun y => if y = Str.ofString "number" then some (Value.int k0 t0) else some (Value.int (i : Int) t)), _, _, rfl, hr, ⟨_, n', rfl, hi3, hl3.trans hz10, ?_⟩, rfl, ?_⟩
      · exact ⟨⟨.inl (by show @Ne Nat _ _; omega), .inl (by show @Ne Nat _ _; omega), trivial⟩, ⟨.inl (by show @Ne Nat _ _; omega), .inl (by show @Ne Nat _ _; omega), trivial⟩, trivial⟩
      · intro z hz
        rcases List.mem_or_eq_of_mem_set hz with h | h
        · exact hz0 z h
        · rw [h]
          have h1 : 0 ≤ zs'.getD ((i : Int).fmod (zs'.length : Int)).toNat 0 := by
            rw [List.getD_eq_getElem?_getD]
            cases hg : zs'[((i : Int).fmod (zs'.length : Int)).toNat]? with
            | none => exact Int.le_refl _
            | some v => exact hz0 v (List.mem_of_getElem? hg)
          have h2 : 0 ≤ k0.fmod (10 ^ Int.toNat 8) := Int.fmod_nonneg_of_pos _ (by decide)
          omega
      · funext y
        by_cases h1 : y = Str.ofString "number"
        · simp only [if_pos h1]
        · by_cases h2 : y = Str.ofString "place"
          · simp only [if_neg h1, if_pos h2]
          · simp only [if_neg h1, if_neg h2]
  · rintro m1 nw ⟨ws', ks, i, u, oC', zs', hx, hks, hC', rfl, rfl⟩ h tk F N
    dsimp only
    iterate 3 (walk1; try dsimp only)
    exact hret _ _ _ _ (fun b o hb e => F.keep b o (hg b o hb e)) (N _ (.tail _ (.head _))).1 hC'
  · refine ⟨ws, _, 0, mp [(Str.ofString "cells", Value.ref c), (Str.ofString "script", Value.ref sl)], oC, zs, rfl, hI, hC, rfl, ?_⟩
    show mp [(Str.ofString "cells", Value.ref c), (Str.ofString "script", Value.ref sl)] = _
    funext y
    split
    · rfl
    · split <;> rfl
end
end Mine
end
section
open PySem PySem.W PyProof.Rows PySem.Calls
namespace Mine
set_option maxRecDepth 100000
theorem ints_add {z : Int} : ∀ {ys : List Value} {xs : List Int}, ys.length = xs.length → (∀ (i : Nat) (v : Value), ys[i]? = some v → ∃ x t, xs[i]? = some x ∧ v = Value.int (x + z) t) → IntsAre ys (xs.map (· + z))
  | [], [], _, _ => .nil
  | y :: ys, x :: xs, hl, h => by
    obtain ⟨x', t, e, rfl⟩ := h 0 y rfl
    cases (show some x = some x' from e)
    exact .cons _ _ (ints_add (by simpa using hl) fun i v hv => h (i + 1) v hv)
  | [], _ :: _, hl, _ => by simp at hl
  | _ :: _, [], hl, _ => by simp at hl
section
variable {prog : Program} {w : World} {A : Around} {E : Value → Shared → Prop} {s s₁ : Shared} {h₀ : Heap} {L : Addr} {m : Str → Option Value} {env : Env} {news : List (Addr × Obj)}
theorem src_empties {p : Pos} {x : Str} {scope : Scope} {cl : List (Str × Addr)} {r : Addr} {a b : Int} {t u v : Tok} {n : Nat} {Q : Value → Shared → Prop} (hh : A.handled = none) (F : Fr h₀ L s₁.heap m) (N : News h₀ L s₁.heap news) (hr : IsRange s₁.heap r a b 1 t u v) (hsm : Builtin.Range.small a b 1 = true) (hn : Builtin.Range.rangeSize a b 1 = ((n : Nat) : Int)) (hsz : n ≤ sizeLine)
    (h : ∀ D h' tk ys news', Fr h₀ L h' m → News h₀ L h' ((D, LCg.lst ys) :: news') → LCg.Off1 D news' → ys.length = n → (∀ v ∈ ys, ∃ r, v = .ref r ∧ (r, W.listOf #[] 0) ∈ news') → (∀ p ∈ news, p ∈ news') → Q (.ref D) { s₁ with heap := h', toks := tk }) :
    LCg.CompSrc prog w A h₀ L m env (.List [] p) x scope cl (fun s₂ => LCg.FinE h₀ L m s₂ Q) (.ref r) s₁ := by
  refine LCg.CompSrc.range hh F N hr hsm hn hsz fun gg => rest_inv (fun i ys news' => ys.length = i ∧ (∀ v ∈ ys, ∃ r, v = .ref r ∧ (r, W.listOf #[] 0) ∈ news') ∧ ∀ p ∈ news, p ∈ news') ?_ ?_ ?_
  · intro i v ys news I oI C oC D m₂ h tk E' hi hinv hv hC hx F N off ne
    obtain ⟨h1, h2, h3⟩ := hinv
    walk1
    walk1
    walk1
    rename Fr _ _ _ _ => F1
    rename News _ _ _ _ => N1
    have hsz : ∀ p ∈ (I, oI) :: (C, oC) :: (D, LCg.lst ys) :: news, @Ne Nat p.1 h.objs.size := fun p hp => Nat.ne_of_lt (Heap.lt_size (N p hp).1)
    refine LCg.CompEnd.intro F1 N1 ((h.objs.size, W.listOf #[] 0) :: news) ?_ ?_ trivial ?_
    · intro p hp
      rcases List.mem_cons.mp hp with rfl | hp
      · exact .tail _ (.head _)
      rcases List.mem_cons.mp hp with rfl | hp
      · exact .tail _ (.tail _ (.head _))
      rcases List.mem_cons.mp hp with rfl | hp
      · exact .tail _ (.tail _ (.tail _ (.head _)))
      rcases List.mem_cons.mp hp with rfl | hp
      · exact .head _
      · exact .tail _ (.tail _ (.tail _ (.tail _ hp)))
    · exact ⟨⟨Ne.symm (hsz _ (.head _)), Ne.symm (hsz _ (.tail _ (.head _))), Ne.symm (hsz _ (.tail _ (.tail _ (.head _))))⟩, off⟩
    · refine ⟨by simp [h1], ?_, fun p hp => .tail _ (h3 p hp)⟩
      intro v hv
      rcases List.mem_append.mp hv with hv | hv
      · obtain ⟨r, e, hm⟩ := h2 v hv
        exact ⟨r, e, .tail _ hm⟩
      · exact ⟨_, List.mem_singleton.mp hv, .head _⟩
  · exact ⟨rfl, (fun _ h => nomatch h), fun _ h => h⟩
  · rintro ys news' ⟨h1, h2, h3⟩ D h' tk F' N' off
    exact h D h' tk ys news' F' N' off h1 h2 h3
theorem src_addall {one num : Str} {p1 p2 p3 : Pos} {scope : Scope} {cl : List (Str × Addr)} {S c : Addr} {o : Obj} {z : Int} {tz : Tok} {ws : List Value} {xs : List Int} {n : Nat} {Q : Value → Shared → Prop} (hh : A.handled = none) (F : Fr h₀ L s₁.heap m) (N : News h₀ L s₁.heap news)
    (hS : (S, W.listOf ws.toArray n) ∈ news) (hw : IntsAre ws xs) (hc : cl.lookup num = some c) (hm : (c, o) ∈ news) (hd : o.data = .cell (some (.int z tz))) (hsz : xs.length ≤ sizeLine)
    (h : ∀ D h' tk ys, Fr h₀ L h' m → News h₀ L h' ((D, LCg.lst ys) :: news) → LCg.Off1 D news → IntsAre ys (xs.map (· + z)) → Q (.ref D) { s₁ with heap := h', toks := tk })
    (hk : ∀ C, (compEnvC scope cl C env).scope.kind = .function) (h1 : ∀ C, (compEnvC scope cl C env).kindOf one = some .local) (h2 : ∀ C, (compEnvC scope cl C env).kindOf num = some .cell)
    (hb1 : (one == ("__debug__" : Str)) = false) (hb2 : (num == ("__debug__" : Str)) = false) :
    LCg.CompSrc prog w A h₀ L m env (.BinOp (.Name one p1) .Add (.Name num p2) p3) one scope cl (fun s₂ => LCg.FinE h₀ L m s₂ Q) (.ref S) s₁ := by
  have hlen : ws.length = xs.length := hw.length
  refine LCg.CompSrc.ledger hh F N hS (by simpa [hlen] using hsz) fun gg => rest_same (fun i y => ∃ x t, xs[i]? = some x ∧ y = .int (x + z) t) ?_ ?_
  · intro i v ys I oI C oC D m₂ h tk E' hi hl hv hC hx F N off ne
    obtain ⟨x, t, rfl, hxs⟩ := hw.at i v (by simpa using hv)
    refine wpAny_BinOp (LCgL.ld_own N (.tail _ (.head _)) hC hx (lcf_cell N hc (.tail _ (.tail _ (.tail _ hm))) hd (wpAny_add_int ?_) (hk C) (h2 C) hb2) (hk C) (h1 C) hb1)
    exact LCg.CompEnd.intro F N news (fun _ h => h) off (.inr ⟨_, hS, rfl, _, rfl⟩) ⟨rfl, x, _, hxs, rfl⟩
  · intro ys hl hy D h' tk F' N' off
    refine h D h' tk ys F' N' off (ints_add ?_ hy)
    simpa [hlen] using hl
theorem testrest {ct elt : Expr} {x : Str} {scope : Scope} {cl : List (Str × Addr)} {S : List (Addr × Obj) → Prop} {P : Nat → Value → Prop} {Fin : List Value → List (Addr × Obj) → Prop} {news₀ : List (Addr × Obj)} {n : Nat} (Inv : Nat → List Value → List (Addr × Obj) → Prop)
    (turn : ∀ i v ys news I oI C oC D m₂ h tk (E' : Value → Shared → Prop), i < n → Inv i ys news → P i v → LCg.NsObj oC m₂ → m₂ x = some v → Fr h₀ L h m → News h₀ L h ((I, oI) :: (C, oC) :: (D, LCg.lst ys) :: news) → LCg.Off3 I C D news → ((@Ne Nat I C) ∧ (@Ne Nat I D) ∧ (@Ne Nat C D)) →
      wpAny (model prog w) A (isTrue ct (compEnvC scope cl C env) (eval ct (compEnvC scope cl C env))) (fun ok s' => if ok = true then
        wpAny (model prog w) A (eval elt (compEnvC scope cl C env)) (LCg.CompEnd h₀ L m { s with heap := h, toks := tk } I oI C oC D (LCg.lst ys) S (fun y news' => Inv (i + 1) (ys ++ [y]) news')) E' s'
        else LCg.CompEnd h₀ L m { s with heap := h, toks := tk } I oI C oC D (LCg.lst ys) S (fun _ news' => Inv (i + 1) ys news') Value.none s') E' { s with heap := h, toks := tk })
    (h0 : Inv 0 [] news₀) (fin : ∀ ys news, Inv n ys news → Fin ys news) : LCt.CompRestT prog w A h₀ L m env ct elt x scope cl s S P Fin n 0 [] news₀ := by
  have key : ∀ (j i : Nat) (ys : List Value) (news : List (Addr × Obj)), i + j = n → Inv i ys news → LCt.CompRestT prog w A h₀ L m env ct elt x scope cl s S P Fin j i ys news := by
    intro j
    induction j with
    | zero => exact fun i ys news hi hy => LCt.CompRestT.zero (fin ys news (by have : i = n := by omega
                                                                               exact this ▸ hy))
    | succ j ih =>
      intro i ys news hi hy
      refine LCt.CompRestT.succ ?_
      intro v I oI C oC D m₂ h tk E' hv hC hx F N off ne
      have e : ∀ {R R' : Value → List (Addr × Obj) → Prop} {y : Value} {s₂ : Shared}, (∀ y nw, R y nw → R' y nw) → LCg.CompEnd h₀ L m { s with heap := h, toks := tk } I oI C oC D (LCg.lst ys) S R y s₂ → LCg.CompEnd h₀ L m { s with heap := h, toks := tk } I oI C oC D (LCg.lst ys) S R' y s₂ := by
        rintro R R' y s₂ hR ⟨h', tk', nw, a, b, c, d, f, r⟩
        exact ⟨h', tk', nw, a, b, c, d, f, hR _ _ r⟩
      refine wpAny_mono (turn i v ys news I oI C oC D m₂ h tk E' (by omega) hy hv hC hx F N off ne) (fun ok s₂ hq => ?_) fun _ _ e => e
      cases ok
      · exact e (y := Value.none) (fun y nw hy' => ih (i + 1) _ nw (by omega) hy') hq
      · exact wpAny_mono hq (fun y s₃ hq' => e (fun y nw hy' => ih (i + 1) _ nw (by omega) hy') hq') fun _ _ e => e
  exact key n 0 [] news₀ (by omega) h0
theorem src_divs {one num : Str} {p0 p1 p2 p3 p4 p5 : Pos} {scope : Scope} {cl : List (Str × Addr)} {S c : Addr} {o : Obj} {z : Int} {tz : Tok} {ws : List Value} {xs : List Int} {n : Nat} {Q : Value → Shared → Prop} (hh : A.handled = none) (F : Fr h₀ L s₁.heap m) (N : News h₀ L s₁.heap news)
    (hS : (S, W.listOf ws.toArray n) ∈ news) (hw : IntsAre ws xs) (hc : cl.lookup num = some c) (hm : (c, o) ∈ news) (hd : o.data = .cell (some (.int z tz))) (hz : z ≠ 0) (hsz : xs.length ≤ sizeLine)
    (h : ∀ D h' tk ys, Fr h₀ L h' m → News h₀ L h' ((D, LCg.lst ys) :: news) → LCg.Off1 D news → IntsAre ys (xs.filter (fun x => x.fmod z == 0)) → Q (.ref D) { s₁ with heap := h', toks := tk })
    (hk : ∀ C, (compEnvC scope cl C env).scope.kind = .function) (h1 : ∀ C, (compEnvC scope cl C env).kindOf one = some .local) (h2 : ∀ C, (compEnvC scope cl C env).kindOf num = some .cell)
    (hb1 : (one == ("__debug__" : Str)) = false) (hb2 : (num == ("__debug__" : Str)) = false) :
    LCt.CompSrcT prog w A h₀ L m env (.Compare (.BinOp (.Name one p1) .Mod (.Name num p2) p3) [.Eq] [.Constant (.int 0) 0 p4] p5) (.Name one p0) one scope cl (fun s₂ => LCg.FinE h₀ L m s₂ Q) (.ref S) s₁ := by
  have hlen : ws.length = xs.length := hw.length
  refine LCt.CompSrcT.ledger hh F N hS (by simpa [hlen] using hsz) fun gg => testrest (fun i ys nw => nw = news ∧ IntsAre ys ((xs.take i).filter (fun x => x.fmod z == 0))) ?_ ?_ ?_
  · rintro i v ys nw I oI C oC D m₂ h tk E' hi ⟨rfl, hys⟩ hv hC hx F N off ne
    obtain ⟨x, t, rfl, hxs⟩ := hw.at i v (by simpa using hv)
    refine wpAny_isTrue_Compare1 (wpAny_BinOp (LCgL.ld_own N (.tail _ (.head _)) hC hx (lcf_cell N hc (.tail _ (.tail _ (.tail _ hm))) hd (mod_int' hz ?_) (hk C) (h2 C) hb2) (hk C) (h1 C) hb1))
    walk1
    walk1
    walk1
    have htake : xs.take (i + 1) = xs.take i ++ [x] := by rw [List.take_add_one, hxs]; rfl
    cases hb : (x.fmod z == 0)
    · rw [if_neg (by simp)]
      refine LCg.CompEnd.intro F N nw (fun _ h => h) off (.inr ⟨_, hS, rfl, _, rfl⟩) ⟨rfl, ?_⟩
      rw [htake, List.filter_append, List.filter_cons_of_neg (by simp [hb])]
      simpa using hys
    · rw [if_pos rfl]
      refine LCgL.ld_own N (.tail _ (.head _)) hC hx ?_ (hk C) (h1 C) hb1
      refine LCg.CompEnd.intro F N nw (fun _ h => h) off (.inr ⟨_, hS, rfl, _, rfl⟩) ⟨rfl, ?_⟩
      rw [htake, List.filter_append, show List.filter (fun x : Int => x.fmod z == 0) [x] = [x] from List.filter_cons_of_pos (p := fun x : Int => x.fmod z == 0) (a := x) (l := []) hb]
      exact hys.append (.cons _ _ .nil)
  · exact ⟨rfl, .nil⟩
  · rintro ys nw ⟨rfl, hys⟩ D h' tk F' N' off
    refine h D h' tk ys F' N' off ?_
    rw [List.take_of_length_le (by simp [hlen])] at hys
    exact hys
end
end Mine
end
section
open PySem PySem.W PyProof.Rows PySem.Calls
namespace Mine
noncomputable def shRow (z : Int) (X : List (List Int)) (j : Nat) : List (List Int) := X.set j (X.getD j [] ++ (X.getD (j - 1) []).map (· + z))
noncomputable def shPart (k : Nat) (z : Int) (X : List (List Int)) (i : Nat) : List (List Int) := (List.range i).foldl (fun X i => shRow z X (k - i)) X
noncomputable def shNum (k : Nat) (X : List (List Int)) (z : Int) : List (List Int) := shPart k z X k
noncomputable def shAll (k : Nat) (ns : List Int) : List (List Int) := ns.foldl (shNum k) ([0] :: List.replicate k [])
noncomputable def shareB (k : Int) (ns : List Int) : Bool := !((((shAll k.toNat ns).getD k.toNat []).filter (fun x => x.fmod k == 0)).isEmpty)
theorem shRow_length {z : Int} {X : List (List Int)} {j : Nat} : (shRow z X j).length = X.length := by unfold shRow; simp
theorem shPart_succ {k : Nat} {z : Int} {X : List (List Int)} {i : Nat} : shPart k z X (i + 1) = shRow z (shPart k z X i) (k - i) := by
  unfold shPart
  rw [List.range_succ, List.foldl_append]
  rfl
theorem shPart_length {k : Nat} {z : Int} {X : List (List Int)} : ∀ i : Nat, (shPart k z X i).length = X.length
  | 0 => rfl
  | i + 1 => by rw [shPart_succ, shRow_length, shPart_length i]
theorem shPart_same {k : Nat} {z : Int} {X : List (List Int)} : ∀ i j : Nat, j + i ≤ k → (shPart k z X i).getD j [] = X.getD j []
  | 0, _, _ => rfl
  | i + 1, j, h => by
    rw [shPart_succ]
    unfold shRow
    have hj : k - i ≠ j := by omega
    have ih := shPart_same (k := k) (z := z) (X := X) i j (by omega)
    rw [List.getD_eq_getElem?_getD, List.getElem?_set_ne hj, ← List.getD_eq_getElem?_getD]
    exact ih
theorem shPart_bound {k b : Nat} {z : Int} {X : List (List Int)} (hb : ∀ j, (X.getD j []).length ≤ b) : ∀ i : Nat, i ≤ k → ∀ j, ((shPart k z X i).getD j []).length ≤ 2 * b
  | 0, _, j => Nat.le_trans (hb j) (by omega)
  | i + 1, hi, j => by
    rw [shPart_succ]
    unfold shRow
    rw [List.getD_eq_getElem?_getD, List.getElem?_set]
    split
    · split
      · rw [Option.getD_some, List.length_append, List.length_map, shPart_same i (k - i) (by omega), shPart_same i (k - i - 1) (by omega)]
        have h1 := hb (k - i)
        have h2 := hb (k - i - 1)
        omega
      · simp
    · rw [← List.getD_eq_getElem?_getD]
      exact shPart_bound hb i (by omega) j
theorem shAll_snoc {k : Nat} {ns : List Int} {z : Int} : shAll k (ns ++ [z]) = shNum k (shAll k ns) z := by unfold shAll; rw [List.foldl_append]; rfl
theorem shAll_length {k : Nat} : ∀ ns : List Int, (shAll k ns).length = k + 1 := by
  intro ns
  unfold shAll
  generalize h : ([0] :: List.replicate k [] : List (List Int)) = X
  have hX : X.length = k + 1 := by rw [← h]; simp
  clear h
  induction ns generalizing X with
  | nil => exact hX
  | cons z r ih => exact ih _ (by unfold shNum; rw [shPart_length]; exact hX)
theorem shAll_bound {k : Nat} (ns : List Int) : ∀ j, ((shAll k ns).getD j []).length ≤ 2 ^ ns.length := by
  unfold shAll
  have key : ∀ (ns : List Int) (X : List (List Int)) (b : Nat), (∀ j, (X.getD j []).length ≤ b) → ∀ j, ((ns.foldl (shNum k) X).getD j []).length ≤ 2 ^ ns.length * b := by
    intro ns
    induction ns with
    | nil => intro X b hb j; simpa using hb j
    | cons z r ih =>
      intro X b hb j
      have := ih (shNum k X z) (2 * b) (shPart_bound hb k (Nat.le_refl _)) j
      rw [List.length_cons, Nat.pow_succ, Nat.mul_assoc]
      exact this
  intro j
  have := key ns ([0] :: List.replicate k []) 1 (fun j => ?_) j
  · simpa using this
  · cases j with
    | zero => simp
    | succ j =>
      rw [List.getD_cons_succ, List.getD_eq_getElem?_getD, List.getElem?_replicate]
      split <;> simp
theorem shPart_bound_all {k i : Nat} {z : Int} (ns : List Int) (hi : i ≤ k) (hn : ns.length < 9) : ∀ j, ((shPart k z (shAll k ns) i).getD j []).length ≤ 512 := by
  intro j
  have h1 := shPart_bound (z := z) (fun j => shAll_bound (k := k) ns j) i hi j
  have h2 : 2 ^ ns.length ≤ 2 ^ 8 := Nat.pow_le_pow_right (by decide) (by omega)
  omega
/-- the rows of sums as they lie in the heap -/
noncomputable def ShN (news : List (Addr × Obj)) (S : Addr) (X : List (List Int)) : Prop :=
  ∃ refs n, (S, W.listOf (refs : List Value).toArray n) ∈ news ∧ refs.length = X.length ∧ ∀ i xs, X[(i : Nat)]? = some xs → ∃ r ws n', refs[i]? = some (Value.ref r) ∧ (r, W.listOf (ws : List Value).toArray n') ∈ news ∧ IntsAre ws xs
theorem ShN.sub {news news' : List (Addr × Obj)} {S : Addr} {X : List (List Int)} (h : ShN news S X) (hs : ∀ p ∈ news, p ∈ news') : ShN news' S X := by
  obtain ⟨refs, n, h1, h2, h3⟩ := h
  exact ⟨refs, n, hs _ h1, h2, fun i xs hx => by obtain ⟨r, ws, n', a, b, c⟩ := h3 i xs hx; exact ⟨r, ws, n', a, hs _ b, c⟩⟩
theorem news_same {h₀ h : Heap} {L a : Addr} {o o' : Obj} {news : List (Addr × Obj)} (N : News h₀ L h news) (h1 : (a, o) ∈ news) (h2 : (a, o') ∈ news) : o = o' := by
  have e1 := (N _ h1).1
  have e2 := (N _ h2).1
  exact Option.some.inj (e1.symm.trans e2)
/-- a cell is written anew -/
theorem ShN.put {h₀ h : Heap} {L c S : Addr} {o o' : Obj} {v : Option Value} {news : List (Addr × Obj)} {X : List (List Int)} (H : ShN news S X) (N : News h₀ L h news) (hc : (c, o) ∈ news) (hd : o.data = .cell v) : ShN (Mine.put c o' news) S X := by
  obtain ⟨refs, n, h1, h2, h3⟩ := H
  have ne : ∀ (r : Addr) (ws : List Value) n', (r, W.listOf ws.toArray n') ∈ news → @Ne Nat r c := by
    rintro r ws n' hm rfl
    have := news_same N hc hm
    subst this
    cases hd
  exact ⟨refs, n, put_ne h1 (ne _ _ _ h1), h2, fun i xs hx => by obtain ⟨r, ws, n', a, b, d⟩ := h3 i xs hx; exact ⟨r, ws, n', a, put_ne b (ne _ _ _ b), d⟩⟩
/-- a row is written anew -/
theorem ShN.set {h₀ h : Heap} {L S D : Addr} {news : List (Addr × Obj)} {X : List (List Int)} {refs ws' : List Value} {n n₁ j : Nat} {xs' : List Int} (N : News h₀ L h news) (hS : (S, W.listOf refs.toArray n) ∈ news) (hl : refs.length = X.length)
    (hr : ∀ (i : Nat) xs, X[i]? = some xs → ∃ r ws n', refs[i]? = some (Value.ref r) ∧ (r, W.listOf (ws : List Value).toArray n') ∈ news ∧ IntsAre ws xs) (hD : (D, W.listOf ws'.toArray n₁) ∈ news) (hi : IntsAre ws' xs') (hDS : @Ne Nat D S) :
    ShN (Mine.put S (W.listOf (refs.set j (.ref D)).toArray n) news) S (X.set j xs') := by
  refine ⟨refs.set j (.ref D), n, put_self, by simpa using hl, fun i xs hx => ?_⟩
  rw [List.getElem?_set] at hx
  split at hx
  · rename_i hij
    subst hij
    split at hx
    · rename_i hlt
      cases hx
      exact ⟨D, ws', n₁, by rw [List.getElem?_set_self (by omega)], put_ne hD hDS, hi⟩
    · cases hx
  · rename_i hij
    obtain ⟨r, ws, n', a, b, c⟩ := hr i xs hx
    refine ⟨r, ws, n', by rw [List.getElem?_set_ne hij]; exact a, put_ne b ?_, c⟩
    rintro rfl
    have e : (W.listOf refs.toArray n) = W.listOf ws.toArray n' := news_same N hS b
    have e2 : refs = ws := by
      have := congrArg Obj.data e
      injection this with h1 _
      simpa using h1
    subst e2
    obtain ⟨z, t, e3, _⟩ := c.at i _ a
    cases e3

end Mine
end
section
open PySem PySem.W PyProof.Rows
namespace Mine
set_option maxRecDepth 100000
section
local macro_rules | `(tactic| walk_at "execs cons") => `(tactic| ((try dsimp only); (with_reducible refine wpAny_execs_cons ?_); try dsimp only))
local macro_rules | `(tactic| walk_at "execs nil") => `(tactic| ((try dsimp only); (with_reducible refine wpAny_execs_nil ?_); try dsimp only))
noncomputable def ShJ (S l c1 c2 : Addr) (o2 : Obj) (X : List (List Int)) (m : Str → Option Value) (news : List (Addr × Obj)) : Prop :=
  (c2, o2) ∈ news ∧ (∃ o v, (c1, o) ∈ news ∧ o.data = .cell v) ∧ ShN news S X ∧ ∃ u : Str → Option Value, m = fun y => if y = Str.ofString "taken" then u y else mp [(Str.ofString "sums", Value.ref S), (Str.ofString "numbers", Value.ref l)] y
theorem sh_some {X : List (List Int)} {j : Nat} (h : j < X.length) : X[j]? = some (X.getD j []) := by
  rw [List.getD_eq_getElem?_getD, List.getElem?_eq_getElem h]; rfl
theorem sh_small {k : Int} (h0 : 2 ≤ k) (h1 : k ≤ 5) : Builtin.Range.small 0 k 1 = true := by
  have : k = 2 ∨ k = 3 ∨ k = 4 ∨ k = 5 := by omega
  rcases this with rfl | rfl | rfl | rfl <;> rfl
theorem sh_rsz {k : Int} (h : 2 ≤ k ∧ k ≤ 5) : Builtin.Range.rangeSize 0 k 1 = (k.toNat : Int) := by
  have : k = 2 ∨ k = 3 ∨ k = 4 ∨ k = 5 := by omega
  rcases this with rfl | rfl | rfl | rfl <;> rfl
theorem sh_small2 {k : Int} (h0 : 2 ≤ k) (h1 : k ≤ 5) : Builtin.Range.small k 0 (-1) = true := by
  have : k = 2 ∨ k = 3 ∨ k = 4 ∨ k = 5 := by omega
  rcases this with rfl | rfl | rfl | rfl <;> rfl
theorem sh_rsz2 {k : Int} (h : 2 ≤ k ∧ k ≤ 5) : Builtin.Range.rangeSize k 0 (-1) = (k.toNat : Int) := by
  have : k = 2 ∨ k = 3 ∨ k = 4 ∨ k = 5 := by omega
  rcases this with rfl | rfl | rfl | rfl <;> rfl
noncomputable def ShI (S l c1 c2 : Addr) (o2 : Obj) (z : Int) (tz : Tok) (own : List (Addr × Obj)) (X : List (List Int)) (m : Str → Option Value) (news : List (Addr × Obj)) : Prop :=
  (c2, o2) ∈ news ∧ (∃ o, (c1, o) ∈ news ∧ o.data = .cell (some (.int z tz))) ∧ ShN news S X ∧ (∀ p ∈ own, p ∈ news) ∧ ∃ u : Str → Option Value, m = fun y => if y = Str.ofString "taken" then u y else mp [(Str.ofString "sums", Value.ref S), (Str.ofString "numbers", Value.ref l)] y
set_option maxHeartbeats 8000000 in
theorem shares_asks (w : World) (mean : ExcName → Option Value) (mg mb : Str → Option Value) (dp un : Nat) (gd : Option (List Code)) (cn : Str) (cs : Scope) (a : Addr) (ccd : Value) (cl : List (Str × Addr)) (outer : List Env) (A₀ : Around) (base h₀ : Heap) (L : Addr) (m : Str → Option Value) (s : Shared)
    (Q E : Value → Shared → Prop) (B : Below A₀ base outer h₀) (F : Fr h₀ L s.heap m) (X : (topK w.params).In h₀) (T : Top topQ (looseW topQ [Str.ofString "_twin_re_1", Str.ofString "_twin_re_2", Str.ofString "EXACT_TOKEN_TYPES"]) mean mg mb h₀) (hk : cs.kind = .function) (hdp : dp + 10 < recursionLimit) (hun : un + 80 < cLine)
    (l : Addr) (k : Int) (t : Tok) (vs : List Value) (ns : List Int) (hl : s.heap.IsList l vs.toArray) (hvs : IntsAre vs ns) (hns : ns.length ≤ 9) (hk1 : 2 ≤ k) (hk2 : k ≤ 5)
    (hret : ∀ h' tk', (∀ b o, s.heap.get? b = some o → h'.get? b = some o) → s.toks ≤ tk' → Q (.bool (shareB k ns)) { s with heap := h', toks := tk' }) :
    wpAny (model PySem.Challenge.rw_st0009_01.row.prog w) (ktrTop dp un gd cn cs L a ccd cl outer) (call (.ref 96) [.ref l, .int k t]) Q E s := by
  revert X
  k_fill
  intro X
  refine wpAny_with_toks (Nat.le_refl _) ?_
  refine wpAny_call ?_
  refine' enterC (binds := [(Str.ofString "numbers", .ref l), (Str.ofString "size", .int k t)]) ?k1 ?k2 ?k3 ?k5 ?kA ?kF ?kK ?k6 ?k7 ?k8 ?k9 ?kB ?kD ?_ ?c2 ?c3 ?c4
  case kA => exact rfl
  case kF => exact rfl
  case kK => assumption
  case k1 => k_asm
  case k2 => k_asm
  case k3 => k_asm
  case k5 => k_asm
  case k6 => k_is
  case k7 => k_is
  case k8 => ktr_room
  case k9 => exact BindsTo.of_eq (by kernel_rfl)
  case kB => exact rfl
  case kD => decide +kernel
  case c2 => exact rfl
  case c3 => exact rfl
  case c4 => exact rfl
  intro g L' h' tk' cells' hg F' N' Y' B' X' T'
  dsimp only
  clear F T X B
  obtain ⟨o1, o2, hE', d1, d2⟩ := CellsAre.two Y'
  subst hE'
  clear Y'
  have d1' : o1.data = .cell none := d1
  have d2' : o2.data = .cell (some (.int k t)) := d2
  clear d1 d2
  have F2 : Fr g L' h' (mp [(Str.ofString "numbers", .ref l)]) := F'
  clear F'
  have hlg : g.IsList l vs.toArray := hg ▸ hl
  have hlc : @Ne Nat l (L' + 1 + 1) := by
    rintro rfl
    have q := (N' _ (.head _)).2.2
    obtain ⟨_, q2, _⟩ := hlg
    rw [q] at q2
    cases q2
  iterate 12 (walk1; try dsimp only)
  rename Fr _ _ _ _ => F3
  refine' LCg.ListComp_U ?cF0 ?cclos ?ccell ?ckind ?cnames ?cx ?ch ?chs
  case cF0 => exact F3
  case cclos => with_unfolding_all rfl
  case ccell => decide
  case ckind => rfl
  case cnames => decide
  case cx => rfl
  case chs => intro _; rfl
  iterate 7 (walk1; try dsimp only)
  rename IsRange _ _ _ _ _ _ _ _ => hr
  rename Fr _ _ _ _ => F4
  rename News _ _ _ _ => N4
  refine src_empties (n := k.toNat) rfl F4 N4 hr (sh_small (by omega) (by omega)) (sh_rsz (by omega)) (by rw [sizeLine_eq]; omega) ?_
  intro D h5 tk5 ys news5 F5 N5 off5 hys hem hsub
  have mA := hsub _ (.head _)
  have mB := hsub _ (.tail _ (.head _))
  have m1 := hsub _ (.tail _ (.tail _ (.head _)))
  have m2 := hsub _ (.tail _ (.tail _ (.tail _ (.head _))))
  have la5 := PySem.IsL.isList (N5 _ (.tail _ mA)).1
  have lb5 := PySem.IsL.isList (N5 _ (.head _)).1
  k_dflt (refine' kmk_add_lit (s := { heap := h5, gens := s.gens, drawn := s.drawn, toks := tk5, os := s.os }) F5 N5 la5 lb5 rfl ?_ ?lz)
  case lz =>
    rw [sizeLine_eq]
    show 1 + ys.toArray.toList.length ≤ _
    have : ys.toArray.toList.length = k.toNat := by simpa using hys
    omega
  intro S h6 F6 N6 l6
  iterate 2 (walk1; try dsimp only)
  rename Fr _ _ _ _ => F7
  rename News _ _ _ _ => N7
  have hD6 : @LT.lt Nat _ D S := l6 _ (.head _)
  have n2S : @LT.lt Nat _ (L' + 1) S := l6 _ (.tail _ m2)
  have n1S : @LT.lt Nat _ (L' + 1 + 1) S := l6 _ (.tail _ m1)
  refine' For_turns ?F ?h ?hs ?hE
  case F => exact F7
  case hs => intro _; rfl
  case hE => passes_own
  walk1
  try dsimp only
  refine for_base (vs := vs) rfl hlg F7 N7 (fun i m nw => ShJ S l (L' + 1 + 1) (L' + 1) o2 (shAll k.toNat (ns.take i)) m nw) ?_ ?_ ?_
  · refine ⟨.tail _ (.tail _ m2), ⟨_, _, .tail _ (.tail _ m1), d1'⟩, ?_, fun y => mp [(Str.ofString "sums", Value.ref S), (Str.ofString "numbers", Value.ref l)] y, ?_⟩
    · refine ⟨_, 0, .head _, ?_, ?_⟩
      · rw [shAll_length]
        simp [hys]
        try omega
      · intro i xs hx
        cases i with
        | zero =>
          cases (show some [0] = some xs from hx)
          exact ⟨_, [Value.int 0 tk'], 0, rfl, .tail _ (.tail _ mB), .cons _ _ .nil⟩
        | succ i =>
          have hx' : (List.replicate k.toNat ([] : List Int))[i]? = some xs := hx
          rw [List.getElem?_replicate] at hx'
          split at hx'
          · rename_i hik
            cases hx'
            have hlt : i < ys.length := by omega
            obtain ⟨r, e, hm⟩ := hem ys[i] (List.getElem_mem hlt)
            refine ⟨r, [], 0, ?_, .tail _ (.tail _ hm), .nil⟩
            show ys[i]? = some _
            rw [List.getElem?_eq_getElem hlt, e]
          · cases hx'
    · funext y
      by_cases h1 : y = Str.ofString "taken"
      · subst h1
        rfl
      · simp only [if_neg h1]
        rfl
  · intro I i v m₁ news₁ h₁ tk₁ own oI hdI hvi hJ hnI hoI hI hfI F N
    obtain ⟨z, tz, rfl, hz⟩ := hvs.at i v hvi
    obtain ⟨hm2, ⟨o1', v1, hm1, hd1⟩, hsh, u, rfl⟩ := hJ
    try dsimp only
    have F0 : Fr g L' h₁ _ := F
    have N0 : News g L' h₁ (own ++ news₁) := N
    clear F N
    have hc1I : @Ne Nat (L' + 1 + 1) I := hnI _ hm1
    have hown : ∀ p ∈ own, @Ne Nat p.1 (L' + 1 + 1) := by
      intro p hp
      rcases hoI p hp with e | e
      · rw [e]; exact Ne.symm hc1I
      · rw [e]; exact hlc
    have hownS : ∀ p ∈ own, @Ne Nat p.1 S := by
      intro p hp
      obtain ⟨rr, nn, hSS, _⟩ := id hsh
      rcases hoI p hp with e | e
      · rw [e]; exact Ne.symm (hnI _ hSS)
      · rw [e]
        rintro rfl
        have q := (N0 _ (List.mem_append_right _ hSS)).2.2
        obtain ⟨_, q2, _⟩ := hlg
        rw [q] at q2
        cases q2
    refine wpAny_assign_Name (store_cell (c := L' + 1 + 1) F0 N0 rfl (List.mem_append_right _ hm1) hd1 rfl rfl ?_)
    intro h9 o9 F9 N9 hd9
    have hn1 : (L' + 1 + 1, o9) ∈ Mine.put (L' + 1 + 1) o9 (own ++ news₁) := put_self
    have hn2 : (L' + 1, o2) ∈ Mine.put (L' + 1 + 1) o9 (own ++ news₁) := put_ne (List.mem_append_right _ hm2) (by show @Ne Nat _ _; omega)
    have hnI' : (I, oI) ∈ Mine.put (L' + 1 + 1) o9 (own ++ news₁) := put_ne (List.mem_append_left _ hI) (Ne.symm hc1I)
    have hno : ∀ p ∈ own, p ∈ Mine.put (L' + 1 + 1) o9 (own ++ news₁) := fun p hp => put_ne (List.mem_append_left _ hp) (hown p hp)
    have hsh9 : ShN (Mine.put (L' + 1 + 1) o9 (own ++ news₁)) S (shAll k.toNat (ns.take i)) := (hsh.sub fun p hp => List.mem_append_right _ hp).put N0 (List.mem_append_right _ hm1) hd1
    generalize hall : Mine.put (L' + 1 + 1) o9 (own ++ news₁) = all at *
    clear hall
    iterate 1 (walk1; try dsimp only)
    refine' For_turns ?F22 ?h22 ?hs22 ?hE22
    case F22 => exact F9
    case hs22 => intro _; rfl
    case hE22 => passes_own
    iterate 13 (walk1; try dsimp only)
    rename IsRange _ _ _ _ _ _ _ _ => hr10
    rename Fr _ _ _ _ => F10
    rename News _ _ _ _ => N10
    refine for_range (n := k.toNat) rfl hr10 (sh_small2 (by omega) (by omega)) (sh_rsz2 (by omega)) F10 N10 (fun i' m nw => ShI S l (L' + 1 + 1) (L' + 1) o2 z tz own (shPart k.toNat z (shAll k.toNat (ns.take i)) i') m nw) ?_ ?_ ?_
    · exact ⟨hn2, ⟨_, hn1, hd9⟩, hsh9, hno, u, rfl⟩
    · intro I2 i2 t2 m2' news2 h11 tk11 own2 oI2 hi2 hJ2 hnI2 hoI2 hI2 hfI2 F N
      obtain ⟨hb2, ⟨o1'', hb1, hdd1⟩, hshb, hnob, ub, rfl⟩ := hJ2
      have F11 : Fr g L' h11 _ := F
      have N11 : News g L' h11 (own2 ++ news2) := N
      clear F N
      have hc2 : (L' + 1, o2) ∈ own2 ++ news2 := List.mem_append_right _ hb2
      have hc1 : (L' + 1 + 1, o1'') ∈ own2 ++ news2 := List.mem_append_right _ hb1
      try dsimp only
      iterate 8 (walk1; try dsimp only)
      rename Fr _ _ _ _ => F12
      rename News _ _ _ _ => N12
      obtain ⟨refs, nR, hS2, hlen2, hrows⟩ := id hshb
      have hXl : (shPart k.toNat z (shAll k.toNat (ns.take i)) i2).length = k.toNat + 1 := by rw [shPart_length, shAll_length]
      have hbd := shPart_bound_all (z := z) (ns.take i) (Nat.le_of_lt hi2) (by have := (List.getElem?_eq_some_iff.mp hz).1; rw [List.length_take]; omega)
      generalize hX2 : shPart k.toNat z (shAll k.toNat (ns.take i)) i2 = X2 at *
      obtain ⟨r1, ws1, n1, hr1, hmr1, hir1⟩ := hrows (k.toNat - i2) (X2.getD (k.toNat - i2) []) (sh_some (by omega))
      obtain ⟨r2, ws2, n2, hr2, hmr2, hir2⟩ := hrows (k.toNat - i2 - 1) (X2.getD (k.toNat - i2 - 1) []) (sh_some (by omega))
      have ej : (k + (i2 : Int) * -1).toNat = k.toNat - i2 := by omega
      have ej1 : (k + (i2 : Int) * -1 - 1).toNat = k.toNat - i2 - 1 := by omega
      refine item_at (vs := refs) (N12 _ (List.mem_append_right _ hS2)).1 (by omega) (by omega) (ej ▸ hr1) ?_
      refine' LCg.ListComp_U ?cF2 ?cclos2 ?ccell2 ?ckind2 ?cnames2 ?cx2 ?ch2 ?chs2
      case cF2 => exact F12
      case cclos2 => with_unfolding_all rfl
      case ccell2 => decide
      case ckind2 => rfl
      case cnames2 => decide
      case cx2 => rfl
      case chs2 => intro _; rfl
      iterate 6 (walk1; try dsimp only)
      refine item_at (vs := refs) (N12 _ (List.mem_append_right _ hS2)).1 (by omega) (by omega) (ej1 ▸ hr2) ?_
      refine src_addall rfl F12 N12 (List.mem_append_right _ hmr2) hir2 rfl hc1 hdd1 ?za ?_ (fun _ => rfl) (fun _ => rfl) (fun _ => rfl) (by decide) (by decide)
      case za => rw [sizeLine_eq]; have := hbd (k.toNat - i2 - 1); omega
      intro D13 h13 tk13 ys13 F13 N13 off13 hi13
      have l1a := PySem.IsL.isList (N13 _ (.tail _ (List.mem_append_right _ hmr1))).1
      have l1b := PySem.IsL.isList (N13 _ (.head _)).1
      k_dflt (refine' kmk_add_ints (s := { heap := h13, gens := s.gens, drawn := s.drawn, toks := tk13, os := s.os }) F13 N13 l1a l1b hir1 hi13 ?_ ?zb)
      case zb => rw [sizeLine_eq, List.length_map]; have := hbd (k.toNat - i2 - 1); have := hbd (k.toNat - i2); omega
      intro D14 us14 h14 F14 N14 l14 hi14
      iterate 2 (walk1; try dsimp only)
      refine set_at F14 N14 (.tail _ (.tail _ (List.mem_append_right _ hS2))) (by omega) (by omega) (by omega) fun h15 F15 N15 => ?_
      refine wpAny_execs_nil ?_
      have hN0 : News g L' h14 ((D14, W.listOf us14.toArray 0) :: news2) := fun p hp => N14 p (by
        rcases List.mem_cons.mp hp with rfl | hp
        · exact .head _
        · exact .tail _ (.tail _ (List.mem_append_right _ hp)))
      have hD14S : @Ne Nat D14 S := Ne.symm (Nat.ne_of_lt (l14 (S, _) (.tail _ (List.mem_append_right _ hS2))))
      have hshE := ShN.set (j := k.toNat - i2) hN0 (.tail _ hS2) hlen2 (fun i xs hx => by obtain ⟨r, ws, n', a, b, c⟩ := hrows i xs hx; exact ⟨r, ws, n', a, .tail _ b, c⟩) (.head _) hi14 hD14S
      have hnS : ∀ (c : Addr) (o : Obj) v, (c, o) ∈ news2 → o.data = .cell v → @Ne Nat c S := by
        rintro c o v hm hd rfl
        have := news_same N14 (.tail _ (.tail _ (List.mem_append_right _ hm))) (.tail _ (.tail _ (List.mem_append_right _ hS2)))
        subst this
        cases hd
      have hsub2 : ∀ p ∈ put S (W.listOf (refs.set (k.toNat - i2) (.ref D14)).toArray nR) ((D14, W.listOf us14.toArray 0) :: news2), p ∈ put S (W.listOf (refs.set (k.toNat - i2) (.ref D14)).toArray nR) ((D14, W.listOf us14.toArray 0) :: (D13, LCg.lst ys13) :: (own2 ++ news2)) := by
        intro p hp
        rcases put_cases hp with rfl | ⟨hp, hne⟩
        · exact put_self
        · refine put_ne ?_ hne
          rcases List.mem_cons.mp hp with rfl | hp
          · exact .head _
          · exact .tail _ (.tail _ (List.mem_append_right _ hp))
      rw [ej] at N15
      refine turn_end (news₂ := put S (W.listOf (refs.set (k.toNat - i2) (.ref D14)).toArray nR) ((D14, W.listOf us14.toArray 0) :: news2)) F15 N15 ?_ hsub2 ?_ ?_
      · intro p hp
        refine put_ne (.tail _ (.tail _ (List.mem_append_left _ hp))) ?_
        rw [hoI2 p hp]
        exact Ne.symm (hnI2 _ hS2)
      · intro p hp
        rcases put_cases hp with rfl | ⟨hp, hne⟩
        · exact hnI2 (S, W.listOf refs.toArray nR) hS2
        · rcases List.mem_cons.mp hp with rfl | hp
          · exact Ne.symm (Nat.ne_of_lt (l14 (I2, oI2) (.tail _ (List.mem_append_left _ hI2))))
          · exact hnI2 p hp
      · refine ⟨put_ne (.tail _ hb2) (hnS _ _ _ hb2 d2'), ⟨_, put_ne (.tail _ hb1) (hnS _ _ _ hb1 hdd1), hdd1⟩, ?_, ?_, (fun _ => some (Value.int (k + (i2 : Int) * -1) t2)), ?_⟩
        · rw [shPart_succ, hX2]
          exact hshE
        · intro p hp
          exact put_ne (.tail _ (hnob p hp)) (hownS p hp)
        · funext y
          by_cases h1 : y = Str.ofString "taken"
          · simp only [if_pos h1]
          · simp only [if_neg h1]
    · intro h16 tk16 m16 news16 F16 N16 hJ16
      obtain ⟨hb2, ⟨o1'', hb1, hdd1⟩, hshb, hnob, ub, rfl⟩ := hJ16
      refine wpAny_execs_nil ?_
      have hneI : ∀ (c : Addr) (o : Obj), (c, o) ∈ news16 → (∀ fs, o.data ≠ .fields fs) → @Ne Nat c I := by
        rintro c o hm hd rfl
        have := news_same N16 hm (hnob _ hI)
        subst this
        obtain ⟨fs, e⟩ := hfI
        exact hd fs e
      have hf : ∀ p, p ∈ news16 → @Ne Nat p.1 I → p ∈ news16.filter fun p => decide (@Ne Nat p.1 I) := fun p hp hn => List.mem_filter.mpr ⟨hp, by simpa using hn⟩
      refine turn_end (news₂ := news16.filter fun p => decide (@Ne Nat p.1 I)) F16 N16 hnob (fun p hp => (List.mem_filter.mp hp).1) (fun p hp => by simpa using (List.mem_filter.mp hp).2) ?_
      have e1 : shAll k.toNat (ns.take (i + 1)) = shPart k.toNat z (shAll k.toNat (ns.take i)) k.toNat := by
        rw [List.take_add_one, hz]
        exact shAll_snoc
      obtain ⟨refs, nR, hS2, hlen2, hrows⟩ := hshb
      refine ⟨hf _ hb2 (hneI _ _ hb2 fun fs e => by rw [d2'] at e; cases e), ⟨_, _, hf _ hb1 (hneI _ _ hb1 fun fs e => by rw [hdd1] at e; cases e), hdd1⟩, ?_, ub, rfl⟩
      rw [e1]
      exact ⟨refs, nR, hf _ hS2 (hneI _ _ hS2 fun fs e => by cases e), hlen2, fun i xs hx => by obtain ⟨r, ws, n', a, b, c⟩ := hrows i xs hx; exact ⟨r, ws, n', a, hf _ b (hneI _ _ b fun fs e => by cases e), c⟩⟩
  · intro h8 tk8 m8 news8 F8 N8 hJ8
    obtain ⟨hb2, _, hshb, ub, rfl⟩ := hJ8
    have F20 : Fr g L' h8 _ := F8
    have N20 : News g L' h8 news8 := N8
    clear F8 N8
    iterate 3 (walk1; try dsimp only)
    refine' LCt.ListComp_T ?cF3 ?cclos3 ?ccell3 ?ckind3 ?cnames3 ?cx3 ?ch3 ?chs3
    case cF3 => exact F20
    case cclos3 => with_unfolding_all rfl
    case ccell3 => decide
    case ckind3 => rfl
    case cnames3 => decide
    case cx3 => rfl
    case chs3 => intro _; rfl
    iterate 3 (walk1; try dsimp only)
    obtain ⟨refs, nR, hS2, hlen2, hrows⟩ := hshb
    have eV : ns.take vs.length = ns := List.take_of_length_le (by rw [hvs.length]; exact Nat.le_refl _)
    rw [eV] at hlen2 hrows
    have hXl : (shAll k.toNat ns).length = k.toNat + 1 := shAll_length ns
    obtain ⟨r1, ws1, n1, hr1, hmr1, hir1⟩ := hrows k.toNat ((shAll k.toNat ns).getD k.toNat []) (sh_some (by omega))
    refine item_at (vs := refs) (N20 _ hS2).1 (by omega) (by omega) hr1 ?_
    refine src_divs rfl F20 N20 hmr1 hir1 rfl hb2 d2' (by omega) ?zc ?_ (fun _ => rfl) (fun _ => rfl) (fun _ => rfl) (by decide) (by decide)
    case zc =>
      have h1 := shAll_bound (k := k.toNat) ns k.toNat
      have h2 : 2 ^ ns.length ≤ 2 ^ 9 := Nat.pow_le_pow_right (by decide) hns
      rw [sizeLine_eq]
      omega
    intro D21 h21 tk21 ys21 F21 N21 off21 hi21
    try dsimp only
    iterate 3 (walk1; try dsimp only)
    rename Fr _ _ _ _ => F22
    rename News _ _ _ _ => N22
    have lx := PySem.IsL.isList (N22 _ (.tail _ (.head _))).1
    have ly := PySem.IsL.isList (N22 _ (.head _)).1
    k_dflt (refine' ne_intsK (vs := ys21) (us := []) lx hi21 ly .nil ?hu9 ?_)
    case hu9 => units_room
    intro hle
    have eB : (!decide (List.filter (fun x => x.fmod k == 0) ((shAll k.toNat ns).getD k.toNat []) = [])) = shareB k ns := by
      unfold shareB
      cases List.filter (fun x => x.fmod k == 0) ((shAll k.toNat ns).getD k.toNat []) <;> simp
    rw [eB]
    exact hret _ _ (fun b o e => F22.keep b o (hg ▸ e)) hle
end
end Mine
end
section
open PySem PySem.W PyProof.Rows PySem.Calls
namespace Mine
set_option maxRecDepth 100000
/-- the parts that a number of the script tells -/
noncomputable def opI (z : Int) : Nat := (z.fmod 48).toNat
noncomputable def tlI (z : Int) : Nat := ((z.fdiv 48).fmod 3).toNat
noncomputable def elI (z : Int) : Nat := ((z.fdiv 144).fmod 3).toNat
noncomputable def tailN : List (List Nat) := [[], [9], [34]]
noncomputable def eolN : List (List Nat) := [[13, 10], [10], [13]]
noncomputable def rowOf (i a : Nat) : List Nat := opsN.getD i [] ++ tailN.getD a []
noncomputable def rowL (z : Int) : List Nat := rowOf (opI z) (tlI z)
noncomputable def pageL (zs : List Int) : List Nat := zs.flatMap fun z => rowL z ++ eolN.getD (elI z) []
noncomputable def dotL (k : Nat) (r : List Nat) : List Nat := if r.head? = some 46 then List.replicate k 46 else []
noncomputable def mailL (k : Nat) (zs : List Int) : List Nat := zs.flatMap fun z => dotL k (rowL z) ++ (rowL z ++ [13, 10])
noncomputable def dueL (k : Nat) (zs : List Int) : List Nat := zs.flatMap fun z => dotL k (rowL z) ++ (rowL z ++ [13, 10]).flatMap sp
theorem opI_lt (z : Int) : opI z < 48 := by
  have h1 := Int.fmod_nonneg_of_pos z (show (0 : Int) < 48 by decide)
  have h2 := Int.fmod_lt_of_pos z (show (0 : Int) < 48 by decide)
  unfold opI; omega
theorem tlI_lt (z : Int) : tlI z < 3 := by
  have h1 := Int.fmod_nonneg_of_pos (z.fdiv 48) (show (0 : Int) < 3 by decide)
  have h2 := Int.fmod_lt_of_pos (z.fdiv 48) (show (0 : Int) < 3 by decide)
  unfold tlI; omega
theorem elI_lt (z : Int) : elI z < 3 := by
  have h1 := Int.fmod_nonneg_of_pos (z.fdiv 144) (show (0 : Int) < 3 by decide)
  have h2 := Int.fmod_lt_of_pos (z.fdiv 144) (show (0 : Int) < 3 by decide)
  unfold elI; omega
/-- a fact of all rows, looked at one by one -/
theorem rows_all {p : List Nat → Bool} (h : ((List.range 48).all fun i => (List.range 3).all fun a => p (rowOf i a)) = true) (z : Int) : p (rowL z) = true := by
  rw [List.all_eq_true] at h
  have h1 := h (opI z) (List.mem_range.mpr (opI_lt z))
  rw [List.all_eq_true] at h1
  exact h1 (tlI z) (List.mem_range.mpr (tlI_lt z))
theorem row_plain (z : Int) : (rowL z).all (fun c => c != 10 && c != 13) = true := rows_all (p := fun r => r.all fun c => c != 10 && c != 13) (by decide +kernel) z
theorem row_len (z : Int) : (rowL z).length ≤ 4 ∧ 1 ≤ (rowL z).length := by
  have := rows_all (p := fun r => decide (r.length ≤ 4 ∧ 1 ≤ r.length)) (by decide +kernel) z
  simpa using this
theorem mailL_zero (zs : List Int) : mailL 0 zs = zs.flatMap fun z => rowL z ++ [13, 10] := by
  unfold mailL dotL
  congr 1
  funext z
  split <;> simp
theorem mail_due (k : Nat) (zs : List Int) : (mailL k zs).flatMap sp = dueL k zs := by
  unfold mailL dueL
  rw [List.flatMap_assoc]
  congr 1
  funext z
  rw [List.flatMap_append]
  congr 1
  unfold dotL
  split
  · induction k with
    | zero => rfl
    | succ k ih => rw [List.replicate_succ, List.flatMap_cons, ih]; rfl
  · rfl
end Mine
end
section
open PySem PySem.W PyProof.Rows PySem.Calls
namespace Mine
set_option maxRecDepth 100000
theorem sub1_cons (c : Nat) (z : List Nat) (a : Nat) (r : List Nat) : sub1 c z (a :: r) = (if a = c then z else [a]) ++ sub1 c z r := List.flatMap_cons
theorem esc_chain (l : List Nat) : sub1 13 [38, 35, 120, 68, 59] (sub1 10 [38, 35, 120, 65, 59] (sub1 9 [38, 35, 120, 57, 59] (sub1 34 [38, 113, 117, 111, 116, 59] (sub1 60 [38, 108, 116, 59] (sub1 38 [38, 97, 109, 112, 59] l))))) = l.flatMap sp := by
  induction l with
  | nil => rfl
  | cons a r ih =>
    rw [List.flatMap_cons, ← ih, sub1_cons, sub1_append, sub1_append, sub1_append, sub1_append, sub1_append]
    congr 1
    unfold sp
    by_cases h1 : a = 38
    · subst h1; decide
    rw [if_neg h1, if_neg h1]
    by_cases h2 : a = 60
    · subst h2; decide
    rw [if_neg h2]
    have e : ∀ c z, ¬ a = c → sub1 c z [a] = [a] := fun c z h => by simp [sub1, h]
    rw [e 60 _ h2]
    by_cases h3 : a = 34
    · subst h3; decide
    rw [if_neg h3, e 34 _ h3]
    by_cases h4 : a = 9
    · subst h4; decide
    rw [if_neg h4, e 9 _ h4]
    by_cases h6 : a = 10
    · subst h6; decide
    rw [e 10 _ h6]
    by_cases h5 : a = 13
    · subst h5; decide
    rw [if_neg h5, e 13 _ h5, if_neg h6]
theorem rp_list (x : Str) {c z : String} {k : Nat} (hc : Str.ofString c = ⟨#[k]⟩) {zs : List Nat} (hz : (Str.ofString z).cps.toList = zs) : (rp x c z).cps.toList = sub1 k zs x.cps.toList := by
  unfold rp
  rw [hc, rep_list, hz]
theorem esc_list (x : Str) : (escT x).cps.toList = x.cps.toList.flatMap sp := by
  rw [← esc_chain]
  unfold escT
  rw [rp_list _ (k := 13) (zs := [38, 35, 120, 68, 59]) (by decide +kernel) (by decide +kernel), rp_list _ (k := 10) (zs := [38, 35, 120, 65, 59]) (by decide +kernel) (by decide +kernel), rp_list _ (k := 9) (zs := [38, 35, 120, 57, 59]) (by decide +kernel) (by decide +kernel), rp_list _ (k := 34) (zs := [38, 113, 117, 111, 116, 59]) (by decide +kernel) (by decide +kernel), rp_list _ (k := 60) (zs := [38, 108, 116, 59]) (by decide +kernel) (by decide +kernel), rp_list _ (k := 38) (zs := [38, 97, 109, 112, 59]) (by decide +kernel) (by decide +kernel)]
theorem esc_spell (x : Str) : escT x = spT x := str_ext (by rw [esc_list]; unfold spT; simp)
/-- signs that are no ends pass -/
theorem crlf_plain : ∀ (r t : List Nat), r.all (fun c => c != 10 && c != 13) = true → crlfF (r ++ t) = r ++ crlfF t
  | [], _, _ => rfl
  | [c], [], h => by
    simp at h
    show crlfF [c] = [c] ++ []
    unfold crlfF
    rw [if_neg (by omega)]; rfl
  | [c], d :: t, h => by
    simp at h
    show crlfF (c :: d :: t) = c :: crlfF (d :: t)
    rw [crlfF]
    rw [if_neg (by omega), if_neg (by omega)]
  | c :: d :: r, t, h => by
    have ih := crlf_plain (d :: r) t (by simp at h ⊢; exact h.2)
    simp at h
    show crlfF (c :: d :: (r ++ t)) = c :: (d :: r ++ crlfF t)
    rw [← ih, crlfF, if_neg (by omega), if_neg (by omega)]
    rfl
theorem crlf_end1 (t : List Nat) : crlfF (13 :: 10 :: t) = 13 :: 10 :: crlfF t := by rw [crlfF, if_pos ⟨rfl, rfl⟩]
theorem crlf_end2 (t : List Nat) : crlfF (10 :: t) = 13 :: 10 :: crlfF t := by
  cases t with
  | nil => decide
  | cons d r => rw [crlfF, if_neg (by omega), if_pos (.inl rfl)]
theorem crlf_end3 (t : List Nat) (h : t.head? ≠ some 10) : crlfF (13 :: t) = 13 :: 10 :: crlfF t := by
  cases t with
  | nil => decide
  | cons d r =>
    have : d ≠ 10 := fun e => h (by rw [e]; rfl)
    rw [crlfF, if_neg (fun q => this q.2), if_pos (.inr rfl)]
theorem row_head (z : Int) (t : List Nat) : (rowL z ++ t).head? ≠ some 10 := by
  have h1 := (row_len z).2
  have h2 := row_plain z
  cases h : rowL z with
  | nil => rw [h] at h1; simp at h1
  | cons a r =>
    rw [h] at h2
    simp at h2
    intro q
    rw [List.cons_append, List.head?_cons] at q
    injection q with q
    exact h2.1.1 q
theorem page_head (zs : List Int) : (pageL zs).head? ≠ some 10 := by
  cases zs with
  | nil => exact fun h => nomatch h
  | cons z r =>
    have e : pageL (z :: r) = rowL z ++ (eolN.getD (elI z) [] ++ pageL r) := by
      unfold pageL
      rw [List.flatMap_cons, List.append_assoc]
    rw [e]
    exact row_head z _
theorem crlf_page : ∀ zs : List Int, crlfF (pageL zs) = mailL 0 zs
  | [] => rfl
  | z :: r => by
    have ih := crlf_page r
    have e : pageL (z :: r) = rowL z ++ (eolN.getD (elI z) [] ++ pageL r) := by
      unfold pageL
      rw [List.flatMap_cons, List.append_assoc]
    have e2 : mailL 0 (z :: r) = rowL z ++ (13 :: 10 :: mailL 0 r) := by
      rw [mailL_zero, mailL_zero, List.flatMap_cons, List.append_assoc]; rfl
    rw [e, e2, crlf_plain _ _ (row_plain z), ← ih]
    congr 1
    have h := elI_lt z
    have hk : elI z = 0 ∨ elI z = 1 ∨ elI z = 2 := by omega
    rcases hk with hk | hk | hk <;> rw [hk]
    · exact crlf_end1 _
    · exact crlf_end2 _
    · exact crlf_end3 _ (page_head r)
theorem dot_plain (k : Nat) (z : Int) : (dotL k (rowL z) ++ rowL z).all (fun c => c != 10 && c != 13) = true := by
  rw [List.all_append, row_plain, Bool.and_true]
  unfold dotL
  split
  · rw [List.all_eq_true]
    intro c hc
    rw [(List.mem_replicate.mp hc).2]; rfl
  · rfl
theorem mail_cons (k : Nat) (z : Int) (r : List Int) : mailL k (z :: r) = (dotL k (rowL z) ++ rowL z) ++ (13 :: 10 :: mailL k r) := by
  unfold mailL
  rw [List.flatMap_cons, List.append_assoc, List.append_assoc, List.append_assoc]; rfl
theorem crlf_mail (k : Nat) : ∀ zs : List Int, crlfF (mailL k zs) = mailL k zs
  | [] => rfl
  | z :: r => by rw [mail_cons, crlf_plain _ _ (dot_plain k z), crlf_end1, crlf_mail k r]
theorem dots_plain : ∀ (r t : List Nat), r.all (fun c => c != 10 && c != 13) = true → r ≠ [] → dotsF false (r ++ t) = r ++ dotsF false t
  | [], _, _, h => absurd rfl h
  | [c], t, h, _ => by
    simp at h
    show dotsF false (c :: t) = c :: dotsF false t
    rw [dotsF, if_neg (by simp), beq_eq_false_iff_ne.mpr h.1]
  | c :: d :: r, t, h, _ => by
    have ih := dots_plain (d :: r) t (by simp at h ⊢; exact h.2) (by simp)
    simp at h
    show dotsF false (c :: (d :: r ++ t)) = c :: (d :: r ++ dotsF false t)
    rw [dotsF, if_neg (by simp), beq_eq_false_iff_ne.mpr h.1.1, ih]
theorem dots_ends (t : List Nat) : dotsF false (13 :: 10 :: t) = 13 :: 10 :: dotsF true t := by
  rw [dotsF, if_neg (by simp)]
  show 13 :: dotsF false (10 :: t) = _
  rw [dotsF, if_neg (by simp)]
  rfl
theorem dots_line (l t : List Nat) (h : l.all (fun c => c != 10 && c != 13) = true) (h0 : l ≠ []) : dotsF true (l ++ t) = (if l.head? = some 46 then [46] else []) ++ (l ++ dotsF false t) := by
  cases l with
  | nil => exact absurd rfl h0
  | cons c r =>
    simp at h
    rw [List.cons_append, dotsF, List.head?_cons]
    by_cases hc : c = 46
    · subst hc
      rw [if_pos ⟨rfl, rfl⟩, if_pos rfl]
      show 46 :: 46 :: dotsF false (r ++ t) = 46 :: 46 :: (r ++ dotsF false t)
      cases r with
      | nil => rfl
      | cons d r => rw [dots_plain (d :: r) t (by simp; simpa using h.2) (by simp)]
    · rw [if_neg (fun q => hc q.2), if_neg (fun q => hc (Option.some.inj q)), beq_eq_false_iff_ne.mpr h.1.1]
      show c :: dotsF false (r ++ t) = c :: (r ++ dotsF false t)
      cases r with
      | nil => rfl
      | cons d r => rw [dots_plain (d :: r) t (by simp; simpa using h.2) (by simp)]
theorem dots_mail (k : Nat) : ∀ zs : List Int, dotsF true (mailL k zs) = mailL (k + 1) zs
  | [] => rfl
  | z :: r => by
    have hne : dotL k (rowL z) ++ rowL z ≠ [] := by
      intro q
      have h1 := (row_len z).2
      rw [(List.append_eq_nil_iff.mp q).2] at h1
      simp at h1
    rw [mail_cons, mail_cons, dots_line _ _ (dot_plain k z) hne, dots_ends, dots_mail k r, ← List.append_assoc]
    congr 1
    unfold dotL
    by_cases hd : (rowL z).head? = some 46
    · rw [if_pos hd, if_pos hd, if_pos ?_, List.replicate_succ]; rfl
      cases k with
      | zero => exact hd
      | succ k => rfl
    · rw [if_neg hd, if_neg hd, List.nil_append, if_neg hd]; rfl
/-- one sending of a mail -/
theorem quote_first (zs : List Int) : quoteT ⟨(pageL zs).toArray⟩ = ⟨(mailL 1 zs).toArray⟩ := by
  unfold quoteT
  rw [crlf_page, dots_mail]
theorem quote_next (k : Nat) (zs : List Int) : quoteT ⟨(mailL k zs).toArray⟩ = ⟨(mailL (k + 1) zs).toArray⟩ := by
  unfold quoteT
  rw [crlf_mail, dots_mail]
theorem mail_esc (k : Nat) (zs : List Int) : escT ⟨(mailL k zs).toArray⟩ = ⟨(dueL k zs).toArray⟩ := str_ext (by rw [esc_list]; exact mail_due k zs)
theorem dotL_len (k : Nat) (z : Int) : (dotL k (rowL z)).length ≤ k := by
  unfold dotL
  split
  · rw [List.length_replicate]; exact Nat.le_refl _
  · exact Nat.zero_le _
theorem mailL_len (k : Nat) : ∀ zs : List Int, (mailL k zs).length ≤ (k + 6) * zs.length
  | [] => Nat.zero_le _
  | z :: r => by
    have h := mailL_len k r
    have h1 := row_len z
    have h2 := dotL_len k z
    rw [mail_cons, List.length_append, List.length_append, List.length_cons, List.length_cons, List.length_cons, Nat.mul_succ]
    omega
theorem list_item {r : Str} {l : List Nat} (h : r.cps.toList = l) (h0 : l ≠ []) : Txt.item r 0 = ⟨#[l.headD 0]⟩ := by
  cases l with
  | nil => exact absurd rfl h0
  | cons a t =>
    have e : r = ⟨(a :: t).toArray⟩ := str_ext (by rw [h])
    subst e
    have e1 : seqIndex? 0 (⟨(a :: t).toArray⟩ : Str).length = some 0 := by
      simp [seqIndex?, Str.length]
    have e2 : Txt.charAt ⟨(a :: t).toArray⟩ 0 = some a := by
      unfold Txt.charAt
      rw [e1]; rfl
    unfold Txt.item
    rw [e2]; rfl
theorem dot_head {r : Str} {l : List Nat} (h : r.cps.toList = l) (h0 : 1 ≤ l.length) : (Txt.item r 0 == Str.ofString ".") = true ↔ l.head? = some 46 := by
  cases l with
  | nil => simp at h0
  | cons a t =>
    rw [list_item h (by simp), show Str.ofString "." = ⟨#[46]⟩ by decide +kernel, List.headD_cons, List.head?_cons, beq_iff_eq]
    constructor
    · intro q
      have q1 : (#[a] : Array Nat) = #[46] := congrArg Str.cps q
      have q2 : [a] = [46] := congrArg Array.toList q1
      rw [(List.cons.inj q2).1]
    · intro q
      rw [Option.some.inj q]
theorem dots_mul {k : Int} (h : 1 ≤ k ∧ k ≤ 2) : (Txt.mul (Str.ofString ".") k).cps.toList = List.replicate k.toNat 46 := by
  have : k = 1 ∨ k = 2 := by omega
  rcases this with rfl | rfl
  · decide +kernel
  · decide +kernel
theorem due_snoc (k : Nat) (zs : List Int) (z : Int) : dueL k (zs ++ [z]) = dueL k zs ++ (dotL k (rowL z) ++ (rowL z ++ [13, 10]).flatMap sp) := by
  unfold dueL
  rw [List.flatMap_append, List.flatMap_cons, List.flatMap_nil, List.append_nil]
theorem page_snoc (zs : List Int) (z : Int) : pageL (zs ++ [z]) = pageL zs ++ (rowL z ++ eolN.getD (elI z) []) := by
  unfold pageL
  rw [List.flatMap_append, List.flatMap_cons, List.flatMap_nil, List.append_nil]
theorem flat_len (f : Nat → List Nat) (b : Nat) (h : ∀ c, (f c).length ≤ b) : ∀ l : List Nat, (l.flatMap f).length ≤ b * l.length
  | [] => by simp
  | c :: r => by
    have ih := flat_len f b h r
    have h1 := h c
    rw [List.flatMap_cons, List.length_append, List.length_cons, Nat.mul_succ]
    omega
theorem dueL_len (k : Nat) : ∀ zs : List Int, (dueL k zs).length ≤ (k + 36) * zs.length
  | [] => Nat.zero_le _
  | z :: r => by
    have h := dueL_len k r
    have h1 := row_len z
    have h2 := dotL_len k z
    have h3 := flat_len sp 6 sp_length (rowL z ++ [13, 10])
    have e : dueL k (z :: r) = (dotL k (rowL z) ++ (rowL z ++ [13, 10]).flatMap sp) ++ dueL k r := by
      unfold dueL
      rw [List.flatMap_cons]
    rw [List.length_append, List.length_cons, List.length_cons, List.length_nil] at h3
    rw [e, List.length_append, List.length_append, List.length_cons, Nat.mul_succ]
    omega
theorem spT_len (x : Str) : (spT x).length ≤ 6 * x.length := by
  have h := flat_len sp 6 sp_length x.cps.toList
  simpa [spT, Str.length] using h
theorem cat_list (x y : Str) : (x ++ y).cps.toList = x.cps.toList ++ y.cps.toList := by
  show (x.cps ++ y.cps).toList = _
  simp
theorem cat_len (x y : Str) : (x ++ y).length = x.length + y.length := by
  show (x.cps ++ y.cps).size = x.cps.size + y.cps.size
  simp
theorem list_len {x : Str} {l : List Nat} (h : x.cps.toList = l) : x.length = l.length := by rw [← h]; simp [Str.length]
theorem due_next {k : Nat} {zs : List Int} {z : Int} {d r : Str} (hd : d.cps.toList = dotL k (rowL z)) (hr : r.cps.toList = rowL z) : (⟨(dueL k zs).toArray⟩ : Str) ++ (d ++ spT (r ++ Str.ofString "\r\n")) = ⟨(dueL k (zs ++ [z])).toArray⟩ := by
  apply str_ext
  have e : (spT (r ++ Str.ofString "\r\n")).cps.toList = (rowL z ++ [13, 10]).flatMap sp := by
    unfold spT
    rw [cat_list, hr, show (Str.ofString "\r\n").cps.toList = [13, 10] by decide +kernel]
  rw [cat_list, cat_list, hd, e, due_snoc]
theorem page_next {zs : List Int} {z : Int} {r e : Str} (hr : r.cps.toList = rowL z) (he : e.cps.toList = eolN.getD (elI z) []) : (⟨(pageL zs).toArray⟩ : Str) ++ (r ++ e) = ⟨(pageL (zs ++ [z])).toArray⟩ := by
  apply str_ext
  rw [cat_list, cat_list, hr, he, page_snoc]
theorem take_next {cl : List Int} {i : Nat} {z : Int} (h : cl[i]? = some z) : cl.take (i + 1) = cl.take i ++ [z] := by rw [List.take_add_one, h]; rfl
theorem pageL_len : ∀ zs : List Int, (pageL zs).length ≤ 6 * zs.length
  | [] => Nat.le_refl _
  | z :: r => by
    have h := pageL_len r
    have h1 := row_len z
    have h2 : ∀ i, i < 3 → (eolN.getD i []).length ≤ 2 := by decide
    have h3 := h2 _ (elI_lt z)
    have e : pageL (z :: r) = (rowL z ++ eolN.getD (elI z) []) ++ pageL r := rfl
    rw [e, List.length_append, List.length_append, List.length_cons]
    omega
/-- the mail after some sendings -/
noncomputable def sendL : Nat → List Int → List Nat
  | 0, zs => pageL zs
  | k + 1, zs => mailL (k + 1) zs
theorem quote_send (k : Nat) (zs : List Int) : quoteT ⟨(sendL k zs).toArray⟩ = ⟨(sendL (k + 1) zs).toArray⟩ := by
  cases k with
  | zero => exact quote_first zs
  | succ k => exact quote_next (k + 1) zs
theorem sendL_len {k : Nat} {zs : List Int} (h : zs.length ≤ 9) (hk : k ≤ 2) : (⟨(sendL k zs).toArray⟩ : Str).length ≤ 72 := by
  show (sendL k zs).toArray.size ≤ _
  rw [List.size_toArray]
  cases k with
  | zero =>
    have := pageL_len zs
    show (pageL zs).length ≤ _
    omega
  | succ k =>
    have h1 := mailL_len (k + 1) zs
    have h2 : (k + 1 + 6) * zs.length ≤ 8 * 9 := Nat.mul_le_mul (by omega) h
    show (mailL (k + 1) zs).length ≤ _
    omega
theorem sendL_end {k : Int} (h : 1 ≤ k ∧ k ≤ 2) (zs : List Int) : sendL k.toNat zs = mailL k.toNat zs := by
  have : k = 1 ∨ k = 2 := by omega
  rcases this with rfl | rfl <;> rfl
theorem tm_small {k : Int} (h : 1 ≤ k ∧ k ≤ 2) : Builtin.Range.small 0 k 1 = true := by
  have : k = 1 ∨ k = 2 := by omega
  rcases this with rfl | rfl <;> rfl
theorem tm_rsz {k : Int} (h : 1 ≤ k ∧ k ≤ 2) : Builtin.Range.rangeSize 0 k 1 = (k.toNat : Int) := by
  have : k = 1 ∨ k = 2 := by omega
  rcases this with rfl | rfl <;> rfl
/-- the frame in the sending loop -/
noncomputable def MlJ (k : Nat) (zs : List Int) (base m : Str → Option Value) : Prop := ∃ (u : Str → Option Value) (t : Tok), m = fun y => if y = Str.ofString "_" then u y else if y = Str.ofString "mail" then some (Value.str ⟨(sendL k zs).toArray⟩ t) else base y
theorem ml_first {zs : List Int} {base : Str → Option Value} {t : Tok} : MlJ 0 zs base fun y => if y = Str.ofString "mail" then some (Value.str ⟨(pageL zs).toArray⟩ t) else base y := by
  refine ⟨fun y => if y = Str.ofString "mail" then some (Value.str ⟨(pageL zs).toArray⟩ t) else base y, t, funext fun y => ?_⟩
  by_cases h1 : y = Str.ofString "_"
  · simp only [if_pos h1]
  · simp only [if_neg h1]
    rfl
theorem ml_next {k : Nat} {zs zs' : List Int} {k' : Nat} {base u : Str → Option Value} {t t' : Tok} {v : Value} : MlJ k zs base fun y => if y = Str.ofString "mail" then some (Value.str ⟨(sendL k zs).toArray⟩ t) else if y = Str.ofString "_" then some v else if y = Str.ofString "_" then u y else if y = Str.ofString "mail" then some (Value.str ⟨(sendL k' zs').toArray⟩ t') else base y := by
  refine ⟨fun y => some v, t, funext fun y => ?_⟩
  by_cases h1 : y = Str.ofString "_"
  · subst h1
    rfl
  · simp only [if_neg h1]
    split <;> rfl
theorem if_skip {c a b : Prop} [Decidable c] (h : ¬ c) (hb : b) : if c then a else b := by rw [if_neg h]; exact hb
theorem ne_same (x : Str) : ¬ (x != x) = true := by rw [bne_self_eq_false]; exact Bool.false_ne_true
end Mine
end
section
open PySem PySem.W PyProof.Rows PySem.Calls
namespace Mine
set_option maxRecDepth 100000
noncomputable def sepL : List Nat := [38, 35, 120, 68, 59, 38, 35, 120, 65, 59]
noncomputable def dotted (k : Nat) (r : List Nat) : List Nat := dotL k r ++ r
noncomputable def pieceL (k : Nat) (r : List Nat) : List Nat := (dotted k r).flatMap sp
theorem dots_sp (k : Nat) (r : List Nat) : (dotL k r).flatMap sp = dotL k r := by
  unfold dotL
  split
  · induction k with
    | zero => rfl
    | succ k ih => rw [List.replicate_succ, List.flatMap_cons, ih]; rfl
  · rfl
theorem due_cons (k : Nat) (z : Int) (r : List Int) : dueL k (z :: r) = pieceL k (rowL z) ++ (sepL ++ dueL k r) := by
  have e1 : dueL k (z :: r) = (dotL k (rowL z) ++ (rowL z ++ [13, 10]).flatMap sp) ++ dueL k r := by
    unfold dueL
    rw [List.flatMap_cons]
  have e2 := dots_sp k (rowL z)
  rw [e1]
  unfold pieceL dotted
  rw [List.flatMap_append, List.flatMap_append, e2, List.append_assoc, List.append_assoc, List.append_assoc]
  rfl
/-- no cut begins within a piece -/
noncomputable def freeB (k : Nat) (r : List Nat) : Bool := (List.range (pieceL k r).length).all fun j => !(sepL.isPrefixOf ((pieceL k r ++ sepL).drop j))
theorem free1 (z : Int) : freeB 1 (rowL z) = true := rows_all (p := freeB 1) (by decide +kernel) z
theorem free2 (z : Int) : freeB 2 (rowL z) = true := rows_all (p := freeB 2) (by decide +kernel) z
theorem free_at {k : Nat} {r rest : List Nat} (h : freeB k r = true) (j : Nat) (hj : j < (pieceL k r).length) : sepL.isPrefixOf ((pieceL k r ++ (sepL ++ rest)).drop j) = false := by
  unfold freeB at h
  rw [List.all_eq_true] at h
  have h1 := h j (List.mem_range.mpr hj)
  cases e : sepL.isPrefixOf ((pieceL k r ++ (sepL ++ rest)).drop j)
  · rfl
  · exfalso
    rw [List.isPrefixOf_iff_prefix, ← List.append_assoc, List.drop_append_of_le_length (by rw [List.length_append]; omega)] at e
    have h2 : sepL <+: (pieceL k r ++ sepL).drop j := List.prefix_of_prefix_length_le e (List.prefix_append _ _) (by rw [List.length_drop, List.length_append]; omega)
    rw [List.isPrefixOf_iff_prefix.mpr h2] at h1
    cases h1
theorem due_cut {k : Nat} (hk : ∀ z, freeB k (rowL z) = true) : ∀ zs : List Int, cutL sepL 0 [] (dueL k zs) = zs.map (fun z => pieceL k (rowL z)) ++ [[]]
  | [] => rfl
  | z :: r => by
    have hs : sepL.length = 10 := rfl
    have h1 : (pieceL k (rowL z) ++ (sepL ++ dueL k r)).drop (pieceL k (rowL z)).length = sepL ++ dueL k r := List.drop_left
    have h2 : (pieceL k (rowL z) ++ (sepL ++ dueL k r)).take (pieceL k (rowL z)).length = pieceL k (rowL z) := List.take_left
    rw [due_cons, cut_gap (pieceL k (rowL z)).length [] _ (by rw [List.length_append]; omega) (free_at (hk z)), h1, h2, cut_hit (by decide) (List.isPrefixOf_iff_prefix.mpr (List.prefix_append _ _)), List.drop_left, due_cut hk r, List.append_nil, List.reverse_reverse]
    rfl
theorem free_of {k : Int} (h : 1 ≤ k ∧ k ≤ 2) (z : Int) : freeB k.toNat (rowL z) = true := by
  have : k = 1 ∨ k = 2 := by omega
  rcases this with rfl | rfl
  · exact free1 z
  · exact free2 z
noncomputable def pieceS (k : Nat) (z : Int) : Str := ⟨(pieceL k (rowL z)).toArray⟩
theorem map_list : ∀ {a b : List Str}, a.map (fun p => p.cps.toList) = b.map (fun p => p.cps.toList) → a = b
  | [], [], _ => rfl
  | [], _ :: _, h => by simp at h
  | _ :: _, [], h => by simp at h
  | x :: a, y :: b, h => by
    rw [List.map_cons, List.map_cons] at h
    obtain ⟨h1, h2⟩ := List.cons.inj h
    rw [str_ext h1, map_list h2]
theorem due_split {k : Int} (h : 1 ≤ k ∧ k ≤ 2) (zs : List Int) : Txt.split ⟨(dueL k.toNat zs).toArray⟩ (Str.ofString "&#xD;&#xA;") = zs.map (pieceS k.toNat) ++ [⟨#[]⟩] := by
  have e : Str.ofString "&#xD;&#xA;" = ⟨sepL.toArray⟩ := by decide +kernel
  refine map_list ?_
  rw [e, split_cut (by decide) (by decide +kernel)]
  show cutL sepL 0 [] (dueL k.toNat zs) = _
  rw [due_cut (free_of h), List.map_append, List.map_map]
  rfl
/-- the names taken back, one after the other -/
noncomputable def un1 (l : List Nat) : List Nat := joinL [34] (cutL [38, 113, 117, 111, 116, 59] 0 [] l)
noncomputable def un2 (l : List Nat) : List Nat := joinL [9] (cutL [38, 35, 120, 57, 59] 0 [] l)
noncomputable def un3 (l : List Nat) : List Nat := joinL [60] (cutL [38, 108, 116, 59] 0 [] l)
noncomputable def un4 (l : List Nat) : List Nat := joinL [38] (cutL [38, 97, 109, 112, 59] 0 [] l)
theorem nr1_list (x : Str) : (nr1 x).cps.toList = un1 x.cps.toList := by
  unfold nr1
  rw [show Str.ofString "&quot;" = ⟨#[38, 113, 117, 111, 116, 59]⟩ by decide +kernel, show Str.ofString "\"" = ⟨#[34]⟩ by decide +kernel, replace_cut (by decide)]
  rfl
theorem nr2_list (x : Str) : (nr2 x).cps.toList = un2 (un1 x.cps.toList) := by
  unfold nr2
  rw [show Str.ofString "&#x9;" = ⟨#[38, 35, 120, 57, 59]⟩ by decide +kernel, show Str.ofString "\t" = ⟨#[9]⟩ by decide +kernel, replace_cut (by decide), nr1_list]
  rfl
theorem nr3_list (x : Str) : (nr3 x).cps.toList = un3 (un2 (un1 x.cps.toList)) := by
  unfold nr3
  rw [show Str.ofString "&lt;" = ⟨#[38, 108, 116, 59]⟩ by decide +kernel, show Str.ofString "<" = ⟨#[60]⟩ by decide +kernel, replace_cut (by decide), nr2_list]
  rfl
theorem nr4_list (x : Str) : (nr4 x).cps.toList = un4 (un3 (un2 (un1 x.cps.toList))) := by
  unfold nr4
  rw [show Str.ofString "&amp;" = ⟨#[38, 97, 109, 112, 59]⟩ by decide +kernel, show Str.ofString "&" = ⟨#[38]⟩ by decide +kernel, replace_cut (by decide), nr3_list]
  rfl
noncomputable def okB (k : Nat) (r : List Nat) : Bool :=
  let p := pieceL k r
  decide (p.length ≤ 100) && decide ((un1 p).length ≤ 100) && decide ((un2 (un1 p)).length ≤ 100) && decide ((un3 (un2 (un1 p))).length ≤ 100) && decide (un4 (un3 (un2 (un1 p))) = dotted k r)
theorem ok1 (z : Int) : okB 1 (rowL z) = true := rows_all (p := okB 1) (by decide +kernel) z
theorem ok2 (z : Int) : okB 2 (rowL z) = true := rows_all (p := okB 2) (by decide +kernel) z
theorem piece_ok {k : Int} (h : 1 ≤ k ∧ k ≤ 2) (z : Int) : (pieceS k.toNat z).length ≤ 100 ∧ (nr1 (pieceS k.toNat z)).length ≤ 100 ∧ (nr2 (pieceS k.toNat z)).length ≤ 100 ∧ (nr3 (pieceS k.toNat z)).length ≤ 100 ∧ nr4 (pieceS k.toNat z) = ⟨(dotted k.toNat (rowL z)).toArray⟩ := by
  have hb : okB k.toNat (rowL z) = true := by
    have : k = 1 ∨ k = 2 := by omega
    rcases this with rfl | rfl
    · exact ok1 z
    · exact ok2 z
  unfold okB at hb
  simp only [Bool.and_eq_true, decide_eq_true_eq] at hb
  obtain ⟨⟨⟨⟨h0, h1⟩, h2⟩, h3⟩, h4⟩ := hb
  refine ⟨?_, ?_, ?_, ?_, str_ext ?_⟩
  · rw [list_len (l := pieceL k.toNat (rowL z)) rfl]; exact h0
  · rw [list_len (nr1_list _)]; exact h1
  · rw [list_len (nr2_list _)]; exact h2
  · rw [list_len (nr3_list _)]; exact h3
  · rw [nr4_list]; exact h4
noncomputable def cutN (x : Str) (k : Int) : Str := Txt.rstripChars (if (Txt.item x 0 == Str.ofString ".") = true then Txt.slice x (some k) none else x) (Str.ofString "\t\"")
noncomputable def numB (k : Nat) : Bool := (List.range 48).all fun i => (List.range 3).all fun a => decide ((cutN ⟨(dotted k (rowOf i a)).toArray⟩ (k : Int)).cps.toList = opsN.getD i [])
theorem num1 : numB 1 = true := by decide +kernel
theorem num2 : numB 2 = true := by decide +kernel
noncomputable def isInt (d : PyData) (n : Int) : Bool := match d with
  | .int m => m == n
  | _ => false
theorem isInt_eq {d : PyData} {n : Int} (h : isInt d n = true) : d = .int n := by
  unfold isInt at h
  split at h
  · rw [eq_of_beq h]
  · cases h
theorem tok_all : ((List.range 48).all fun i => isInt ((Spec.lookup (.str ⟨(opsN.getD i []).toArray⟩) tokD).getD .none) (7 + (i : Int))) = true := by decide +kernel
theorem num_piece {k : Int} (h : 1 ≤ k ∧ k ≤ 2) (z : Int) : numT (pieceS k.toNat z) k = .int (7 + z.fmod 48) := by
  have hi := opI_lt z
  have ha := tlI_lt z
  have hb : numB k.toNat = true := by
    have : k = 1 ∨ k = 2 := by omega
    rcases this with rfl | rfl
    · exact num1
    · exact num2
  unfold numB at hb
  rw [List.all_eq_true] at hb
  have h1 := hb (opI z) (List.mem_range.mpr hi)
  rw [List.all_eq_true] at h1
  have h2 := of_decide_eq_true (h1 (tlI z) (List.mem_range.mpr ha))
  have hk : (k.toNat : Int) = k := by omega
  rw [hk] at h2
  have h3 : cutN (nr4 (pieceS k.toNat z)) k = ⟨(opsN.getD (opI z) []).toArray⟩ := str_ext (by rw [(piece_ok h z).2.2.2.2]; exact h2)
  have h4 := tok_all
  rw [List.all_eq_true] at h4
  have h5 := isInt_eq (h4 (opI z) (List.mem_range.mpr hi))
  have e : numT (pieceS k.toNat z) k = (Spec.lookup (.str (cutN (nr4 (pieceS k.toNat z)) k)) tokD).getD .none := rfl
  rw [e, h3, h5]
  have hz : (opI z : Int) = z.fmod 48 := by
    have h1 := Int.fmod_nonneg_of_pos z (show (0 : Int) < 48 by decide)
    unfold opI
    omega
  rw [hz]
theorem ints_of {α : Type} (g : α → Int) : ∀ (l : List α) (ys : List Value), ys.length = l.length → (∀ (i : Nat) (v : Value), ys[i]? = some v → ∃ (t : Tok) (z : α), l[i]? = some z ∧ v = Value.int (g z) t) → IntsAre ys (l.map g)
  | [], [], _, _ => .nil
  | [], _ :: _, h, _ => by simp at h
  | _ :: _, [], h, _ => by simp at h
  | c :: l, y :: ys, h, hy => by
    obtain ⟨t, c', e, rfl⟩ := hy 0 y rfl
    simp at e
    subst e
    exact .cons _ _ (ints_of g l ys (by simpa using h) fun i v e => by simpa using hy (i + 1) v (by simpa using e))
theorem nr4_len {k : Int} (h : 1 ≤ k ∧ k ≤ 2) (z : Int) : (nr4 (pieceS k.toNat z)).length ≤ 100 ∧ 0 < (nr4 (pieceS k.toNat z)).length := by
  have h1 := row_len z
  have h2 := dotL_len k.toNat z
  rw [(piece_ok h z).2.2.2.2]
  show (dotted k.toNat (rowL z)).toArray.size ≤ 100 ∧ 0 < (dotted k.toNat (rowL z)).toArray.size
  rw [List.size_toArray]
  unfold dotted
  rw [List.length_append]
  omega
end Mine
end
section
open PySem PySem.W PyProof.Rows PySem.Calls
namespace Mine
set_option maxRecDepth 100000
noncomputable def paceOf (ls : List Int) : Int := ls.getD (-1 + (ls.length : Int)).toNat 0 - ls.getD (Int.toNat 0) 0
noncomputable def loneB (k : Int) (ls : List Int) : Bool := ((ls.getD (Int.toNat 0) 0 == ls.getD (k - 2).toNat 0) && (ls.getD (k - 1).toNat 0 == ls.getD (-1 + (ls.length : Int)).toNat 0)) && !(((List.range (k - 1).toNat).map fun (i : Nat) => ((1 + (i : Int)) * paceOf ls).fmod k).any (· == 0))
/-- x is a sum of j of the numbers -/
noncomputable def SumOf : List Int → Nat → Int → Prop
  | [], j, x => j = 0 ∧ x = 0
  | z :: l, j, x => SumOf l j x ∨ ∃ i, j = i + 1 ∧ SumOf l i (x - z)
theorem sum_perm {a b : List Int} (p : a.Perm b) : ∀ (j : Nat) (x : Int), SumOf a j x ↔ SumOf b j x := by
  induction p with
  | nil => intro j x; exact Iff.rfl
  | cons z _ ih =>
    intro j x
    constructor
    · rintro (h | ⟨i, e, h⟩)
      · exact .inl ((ih j x).mp h)
      · exact .inr ⟨i, e, (ih i _).mp h⟩
    · rintro (h | ⟨i, e, h⟩)
      · exact .inl ((ih j x).mpr h)
      · exact .inr ⟨i, e, (ih i _).mpr h⟩
  | swap y z l =>
    have key : ∀ (y z : Int) (j : Nat) (x : Int), SumOf (z :: y :: l) j x → SumOf (y :: z :: l) j x := by
      intro y z j x h
      rcases h with (h | ⟨i, e, h⟩) | ⟨i, e, h | ⟨i2, e2, h⟩⟩
      · exact .inl (.inl h)
      · exact .inr ⟨i, e, .inl h⟩
      · exact .inl (.inr ⟨i, e, h⟩)
      · refine .inr ⟨i, e, .inr ⟨i2, e2, ?_⟩⟩
        rwa [show x - y - z = x - z - y by omega]
    intro j x
    exact ⟨key y z j x, key z y j x⟩
  | trans _ _ ih1 ih2 => intro j x; exact (ih1 j x).trans (ih2 j x)
theorem part_row {k : Nat} {z : Int} {X : List (List Int)} (hX : X.length = k + 1) : ∀ i, i ≤ k → ∀ j, j ≤ k → (shPart k z X i).getD j [] = if k - i < j then X.getD j [] ++ (X.getD (j - 1) []).map (· + z) else X.getD j []
  | 0, _, j, hj => by rw [if_neg (by omega)]; rfl
  | i + 1, hi, j, hj => by
    rw [shPart_succ]
    unfold shRow
    rw [List.getD_eq_getElem?_getD, List.getElem?_set]
    by_cases e : k - i = j
    · rw [if_pos e, if_pos (by rw [shPart_length, hX]; omega), Option.getD_some, shPart_same i (k - i) (by omega), shPart_same i (k - i - 1) (by omega), if_pos (by omega), e]
    · rw [if_neg e, ← List.getD_eq_getElem?_getD, part_row hX i (by omega) j hj]
      by_cases h : k - i < j
      · rw [if_pos h, if_pos (by omega)]
      · rw [if_neg h, if_neg (by omega)]
theorem mem_rows {k : Nat} : ∀ (n : Nat) (ns : List Int), ns.length = n → ∀ j, j ≤ k → ∀ x, x ∈ (shAll k ns).getD j [] ↔ SumOf ns j x := by
  intro n
  induction n with
  | zero =>
    intro ns hn j hj x
    have e : ns = [] := List.length_eq_zero_iff.mp hn
    subst e
    show x ∈ ([0] :: List.replicate k []).getD j [] ↔ _
    cases j with
    | zero => simp [SumOf]
    | succ j =>
      rw [List.getD_cons_succ, List.getD_eq_getElem?_getD, List.getElem?_replicate]
      constructor
      · intro h
        split at h <;> simp at h
      · intro h
        exact absurd h.1 (by omega)
  | succ n ih =>
    intro ns hn j hj x
    obtain ⟨l, z, rfl⟩ : ∃ l z, ns = l ++ [z] := ⟨ns.dropLast, ns.getLast (by intro e; rw [e] at hn; simp at hn), (List.dropLast_concat_getLast _).symm⟩
    have hl : l.length = n := by simpa using hn
    have hp : (l ++ [z]).Perm (z :: l) := List.perm_append_comm
    rw [sum_perm hp, shAll_snoc]
    unfold shNum
    rw [part_row (shAll_length l) k (Nat.le_refl _) j hj]
    have ihl := ih l hl
    cases j with
    | zero =>
      rw [if_neg (by omega), ihl 0 hj]
      constructor
      · intro h; exact .inl h
      · rintro (h | ⟨i, e, _⟩)
        · exact h
        · cases e
    | succ j =>
      rw [if_pos (by omega), List.mem_append, ihl (j + 1) hj, List.mem_map]
      constructor
      · rintro (h | ⟨y, hy, rfl⟩)
        · exact .inl h
        · refine .inr ⟨j, rfl, ?_⟩
          have h2 := (ihl j (by omega) y).mp hy
          rwa [show y + z - z = y by omega]
      · rintro (h | ⟨i, e, h⟩)
        · exact .inl h
        · have e2 : j = i := by omega
          subst e2
          exact .inr ⟨x - z, (ihl j (by omega) _).mpr h, by omega⟩
theorem share_iff {k : Int} {ns : List Int} : shareB k ns = true ↔ ∃ x, SumOf ns k.toNat x ∧ x.fmod k = 0 := by
  unfold shareB
  rw [Bool.not_eq_true', List.isEmpty_eq_false_iff_exists_mem]
  constructor
  · rintro ⟨x, hx⟩
    rw [List.mem_filter] at hx
    exact ⟨x, (mem_rows _ ns rfl _ (Nat.le_refl _) x).mp hx.1, eq_of_beq hx.2⟩
  · rintro ⟨x, h1, h2⟩
    exact ⟨x, List.mem_filter.mpr ⟨(mem_rows _ ns rfl _ (Nat.le_refl _) x).mpr h1, by rw [h2]; rfl⟩⟩
theorem res_step {k y z r : Int} (h0 : 0 ≤ r) (h1 : r < k) : (y + z) % k = r ↔ y % k = (r - z % k) % k := by
  constructor
  · intro h
    rw [← h, ← Int.sub_emod, Int.add_sub_cancel]
  · intro h
    rw [Int.add_emod, h, Int.emod_add_emod, Int.sub_add_cancel, Int.emod_eq_of_lt h0 h1]
theorem res_nat {k z : Int} (hk : 0 < k) (r : Nat) : (((r + k.toNat - (z % k).toNat) % k.toNat : Nat) : Int) = ((r : Int) - z % k) % k := by
  have h1 : ((z % k).toNat : Int) = z % k := Int.toNat_of_nonneg (Int.emod_nonneg _ (Int.ne_of_gt hk))
  have h2 : (k.toNat : Int) = k := Int.toNat_of_nonneg (Int.le_of_lt hk)
  have h3 : (z % k).toNat ≤ r + k.toNat := Nat.le_trans (Int.ofNat_le.mp (by rw [h1, h2]; exact Int.le_of_lt (Int.emod_lt_of_pos _ hk))) (Nat.le_add_left _ _)
  rw [Int.natCast_emod, Int.ofNat_sub h3, Int.natCast_add, h1, h2, Int.add_comm, Int.add_sub_assoc, Int.add_comm, Int.add_emod_right]
/-- a sum of j residues is r -/
noncomputable def hasR (k : Nat) : List Nat → Nat → Nat → Bool
  | [], j, r => j == 0 && r == 0
  | z :: l, j, r => hasR k l j r || (match j with
    | 0 => false
    | i + 1 => hasR k l i ((r + k - z) % k))
noncomputable def resN (k z : Int) : Nat := (z.fmod k).toNat
theorem hasR_iff {k : Int} (hk : 2 ≤ k ∧ k ≤ 5) : ∀ (ns : List Int) (j r : Nat), r < k.toNat → ((∃ x, SumOf ns j x ∧ x.fmod k = (r : Int)) ↔ hasR k.toNat (ns.map (resN k)) j r = true)
  | [], j, r, hr => by
    show (∃ x : Int, (j = 0 ∧ x = 0) ∧ x.fmod k = (r : Int)) ↔ (j == 0 && r == 0) = true
    rw [Bool.and_eq_true, beq_iff_eq, beq_iff_eq]
    constructor
    · rintro ⟨x, ⟨h1, rfl⟩, h2⟩
      rw [Int.zero_fmod] at h2
      exact ⟨h1, by omega⟩
    · rintro ⟨h1, h2⟩
      subst h2
      exact ⟨0, ⟨h1, rfl⟩, Int.zero_fmod _⟩
  | z :: l, j, r, hr => by
    have ih := hasR_iff hk l
    have hkp : 0 < k := Int.lt_of_lt_of_le (by decide) hk.1
    have h0k : 0 ≤ k := Int.le_of_lt hkp
    have hr2 : (r + k.toNat - resN k z) % k.toNat < k.toNat := Nat.mod_lt _ (Int.lt_toNat.mpr hkp)
    have key : ∀ y : Int, (y + z).fmod k = (r : Int) ↔ y.fmod k = (((r + k.toNat - resN k z) % k.toNat : Nat) : Int) := by
      intro y
      unfold resN
      rw [Int.fmod_eq_emod_of_nonneg _ h0k, Int.fmod_eq_emod_of_nonneg _ h0k, Int.fmod_eq_emod_of_nonneg _ h0k, res_nat hkp r]
      exact res_step (Int.natCast_nonneg r) (Int.lt_toNat.mp hr)
    show (∃ x : Int, (SumOf l j x ∨ ∃ i, j = i + 1 ∧ SumOf l i (x - z)) ∧ x.fmod k = (r : Int)) ↔ (hasR k.toNat (l.map (resN k)) j r || (match j with
      | 0 => false
      | i + 1 => hasR k.toNat (l.map (resN k)) i ((r + k.toNat - resN k z) % k.toNat))) = true
    rw [Bool.or_eq_true, ← ih j r hr]
    constructor
    · rintro ⟨x, h | ⟨i, rfl, h⟩, hx⟩
      · exact .inl ⟨x, h, hx⟩
      · refine .inr ((ih i _ hr2).mp ⟨x - z, h, (key (x - z)).mp ?_⟩)
        rwa [show x - z + z = x by omega]
    · rintro (⟨x, h, hx⟩ | h)
      · exact ⟨x, .inl h, hx⟩
      · cases j with
        | zero => cases h
        | succ i =>
          obtain ⟨y, h1, h2⟩ := (ih i _ hr2).mpr h
          exact ⟨y + z, .inr ⟨i, rfl, by rwa [show y + z - z = y by omega]⟩, (key y).mpr h2⟩
/-- all ordered lists of residues -/
noncomputable def allS (k : Nat) : Nat → Nat → (List Nat → Bool) → Bool
  | 0, _, P => P []
  | n + 1, lo, P => (List.range k).all fun a => decide (a < lo) || allS k n a fun l => P (a :: l)
theorem allS_at {k : Nat} : ∀ (n lo : Nat) (P : List Nat → Bool), allS k n lo P = true → ∀ l : List Nat, l.length = n → l.Pairwise (· ≤ ·) → (∀ a ∈ l, lo ≤ a ∧ a < k) → P l = true
  | 0, lo, P, h, l, hl, _, _ => by
    rw [List.length_eq_zero_iff.mp hl]
    exact h
  | n + 1, lo, P, h, [], hl, _, _ => by simp at hl
  | n + 1, lo, P, h, a :: l, hl, ho, hr => by
    have h1 : ((List.range k).all fun a => decide (a < lo) || allS k n a fun l => P (a :: l)) = true := h
    rw [List.all_eq_true] at h1
    have ha := hr a (List.mem_cons_self ..)
    have h2 := h1 a (List.mem_range.mpr ha.2)
    rw [Bool.or_eq_true, decide_eq_true_eq] at h2
    rcases h2 with h2 | h2
    · omega
    · obtain ⟨p1, p2⟩ := List.pairwise_cons.mp ho
      exact allS_at n a _ h2 l (by simpa using hl) p2 fun b hb => ⟨p1 b hb, (hr b (List.mem_cons_of_mem _ hb)).2⟩
theorem many2 : allS 2 3 0 (fun l => hasR 2 l 2 0) = true := by decide +kernel
theorem many3 : allS 3 5 0 (fun l => hasR 3 l 3 0) = true := by decide +kernel
theorem many4 : allS 4 7 0 (fun l => hasR 4 l 4 0) = true := by decide +kernel
theorem many5 : allS 5 9 0 (fun l => hasR 5 l 5 0) = true := by decide +kernel
noncomputable def fewB (k : Nat) (l : List Nat) : Bool := hasR k l k 0 == !loneB (k : Int) (l.map fun (a : Nat) => (a : Int))
theorem few2 : allS 2 2 0 (fewB 2) = true := by decide +kernel
theorem few3 : allS 3 4 0 (fewB 3) = true := by decide +kernel
theorem few4 : allS 4 6 0 (fewB 4) = true := by decide +kernel
theorem few5 : allS 5 8 0 (fewB 5) = true := by decide +kernel
theorem res_facts {k : Int} (hk : 2 ≤ k ∧ k ≤ 5) {ns ls : List Int} (hp : ls.Perm (ns.map fun z => z.fmod k)) : (∀ a ∈ ls, 0 ≤ a ∧ a < k) ∧ (ls.map (resN k)).map (fun (a : Nat) => (a : Int)) = ls := by
  have h1 : ∀ a ∈ ls, 0 ≤ a ∧ a < k := by
    intro a ha
    obtain ⟨z, _, rfl⟩ := List.mem_map.mp (hp.mem_iff.mp ha)
    exact ⟨Int.fmod_nonneg_of_pos _ (by omega), Int.fmod_lt_of_pos _ (by omega)⟩
  refine ⟨h1, ?_⟩
  rw [List.map_map]
  have e : ∀ a ∈ ls, ((fun (a : Nat) => (a : Int)) ∘ resN k) a = a := by
    intro a ha
    have h2 := h1 a ha
    show (((a.fmod k).toNat : Nat) : Int) = a
    rw [Int.fmod_eq_emod_of_nonneg _ (by omega), Int.emod_eq_of_lt h2.1 h2.2]
    omega
  rw [List.map_congr_left e, List.map_id']
theorem share_res {k : Int} (hk : 2 ≤ k ∧ k ≤ 5) {ns ls : List Int} (hp : ls.Perm (ns.map fun z => z.fmod k)) : shareB k ns = hasR k.toNat (ls.map (resN k)) k.toNat 0 := by
  have h0 : 0 < k.toNat := by omega
  have e : (ns.map fun z => z.fmod k).map (resN k) = ns.map (resN k) := by
    rw [List.map_map]
    refine List.map_congr_left fun z _ => ?_
    show ((z.fmod k).fmod k).toNat = (z.fmod k).toNat
    rw [Int.fmod_fmod]
  have hq : ∀ l : List Int, (∃ x, SumOf l k.toNat x ∧ x.fmod k = 0) ↔ hasR k.toNat (l.map (resN k)) k.toNat 0 = true := fun l => hasR_iff hk l k.toNat 0 h0
  rw [Bool.eq_iff_iff, share_iff, hq ns, ← e, ← hq, ← hq]
  constructor
  · rintro ⟨x, h1, h2⟩
    exact ⟨x, (sum_perm hp _ _).mpr h1, h2⟩
  · rintro ⟨x, h1, h2⟩
    exact ⟨x, (sum_perm hp _ _).mp h1, h2⟩
theorem res_sorted {k : Int} (hk : 2 ≤ k ∧ k ≤ 5) {ls : List Int} (h : ∀ a ∈ ls, 0 ≤ a ∧ a < k) (ho : ls.Pairwise (· ≤ ·)) : (ls.map (resN k)).Pairwise (· ≤ ·) ∧ ∀ a ∈ ls.map (resN k), 0 ≤ a ∧ a < k.toNat := by
  have e : ∀ a ∈ ls, resN k a = a.toNat := by
    intro a ha
    have h2 := h a ha
    unfold resN
    rw [Int.fmod_eq_emod_of_nonneg _ (by omega), Int.emod_eq_of_lt h2.1 h2.2]
  constructor
  · rw [List.map_congr_left e]
    refine List.pairwise_map.mpr (ho.imp ?_)
    intro a b hab
    omega
  · intro a ha
    obtain ⟨z, hz, rfl⟩ := List.mem_map.mp ha
    rw [e z hz]
    have := h z hz
    omega
theorem egz_many {k : Int} (hk : 2 ≤ k ∧ k ≤ 5) {ns : List Int} (hl : ns.length = 2 * k.toNat - 1) : shareB k ns = true := by
  have hp := List.mergeSort_perm (ns.map fun z => z.fmod k) (fun a b => decide (a ≤ b))
  have ho : ((ns.map fun z => z.fmod k).mergeSort fun a b => decide (a ≤ b)).Pairwise (· ≤ ·) := by
    have := List.pairwise_mergeSort (le := fun (a b : Int) => decide (a ≤ b)) (fun a b c h1 h2 => by simp at *; omega) (fun a b => by simp; omega) (ns.map fun z => z.fmod k)
    exact this.imp fun h => of_decide_eq_true h
  generalize (ns.map fun z => z.fmod k).mergeSort (fun a b => decide (a ≤ b)) = ls at hp ho
  rw [share_res hk hp]
  obtain ⟨h1, _⟩ := res_facts hk hp
  obtain ⟨h3, h4⟩ := res_sorted hk h1 ho
  have hll : (ls.map (resN k)).length = 2 * k.toNat - 1 := by rw [List.length_map, hp.length_eq, List.length_map, hl]
  have hk' : k = 2 ∨ k = 3 ∨ k = 4 ∨ k = 5 := by omega
  rcases hk' with rfl | rfl | rfl | rfl
  · exact allS_at _ _ _ many2 _ hll h3 h4
  · exact allS_at _ _ _ many3 _ hll h3 h4
  · exact allS_at _ _ _ many4 _ hll h3 h4
  · exact allS_at _ _ _ many5 _ hll h3 h4
theorem egz_few {k : Int} (hk : 2 ≤ k ∧ k ≤ 5) {ns ls : List Int} (hl : ns.length = 2 * k.toNat - 2) (hp : ls.Perm (ns.map fun z => z.fmod k)) (ho : ls.Pairwise (· ≤ ·)) : shareB k ns = !loneB k ls := by
  rw [share_res hk hp]
  obtain ⟨h1, h2⟩ := res_facts hk hp
  obtain ⟨h3, h4⟩ := res_sorted hk h1 ho
  have hll : (ls.map (resN k)).length = 2 * k.toNat - 2 := by rw [List.length_map, hp.length_eq, List.length_map, hl]
  have hk' : k = 2 ∨ k = 3 ∨ k = 4 ∨ k = 5 := by omega
  have key : fewB k.toNat (ls.map (resN k)) = true := by
    rcases hk' with rfl | rfl | rfl | rfl
    · exact allS_at _ _ _ few2 _ hll h3 h4
    · exact allS_at _ _ _ few3 _ hll h3 h4
    · exact allS_at _ _ _ few4 _ hll h3 h4
    · exact allS_at _ _ _ few5 _ hll h3 h4
  unfold fewB at key
  rw [h2, show ((k.toNat : Nat) : Int) = k by omega] at key
  exact eq_of_beq key
end Mine
end
section
open PySem PySem.W PyProof.Rows PySem.Calls
namespace Mine
set_option maxRecDepth 100000
theorem news_one {h₀ h : Heap} {L : Addr} {p : Addr × Obj} {r : List (Addr × Obj)} (N : News h₀ L h (p :: r)) : News h₀ L h [p] := fun q hq => N q (by rw [List.mem_singleton.mp hq]; exact .head _)
theorem news_first {h₀ h h' : Heap} {L C : Addr} {o o' : Obj} {p q r : Addr × Obj} (N : News h₀ L h [(C, o), p, q, r]) (hk : ∀ b o, b ≠ C → h.get? b = some o → h'.get? b = some o) (hc : h'.get? C = some o') (ne : @Ne Nat p.1 C ∧ @Ne Nat q.1 C ∧ @Ne Nat r.1 C) : News h₀ L h' [(C, o'), p, q, r] := by
  intro x hx
  rcases List.mem_cons.mp hx with rfl | hx
  · exact ⟨hc, (N _ (.head _)).2⟩
  · have z := N x (.tail _ hx)
    refine ⟨hk _ _ ?_ z.1, z.2⟩
    rcases List.mem_cons.mp hx with rfl | hx
    · exact ne.1
    rcases List.mem_cons.mp hx with rfl | hx
    · exact ne.2.1
    rcases List.mem_cons.mp hx with rfl | hx
    · exact ne.2.2
    · cases hx
theorem put_c1 {h₀ h' : Heap} {L C a : Addr} {oC o1 o2 o3 o' : Obj} (N : News h₀ L h' (put (a + 1) o' [(C, oC), (a + 1 + 1 + 1, o3), (a + 1 + 1, o2), (a + 1, o1)])) (hC : @Ne Nat C (a + 1)) : News h₀ L h' [(C, oC), (a + 1 + 1 + 1, o3), (a + 1 + 1, o2), (a + 1, o')] := by
  intro p hp
  apply N
  rcases List.mem_cons.mp hp with rfl | hp
  · exact put_ne (.head _) hC
  rcases List.mem_cons.mp hp with rfl | hp
  · exact put_ne (.tail _ (.head _)) (by show @Ne Nat _ _; omega)
  rcases List.mem_cons.mp hp with rfl | hp
  · exact put_ne (.tail _ (.tail _ (.head _))) (by show @Ne Nat _ _; omega)
  · rw [List.mem_singleton.mp hp]; exact put_self
theorem put_c2 {h₀ h' : Heap} {L C a : Addr} {oC o1 o2 o3 o' : Obj} (N : News h₀ L h' (put (a + 1 + 1) o' [(C, oC), (a + 1 + 1 + 1, o3), (a + 1 + 1, o2), (a + 1, o1)])) (hC : @Ne Nat C (a + 1 + 1)) : News h₀ L h' [(C, oC), (a + 1 + 1 + 1, o3), (a + 1 + 1, o'), (a + 1, o1)] := by
  intro p hp
  apply N
  rcases List.mem_cons.mp hp with rfl | hp
  · exact put_ne (.head _) hC
  rcases List.mem_cons.mp hp with rfl | hp
  · exact put_ne (.tail _ (.head _)) (by show @Ne Nat _ _; omega)
  rcases List.mem_cons.mp hp with rfl | hp
  · exact put_self
  · rw [List.mem_singleton.mp hp]; exact put_ne (.tail _ (.tail _ (.tail _ (.head _)))) (by show @Ne Nat _ _; omega)
theorem ex_tok {o : Obj} {a b : Int} {t : Tok} (e : b = a) (d : o.data = Data.cell (some (Value.int a t))) : ∃ t, o.data = Data.cell (some (Value.int b t)) := ⟨t, by rw [e]; exact d⟩
theorem news_new {h₀ h h' : Heap} {L D : Addr} {o : Obj} {m : Str → Option Value} {news : List (Addr × Obj)} (N : News h₀ L h' news) (F : Fr h₀ L h m) (hn : h.get? D = none) (ho : h'.get? D = some o) : News h₀ L h' ((D, o) :: news) := by
  intro p hp
  rcases List.mem_cons.mp hp with rfl | hp
  · refine ⟨ho, ?_, ?_⟩
    · rintro rfl
      obtain ⟨_, _, _, e, _⟩ := F.ns
      rw [hn] at e; cases e
    · cases e : h₀.get? D with
      | none => rfl
      | some o => rw [F.keep _ _ e] at hn; cases hn
  · exact N p hp
theorem slice_part {cs : List Value} {zs : List Int} (hcs : IntsAre cs zs) (h10 : zs.length = 10) {b : Int} (h1 : 2 ≤ b) (h2 : b ≤ 10) : IntsAre (slicePick cs.toArray (some 1) (some b) none).toList ((zs.drop 1).take (b.toNat - 1)) := by
  have e : cs.toArray.size = 10 := by simpa using hcs.length.trans h10
  have e2 : sliceBounds (some 1) (some b) none cs.toArray.size = (((1 : Nat) : Int), ((b.toNat : Nat) : Int), 1) := by
    rw [e]
    have : b = 2 ∨ b = 3 ∨ b = 4 ∨ b = 5 ∨ b = 6 ∨ b = 7 ∨ b = 8 ∨ b = 9 ∨ b = 10 := by omega
    rcases this with rfl | rfl | rfl | rfl | rfl | rfl | rfl | rfl | rfl <;> rfl
  rw [kmk_pick_nat cs.toArray e2]
  exact (hcs.drop 1).take _
theorem ops_list {h : Heap} {D : Addr} {its : Array Value} {ys : List Str} (e : h.get? D = some (W.listOf its 0)) (o : StrsAre its.toList ys) : ∃ vs : List Value, h.get? D = some (W.listOf vs.toArray 0) ∧ StrsAre vs ys := ⟨its.toList, by rw [Array.toArray_toList]; exact e, o⟩
/-- the frame in the page's loop -/
noncomputable def PgJ (tm : Int) (zs : List Int) (D C l : Value) (m : Str → Option Value) : Prop :=
  ∃ (u : Str → Option Value) (td tp : Tok), m = fun y => if y = Str.ofString "cell" then u y else if y = Str.ofString "row" then u y else mp [(Str.ofString "due", Value.str ⟨(dueL tm.toNat zs).toArray⟩ td), (Str.ofString "page", Value.str ⟨(pageL zs).toArray⟩ tp), (Str.ofString "signs", D), (Str.ofString "cells", C), (Str.ofString "script", l)] y
theorem pgj_next {tm : Int} {zs zs' : List Int} {D C l vr vc : Value} {u : Str → Option Value} {td tp td' tp' : Tok} : PgJ tm zs' D C l fun y => if y = Str.ofString "due" then some (Value.str ⟨(dueL tm.toNat zs').toArray⟩ td') else if y = Str.ofString "page" then some (Value.str ⟨(pageL zs').toArray⟩ tp') else if y = Str.ofString "row" then some vr else if y = Str.ofString "cell" then some vc else if y = Str.ofString "cell" then u y else if y = Str.ofString "row" then u y else mp [(Str.ofString "due", Value.str ⟨(dueL tm.toNat zs).toArray⟩ td), (Str.ofString "page", Value.str ⟨(pageL zs).toArray⟩ tp), (Str.ofString "signs", D), (Str.ofString "cells", C), (Str.ofString "script", l)] y := by
  refine ⟨fun y => if y = Str.ofString "row" then some vr else some vc, td', tp', funext fun y => ?_⟩
  by_cases h1 : y = Str.ofString "cell"
  · subst h1
    rfl
  by_cases h2 : y = Str.ofString "row"
  · subst h2
    rfl
  simp only [if_neg h1, if_neg h2, mp]
  by_cases h3 : y = Str.ofString "due"
  · simp only [if_pos h3]
  by_cases h4 : y = Str.ofString "page"
  · simp only [if_neg h3, if_pos h4]
  · simp only [if_neg h3, if_neg h4]
theorem pgj_first {tm : Int} {D C l : Value} {td tp : Tok} : PgJ tm [] D C l fun y => if y = Str.ofString "due" then some (Value.str (Str.ofString "") td) else if y = Str.ofString "page" then some (Value.str (Str.ofString "") tp) else if y = Str.ofString "signs" then some D else if y = Str.ofString "cells" then some C else if y = Str.ofString "script" then some l else none := by
  refine ⟨fun _ => none, td, tp, funext fun y => ?_⟩
  by_cases h1 : y = Str.ofString "cell"
  · subst h1
    rfl
  by_cases h2 : y = Str.ofString "row"
  · subst h2
    rfl
  simp only [if_neg h1, if_neg h2, mp]
  rfl
theorem strs_init {vs : List Value} {ys : List Str} {y : Str} (h : StrsAre vs (ys ++ [y])) : StrsAre (slicePick vs.toArray none (some (-1)) none).toList ys := by
  have hl : vs.length = ys.length + 1 := by rw [StrsAre.length h, List.length_append]; rfl
  rw [kms_pick_eq]
  show StrsAre (kms_pick vs none (some (-1))) ys
  have e : kms_pick vs none (some (-1)) = vs.take ys.length := by
    unfold kms_pick kms_lo kms_hi
    simp only [hl]
    rw [show (0 : Nat) = 0 from rfl]
    simp
  rw [e]
  have h2 := StrsAre.take' h ys.length
  rwa [List.take_left] at h2
theorem strs_map {α : Type} (g : α → Str) {vs : List Value} {zs : List α} (h : StrsAre vs (zs.map g)) (i : Nat) (v : Value) (e : vs[i]? = some v) : ∃ z t, zs[i]? = some z ∧ v = .str (g z) t := by
  obtain ⟨y, t, rfl, hy⟩ := StrsAre.item h i v e
  rw [List.getElem?_map] at hy
  cases hz : zs[i]? with
  | none => rw [hz] at hy; cases hy
  | some z => rw [hz] at hy; cases hy; exact ⟨z, t, rfl, rfl⟩
theorem ops_at {i : Nat} (h : i < 48) : ∃ y : Str, opsL[i]? = some y ∧ y.cps.toList = opsN.getD i [] := by
  have hl : i < opsL.length := by rw [ops_len]; exact h
  refine ⟨opsL[i], List.getElem?_eq_getElem hl, ?_⟩
  rw [List.getD_eq_getElem?_getD, ← ops_are, List.getElem?_map, List.getElem?_eq_getElem hl]
  rfl
theorem pick3 {prog : Program} {w : World} {A : Around} {E : Value → Shared → Prop} {s : Shared} {value slice : Expr} {l : Addr} {a b c : Str} {ta tb tc : Tok} {k : Int} {u : Tok} {Q : Value → Shared → Prop} {n : Nat} (ho : s.heap.get? l = some (W.listOf #[Value.str a ta, Value.str b tb, Value.str c tc] n)) (h0 : 0 ≤ k) (h3 : k < 3)
    (h : ∀ y t, y = [a, b, c].getD k.toNat a → Q (Value.str y t) s)
    (hs : subscripted slice false (.ref l) (.int k u) = operate [.ref l, .int k u] (getItem (.ref l) (.int k u)) := by with_unfolding_all rfl) :
    wpAny (model prog w) A (subscriptTail value slice (.ref l) (.int k u)) Q E s := by
  have ho' : s.heap.get? l = some (W.listOf [Value.str a ta, Value.str b tb, Value.str c tc].toArray n) := ho
  have hk : k = 0 ∨ k = 1 ∨ k = 2 := by omega
  rcases hk with rfl | rfl | rfl
  · exact item_at ho' (by decide) (by decide) rfl (h _ _ rfl) hs
  · exact item_at ho' (by decide) (by decide) rfl (h _ _ rfl) hs
  · exact item_at ho' (by decide) (by decide) rfl (h _ _ rfl) hs
theorem ops_short {i : Nat} {y : Str} (h : i < 48) (e : y.cps.toList = opsN.getD i []) : y.length ≤ 3 := by
  have h2 : (List.range 48).all (fun i => decide ((opsN.getD i []).length ≤ 3)) = true := by decide +kernel
  have h3 := List.all_eq_true.mp h2 i (List.mem_range.mpr h)
  have h4 : y.length = (opsN.getD i []).length := by rw [← e]; simp [Str.length]
  rw [h4]
  exact of_decide_eq_true h3
theorem tails_short (k : Nat) : ([Str.ofString "", Str.ofString "\t", Str.ofString "\""].getD k (Str.ofString "")).length ≤ 1 := by
  match k with
  | 0 => decide
  | 1 => decide
  | 2 => decide
  | k + 3 => exact (by decide : (Str.ofString "").length ≤ 1)
theorem tails_are (k : Nat) (h : k < 3) : ([Str.ofString "", Str.ofString "\t", Str.ofString "\""].getD k (Str.ofString "")).cps.toList = tailN.getD k [] := by
  match k, h with
  | 0, _ => decide
  | 1, _ => decide
  | 2, _ => decide
theorem str_cat (x y : Str) : (x ++ y).cps.toList = x.cps.toList ++ y.cps.toList := by
  show (x.cps ++ y.cps).toList = _
  simp
theorem row_is {z : Int} {y1 y2 : Str} (h1 : y1.cps.toList = opsN.getD (opI z) []) (h2 : y2.cps.toList = tailN.getD (tlI z) []) : (y1 ++ y2).cps.toList = rowL z := by
  rw [str_cat, h1, h2]; rfl
theorem ends_short (k : Nat) : ([Str.ofString "\r\n", Str.ofString "\n", Str.ofString "\r"].getD k (Str.ofString "\r\n")).length ≤ 2 := by
  match k with
  | 0 => decide
  | 1 => decide
  | 2 => decide
  | k + 3 => exact (by decide : (Str.ofString "\r\n").length ≤ 2)
theorem ends_are (k : Nat) (h : k < 3) : ([Str.ofString "\r\n", Str.ofString "\n", Str.ofString "\r"].getD k (Str.ofString "\r\n")).cps.toList = eolN.getD k [] := by
  match k, h with
  | 0, _ => decide
  | 1, _ => decide
  | 2, _ => decide
theorem str_cat_len (x y : Str) : (x ++ y).length = x.length + y.length := by
  show (x.cps ++ y.cps).size = x.cps.size + y.cps.size
  simp
noncomputable def TxtAt (P : Str → Prop) (s : Shared) (v : Value) (s' : Shared) : Prop := ∃ d t tk, v = Value.str d t ∧ P d ∧ s' = { s with toks := tk }
theorem if_text {M : Model} {A : Around} {E : Value → Shared → Prop} {s : Shared} {c : Prop} [Decidable c] {t1 t2 : Sem Value} {Q : Value → Shared → Prop} (P : Str → Prop) (h1 : c → wpAny M A t1 (TxtAt P s) E s) (h2 : ¬ c → wpAny M A t2 (TxtAt P s) E s)
    (h : ∀ d t tk, P d → Q (Value.str d t) { s with toks := tk }) : if c then wpAny M A t1 Q E s else wpAny M A t2 Q E s := by
  have hq : ∀ v s', TxtAt P s v s' → Q v s' := by
    rintro v s' ⟨d, t, tk, rfl, hp, rfl⟩
    exact h d t tk hp
  split
  · rename_i hc
    exact wpAny_mono (h1 hc) hq fun _ _ e => e
  · rename_i hc
    exact wpAny_mono (h2 hc) hq fun _ _ e => e
noncomputable def BoolAt (b : Bool) (s : Shared) (v : Value) (s' : Shared) : Prop := ∃ tk, v = Value.bool b ∧ s' = { s with toks := tk }
noncomputable def BoolAtH (b : Bool) (s : Shared) (h₀ : Heap) (L : Addr) (m : Str → Option Value) (news : List (Addr × Obj)) (v : Value) (s' : Shared) : Prop := ∃ h tk, v = Value.bool b ∧ s' = { s with heap := h, toks := tk } ∧ Fr h₀ L h m ∧ News h₀ L h news
theorem wp_boolH {M : Model} {A : Around} {E : Value → Shared → Prop} {s : Shared} {t : Sem Value} {Q : Value → Shared → Prop} {h₀ : Heap} {L : Addr} {m : Str → Option Value} {news : List (Addr × Obj)} (b : Bool) (F : Fr h₀ L s.heap m) (N : News h₀ L s.heap news) (h1 : wpAny M A t (BoolAtH b s h₀ L m news) E s) (h2 : ∀ h tk, Fr h₀ L h m → News h₀ L h news → Q (.bool b) { s with heap := h, toks := tk }) : wpAny M A t Q E s :=
  wpAny_mono h1 (by rintro _ _ ⟨h, tk, rfl, rfl, F, N⟩; exact h2 h tk F N) fun _ _ e => e
theorem lm_small {k : Int} (h : 2 ≤ k ∧ k ≤ 5) : Builtin.Range.small 1 k 1 = true := by
  have : k = 2 ∨ k = 3 ∨ k = 4 ∨ k = 5 := by omega
  rcases this with rfl | rfl | rfl | rfl <;> rfl
theorem lm_rsz {k : Int} (h : 2 ≤ k ∧ k ≤ 5) : Builtin.Range.rangeSize 1 k 1 = ((k - 1).toNat : Int) := by
  have : k = 2 ∨ k = 3 ∨ k = 4 ∨ k = 5 := by omega
  rcases this with rfl | rfl | rfl | rfl <;> rfl
theorem wp_bool {M : Model} {A : Around} {E : Value → Shared → Prop} {s : Shared} {t : Sem Value} {Q : Value → Shared → Prop} (b : Bool) (h1 : wpAny M A t (BoolAt b s) E s) (h2 : ∀ tk, Q (.bool b) { s with toks := tk }) : wpAny M A t Q E s :=
  wpAny_mono h1 (by rintro _ _ ⟨tk, rfl, rfl⟩; exact h2 tk) fun _ _ e => e
section
local macro_rules | `(tactic| walk_at "execs cons") => `(tactic| ((try dsimp only); (with_reducible refine wpAny_execs_cons ?_); try dsimp only))
local macro_rules | `(tactic| walk_at "execs nil") => `(tactic| ((try dsimp only); (with_reducible refine wpAny_execs_nil ?_); try dsimp only))
set_option maxHeartbeats 8000000 in
theorem law_holds : PySem.Challenge.rw_st0009_01.Holds := by
  refine hd (by rfl) (by rfl) (by rfl) ?_
  unfold topH
  k_fill
  intro w s₀ s₁ mg mb G Y fa o pm cd doc dV kV ho hd' hcd hD hmg hg args vals as hpre hlay hrd hwl hlo
  have KX := kIn_of Y
  k_behind G ho hd' hcd hD hmg hpre hlay hrd hwl hlo cd
  rename Fr _ _ _ _ => F0'
  rename CellsAre _ _ _ => X0'
  rename News _ _ _ _ => N0'
  rename Heap.IsList _ _ _ => hL'
  rename Below _ _ _ _ => B0
  rename Top _ _ _ _ _ _ => T0
  rename Frag.In _ _ => K0
  clear X0'
  rename Tables _ _ _ _ => hTT
  clear hTT
  rename IntsAre _ _ => hI0
  rename ¬_ => h63
  rename Heap.CodeRec _ _ _ => hcd0
  rename ReadsAll _ _ _ _ => hra0
  rename Well _ _ _ _ => hwe0
  rename Reads _ _ _ _ => hre0
  rename ReadsAllW _ _ _ _ _ _ => hrw0
  refine wpAny_mono (Q := fun f s' => f = .ret (.bool true) ∧ ∃ h tk m, s' = { s₁ with heap := h, toks := tk } ∧ Fr s₁.heap s₁.heap.objs.size h m) (E := fun _ _ => False) ?main ?post ?exc
  case exc => intro _ _ h; exact h.elim
  case post =>
    rintro f s' ⟨rfl, h, tk, m, rfl, hFr⟩
    dsimp only
    wrow_close
  case main =>
  rename _ = Data.cell _ => dA
  revert dA
  rename _ = Data.cell _ => dB
  revert dB
  rename _ = Data.cell _ => dC
  intro dB dA
  have dA' : _ = Data.cell none := dA
  have dB' : _ = Data.cell none := dB
  have dC' : _ = Data.cell none := dC
  clear dA dB dC hrw0 hre0 hwe0 hra0 hD hcd0
  have F1 : Fr s₁.heap s₁.heap.objs.size _ (mp [(Str.ofString "script", Value.ref _)]) := F0'
  clear F0'
  rename_i ci _ ns _ _ _ _ _ _ _ l vs _ _ h₁ tk₁ o3 o2 o1
  have hns : ns.length ≤ 63 := by omega
  dsimp only
  iterate 32 (walk1; try dsimp only)
  rename Fr _ _ _ _ => F2
  rename News _ _ _ _ => N2
  refine ⟨K0.keeps F2.keep, ?_⟩
  rename _ ∧ _ => l1
  rename_i C h2
  refine cells_asks w _ _ _ _ _ _ _ _ _ _ _ _ _ _ _ _ _ _ _ _ B0 F2 K0 T0 rfl ?r1 ?r2 l _ vs ns _ [5, 352, 285, 37, 204, 418, 44, 95, 162, 109] ?r3 ?r4 hI0 hns ?r5 (news_one N2) ?_
  case r1 => decide
  case r2 => decide
  case r3 => exact Fr.lst F2 hL'
  case r4 =>
    rintro rfl
    have q := (N2 _ (.head _)).2.2
    obtain ⟨_, q2, _⟩ := hL'
    rw [q] at q2
    cases q2
  case r5 => exact ⟨_, 0, rfl, by repeat constructor, rfl, by decide⟩
  intro h3 tk3 oC' zs hk3 hc3 hC3
  obtain ⟨cs, nC, rfl, hcs, hz10, hz0⟩ := hC3
  have F3 := LCg.fr_but F2 (fun b o hb e => hk3 b o (by simpa using hb) e) (Ne.symm (N2 _ (.head _)).2.1) (N2 _ (.head _)).2.2
  have N3 := news_first N2 hk3 hc3 ⟨Nat.ne_of_lt l1.1, Nat.ne_of_lt l1.2.1, Nat.ne_of_lt l1.2.2⟩
  clear F2 N2
  obtain ⟨z0, hz0g⟩ : ∃ z0, zs[0]? = some z0 := ⟨zs[0]'(by omega), List.getElem?_eq_getElem _⟩
  obtain ⟨t0, ht0⟩ := hcs.get 0 z0 hz0g
  have hz0p : 0 ≤ z0 := hz0 z0 (List.mem_of_getElem? hz0g)
  try dsimp only
  iterate 9 (walk1; try dsimp only)
  rename Fr _ _ _ _ => F4
  rename News _ _ _ _ => N4
  refine item_at (vs := cs) (N4 _ (.head _)).1 (by decide) (by decide) ht0 ?_
  iterate 3 (walk1; try dsimp only)
  refine store_cell F4 N4 rfl (.tail _ (.tail _ (.tail _ (.head _)))) dA' rfl rfl fun h5 o5 F5 N5 d5 => ?_
  have N5' := put_c1 N5 (Nat.ne_of_gt l1.2.2)
  clear N5 F4 N4
  iterate 9 (walk1; try dsimp only)
  rename Fr _ _ _ _ => F6
  rename News _ _ _ _ => N6
  refine item_at (vs := cs) (N6 _ (.head _)).1 (by decide) (by decide) ht0 ?_
  iterate 8 (walk1; try dsimp only)
  rename Fr _ _ _ _ => F7
  rename News _ _ _ _ => N7
  rename _ = Data.cell _ => d7
  rename_i h7 o7
  obtain ⟨sz, hsz⟩ : ∃ sz, sz = 2 + z0.fmod 4 := ⟨_, rfl⟩
  obtain ⟨tm, htm⟩ : ∃ tm, tm = 1 + (z0.fdiv 4).fmod 2 := ⟨_, rfl⟩
  obtain ⟨tS, d5'⟩ := ex_tok hsz d5
  obtain ⟨tT, d7'⟩ := ex_tok htm d7
  clear d5 d7
  have hsz2 : 2 ≤ sz ∧ sz ≤ 5 := by
    have h1 := Int.fmod_nonneg_of_pos z0 (show (0 : Int) < 4 by decide)
    have h2 := Int.fmod_lt_of_pos z0 (show (0 : Int) < 4 by decide)
    omega
  have htm2 : 1 ≤ tm ∧ tm ≤ 2 := by
    have h1 := Int.fmod_nonneg_of_pos (z0.fdiv 4) (show (0 : Int) < 2 by decide)
    have h2 := Int.fmod_lt_of_pos (z0.fdiv 4) (show (0 : Int) < 2 by decide)
    omega
  iterate 3 (walk1; try dsimp only)
  refine (ops_asks w _ _ _) _ _ _ _ _ _ _ _ _ _ _ _ _ _ _ _ _ B0 F7 K0 T0 rfl (by decide) (by decide) ?_
  rintro r h8 tk8 hk8 _ ⟨D, items0, rfl, hD8', hDn, hops'⟩
  obtain ⟨items, hD8, hops⟩ := ops_list hD8' hops'
  clear hD8' hops'
  have F8 := F7.keeps hk8
  have N8 := news_new (N7.grown hk8) F7 hDn hD8
  clear F7 N7 hk8
  try dsimp only
  iterate 10 (walk1; try dsimp only)
  rename Fr _ _ _ _ => F9
  rename News _ _ _ _ => N9
  refine' For_turns ?fF1 ?fh1 ?fs1 ?fE1
  case fF1 => exact F9
  case fs1 => intro _; rfl
  case fE1 => passes_own
  iterate 11 (walk1; try dsimp only)
  k_dflt refine' kmk_slice_ints (s := { heap := _, gens := s₁.gens, drawn := s₁.drawn, toks := _, os := s₁.os }) (vs := cs) (ns := zs) F9 N9 ?sl ?sp ?sq hcs (slice_part hcs hz10 (b := 2 * sz) ?sb1 ?sb2) rfl ?_ ?ss ?st ?sz
  case sl => exact PySem.IsL.isList (N9 _ (.tail _ (.head _))).1
  case sp => kmk_part
  case sq => kmk_part
  case sb1 => omega
  case sb2 => omega
  case ss => with_unfolding_all rfl
  case st => kmk_pure
  case sz => exact kmk_sz hcs (by rw [sizeLine_eq]; omega)
  intro P ps h10 F10 N10 lP hP _ _
  obtain ⟨cl, hcl⟩ : ∃ cl, cl = (zs.drop 1).take ((2 * sz).toNat - 1) := ⟨_, rfl⟩
  rw [← hcl] at hP
  have hcll : cl.length = 2 * sz.toNat - 1 := by rw [hcl, List.length_take, List.length_drop]; omega
  refine for_own2 rfl F10 (fun p hp => N10 p (.tail _ hp)) N10 (.head _) (fun i m nw => nw = [(D, W.listOf items.toArray 0), (C, W.listOf cs.toArray nC), (s₁.heap.objs.size + 1 + 1 + 1, o3), (s₁.heap.objs.size + 1 + 1, o7), (s₁.heap.objs.size + 1, o5)] ∧ PgJ tm (cl.take i) (.ref D) (.ref C) (.ref l) m) ?_ ?_ ?_
  · exact ⟨rfl, pgj_first⟩
  · intro I i v m₁ news₁ hT tkT own oI hdI hvi hJ hnI hoI hI hfI F N
    --T1a
    obtain ⟨z, tz, rfl, hz⟩ := hP.at i v hvi
    obtain ⟨rfl, u, td, tp, rfl⟩ := hJ
    have FT : Fr s₁.heap s₁.heap.objs.size hT _ := F
    have NT : News s₁.heap s₁.heap.objs.size hT (own ++ _) := N
    clear F N F10 N10
    have hmT : (s₁.heap.objs.size + 1 + 1, o7) ∈ own ++ [(D, W.listOf items.toArray 0), (C, W.listOf cs.toArray nC), (s₁.heap.objs.size + 1 + 1 + 1, o3), (s₁.heap.objs.size + 1 + 1, o7), (s₁.heap.objs.size + 1, o5)] := List.mem_append_right _ (.tail _ (.tail _ (.tail _ (.head _))))
    have hmD : (D, W.listOf items.toArray 0) ∈ own ++ [(D, W.listOf items.toArray 0), (C, W.listOf cs.toArray nC), (s₁.heap.objs.size + 1 + 1 + 1, o3), (s₁.heap.objs.size + 1 + 1, o7), (s₁.heap.objs.size + 1, o5)] := List.mem_append_right _ (.head _)
    have hsub : ∀ p ∈ own ++ [(D, W.listOf items.toArray 0), (C, W.listOf cs.toArray nC), (s₁.heap.objs.size + 1 + 1 + 1, o3), (s₁.heap.objs.size + 1 + 1, o7), (s₁.heap.objs.size + 1, o5)], p ∈ own ++ [(D, W.listOf items.toArray 0), (C, W.listOf cs.toArray nC), (s₁.heap.objs.size + 1 + 1 + 1, o3), (s₁.heap.objs.size + 1 + 1, o7), (s₁.heap.objs.size + 1, o5)] := fun p hp => hp
    generalize hall : own ++ [(D, W.listOf items.toArray 0), (C, W.listOf cs.toArray nC), (s₁.heap.objs.size + 1 + 1 + 1, o3), (s₁.heap.objs.size + 1 + 1, o7), (s₁.heap.objs.size + 1, o5)] = all at NT hmT hmD
    obtain ⟨y1, hy1, hy1c⟩ := ops_at (opI_lt z)
    obtain ⟨tr, htr⟩ := hops.at hy1
    have hzf : 0 ≤ z.fmod 48 ∧ z.fmod 48 < 48 := ⟨Int.fmod_nonneg_of_pos z (by decide), Int.fmod_lt_of_pos z (by decide)⟩
    iterate 11 (walk1; try dsimp only)
    rename News _ _ _ _ => NU
    refine item_at (vs := items) (NU _ hmD).1 hzf.1 (by omega) htr ?_
    iterate 17 (walk1; try dsimp only)
    rename News _ _ _ _ => NV
    have hzg : 0 ≤ (z.fdiv 48).fmod 3 ∧ (z.fdiv 48).fmod 3 < 3 := ⟨Int.fmod_nonneg_of_pos _ (by decide), Int.fmod_lt_of_pos _ (by decide)⟩
    refine pick3 (NV _ (.head _)).1 hzg.1 hzg.2 fun y2 t2 hy2 => ?_
    have hly1 : y1.length ≤ 3 := ops_short (opI_lt z) hy1c
    have hly2 : y2.length ≤ 1 := by rw [hy2]; exact tails_short _
    refine PyProof.Rows.add_str (fun t3 tk3 => ?_) (by rw [sizeLine_eq]; omega)
    have hrow : (y1 ++ y2).cps.toList = rowL z := row_is hy1c (by rw [hy2]; exact tails_are _ (tlI_lt z))
    iterate 23 (walk1; try dsimp only)
    rename News _ _ _ _ => NW
    have hzh : 0 ≤ (z.fdiv 144).fmod 3 ∧ (z.fdiv 144).fmod 3 < 3 := ⟨Int.fmod_nonneg_of_pos _ (by decide), Int.fmod_lt_of_pos _ (by decide)⟩
    refine pick3 (NW _ (.head _)).1 hzh.1 hzh.2 fun y4 t4 hy4 => ?_
    have hly4 : y4.length ≤ 2 := by rw [hy4]; exact ends_short _
    refine PyProof.Rows.add_str (fun t5 tk5 => ?_) (by rw [sizeLine_eq]; have := str_cat_len y1 y2; omega)
    refine PyProof.Rows.iadd_str (fun t6 tk6 => ?_) (by rw [sizeLine_eq]; have := str_cat_len y1 y2; have := str_cat_len (y1 ++ y2) y4; have := pageL_len (cl.take i); have : (cl.take i).length ≤ 9 := (by rw [List.length_take]; omega); simp only [Str.length, List.size_toArray] at *; omega)
    iterate 4 (walk1; try dsimp only)
    generalize hrr : y1 ++ y2 = rr at *
    have hrl : 0 < rr.length := by
      have h1 := (row_len z).2
      rw [← hrow] at h1
      simp [Str.length] at h1 ⊢
      omega
    iterate 10 (walk1; try dsimp only)
    refine if_text (fun d => d.cps.toList = dotL tm.toNat (rowL z)) ?_ ?_ ?_
    · intro hdot
      iterate 2 (walk1; try dsimp only)
      rename News _ _ _ _ => NX
      refine nameX_C NX rfl (.tail _ (.tail _ hmT)) d7' ?_
      walk1
      exact ⟨_, _, _, rfl, (dots_mul htm2).trans (by unfold dotL; rw [if_pos ((dot_head hrow (row_len z).2).mp hdot)]), rfl⟩
    · intro hdot
      iterate 1 (walk1; try dsimp only)
      exact ⟨_, _, _, rfl, by unfold dotL; rw [if_neg (fun q => hdot ((dot_head hrow (row_len z).2).mpr q))]; decide +kernel, rfl⟩
    intro dd tdd tkd hdd
    dsimp only
    have hrl4 : rr.length ≤ 4 := by rw [list_len hrow]; exact (row_len z).1
    have hdl : dd.length ≤ 2 := by
      rw [list_len hdd]
      have := dotL_len tm.toNat z
      omega
    have hcr : (Str.ofString "\r\n").length = 2 := by decide +kernel
    have hsl := spT_len (rr ++ Str.ofString "\r\n")
    have hcl2 := cat_len rr (Str.ofString "\r\n")
    iterate 7 (walk1; try dsimp only)
    refine PyProof.Rows.add_str (fun t7 tk7 => ?_) (by rw [sizeLine_eq]; omega)
    walk1
    rename Fr _ _ _ _ => FY
    rename News _ _ _ _ => NY
    refine ⟨K0.keeps FY.keep, ?_⟩
    refine (spell_asks w _ _ _ (rr ++ Str.ofString "\r\n") _ (by omega)) _ _ _ _ _ _ _ _ _ _ _ _ _ _ _ _ _ B0 FY K0 T0 rfl (by decide) (by decide) ?_
    rintro r h9 tk9 hk9 _ ⟨t9, rfl⟩
    have FZ := FY.keeps hk9
    have NZ := NY.grown hk9
    clear FY NY
    try dsimp only
    have hln2 : (⟨(dueL tm.toNat (cl.take i)).toArray⟩ : Str).length ≤ 342 := by
      have h1 := dueL_len tm.toNat (cl.take i)
      have h2 : (cl.take i).length ≤ 9 := by rw [List.length_take]; omega
      have h3 : (tm.toNat + 36) * (cl.take i).length ≤ 38 * 9 := Nat.mul_le_mul (by omega) h2
      show (dueL tm.toNat (cl.take i)).toArray.size ≤ _
      simp only [List.size_toArray]
      omega
    have hcl3 := cat_len dd (spT (rr ++ Str.ofString "\r\n"))
    refine PyProof.Rows.add_str (fun t10 tk10 => ?_) (by rw [sizeLine_eq]; omega)
    refine PyProof.Rows.iadd_str (fun t11 tk11 => ?_) (by rw [sizeLine_eq]; omega)
    iterate 2 (walk1; try dsimp only)
    rename Fr _ _ _ _ => FE
    rename News _ _ _ _ => NE
    have hyt : y4.cps.toList = eolN.getD (elI z) [] := by rw [hy4]; exact ends_are _ (elI_lt z)
    rw [page_next hrow hyt, due_next hdd hrow, ← take_next hz] at FE
    exact turn_end FE NE (fun p hp => .tail _ (.tail _ (hall ▸ List.mem_append_left _ hp))) (fun p hp => .tail _ (.tail _ (hall ▸ List.mem_append_right _ hp))) hnI ⟨rfl, pgj_next⟩
    --T1b
  · intro h11 tk11 m11 news11 F11 N11 hJ11
    have hck : cl.take ps.length = cl := by rw [hP.length]; exact List.take_length
    rw [hck] at hJ11
    obtain ⟨rfl, u, td, tp, rfl⟩ := hJ11
    have F12 : Fr s₁.heap s₁.heap.objs.size h11 _ := F11
    have N12 : News s₁.heap s₁.heap.objs.size h11 _ := N11
    clear F10 N10 F11 N11 F9 N9
    have hpl : (⟨(pageL cl).toArray⟩ : Str).length ≤ 54 := by
      have h1 := pageL_len cl
      show (pageL cl).toArray.size ≤ _
      simp only [List.size_toArray]
      omega
    iterate 9 (walk1; try dsimp only)
    refine ⟨K0.keeps F12.keep, ?_⟩
    refine (esc_asks w _ _ _ ⟨(pageL cl).toArray⟩ _ (by omega)) _ _ _ _ _ _ _ _ _ _ _ _ _ _ _ _ _ B0 F12 K0 T0 rfl (by decide) (by decide) ?_
    rintro r h13 tk13 hk13 _ ⟨t13, rfl⟩
    have F13 := F12.keeps hk13
    have N13 := N12.grown hk13
    clear F12 N12 hk13
    try dsimp only
    iterate 6 (walk1; try dsimp only)
    refine ⟨K0.keeps F13.keep, ?_⟩
    refine (spell_asks w _ _ _ ⟨(pageL cl).toArray⟩ _ (by omega)) _ _ _ _ _ _ _ _ _ _ _ _ _ _ _ _ _ B0 F13 K0 T0 rfl (by decide) (by decide) ?_
    rintro r h14 tk14 hk14 _ ⟨t14, rfl⟩
    have F14 := F13.keeps hk14
    have N14 := N13.grown hk14
    clear F13 N13 hk14
    rw [esc_spell]
    try dsimp only
    iterate 2 (walk1; try dsimp only)
    refine if_skip (ne_same _) ?_
    iterate 1 (walk1; try dsimp only)
    iterate 5 (walk1; try dsimp only)
    rename Fr _ _ _ _ => F15
    refine' For_turns ?fF2 ?fh2 ?fs2 ?fE2
    case fF2 => exact F15
    case fs2 => intro _; rfl
    case fE2 => passes_own
    iterate 7 (walk1; try dsimp only)
    rename IsRange _ _ _ _ _ _ _ _ => hr16
    rename Fr _ _ _ _ => F16
    rename News _ _ _ _ => N16
    have hcl9 : cl.length ≤ 9 := by omega
    refine for_range (n := tm.toNat) rfl hr16 (tm_small htm2) (tm_rsz htm2) F16 N16 (fun i' m nw => nw = [(D, W.listOf items.toArray 0), (C, W.listOf cs.toArray nC), (s₁.heap.objs.size + 1 + 1 + 1, o3), (s₁.heap.objs.size + 1 + 1, o7), (s₁.heap.objs.size + 1, o5)] ∧ MlJ i' cl (fun y => if y = Str.ofString "cell" then u y else if y = Str.ofString "row" then u y else mp [(Str.ofString "due", Value.str ⟨(dueL tm.toNat cl).toArray⟩ td), (Str.ofString "page", Value.str ⟨(pageL cl).toArray⟩ tp), (Str.ofString "signs", Value.ref D), (Str.ofString "cells", Value.ref C), (Str.ofString "script", Value.ref l)] y) m) ?_ ?_ ?_
    · exact ⟨rfl, ml_first⟩
    · intro I2 i2 t2 m2' news2 h17 tk17 own2 oI2 hi2 hJ2 hnI2 hoI2 hI2 hfI2 F N
      obtain ⟨rfl, u2, t17, rfl⟩ := hJ2
      --T2a
      have F17 : Fr s₁.heap s₁.heap.objs.size h17 _ := F
      have N17 : News s₁.heap s₁.heap.objs.size h17 (own2 ++ _) := N
      clear F N F16 N16
      generalize hall : own2 ++ [(D, W.listOf items.toArray 0), (C, W.listOf cs.toArray nC), (s₁.heap.objs.size + 1 + 1 + 1, o3), (s₁.heap.objs.size + 1 + 1, o7), (s₁.heap.objs.size + 1, o5)] = all at N17
      try dsimp only
      iterate 10 (walk1; try dsimp only)
      rename Fr _ _ _ _ => F18
      rename News _ _ _ _ => N18
      refine ⟨K0.keeps F18.keep, ?_⟩
      have hsl2 := sendL_len (k := i2) hcl9 (by omega)
      refine (quote_asks w _ _ _ ⟨(sendL i2 cl).toArray⟩ _ (by omega)) _ _ _ _ _ _ _ _ _ _ _ _ _ _ _ _ _ B0 F18 K0 T0 rfl (by decide) (by decide) ?_
      rintro r h19 tk19 hk19 _ ⟨t19, rfl⟩
      have F19 := F18.keeps hk19
      have N19 := N18.grown hk19
      clear F18 N18 hk19
      rw [quote_send]
      try dsimp only
      iterate 2 (walk1; try dsimp only)
      rename Fr _ _ _ _ => F20
      rename News _ _ _ _ => N20
      exact turn_end F20 N20 (fun p hp => hall ▸ List.mem_append_left _ hp) (fun p hp => hall ▸ List.mem_append_right _ hp) hnI2 ⟨rfl, ml_next⟩
      --T2b
    · intro h17 tk17 m17 news17 F N hJ17
      obtain ⟨rfl, u2, t17, rfl⟩ := hJ17
      rw [sendL_end htm2] at F
      have F17 : Fr s₁.heap s₁.heap.objs.size h17 _ := F
      have N17 : News s₁.heap s₁.heap.objs.size h17 _ := N
      clear F N F16 N16
      have hml : (⟨(mailL tm.toNat cl).toArray⟩ : Str).length ≤ 72 := by
        rw [← sendL_end htm2]
        exact sendL_len hcl9 (by omega)
      try dsimp only
      iterate 8 (walk1; try dsimp only)
      refine ⟨K0.keeps F17.keep, ?_⟩
      refine (esc_asks w _ _ _ ⟨(mailL tm.toNat cl).toArray⟩ _ (by omega)) _ _ _ _ _ _ _ _ _ _ _ _ _ _ _ _ _ B0 F17 K0 T0 rfl (by decide) (by decide) ?_
      rintro r h18 tk18 hk18 _ ⟨t18, rfl⟩
      have F18 := F17.keeps hk18
      have N18 := N17.grown hk18
      clear F17 N17 hk18
      rw [mail_esc]
      try dsimp only
      iterate 8 (walk1; try dsimp only)
      refine if_skip (ne_same _) ?_
      iterate 2 (walk1; try dsimp only)
      rename Fr _ _ _ _ => F20
      refine' LCg.Assign_ListComp_U ?cF3 ?cL3 ?csw3 ?cclos3 ?ccell3 ?ckind3 ?cnames3 ?cx3 ?cy3 ?cp3 ?ch3 ?chs3
      case cF3 => exact F20
      case cL3 => rfl
      case csw3 => with_unfolding_all rfl
      case cclos3 => with_unfolding_all rfl
      case ccell3 => decide
      case ckind3 => rfl
      case cnames3 => decide
      case cx3 => rfl
      case cy3 => rfl
      case cp3 => rfl
      case chs3 => intro _; rfl
      try dsimp only
      have hdl3 := dueL_len tm.toNat cl
      have hdl4 : (tm.toNat + 36) * cl.length ≤ 38 * 9 := Nat.mul_le_mul (by omega) hcl9
      have hdl5 : (⟨(dueL tm.toNat cl).toArray⟩ : Str).length ≤ 342 := by
        show (dueL tm.toNat cl).toArray.size ≤ _
        rw [List.size_toArray]
        omega
      iterate 8 (walk1; try dsimp only)
      rename Fr _ _ _ _ => F21
      rename News _ _ _ _ => N21
      refine KSpl.split1 F21 N21 (by decide +kernel) ?_ (by rw [sizeLine_eq]; omega)
      intro D5 l5 h22 tk22 hl5 hst5 F22 N22 hlt22
      iterate 7 (walk1; try dsimp only)
      rw [hl5, due_split htm2] at hst5
      have hll5 := StrsAre.length hst5
      rw [List.length_append, List.length_map] at hll5
      refine slice_any (lo := none) (hi := some (-1)) (s := { heap := _, gens := s₁.gens, drawn := s₁.drawn, toks := _, os := s₁.os }) F22 N22 (PySem.IsL.isList (N22 _ (.head _)).1) ?sp3 ?sq3 ?_ ?ss3 ?sz3
      case sp3 => kmk_part
      case sq3 => kmk_part
      case ss3 => with_unfolding_all rfl
      case sz3 => rw [sizeLine_eq, List.size_toArray, hll5, List.length_singleton]; omega
      intro D6 h23 F23 N23 l23
      have hp6 := strs_init hst5
      have hpl6 := StrsAre.length hp6
      rw [List.length_map] at hpl6
      generalize hps6 : slicePick (strValues l5).toArray none (some (-1)) none = ps6 at *
      refine LCg.CompSrc.ledger rfl F23 N23 (.head _) (by rw [sizeLine_eq, ← Array.length_toList, hpl6]; omega) fun gg => rest_same (fun i v => ∃ t z, cl[i]? = some z ∧ v = .int (7 + z.fmod 48) t) ?_ ?_
      · intro i v ys I oI C2 oC2 D7 m₂ h24 tk24 E' hi hys hv hC2 hm2 F24 N24 off ne
        rw [← Array.getElem?_toList] at hv
        obtain ⟨z, tz, hz, rfl⟩ := strs_map _ hp6 i v hv
        iterate 9 (walk1; try dsimp only)
        refine ⟨K0.keeps F24.keep, ?_⟩
        obtain ⟨hq0, hq1, hq2, hq3, hq4⟩ := piece_ok htm2 z
        have hq5 := nr4_len htm2 z
        refine (num_asks w _ _ _ (pieceS tm.toNat z) _ tm _ htm2.1 htm2.2 hq0 hq1 hq2 hq3 hq5.1 hq5.2) _ _ _ _ _ _ _ _ _ _ _ _ _ _ _ _ _ B0 F24 K0 T0 rfl (by decide) (by decide) ?_
        rintro r h25 tk25 hk25 _ hfl
        rw [num_piece htm2] at hfl
        obtain ⟨t25, rfl⟩ := hfl.int_inv
        have F25 := F24.keeps hk25
        have N25 := N24.grown hk25
        exact LCg.CompEnd.intro F25 N25 _ (fun _ h => h) off (.inr ⟨_, .head _, rfl, _, rfl⟩) ⟨rfl, t25, z, hz, rfl⟩
      · intro ys hys hY
        have hR : IntsAre ys (cl.map fun z => 7 + z.fmod 48) := ints_of _ cl ys (by rw [hys, ← Array.length_toList, hpl6]) hY
        intro D8 h26 tk26 F26 N26 o26
        dsimp only
        iterate 5 (walk1; try dsimp only)
        refine none_in (PySem.IsL.isList (n := _) (items := ys.toArray) (N26 _ (.head _)).1) hR ?hun1 ?_
        case hun1 => units_room
        iterate 1 (walk1; try dsimp only)
        refine if_skip Bool.false_ne_true ?_
        iterate 7 (walk1; try dsimp only)
        rename Fr _ _ _ _ => F27
        refine' LCg.ListComp_U ?cF4 ?cclos4 ?ccell4 ?ckind4 ?cnames4 ?cx4 ?ch4 ?chs4
        case cF4 => exact F27
        case cclos4 => with_unfolding_all rfl
        case ccell4 => decide
        case ckind4 => rfl
        case cnames4 => decide
        case cx4 => rfl
        case chs4 => intro _; rfl
        iterate 14 (walk1; try dsimp only)
        rename Fr _ _ _ _ => F28
        rename News _ _ _ _ => N28
        k_dflt refine' kmk_slice_ints (s := { heap := _, gens := s₁.gens, drawn := s₁.drawn, toks := _, os := s₁.os }) (vs := cs) (ns := zs) F28 N28 ?sl4 ?sp4 ?sq4 hcs (slice_part hcs hz10 (b := 2 * sz - 1) ?sb41 ?sb42) rfl ?_ ?ss4 ?st4 ?sz4
        case sl4 => exact PySem.IsL.isList (N28 _ (.tail _ (.tail _ (.tail _ (.tail _ (.head _)))))).1
        case sp4 => kmk_part
        case sq4 => kmk_part
        case sb41 => omega
        case sb42 => omega
        case ss4 => with_unfolding_all rfl
        case st4 => kmk_pure
        case sz4 => exact kmk_sz hcs (by rw [sizeLine_eq]; omega)
        intro P2 ps2 h29 F29 N29 lP2 hP2 _ _
        have hcl2e : (zs.drop 1).take ((2 * sz - 1).toNat - 1) = cl.take (2 * sz.toNat - 2) := by
          rw [hcl, List.take_take]
          congr 1
          omega
        rw [hcl2e] at hP2
        have hl2 := hP2.length
        have hcll2 : (cl.take (2 * sz.toNat - 2)).length = 2 * sz.toNat - 2 := by rw [List.length_take]; omega
        refine LCg.CompSrc.ledger rfl F29 N29 (.head _) (by rw [sizeLine_eq, List.size_toArray, hl2]; omega) fun gg => rest_same (fun i v => ∃ t z, (cl.take (2 * sz.toNat - 2))[i]? = some z ∧ v = .int ((7 + z.fmod 48).fmod sz) t) ?_ ?_
        · intro i v ys2 I oI C2 oC2 D9 m₂ h30 tk30 E' hi hys2 hv hC2 hm2 F30 N30 off ne
          rw [← Array.getElem?_toList] at hv
          obtain ⟨z, tz, rfl, hz⟩ := hP2.at i v hv
          iterate 9 (walk1; try dsimp only)
          refine mod_int (by omega) ?_
          exact LCg.CompEnd.intro F30 N30 _ (fun _ h => h) off (.inr ⟨_, .head _, rfl, _, rfl⟩) ⟨rfl, _, z, hz, rfl⟩
        · intro ys2 hys2 hY2
          have hR2 : IntsAre ys2 ((cl.take (2 * sz.toNat - 2)).map fun z => (7 + z.fmod 48).fmod sz) := ints_of _ _ ys2 (by rw [hys2, List.size_toArray, hl2]) hY2
          intro D9 h31 tk31 F31 N31 o31
          dsimp only
          walk1
          try dsimp only
          refine kso_sorted F31 N31 (PySem.IsL.isList (n := _) (items := ys2.toArray) (N31 _ (.head _)).1) hR2 (by rw [List.length_map]; omega) ?_
          intro D10 vs3 ls c10 h32 F32 N32 l32 hR3 hls hperm hord _
          rw [List.length_map, hcll2] at hls
          iterate 9 (walk1; try dsimp only)
          rename News _ _ _ _ => N33
          have hL33 := PySem.IsL.isList (n := _) (items := vs3.toArray) (N33 _ (.head _)).1
          refine item_list_ints_negR hL33 hR3 (by decide) (by omega) (by decide) fun t33 => ?_
          iterate 3 (walk1; try dsimp only)
          refine item_list_intsR hL33 hR3 (by decide) (by omega) (by decide) fun t34 => ?_
          walk1
          try dsimp only
          rename Fr _ _ _ _ => F33
          obtain ⟨pc, hpc⟩ : ∃ pc, pc = ls.getD (-1 + (ls.length : Int)).toNat 0 - ls.getD (Int.toNat 0) 0 := ⟨_, rfl⟩
          rw [← hpc]
          refine store_cell F33 N33 rfl (.tail _ (.tail _ (.tail _ (.tail _ (.tail _ (.tail _ (.tail _ (.tail _ (.head _))))))))) dC' rfl rfl fun h35 o9 F35 N35' d9 => ?_
          have hk35 : ∀ (a : Addr) (vs : List Value) (n : Nat), (a, W.listOf vs.toArray n) ∈ [(D10, W.listOf vs3.toArray c10), (D9, LCg.lst ys2), (P2, W.listOf ps2.toArray 0), (D8, LCg.lst ys), (D6, W.listOf ps6 0), (D5, W.listOf (strValues l5).toArray 0), (D, W.listOf items.toArray 0), (C, W.listOf cs.toArray nC), (s₁.heap.objs.size + 1 + 1 + 1, o3), (s₁.heap.objs.size + 1 + 1, o7), (s₁.heap.objs.size + 1, o5)] → @Ne Nat a (s₁.heap.objs.size + 1 + 1 + 1) := by
            rintro a vs n hm rfl
            have := news_same N33 (.tail _ (.tail _ (.tail _ (.tail _ (.tail _ (.tail _ (.tail _ (.tail _ (.head _))))))))) hm
            rw [this] at dC'
            cases dC'
          have N35 : News s₁.heap s₁.heap.objs.size h35 [(D10, W.listOf vs3.toArray c10), (D8, LCg.lst ys), (C, W.listOf cs.toArray nC), (s₁.heap.objs.size + 1 + 1 + 1, o9), (s₁.heap.objs.size + 1 + 1, o7), (s₁.heap.objs.size + 1, o5)] := by
            intro p hp
            apply N35'
            rcases List.mem_cons.mp hp with rfl | hp
            · exact put_ne (.head _) (hk35 _ _ _ (.head _))
            rcases List.mem_cons.mp hp with rfl | hp
            · exact put_ne (.tail _ (.tail _ (.tail _ (.head _)))) (hk35 _ ys ys.length (.tail _ (.tail _ (.tail _ (.head _)))))
            rcases List.mem_cons.mp hp with rfl | hp
            · exact put_ne (.tail _ (.tail _ (.tail _ (.tail _ (.tail _ (.tail _ (.tail _ (.head _)))))))) (hk35 _ _ _ (.tail _ (.tail _ (.tail _ (.tail _ (.tail _ (.tail _ (.tail _ (.head _)))))))))
            rcases List.mem_cons.mp hp with rfl | hp
            · exact put_self
            rcases List.mem_cons.mp hp with rfl | hp
            · exact put_ne (.tail _ (.tail _ (.tail _ (.tail _ (.tail _ (.tail _ (.tail _ (.tail _ (.tail _ (.head _)))))))))) (by show @Ne Nat _ _; omega)
            · rw [List.mem_singleton.mp hp]; exact put_ne (.tail _ (.tail _ (.tail _ (.tail _ (.tail _ (.tail _ (.tail _ (.tail _ (.tail _ (.tail _ (.head _))))))))))) (by show @Ne Nat _ _; omega)
          clear N35' hk35 N33 F33 hL33
          try dsimp only
          iterate 2 (walk1; try dsimp only)
          have hL35 := PySem.IsL.isList (n := _) (items := vs3.toArray) (N35 _ (.head _)).1
          obtain ⟨b1, hb1⟩ : ∃ b1 : Bool, b1 = ((ls.getD (Int.toNat 0) 0 == ls.getD (sz - 2).toNat 0) && (ls.getD (sz - 1).toNat 0 == ls.getD (-1 + (ls.length : Int)).toNat 0)) := ⟨_, rfl⟩
          refine wp_bool b1 ?_ fun tk36 => ?_
          · iterate 12 (walk1; try dsimp only)
            refine item_list_intsR hL35 hR3 (by omega) (by omega) (by omega) fun t37 => ?_
            iterate 2 (walk1; try dsimp only)
            split
            · rename_i hc1
              iterate 8 (walk1; try dsimp only)
              refine item_list_intsR hL35 hR3 (by omega) (by omega) (by omega) fun t38 => ?_
              iterate 5 (walk1; try dsimp only)
              refine item_list_ints_negR hL35 hR3 (by decide) (by omega) (by decide) fun t39 => ?_
              iterate 1 (walk1; try dsimp only)
              exact ⟨_, by rw [hb1, hc1, Bool.true_and], rfl⟩
            · rename_i hc1
              exact ⟨_, by rw [hb1, eq_false_of_ne_true hc1, Bool.false_and], rfl⟩
          dsimp only
          iterate 3 (walk1; try dsimp only)
          rename Fr _ _ _ _ => F40
          rename News _ _ _ _ => N40
          obtain ⟨b2, hb2⟩ : ∃ b2 : Bool, b2 = (b1 && !(((List.range (sz - 1).toNat).map fun (i : Nat) => ((1 + (i : Int)) * pc).fmod sz).any (· == 0))) := ⟨_, rfl⟩
          refine wp_boolH b2 F40 N40 ?_ fun h45 tk45 F45 N45 => ?_
          · iterate 3 (walk1; try dsimp only)
            split
            · rename_i hb1t
              iterate 3 (walk1; try dsimp only)
              refine' LCg.ListComp_U ?cF5 ?cclos5 ?ccell5 ?ckind5 ?cnames5 ?cx5 ?ch5 ?chs5
              case cF5 => exact F40
              case cclos5 => with_unfolding_all rfl
              case ccell5 => decide
              case ckind5 => rfl
              case cnames5 => decide
              case cx5 => rfl
              case chs5 => intro _; rfl
              iterate 9 (walk1; try dsimp only)
              rename IsRange _ _ _ _ _ _ _ _ => hr41
              rename Fr _ _ _ _ => F41
              rename News _ _ _ _ => N41
              refine LCg.CompSrc.range (n := (sz - 1).toNat) rfl F41 N41 hr41 (lm_small hsz2) (lm_rsz hsz2) (by rw [sizeLine_eq]; omega) fun gg => rest_same (fun (i : Nat) v => ∃ t z, (List.range (sz - 1).toNat)[i]? = some z ∧ v = .int (((1 + (z : Int)) * pc).fmod sz) t) ?_ ?_
              · intro i v ys4 I oI C2 oC2 D11 m₂ h42 tk42 E' hi hys4 hv hC2 hm2 F42 N42 off ne
                obtain ⟨t42, rfl⟩ := hv
                iterate 6 (walk1; try dsimp only)
                refine mod_int (by omega) ?_
                exact LCg.CompEnd.intro F42 N42 _ (fun _ h => h) off trivial ⟨rfl, _, i, by rw [List.getElem?_range hi], rfl⟩
              · intro ys4 hys4 hY4
                have hR4 : IntsAre ys4 ((List.range (sz - 1).toNat).map fun (i : Nat) => ((1 + (i : Int)) * pc).fmod sz) := ints_of _ _ ys4 (by rw [hys4, List.length_range]) hY4
                intro D11 h43 tk43 F43 N43 o43
                dsimp only
                refine notin_list_ints (PySem.IsL.isList (n := _) (items := ys4.toArray) (N43 _ (.head _)).1) hR4 ?_
                exact ⟨_, _, by rw [hb2, hb1t, Bool.true_and], rfl, F43, fun p hp => N43 p (.tail _ hp)⟩
            · rename_i hb1f
              exact ⟨_, _, by rw [hb2, eq_false_of_ne_true hb1f, Bool.false_and], rfl, F40, N40⟩
          dsimp only
          iterate 6 (walk1; try dsimp only)
          iterate 8 (walk1; try dsimp only)
          rename Fr _ _ _ _ => F46
          rename News _ _ _ _ => N46
          refine ⟨K0.keeps F46.keep, ?_⟩
          refine shares_asks w _ _ _ _ _ _ _ _ _ _ _ _ _ _ _ _ _ _ _ _ B0 F46 K0 T0 rfl (by decide) (by decide) _ sz _ ys _ (PySem.IsL.isList (n := _) (items := ys.toArray) (N46 _ (.tail _ (.head _))).1) hR (by rw [List.length_map]; omega) hsz2.1 hsz2.2 fun h47 tk47 hk47 _ => ?_
          have F47 := F46.keeps hk47
          have N47 := N46.grown hk47
          clear F46 N46 hk47
          rw [egz_many hsz2 (by rw [List.length_map]; exact hcll)]
          try dsimp only
          walk1
          refine if_skip (by decide) ?_
          iterate 15 (walk1; try dsimp only)
          rename Fr _ _ _ _ => F48
          rename News _ _ _ _ => N48
          k_dflt refine' kmk_slice_ints (lo := none) (hi := some (-1)) (s := { heap := _, gens := s₁.gens, drawn := s₁.drawn, toks := _, os := s₁.os }) (vs := ys) (ns := cl.map fun z => 7 + z.fmod 48) F48 N48 ?sl6 ?sp6 ?sq6 hR (kmk_upto_neg hR (by decide)) rfl ?_ ?ss6 ?st6 ?sz6
          case sl6 => exact PySem.IsL.isList (n := _) (items := ys.toArray) (N48 _ (.tail _ (.head _))).1
          case sp6 => kmk_part
          case sq6 => kmk_part
          case ss6 => with_unfolding_all rfl
          case st6 => kmk_pure
          case sz6 => exact kmk_sz hR (by rw [sizeLine_eq, List.length_map]; omega)
          intro P5 ps5 h49 F49 N49 lP5 hP5 _ _
          have hP5e : (cl.map fun z => 7 + z.fmod 48).take ((cl.map fun z => 7 + z.fmod 48).length - (- -1 : Int).toNat) = (cl.take (2 * sz.toNat - 2)).map fun z => 7 + z.fmod 48 := by
            rw [← List.map_take, List.length_map, hcll]
            rfl
          rw [hP5e] at hP5
          iterate 3 (walk1; try dsimp only)
          rename Fr _ _ _ _ => F50
          rename News _ _ _ _ => N50
          refine ⟨K0.keeps F50.keep, ?_⟩
          refine shares_asks w _ _ _ _ _ _ _ _ _ _ _ _ _ _ _ _ _ _ _ _ B0 F50 K0 T0 rfl (by decide) (by decide) _ sz _ ps5 _ (PySem.IsL.isList (n := _) (items := ps5.toArray) (N50 _ (.head _)).1) hP5 (by rw [List.length_map]; omega) hsz2.1 hsz2.2 fun h51 tk51 hk51 _ => ?_
          have F51 := F50.keeps hk51
          have N51 := N50.grown hk51
          clear F50 N50 hk51
          have hfew := egz_few (ns := (cl.take (2 * sz.toNat - 2)).map fun z => 7 + z.fmod 48) hsz2 (by rw [List.length_map]; exact hcll2) (hperm.trans (by rw [List.map_map]; exact List.Perm.refl _)) hord
          rw [hfew]
          try dsimp only
          iterate 3 (walk1; try dsimp only)
          have hlone : b2 = loneB sz ls := by rw [hb2, hb1, hpc]; rfl
          refine if_skip (by rw [hlone]; cases loneB sz ls <;> decide) ?_
          iterate 7 (walk1; try dsimp only)
          rename Fr _ _ _ _ => F52
          refine' LCg.ListComp_U ?cF7 ?cclos7 ?ccell7 ?ckind7 ?cnames7 ?cx7 ?ch7 ?chs7
          case cF7 => exact F52
          case cclos7 => with_unfolding_all rfl
          case ccell7 => decide
          case ckind7 => rfl
          case cnames7 => decide
          case cx7 => rfl
          case chs7 => intro _; rfl
          iterate 11 (walk1; try dsimp only)
          rename Fr _ _ _ _ => F53
          rename News _ _ _ _ => N53
          k_dflt refine' kmk_slice_ints (s := { heap := _, gens := s₁.gens, drawn := s₁.drawn, toks := _, os := s₁.os }) (vs := cs) (ns := zs) F53 N53 ?sl7 ?sp7 ?sq7 hcs (slice_part hcs hz10 (b := 2 * sz) ?sb71 ?sb72) rfl ?_ ?ss7 ?st7 ?sz7
          case sl7 => exact PySem.IsL.isList (n := _) (items := cs.toArray) (N53 _ (.tail _ (.tail _ (.tail _ (.head _))))).1
          case sp7 => kmk_part
          case sq7 => kmk_part
          case sb71 => omega
          case sb72 => omega
          case ss7 => with_unfolding_all rfl
          case st7 => kmk_pure
          case sz7 => exact kmk_sz hcs (by rw [sizeLine_eq]; omega)
          intro P7 ps7 h54 F54 N54 lP7 hP7 _ _
          rw [← hcl] at hP7
          have hl7 := hP7.length
          refine LCg.CompSrc.ledger rfl F54 N54 (.head _) (by rw [sizeLine_eq, List.size_toArray, hl7]; omega) fun gg => rest_same (fun i v => ∃ t z, cl[i]? = some z ∧ v = .int (7 + z.fmod 48) t) ?_ ?_
          · intro i v ys7 I oI C2 oC2 D13 m₂ h55 tk55 E' hi hys7 hv hC2 hm2 F55 N55 off ne
            rw [← Array.getElem?_toList] at hv
            obtain ⟨z, tz, rfl, hz⟩ := hP7.at i v hv
            iterate 7 (walk1; try dsimp only)
            exact LCg.CompEnd.intro F55 N55 _ (fun _ h => h) off (.inr ⟨_, .head _, rfl, _, rfl⟩) ⟨rfl, _, z, hz, rfl⟩
          · intro ys7 hys7 hY7
            have hR7 : IntsAre ys7 (cl.map fun z => 7 + z.fmod 48) := ints_of _ _ ys7 (by rw [hys7, List.size_toArray, hl7]) hY7
            intro D13 h56 tk56 F56 N56 o56
            dsimp only
            k_dflt (refine' eq_intsK (vs := ys) (us := ys7) ?la ?lb ?lc ?ld ?le ?_)
            case la => exact PySem.IsL.isList (n := _) (items := ys.toArray) (N56 _ (.tail _ (.tail _ (.tail _ (.tail _ (.head _)))))).1
            case lb => exact hR
            case lc => exact PySem.IsL.isList (n := _) (items := ys7.toArray) (N56 _ (.head _)).1
            case ld => exact hR7
            case le => units_room
            exact ⟨by rw [decide_eq_true rfl], _, _, _, rfl, F56⟩
end
end Mine
end
theorem PySem.Challenge.cw_st0009_01_holds : PySem.Challenge.rw_st0009_01.Holds := by
  exact Mine.law_holds
