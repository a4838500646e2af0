import PyProof.Rows.All
import Wide.All
import OpenK.AllK
import Wide.FinOn
import PySem.Challenge.RW_in0238_01
set_option Elab.async false
set_option linter.all false
section
set_option Elab.async false
set_option maxRecDepth 100000
set_option maxHeartbeats 8000000
set_option linter.unusedVariables false
namespace Mine
noncomputable section
open PySem
/-- the program's own trees, told by their place -/
noncomputable abbrev pw : Program := PySem.Challenge.pw_in0238_01
noncomputable def stA (i : Nat) : Stmt := pw.main.body.getD i (.Pass ⟨0, 0, 0, 0⟩)
noncomputable def inC (s : Stmt) (i : Nat) : Stmt := match s with
  | .ClassDef _ _ _ b _ _ _ _ _ _ _ => b.getD i (.Pass ⟨0, 0, 0, 0⟩)
  | s => s
noncomputable def aPar (s : Stmt) : Arguments := match s with
  | .FunctionDef _ p _ _ _ _ _ _ _ _ => p
  | _ => ⟨[], [], none, [], [], none, []⟩
noncomputable def aBody (s : Stmt) : List Stmt := match s with
  | .FunctionDef _ _ b _ _ _ _ _ _ _ => b
  | _ => []
noncomputable def aSco (s : Stmt) : Scope := match s with
  | .FunctionDef _ _ _ _ _ _ c _ _ _ => c
  | _ => ⟨.function, [], false, false, []⟩
noncomputable def aPos (s : Stmt) : Pos := match s with
  | .FunctionDef _ _ _ _ _ _ _ _ _ p => p
  | _ => ⟨0, 0, 0, 0⟩
noncomputable def vS (s : String) (t : Nat) : Value := Value.str (Str.ofString s) t
noncomputable def dE (P : Params) (s : String) (t : Nat) (v : Value) : DictEntry := DictEntry.mk (PyData.keyHash P (Str.ofString s)) (Value.str (Str.ofString s) t) v
-- 28 322
noncomputable def ob0 (P : Params) : Obj := (Obj.mk (Value.type "dict") (Option.none) (Data.dict #[(dE P "__name__" (nat_lit 1) (vS "builtins" (nat_lit 160))), (dE P "__doc__" (nat_lit 2) (Value.builtin "builtins.__doc__:str#opaque")), (dE P "__package__" (nat_lit 3) (Value.builtin "builtins.__package__:str#opaque")), (dE P "__loader__" (nat_lit 4) (Value.builtin "builtins.__loader__:shared#opaque")), (dE P "__spec__" (nat_lit 5) (Value.builtin "builtins.__spec__#opaque")), (dE P "__build_class__" (nat_lit 6) (Value.builtin "__build_class__")), (dE P "__\x69mport__" (nat_lit 7) (Value.builtin "__import__")), (dE P "abs" (nat_lit 8) (Value.builtin "abs")), (dE P "all" (nat_lit 9) (Value.builtin "all")), (dE P "any" (nat_lit 10) (Value.builtin "any")), (dE P "ascii" (nat_lit 11) (Value.builtin "ascii")), (dE P "bin" (nat_lit 12) (Value.builtin "bin")), (dE P "breakpoint" (nat_lit 13) (Value.builtin "breakpoint")), (dE P "callable" (nat_lit 14) (Value.builtin "callable")), (dE P "chr" (nat_lit 15) (Value.builtin "chr")), (dE P "compile" (nat_lit 16) (Value.builtin "compile")), (dE P "delattr" (nat_lit 17) (Value.builtin "delattr")), (dE P "dir" (nat_lit 18) (Value.builtin "dir")), (dE P "divmod" (nat_lit 19) (Value.builtin "divmod")), (dE P "eval" (nat_lit 20) (Value.builtin "eval")), (dE P "exec" (nat_lit 21) (Value.builtin "exec")), (dE P "format" (nat_lit 22) (Value.builtin "format")), (dE P "getattr" (nat_lit 23) (Value.builtin "getattr")), (dE P "globals" (nat_lit 24) (Value.builtin "globals")), (dE P "hasattr" (nat_lit 25) (Value.builtin "hasattr")), (dE P "hash" (nat_lit 26) (Value.builtin "hash")), (dE P "hex" (nat_lit 27) (Value.builtin "hex")), (dE P "id" (nat_lit 28) (Value.builtin "id")), (dE P "input" (nat_lit 29) (Value.builtin "input")), (dE P "isinstance" (nat_lit 30) (Value.builtin "isinstance")), (dE P "issubclass" (nat_lit 31) (Value.builtin "issubclass")), (dE P "iter" (nat_lit 32) (Value.builtin "iter")), (dE P "aiter" (nat_lit 33) (Value.builtin "aiter")), (dE P "len" (nat_lit 34) (Value.builtin "len")), (dE P "locals" (nat_lit 35) (Value.builtin "locals")), (dE P "max" (nat_lit 36) (Value.builtin "max")), (dE P "min" (nat_lit 37) (Value.builtin "min")), (dE P "next" (nat_lit 38) (Value.builtin "next")), (dE P "anext" (nat_lit 39) (Value.builtin "anext")), (dE P "oct" (nat_lit 40) (Value.builtin "oct")), (dE P "ord" (nat_lit 41) (Value.builtin "ord")), (dE P "pow" (nat_lit 42) (Value.builtin "pow")), (dE P "print" (nat_lit 43) (Value.builtin "print")), (dE P "repr" (nat_lit 44) (Value.builtin "repr")), (dE P "round" (nat_lit 45) (Value.builtin "round")), (dE P "setattr" (nat_lit 46) (Value.builtin "setattr")), (dE P "sorted" (nat_lit 47) (Value.builtin "sorted")), (dE P "sum" (nat_lit 48) (Value.builtin "sum")), (dE P "vars" (nat_lit 49) (Value.builtin "vars")), (dE P "None" (nat_lit 50) Value.none), (dE P "Ellipsis" (nat_lit 51) Value.ellipsis), (dE P "NotImplemented" (nat_lit 52) Value.notImplemented), (dE P "False" (nat_lit 53) (Value.bool Bool.false)), (dE P "True" (nat_lit 54) (Value.bool Bool.true)), (dE P "bool" (nat_lit 55) (Value.type "bool")), (dE P "memoryview" (nat_lit 56) (Value.type "memoryview")), (dE P "bytearray" (nat_lit 57) (Value.type "bytearray")), (dE P "bytes" (nat_lit 58) (Value.type "bytes")), (dE P "classmethod" (nat_lit 59) (Value.type "classmethod")), (dE P "complex" (nat_lit 60) (Value.type "complex")), (dE P "dict" (nat_lit 61) (Value.type "dict")), (dE P "enumerate" (nat_lit 62) (Value.type "enumerate")), (dE P "filter" (nat_lit 63) (Value.type "filter")), (dE P "float" (nat_lit 64) (Value.type "float")), (dE P "frozenset" (nat_lit 65) (Value.type "frozenset")), (dE P "property" (nat_lit 66) (Value.type "property")), (dE P "int" (nat_lit 67) (Value.type "int")), (dE P "list" (nat_lit 68) (Value.type "list")), (dE P "map" (nat_lit 69) (Value.type "map")), (dE P "object" (nat_lit 70) (Value.type "object")), (dE P "range" (nat_lit 71) (Value.type "range")), (dE P "reversed" (nat_lit 72) (Value.type "reversed")), (dE P "set" (nat_lit 73) (Value.type "set")), (dE P "slice" (nat_lit 74) (Value.type "slice")), (dE P "staticmethod" (nat_lit 75) (Value.type "staticmethod")), (dE P "str" (nat_lit 76) (Value.type "str")), (dE P "super" (nat_lit 77) (Value.type "super")), (dE P "tuple" (nat_lit 78) (Value.type "tuple")), (dE P "type" (nat_lit 79) (Value.type "type")), (dE P "zip" (nat_lit 80) (Value.type "zip")), (dE P "__debug__" (nat_lit 81) (Value.bool Bool.true)), (dE P "BaseException" (nat_lit 82) (Value.type "BaseException")), (dE P "BaseExceptionGroup" (nat_lit 83) (Value.type "BaseExceptionGroup")), (dE P "Exception" (nat_lit 84) (Value.type "Exception")), (dE P "GeneratorExit" (nat_lit 85) (Value.type "GeneratorExit")), (dE P "KeyboardInterrupt" (nat_lit 86) (Value.type "KeyboardInterrupt")), (dE P "SystemExit" (nat_lit 87) (Value.type "SystemExit")), (dE P "ArithmeticError" (nat_lit 88) (Value.type "ArithmeticError")), (dE P "AssertionError" (nat_lit 89) (Value.type "AssertionError")), (dE P "AttributeError" (nat_lit 90) (Value.type "AttributeError")), (dE P "BufferError" (nat_lit 91) (Value.type "BufferError")), (dE P "EOFError" (nat_lit 92) (Value.type "EOFError")), (dE P "ImportError" (nat_lit 93) (Value.type "ImportError")), (dE P "LookupError" (nat_lit 94) (Value.type "LookupError")), (dE P "MemoryError" (nat_lit 95) (Value.type "MemoryError")), (dE P "NameError" (nat_lit 96) (Value.type "NameError")), (dE P "OSError" (nat_lit 97) (Value.type "OSError")), (dE P "ReferenceError" (nat_lit 98) (Value.type "ReferenceError")), (dE P "RuntimeError" (nat_lit 99) (Value.type "RuntimeError")), (dE P "StopAsyncIteration" (nat_lit 100) (Value.type "StopAsyncIteration")), (dE P "StopIteration" (nat_lit 101) (Value.type "StopIteration")), (dE P "SyntaxError" (nat_lit 102) (Value.type "SyntaxError")), (dE P "SystemError" (nat_lit 103) (Value.type "SystemError")), (dE P "TypeError" (nat_lit 104) (Value.type "TypeError")), (dE P "ValueError" (nat_lit 105) (Value.type "ValueError")), (dE P "Warning" (nat_lit 106) (Value.type "Warning")), (dE P "FloatingPointError" (nat_lit 107) (Value.type "FloatingPointError")), (dE P "OverflowError" (nat_lit 108) (Value.type "OverflowError")), (dE P "ZeroDivisionError" (nat_lit 109) (Value.type "ZeroDivisionError")), (dE P "BytesWarning" (nat_lit 110) (Value.type "BytesWarning")), (dE P "DeprecationWarning" (nat_lit 111) (Value.type "DeprecationWarning")), (dE P "EncodingWarning" (nat_lit 112) (Value.type "EncodingWarning")), (dE P "FutureWarning" (nat_lit 113) (Value.type "FutureWarning")), (dE P "ImportWarning" (nat_lit 114) (Value.type "ImportWarning")), (dE P "PendingDeprecationWarning" (nat_lit 115) (Value.type "PendingDeprecationWarning")), (dE P "ResourceWarning" (nat_lit 116) (Value.type "ResourceWarning")), (dE P "RuntimeWarning" (nat_lit 117) (Value.type "RuntimeWarning")), (dE P "SyntaxWarning" (nat_lit 118) (Value.type "SyntaxWarning")), (dE P "UnicodeWarning" (nat_lit 119) (Value.type "UnicodeWarning")), (dE P "UserWarning" (nat_lit 120) (Value.type "UserWarning")), (dE P "BlockingIOError" (nat_lit 121) (Value.type "BlockingIOError")), (dE P "ChildProcessError" (nat_lit 122) (Value.type "ChildProcessError")), (dE P "ConnectionError" (nat_lit 123) (Value.type "ConnectionError")), (dE P "FileExistsError" (nat_lit 124) (Value.type "FileExistsError")), (dE P "FileNotFoundError" (nat_lit 125) (Value.type "FileNotFoundError")), (dE P "InterruptedError" (nat_lit 126) (Value.type "InterruptedError")), (dE P "IsADirectoryError" (nat_lit 127) (Value.type "IsADirectoryError")), (dE P "NotADirectoryError" (nat_lit 128) (Value.type "NotADirectoryError")), (dE P "PermissionError" (nat_lit 129) (Value.type "PermissionError")), (dE P "ProcessLookupError" (nat_lit 130) (Value.type "ProcessLookupError")), (dE P "TimeoutError" (nat_lit 131) (Value.type "TimeoutError")), (dE P "IndentationError" (nat_lit 132) (Value.type "IndentationError")), (dE P "_IncompleteInputError" (nat_lit 133) (Value.type "_IncompleteInputError")), (dE P "IndexError" (nat_lit 134) (Value.type "IndexError")), (dE P "KeyError" (nat_lit 135) (Value.type "KeyError")), (dE P "ModuleNotFoundError" (nat_lit 136) (Value.type "ModuleNotFoundError")), (dE P "NotImplementedError" (nat_lit 137) (Value.type "NotImplementedError")), (dE P "PythonFinalizationError" (nat_lit 138) (Value.type "PythonFinalizationError")), (dE P "RecursionError" (nat_lit 139) (Value.type "RecursionError")), (dE P "UnboundLocalError" (nat_lit 140) (Value.type "UnboundLocalError")), (dE P "UnicodeError" (nat_lit 141) (Value.type "UnicodeError")), (dE P "BrokenPipeError" (nat_lit 142) (Value.type "BrokenPipeError")), (dE P "ConnectionAbortedError" (nat_lit 143) (Value.type "ConnectionAbortedError")), (dE P "ConnectionRefusedError" (nat_lit 144) (Value.type "ConnectionRefusedError")), (dE P "ConnectionResetError" (nat_lit 145) (Value.type "ConnectionResetError")), (dE P "TabError" (nat_lit 146) (Value.type "TabError")), (dE P "UnicodeDecodeError" (nat_lit 147) (Value.type "UnicodeDecodeError")), (dE P "UnicodeEncodeError" (nat_lit 148) (Value.type "UnicodeEncodeError")), (dE P "UnicodeTranslateError" (nat_lit 149) (Value.type "UnicodeTranslateError")), (dE P "ExceptionGroup" (nat_lit 150) (Value.type "ExceptionGroup")), (dE P "EnvironmentError" (nat_lit 151) (Value.type "OSError")), (dE P "IOError" (nat_lit 152) (Value.type "OSError")), (dE P "open" (nat_lit 153) (Value.builtin "open")), (dE P "quit" (nat_lit 154) (Value.builtin "builtins.quit#opaque")), (dE P "exit" (nat_lit 155) (Value.builtin "builtins.exit#opaque")), (dE P "copyright" (nat_lit 156) (Value.builtin "builtins.copyright#opaque")), (dE P "credits" (nat_lit 157) (Value.builtin "builtins.credits#opaque")), (dE P "license" (nat_lit 158) (Value.builtin "builtins.license#opaque")), (dE P "help" (nat_lit 159) (Value.builtin "builtins.help#opaque"))] (nat_lit 159)) #[])
noncomputable def ob1 (P : Params) : Obj := (Obj.mk (Value.type "dict") (Option.none) (Data.dict #[(dE P "builtins" (nat_lit 162) (Value.ref (nat_lit 4))), (dE P "__main__" (nat_lit 163) (Value.ref (nat_lit 5))), (dE P "_sre" (nat_lit 244) (Value.ref (nat_lit 12)))] (nat_lit 3)) #[])
noncomputable def ob2 (P : Params) : Obj := (Obj.mk Value.none (Option.none) (Data.dict #[(dE P "\x69mport.loaded._sre" (nat_lit 183) (Value.bool Bool.true)), (dE P "class._frozen_\x69mportlib.BuiltinImporter" (nat_lit 185) (Value.ref (nat_lit 14))), (dE P "watched.\x69mport" (nat_lit 206) (Value.ref (nat_lit 18))), (dE P "class._frozen_\x69mportlib.ModuleSpec" (nat_lit 216) (Value.ref (nat_lit 22))), (dE P "sys.modules.booked-epoch" (nat_lit 245) (Value.int (Int.ofNat (nat_lit 3)) (nat_lit 0))), (dE P "\x69mport.later-laid._sre" (nat_lit 270) (Value.bool Bool.true)), (dE P "watched.library" (nat_lit 272) (Value.ref (nat_lit 27))), (dE P "watched.library-objects" (nat_lit 0) (vS "\x0c" (nat_lit 0))), (dE P "watched.library-deep._sre" (nat_lit 273) (vS "\x04\x00\x00\x0b\x04\x00\x00\x0b\x04\x00\x00\x03\x04\x00\x00\x0b\x08\x04dict\x02" (nat_lit 0)))] (nat_lit 9)) #[])
noncomputable def ob3 (P : Params) : Obj := (Obj.mk (Value.type "dict") (Option.none) (Data.dict #[(dE P "__name__" (nat_lit 165) (vS "__main__" (nat_lit 164))), (dE P "__doc__" (nat_lit 166) Value.none), (dE P "__package__" (nat_lit 167) Value.none), (dE P "__loader__" (nat_lit 168) (Value.builtin "__main__.__loader__#opaque")), (dE P "__spec__" (nat_lit 169) Value.none), (dE P "__annotations__" (nat_lit 170) (Value.ref (nat_lit 6))), (dE P "__builtins__" (nat_lit 171) (Value.ref (nat_lit 4))), (dE P "__file__" (nat_lit 173) (vS "/claim/cut.py" (nat_lit 172))), (dE P "__cached__" (nat_lit 174) Value.none), (dE P "_sre" (nat_lit 275) (Value.ref (nat_lit 12)))] (nat_lit 10)) #[])
noncomputable def ob4 (P : Params) : Obj := (Obj.mk (Value.type "module") (Option.some (nat_lit 0)) Data.plain #[])
noncomputable def ob5 (P : Params) : Obj := (Obj.mk (Value.type "module") (Option.some (nat_lit 3)) Data.plain #[])
noncomputable def ob6 (P : Params) : Obj := (Obj.mk (Value.type "dict") (Option.none) (Data.dict #[] (nat_lit 0)) #[])
noncomputable def ob7 (P : Params) : Obj := (Obj.mk (Value.type "tuple") (Option.none) (Data.seq #[] (nat_lit 0)) #[])
noncomputable def ob8 (P : Params) : Obj := (Obj.mk Value.none (Option.none) (Data.fields #[]) #[])
noncomputable def ob9 (P : Params) : Obj := (Obj.mk (Value.type "code") (Option.none) (Data.fields #[(vS "<module>" (nat_lit 176)), (vS "<module>" (nat_lit 177)), (vS "/claim/cut.py" (nat_lit 178)), (Value.int (Int.ofNat (nat_lit 1)) (nat_lit 0)), (Value.int (Int.ofNat (nat_lit 0)) (nat_lit 0)), (Value.int (Int.ofNat (nat_lit 0)) (nat_lit 0)), (Value.int (Int.ofNat (nat_lit 0)) (nat_lit 0)), (Value.int (Int.ofNat (nat_lit 0)) (nat_lit 0)), (Value.ref (nat_lit 7)), (Value.bool Bool.false), (Value.int (Int.ofNat (nat_lit 175)) (nat_lit 0)), (Value.ref (nat_lit 8)), Value.none, Value.none, Value.none, Value.none, (Value.int (Int.ofNat (nat_lit 179)) (nat_lit 0)), (Value.int (Int.ofNat (nat_lit 1)) (nat_lit 0)), (vS "/claim/cut.py" (nat_lit 180))]) #[])
noncomputable def ob10 (P : Params) : Obj := (Obj.mk (Value.type "frame") (Option.none) Data.plain #[(Option.some (Value.ref (nat_lit 9))), (Option.some (Value.ref (nat_lit 3))), (Option.some (Value.ref (nat_lit 3))), (Option.none), (Option.some (vS "__main__" (nat_lit 164))), (Option.none), (Option.some (Value.ref (nat_lit 0)))])
noncomputable def ob11 (P : Params) : Obj := (Obj.mk (Value.type "dict") (Option.none) (Data.dict #[(dE P "__name__" (nat_lit 247) (vS "_sre" (nat_lit 246))), (dE P "__doc__" (nat_lit 248) Value.none), (dE P "__package__" (nat_lit 250) (vS "" (nat_lit 249))), (dE P "__loader__" (nat_lit 251) (Value.builtin "off-the-table:_sre.__loader__:shared#opaque")), (dE P "__spec__" (nat_lit 252) (Value.builtin "off-the-table:_sre.__spec__:shared#opaque")), (dE P "compile" (nat_lit 253) (Value.builtin "_sre.compile")), (dE P "template" (nat_lit 254) (Value.builtin "off-the-table:_sre.template:shared#opaque")), (dE P "getcodesize" (nat_lit 255) (Value.builtin "off-the-table:_sre.getcodesize:shared#opaque")), (dE P "ascii_iscased" (nat_lit 256) (Value.builtin "off-the-table:_sre.ascii_iscased:shared#opaque")), (dE P "unicode_iscased" (nat_lit 257) (Value.builtin "off-the-table:_sre.unicode_iscased:shared#opaque")), (dE P "ascii_tolower" (nat_lit 258) (Value.builtin "off-the-table:_sre.ascii_tolower:shared#opaque")), (dE P "unicode_tolower" (nat_lit 259) (Value.builtin "off-the-table:_sre.unicode_tolower:shared#opaque")), (dE P "MAGIC" (nat_lit 261) (Value.int (Int.ofNat (nat_lit 20230612)) (nat_lit 260))), (dE P "CODESIZE" (nat_lit 263) (Value.int (Int.ofNat (nat_lit 4)) (nat_lit 262))), (dE P "MAXREPEAT" (nat_lit 265) (Value.int (Int.ofNat (nat_lit 4294967295)) (nat_lit 264))), (dE P "MAXGROUPS" (nat_lit 267) (Value.int (Int.ofNat (nat_lit 1073741823)) (nat_lit 266))), (dE P "copyright" (nat_lit 269) (vS " SRE 2.2.2 Copyright (c) 1997-2002 by Secret Labs AB " (nat_lit 268)))] (nat_lit 17)) #[])
noncomputable def ob12 (P : Params) : Obj := (Obj.mk (Value.type "module") (Option.some (nat_lit 11)) Data.plain #[])
noncomputable def ob13 (P : Params) : Obj := (Obj.mk (Value.type "dict") (Option.none) (Data.dict #[(dE P "__module__" (nat_lit 189) (vS "_frozen_\x69mportlib" (nat_lit 186))), (dE P "__firstlineno__" (nat_lit 190) (Value.int (Int.ofNat (nat_lit 971)) (nat_lit 187))), (dE P "__doc__" (nat_lit 191) (Value.builtin "_frozen_importlib.BuiltinImporter.__doc__:str#opaque")), (dE P "_ORIGIN" (nat_lit 192) (vS "built-in" (nat_lit 188))), (dE P "find_spec" (nat_lit 193) (Value.builtin "_frozen_importlib.BuiltinImporter.find_spec#opaque")), (dE P "create_module" (nat_lit 194) (Value.builtin "_frozen_importlib.BuiltinImporter.create_module#opaque")), (dE P "exec_module" (nat_lit 195) (Value.builtin "_frozen_importlib.BuiltinImporter.exec_module#opaque")), (dE P "get_code" (nat_lit 196) (Value.builtin "_frozen_importlib.BuiltinImporter.get_code#opaque")), (dE P "get_source" (nat_lit 197) (Value.builtin "_frozen_importlib.BuiltinImporter.get_source#opaque")), (dE P "is_package" (nat_lit 198) (Value.builtin "_frozen_importlib.BuiltinImporter.is_package#opaque")), (dE P "load_module" (nat_lit 199) (Value.builtin "_frozen_importlib.BuiltinImporter.load_module#opaque")), (dE P "__static_attributes__" (nat_lit 200) (Value.ref (nat_lit 15))), (dE P "__dict__" (nat_lit 202) (Value.ref (nat_lit 16))), (dE P "__weakref__" (nat_lit 204) (Value.ref (nat_lit 17)))] (nat_lit 14)) #[])
noncomputable def ob14 (P : Params) : Obj := (Obj.mk (Value.type "type") (Option.none) (Data.cls (ClassData.mk (Str.ofString "BuiltinImporter") [(Value.type "object")] [(Value.ref (nat_lit 14)), (Value.type "object")] (nat_lit 13) (Str.ofString "BuiltinImporter") Bool.true [] [] Bool.false (Option.none) Bool.false)) #[])
noncomputable def ob15 (P : Params) : Obj := (Obj.mk (Value.type "tuple") (Option.none) (Data.seq #[] (nat_lit 0)) #[])
noncomputable def ob16 (P : Params) : Obj := (Obj.mk (Value.type "getset_descriptor") (Option.none) (Data.fields #[(vS "__dict__" (nat_lit 201)), (Value.ref (nat_lit 14)), (Value.builtin "function.__dict__"), (Value.builtin "function.__dict__#set")]) #[])
noncomputable def ob17 (P : Params) : Obj := (Obj.mk (Value.type "getset_descriptor") (Option.none) (Data.fields #[(vS "__weakref__" (nat_lit 203)), (Value.ref (nat_lit 14)), (Value.builtin "ExceptionGroup.__weakref__"), Value.none]) #[])
noncomputable def ob18 (P : Params) : Obj := (Obj.mk Value.none (Option.none) (Data.seq #[(Value.int (Int.ofNat (nat_lit 13)) (nat_lit 0)), (vS "\x06½\n__module__\x06º\x11_frozen_\x69mportlib\x06¾\x0f__firstlineno__\x04»\x00ϋ\x06¿\x07__doc__\t4_frozen_\x69mportlib.BuiltinImporter.__doc__:str#opaque\x06À\x07_ORIGIN\x06¼\x08built-in\x06Á\tfind_spec\t2_frozen_\x69mportlib.BuiltinImporter.find_spec#opaque\x06Â\x0dcreate_module\t6_frozen_\x69mportlib.BuiltinImporter.create_module#opaque\x06Ã\x0bexec_module\t4_frozen_\x69mportlib.BuiltinImporter.exec_module#opaque\x06Ä\x08get_code\t1_frozen_\x69mportlib.BuiltinImporter.get_code#opaque\x06Å\nget_source\t3_frozen_\x69mportlib.BuiltinImporter.get_source#opaque\x06Æ\nis_package\t3_frozen_\x69mportlib.BuiltinImporter.is_package#opaque\x06Ç\x0bload_module\t4_frozen_\x69mportlib.BuiltinImporter.load_module#opaque\x06È\x15__static_attributes__\x04\x00\x00\x0f\x06Ê\x08__dict__\x04\x00\x00\x10\x06Ì\x0b__weakref__\x04\x00\x00\x11" (nat_lit 0)), (Value.bool Bool.true), (Value.bool Bool.true), (vS "" (nat_lit 205)), (Value.int (Int.ofNat (nat_lit 21)) (nat_lit 0)), (vS "\x06ã\n__module__\x06Ù\x11_frozen_\x69mportlib\x06ä\x0f__firstlineno__\x04Ú\x00Ȳ\x06å\x07__doc__\t/_frozen_\x69mportlib.ModuleSpec.__doc__:str#opaque\x06æ\x08__init__\t,_frozen_\x69mportlib.ModuleSpec.__init__#opaque\x06ç\x08__repr__\t,_frozen_\x69mportlib.ModuleSpec.__repr__#opaque\x06è\x06__eq__\t*_frozen_\x69mportlib.ModuleSpec.__eq__#opaque\x06é\x06cached\t*_frozen_\x69mportlib.ModuleSpec.cached#opaque\x06ê\x06parent\t*_frozen_\x69mportlib.ModuleSpec.parent#opaque\x06ë\x0chas_location\t0_frozen_\x69mportlib.ModuleSpec.has_location#opaque\x06ì\x15__static_attributes__\x04\x00\x00\x17\x06î\x08__dict__\x04\x00\x00\x18\x06ð\x0b__weakref__\x04\x00\x00\x19\x06ñ\x08__hash__\x00" (nat_lit 0)), (Value.bool Bool.true), (Value.bool Bool.true), (vS "" (nat_lit 242))] (nat_lit 1)) #[])
noncomputable def ob19 (P : Params) : Obj := (Obj.mk (Value.type "list") (Option.none) (Data.seq #[] (nat_lit 0)) #[])
noncomputable def ob20 (P : Params) : Obj := (Obj.mk (Value.type "dict") (Option.none) (Data.dict #[(dE P "name" (nat_lit 208) (vS "_sre" (nat_lit 207))), (dE P "loader" (nat_lit 209) (Value.ref (nat_lit 14))), (dE P "origin" (nat_lit 210) (vS "built-in" (nat_lit 184))), (dE P "loader_state" (nat_lit 211) Value.none), (dE P "submodule_search_locations" (nat_lit 212) Value.none), (dE P "_uninitialized_submodules" (nat_lit 213) (Value.ref (nat_lit 19))), (dE P "_set_fileattr" (nat_lit 214) (Value.bool Bool.false)), (dE P "_cached" (nat_lit 215) Value.none), (dE P "_initializing" (nat_lit 243) (Value.bool Bool.false))] (nat_lit 9)) #[])
noncomputable def ob21 (P : Params) : Obj := (Obj.mk (Value.type "dict") (Option.none) (Data.dict #[(dE P "__module__" (nat_lit 227) (vS "_frozen_\x69mportlib" (nat_lit 217))), (dE P "__firstlineno__" (nat_lit 228) (Value.int (Int.ofNat (nat_lit 562)) (nat_lit 218))), (dE P "__doc__" (nat_lit 229) (Value.builtin "_frozen_importlib.ModuleSpec.__doc__:str#opaque")), (dE P "__init__" (nat_lit 230) (Value.builtin "_frozen_importlib.ModuleSpec.__init__#opaque")), (dE P "__repr__" (nat_lit 231) (Value.builtin "_frozen_importlib.ModuleSpec.__repr__#opaque")), (dE P "__eq__" (nat_lit 232) (Value.builtin "_frozen_importlib.ModuleSpec.__eq__#opaque")), (dE P "cached" (nat_lit 233) (Value.builtin "_frozen_importlib.ModuleSpec.cached#opaque")), (dE P "parent" (nat_lit 234) (Value.builtin "_frozen_importlib.ModuleSpec.parent#opaque")), (dE P "has_location" (nat_lit 235) (Value.builtin "_frozen_importlib.ModuleSpec.has_location#opaque")), (dE P "__static_attributes__" (nat_lit 236) (Value.ref (nat_lit 23))), (dE P "__dict__" (nat_lit 238) (Value.ref (nat_lit 24))), (dE P "__weakref__" (nat_lit 240) (Value.ref (nat_lit 25))), (dE P "__hash__" (nat_lit 241) Value.none)] (nat_lit 13)) #[])
noncomputable def ob22 (P : Params) : Obj := (Obj.mk (Value.type "type") (Option.none) (Data.cls (ClassData.mk (Str.ofString "ModuleSpec") [(Value.type "object")] [(Value.ref (nat_lit 22)), (Value.type "object")] (nat_lit 21) (Str.ofString "ModuleSpec") Bool.true [] [] Bool.false (Option.none) Bool.false)) #[])
noncomputable def ob23 (P : Params) : Obj := (Obj.mk (Value.type "tuple") (Option.none) (Data.seq #[(vS "_cached" (nat_lit 219)), (vS "_set_fileattr" (nat_lit 220)), (vS "_uninitialized_submodules" (nat_lit 221)), (vS "loader" (nat_lit 222)), (vS "loader_state" (nat_lit 223)), (vS "name" (nat_lit 224)), (vS "origin" (nat_lit 225)), (vS "submodule_search_locations" (nat_lit 226))] (nat_lit 0)) #[])
noncomputable def ob24 (P : Params) : Obj := (Obj.mk (Value.type "getset_descriptor") (Option.none) (Data.fields #[(vS "__dict__" (nat_lit 237)), (Value.ref (nat_lit 22)), (Value.builtin "function.__dict__"), (Value.builtin "function.__dict__#set")]) #[])
noncomputable def ob25 (P : Params) : Obj := (Obj.mk (Value.type "getset_descriptor") (Option.none) (Data.fields #[(vS "__weakref__" (nat_lit 239)), (Value.ref (nat_lit 22)), (Value.builtin "ExceptionGroup.__weakref__"), Value.none]) #[])
noncomputable def ob26 (P : Params) : Obj := (Obj.mk (Value.ref (nat_lit 22)) (Option.some (nat_lit 20)) Data.plain #[])
noncomputable def ob27 (P : Params) : Obj := (Obj.mk Value.none (Option.none) (Data.seq #[(Value.int (Int.ofNat (nat_lit 11)) (nat_lit 0)), (Value.str (Str.mk #[(nat_lit 6), (nat_lit 247), (nat_lit 8), (nat_lit 95), (nat_lit 95), (nat_lit 110), (nat_lit 97), (nat_lit 109), (nat_lit 101), (nat_lit 95), (nat_lit 95), (nat_lit 6), (nat_lit 246), (nat_lit 4), (nat_lit 95), (nat_lit 115), (nat_lit 114), (nat_lit 101), (nat_lit 6), (nat_lit 248), (nat_lit 7), (nat_lit 95), (nat_lit 95), (nat_lit 100), (nat_lit 111), (nat_lit 99), (nat_lit 95), (nat_lit 95), (nat_lit 0), (nat_lit 6), (nat_lit 250), (nat_lit 11), (nat_lit 95), (nat_lit 95), (nat_lit 112), (nat_lit 97), (nat_lit 99), (nat_lit 107), (nat_lit 97), (nat_lit 103), (nat_lit 101), (nat_lit 95), (nat_lit 95), (nat_lit 6), (nat_lit 249), (nat_lit 0), (nat_lit 6), (nat_lit 251), (nat_lit 10), (nat_lit 95), (nat_lit 95), (nat_lit 108), (nat_lit 111), (nat_lit 97), (nat_lit 100), (nat_lit 101), (nat_lit 114), (nat_lit 95), (nat_lit 95), (nat_lit 4), (nat_lit 0), (nat_lit 0), (nat_lit 14), (nat_lit 6), (nat_lit 252), (nat_lit 8), (nat_lit 95), (nat_lit 95), (nat_lit 115), (nat_lit 112), (nat_lit 101), (nat_lit 99), (nat_lit 95), (nat_lit 95), (nat_lit 4), (nat_lit 0), (nat_lit 0), (nat_lit 26), (nat_lit 6), (nat_lit 253), (nat_lit 7), (nat_lit 99), (nat_lit 111), (nat_lit 109), (nat_lit 112), (nat_lit 105), (nat_lit 108), (nat_lit 101), (nat_lit 9), (nat_lit 12), (nat_lit 95), (nat_lit 115), (nat_lit 114), (nat_lit 101), (nat_lit 46), (nat_lit 99), (nat_lit 111), (nat_lit 109), (nat_lit 112), (nat_lit 105), (nat_lit 108), (nat_lit 101), (nat_lit 6), (nat_lit 254), (nat_lit 8), (nat_lit 116), (nat_lit 101), (nat_lit 109), (nat_lit 112), (nat_lit 108), (nat_lit 97), (nat_lit 116), (nat_lit 101), (nat_lit 9), (nat_lit 13), (nat_lit 95), (nat_lit 115), (nat_lit 114), (nat_lit 101), (nat_lit 46), (nat_lit 116), (nat_lit 101), (nat_lit 109), (nat_lit 112), (nat_lit 108), (nat_lit 97), (nat_lit 116), (nat_lit 101), (nat_lit 6), (nat_lit 255), (nat_lit 11), (nat_lit 103), (nat_lit 101), (nat_lit 116), (nat_lit 99), (nat_lit 111), (nat_lit 100), (nat_lit 101), (nat_lit 115), (nat_lit 105), (nat_lit 122), (nat_lit 101), (nat_lit 9), (nat_lit 16), (nat_lit 95), (nat_lit 115), (nat_lit 114), (nat_lit 101), (nat_lit 46), (nat_lit 103), (nat_lit 101), (nat_lit 116), (nat_lit 99), (nat_lit 111), (nat_lit 100), (nat_lit 101), (nat_lit 115), (nat_lit 105), (nat_lit 122), (nat_lit 101), (nat_lit 6), (nat_lit 256), (nat_lit 13), (nat_lit 97), (nat_lit 115), (nat_lit 99), (nat_lit 105), (nat_lit 105), (nat_lit 95), (nat_lit 105), (nat_lit 115), (nat_lit 99), (nat_lit 97), (nat_lit 115), (nat_lit 101), (nat_lit 100), (nat_lit 9), (nat_lit 18), (nat_lit 95), (nat_lit 115), (nat_lit 114), (nat_lit 101), (nat_lit 46), (nat_lit 97), (nat_lit 115), (nat_lit 99), (nat_lit 105), (nat_lit 105), (nat_lit 95), (nat_lit 105), (nat_lit 115), (nat_lit 99), (nat_lit 97), (nat_lit 115), (nat_lit 101), (nat_lit 100), (nat_lit 6), (nat_lit 257), (nat_lit 15), (nat_lit 117), (nat_lit 110), (nat_lit 105), (nat_lit 99), (nat_lit 111), (nat_lit 100), (nat_lit 101), (nat_lit 95), (nat_lit 105), (nat_lit 115), (nat_lit 99), (nat_lit 97), (nat_lit 115), (nat_lit 101), (nat_lit 100), (nat_lit 9), (nat_lit 20), (nat_lit 95), (nat_lit 115), (nat_lit 114), (nat_lit 101), (nat_lit 46), (nat_lit 117), (nat_lit 110), (nat_lit 105), (nat_lit 99), (nat_lit 111), (nat_lit 100), (nat_lit 101), (nat_lit 95), (nat_lit 105), (nat_lit 115), (nat_lit 99), (nat_lit 97), (nat_lit 115), (nat_lit 101), (nat_lit 100), (nat_lit 6), (nat_lit 258), (nat_lit 13), (nat_lit 97), (nat_lit 115), (nat_lit 99), (nat_lit 105), (nat_lit 105), (nat_lit 95), (nat_lit 116), (nat_lit 111), (nat_lit 108), (nat_lit 111), (nat_lit 119), (nat_lit 101), (nat_lit 114), (nat_lit 9), (nat_lit 18), (nat_lit 95), (nat_lit 115), (nat_lit 114), (nat_lit 101), (nat_lit 46), (nat_lit 97), (nat_lit 115), (nat_lit 99), (nat_lit 105), (nat_lit 105), (nat_lit 95), (nat_lit 116), (nat_lit 111), (nat_lit 108), (nat_lit 111), (nat_lit 119), (nat_lit 101), (nat_lit 114), (nat_lit 6), (nat_lit 259), (nat_lit 15), (nat_lit 117), (nat_lit 110), (nat_lit 105), (nat_lit 99), (nat_lit 111), (nat_lit 100), (nat_lit 101), (nat_lit 95), (nat_lit 116), (nat_lit 111), (nat_lit 108), (nat_lit 111), (nat_lit 119), (nat_lit 101), (nat_lit 114), (nat_lit 9), (nat_lit 20), (nat_lit 95), (nat_lit 115), (nat_lit 114), (nat_lit 101), (nat_lit 46), (nat_lit 117), (nat_lit 110), (nat_lit 105), (nat_lit 99), (nat_lit 111), (nat_lit 100), (nat_lit 101), (nat_lit 95), (nat_lit 116), (nat_lit 111), (nat_lit 108), (nat_lit 111), (nat_lit 119), (nat_lit 101), (nat_lit 114), (nat_lit 6), (nat_lit 261), (nat_lit 5), (nat_lit 77), (nat_lit 65), (nat_lit 71), (nat_lit 73), (nat_lit 67), (nat_lit 4), (nat_lit 260), (nat_lit 0), (nat_lit 20230612), (nat_lit 6), (nat_lit 263), (nat_lit 8), (nat_lit 67), (nat_lit 79), (nat_lit 68), (nat_lit 69), (nat_lit 83), (nat_lit 73), (nat_lit 90), (nat_lit 69), (nat_lit 4), (nat_lit 262), (nat_lit 0), (nat_lit 4), (nat_lit 6), (nat_lit 265), (nat_lit 9), (nat_lit 77), (nat_lit 65), (nat_lit 88), (nat_lit 82), (nat_lit 69), (nat_lit 80), (nat_lit 69), (nat_lit 65), (nat_lit 84), (nat_lit 4), (nat_lit 264), (nat_lit 0), (nat_lit 4294967295), (nat_lit 6), (nat_lit 267), (nat_lit 9), (nat_lit 77), (nat_lit 65), (nat_lit 88), (nat_lit 71), (nat_lit 82), (nat_lit 79), (nat_lit 85), (nat_lit 80), (nat_lit 83), (nat_lit 4), (nat_lit 266), (nat_lit 0), (nat_lit 1073741823), (nat_lit 6), (nat_lit 269), (nat_lit 9), (nat_lit 99), (nat_lit 111), (nat_lit 112), (nat_lit 121), (nat_lit 114), (nat_lit 105), (nat_lit 103), (nat_lit 104), (nat_lit 116), (nat_lit 6), (nat_lit 268), (nat_lit 53), (nat_lit 32), (nat_lit 83), (nat_lit 82), (nat_lit 69), (nat_lit 32), (nat_lit 50), (nat_lit 46), (nat_lit 50), (nat_lit 46), (nat_lit 50), (nat_lit 32), (nat_lit 67), (nat_lit 111), (nat_lit 112), (nat_lit 121), (nat_lit 114), (nat_lit 105), (nat_lit 103), (nat_lit 104), (nat_lit 116), (nat_lit 32), (nat_lit 40), (nat_lit 99), (nat_lit 41), (nat_lit 32), (nat_lit 49), (nat_lit 57), (nat_lit 57), (nat_lit 55), (nat_lit 45), (nat_lit 50), (nat_lit 48), (nat_lit 48), (nat_lit 50), (nat_lit 32), (nat_lit 98), (nat_lit 121), (nat_lit 32), (nat_lit 83), (nat_lit 101), (nat_lit 99), (nat_lit 114), (nat_lit 101), (nat_lit 116), (nat_lit 32), (nat_lit 76), (nat_lit 97), (nat_lit 98), (nat_lit 115), (nat_lit 32), (nat_lit 65), (nat_lit 66), (nat_lit 32)]) (nat_lit 0)), (Value.bool Bool.true), (Value.bool Bool.false), (vS "_sre" (nat_lit 271))] (nat_lit 0)) #[])
noncomputable def ob28 (P : Params) : Obj := (Obj.mk (Value.type "dict") (Option.none) (Data.dict #[(dE P "__name__" (nat_lit 165) (vS "law_in0238_01" (nat_lit 781))), (dE P "__doc__" (nat_lit 166) Value.none), (dE P "__package__" (nat_lit 167) Value.none), (dE P "__loader__" (nat_lit 168) (Value.builtin "__main__.__loader__#opaque")), (dE P "__spec__" (nat_lit 169) Value.none), (dE P "__annotations__" (nat_lit 170) (Value.ref (nat_lit 6))), (dE P "__builtins__" (nat_lit 171) (Value.ref (nat_lit 4))), (dE P "__file__" (nat_lit 173) (vS "/claim/cut.py" (nat_lit 172))), (dE P "__cached__" (nat_lit 174) Value.none), (dE P "_sre" (nat_lit 275) (Value.ref (nat_lit 12))), (dE P "_wall" (nat_lit 288) (Value.ref (nat_lit 38))), (dE P "S_IFMT" (nat_lit 297) (Value.ref (nat_lit 45))), (dE P "S_IFDIR" (nat_lit 299) (Value.int (Int.ofNat (nat_lit 16384)) (nat_lit 298))), (dE P "S_IFCHR" (nat_lit 301) (Value.int (Int.ofNat (nat_lit 8192)) (nat_lit 300))), (dE P "S_IFBLK" (nat_lit 303) (Value.int (Int.ofNat (nat_lit 24576)) (nat_lit 302))), (dE P "S_IFREG" (nat_lit 305) (Value.int (Int.ofNat (nat_lit 32768)) (nat_lit 304))), (dE P "S_IFIFO" (nat_lit 307) (Value.int (Int.ofNat (nat_lit 4096)) (nat_lit 306))), (dE P "S_IFLNK" (nat_lit 309) (Value.int (Int.ofNat (nat_lit 40960)) (nat_lit 308))), (dE P "S_IFSOCK" (nat_lit 311) (Value.int (Int.ofNat (nat_lit 49152)) (nat_lit 310))), (dE P "S_ISDIR" (nat_lit 318) (Value.ref (nat_lit 52))), (dE P "S_ISUID" (nat_lit 320) (Value.int (Int.ofNat (nat_lit 2048)) (nat_lit 319))), (dE P "S_ISGID" (nat_lit 322) (Value.int (Int.ofNat (nat_lit 1024)) (nat_lit 321))), (dE P "S_ISVTX" (nat_lit 324) (Value.int (Int.ofNat (nat_lit 512)) (nat_lit 323))), (dE P "S_IRUSR" (nat_lit 326) (Value.int (Int.ofNat (nat_lit 256)) (nat_lit 325))), (dE P "S_IWUSR" (nat_lit 328) (Value.int (Int.ofNat (nat_lit 128)) (nat_lit 327))), (dE P "S_IXUSR" (nat_lit 330) (Value.int (Int.ofNat (nat_lit 64)) (nat_lit 329))), (dE P "S_IRGRP" (nat_lit 332) (Value.int (Int.ofNat (nat_lit 32)) (nat_lit 331))), (dE P "S_IWGRP" (nat_lit 334) (Value.int (Int.ofNat (nat_lit 16)) (nat_lit 333))), (dE P "S_IXGRP" (nat_lit 336) (Value.int (Int.ofNat (nat_lit 8)) (nat_lit 335))), (dE P "S_IROTH" (nat_lit 338) (Value.int (Int.ofNat (nat_lit 4)) (nat_lit 337))), (dE P "S_IWOTH" (nat_lit 340) (Value.int (Int.ofNat (nat_lit 2)) (nat_lit 339))), (dE P "S_IXOTH" (nat_lit 342) (Value.int (Int.ofNat (nat_lit 1)) (nat_lit 341))), (dE P "_filemode_table" (nat_lit 368) (Value.ref (nat_lit 85))), (dE P "filemode" (nat_lit 380) (Value.ref (nat_lit 92))), (dE P "_twin_re_1" (nat_lit 418) (Value.ref (nat_lit 97))), (dE P "_special_chars_map" (nat_lit 566) (Value.ref (nat_lit 99))), (dE P "escape" (nat_lit 573) (Value.ref (nat_lit 109))), (dE P "_translate" (nat_lit 594) (Value.ref (nat_lit 116))), (dE P "_plain_name" (nat_lit 605) (Value.ref (nat_lit 123))), (dE P "ABCMeta" (nat_lit 631) (Value.ref (nat_lit 140))), (dE P "_ABCLike" (nat_lit 674) (Value.ref (nat_lit 173))), (dE P "_abc_plain_meta" (nat_lit 681) (Value.ref (nat_lit 182))), (dE P "fspath" (nat_lit 693) (Value.ref (nat_lit 189))), (dE P "_check_arg_types" (nat_lit 706) (Value.ref (nat_lit 196))), (dE P "_get_sep" (nat_lit 715) (Value.ref (nat_lit 203))), (dE P "join" (nat_lit 726) (Value.ref (nat_lit 210))), (dE P "split" (nat_lit 737) (Value.ref (nat_lit 217))), (dE P "splitroot" (nat_lit 746) (Value.ref (nat_lit 224))), (dE P "basename" (nat_lit 755) (Value.ref (nat_lit 231))), (dE P "dirname" (nat_lit 765) (Value.ref (nat_lit 238))), (dE P "normpath" (nat_lit 780) (Value.ref (nat_lit 245))), (dE P "_law_numbers" (nat_lit 788) (Value.ref (nat_lit 250))), (dE P "_law_modes" (nat_lit 798) (Value.ref (nat_lit 257))), (dE P "_law_parts" (nat_lit 804) (Value.ref (nat_lit 262))), (dE P "_law_world" (nat_lit 814) (Value.ref (nat_lit 269))), (dE P "_law_fits" (nat_lit 827) (Value.ref (nat_lit 276))), (dE P "_law_takes" (nat_lit 833) (Value.ref (nat_lit 281))), (dE P "_law_found" (nat_lit 851) (Value.ref (nat_lit 288))), (dE P "_law_told" (nat_lit 865) (Value.ref (nat_lit 295))), (dE P "_law_signs" (nat_lit 875) (Value.ref (nat_lit 302))), (dE P "_law_steps" (nat_lit 886) (Value.ref (nat_lit 309))), (dE P "_law_due" (nat_lit 892) (Value.ref (nat_lit 314))), (dE P "law" (nat_lit 909) (Value.ref (nat_lit 321)))] (nat_lit 63)) #[])
noncomputable def ob29 (P : Params) : Obj := (Obj.mk (Value.type "tuple") (Option.none) (Data.seq #[] (nat_lit 0)) #[])
noncomputable def ob30 (P : Params) : Obj := (Obj.mk Value.none (Option.none) (Data.fields #[(Value.int (Int.ofNat (nat_lit 2)) (nat_lit 0)), (Value.int (Int.ofNat (nat_lit 0)) (nat_lit 0)), (Value.ref (nat_lit 37)), (Value.int (Int.ofNat (nat_lit 6)) (nat_lit 0)), (Value.int (Int.ofNat (nat_lit 0)) (nat_lit 0)), (Value.ref (nat_lit 44)), (Value.int (Int.ofNat (nat_lit 15)) (nat_lit 0)), (Value.int (Int.ofNat (nat_lit 0)) (nat_lit 0)), (Value.ref (nat_lit 51)), (Value.int (Int.ofNat (nat_lit 30)) (nat_lit 0)), (Value.int (Int.ofNat (nat_lit 0)) (nat_lit 0)), (Value.ref (nat_lit 91)), (Value.int (Int.ofNat (nat_lit 50)) (nat_lit 0)), (Value.int (Int.ofNat (nat_lit 0)) (nat_lit 0)), (Value.ref (nat_lit 108)), (Value.int (Int.ofNat (nat_lit 57)) (nat_lit 0)), (Value.int (Int.ofNat (nat_lit 0)) (nat_lit 0)), (Value.ref (nat_lit 115)), (Value.int (Int.ofNat (nat_lit 120)) (nat_lit 0)), (Value.int (Int.ofNat (nat_lit 0)) (nat_lit 0)), (Value.ref (nat_lit 122)), (Value.int (Int.ofNat (nat_lit 126)) (nat_lit 0)), (Value.int (Int.ofNat (nat_lit 0)) (nat_lit 0)), (Value.ref (nat_lit 129)), (Value.int (Int.ofNat (nat_lit 131)) (nat_lit 0)), (Value.int (Int.ofNat (nat_lit 0)) (nat_lit 0)), (Value.ref (nat_lit 148)), (Value.int (Int.ofNat (nat_lit 146)) (nat_lit 0)), (Value.int (Int.ofNat (nat_lit 0)) (nat_lit 0)), (Value.ref (nat_lit 181)), (Value.int (Int.ofNat (nat_lit 150)) (nat_lit 0)), (Value.int (Int.ofNat (nat_lit 0)) (nat_lit 0)), (Value.ref (nat_lit 188)), (Value.int (Int.ofNat (nat_lit 167)) (nat_lit 0)), (Value.int (Int.ofNat (nat_lit 0)) (nat_lit 0)), (Value.ref (nat_lit 195)), (Value.int (Int.ofNat (nat_lit 179)) (nat_lit 0)), (Value.int (Int.ofNat (nat_lit 0)) (nat_lit 0)), (Value.ref (nat_lit 202)), (Value.int (Int.ofNat (nat_lit 184)) (nat_lit 0)), (Value.int (Int.ofNat (nat_lit 0)) (nat_lit 0)), (Value.ref (nat_lit 209)), (Value.int (Int.ofNat (nat_lit 201)) (nat_lit 0)), (Value.int (Int.ofNat (nat_lit 0)) (nat_lit 0)), (Value.ref (nat_lit 216)), (Value.int (Int.ofNat (nat_lit 209)) (nat_lit 0)), (Value.int (Int.ofNat (nat_lit 0)) (nat_lit 0)), (Value.ref (nat_lit 223)), (Value.int (Int.ofNat (nat_lit 223)) (nat_lit 0)), (Value.int (Int.ofNat (nat_lit 0)) (nat_lit 0)), (Value.ref (nat_lit 230)), (Value.int (Int.ofNat (nat_lit 228)) (nat_lit 0)), (Value.int (Int.ofNat (nat_lit 0)) (nat_lit 0)), (Value.ref (nat_lit 237)), (Value.int (Int.ofNat (nat_lit 236)) (nat_lit 0)), (Value.int (Int.ofNat (nat_lit 0)) (nat_lit 0)), (Value.ref (nat_lit 244)), (Value.int (Int.ofNat (nat_lit 262)) (nat_lit 0)), (Value.int (Int.ofNat (nat_lit 0)) (nat_lit 0)), (Value.ref (nat_lit 249)), (Value.int (Int.ofNat (nat_lit 266)) (nat_lit 0)), (Value.int (Int.ofNat (nat_lit 0)) (nat_lit 0)), (Value.ref (nat_lit 256)), (Value.int (Int.ofNat (nat_lit 272)) (nat_lit 0)), (Value.int (Int.ofNat (nat_lit 0)) (nat_lit 0)), (Value.ref (nat_lit 261)), (Value.int (Int.ofNat (nat_lit 275)) (nat_lit 0)), (Value.int (Int.ofNat (nat_lit 0)) (nat_lit 0)), (Value.ref (nat_lit 268)), (Value.int (Int.ofNat (nat_lit 282)) (nat_lit 0)), (Value.int (Int.ofNat (nat_lit 0)) (nat_lit 0)), (Value.ref (nat_lit 275)), (Value.int (Int.ofNat (nat_lit 305)) (nat_lit 0)), (Value.int (Int.ofNat (nat_lit 0)) (nat_lit 0)), (Value.ref (nat_lit 280)), (Value.int (Int.ofNat (nat_lit 313)) (nat_lit 0)), (Value.int (Int.ofNat (nat_lit 0)) (nat_lit 0)), (Value.ref (nat_lit 287)), (Value.int (Int.ofNat (nat_lit 335)) (nat_lit 0)), (Value.int (Int.ofNat (nat_lit 0)) (nat_lit 0)), (Value.ref (nat_lit 294)), (Value.int (Int.ofNat (nat_lit 344)) (nat_lit 0)), (Value.int (Int.ofNat (nat_lit 0)) (nat_lit 0)), (Value.ref (nat_lit 301)), (Value.int (Int.ofNat (nat_lit 351)) (nat_lit 0)), (Value.int (Int.ofNat (nat_lit 0)) (nat_lit 0)), (Value.ref (nat_lit 308)), (Value.int (Int.ofNat (nat_lit 360)) (nat_lit 0)), (Value.int (Int.ofNat (nat_lit 0)) (nat_lit 0)), (Value.ref (nat_lit 313)), (Value.int (Int.ofNat (nat_lit 387)) (nat_lit 0)), (Value.int (Int.ofNat (nat_lit 0)) (nat_lit 0)), (Value.ref (nat_lit 320))]) #[])
noncomputable def ob31 (P : Params) : Obj := (Obj.mk (Value.type "code") (Option.none) (Data.fields #[(vS "<module>" (nat_lit 277)), (vS "<module>" (nat_lit 278)), (vS "/claim/cut.py" (nat_lit 279)), (Value.int (Int.ofNat (nat_lit 1)) (nat_lit 0)), (Value.int (Int.ofNat (nat_lit 0)) (nat_lit 0)), (Value.int (Int.ofNat (nat_lit 0)) (nat_lit 0)), (Value.int (Int.ofNat (nat_lit 0)) (nat_lit 0)), (Value.int (Int.ofNat (nat_lit 0)) (nat_lit 0)), (Value.ref (nat_lit 28)), (Value.bool Bool.false), (Value.int (Int.ofNat (nat_lit 276)) (nat_lit 0)), (Value.ref (nat_lit 29)), Value.none, Value.none, Value.none, Value.none, (Value.int (Int.ofNat (nat_lit 280)) (nat_lit 0)), (Value.int (Int.ofNat (nat_lit 1)) (nat_lit 0)), (vS "/claim/cut.py" (nat_lit 281))]) #[])
noncomputable def ob32 (P : Params) : Obj := (Obj.mk (Value.type "frame") (Option.none) Data.plain #[(Option.some (Value.ref (nat_lit 30))), (Option.some (Value.ref (nat_lit 3))), (Option.some (Value.ref (nat_lit 3))), (Option.none), (Option.some (vS "__main__" (nat_lit 164))), (Option.none), (Option.some (Value.ref (nat_lit 0)))])
noncomputable def ob33 (P : Params) : Obj := (Obj.mk (Value.type "tuple") (Option.none) (Data.seq #[] (nat_lit 0)) #[])
noncomputable def ob34 (P : Params) : Obj := (Obj.mk Value.none (Option.none) (Data.fields #[]) #[])
noncomputable def ob35 (P : Params) : Obj := (Obj.mk (Value.type "tuple") (Option.none) (Data.seq #[(vS "k" (nat_lit 285))] (nat_lit 0)) #[])
noncomputable def ob36 (P : Params) : Obj := (Obj.mk (Value.type "tuple") (Option.none) (Data.seq #[] (nat_lit 0)) #[])
noncomputable def ob37 (P : Params) : Obj := (Obj.mk Value.none (Option.none) (Data.func (FuncData.mk (Str.ofString "_wall") (Str.ofString "_wall") (aPar (stA 1)) (FuncBody.stmts (aBody (stA 1))) (aSco (stA 1)) (nat_lit 0) [] Value.none Value.none Value.none Value.none (Option.none) Value.none Value.none (nat_lit 0))) #[])
noncomputable def ob38 (P : Params) : Obj := (Obj.mk (Value.type "code") (Option.none) (Data.fields #[(vS "_wall" (nat_lit 282)), (vS "_wall" (nat_lit 283)), (vS "/claim/cut.py" (nat_lit 284)), (Value.int (Int.ofNat (nat_lit 2)) (nat_lit 0)), (Value.int (Int.ofNat (nat_lit 1)) (nat_lit 0)), (Value.int (Int.ofNat (nat_lit 0)) (nat_lit 0)), (Value.int (Int.ofNat (nat_lit 0)) (nat_lit 0)), (Value.int (Int.ofNat (nat_lit 3)) (nat_lit 0)), (Value.ref (nat_lit 32)), (Value.bool Bool.true), (Value.int (Int.ofNat (nat_lit 276)) (nat_lit 0)), (Value.ref (nat_lit 33)), Value.none, (Value.ref (nat_lit 34)), (Value.ref (nat_lit 35)), (Value.ref (nat_lit 36)), (Value.int (Int.ofNat (nat_lit 286)) (nat_lit 0)), (Value.int (Int.ofNat (nat_lit 2)) (nat_lit 0)), (vS "/claim/cut.py" (nat_lit 287))]) #[])
noncomputable def ob39 (P : Params) : Obj := (Obj.mk (Value.type "function") (Option.none) (Data.func (FuncData.mk (Str.ofString "_wall") (Str.ofString "_wall") (aPar (stA 1)) (FuncBody.stmts (aBody (stA 1))) (aSco (stA 1)) (nat_lit 3) [] Value.none Value.none Value.none (vS "__main__" (nat_lit 164)) (Option.none) (Value.ref (nat_lit 37)) Value.none (nat_lit 0))) #[])
noncomputable def ob40 (P : Params) : Obj := (Obj.mk (Value.type "tuple") (Option.none) (Data.seq #[] (nat_lit 0)) #[])
noncomputable def ob41 (P : Params) : Obj := (Obj.mk Value.none (Option.none) (Data.fields #[]) #[])
noncomputable def ob42 (P : Params) : Obj := (Obj.mk (Value.type "tuple") (Option.none) (Data.seq #[(vS "mode" (nat_lit 294))] (nat_lit 0)) #[])
noncomputable def ob43 (P : Params) : Obj := (Obj.mk (Value.type "tuple") (Option.none) (Data.seq #[] (nat_lit 0)) #[])
noncomputable def ob44 (P : Params) : Obj := (Obj.mk Value.none (Option.none) (Data.func (FuncData.mk (Str.ofString "S_IFMT") (Str.ofString "S_IFMT") (aPar (stA 3)) (FuncBody.stmts (aBody (stA 3))) (aSco (stA 3)) (nat_lit 0) [] Value.none Value.none Value.none Value.none (Option.none) Value.none Value.none (nat_lit 0))) #[])
noncomputable def ob45 (P : Params) : Obj := (Obj.mk (Value.type "code") (Option.none) (Data.fields #[(vS "S_IFMT" (nat_lit 291)), (vS "S_IFMT" (nat_lit 292)), (vS "/claim/cut.py" (nat_lit 293)), (Value.int (Int.ofNat (nat_lit 6)) (nat_lit 0)), (Value.int (Int.ofNat (nat_lit 1)) (nat_lit 0)), (Value.int (Int.ofNat (nat_lit 0)) (nat_lit 0)), (Value.int (Int.ofNat (nat_lit 0)) (nat_lit 0)), (Value.int (Int.ofNat (nat_lit 3)) (nat_lit 0)), (Value.ref (nat_lit 39)), (Value.bool Bool.true), (Value.int (Int.ofNat (nat_lit 276)) (nat_lit 0)), (Value.ref (nat_lit 40)), Value.none, (Value.ref (nat_lit 41)), (Value.ref (nat_lit 42)), (Value.ref (nat_lit 43)), (Value.int (Int.ofNat (nat_lit 295)) (nat_lit 0)), (Value.int (Int.ofNat (nat_lit 6)) (nat_lit 0)), (vS "/claim/cut.py" (nat_lit 296))]) #[])
noncomputable def ob46 (P : Params) : Obj := (Obj.mk (Value.type "function") (Option.none) (Data.func (FuncData.mk (Str.ofString "S_IFMT") (Str.ofString "S_IFMT") (aPar (stA 3)) (FuncBody.stmts (aBody (stA 3))) (aSco (stA 3)) (nat_lit 3) [] Value.none Value.none Value.none (vS "cpy313.stat" (nat_lit 289)) (Option.none) (Value.ref (nat_lit 44)) Value.none (nat_lit 0))) #[])
noncomputable def ob47 (P : Params) : Obj := (Obj.mk (Value.type "tuple") (Option.none) (Data.seq #[] (nat_lit 0)) #[])
noncomputable def ob48 (P : Params) : Obj := (Obj.mk Value.none (Option.none) (Data.fields #[]) #[])
noncomputable def ob49 (P : Params) : Obj := (Obj.mk (Value.type "tuple") (Option.none) (Data.seq #[(vS "mode" (nat_lit 315))] (nat_lit 0)) #[])
noncomputable def ob50 (P : Params) : Obj := (Obj.mk (Value.type "tuple") (Option.none) (Data.seq #[] (nat_lit 0)) #[])
noncomputable def ob51 (P : Params) : Obj := (Obj.mk Value.none (Option.none) (Data.func (FuncData.mk (Str.ofString "S_ISDIR") (Str.ofString "S_ISDIR") (aPar (stA 11)) (FuncBody.stmts (aBody (stA 11))) (aSco (stA 11)) (nat_lit 0) [] Value.none Value.none Value.none Value.none (Option.none) Value.none Value.none (nat_lit 0))) #[])
noncomputable def ob52 (P : Params) : Obj := (Obj.mk (Value.type "code") (Option.none) (Data.fields #[(vS "S_ISDIR" (nat_lit 312)), (vS "S_ISDIR" (nat_lit 313)), (vS "/claim/cut.py" (nat_lit 314)), (Value.int (Int.ofNat (nat_lit 15)) (nat_lit 0)), (Value.int (Int.ofNat (nat_lit 1)) (nat_lit 0)), (Value.int (Int.ofNat (nat_lit 0)) (nat_lit 0)), (Value.int (Int.ofNat (nat_lit 0)) (nat_lit 0)), (Value.int (Int.ofNat (nat_lit 3)) (nat_lit 0)), (Value.ref (nat_lit 46)), (Value.bool Bool.true), (Value.int (Int.ofNat (nat_lit 276)) (nat_lit 0)), (Value.ref (nat_lit 47)), Value.none, (Value.ref (nat_lit 48)), (Value.ref (nat_lit 49)), (Value.ref (nat_lit 50)), (Value.int (Int.ofNat (nat_lit 316)) (nat_lit 0)), (Value.int (Int.ofNat (nat_lit 15)) (nat_lit 0)), (vS "/claim/cut.py" (nat_lit 317))]) #[])
noncomputable def ob53 (P : Params) : Obj := (Obj.mk (Value.type "function") (Option.none) (Data.func (FuncData.mk (Str.ofString "S_ISDIR") (Str.ofString "S_ISDIR") (aPar (stA 11)) (FuncBody.stmts (aBody (stA 11))) (aSco (stA 11)) (nat_lit 3) [] Value.none Value.none Value.none (vS "cpy313.stat" (nat_lit 289)) (Option.none) (Value.ref (nat_lit 51)) Value.none (nat_lit 0))) #[])
noncomputable def ob54 (P : Params) : Obj := (Obj.mk (Value.type "tuple") (Option.none) (Data.seq #[(Value.int (Int.ofNat (nat_lit 40960)) (nat_lit 308)), (vS "l" (nat_lit 343))] (nat_lit 0)) #[])
noncomputable def ob55 (P : Params) : Obj := (Obj.mk (Value.type "tuple") (Option.none) (Data.seq #[(Value.int (Int.ofNat (nat_lit 49152)) (nat_lit 310)), (vS "s" (nat_lit 344))] (nat_lit 0)) #[])
noncomputable def ob56 (P : Params) : Obj := (Obj.mk (Value.type "tuple") (Option.none) (Data.seq #[(Value.int (Int.ofNat (nat_lit 32768)) (nat_lit 304)), (vS "-" (nat_lit 345))] (nat_lit 0)) #[])
noncomputable def ob57 (P : Params) : Obj := (Obj.mk (Value.type "tuple") (Option.none) (Data.seq #[(Value.int (Int.ofNat (nat_lit 24576)) (nat_lit 302)), (vS "b" (nat_lit 346))] (nat_lit 0)) #[])
noncomputable def ob58 (P : Params) : Obj := (Obj.mk (Value.type "tuple") (Option.none) (Data.seq #[(Value.int (Int.ofNat (nat_lit 16384)) (nat_lit 298)), (vS "d" (nat_lit 347))] (nat_lit 0)) #[])
noncomputable def ob59 (P : Params) : Obj := (Obj.mk (Value.type "tuple") (Option.none) (Data.seq #[(Value.int (Int.ofNat (nat_lit 8192)) (nat_lit 300)), (vS "c" (nat_lit 348))] (nat_lit 0)) #[])
noncomputable def ob60 (P : Params) : Obj := (Obj.mk (Value.type "tuple") (Option.none) (Data.seq #[(Value.int (Int.ofNat (nat_lit 4096)) (nat_lit 306)), (vS "p" (nat_lit 349))] (nat_lit 0)) #[])
noncomputable def ob61 (P : Params) : Obj := (Obj.mk (Value.type "tuple") (Option.none) (Data.seq #[(Value.ref (nat_lit 53)), (Value.ref (nat_lit 54)), (Value.ref (nat_lit 55)), (Value.ref (nat_lit 56)), (Value.ref (nat_lit 57)), (Value.ref (nat_lit 58)), (Value.ref (nat_lit 59))] (nat_lit 0)) #[])
noncomputable def ob62 (P : Params) : Obj := (Obj.mk (Value.type "tuple") (Option.none) (Data.seq #[(Value.int (Int.ofNat (nat_lit 256)) (nat_lit 325)), (vS "r" (nat_lit 350))] (nat_lit 0)) #[])
noncomputable def ob63 (P : Params) : Obj := (Obj.mk (Value.type "tuple") (Option.none) (Data.seq #[(Value.ref (nat_lit 61))] (nat_lit 0)) #[])
noncomputable def ob64 (P : Params) : Obj := (Obj.mk (Value.type "tuple") (Option.none) (Data.seq #[(Value.int (Int.ofNat (nat_lit 128)) (nat_lit 327)), (vS "w" (nat_lit 351))] (nat_lit 0)) #[])
noncomputable def ob65 (P : Params) : Obj := (Obj.mk (Value.type "tuple") (Option.none) (Data.seq #[(Value.ref (nat_lit 63))] (nat_lit 0)) #[])
noncomputable def ob66 (P : Params) : Obj := (Obj.mk (Value.type "tuple") (Option.none) (Data.seq #[(Value.int (Int.ofNat (nat_lit 2112)) (nat_lit 352)), (vS "s" (nat_lit 353))] (nat_lit 0)) #[])
noncomputable def ob67 (P : Params) : Obj := (Obj.mk (Value.type "tuple") (Option.none) (Data.seq #[(Value.int (Int.ofNat (nat_lit 2048)) (nat_lit 319)), (vS "S" (nat_lit 354))] (nat_lit 0)) #[])
noncomputable def ob68 (P : Params) : Obj := (Obj.mk (Value.type "tuple") (Option.none) (Data.seq #[(Value.int (Int.ofNat (nat_lit 64)) (nat_lit 329)), (vS "x" (nat_lit 355))] (nat_lit 0)) #[])
noncomputable def ob69 (P : Params) : Obj := (Obj.mk (Value.type "tuple") (Option.none) (Data.seq #[(Value.ref (nat_lit 65)), (Value.ref (nat_lit 66)), (Value.ref (nat_lit 67))] (nat_lit 0)) #[])
noncomputable def ob70 (P : Params) : Obj := (Obj.mk (Value.type "tuple") (Option.none) (Data.seq #[(Value.int (Int.ofNat (nat_lit 32)) (nat_lit 331)), (vS "r" (nat_lit 356))] (nat_lit 0)) #[])
noncomputable def ob71 (P : Params) : Obj := (Obj.mk (Value.type "tuple") (Option.none) (Data.seq #[(Value.ref (nat_lit 69))] (nat_lit 0)) #[])
noncomputable def ob72 (P : Params) : Obj := (Obj.mk (Value.type "tuple") (Option.none) (Data.seq #[(Value.int (Int.ofNat (nat_lit 16)) (nat_lit 333)), (vS "w" (nat_lit 357))] (nat_lit 0)) #[])
noncomputable def ob73 (P : Params) : Obj := (Obj.mk (Value.type "tuple") (Option.none) (Data.seq #[(Value.ref (nat_lit 71))] (nat_lit 0)) #[])
noncomputable def ob74 (P : Params) : Obj := (Obj.mk (Value.type "tuple") (Option.none) (Data.seq #[(Value.int (Int.ofNat (nat_lit 1032)) (nat_lit 358)), (vS "s" (nat_lit 359))] (nat_lit 0)) #[])
noncomputable def ob75 (P : Params) : Obj := (Obj.mk (Value.type "tuple") (Option.none) (Data.seq #[(Value.int (Int.ofNat (nat_lit 1024)) (nat_lit 321)), (vS "S" (nat_lit 360))] (nat_lit 0)) #[])
noncomputable def ob76 (P : Params) : Obj := (Obj.mk (Value.type "tuple") (Option.none) (Data.seq #[(Value.int (Int.ofNat (nat_lit 8)) (nat_lit 335)), (vS "x" (nat_lit 361))] (nat_lit 0)) #[])
noncomputable def ob77 (P : Params) : Obj := (Obj.mk (Value.type "tuple") (Option.none) (Data.seq #[(Value.ref (nat_lit 73)), (Value.ref (nat_lit 74)), (Value.ref (nat_lit 75))] (nat_lit 0)) #[])
noncomputable def ob78 (P : Params) : Obj := (Obj.mk (Value.type "tuple") (Option.none) (Data.seq #[(Value.int (Int.ofNat (nat_lit 4)) (nat_lit 337)), (vS "r" (nat_lit 362))] (nat_lit 0)) #[])
noncomputable def ob79 (P : Params) : Obj := (Obj.mk (Value.type "tuple") (Option.none) (Data.seq #[(Value.ref (nat_lit 77))] (nat_lit 0)) #[])
noncomputable def ob80 (P : Params) : Obj := (Obj.mk (Value.type "tuple") (Option.none) (Data.seq #[(Value.int (Int.ofNat (nat_lit 2)) (nat_lit 339)), (vS "w" (nat_lit 363))] (nat_lit 0)) #[])
noncomputable def ob81 (P : Params) : Obj := (Obj.mk (Value.type "tuple") (Option.none) (Data.seq #[(Value.ref (nat_lit 79))] (nat_lit 0)) #[])
noncomputable def ob82 (P : Params) : Obj := (Obj.mk (Value.type "tuple") (Option.none) (Data.seq #[(Value.int (Int.ofNat (nat_lit 513)) (nat_lit 364)), (vS "t" (nat_lit 365))] (nat_lit 0)) #[])
noncomputable def ob83 (P : Params) : Obj := (Obj.mk (Value.type "tuple") (Option.none) (Data.seq #[(Value.int (Int.ofNat (nat_lit 512)) (nat_lit 323)), (vS "T" (nat_lit 366))] (nat_lit 0)) #[])
noncomputable def ob84 (P : Params) : Obj := (Obj.mk (Value.type "tuple") (Option.none) (Data.seq #[(Value.int (Int.ofNat (nat_lit 1)) (nat_lit 341)), (vS "x" (nat_lit 367))] (nat_lit 0)) #[])
noncomputable def ob85 (P : Params) : Obj := (Obj.mk (Value.type "tuple") (Option.none) (Data.seq #[(Value.ref (nat_lit 81)), (Value.ref (nat_lit 82)), (Value.ref (nat_lit 83))] (nat_lit 0)) #[])
noncomputable def ob86 (P : Params) : Obj := (Obj.mk (Value.type "tuple") (Option.none) (Data.seq #[(Value.ref (nat_lit 60)), (Value.ref (nat_lit 62)), (Value.ref (nat_lit 64)), (Value.ref (nat_lit 68)), (Value.ref (nat_lit 70)), (Value.ref (nat_lit 72)), (Value.ref (nat_lit 76)), (Value.ref (nat_lit 78)), (Value.ref (nat_lit 80)), (Value.ref (nat_lit 84))] (nat_lit 0)) #[])
noncomputable def ob87 (P : Params) : Obj := (Obj.mk (Value.type "tuple") (Option.none) (Data.seq #[] (nat_lit 0)) #[])
noncomputable def ob88 (P : Params) : Obj := (Obj.mk Value.none (Option.none) (Data.fields #[]) #[])
noncomputable def ob89 (P : Params) : Obj := (Obj.mk (Value.type "tuple") (Option.none) (Data.seq #[(vS "mode" (nat_lit 372)), (vS "perm" (nat_lit 373)), (vS "index" (nat_lit 374)), (vS "table" (nat_lit 375)), (vS "bit" (nat_lit 376)), (vS "char" (nat_lit 377))] (nat_lit 0)) #[])
noncomputable def ob90 (P : Params) : Obj := (Obj.mk (Value.type "tuple") (Option.none) (Data.seq #[] (nat_lit 0)) #[])
noncomputable def ob91 (P : Params) : Obj := (Obj.mk Value.none (Option.none) (Data.func (FuncData.mk (Str.ofString "filemode") (Str.ofString "filemode") (aPar (stA 25)) (FuncBody.stmts (aBody (stA 25))) (aSco (stA 25)) (nat_lit 0) [] Value.none Value.none Value.none Value.none (Option.none) Value.none Value.none (nat_lit 0))) #[])
noncomputable def ob92 (P : Params) : Obj := (Obj.mk (Value.type "code") (Option.none) (Data.fields #[(vS "filemode" (nat_lit 369)), (vS "filemode" (nat_lit 370)), (vS "/claim/cut.py" (nat_lit 371)), (Value.int (Int.ofNat (nat_lit 30)) (nat_lit 0)), (Value.int (Int.ofNat (nat_lit 1)) (nat_lit 0)), (Value.int (Int.ofNat (nat_lit 0)) (nat_lit 0)), (Value.int (Int.ofNat (nat_lit 0)) (nat_lit 0)), (Value.int (Int.ofNat (nat_lit 3)) (nat_lit 0)), (Value.ref (nat_lit 86)), (Value.bool Bool.true), (Value.int (Int.ofNat (nat_lit 276)) (nat_lit 0)), (Value.ref (nat_lit 87)), Value.none, (Value.ref (nat_lit 88)), (Value.ref (nat_lit 89)), (Value.ref (nat_lit 90)), (Value.int (Int.ofNat (nat_lit 378)) (nat_lit 0)), (Value.int (Int.ofNat (nat_lit 30)) (nat_lit 0)), (vS "/claim/cut.py" (nat_lit 379))]) #[])
noncomputable def ob93 (P : Params) : Obj := (Obj.mk (Value.type "function") (Option.none) (Data.func (FuncData.mk (Str.ofString "filemode") (Str.ofString "filemode") (aPar (stA 25)) (FuncBody.stmts (aBody (stA 25))) (aSco (stA 25)) (nat_lit 3) [] Value.none Value.none Value.none (vS "cpy313.stat" (nat_lit 289)) (Option.none) (Value.ref (nat_lit 91)) Value.none (nat_lit 0))) #[])
noncomputable def ob94 (P : Params) : Obj := (Obj.mk (Value.type "list") (Option.none) (Data.seq #[(Value.int (Int.ofNat (nat_lit 14)) (nat_lit 384)), (Value.int (Int.ofNat (nat_lit 14)) (nat_lit 385)), (Value.int (Int.ofNat (nat_lit 4)) (nat_lit 386)), (Value.int (Int.ofNat (nat_lit 1)) (nat_lit 387)), (Value.int (Int.ofNat (nat_lit 1)) (nat_lit 388)), (Value.int (Int.ofNat (nat_lit 9)) (nat_lit 389)), (Value.int (Int.ofNat (nat_lit 0)) (nat_lit 390)), (Value.int (Int.ofNat (nat_lit 64)) (nat_lit 391)), (Value.int (Int.ofNat (nat_lit 0)) (nat_lit 392)), (Value.int (Int.ofNat (nat_lit 1342177280)) (nat_lit 393)), (Value.int (Int.ofNat (nat_lit 0)) (nat_lit 394)), (Value.int (Int.ofNat (nat_lit 0)) (nat_lit 395)), (Value.int (Int.ofNat (nat_lit 0)) (nat_lit 396)), (Value.int (Int.ofNat (nat_lit 0)) (nat_lit 397)), (Value.int (Int.ofNat (nat_lit 0)) (nat_lit 398)), (Value.int (Int.ofNat (nat_lit 17)) (nat_lit 399)), (Value.int (Int.ofNat (nat_lit 0)) (nat_lit 400)), (Value.int (Int.ofNat (nat_lit 13)) (nat_lit 401)), (Value.int (Int.ofNat (nat_lit 11)) (nat_lit 402)), (Value.int (Int.ofNat (nat_lit 9)) (nat_lit 403)), (Value.int (Int.ofNat (nat_lit 0)) (nat_lit 404)), (Value.int (Int.ofNat (nat_lit 64)) (nat_lit 405)), (Value.int (Int.ofNat (nat_lit 0)) (nat_lit 406)), (Value.int (Int.ofNat (nat_lit 1342177280)) (nat_lit 407)), (Value.int (Int.ofNat (nat_lit 0)) (nat_lit 408)), (Value.int (Int.ofNat (nat_lit 0)) (nat_lit 409)), (Value.int (Int.ofNat (nat_lit 0)) (nat_lit 410)), (Value.int (Int.ofNat (nat_lit 0)) (nat_lit 411)), (Value.int (Int.ofNat (nat_lit 0)) (nat_lit 412)), (Value.int (Int.ofNat (nat_lit 17)) (nat_lit 413)), (Value.int (Int.ofNat (nat_lit 1)) (nat_lit 414)), (Value.int (Int.ofNat (nat_lit 1)) (nat_lit 415))] (nat_lit 0)) #[])
noncomputable def ob95 (P : Params) : Obj := (Obj.mk (Value.type "dict") (Option.none) (Data.dict #[] (nat_lit 0)) #[])
noncomputable def ob96 (P : Params) : Obj := (Obj.mk (Value.type "tuple") (Option.none) (Data.seq #[Value.none, Value.none] (nat_lit 0)) #[])
noncomputable def ob97 (P : Params) : Obj := (Obj.mk (Value.type "tuple") (Option.none) (Data.seq #[(Value.int (Int.ofNat (nat_lit 14)) (nat_lit 0)), (Value.int (Int.ofNat (nat_lit 14)) (nat_lit 0)), (Value.int (Int.ofNat (nat_lit 4)) (nat_lit 0)), (Value.int (Int.ofNat (nat_lit 1)) (nat_lit 0)), (Value.int (Int.ofNat (nat_lit 1)) (nat_lit 0)), (Value.int (Int.ofNat (nat_lit 9)) (nat_lit 0)), (Value.int (Int.ofNat (nat_lit 0)) (nat_lit 0)), (Value.int (Int.ofNat (nat_lit 64)) (nat_lit 0)), (Value.int (Int.ofNat (nat_lit 0)) (nat_lit 0)), (Value.int (Int.ofNat (nat_lit 1342177280)) (nat_lit 0)), (Value.int (Int.ofNat (nat_lit 0)) (nat_lit 0)), (Value.int (Int.ofNat (nat_lit 0)) (nat_lit 0)), (Value.int (Int.ofNat (nat_lit 0)) (nat_lit 0)), (Value.int (Int.ofNat (nat_lit 0)) (nat_lit 0)), (Value.int (Int.ofNat (nat_lit 0)) (nat_lit 0)), (Value.int (Int.ofNat (nat_lit 17)) (nat_lit 0)), (Value.int (Int.ofNat (nat_lit 0)) (nat_lit 0)), (Value.int (Int.ofNat (nat_lit 13)) (nat_lit 0)), (Value.int (Int.ofNat (nat_lit 11)) (nat_lit 0)), (Value.int (Int.ofNat (nat_lit 9)) (nat_lit 0)), (Value.int (Int.ofNat (nat_lit 0)) (nat_lit 0)), (Value.int (Int.ofNat (nat_lit 64)) (nat_lit 0)), (Value.int (Int.ofNat (nat_lit 0)) (nat_lit 0)), (Value.int (Int.ofNat (nat_lit 1342177280)) (nat_lit 0)), (Value.int (Int.ofNat (nat_lit 0)) (nat_lit 0)), (Value.int (Int.ofNat (nat_lit 0)) (nat_lit 0)), (Value.int (Int.ofNat (nat_lit 0)) (nat_lit 0)), (Value.int (Int.ofNat (nat_lit 0)) (nat_lit 0)), (Value.int (Int.ofNat (nat_lit 0)) (nat_lit 0)), (Value.int (Int.ofNat (nat_lit 17)) (nat_lit 0)), (Value.int (Int.ofNat (nat_lit 1)) (nat_lit 0)), (Value.int (Int.ofNat (nat_lit 1)) (nat_lit 0))] (nat_lit 0)) #[])
noncomputable def ob98 (P : Params) : Obj := (Obj.mk (Value.type "re.Pattern") (Option.none) (Data.fields #[(vS "([&~|])" (nat_lit 382)), (Value.int (Int.ofNat (nat_lit 32)) (nat_lit 417)), (Value.int (Int.ofNat (nat_lit 1)) (nat_lit 0)), Value.none, Value.none, (Value.ref (nat_lit 96)), (Value.int (Int.ofNat (nat_lit 0)) (nat_lit 0))]) #[])
noncomputable def ob99 (P : Params) : Obj := (Obj.mk (Value.type "bytes_iterator") (Option.none) (Data.fields #[Value.none, (Value.int (Int.ofNat (nat_lit 24)) (nat_lit 0))]) #[])
noncomputable def ob100 (P : Params) : Obj := (Obj.mk (Value.type "dict") (Option.none) (Data.dict #[(DictEntry.mk (Int.ofNat (nat_lit 40)) (Value.int (Int.ofNat (nat_lit 40)) (nat_lit 422)) (vS "\\(" (nat_lit 426))), (DictEntry.mk (Int.ofNat (nat_lit 41)) (Value.int (Int.ofNat (nat_lit 41)) (nat_lit 428)) (vS "\\)" (nat_lit 432))), (DictEntry.mk (Int.ofNat (nat_lit 91)) (Value.int (Int.ofNat (nat_lit 91)) (nat_lit 434)) (vS "\\[" (nat_lit 438))), (DictEntry.mk (Int.ofNat (nat_lit 93)) (Value.int (Int.ofNat (nat_lit 93)) (nat_lit 440)) (vS "\\]" (nat_lit 444))), (DictEntry.mk (Int.ofNat (nat_lit 123)) (Value.int (Int.ofNat (nat_lit 123)) (nat_lit 446)) (vS "\\{" (nat_lit 450))), (DictEntry.mk (Int.ofNat (nat_lit 125)) (Value.int (Int.ofNat (nat_lit 125)) (nat_lit 452)) (vS "\\}" (nat_lit 456))), (DictEntry.mk (Int.ofNat (nat_lit 63)) (Value.int (Int.ofNat (nat_lit 63)) (nat_lit 458)) (vS "\\?" (nat_lit 462))), (DictEntry.mk (Int.ofNat (nat_lit 42)) (Value.int (Int.ofNat (nat_lit 42)) (nat_lit 464)) (vS "\\*" (nat_lit 468))), (DictEntry.mk (Int.ofNat (nat_lit 43)) (Value.int (Int.ofNat (nat_lit 43)) (nat_lit 470)) (vS "\\+" (nat_lit 474))), (DictEntry.mk (Int.ofNat (nat_lit 45)) (Value.int (Int.ofNat (nat_lit 45)) (nat_lit 476)) (vS "\\-" (nat_lit 480))), (DictEntry.mk (Int.ofNat (nat_lit 124)) (Value.int (Int.ofNat (nat_lit 124)) (nat_lit 482)) (vS "\\|" (nat_lit 486))), (DictEntry.mk (Int.ofNat (nat_lit 94)) (Value.int (Int.ofNat (nat_lit 94)) (nat_lit 488)) (vS "\\^" (nat_lit 492))), (DictEntry.mk (Int.ofNat (nat_lit 36)) (Value.int (Int.ofNat (nat_lit 36)) (nat_lit 494)) (vS "\\$" (nat_lit 498))), (DictEntry.mk (Int.ofNat (nat_lit 92)) (Value.int (Int.ofNat (nat_lit 92)) (nat_lit 500)) (vS "\\\\" (nat_lit 504))), (DictEntry.mk (Int.ofNat (nat_lit 46)) (Value.int (Int.ofNat (nat_lit 46)) (nat_lit 506)) (vS "\\." (nat_lit 510))), (DictEntry.mk (Int.ofNat (nat_lit 38)) (Value.int (Int.ofNat (nat_lit 38)) (nat_lit 512)) (vS "\\&" (nat_lit 516))), (DictEntry.mk (Int.ofNat (nat_lit 126)) (Value.int (Int.ofNat (nat_lit 126)) (nat_lit 518)) (vS "\\~" (nat_lit 522))), (DictEntry.mk (Int.ofNat (nat_lit 35)) (Value.int (Int.ofNat (nat_lit 35)) (nat_lit 524)) (vS "\\#" (nat_lit 528))), (DictEntry.mk (Int.ofNat (nat_lit 32)) (Value.int (Int.ofNat (nat_lit 32)) (nat_lit 530)) (vS "\\ " (nat_lit 534))), (DictEntry.mk (Int.ofNat (nat_lit 9)) (Value.int (Int.ofNat (nat_lit 9)) (nat_lit 536)) (vS "\\\t" (nat_lit 540))), (DictEntry.mk (Int.ofNat (nat_lit 10)) (Value.int (Int.ofNat (nat_lit 10)) (nat_lit 542)) (vS "\\\n" (nat_lit 546))), (DictEntry.mk (Int.ofNat (nat_lit 13)) (Value.int (Int.ofNat (nat_lit 13)) (nat_lit 548)) (vS "\\\x0d" (nat_lit 552))), (DictEntry.mk (Int.ofNat (nat_lit 11)) (Value.int (Int.ofNat (nat_lit 11)) (nat_lit 554)) (vS "\\\x0b" (nat_lit 558))), (DictEntry.mk (Int.ofNat (nat_lit 12)) (Value.int (Int.ofNat (nat_lit 12)) (nat_lit 560)) (vS "\\\x0c" (nat_lit 564)))] (nat_lit 24)) #[])
noncomputable def ob101 (P : Params) : Obj := (Obj.mk (Value.type "dict") (Option.none) (Data.dict #[] (nat_lit 2)) #[])
noncomputable def ob102 (P : Params) : Obj := (Obj.mk (Value.type "tuple") (Option.none) (Data.seq #[] (nat_lit 0)) #[])
noncomputable def ob103 (P : Params) : Obj := (Obj.mk (Value.type "StopIteration") (Option.none) (Data.fields #[(Value.ref (nat_lit 101)), Value.none, Value.none, Value.none, (Value.bool Bool.false), Value.none]) #[])
noncomputable def ob104 (P : Params) : Obj := (Obj.mk (Value.type "tuple") (Option.none) (Data.seq #[] (nat_lit 0)) #[])
noncomputable def ob105 (P : Params) : Obj := (Obj.mk Value.none (Option.none) (Data.fields #[]) #[])
noncomputable def ob106 (P : Params) : Obj := (Obj.mk (Value.type "tuple") (Option.none) (Data.seq #[(vS "pattern" (nat_lit 570))] (nat_lit 0)) #[])
noncomputable def ob107 (P : Params) : Obj := (Obj.mk (Value.type "tuple") (Option.none) (Data.seq #[] (nat_lit 0)) #[])
noncomputable def ob108 (P : Params) : Obj := (Obj.mk Value.none (Option.none) (Data.func (FuncData.mk (Str.ofString "escape") (Str.ofString "escape") (aPar (stA 29)) (FuncBody.stmts (aBody (stA 29))) (aSco (stA 29)) (nat_lit 0) [] Value.none Value.none Value.none Value.none (Option.none) Value.none Value.none (nat_lit 0))) #[])
noncomputable def ob109 (P : Params) : Obj := (Obj.mk (Value.type "code") (Option.none) (Data.fields #[(vS "escape" (nat_lit 567)), (vS "escape" (nat_lit 568)), (vS "/claim/cut.py" (nat_lit 569)), (Value.int (Int.ofNat (nat_lit 50)) (nat_lit 0)), (Value.int (Int.ofNat (nat_lit 1)) (nat_lit 0)), (Value.int (Int.ofNat (nat_lit 0)) (nat_lit 0)), (Value.int (Int.ofNat (nat_lit 0)) (nat_lit 0)), (Value.int (Int.ofNat (nat_lit 3)) (nat_lit 0)), (Value.ref (nat_lit 103)), (Value.bool Bool.true), (Value.int (Int.ofNat (nat_lit 276)) (nat_lit 0)), (Value.ref (nat_lit 104)), Value.none, (Value.ref (nat_lit 105)), (Value.ref (nat_lit 106)), (Value.ref (nat_lit 107)), (Value.int (Int.ofNat (nat_lit 571)) (nat_lit 0)), (Value.int (Int.ofNat (nat_lit 50)) (nat_lit 0)), (vS "/claim/cut.py" (nat_lit 572))]) #[])
noncomputable def ob110 (P : Params) : Obj := (Obj.mk (Value.type "function") (Option.none) (Data.func (FuncData.mk (Str.ofString "escape") (Str.ofString "escape") (aPar (stA 29)) (FuncBody.stmts (aBody (stA 29))) (aSco (stA 29)) (nat_lit 3) [] Value.none Value.none Value.none (vS "re" (nat_lit 419)) (Option.none) (Value.ref (nat_lit 108)) Value.none (nat_lit 0))) #[])
noncomputable def ob111 (P : Params) : Obj := (Obj.mk (Value.type "tuple") (Option.none) (Data.seq #[] (nat_lit 0)) #[])
noncomputable def ob112 (P : Params) : Obj := (Obj.mk Value.none (Option.none) (Data.fields #[]) #[])
noncomputable def ob113 (P : Params) : Obj := (Obj.mk (Value.type "tuple") (Option.none) (Data.seq #[(vS "pat" (nat_lit 579)), (vS "STAR" (nat_lit 580)), (vS "QUESTION_MARK" (nat_lit 581)), (vS "res" (nat_lit 582)), (vS "add" (nat_lit 583)), (vS "i" (nat_lit 584)), (vS "n" (nat_lit 585)), (vS "c" (nat_lit 586)), (vS "j" (nat_lit 587)), (vS "stuff" (nat_lit 588)), (vS "chunks" (nat_lit 589)), (vS "k" (nat_lit 590)), (vS "chunk" (nat_lit 591))] (nat_lit 0)) #[])
noncomputable def ob114 (P : Params) : Obj := (Obj.mk (Value.type "tuple") (Option.none) (Data.seq #[] (nat_lit 0)) #[])
noncomputable def ob115 (P : Params) : Obj := (Obj.mk Value.none (Option.none) (Data.func (FuncData.mk (Str.ofString "_translate") (Str.ofString "_translate") (aPar (stA 31)) (FuncBody.stmts (aBody (stA 31))) (aSco (stA 31)) (nat_lit 0) [] Value.none Value.none Value.none Value.none (Option.none) Value.none Value.none (nat_lit 0))) #[])
noncomputable def ob116 (P : Params) : Obj := (Obj.mk (Value.type "code") (Option.none) (Data.fields #[(vS "_translate" (nat_lit 576)), (vS "_translate" (nat_lit 577)), (vS "/claim/cut.py" (nat_lit 578)), (Value.int (Int.ofNat (nat_lit 57)) (nat_lit 0)), (Value.int (Int.ofNat (nat_lit 3)) (nat_lit 0)), (Value.int (Int.ofNat (nat_lit 0)) (nat_lit 0)), (Value.int (Int.ofNat (nat_lit 0)) (nat_lit 0)), (Value.int (Int.ofNat (nat_lit 3)) (nat_lit 0)), (Value.ref (nat_lit 110)), (Value.bool Bool.true), (Value.int (Int.ofNat (nat_lit 276)) (nat_lit 0)), (Value.ref (nat_lit 111)), Value.none, (Value.ref (nat_lit 112)), (Value.ref (nat_lit 113)), (Value.ref (nat_lit 114)), (Value.int (Int.ofNat (nat_lit 592)) (nat_lit 0)), (Value.int (Int.ofNat (nat_lit 57)) (nat_lit 0)), (vS "/claim/cut.py" (nat_lit 593))]) #[])
noncomputable def ob117 (P : Params) : Obj := (Obj.mk (Value.type "function") (Option.none) (Data.func (FuncData.mk (Str.ofString "_translate") (Str.ofString "_translate") (aPar (stA 31)) (FuncBody.stmts (aBody (stA 31))) (aSco (stA 31)) (nat_lit 3) [] Value.none Value.none Value.none (vS "cpy313.fnmatch" (nat_lit 574)) (Option.none) (Value.ref (nat_lit 115)) Value.none (nat_lit 0))) #[])
noncomputable def ob118 (P : Params) : Obj := (Obj.mk (Value.type "tuple") (Option.none) (Data.seq #[] (nat_lit 0)) #[])
noncomputable def ob119 (P : Params) : Obj := (Obj.mk Value.none (Option.none) (Data.fields #[]) #[])
noncomputable def ob120 (P : Params) : Obj := (Obj.mk (Value.type "tuple") (Option.none) (Data.seq #[(vS "x" (nat_lit 600)), (vS "what" (nat_lit 601)), (vS "kind" (nat_lit 602))] (nat_lit 0)) #[])
noncomputable def ob121 (P : Params) : Obj := (Obj.mk (Value.type "tuple") (Option.none) (Data.seq #[] (nat_lit 0)) #[])
noncomputable def ob122 (P : Params) : Obj := (Obj.mk Value.none (Option.none) (Data.func (FuncData.mk (Str.ofString "_plain_name") (Str.ofString "_plain_name") (aPar (stA 33)) (FuncBody.stmts (aBody (stA 33))) (aSco (stA 33)) (nat_lit 0) [] Value.none Value.none Value.none Value.none (Option.none) Value.none Value.none (nat_lit 0))) #[])
noncomputable def ob123 (P : Params) : Obj := (Obj.mk (Value.type "code") (Option.none) (Data.fields #[(vS "_plain_name" (nat_lit 597)), (vS "_plain_name" (nat_lit 598)), (vS "/claim/cut.py" (nat_lit 599)), (Value.int (Int.ofNat (nat_lit 120)) (nat_lit 0)), (Value.int (Int.ofNat (nat_lit 2)) (nat_lit 0)), (Value.int (Int.ofNat (nat_lit 0)) (nat_lit 0)), (Value.int (Int.ofNat (nat_lit 0)) (nat_lit 0)), (Value.int (Int.ofNat (nat_lit 3)) (nat_lit 0)), (Value.ref (nat_lit 117)), (Value.bool Bool.true), (Value.int (Int.ofNat (nat_lit 276)) (nat_lit 0)), (Value.ref (nat_lit 118)), Value.none, (Value.ref (nat_lit 119)), (Value.ref (nat_lit 120)), (Value.ref (nat_lit 121)), (Value.int (Int.ofNat (nat_lit 603)) (nat_lit 0)), (Value.int (Int.ofNat (nat_lit 120)) (nat_lit 0)), (vS "/claim/cut.py" (nat_lit 604))]) #[])
noncomputable def ob124 (P : Params) : Obj := (Obj.mk (Value.type "function") (Option.none) (Data.func (FuncData.mk (Str.ofString "_plain_name") (Str.ofString "_plain_name") (aPar (stA 33)) (FuncBody.stmts (aBody (stA 33))) (aSco (stA 33)) (nat_lit 3) [] Value.none Value.none Value.none (vS "os" (nat_lit 595)) (Option.none) (Value.ref (nat_lit 122)) Value.none (nat_lit 0))) #[])
noncomputable def ob125 (P : Params) : Obj := (Obj.mk (Value.type "tuple") (Option.none) (Data.seq #[(Value.type "type")] (nat_lit 0)) #[])
noncomputable def ob126 (P : Params) : Obj := (Obj.mk (Value.type "builtin_function_or_method") (Option.none) (Data.fields #[(Value.builtin "type.__prepare__"), (Value.type "type")]) #[])
noncomputable def ob127 (P : Params) : Obj := (Obj.mk (Value.type "dict") (Option.none) (Data.dict #[(dE P "__module__" (nat_lit 615) (vS "abc" (nat_lit 606))), (dE P "__qualname__" (nat_lit 617) (vS "ABCMeta" (nat_lit 616))), (dE P "__firstlineno__" (nat_lit 619) (Value.int (Int.ofNat (nat_lit 126)) (nat_lit 618))), (dE P "register" (nat_lit 627) (Value.ref (nat_lit 137))), (dE P "__static_attributes__" (nat_lit 628) (Value.ref (nat_lit 138)))] (nat_lit 5)) #[])
noncomputable def ob128 (P : Params) : Obj := (Obj.mk (Value.type "tuple") (Option.none) (Data.seq #[] (nat_lit 0)) #[])
noncomputable def ob129 (P : Params) : Obj := (Obj.mk Value.none (Option.none) (Data.fields #[(Value.int (Int.ofNat (nat_lit 128)) (nat_lit 0)), (Value.int (Int.ofNat (nat_lit 4)) (nat_lit 0)), (Value.ref (nat_lit 136))]) #[])
noncomputable def ob130 (P : Params) : Obj := (Obj.mk (Value.type "code") (Option.none) (Data.fields #[(vS "ABCMeta" (nat_lit 610)), (vS "ABCMeta" (nat_lit 611)), (vS "/claim/cut.py" (nat_lit 612)), (Value.int (Int.ofNat (nat_lit 126)) (nat_lit 0)), (Value.int (Int.ofNat (nat_lit 0)) (nat_lit 0)), (Value.int (Int.ofNat (nat_lit 0)) (nat_lit 0)), (Value.int (Int.ofNat (nat_lit 0)) (nat_lit 0)), (Value.int (Int.ofNat (nat_lit 0)) (nat_lit 0)), (Value.ref (nat_lit 127)), (Value.bool Bool.false), (Value.int (Int.ofNat (nat_lit 276)) (nat_lit 0)), (Value.ref (nat_lit 128)), Value.none, Value.none, Value.none, Value.none, (Value.int (Int.ofNat (nat_lit 613)) (nat_lit 0)), (Value.int (Int.ofNat (nat_lit 126)) (nat_lit 0)), (vS "/claim/cut.py" (nat_lit 614))]) #[])
noncomputable def ob131 (P : Params) : Obj := (Obj.mk (Value.type "frame") (Option.none) Data.plain #[(Option.some (Value.ref (nat_lit 129))), (Option.some (Value.ref (nat_lit 3))), (Option.some (Value.ref (nat_lit 126))), (Option.none), (Option.some (vS "abc" (nat_lit 606))), (Option.none), (Option.some (Value.ref (nat_lit 0)))])
noncomputable def ob132 (P : Params) : Obj := (Obj.mk (Value.type "tuple") (Option.none) (Data.seq #[] (nat_lit 0)) #[])
noncomputable def ob133 (P : Params) : Obj := (Obj.mk Value.none (Option.none) (Data.fields #[]) #[])
noncomputable def ob134 (P : Params) : Obj := (Obj.mk (Value.type "tuple") (Option.none) (Data.seq #[(vS "cls" (nat_lit 623)), (vS "subclass" (nat_lit 624))] (nat_lit 0)) #[])
noncomputable def ob135 (P : Params) : Obj := (Obj.mk (Value.type "tuple") (Option.none) (Data.seq #[] (nat_lit 0)) #[])
noncomputable def ob136 (P : Params) : Obj := (Obj.mk Value.none (Option.none) (Data.func (FuncData.mk (Str.ofString "register") (Str.ofString "ABCMeta.register") (aPar (inC (stA 35) 0)) (FuncBody.stmts (aBody (inC (stA 35) 0))) (aSco (inC (stA 35) 0)) (nat_lit 0) [] Value.none Value.none Value.none Value.none (Option.none) Value.none Value.none (nat_lit 0))) #[])
noncomputable def ob137 (P : Params) : Obj := (Obj.mk (Value.type "code") (Option.none) (Data.fields #[(vS "register" (nat_lit 620)), (vS "ABCMeta.register" (nat_lit 621)), (vS "/claim/cut.py" (nat_lit 622)), (Value.int (Int.ofNat (nat_lit 128)) (nat_lit 0)), (Value.int (Int.ofNat (nat_lit 2)) (nat_lit 0)), (Value.int (Int.ofNat (nat_lit 0)) (nat_lit 0)), (Value.int (Int.ofNat (nat_lit 0)) (nat_lit 0)), (Value.int (Int.ofNat (nat_lit 3)) (nat_lit 0)), (Value.ref (nat_lit 131)), (Value.bool Bool.true), (Value.int (Int.ofNat (nat_lit 276)) (nat_lit 0)), (Value.ref (nat_lit 132)), Value.none, (Value.ref (nat_lit 133)), (Value.ref (nat_lit 134)), (Value.ref (nat_lit 135)), (Value.int (Int.ofNat (nat_lit 625)) (nat_lit 0)), (Value.int (Int.ofNat (nat_lit 128)) (nat_lit 0)), (vS "/claim/cut.py" (nat_lit 626))]) #[])
noncomputable def ob138 (P : Params) : Obj := (Obj.mk (Value.type "function") (Option.none) (Data.func (FuncData.mk (Str.ofString "register") (Str.ofString "ABCMeta.register") (aPar (inC (stA 35) 0)) (FuncBody.stmts (aBody (inC (stA 35) 0))) (aSco (inC (stA 35) 0)) (nat_lit 3) [] Value.none Value.none Value.none (vS "abc" (nat_lit 606)) (Option.none) (Value.ref (nat_lit 136)) Value.none (nat_lit 0))) #[])
noncomputable def ob139 (P : Params) : Obj := (Obj.mk (Value.type "tuple") (Option.none) (Data.seq #[] (nat_lit 0)) #[])
noncomputable def ob140 (P : Params) : Obj := (Obj.mk (Value.type "dict") (Option.none) (Data.dict #[(dE P "__module__" (nat_lit 615) (vS "abc" (nat_lit 606))), (dE P "__firstlineno__" (nat_lit 619) (Value.int (Int.ofNat (nat_lit 126)) (nat_lit 618))), (dE P "register" (nat_lit 627) (Value.ref (nat_lit 137))), (dE P "__static_attributes__" (nat_lit 628) (Value.ref (nat_lit 138))), (dE P "__doc__" (nat_lit 629) Value.none)] (nat_lit 2)) #[])
noncomputable def ob141 (P : Params) : Obj := (Obj.mk (Value.type "type") (Option.none) (Data.cls (ClassData.mk (Str.ofString "ABCMeta") [(Value.type "type")] [(Value.ref (nat_lit 140)), (Value.type "type"), (Value.type "object")] (nat_lit 139) (Str.ofString "ABCMeta") Bool.true [] [(Value.ref (nat_lit 173))] Bool.false (Option.none) Bool.false)) #[(Option.some (Value.ref (nat_lit 124))), (Option.none), (Option.some (vS "ABCMeta" (nat_lit 608))), (Option.some (vS "ABCMeta" (nat_lit 616))), (Option.some (Value.builtin "type.__new__")), (Option.some (Value.bool Bool.true))])
noncomputable def ob142 (P : Params) : Obj := (Obj.mk (Value.type "super") (Option.none) (Data.fields #[(Value.ref (nat_lit 140)), (Value.ref (nat_lit 140)), (Value.ref (nat_lit 140))]) #[])
noncomputable def ob143 (P : Params) : Obj := (Obj.mk (Value.type "builtin_function_or_method") (Option.none) (Data.fields #[(Value.builtin "object.__init_subclass__"), (Value.ref (nat_lit 140))]) #[])
noncomputable def ob144 (P : Params) : Obj := (Obj.mk (Value.type "tuple") (Option.none) (Data.seq #[(Value.ref (nat_lit 140))] (nat_lit 0)) #[])
noncomputable def ob145 (P : Params) : Obj := (Obj.mk (Value.type "builtin_function_or_method") (Option.none) (Data.fields #[(Value.builtin "type.__prepare__"), (Value.type "type")]) #[])
noncomputable def ob146 (P : Params) : Obj := (Obj.mk (Value.type "dict") (Option.none) (Data.dict #[(dE P "__module__" (nat_lit 641) (vS "collections.abc" (nat_lit 632))), (dE P "__qualname__" (nat_lit 643) (vS "_ABCLike" (nat_lit 642))), (dE P "__firstlineno__" (nat_lit 645) (Value.int (Int.ofNat (nat_lit 131)) (nat_lit 644))), (dE P "__instancecheck__" (nat_lit 654) (Value.ref (nat_lit 156))), (dE P "__subclasscheck__" (nat_lit 662) (Value.ref (nat_lit 163))), (dE P "register" (nat_lit 670) (Value.ref (nat_lit 170))), (dE P "__static_attributes__" (nat_lit 671) (Value.ref (nat_lit 171)))] (nat_lit 7)) #[])
noncomputable def ob147 (P : Params) : Obj := (Obj.mk (Value.type "tuple") (Option.none) (Data.seq #[] (nat_lit 0)) #[])
noncomputable def ob148 (P : Params) : Obj := (Obj.mk Value.none (Option.none) (Data.fields #[(Value.int (Int.ofNat (nat_lit 133)) (nat_lit 0)), (Value.int (Int.ofNat (nat_lit 4)) (nat_lit 0)), (Value.ref (nat_lit 155)), (Value.int (Int.ofNat (nat_lit 139)) (nat_lit 0)), (Value.int (Int.ofNat (nat_lit 4)) (nat_lit 0)), (Value.ref (nat_lit 162)), (Value.int (Int.ofNat (nat_lit 144)) (nat_lit 0)), (Value.int (Int.ofNat (nat_lit 4)) (nat_lit 0)), (Value.ref (nat_lit 169))]) #[])
noncomputable def ob149 (P : Params) : Obj := (Obj.mk (Value.type "code") (Option.none) (Data.fields #[(vS "_ABCLike" (nat_lit 636)), (vS "_ABCLike" (nat_lit 637)), (vS "/claim/cut.py" (nat_lit 638)), (Value.int (Int.ofNat (nat_lit 131)) (nat_lit 0)), (Value.int (Int.ofNat (nat_lit 0)) (nat_lit 0)), (Value.int (Int.ofNat (nat_lit 0)) (nat_lit 0)), (Value.int (Int.ofNat (nat_lit 0)) (nat_lit 0)), (Value.int (Int.ofNat (nat_lit 0)) (nat_lit 0)), (Value.ref (nat_lit 146)), (Value.bool Bool.false), (Value.int (Int.ofNat (nat_lit 276)) (nat_lit 0)), (Value.ref (nat_lit 147)), Value.none, Value.none, Value.none, Value.none, (Value.int (Int.ofNat (nat_lit 639)) (nat_lit 0)), (Value.int (Int.ofNat (nat_lit 131)) (nat_lit 0)), (vS "/claim/cut.py" (nat_lit 640))]) #[])
noncomputable def ob150 (P : Params) : Obj := (Obj.mk (Value.type "frame") (Option.none) Data.plain #[(Option.some (Value.ref (nat_lit 148))), (Option.some (Value.ref (nat_lit 3))), (Option.some (Value.ref (nat_lit 145))), (Option.none), (Option.some (vS "collections.abc" (nat_lit 632))), (Option.none), (Option.some (Value.ref (nat_lit 0)))])
noncomputable def ob151 (P : Params) : Obj := (Obj.mk (Value.type "tuple") (Option.none) (Data.seq #[] (nat_lit 0)) #[])
noncomputable def ob152 (P : Params) : Obj := (Obj.mk Value.none (Option.none) (Data.fields #[]) #[])
noncomputable def ob153 (P : Params) : Obj := (Obj.mk (Value.type "tuple") (Option.none) (Data.seq #[(vS "cls" (nat_lit 649)), (vS "instance" (nat_lit 650)), (vS "C" (nat_lit 651))] (nat_lit 0)) #[])
noncomputable def ob154 (P : Params) : Obj := (Obj.mk (Value.type "tuple") (Option.none) (Data.seq #[] (nat_lit 0)) #[])
noncomputable def ob155 (P : Params) : Obj := (Obj.mk Value.none (Option.none) (Data.func (FuncData.mk (Str.ofString "__instancecheck__") (Str.ofString "_ABCLike.__instancecheck__") (aPar (inC (stA 37) 0)) (FuncBody.stmts (aBody (inC (stA 37) 0))) (aSco (inC (stA 37) 0)) (nat_lit 0) [] Value.none Value.none Value.none Value.none (Option.none) Value.none Value.none (nat_lit 0))) #[])
noncomputable def ob156 (P : Params) : Obj := (Obj.mk (Value.type "code") (Option.none) (Data.fields #[(vS "__instancecheck__" (nat_lit 646)), (vS "_ABCLike.__instancecheck__" (nat_lit 647)), (vS "/claim/cut.py" (nat_lit 648)), (Value.int (Int.ofNat (nat_lit 133)) (nat_lit 0)), (Value.int (Int.ofNat (nat_lit 2)) (nat_lit 0)), (Value.int (Int.ofNat (nat_lit 0)) (nat_lit 0)), (Value.int (Int.ofNat (nat_lit 0)) (nat_lit 0)), (Value.int (Int.ofNat (nat_lit 3)) (nat_lit 0)), (Value.ref (nat_lit 150)), (Value.bool Bool.true), (Value.int (Int.ofNat (nat_lit 276)) (nat_lit 0)), (Value.ref (nat_lit 151)), Value.none, (Value.ref (nat_lit 152)), (Value.ref (nat_lit 153)), (Value.ref (nat_lit 154)), (Value.int (Int.ofNat (nat_lit 652)) (nat_lit 0)), (Value.int (Int.ofNat (nat_lit 133)) (nat_lit 0)), (vS "/claim/cut.py" (nat_lit 653))]) #[])
noncomputable def ob157 (P : Params) : Obj := (Obj.mk (Value.type "function") (Option.none) (Data.func (FuncData.mk (Str.ofString "__instancecheck__") (Str.ofString "_ABCLike.__instancecheck__") (aPar (inC (stA 37) 0)) (FuncBody.stmts (aBody (inC (stA 37) 0))) (aSco (inC (stA 37) 0)) (nat_lit 3) [] Value.none Value.none Value.none (vS "collections.abc" (nat_lit 632)) (Option.none) (Value.ref (nat_lit 155)) Value.none (nat_lit 0))) #[])
noncomputable def ob158 (P : Params) : Obj := (Obj.mk (Value.type "tuple") (Option.none) (Data.seq #[] (nat_lit 0)) #[])
noncomputable def ob159 (P : Params) : Obj := (Obj.mk Value.none (Option.none) (Data.fields #[]) #[])
noncomputable def ob160 (P : Params) : Obj := (Obj.mk (Value.type "tuple") (Option.none) (Data.seq #[(vS "cls" (nat_lit 658)), (vS "C" (nat_lit 659))] (nat_lit 0)) #[])
noncomputable def ob161 (P : Params) : Obj := (Obj.mk (Value.type "tuple") (Option.none) (Data.seq #[] (nat_lit 0)) #[])
noncomputable def ob162 (P : Params) : Obj := (Obj.mk Value.none (Option.none) (Data.func (FuncData.mk (Str.ofString "__subclasscheck__") (Str.ofString "_ABCLike.__subclasscheck__") (aPar (inC (stA 37) 1)) (FuncBody.stmts (aBody (inC (stA 37) 1))) (aSco (inC (stA 37) 1)) (nat_lit 0) [] Value.none Value.none Value.none Value.none (Option.none) Value.none Value.none (nat_lit 0))) #[])
noncomputable def ob163 (P : Params) : Obj := (Obj.mk (Value.type "code") (Option.none) (Data.fields #[(vS "__subclasscheck__" (nat_lit 655)), (vS "_ABCLike.__subclasscheck__" (nat_lit 656)), (vS "/claim/cut.py" (nat_lit 657)), (Value.int (Int.ofNat (nat_lit 139)) (nat_lit 0)), (Value.int (Int.ofNat (nat_lit 2)) (nat_lit 0)), (Value.int (Int.ofNat (nat_lit 0)) (nat_lit 0)), (Value.int (Int.ofNat (nat_lit 0)) (nat_lit 0)), (Value.int (Int.ofNat (nat_lit 3)) (nat_lit 0)), (Value.ref (nat_lit 157)), (Value.bool Bool.true), (Value.int (Int.ofNat (nat_lit 276)) (nat_lit 0)), (Value.ref (nat_lit 158)), Value.none, (Value.ref (nat_lit 159)), (Value.ref (nat_lit 160)), (Value.ref (nat_lit 161)), (Value.int (Int.ofNat (nat_lit 660)) (nat_lit 0)), (Value.int (Int.ofNat (nat_lit 139)) (nat_lit 0)), (vS "/claim/cut.py" (nat_lit 661))]) #[])
noncomputable def ob164 (P : Params) : Obj := (Obj.mk (Value.type "function") (Option.none) (Data.func (FuncData.mk (Str.ofString "__subclasscheck__") (Str.ofString "_ABCLike.__subclasscheck__") (aPar (inC (stA 37) 1)) (FuncBody.stmts (aBody (inC (stA 37) 1))) (aSco (inC (stA 37) 1)) (nat_lit 3) [] Value.none Value.none Value.none (vS "collections.abc" (nat_lit 632)) (Option.none) (Value.ref (nat_lit 162)) Value.none (nat_lit 0))) #[])
noncomputable def ob165 (P : Params) : Obj := (Obj.mk (Value.type "tuple") (Option.none) (Data.seq #[] (nat_lit 0)) #[])
noncomputable def ob166 (P : Params) : Obj := (Obj.mk Value.none (Option.none) (Data.fields #[]) #[])
noncomputable def ob167 (P : Params) : Obj := (Obj.mk (Value.type "tuple") (Option.none) (Data.seq #[(vS "cls" (nat_lit 666)), (vS "subclass" (nat_lit 667))] (nat_lit 0)) #[])
noncomputable def ob168 (P : Params) : Obj := (Obj.mk (Value.type "tuple") (Option.none) (Data.seq #[] (nat_lit 0)) #[])
noncomputable def ob169 (P : Params) : Obj := (Obj.mk Value.none (Option.none) (Data.func (FuncData.mk (Str.ofString "register") (Str.ofString "_ABCLike.register") (aPar (inC (stA 37) 2)) (FuncBody.stmts (aBody (inC (stA 37) 2))) (aSco (inC (stA 37) 2)) (nat_lit 0) [] Value.none Value.none Value.none Value.none (Option.none) Value.none Value.none (nat_lit 0))) #[])
noncomputable def ob170 (P : Params) : Obj := (Obj.mk (Value.type "code") (Option.none) (Data.fields #[(vS "register" (nat_lit 663)), (vS "_ABCLike.register" (nat_lit 664)), (vS "/claim/cut.py" (nat_lit 665)), (Value.int (Int.ofNat (nat_lit 144)) (nat_lit 0)), (Value.int (Int.ofNat (nat_lit 2)) (nat_lit 0)), (Value.int (Int.ofNat (nat_lit 0)) (nat_lit 0)), (Value.int (Int.ofNat (nat_lit 0)) (nat_lit 0)), (Value.int (Int.ofNat (nat_lit 3)) (nat_lit 0)), (Value.ref (nat_lit 164)), (Value.bool Bool.true), (Value.int (Int.ofNat (nat_lit 276)) (nat_lit 0)), (Value.ref (nat_lit 165)), Value.none, (Value.ref (nat_lit 166)), (Value.ref (nat_lit 167)), (Value.ref (nat_lit 168)), (Value.int (Int.ofNat (nat_lit 668)) (nat_lit 0)), (Value.int (Int.ofNat (nat_lit 144)) (nat_lit 0)), (vS "/claim/cut.py" (nat_lit 669))]) #[])
noncomputable def ob171 (P : Params) : Obj := (Obj.mk (Value.type "function") (Option.none) (Data.func (FuncData.mk (Str.ofString "register") (Str.ofString "_ABCLike.register") (aPar (inC (stA 37) 2)) (FuncBody.stmts (aBody (inC (stA 37) 2))) (aSco (inC (stA 37) 2)) (nat_lit 3) [] Value.none Value.none Value.none (vS "collections.abc" (nat_lit 632)) (Option.none) (Value.ref (nat_lit 169)) Value.none (nat_lit 0))) #[])
noncomputable def ob172 (P : Params) : Obj := (Obj.mk (Value.type "tuple") (Option.none) (Data.seq #[] (nat_lit 0)) #[])
noncomputable def ob173 (P : Params) : Obj := (Obj.mk (Value.type "dict") (Option.none) (Data.dict #[(dE P "__module__" (nat_lit 641) (vS "collections.abc" (nat_lit 632))), (dE P "__firstlineno__" (nat_lit 645) (Value.int (Int.ofNat (nat_lit 131)) (nat_lit 644))), (dE P "__instancecheck__" (nat_lit 654) (Value.ref (nat_lit 156))), (dE P "__subclasscheck__" (nat_lit 662) (Value.ref (nat_lit 163))), (dE P "register" (nat_lit 670) (Value.ref (nat_lit 170))), (dE P "__static_attributes__" (nat_lit 671) (Value.ref (nat_lit 171))), (dE P "__doc__" (nat_lit 672) Value.none)] (nat_lit 2)) #[])
noncomputable def ob174 (P : Params) : Obj := (Obj.mk (Value.type "type") (Option.none) (Data.cls (ClassData.mk (Str.ofString "_ABCLike") [(Value.ref (nat_lit 140))] [(Value.ref (nat_lit 173)), (Value.ref (nat_lit 140)), (Value.type "type"), (Value.type "object")] (nat_lit 172) (Str.ofString "_ABCLike") Bool.true [] [] Bool.false (Option.none) Bool.false)) #[(Option.some (Value.ref (nat_lit 143))), (Option.none), (Option.some (vS "_ABCLike" (nat_lit 634))), (Option.some (vS "_ABCLike" (nat_lit 642))), (Option.some (Value.builtin "type.__new__")), (Option.some (Value.bool Bool.true))])
noncomputable def ob175 (P : Params) : Obj := (Obj.mk (Value.type "super") (Option.none) (Data.fields #[(Value.ref (nat_lit 173)), (Value.ref (nat_lit 173)), (Value.ref (nat_lit 173))]) #[])
noncomputable def ob176 (P : Params) : Obj := (Obj.mk (Value.type "builtin_function_or_method") (Option.none) (Data.fields #[(Value.builtin "object.__init_subclass__"), (Value.ref (nat_lit 173))]) #[])
noncomputable def ob177 (P : Params) : Obj := (Obj.mk (Value.type "tuple") (Option.none) (Data.seq #[] (nat_lit 0)) #[])
noncomputable def ob178 (P : Params) : Obj := (Obj.mk Value.none (Option.none) (Data.fields #[]) #[])
noncomputable def ob179 (P : Params) : Obj := (Obj.mk (Value.type "tuple") (Option.none) (Data.seq #[(vS "C" (nat_lit 678))] (nat_lit 0)) #[])
noncomputable def ob180 (P : Params) : Obj := (Obj.mk (Value.type "tuple") (Option.none) (Data.seq #[] (nat_lit 0)) #[])
noncomputable def ob181 (P : Params) : Obj := (Obj.mk Value.none (Option.none) (Data.func (FuncData.mk (Str.ofString "_abc_plain_meta") (Str.ofString "_abc_plain_meta") (aPar (stA 38)) (FuncBody.stmts (aBody (stA 38))) (aSco (stA 38)) (nat_lit 0) [] Value.none Value.none Value.none Value.none (Option.none) Value.none Value.none (nat_lit 0))) #[])
noncomputable def ob182 (P : Params) : Obj := (Obj.mk (Value.type "code") (Option.none) (Data.fields #[(vS "_abc_plain_meta" (nat_lit 675)), (vS "_abc_plain_meta" (nat_lit 676)), (vS "/claim/cut.py" (nat_lit 677)), (Value.int (Int.ofNat (nat_lit 146)) (nat_lit 0)), (Value.int (Int.ofNat (nat_lit 1)) (nat_lit 0)), (Value.int (Int.ofNat (nat_lit 0)) (nat_lit 0)), (Value.int (Int.ofNat (nat_lit 0)) (nat_lit 0)), (Value.int (Int.ofNat (nat_lit 3)) (nat_lit 0)), (Value.ref (nat_lit 176)), (Value.bool Bool.true), (Value.int (Int.ofNat (nat_lit 276)) (nat_lit 0)), (Value.ref (nat_lit 177)), Value.none, (Value.ref (nat_lit 178)), (Value.ref (nat_lit 179)), (Value.ref (nat_lit 180)), (Value.int (Int.ofNat (nat_lit 679)) (nat_lit 0)), (Value.int (Int.ofNat (nat_lit 146)) (nat_lit 0)), (vS "/claim/cut.py" (nat_lit 680))]) #[])
noncomputable def ob183 (P : Params) : Obj := (Obj.mk (Value.type "function") (Option.none) (Data.func (FuncData.mk (Str.ofString "_abc_plain_meta") (Str.ofString "_abc_plain_meta") (aPar (stA 38)) (FuncBody.stmts (aBody (stA 38))) (aSco (stA 38)) (nat_lit 3) [] Value.none Value.none Value.none (vS "collections.abc" (nat_lit 632)) (Option.none) (Value.ref (nat_lit 181)) Value.none (nat_lit 0))) #[])
noncomputable def ob184 (P : Params) : Obj := (Obj.mk (Value.type "tuple") (Option.none) (Data.seq #[] (nat_lit 0)) #[])
noncomputable def ob185 (P : Params) : Obj := (Obj.mk Value.none (Option.none) (Data.fields #[]) #[])
noncomputable def ob186 (P : Params) : Obj := (Obj.mk (Value.type "tuple") (Option.none) (Data.seq #[(vS "path" (nat_lit 687)), (vS "kind" (nat_lit 688)), (vS "hook" (nat_lit 689)), (vS "given" (nat_lit 690))] (nat_lit 0)) #[])
noncomputable def ob187 (P : Params) : Obj := (Obj.mk (Value.type "tuple") (Option.none) (Data.seq #[] (nat_lit 0)) #[])
noncomputable def ob188 (P : Params) : Obj := (Obj.mk Value.none (Option.none) (Data.func (FuncData.mk (Str.ofString "fspath") (Str.ofString "fspath") (aPar (stA 40)) (FuncBody.stmts (aBody (stA 40))) (aSco (stA 40)) (nat_lit 0) [] Value.none Value.none Value.none Value.none (Option.none) Value.none Value.none (nat_lit 0))) #[])
noncomputable def ob189 (P : Params) : Obj := (Obj.mk (Value.type "code") (Option.none) (Data.fields #[(vS "fspath" (nat_lit 684)), (vS "fspath" (nat_lit 685)), (vS "/claim/cut.py" (nat_lit 686)), (Value.int (Int.ofNat (nat_lit 150)) (nat_lit 0)), (Value.int (Int.ofNat (nat_lit 1)) (nat_lit 0)), (Value.int (Int.ofNat (nat_lit 0)) (nat_lit 0)), (Value.int (Int.ofNat (nat_lit 0)) (nat_lit 0)), (Value.int (Int.ofNat (nat_lit 3)) (nat_lit 0)), (Value.ref (nat_lit 183)), (Value.bool Bool.true), (Value.int (Int.ofNat (nat_lit 276)) (nat_lit 0)), (Value.ref (nat_lit 184)), Value.none, (Value.ref (nat_lit 185)), (Value.ref (nat_lit 186)), (Value.ref (nat_lit 187)), (Value.int (Int.ofNat (nat_lit 691)) (nat_lit 0)), (Value.int (Int.ofNat (nat_lit 150)) (nat_lit 0)), (vS "/claim/cut.py" (nat_lit 692))]) #[])
noncomputable def ob190 (P : Params) : Obj := (Obj.mk (Value.type "function") (Option.none) (Data.func (FuncData.mk (Str.ofString "fspath") (Str.ofString "fspath") (aPar (stA 40)) (FuncBody.stmts (aBody (stA 40))) (aSco (stA 40)) (nat_lit 3) [] Value.none Value.none Value.none (vS "os" (nat_lit 682)) (Option.none) (Value.ref (nat_lit 188)) Value.none (nat_lit 0))) #[])
noncomputable def ob191 (P : Params) : Obj := (Obj.mk (Value.type "tuple") (Option.none) (Data.seq #[] (nat_lit 0)) #[])
noncomputable def ob192 (P : Params) : Obj := (Obj.mk Value.none (Option.none) (Data.fields #[]) #[])
noncomputable def ob193 (P : Params) : Obj := (Obj.mk (Value.type "tuple") (Option.none) (Data.seq #[(vS "funcname" (nat_lit 699)), (vS "args" (nat_lit 700)), (vS "hasstr" (nat_lit 701)), (vS "hasbytes" (nat_lit 702)), (vS "s" (nat_lit 703))] (nat_lit 0)) #[])
noncomputable def ob194 (P : Params) : Obj := (Obj.mk (Value.type "tuple") (Option.none) (Data.seq #[] (nat_lit 0)) #[])
noncomputable def ob195 (P : Params) : Obj := (Obj.mk Value.none (Option.none) (Data.func (FuncData.mk (Str.ofString "_check_arg_types") (Str.ofString "_check_arg_types") (aPar (stA 42)) (FuncBody.stmts (aBody (stA 42))) (aSco (stA 42)) (nat_lit 0) [] Value.none Value.none Value.none Value.none (Option.none) Value.none Value.none (nat_lit 0))) #[])
noncomputable def ob196 (P : Params) : Obj := (Obj.mk (Value.type "code") (Option.none) (Data.fields #[(vS "_check_arg_types" (nat_lit 696)), (vS "_check_arg_types" (nat_lit 697)), (vS "/claim/cut.py" (nat_lit 698)), (Value.int (Int.ofNat (nat_lit 167)) (nat_lit 0)), (Value.int (Int.ofNat (nat_lit 1)) (nat_lit 0)), (Value.int (Int.ofNat (nat_lit 0)) (nat_lit 0)), (Value.int (Int.ofNat (nat_lit 0)) (nat_lit 0)), (Value.int (Int.ofNat (nat_lit 7)) (nat_lit 0)), (Value.ref (nat_lit 190)), (Value.bool Bool.true), (Value.int (Int.ofNat (nat_lit 276)) (nat_lit 0)), (Value.ref (nat_lit 191)), Value.none, (Value.ref (nat_lit 192)), (Value.ref (nat_lit 193)), (Value.ref (nat_lit 194)), (Value.int (Int.ofNat (nat_lit 704)) (nat_lit 0)), (Value.int (Int.ofNat (nat_lit 167)) (nat_lit 0)), (vS "/claim/cut.py" (nat_lit 705))]) #[])
noncomputable def ob197 (P : Params) : Obj := (Obj.mk (Value.type "function") (Option.none) (Data.func (FuncData.mk (Str.ofString "_check_arg_types") (Str.ofString "_check_arg_types") (aPar (stA 42)) (FuncBody.stmts (aBody (stA 42))) (aSco (stA 42)) (nat_lit 3) [] Value.none Value.none Value.none (vS "cpy313.genericpath" (nat_lit 694)) (Option.none) (Value.ref (nat_lit 195)) Value.none (nat_lit 0))) #[])
noncomputable def ob198 (P : Params) : Obj := (Obj.mk (Value.type "tuple") (Option.none) (Data.seq #[] (nat_lit 0)) #[])
noncomputable def ob199 (P : Params) : Obj := (Obj.mk Value.none (Option.none) (Data.fields #[]) #[])
noncomputable def ob200 (P : Params) : Obj := (Obj.mk (Value.type "tuple") (Option.none) (Data.seq #[(vS "path" (nat_lit 712))] (nat_lit 0)) #[])
noncomputable def ob201 (P : Params) : Obj := (Obj.mk (Value.type "tuple") (Option.none) (Data.seq #[] (nat_lit 0)) #[])
noncomputable def ob202 (P : Params) : Obj := (Obj.mk Value.none (Option.none) (Data.func (FuncData.mk (Str.ofString "_get_sep") (Str.ofString "_get_sep") (aPar (stA 44)) (FuncBody.stmts (aBody (stA 44))) (aSco (stA 44)) (nat_lit 0) [] Value.none Value.none Value.none Value.none (Option.none) Value.none Value.none (nat_lit 0))) #[])
noncomputable def ob203 (P : Params) : Obj := (Obj.mk (Value.type "code") (Option.none) (Data.fields #[(vS "_get_sep" (nat_lit 709)), (vS "_get_sep" (nat_lit 710)), (vS "/claim/cut.py" (nat_lit 711)), (Value.int (Int.ofNat (nat_lit 179)) (nat_lit 0)), (Value.int (Int.ofNat (nat_lit 1)) (nat_lit 0)), (Value.int (Int.ofNat (nat_lit 0)) (nat_lit 0)), (Value.int (Int.ofNat (nat_lit 0)) (nat_lit 0)), (Value.int (Int.ofNat (nat_lit 3)) (nat_lit 0)), (Value.ref (nat_lit 197)), (Value.bool Bool.true), (Value.int (Int.ofNat (nat_lit 276)) (nat_lit 0)), (Value.ref (nat_lit 198)), Value.none, (Value.ref (nat_lit 199)), (Value.ref (nat_lit 200)), (Value.ref (nat_lit 201)), (Value.int (Int.ofNat (nat_lit 713)) (nat_lit 0)), (Value.int (Int.ofNat (nat_lit 179)) (nat_lit 0)), (vS "/claim/cut.py" (nat_lit 714))]) #[])
noncomputable def ob204 (P : Params) : Obj := (Obj.mk (Value.type "function") (Option.none) (Data.func (FuncData.mk (Str.ofString "_get_sep") (Str.ofString "_get_sep") (aPar (stA 44)) (FuncBody.stmts (aBody (stA 44))) (aSco (stA 44)) (nat_lit 3) [] Value.none Value.none Value.none (vS "cpy313.posixpath" (nat_lit 707)) (Option.none) (Value.ref (nat_lit 202)) Value.none (nat_lit 0))) #[])
noncomputable def ob205 (P : Params) : Obj := (Obj.mk (Value.type "tuple") (Option.none) (Data.seq #[] (nat_lit 0)) #[])
noncomputable def ob206 (P : Params) : Obj := (Obj.mk Value.none (Option.none) (Data.fields #[]) #[])
noncomputable def ob207 (P : Params) : Obj := (Obj.mk (Value.type "tuple") (Option.none) (Data.seq #[(vS "a" (nat_lit 719)), (vS "p" (nat_lit 720)), (vS "sep" (nat_lit 721)), (vS "path" (nat_lit 722)), (vS "b" (nat_lit 723))] (nat_lit 0)) #[])
noncomputable def ob208 (P : Params) : Obj := (Obj.mk (Value.type "tuple") (Option.none) (Data.seq #[] (nat_lit 0)) #[])
noncomputable def ob209 (P : Params) : Obj := (Obj.mk Value.none (Option.none) (Data.func (FuncData.mk (Str.ofString "join") (Str.ofString "join") (aPar (stA 45)) (FuncBody.stmts (aBody (stA 45))) (aSco (stA 45)) (nat_lit 0) [] Value.none Value.none Value.none Value.none (Option.none) Value.none Value.none (nat_lit 0))) #[])
noncomputable def ob210 (P : Params) : Obj := (Obj.mk (Value.type "code") (Option.none) (Data.fields #[(vS "join" (nat_lit 716)), (vS "join" (nat_lit 717)), (vS "/claim/cut.py" (nat_lit 718)), (Value.int (Int.ofNat (nat_lit 184)) (nat_lit 0)), (Value.int (Int.ofNat (nat_lit 1)) (nat_lit 0)), (Value.int (Int.ofNat (nat_lit 0)) (nat_lit 0)), (Value.int (Int.ofNat (nat_lit 0)) (nat_lit 0)), (Value.int (Int.ofNat (nat_lit 7)) (nat_lit 0)), (Value.ref (nat_lit 204)), (Value.bool Bool.true), (Value.int (Int.ofNat (nat_lit 276)) (nat_lit 0)), (Value.ref (nat_lit 205)), Value.none, (Value.ref (nat_lit 206)), (Value.ref (nat_lit 207)), (Value.ref (nat_lit 208)), (Value.int (Int.ofNat (nat_lit 724)) (nat_lit 0)), (Value.int (Int.ofNat (nat_lit 184)) (nat_lit 0)), (vS "/claim/cut.py" (nat_lit 725))]) #[])
noncomputable def ob211 (P : Params) : Obj := (Obj.mk (Value.type "function") (Option.none) (Data.func (FuncData.mk (Str.ofString "join") (Str.ofString "join") (aPar (stA 45)) (FuncBody.stmts (aBody (stA 45))) (aSco (stA 45)) (nat_lit 3) [] Value.none Value.none Value.none (vS "cpy313.posixpath" (nat_lit 707)) (Option.none) (Value.ref (nat_lit 209)) Value.none (nat_lit 0))) #[])
noncomputable def ob212 (P : Params) : Obj := (Obj.mk (Value.type "tuple") (Option.none) (Data.seq #[] (nat_lit 0)) #[])
noncomputable def ob213 (P : Params) : Obj := (Obj.mk Value.none (Option.none) (Data.fields #[]) #[])
noncomputable def ob214 (P : Params) : Obj := (Obj.mk (Value.type "tuple") (Option.none) (Data.seq #[(vS "p" (nat_lit 730)), (vS "sep" (nat_lit 731)), (vS "i" (nat_lit 732)), (vS "head" (nat_lit 733)), (vS "tail" (nat_lit 734))] (nat_lit 0)) #[])
noncomputable def ob215 (P : Params) : Obj := (Obj.mk (Value.type "tuple") (Option.none) (Data.seq #[] (nat_lit 0)) #[])
noncomputable def ob216 (P : Params) : Obj := (Obj.mk Value.none (Option.none) (Data.func (FuncData.mk (Str.ofString "split") (Str.ofString "split") (aPar (stA 46)) (FuncBody.stmts (aBody (stA 46))) (aSco (stA 46)) (nat_lit 0) [] Value.none Value.none Value.none Value.none (Option.none) Value.none Value.none (nat_lit 0))) #[])
noncomputable def ob217 (P : Params) : Obj := (Obj.mk (Value.type "code") (Option.none) (Data.fields #[(vS "split" (nat_lit 727)), (vS "split" (nat_lit 728)), (vS "/claim/cut.py" (nat_lit 729)), (Value.int (Int.ofNat (nat_lit 201)) (nat_lit 0)), (Value.int (Int.ofNat (nat_lit 1)) (nat_lit 0)), (Value.int (Int.ofNat (nat_lit 0)) (nat_lit 0)), (Value.int (Int.ofNat (nat_lit 0)) (nat_lit 0)), (Value.int (Int.ofNat (nat_lit 3)) (nat_lit 0)), (Value.ref (nat_lit 211)), (Value.bool Bool.true), (Value.int (Int.ofNat (nat_lit 276)) (nat_lit 0)), (Value.ref (nat_lit 212)), Value.none, (Value.ref (nat_lit 213)), (Value.ref (nat_lit 214)), (Value.ref (nat_lit 215)), (Value.int (Int.ofNat (nat_lit 735)) (nat_lit 0)), (Value.int (Int.ofNat (nat_lit 201)) (nat_lit 0)), (vS "/claim/cut.py" (nat_lit 736))]) #[])
noncomputable def ob218 (P : Params) : Obj := (Obj.mk (Value.type "function") (Option.none) (Data.func (FuncData.mk (Str.ofString "split") (Str.ofString "split") (aPar (stA 46)) (FuncBody.stmts (aBody (stA 46))) (aSco (stA 46)) (nat_lit 3) [] Value.none Value.none Value.none (vS "cpy313.posixpath" (nat_lit 707)) (Option.none) (Value.ref (nat_lit 216)) Value.none (nat_lit 0))) #[])
noncomputable def ob219 (P : Params) : Obj := (Obj.mk (Value.type "tuple") (Option.none) (Data.seq #[] (nat_lit 0)) #[])
noncomputable def ob220 (P : Params) : Obj := (Obj.mk Value.none (Option.none) (Data.fields #[]) #[])
noncomputable def ob221 (P : Params) : Obj := (Obj.mk (Value.type "tuple") (Option.none) (Data.seq #[(vS "p" (nat_lit 741)), (vS "sep" (nat_lit 742)), (vS "empty" (nat_lit 743))] (nat_lit 0)) #[])
noncomputable def ob222 (P : Params) : Obj := (Obj.mk (Value.type "tuple") (Option.none) (Data.seq #[] (nat_lit 0)) #[])
noncomputable def ob223 (P : Params) : Obj := (Obj.mk Value.none (Option.none) (Data.func (FuncData.mk (Str.ofString "splitroot") (Str.ofString "splitroot") (aPar (stA 47)) (FuncBody.stmts (aBody (stA 47))) (aSco (stA 47)) (nat_lit 0) [] Value.none Value.none Value.none Value.none (Option.none) Value.none Value.none (nat_lit 0))) #[])
noncomputable def ob224 (P : Params) : Obj := (Obj.mk (Value.type "code") (Option.none) (Data.fields #[(vS "splitroot" (nat_lit 738)), (vS "splitroot" (nat_lit 739)), (vS "/claim/cut.py" (nat_lit 740)), (Value.int (Int.ofNat (nat_lit 209)) (nat_lit 0)), (Value.int (Int.ofNat (nat_lit 1)) (nat_lit 0)), (Value.int (Int.ofNat (nat_lit 0)) (nat_lit 0)), (Value.int (Int.ofNat (nat_lit 0)) (nat_lit 0)), (Value.int (Int.ofNat (nat_lit 3)) (nat_lit 0)), (Value.ref (nat_lit 218)), (Value.bool Bool.true), (Value.int (Int.ofNat (nat_lit 276)) (nat_lit 0)), (Value.ref (nat_lit 219)), Value.none, (Value.ref (nat_lit 220)), (Value.ref (nat_lit 221)), (Value.ref (nat_lit 222)), (Value.int (Int.ofNat (nat_lit 744)) (nat_lit 0)), (Value.int (Int.ofNat (nat_lit 209)) (nat_lit 0)), (vS "/claim/cut.py" (nat_lit 745))]) #[])
noncomputable def ob225 (P : Params) : Obj := (Obj.mk (Value.type "function") (Option.none) (Data.func (FuncData.mk (Str.ofString "splitroot") (Str.ofString "splitroot") (aPar (stA 47)) (FuncBody.stmts (aBody (stA 47))) (aSco (stA 47)) (nat_lit 3) [] Value.none Value.none Value.none (vS "cpy313.posixpath" (nat_lit 707)) (Option.none) (Value.ref (nat_lit 223)) Value.none (nat_lit 0))) #[])
noncomputable def ob226 (P : Params) : Obj := (Obj.mk (Value.type "tuple") (Option.none) (Data.seq #[] (nat_lit 0)) #[])
noncomputable def ob227 (P : Params) : Obj := (Obj.mk Value.none (Option.none) (Data.fields #[]) #[])
noncomputable def ob228 (P : Params) : Obj := (Obj.mk (Value.type "tuple") (Option.none) (Data.seq #[(vS "p" (nat_lit 750)), (vS "sep" (nat_lit 751)), (vS "i" (nat_lit 752))] (nat_lit 0)) #[])
noncomputable def ob229 (P : Params) : Obj := (Obj.mk (Value.type "tuple") (Option.none) (Data.seq #[] (nat_lit 0)) #[])
noncomputable def ob230 (P : Params) : Obj := (Obj.mk Value.none (Option.none) (Data.func (FuncData.mk (Str.ofString "basename") (Str.ofString "basename") (aPar (stA 48)) (FuncBody.stmts (aBody (stA 48))) (aSco (stA 48)) (nat_lit 0) [] Value.none Value.none Value.none Value.none (Option.none) Value.none Value.none (nat_lit 0))) #[])
noncomputable def ob231 (P : Params) : Obj := (Obj.mk (Value.type "code") (Option.none) (Data.fields #[(vS "basename" (nat_lit 747)), (vS "basename" (nat_lit 748)), (vS "/claim/cut.py" (nat_lit 749)), (Value.int (Int.ofNat (nat_lit 223)) (nat_lit 0)), (Value.int (Int.ofNat (nat_lit 1)) (nat_lit 0)), (Value.int (Int.ofNat (nat_lit 0)) (nat_lit 0)), (Value.int (Int.ofNat (nat_lit 0)) (nat_lit 0)), (Value.int (Int.ofNat (nat_lit 3)) (nat_lit 0)), (Value.ref (nat_lit 225)), (Value.bool Bool.true), (Value.int (Int.ofNat (nat_lit 276)) (nat_lit 0)), (Value.ref (nat_lit 226)), Value.none, (Value.ref (nat_lit 227)), (Value.ref (nat_lit 228)), (Value.ref (nat_lit 229)), (Value.int (Int.ofNat (nat_lit 753)) (nat_lit 0)), (Value.int (Int.ofNat (nat_lit 223)) (nat_lit 0)), (vS "/claim/cut.py" (nat_lit 754))]) #[])
noncomputable def ob232 (P : Params) : Obj := (Obj.mk (Value.type "function") (Option.none) (Data.func (FuncData.mk (Str.ofString "basename") (Str.ofString "basename") (aPar (stA 48)) (FuncBody.stmts (aBody (stA 48))) (aSco (stA 48)) (nat_lit 3) [] Value.none Value.none Value.none (vS "cpy313.posixpath" (nat_lit 707)) (Option.none) (Value.ref (nat_lit 230)) Value.none (nat_lit 0))) #[])
noncomputable def ob233 (P : Params) : Obj := (Obj.mk (Value.type "tuple") (Option.none) (Data.seq #[] (nat_lit 0)) #[])
noncomputable def ob234 (P : Params) : Obj := (Obj.mk Value.none (Option.none) (Data.fields #[]) #[])
noncomputable def ob235 (P : Params) : Obj := (Obj.mk (Value.type "tuple") (Option.none) (Data.seq #[(vS "p" (nat_lit 759)), (vS "sep" (nat_lit 760)), (vS "i" (nat_lit 761)), (vS "head" (nat_lit 762))] (nat_lit 0)) #[])
noncomputable def ob236 (P : Params) : Obj := (Obj.mk (Value.type "tuple") (Option.none) (Data.seq #[] (nat_lit 0)) #[])
noncomputable def ob237 (P : Params) : Obj := (Obj.mk Value.none (Option.none) (Data.func (FuncData.mk (Str.ofString "dirname") (Str.ofString "dirname") (aPar (stA 49)) (FuncBody.stmts (aBody (stA 49))) (aSco (stA 49)) (nat_lit 0) [] Value.none Value.none Value.none Value.none (Option.none) Value.none Value.none (nat_lit 0))) #[])
noncomputable def ob238 (P : Params) : Obj := (Obj.mk (Value.type "code") (Option.none) (Data.fields #[(vS "dirname" (nat_lit 756)), (vS "dirname" (nat_lit 757)), (vS "/claim/cut.py" (nat_lit 758)), (Value.int (Int.ofNat (nat_lit 228)) (nat_lit 0)), (Value.int (Int.ofNat (nat_lit 1)) (nat_lit 0)), (Value.int (Int.ofNat (nat_lit 0)) (nat_lit 0)), (Value.int (Int.ofNat (nat_lit 0)) (nat_lit 0)), (Value.int (Int.ofNat (nat_lit 3)) (nat_lit 0)), (Value.ref (nat_lit 232)), (Value.bool Bool.true), (Value.int (Int.ofNat (nat_lit 276)) (nat_lit 0)), (Value.ref (nat_lit 233)), Value.none, (Value.ref (nat_lit 234)), (Value.ref (nat_lit 235)), (Value.ref (nat_lit 236)), (Value.int (Int.ofNat (nat_lit 763)) (nat_lit 0)), (Value.int (Int.ofNat (nat_lit 228)) (nat_lit 0)), (vS "/claim/cut.py" (nat_lit 764))]) #[])
noncomputable def ob239 (P : Params) : Obj := (Obj.mk (Value.type "function") (Option.none) (Data.func (FuncData.mk (Str.ofString "dirname") (Str.ofString "dirname") (aPar (stA 49)) (FuncBody.stmts (aBody (stA 49))) (aSco (stA 49)) (nat_lit 3) [] Value.none Value.none Value.none (vS "cpy313.posixpath" (nat_lit 707)) (Option.none) (Value.ref (nat_lit 237)) Value.none (nat_lit 0))) #[])
noncomputable def ob240 (P : Params) : Obj := (Obj.mk (Value.type "tuple") (Option.none) (Data.seq #[] (nat_lit 0)) #[])
noncomputable def ob241 (P : Params) : Obj := (Obj.mk Value.none (Option.none) (Data.fields #[]) #[])
noncomputable def ob242 (P : Params) : Obj := (Obj.mk (Value.type "tuple") (Option.none) (Data.seq #[(vS "path" (nat_lit 769)), (vS "sep" (nat_lit 770)), (vS "dot" (nat_lit 771)), (vS "dotdot" (nat_lit 772)), (vS "_" (nat_lit 773)), (vS "initial_slashes" (nat_lit 774)), (vS "comps" (nat_lit 775)), (vS "new_comps" (nat_lit 776)), (vS "comp" (nat_lit 777))] (nat_lit 0)) #[])
noncomputable def ob243 (P : Params) : Obj := (Obj.mk (Value.type "tuple") (Option.none) (Data.seq #[] (nat_lit 0)) #[])
noncomputable def ob244 (P : Params) : Obj := (Obj.mk Value.none (Option.none) (Data.func (FuncData.mk (Str.ofString "normpath") (Str.ofString "normpath") (aPar (stA 50)) (FuncBody.stmts (aBody (stA 50))) (aSco (stA 50)) (nat_lit 0) [] Value.none Value.none Value.none Value.none (Option.none) Value.none Value.none (nat_lit 0))) #[])
noncomputable def ob245 (P : Params) : Obj := (Obj.mk (Value.type "code") (Option.none) (Data.fields #[(vS "normpath" (nat_lit 766)), (vS "normpath" (nat_lit 767)), (vS "/claim/cut.py" (nat_lit 768)), (Value.int (Int.ofNat (nat_lit 236)) (nat_lit 0)), (Value.int (Int.ofNat (nat_lit 1)) (nat_lit 0)), (Value.int (Int.ofNat (nat_lit 0)) (nat_lit 0)), (Value.int (Int.ofNat (nat_lit 0)) (nat_lit 0)), (Value.int (Int.ofNat (nat_lit 3)) (nat_lit 0)), (Value.ref (nat_lit 239)), (Value.bool Bool.true), (Value.int (Int.ofNat (nat_lit 276)) (nat_lit 0)), (Value.ref (nat_lit 240)), Value.none, (Value.ref (nat_lit 241)), (Value.ref (nat_lit 242)), (Value.ref (nat_lit 243)), (Value.int (Int.ofNat (nat_lit 778)) (nat_lit 0)), (Value.int (Int.ofNat (nat_lit 236)) (nat_lit 0)), (vS "/claim/cut.py" (nat_lit 779))]) #[])
noncomputable def ob246 (P : Params) : Obj := (Obj.mk (Value.type "function") (Option.none) (Data.func (FuncData.mk (Str.ofString "normpath") (Str.ofString "normpath") (aPar (stA 50)) (FuncBody.stmts (aBody (stA 50))) (aSco (stA 50)) (nat_lit 3) [] Value.none Value.none Value.none (vS "cpy313.posixpath" (nat_lit 707)) (Option.none) (Value.ref (nat_lit 244)) Value.none (nat_lit 0))) #[])
noncomputable def ob247 (P : Params) : Obj := (Obj.mk (Value.type "tuple") (Option.none) (Data.seq #[] (nat_lit 0)) #[])
noncomputable def ob248 (P : Params) : Obj := (Obj.mk Value.none (Option.none) (Data.fields #[]) #[])
noncomputable def ob249 (P : Params) : Obj := (Obj.mk Value.none (Option.none) (Data.func (FuncData.mk (Str.ofString "_law_numbers") (Str.ofString "_law_numbers") (aPar (stA 52)) (FuncBody.stmts (aBody (stA 52))) (aSco (stA 52)) (nat_lit 0) [] Value.none Value.none Value.none Value.none (Option.none) Value.none Value.none (nat_lit 0))) #[])
noncomputable def ob250 (P : Params) : Obj := (Obj.mk (Value.type "code") (Option.none) (Data.fields #[(vS "_law_numbers" (nat_lit 783)), (vS "_law_numbers" (nat_lit 784)), (vS "/claim/cut.py" (nat_lit 785)), (Value.int (Int.ofNat (nat_lit 262)) (nat_lit 0)), (Value.int (Int.ofNat (nat_lit 1)) (nat_lit 0)), (Value.int (Int.ofNat (nat_lit 0)) (nat_lit 0)), (Value.int (Int.ofNat (nat_lit 0)) (nat_lit 0)), (Value.int (Int.ofNat (nat_lit 3)) (nat_lit 0)), (Value.ref (nat_lit 246)), (Value.bool Bool.true), (Value.int (Int.ofNat (nat_lit 276)) (nat_lit 0)), (Value.ref (nat_lit 247)), Value.none, Value.none, Value.none, (Value.ref (nat_lit 248)), (Value.int (Int.ofNat (nat_lit 786)) (nat_lit 0)), (Value.int (Int.ofNat (nat_lit 262)) (nat_lit 0)), (vS "/claim/cut.py" (nat_lit 787))]) #[])
noncomputable def ob251 (P : Params) : Obj := (Obj.mk (Value.type "function") (Option.none) (Data.func (FuncData.mk (Str.ofString "_law_numbers") (Str.ofString "_law_numbers") (aPar (stA 52)) (FuncBody.stmts (aBody (stA 52))) (aSco (stA 52)) (nat_lit 3) [] Value.none Value.none Value.none (vS "law_in0238_01" (nat_lit 781)) (Option.none) (Value.ref (nat_lit 249)) Value.none (nat_lit 0))) #[])
noncomputable def ob252 (P : Params) : Obj := (Obj.mk (Value.type "tuple") (Option.none) (Data.seq #[] (nat_lit 0)) #[])
noncomputable def ob253 (P : Params) : Obj := (Obj.mk Value.none (Option.none) (Data.fields #[]) #[])
noncomputable def ob254 (P : Params) : Obj := (Obj.mk (Value.type "tuple") (Option.none) (Data.seq #[(vS "numbers" (nat_lit 792)), (vS "modes" (nat_lit 793)), (vS "number" (nat_lit 794)), (vS "kind" (nat_lit 795))] (nat_lit 0)) #[])
noncomputable def ob255 (P : Params) : Obj := (Obj.mk (Value.type "tuple") (Option.none) (Data.seq #[] (nat_lit 0)) #[])
noncomputable def ob256 (P : Params) : Obj := (Obj.mk Value.none (Option.none) (Data.func (FuncData.mk (Str.ofString "_law_modes") (Str.ofString "_law_modes") (aPar (stA 53)) (FuncBody.stmts (aBody (stA 53))) (aSco (stA 53)) (nat_lit 0) [] Value.none Value.none Value.none Value.none (Option.none) Value.none Value.none (nat_lit 0))) #[])
noncomputable def ob257 (P : Params) : Obj := (Obj.mk (Value.type "code") (Option.none) (Data.fields #[(vS "_law_modes" (nat_lit 789)), (vS "_law_modes" (nat_lit 790)), (vS "/claim/cut.py" (nat_lit 791)), (Value.int (Int.ofNat (nat_lit 266)) (nat_lit 0)), (Value.int (Int.ofNat (nat_lit 1)) (nat_lit 0)), (Value.int (Int.ofNat (nat_lit 0)) (nat_lit 0)), (Value.int (Int.ofNat (nat_lit 0)) (nat_lit 0)), (Value.int (Int.ofNat (nat_lit 3)) (nat_lit 0)), (Value.ref (nat_lit 251)), (Value.bool Bool.true), (Value.int (Int.ofNat (nat_lit 276)) (nat_lit 0)), (Value.ref (nat_lit 252)), Value.none, (Value.ref (nat_lit 253)), (Value.ref (nat_lit 254)), (Value.ref (nat_lit 255)), (Value.int (Int.ofNat (nat_lit 796)) (nat_lit 0)), (Value.int (Int.ofNat (nat_lit 266)) (nat_lit 0)), (vS "/claim/cut.py" (nat_lit 797))]) #[])
noncomputable def ob258 (P : Params) : Obj := (Obj.mk (Value.type "function") (Option.none) (Data.func (FuncData.mk (Str.ofString "_law_modes") (Str.ofString "_law_modes") (aPar (stA 53)) (FuncBody.stmts (aBody (stA 53))) (aSco (stA 53)) (nat_lit 3) [] Value.none Value.none Value.none (vS "law_in0238_01" (nat_lit 781)) (Option.none) (Value.ref (nat_lit 256)) Value.none (nat_lit 0))) #[])
noncomputable def ob259 (P : Params) : Obj := (Obj.mk (Value.type "tuple") (Option.none) (Data.seq #[] (nat_lit 0)) #[])
noncomputable def ob260 (P : Params) : Obj := (Obj.mk Value.none (Option.none) (Data.fields #[]) #[])
noncomputable def ob261 (P : Params) : Obj := (Obj.mk Value.none (Option.none) (Data.func (FuncData.mk (Str.ofString "_law_parts") (Str.ofString "_law_parts") (aPar (stA 54)) (FuncBody.stmts (aBody (stA 54))) (aSco (stA 54)) (nat_lit 0) [] Value.none Value.none Value.none Value.none (Option.none) Value.none Value.none (nat_lit 0))) #[])
noncomputable def ob262 (P : Params) : Obj := (Obj.mk (Value.type "code") (Option.none) (Data.fields #[(vS "_law_parts" (nat_lit 799)), (vS "_law_parts" (nat_lit 800)), (vS "/claim/cut.py" (nat_lit 801)), (Value.int (Int.ofNat (nat_lit 272)) (nat_lit 0)), (Value.int (Int.ofNat (nat_lit 1)) (nat_lit 0)), (Value.int (Int.ofNat (nat_lit 0)) (nat_lit 0)), (Value.int (Int.ofNat (nat_lit 0)) (nat_lit 0)), (Value.int (Int.ofNat (nat_lit 3)) (nat_lit 0)), (Value.ref (nat_lit 258)), (Value.bool Bool.true), (Value.int (Int.ofNat (nat_lit 276)) (nat_lit 0)), (Value.ref (nat_lit 259)), Value.none, Value.none, Value.none, (Value.ref (nat_lit 260)), (Value.int (Int.ofNat (nat_lit 802)) (nat_lit 0)), (Value.int (Int.ofNat (nat_lit 272)) (nat_lit 0)), (vS "/claim/cut.py" (nat_lit 803))]) #[])
noncomputable def ob263 (P : Params) : Obj := (Obj.mk (Value.type "function") (Option.none) (Data.func (FuncData.mk (Str.ofString "_law_parts") (Str.ofString "_law_parts") (aPar (stA 54)) (FuncBody.stmts (aBody (stA 54))) (aSco (stA 54)) (nat_lit 3) [] Value.none Value.none Value.none (vS "law_in0238_01" (nat_lit 781)) (Option.none) (Value.ref (nat_lit 261)) Value.none (nat_lit 0))) #[])
noncomputable def ob264 (P : Params) : Obj := (Obj.mk (Value.type "tuple") (Option.none) (Data.seq #[] (nat_lit 0)) #[])
noncomputable def ob265 (P : Params) : Obj := (Obj.mk Value.none (Option.none) (Data.fields #[]) #[])
noncomputable def ob266 (P : Params) : Obj := (Obj.mk (Value.type "tuple") (Option.none) (Data.seq #[(vS "modes" (nat_lit 808)), (vS "paths" (nat_lit 809)), (vS "world" (nat_lit 810)), (vS "n" (nat_lit 811))] (nat_lit 0)) #[])
noncomputable def ob267 (P : Params) : Obj := (Obj.mk (Value.type "tuple") (Option.none) (Data.seq #[] (nat_lit 0)) #[])
noncomputable def ob268 (P : Params) : Obj := (Obj.mk Value.none (Option.none) (Data.func (FuncData.mk (Str.ofString "_law_world") (Str.ofString "_law_world") (aPar (stA 55)) (FuncBody.stmts (aBody (stA 55))) (aSco (stA 55)) (nat_lit 0) [] Value.none Value.none Value.none Value.none (Option.none) Value.none Value.none (nat_lit 0))) #[])
noncomputable def ob269 (P : Params) : Obj := (Obj.mk (Value.type "code") (Option.none) (Data.fields #[(vS "_law_world" (nat_lit 805)), (vS "_law_world" (nat_lit 806)), (vS "/claim/cut.py" (nat_lit 807)), (Value.int (Int.ofNat (nat_lit 275)) (nat_lit 0)), (Value.int (Int.ofNat (nat_lit 1)) (nat_lit 0)), (Value.int (Int.ofNat (nat_lit 0)) (nat_lit 0)), (Value.int (Int.ofNat (nat_lit 0)) (nat_lit 0)), (Value.int (Int.ofNat (nat_lit 3)) (nat_lit 0)), (Value.ref (nat_lit 263)), (Value.bool Bool.true), (Value.int (Int.ofNat (nat_lit 276)) (nat_lit 0)), (Value.ref (nat_lit 264)), Value.none, (Value.ref (nat_lit 265)), (Value.ref (nat_lit 266)), (Value.ref (nat_lit 267)), (Value.int (Int.ofNat (nat_lit 812)) (nat_lit 0)), (Value.int (Int.ofNat (nat_lit 275)) (nat_lit 0)), (vS "/claim/cut.py" (nat_lit 813))]) #[])
noncomputable def ob270 (P : Params) : Obj := (Obj.mk (Value.type "function") (Option.none) (Data.func (FuncData.mk (Str.ofString "_law_world") (Str.ofString "_law_world") (aPar (stA 55)) (FuncBody.stmts (aBody (stA 55))) (aSco (stA 55)) (nat_lit 3) [] Value.none Value.none Value.none (vS "law_in0238_01" (nat_lit 781)) (Option.none) (Value.ref (nat_lit 268)) Value.none (nat_lit 0))) #[])
noncomputable def ob271 (P : Params) : Obj := (Obj.mk (Value.type "tuple") (Option.none) (Data.seq #[] (nat_lit 0)) #[])
noncomputable def ob272 (P : Params) : Obj := (Obj.mk Value.none (Option.none) (Data.fields #[]) #[])
noncomputable def ob273 (P : Params) : Obj := (Obj.mk (Value.type "tuple") (Option.none) (Data.seq #[(vS "part" (nat_lit 818)), (vS "sign" (nat_lit 819)), (vS "barred" (nat_lit 820)), (vS "k" (nat_lit 821)), (vS "met" (nat_lit 822)), (vS "low" (nat_lit 823)), (vS "high" (nat_lit 824))] (nat_lit 0)) #[])
noncomputable def ob274 (P : Params) : Obj := (Obj.mk (Value.type "tuple") (Option.none) (Data.seq #[] (nat_lit 0)) #[])
noncomputable def ob275 (P : Params) : Obj := (Obj.mk Value.none (Option.none) (Data.func (FuncData.mk (Str.ofString "_law_fits") (Str.ofString "_law_fits") (aPar (stA 56)) (FuncBody.stmts (aBody (stA 56))) (aSco (stA 56)) (nat_lit 0) [] Value.none Value.none Value.none Value.none (Option.none) Value.none Value.none (nat_lit 0))) #[])
noncomputable def ob276 (P : Params) : Obj := (Obj.mk (Value.type "code") (Option.none) (Data.fields #[(vS "_law_fits" (nat_lit 815)), (vS "_law_fits" (nat_lit 816)), (vS "/claim/cut.py" (nat_lit 817)), (Value.int (Int.ofNat (nat_lit 282)) (nat_lit 0)), (Value.int (Int.ofNat (nat_lit 2)) (nat_lit 0)), (Value.int (Int.ofNat (nat_lit 0)) (nat_lit 0)), (Value.int (Int.ofNat (nat_lit 0)) (nat_lit 0)), (Value.int (Int.ofNat (nat_lit 3)) (nat_lit 0)), (Value.ref (nat_lit 270)), (Value.bool Bool.true), (Value.int (Int.ofNat (nat_lit 276)) (nat_lit 0)), (Value.ref (nat_lit 271)), Value.none, (Value.ref (nat_lit 272)), (Value.ref (nat_lit 273)), (Value.ref (nat_lit 274)), (Value.int (Int.ofNat (nat_lit 825)) (nat_lit 0)), (Value.int (Int.ofNat (nat_lit 282)) (nat_lit 0)), (vS "/claim/cut.py" (nat_lit 826))]) #[])
noncomputable def ob277 (P : Params) : Obj := (Obj.mk (Value.type "function") (Option.none) (Data.func (FuncData.mk (Str.ofString "_law_fits") (Str.ofString "_law_fits") (aPar (stA 56)) (FuncBody.stmts (aBody (stA 56))) (aSco (stA 56)) (nat_lit 3) [] Value.none Value.none Value.none (vS "law_in0238_01" (nat_lit 781)) (Option.none) (Value.ref (nat_lit 275)) Value.none (nat_lit 0))) #[])
noncomputable def ob278 (P : Params) : Obj := (Obj.mk (Value.type "tuple") (Option.none) (Data.seq #[] (nat_lit 0)) #[])
noncomputable def ob279 (P : Params) : Obj := (Obj.mk Value.none (Option.none) (Data.fields #[]) #[])
noncomputable def ob280 (P : Params) : Obj := (Obj.mk Value.none (Option.none) (Data.func (FuncData.mk (Str.ofString "_law_takes") (Str.ofString "_law_takes") (aPar (stA 57)) (FuncBody.stmts (aBody (stA 57))) (aSco (stA 57)) (nat_lit 0) [] Value.none Value.none Value.none Value.none (Option.none) Value.none Value.none (nat_lit 0))) #[])
noncomputable def ob281 (P : Params) : Obj := (Obj.mk (Value.type "code") (Option.none) (Data.fields #[(vS "_law_takes" (nat_lit 828)), (vS "_law_takes" (nat_lit 829)), (vS "/claim/cut.py" (nat_lit 830)), (Value.int (Int.ofNat (nat_lit 305)) (nat_lit 0)), (Value.int (Int.ofNat (nat_lit 2)) (nat_lit 0)), (Value.int (Int.ofNat (nat_lit 0)) (nat_lit 0)), (Value.int (Int.ofNat (nat_lit 0)) (nat_lit 0)), (Value.int (Int.ofNat (nat_lit 3)) (nat_lit 0)), (Value.ref (nat_lit 277)), (Value.bool Bool.true), (Value.int (Int.ofNat (nat_lit 276)) (nat_lit 0)), (Value.ref (nat_lit 278)), Value.none, Value.none, Value.none, (Value.ref (nat_lit 279)), (Value.int (Int.ofNat (nat_lit 831)) (nat_lit 0)), (Value.int (Int.ofNat (nat_lit 305)) (nat_lit 0)), (vS "/claim/cut.py" (nat_lit 832))]) #[])
noncomputable def ob282 (P : Params) : Obj := (Obj.mk (Value.type "function") (Option.none) (Data.func (FuncData.mk (Str.ofString "_law_takes") (Str.ofString "_law_takes") (aPar (stA 57)) (FuncBody.stmts (aBody (stA 57))) (aSco (stA 57)) (nat_lit 3) [] Value.none Value.none Value.none (vS "law_in0238_01" (nat_lit 781)) (Option.none) (Value.ref (nat_lit 280)) Value.none (nat_lit 0))) #[])
noncomputable def ob283 (P : Params) : Obj := (Obj.mk (Value.type "tuple") (Option.none) (Data.seq #[] (nat_lit 0)) #[])
noncomputable def ob284 (P : Params) : Obj := (Obj.mk Value.none (Option.none) (Data.fields #[]) #[])
noncomputable def ob285 (P : Params) : Obj := (Obj.mk (Value.type "tuple") (Option.none) (Data.seq #[(vS "world" (nat_lit 837)), (vS "signs" (nat_lit 838)), (vS "path" (nat_lit 839)), (vS "who" (nat_lit 840)), (vS "tails" (nat_lit 841)), (vS "tail" (nat_lit 842)), (vS "found" (nat_lit 843)), (vS "plain" (nat_lit 844)), (vS "parts" (nat_lit 845)), (vS "further" (nat_lit 846)), (vS "folder" (nat_lit 847)), (vS "place" (nat_lit 848))] (nat_lit 0)) #[])
noncomputable def ob286 (P : Params) : Obj := (Obj.mk (Value.type "tuple") (Option.none) (Data.seq #[] (nat_lit 0)) #[])
noncomputable def ob287 (P : Params) : Obj := (Obj.mk Value.none (Option.none) (Data.func (FuncData.mk (Str.ofString "_law_found") (Str.ofString "_law_found") (aPar (stA 58)) (FuncBody.stmts (aBody (stA 58))) (aSco (stA 58)) (nat_lit 0) [] Value.none Value.none Value.none Value.none (Option.none) Value.none Value.none (nat_lit 0))) #[])
noncomputable def ob288 (P : Params) : Obj := (Obj.mk (Value.type "code") (Option.none) (Data.fields #[(vS "_law_found" (nat_lit 834)), (vS "_law_found" (nat_lit 835)), (vS "/claim/cut.py" (nat_lit 836)), (Value.int (Int.ofNat (nat_lit 313)) (nat_lit 0)), (Value.int (Int.ofNat (nat_lit 4)) (nat_lit 0)), (Value.int (Int.ofNat (nat_lit 0)) (nat_lit 0)), (Value.int (Int.ofNat (nat_lit 0)) (nat_lit 0)), (Value.int (Int.ofNat (nat_lit 3)) (nat_lit 0)), (Value.ref (nat_lit 282)), (Value.bool Bool.true), (Value.int (Int.ofNat (nat_lit 276)) (nat_lit 0)), (Value.ref (nat_lit 283)), Value.none, (Value.ref (nat_lit 284)), (Value.ref (nat_lit 285)), (Value.ref (nat_lit 286)), (Value.int (Int.ofNat (nat_lit 849)) (nat_lit 0)), (Value.int (Int.ofNat (nat_lit 313)) (nat_lit 0)), (vS "/claim/cut.py" (nat_lit 850))]) #[])
noncomputable def ob289 (P : Params) : Obj := (Obj.mk (Value.type "function") (Option.none) (Data.func (FuncData.mk (Str.ofString "_law_found") (Str.ofString "_law_found") (aPar (stA 58)) (FuncBody.stmts (aBody (stA 58))) (aSco (stA 58)) (nat_lit 3) [] Value.none Value.none Value.none (vS "law_in0238_01" (nat_lit 781)) (Option.none) (Value.ref (nat_lit 287)) Value.none (nat_lit 0))) #[])
noncomputable def ob290 (P : Params) : Obj := (Obj.mk (Value.type "tuple") (Option.none) (Data.seq #[] (nat_lit 0)) #[])
noncomputable def ob291 (P : Params) : Obj := (Obj.mk Value.none (Option.none) (Data.fields #[]) #[])
noncomputable def ob292 (P : Params) : Obj := (Obj.mk (Value.type "tuple") (Option.none) (Data.seq #[(vS "world" (nat_lit 855)), (vS "signs" (nat_lit 856)), (vS "path" (nat_lit 857)), (vS "who" (nat_lit 858)), (vS "rows" (nat_lit 859)), (vS "place" (nat_lit 860)), (vS "row" (nat_lit 861)), (vS "above" (nat_lit 862))] (nat_lit 0)) #[])
noncomputable def ob293 (P : Params) : Obj := (Obj.mk (Value.type "tuple") (Option.none) (Data.seq #[] (nat_lit 0)) #[])
noncomputable def ob294 (P : Params) : Obj := (Obj.mk Value.none (Option.none) (Data.func (FuncData.mk (Str.ofString "_law_told") (Str.ofString "_law_told") (aPar (stA 59)) (FuncBody.stmts (aBody (stA 59))) (aSco (stA 59)) (nat_lit 0) [] Value.none Value.none Value.none Value.none (Option.none) Value.none Value.none (nat_lit 0))) #[])
noncomputable def ob295 (P : Params) : Obj := (Obj.mk (Value.type "code") (Option.none) (Data.fields #[(vS "_law_told" (nat_lit 852)), (vS "_law_told" (nat_lit 853)), (vS "/claim/cut.py" (nat_lit 854)), (Value.int (Int.ofNat (nat_lit 335)) (nat_lit 0)), (Value.int (Int.ofNat (nat_lit 4)) (nat_lit 0)), (Value.int (Int.ofNat (nat_lit 0)) (nat_lit 0)), (Value.int (Int.ofNat (nat_lit 0)) (nat_lit 0)), (Value.int (Int.ofNat (nat_lit 3)) (nat_lit 0)), (Value.ref (nat_lit 289)), (Value.bool Bool.true), (Value.int (Int.ofNat (nat_lit 276)) (nat_lit 0)), (Value.ref (nat_lit 290)), Value.none, (Value.ref (nat_lit 291)), (Value.ref (nat_lit 292)), (Value.ref (nat_lit 293)), (Value.int (Int.ofNat (nat_lit 863)) (nat_lit 0)), (Value.int (Int.ofNat (nat_lit 335)) (nat_lit 0)), (vS "/claim/cut.py" (nat_lit 864))]) #[])
noncomputable def ob296 (P : Params) : Obj := (Obj.mk (Value.type "function") (Option.none) (Data.func (FuncData.mk (Str.ofString "_law_told") (Str.ofString "_law_told") (aPar (stA 59)) (FuncBody.stmts (aBody (stA 59))) (aSco (stA 59)) (nat_lit 3) [] Value.none Value.none Value.none (vS "law_in0238_01" (nat_lit 781)) (Option.none) (Value.ref (nat_lit 294)) Value.none (nat_lit 0))) #[])
noncomputable def ob297 (P : Params) : Obj := (Obj.mk (Value.type "tuple") (Option.none) (Data.seq #[] (nat_lit 0)) #[])
noncomputable def ob298 (P : Params) : Obj := (Obj.mk Value.none (Option.none) (Data.fields #[]) #[])
noncomputable def ob299 (P : Params) : Obj := (Obj.mk (Value.type "tuple") (Option.none) (Data.seq #[(vS "mode" (nat_lit 869)), (vS "row" (nat_lit 870)), (vS "k" (nat_lit 871)), (vS "rights" (nat_lit 872))] (nat_lit 0)) #[])
noncomputable def ob300 (P : Params) : Obj := (Obj.mk (Value.type "tuple") (Option.none) (Data.seq #[] (nat_lit 0)) #[])
noncomputable def ob301 (P : Params) : Obj := (Obj.mk Value.none (Option.none) (Data.func (FuncData.mk (Str.ofString "_law_signs") (Str.ofString "_law_signs") (aPar (stA 60)) (FuncBody.stmts (aBody (stA 60))) (aSco (stA 60)) (nat_lit 0) [] Value.none Value.none Value.none Value.none (Option.none) Value.none Value.none (nat_lit 0))) #[])
noncomputable def ob302 (P : Params) : Obj := (Obj.mk (Value.type "code") (Option.none) (Data.fields #[(vS "_law_signs" (nat_lit 866)), (vS "_law_signs" (nat_lit 867)), (vS "/claim/cut.py" (nat_lit 868)), (Value.int (Int.ofNat (nat_lit 344)) (nat_lit 0)), (Value.int (Int.ofNat (nat_lit 1)) (nat_lit 0)), (Value.int (Int.ofNat (nat_lit 0)) (nat_lit 0)), (Value.int (Int.ofNat (nat_lit 0)) (nat_lit 0)), (Value.int (Int.ofNat (nat_lit 3)) (nat_lit 0)), (Value.ref (nat_lit 296)), (Value.bool Bool.true), (Value.int (Int.ofNat (nat_lit 276)) (nat_lit 0)), (Value.ref (nat_lit 297)), Value.none, (Value.ref (nat_lit 298)), (Value.ref (nat_lit 299)), (Value.ref (nat_lit 300)), (Value.int (Int.ofNat (nat_lit 873)) (nat_lit 0)), (Value.int (Int.ofNat (nat_lit 344)) (nat_lit 0)), (vS "/claim/cut.py" (nat_lit 874))]) #[])
noncomputable def ob303 (P : Params) : Obj := (Obj.mk (Value.type "function") (Option.none) (Data.func (FuncData.mk (Str.ofString "_law_signs") (Str.ofString "_law_signs") (aPar (stA 60)) (FuncBody.stmts (aBody (stA 60))) (aSco (stA 60)) (nat_lit 3) [] Value.none Value.none Value.none (vS "law_in0238_01" (nat_lit 781)) (Option.none) (Value.ref (nat_lit 301)) Value.none (nat_lit 0))) #[])
noncomputable def ob304 (P : Params) : Obj := (Obj.mk (Value.type "tuple") (Option.none) (Data.seq #[] (nat_lit 0)) #[])
noncomputable def ob305 (P : Params) : Obj := (Obj.mk Value.none (Option.none) (Data.fields #[]) #[])
noncomputable def ob306 (P : Params) : Obj := (Obj.mk (Value.type "tuple") (Option.none) (Data.seq #[(vS "parts" (nat_lit 879)), (vS "steps" (nat_lit 880)), (vS "slash" (nat_lit 881)), (vS "text" (nat_lit 882)), (vS "added" (nat_lit 883))] (nat_lit 0)) #[])
noncomputable def ob307 (P : Params) : Obj := (Obj.mk (Value.type "tuple") (Option.none) (Data.seq #[] (nat_lit 0)) #[])
noncomputable def ob308 (P : Params) : Obj := (Obj.mk Value.none (Option.none) (Data.func (FuncData.mk (Str.ofString "_law_steps") (Str.ofString "_law_steps") (aPar (stA 61)) (FuncBody.stmts (aBody (stA 61))) (aSco (stA 61)) (nat_lit 0) [] Value.none Value.none Value.none Value.none (Option.none) Value.none Value.none (nat_lit 0))) #[])
noncomputable def ob309 (P : Params) : Obj := (Obj.mk (Value.type "code") (Option.none) (Data.fields #[(vS "_law_steps" (nat_lit 876)), (vS "_law_steps" (nat_lit 877)), (vS "/claim/cut.py" (nat_lit 878)), (Value.int (Int.ofNat (nat_lit 351)) (nat_lit 0)), (Value.int (Int.ofNat (nat_lit 1)) (nat_lit 0)), (Value.int (Int.ofNat (nat_lit 0)) (nat_lit 0)), (Value.int (Int.ofNat (nat_lit 0)) (nat_lit 0)), (Value.int (Int.ofNat (nat_lit 3)) (nat_lit 0)), (Value.ref (nat_lit 303)), (Value.bool Bool.true), (Value.int (Int.ofNat (nat_lit 276)) (nat_lit 0)), (Value.ref (nat_lit 304)), Value.none, (Value.ref (nat_lit 305)), (Value.ref (nat_lit 306)), (Value.ref (nat_lit 307)), (Value.int (Int.ofNat (nat_lit 884)) (nat_lit 0)), (Value.int (Int.ofNat (nat_lit 351)) (nat_lit 0)), (vS "/claim/cut.py" (nat_lit 885))]) #[])
noncomputable def ob310 (P : Params) : Obj := (Obj.mk (Value.type "function") (Option.none) (Data.func (FuncData.mk (Str.ofString "_law_steps") (Str.ofString "_law_steps") (aPar (stA 61)) (FuncBody.stmts (aBody (stA 61))) (aSco (stA 61)) (nat_lit 3) [] Value.none Value.none Value.none (vS "law_in0238_01" (nat_lit 781)) (Option.none) (Value.ref (nat_lit 308)) Value.none (nat_lit 0))) #[])
noncomputable def ob311 (P : Params) : Obj := (Obj.mk (Value.type "tuple") (Option.none) (Data.seq #[] (nat_lit 0)) #[])
noncomputable def ob312 (P : Params) : Obj := (Obj.mk Value.none (Option.none) (Data.fields #[]) #[])
noncomputable def ob313 (P : Params) : Obj := (Obj.mk Value.none (Option.none) (Data.func (FuncData.mk (Str.ofString "_law_due") (Str.ofString "_law_due") (aPar (stA 62)) (FuncBody.stmts (aBody (stA 62))) (aSco (stA 62)) (nat_lit 0) [] Value.none Value.none Value.none Value.none (Option.none) Value.none Value.none (nat_lit 0))) #[])
noncomputable def ob314 (P : Params) : Obj := (Obj.mk (Value.type "code") (Option.none) (Data.fields #[(vS "_law_due" (nat_lit 887)), (vS "_law_due" (nat_lit 888)), (vS "/claim/cut.py" (nat_lit 889)), (Value.int (Int.ofNat (nat_lit 360)) (nat_lit 0)), (Value.int (Int.ofNat (nat_lit 3)) (nat_lit 0)), (Value.int (Int.ofNat (nat_lit 0)) (nat_lit 0)), (Value.int (Int.ofNat (nat_lit 0)) (nat_lit 0)), (Value.int (Int.ofNat (nat_lit 3)) (nat_lit 0)), (Value.ref (nat_lit 310)), (Value.bool Bool.true), (Value.int (Int.ofNat (nat_lit 276)) (nat_lit 0)), (Value.ref (nat_lit 311)), Value.none, Value.none, Value.none, (Value.ref (nat_lit 312)), (Value.int (Int.ofNat (nat_lit 890)) (nat_lit 0)), (Value.int (Int.ofNat (nat_lit 360)) (nat_lit 0)), (vS "/claim/cut.py" (nat_lit 891))]) #[])
noncomputable def ob315 (P : Params) : Obj := (Obj.mk (Value.type "function") (Option.none) (Data.func (FuncData.mk (Str.ofString "_law_due") (Str.ofString "_law_due") (aPar (stA 62)) (FuncBody.stmts (aBody (stA 62))) (aSco (stA 62)) (nat_lit 3) [] Value.none Value.none Value.none (vS "law_in0238_01" (nat_lit 781)) (Option.none) (Value.ref (nat_lit 313)) Value.none (nat_lit 0))) #[])
noncomputable def ob316 (P : Params) : Obj := (Obj.mk (Value.type "tuple") (Option.none) (Data.seq #[] (nat_lit 0)) #[])
noncomputable def ob317 (P : Params) : Obj := (Obj.mk Value.none (Option.none) (Data.fields #[]) #[])
noncomputable def ob318 (P : Params) : Obj := (Obj.mk (Value.type "tuple") (Option.none) (Data.seq #[(vS "script" (nat_lit 896)), (vS "numbers" (nat_lit 897)), (vS "modes" (nat_lit 898)), (vS "world" (nat_lit 899)), (vS "signs" (nat_lit 900)), (vS "place" (nat_lit 901)), (vS "number" (nat_lit 902)), (vS "parts" (nat_lit 903)), (vS "path" (nat_lit 904)), (vS "part" (nat_lit 905)), (vS "who" (nat_lit 906))] (nat_lit 0)) #[])
noncomputable def ob319 (P : Params) : Obj := (Obj.mk (Value.type "tuple") (Option.none) (Data.seq #[] (nat_lit 0)) #[])
noncomputable def ob320 (P : Params) : Obj := (Obj.mk Value.none (Option.none) (Data.func (FuncData.mk (Str.ofString "law") (Str.ofString "law") (aPar (stA 63)) (FuncBody.stmts (aBody (stA 63))) (aSco (stA 63)) (nat_lit 0) [] Value.none Value.none Value.none Value.none (Option.none) Value.none Value.none (nat_lit 0))) #[])
noncomputable def ob321 (P : Params) : Obj := (Obj.mk (Value.type "code") (Option.none) (Data.fields #[(vS "law" (nat_lit 893)), (vS "law" (nat_lit 894)), (vS "/claim/cut.py" (nat_lit 895)), (Value.int (Int.ofNat (nat_lit 387)) (nat_lit 0)), (Value.int (Int.ofNat (nat_lit 1)) (nat_lit 0)), (Value.int (Int.ofNat (nat_lit 0)) (nat_lit 0)), (Value.int (Int.ofNat (nat_lit 0)) (nat_lit 0)), (Value.int (Int.ofNat (nat_lit 3)) (nat_lit 0)), (Value.ref (nat_lit 315)), (Value.bool Bool.true), (Value.int (Int.ofNat (nat_lit 276)) (nat_lit 0)), (Value.ref (nat_lit 316)), Value.none, (Value.ref (nat_lit 317)), (Value.ref (nat_lit 318)), (Value.ref (nat_lit 319)), (Value.int (Int.ofNat (nat_lit 907)) (nat_lit 0)), (Value.int (Int.ofNat (nat_lit 387)) (nat_lit 0)), (vS "/claim/cut.py" (nat_lit 908))]) #[])
noncomputable def ob322 (P : Params) : Obj := (Obj.mk (Value.type "function") (Option.none) (Data.func (FuncData.mk (Str.ofString "law") (Str.ofString "law") (aPar (stA 63)) (FuncBody.stmts (aBody (stA 63))) (aSco (stA 63)) (nat_lit 3) [] Value.none Value.none Value.none (vS "law_in0238_01" (nat_lit 781)) (Option.none) (Value.ref (nat_lit 320)) Value.none (nat_lit 0))) #[])
noncomputable def ob323 (P : Params) : Obj := (Obj.mk Value.none (Option.none) (Data.fields #[]) #[])
noncomputable def ob324 (P : Params) : Obj := (Obj.mk (Value.type "dict") (Option.none) (Data.dict #[(dE P "__name__" (nat_lit 165) (vS "cpy313.stat" (nat_lit 289))), (dE P "__doc__" (nat_lit 166) Value.none), (dE P "__package__" (nat_lit 167) Value.none), (dE P "__loader__" (nat_lit 168) (Value.builtin "__main__.__loader__#opaque")), (dE P "__spec__" (nat_lit 169) Value.none), (dE P "__annotations__" (nat_lit 170) (Value.ref (nat_lit 6))), (dE P "__builtins__" (nat_lit 171) (Value.ref (nat_lit 4))), (dE P "__file__" (nat_lit 173) (vS "/claim/cut.py" (nat_lit 172))), (dE P "__cached__" (nat_lit 174) Value.none), (dE P "_sre" (nat_lit 275) (Value.ref (nat_lit 12))), (dE P "_wall" (nat_lit 288) (Value.ref (nat_lit 38))), (dE P "S_IFMT" (nat_lit 297) (Value.ref (nat_lit 45))), (dE P "S_IFDIR" (nat_lit 299) (Value.int (Int.ofNat (nat_lit 16384)) (nat_lit 298))), (dE P "S_IFCHR" (nat_lit 301) (Value.int (Int.ofNat (nat_lit 8192)) (nat_lit 300))), (dE P "S_IFBLK" (nat_lit 303) (Value.int (Int.ofNat (nat_lit 24576)) (nat_lit 302))), (dE P "S_IFREG" (nat_lit 305) (Value.int (Int.ofNat (nat_lit 32768)) (nat_lit 304))), (dE P "S_IFIFO" (nat_lit 307) (Value.int (Int.ofNat (nat_lit 4096)) (nat_lit 306))), (dE P "S_IFLNK" (nat_lit 309) (Value.int (Int.ofNat (nat_lit 40960)) (nat_lit 308))), (dE P "S_IFSOCK" (nat_lit 311) (Value.int (Int.ofNat (nat_lit 49152)) (nat_lit 310))), (dE P "S_ISDIR" (nat_lit 318) (Value.ref (nat_lit 52))), (dE P "S_ISUID" (nat_lit 320) (Value.int (Int.ofNat (nat_lit 2048)) (nat_lit 319))), (dE P "S_ISGID" (nat_lit 322) (Value.int (Int.ofNat (nat_lit 1024)) (nat_lit 321))), (dE P "S_ISVTX" (nat_lit 324) (Value.int (Int.ofNat (nat_lit 512)) (nat_lit 323))), (dE P "S_IRUSR" (nat_lit 326) (Value.int (Int.ofNat (nat_lit 256)) (nat_lit 325))), (dE P "S_IWUSR" (nat_lit 328) (Value.int (Int.ofNat (nat_lit 128)) (nat_lit 327))), (dE P "S_IXUSR" (nat_lit 330) (Value.int (Int.ofNat (nat_lit 64)) (nat_lit 329))), (dE P "S_IRGRP" (nat_lit 332) (Value.int (Int.ofNat (nat_lit 32)) (nat_lit 331))), (dE P "S_IWGRP" (nat_lit 334) (Value.int (Int.ofNat (nat_lit 16)) (nat_lit 333))), (dE P "S_IXGRP" (nat_lit 336) (Value.int (Int.ofNat (nat_lit 8)) (nat_lit 335))), (dE P "S_IROTH" (nat_lit 338) (Value.int (Int.ofNat (nat_lit 4)) (nat_lit 337))), (dE P "S_IWOTH" (nat_lit 340) (Value.int (Int.ofNat (nat_lit 2)) (nat_lit 339))), (dE P "S_IXOTH" (nat_lit 342) (Value.int (Int.ofNat (nat_lit 1)) (nat_lit 341)))] (nat_lit 32)) #[])
noncomputable def ob325 (P : Params) : Obj := (Obj.mk Value.none (Option.none) (Data.fields #[(Value.int (Int.ofNat (nat_lit 2)) (nat_lit 0)), (Value.int (Int.ofNat (nat_lit 0)) (nat_lit 0)), (Value.ref (nat_lit 37)), (Value.int (Int.ofNat (nat_lit 6)) (nat_lit 0)), (Value.int (Int.ofNat (nat_lit 0)) (nat_lit 0)), (Value.ref (nat_lit 44)), (Value.int (Int.ofNat (nat_lit 15)) (nat_lit 0)), (Value.int (Int.ofNat (nat_lit 0)) (nat_lit 0)), (Value.ref (nat_lit 51))]) #[])
noncomputable def ob326 (P : Params) : Obj := (Obj.mk (Value.type "dict") (Option.none) (Data.dict #[(dE P "__name__" (nat_lit 165) (vS "re" (nat_lit 419))), (dE P "__doc__" (nat_lit 166) Value.none), (dE P "__package__" (nat_lit 167) Value.none), (dE P "__loader__" (nat_lit 168) (Value.builtin "__main__.__loader__#opaque")), (dE P "__spec__" (nat_lit 169) Value.none), (dE P "__annotations__" (nat_lit 170) (Value.ref (nat_lit 6))), (dE P "__builtins__" (nat_lit 171) (Value.ref (nat_lit 4))), (dE P "__file__" (nat_lit 173) (vS "/claim/cut.py" (nat_lit 172))), (dE P "__cached__" (nat_lit 174) Value.none), (dE P "_sre" (nat_lit 275) (Value.ref (nat_lit 12))), (dE P "_wall" (nat_lit 288) (Value.ref (nat_lit 38))), (dE P "S_IFMT" (nat_lit 297) (Value.ref (nat_lit 45))), (dE P "S_IFDIR" (nat_lit 299) (Value.int (Int.ofNat (nat_lit 16384)) (nat_lit 298))), (dE P "S_IFCHR" (nat_lit 301) (Value.int (Int.ofNat (nat_lit 8192)) (nat_lit 300))), (dE P "S_IFBLK" (nat_lit 303) (Value.int (Int.ofNat (nat_lit 24576)) (nat_lit 302))), (dE P "S_IFREG" (nat_lit 305) (Value.int (Int.ofNat (nat_lit 32768)) (nat_lit 304))), (dE P "S_IFIFO" (nat_lit 307) (Value.int (Int.ofNat (nat_lit 4096)) (nat_lit 306))), (dE P "S_IFLNK" (nat_lit 309) (Value.int (Int.ofNat (nat_lit 40960)) (nat_lit 308))), (dE P "S_IFSOCK" (nat_lit 311) (Value.int (Int.ofNat (nat_lit 49152)) (nat_lit 310))), (dE P "S_ISDIR" (nat_lit 318) (Value.ref (nat_lit 52))), (dE P "S_ISUID" (nat_lit 320) (Value.int (Int.ofNat (nat_lit 2048)) (nat_lit 319))), (dE P "S_ISGID" (nat_lit 322) (Value.int (Int.ofNat (nat_lit 1024)) (nat_lit 321))), (dE P "S_ISVTX" (nat_lit 324) (Value.int (Int.ofNat (nat_lit 512)) (nat_lit 323))), (dE P "S_IRUSR" (nat_lit 326) (Value.int (Int.ofNat (nat_lit 256)) (nat_lit 325))), (dE P "S_IWUSR" (nat_lit 328) (Value.int (Int.ofNat (nat_lit 128)) (nat_lit 327))), (dE P "S_IXUSR" (nat_lit 330) (Value.int (Int.ofNat (nat_lit 64)) (nat_lit 329))), (dE P "S_IRGRP" (nat_lit 332) (Value.int (Int.ofNat (nat_lit 32)) (nat_lit 331))), (dE P "S_IWGRP" (nat_lit 334) (Value.int (Int.ofNat (nat_lit 16)) (nat_lit 333))), (dE P "S_IXGRP" (nat_lit 336) (Value.int (Int.ofNat (nat_lit 8)) (nat_lit 335))), (dE P "S_IROTH" (nat_lit 338) (Value.int (Int.ofNat (nat_lit 4)) (nat_lit 337))), (dE P "S_IWOTH" (nat_lit 340) (Value.int (Int.ofNat (nat_lit 2)) (nat_lit 339))), (dE P "S_IXOTH" (nat_lit 342) (Value.int (Int.ofNat (nat_lit 1)) (nat_lit 341))), (dE P "_filemode_table" (nat_lit 368) (Value.ref (nat_lit 85))), (dE P "filemode" (nat_lit 380) (Value.ref (nat_lit 92))), (dE P "_twin_re_1" (nat_lit 418) (Value.ref (nat_lit 97)))] (nat_lit 35)) #[])
noncomputable def ob327 (P : Params) : Obj := (Obj.mk Value.none (Option.none) (Data.fields #[(Value.int (Int.ofNat (nat_lit 2)) (nat_lit 0)), (Value.int (Int.ofNat (nat_lit 0)) (nat_lit 0)), (Value.ref (nat_lit 37)), (Value.int (Int.ofNat (nat_lit 6)) (nat_lit 0)), (Value.int (Int.ofNat (nat_lit 0)) (nat_lit 0)), (Value.ref (nat_lit 44)), (Value.int (Int.ofNat (nat_lit 15)) (nat_lit 0)), (Value.int (Int.ofNat (nat_lit 0)) (nat_lit 0)), (Value.ref (nat_lit 51)), (Value.int (Int.ofNat (nat_lit 30)) (nat_lit 0)), (Value.int (Int.ofNat (nat_lit 0)) (nat_lit 0)), (Value.ref (nat_lit 91))]) #[])
noncomputable def ob328 (P : Params) : Obj := (Obj.mk (Value.type "dict") (Option.none) (Data.dict #[(dE P "__name__" (nat_lit 165) (vS "re" (nat_lit 419))), (dE P "__doc__" (nat_lit 166) Value.none), (dE P "__package__" (nat_lit 167) Value.none), (dE P "__loader__" (nat_lit 168) (Value.builtin "__main__.__loader__#opaque")), (dE P "__spec__" (nat_lit 169) Value.none), (dE P "__annotations__" (nat_lit 170) (Value.ref (nat_lit 6))), (dE P "__builtins__" (nat_lit 171) (Value.ref (nat_lit 4))), (dE P "__file__" (nat_lit 173) (vS "/claim/cut.py" (nat_lit 172))), (dE P "__cached__" (nat_lit 174) Value.none), (dE P "_sre" (nat_lit 275) (Value.ref (nat_lit 12))), (dE P "_wall" (nat_lit 288) (Value.ref (nat_lit 38))), (dE P "S_IFMT" (nat_lit 297) (Value.ref (nat_lit 45))), (dE P "S_IFDIR" (nat_lit 299) (Value.int (Int.ofNat (nat_lit 16384)) (nat_lit 298))), (dE P "S_IFCHR" (nat_lit 301) (Value.int (Int.ofNat (nat_lit 8192)) (nat_lit 300))), (dE P "S_IFBLK" (nat_lit 303) (Value.int (Int.ofNat (nat_lit 24576)) (nat_lit 302))), (dE P "S_IFREG" (nat_lit 305) (Value.int (Int.ofNat (nat_lit 32768)) (nat_lit 304))), (dE P "S_IFIFO" (nat_lit 307) (Value.int (Int.ofNat (nat_lit 4096)) (nat_lit 306))), (dE P "S_IFLNK" (nat_lit 309) (Value.int (Int.ofNat (nat_lit 40960)) (nat_lit 308))), (dE P "S_IFSOCK" (nat_lit 311) (Value.int (Int.ofNat (nat_lit 49152)) (nat_lit 310))), (dE P "S_ISDIR" (nat_lit 318) (Value.ref (nat_lit 52))), (dE P "S_ISUID" (nat_lit 320) (Value.int (Int.ofNat (nat_lit 2048)) (nat_lit 319))), (dE P "S_ISGID" (nat_lit 322) (Value.int (Int.ofNat (nat_lit 1024)) (nat_lit 321))), (dE P "S_ISVTX" (nat_lit 324) (Value.int (Int.ofNat (nat_lit 512)) (nat_lit 323))), (dE P "S_IRUSR" (nat_lit 326) (Value.int (Int.ofNat (nat_lit 256)) (nat_lit 325))), (dE P "S_IWUSR" (nat_lit 328) (Value.int (Int.ofNat (nat_lit 128)) (nat_lit 327))), (dE P "S_IXUSR" (nat_lit 330) (Value.int (Int.ofNat (nat_lit 64)) (nat_lit 329))), (dE P "S_IRGRP" (nat_lit 332) (Value.int (Int.ofNat (nat_lit 32)) (nat_lit 331))), (dE P "S_IWGRP" (nat_lit 334) (Value.int (Int.ofNat (nat_lit 16)) (nat_lit 333))), (dE P "S_IXGRP" (nat_lit 336) (Value.int (Int.ofNat (nat_lit 8)) (nat_lit 335))), (dE P "S_IROTH" (nat_lit 338) (Value.int (Int.ofNat (nat_lit 4)) (nat_lit 337))), (dE P "S_IWOTH" (nat_lit 340) (Value.int (Int.ofNat (nat_lit 2)) (nat_lit 339))), (dE P "S_IXOTH" (nat_lit 342) (Value.int (Int.ofNat (nat_lit 1)) (nat_lit 341))), (dE P "_filemode_table" (nat_lit 368) (Value.ref (nat_lit 85))), (dE P "filemode" (nat_lit 380) (Value.ref (nat_lit 92))), (dE P "_twin_re_1" (nat_lit 418) (Value.ref (nat_lit 97))), (dE P "_special_chars_map" (nat_lit 566) (Value.ref (nat_lit 99)))] (nat_lit 36)) #[])
noncomputable def ob329 (P : Params) : Obj := (Obj.mk (Value.type "dict") (Option.none) (Data.dict #[(dE P "__name__" (nat_lit 165) (vS "collections.abc" (nat_lit 632))), (dE P "__doc__" (nat_lit 166) Value.none), (dE P "__package__" (nat_lit 167) Value.none), (dE P "__loader__" (nat_lit 168) (Value.builtin "__main__.__loader__#opaque")), (dE P "__spec__" (nat_lit 169) Value.none), (dE P "__annotations__" (nat_lit 170) (Value.ref (nat_lit 6))), (dE P "__builtins__" (nat_lit 171) (Value.ref (nat_lit 4))), (dE P "__file__" (nat_lit 173) (vS "/claim/cut.py" (nat_lit 172))), (dE P "__cached__" (nat_lit 174) Value.none), (dE P "_sre" (nat_lit 275) (Value.ref (nat_lit 12))), (dE P "_wall" (nat_lit 288) (Value.ref (nat_lit 38))), (dE P "S_IFMT" (nat_lit 297) (Value.ref (nat_lit 45))), (dE P "S_IFDIR" (nat_lit 299) (Value.int (Int.ofNat (nat_lit 16384)) (nat_lit 298))), (dE P "S_IFCHR" (nat_lit 301) (Value.int (Int.ofNat (nat_lit 8192)) (nat_lit 300))), (dE P "S_IFBLK" (nat_lit 303) (Value.int (Int.ofNat (nat_lit 24576)) (nat_lit 302))), (dE P "S_IFREG" (nat_lit 305) (Value.int (Int.ofNat (nat_lit 32768)) (nat_lit 304))), (dE P "S_IFIFO" (nat_lit 307) (Value.int (Int.ofNat (nat_lit 4096)) (nat_lit 306))), (dE P "S_IFLNK" (nat_lit 309) (Value.int (Int.ofNat (nat_lit 40960)) (nat_lit 308))), (dE P "S_IFSOCK" (nat_lit 311) (Value.int (Int.ofNat (nat_lit 49152)) (nat_lit 310))), (dE P "S_ISDIR" (nat_lit 318) (Value.ref (nat_lit 52))), (dE P "S_ISUID" (nat_lit 320) (Value.int (Int.ofNat (nat_lit 2048)) (nat_lit 319))), (dE P "S_ISGID" (nat_lit 322) (Value.int (Int.ofNat (nat_lit 1024)) (nat_lit 321))), (dE P "S_ISVTX" (nat_lit 324) (Value.int (Int.ofNat (nat_lit 512)) (nat_lit 323))), (dE P "S_IRUSR" (nat_lit 326) (Value.int (Int.ofNat (nat_lit 256)) (nat_lit 325))), (dE P "S_IWUSR" (nat_lit 328) (Value.int (Int.ofNat (nat_lit 128)) (nat_lit 327))), (dE P "S_IXUSR" (nat_lit 330) (Value.int (Int.ofNat (nat_lit 64)) (nat_lit 329))), (dE P "S_IRGRP" (nat_lit 332) (Value.int (Int.ofNat (nat_lit 32)) (nat_lit 331))), (dE P "S_IWGRP" (nat_lit 334) (Value.int (Int.ofNat (nat_lit 16)) (nat_lit 333))), (dE P "S_IXGRP" (nat_lit 336) (Value.int (Int.ofNat (nat_lit 8)) (nat_lit 335))), (dE P "S_IROTH" (nat_lit 338) (Value.int (Int.ofNat (nat_lit 4)) (nat_lit 337))), (dE P "S_IWOTH" (nat_lit 340) (Value.int (Int.ofNat (nat_lit 2)) (nat_lit 339))), (dE P "S_IXOTH" (nat_lit 342) (Value.int (Int.ofNat (nat_lit 1)) (nat_lit 341))), (dE P "_filemode_table" (nat_lit 368) (Value.ref (nat_lit 85))), (dE P "filemode" (nat_lit 380) (Value.ref (nat_lit 92))), (dE P "_twin_re_1" (nat_lit 418) (Value.ref (nat_lit 97))), (dE P "_special_chars_map" (nat_lit 566) (Value.ref (nat_lit 99))), (dE P "escape" (nat_lit 573) (Value.ref (nat_lit 109))), (dE P "_translate" (nat_lit 594) (Value.ref (nat_lit 116))), (dE P "_plain_name" (nat_lit 605) (Value.ref (nat_lit 123))), (dE P "ABCMeta" (nat_lit 631) (Value.ref (nat_lit 140)))] (nat_lit 40)) #[])
noncomputable def ob330 (P : Params) : Obj := (Obj.mk Value.none (Option.none) (Data.fields #[(Value.int (Int.ofNat (nat_lit 2)) (nat_lit 0)), (Value.int (Int.ofNat (nat_lit 0)) (nat_lit 0)), (Value.ref (nat_lit 37)), (Value.int (Int.ofNat (nat_lit 6)) (nat_lit 0)), (Value.int (Int.ofNat (nat_lit 0)) (nat_lit 0)), (Value.ref (nat_lit 44)), (Value.int (Int.ofNat (nat_lit 15)) (nat_lit 0)), (Value.int (Int.ofNat (nat_lit 0)) (nat_lit 0)), (Value.ref (nat_lit 51)), (Value.int (Int.ofNat (nat_lit 30)) (nat_lit 0)), (Value.int (Int.ofNat (nat_lit 0)) (nat_lit 0)), (Value.ref (nat_lit 91)), (Value.int (Int.ofNat (nat_lit 50)) (nat_lit 0)), (Value.int (Int.ofNat (nat_lit 0)) (nat_lit 0)), (Value.ref (nat_lit 108)), (Value.int (Int.ofNat (nat_lit 57)) (nat_lit 0)), (Value.int (Int.ofNat (nat_lit 0)) (nat_lit 0)), (Value.ref (nat_lit 115)), (Value.int (Int.ofNat (nat_lit 120)) (nat_lit 0)), (Value.int (Int.ofNat (nat_lit 0)) (nat_lit 0)), (Value.ref (nat_lit 122)), (Value.int (Int.ofNat (nat_lit 126)) (nat_lit 0)), (Value.int (Int.ofNat (nat_lit 0)) (nat_lit 0)), (Value.ref (nat_lit 129))]) #[])
noncomputable def ob331 (P : Params) : Obj := (Obj.mk (Value.type "type") (Option.none) (Data.cls (ClassData.mk (Str.ofString "ABCMeta") [(Value.type "type")] [(Value.ref (nat_lit 140)), (Value.type "type"), (Value.type "object")] (nat_lit 139) (Str.ofString "ABCMeta") Bool.true [] [] Bool.false (Option.none) Bool.false)) #[(Option.some (Value.ref (nat_lit 124))), (Option.none), (Option.some (vS "ABCMeta" (nat_lit 608))), (Option.some (vS "ABCMeta" (nat_lit 616))), (Option.some (Value.builtin "type.__new__")), (Option.some (Value.bool Bool.true))])
noncomputable def ob332 (P : Params) : Obj := (Obj.mk (Value.type "dict") (Option.none) (Data.dict #[(dE P "__name__" (nat_lit 165) (vS "cpy313.genericpath" (nat_lit 694))), (dE P "__doc__" (nat_lit 166) Value.none), (dE P "__package__" (nat_lit 167) Value.none), (dE P "__loader__" (nat_lit 168) (Value.builtin "__main__.__loader__#opaque")), (dE P "__spec__" (nat_lit 169) Value.none), (dE P "__annotations__" (nat_lit 170) (Value.ref (nat_lit 6))), (dE P "__builtins__" (nat_lit 171) (Value.ref (nat_lit 4))), (dE P "__file__" (nat_lit 173) (vS "/claim/cut.py" (nat_lit 172))), (dE P "__cached__" (nat_lit 174) Value.none), (dE P "_sre" (nat_lit 275) (Value.ref (nat_lit 12))), (dE P "_wall" (nat_lit 288) (Value.ref (nat_lit 38))), (dE P "S_IFMT" (nat_lit 297) (Value.ref (nat_lit 45))), (dE P "S_IFDIR" (nat_lit 299) (Value.int (Int.ofNat (nat_lit 16384)) (nat_lit 298))), (dE P "S_IFCHR" (nat_lit 301) (Value.int (Int.ofNat (nat_lit 8192)) (nat_lit 300))), (dE P "S_IFBLK" (nat_lit 303) (Value.int (Int.ofNat (nat_lit 24576)) (nat_lit 302))), (dE P "S_IFREG" (nat_lit 305) (Value.int (Int.ofNat (nat_lit 32768)) (nat_lit 304))), (dE P "S_IFIFO" (nat_lit 307) (Value.int (Int.ofNat (nat_lit 4096)) (nat_lit 306))), (dE P "S_IFLNK" (nat_lit 309) (Value.int (Int.ofNat (nat_lit 40960)) (nat_lit 308))), (dE P "S_IFSOCK" (nat_lit 311) (Value.int (Int.ofNat (nat_lit 49152)) (nat_lit 310))), (dE P "S_ISDIR" (nat_lit 318) (Value.ref (nat_lit 52))), (dE P "S_ISUID" (nat_lit 320) (Value.int (Int.ofNat (nat_lit 2048)) (nat_lit 319))), (dE P "S_ISGID" (nat_lit 322) (Value.int (Int.ofNat (nat_lit 1024)) (nat_lit 321))), (dE P "S_ISVTX" (nat_lit 324) (Value.int (Int.ofNat (nat_lit 512)) (nat_lit 323))), (dE P "S_IRUSR" (nat_lit 326) (Value.int (Int.ofNat (nat_lit 256)) (nat_lit 325))), (dE P "S_IWUSR" (nat_lit 328) (Value.int (Int.ofNat (nat_lit 128)) (nat_lit 327))), (dE P "S_IXUSR" (nat_lit 330) (Value.int (Int.ofNat (nat_lit 64)) (nat_lit 329))), (dE P "S_IRGRP" (nat_lit 332) (Value.int (Int.ofNat (nat_lit 32)) (nat_lit 331))), (dE P "S_IWGRP" (nat_lit 334) (Value.int (Int.ofNat (nat_lit 16)) (nat_lit 333))), (dE P "S_IXGRP" (nat_lit 336) (Value.int (Int.ofNat (nat_lit 8)) (nat_lit 335))), (dE P "S_IROTH" (nat_lit 338) (Value.int (Int.ofNat (nat_lit 4)) (nat_lit 337))), (dE P "S_IWOTH" (nat_lit 340) (Value.int (Int.ofNat (nat_lit 2)) (nat_lit 339))), (dE P "S_IXOTH" (nat_lit 342) (Value.int (Int.ofNat (nat_lit 1)) (nat_lit 341))), (dE P "_filemode_table" (nat_lit 368) (Value.ref (nat_lit 85))), (dE P "filemode" (nat_lit 380) (Value.ref (nat_lit 92))), (dE P "_twin_re_1" (nat_lit 418) (Value.ref (nat_lit 97))), (dE P "_special_chars_map" (nat_lit 566) (Value.ref (nat_lit 99))), (dE P "escape" (nat_lit 573) (Value.ref (nat_lit 109))), (dE P "_translate" (nat_lit 594) (Value.ref (nat_lit 116))), (dE P "_plain_name" (nat_lit 605) (Value.ref (nat_lit 123))), (dE P "ABCMeta" (nat_lit 631) (Value.ref (nat_lit 140))), (dE P "_ABCLike" (nat_lit 674) (Value.ref (nat_lit 173))), (dE P "_abc_plain_meta" (nat_lit 681) (Value.ref (nat_lit 182))), (dE P "fspath" (nat_lit 693) (Value.ref (nat_lit 189)))] (nat_lit 43)) #[])
noncomputable def ob333 (P : Params) : Obj := (Obj.mk Value.none (Option.none) (Data.fields #[(Value.int (Int.ofNat (nat_lit 2)) (nat_lit 0)), (Value.int (Int.ofNat (nat_lit 0)) (nat_lit 0)), (Value.ref (nat_lit 37)), (Value.int (Int.ofNat (nat_lit 6)) (nat_lit 0)), (Value.int (Int.ofNat (nat_lit 0)) (nat_lit 0)), (Value.ref (nat_lit 44)), (Value.int (Int.ofNat (nat_lit 15)) (nat_lit 0)), (Value.int (Int.ofNat (nat_lit 0)) (nat_lit 0)), (Value.ref (nat_lit 51)), (Value.int (Int.ofNat (nat_lit 30)) (nat_lit 0)), (Value.int (Int.ofNat (nat_lit 0)) (nat_lit 0)), (Value.ref (nat_lit 91)), (Value.int (Int.ofNat (nat_lit 50)) (nat_lit 0)), (Value.int (Int.ofNat (nat_lit 0)) (nat_lit 0)), (Value.ref (nat_lit 108)), (Value.int (Int.ofNat (nat_lit 57)) (nat_lit 0)), (Value.int (Int.ofNat (nat_lit 0)) (nat_lit 0)), (Value.ref (nat_lit 115)), (Value.int (Int.ofNat (nat_lit 120)) (nat_lit 0)), (Value.int (Int.ofNat (nat_lit 0)) (nat_lit 0)), (Value.ref (nat_lit 122)), (Value.int (Int.ofNat (nat_lit 126)) (nat_lit 0)), (Value.int (Int.ofNat (nat_lit 0)) (nat_lit 0)), (Value.ref (nat_lit 129)), (Value.int (Int.ofNat (nat_lit 131)) (nat_lit 0)), (Value.int (Int.ofNat (nat_lit 0)) (nat_lit 0)), (Value.ref (nat_lit 148)), (Value.int (Int.ofNat (nat_lit 146)) (nat_lit 0)), (Value.int (Int.ofNat (nat_lit 0)) (nat_lit 0)), (Value.ref (nat_lit 181)), (Value.int (Int.ofNat (nat_lit 150)) (nat_lit 0)), (Value.int (Int.ofNat (nat_lit 0)) (nat_lit 0)), (Value.ref (nat_lit 188))]) #[])
noncomputable def ob334 (P : Params) : Obj := (Obj.mk (Value.type "dict") (Option.none) (Data.dict #[(dE P "__name__" (nat_lit 165) (vS "law_in0238_01" (nat_lit 781))), (dE P "__doc__" (nat_lit 166) Value.none), (dE P "__package__" (nat_lit 167) Value.none), (dE P "__loader__" (nat_lit 168) (Value.builtin "__main__.__loader__#opaque")), (dE P "__spec__" (nat_lit 169) Value.none), (dE P "__annotations__" (nat_lit 170) (Value.ref (nat_lit 6))), (dE P "__builtins__" (nat_lit 171) (Value.ref (nat_lit 4))), (dE P "__file__" (nat_lit 173) (vS "/claim/cut.py" (nat_lit 172))), (dE P "__cached__" (nat_lit 174) Value.none), (dE P "_sre" (nat_lit 275) (Value.ref (nat_lit 12))), (dE P "_wall" (nat_lit 288) (Value.ref (nat_lit 38))), (dE P "S_IFMT" (nat_lit 297) (Value.ref (nat_lit 45))), (dE P "S_IFDIR" (nat_lit 299) (Value.int (Int.ofNat (nat_lit 16384)) (nat_lit 298))), (dE P "S_IFCHR" (nat_lit 301) (Value.int (Int.ofNat (nat_lit 8192)) (nat_lit 300))), (dE P "S_IFBLK" (nat_lit 303) (Value.int (Int.ofNat (nat_lit 24576)) (nat_lit 302))), (dE P "S_IFREG" (nat_lit 305) (Value.int (Int.ofNat (nat_lit 32768)) (nat_lit 304))), (dE P "S_IFIFO" (nat_lit 307) (Value.int (Int.ofNat (nat_lit 4096)) (nat_lit 306))), (dE P "S_IFLNK" (nat_lit 309) (Value.int (Int.ofNat (nat_lit 40960)) (nat_lit 308))), (dE P "S_IFSOCK" (nat_lit 311) (Value.int (Int.ofNat (nat_lit 49152)) (nat_lit 310))), (dE P "S_ISDIR" (nat_lit 318) (Value.ref (nat_lit 52))), (dE P "S_ISUID" (nat_lit 320) (Value.int (Int.ofNat (nat_lit 2048)) (nat_lit 319))), (dE P "S_ISGID" (nat_lit 322) (Value.int (Int.ofNat (nat_lit 1024)) (nat_lit 321))), (dE P "S_ISVTX" (nat_lit 324) (Value.int (Int.ofNat (nat_lit 512)) (nat_lit 323))), (dE P "S_IRUSR" (nat_lit 326) (Value.int (Int.ofNat (nat_lit 256)) (nat_lit 325))), (dE P "S_IWUSR" (nat_lit 328) (Value.int (Int.ofNat (nat_lit 128)) (nat_lit 327))), (dE P "S_IXUSR" (nat_lit 330) (Value.int (Int.ofNat (nat_lit 64)) (nat_lit 329))), (dE P "S_IRGRP" (nat_lit 332) (Value.int (Int.ofNat (nat_lit 32)) (nat_lit 331))), (dE P "S_IWGRP" (nat_lit 334) (Value.int (Int.ofNat (nat_lit 16)) (nat_lit 333))), (dE P "S_IXGRP" (nat_lit 336) (Value.int (Int.ofNat (nat_lit 8)) (nat_lit 335))), (dE P "S_IROTH" (nat_lit 338) (Value.int (Int.ofNat (nat_lit 4)) (nat_lit 337))), (dE P "S_IWOTH" (nat_lit 340) (Value.int (Int.ofNat (nat_lit 2)) (nat_lit 339))), (dE P "S_IXOTH" (nat_lit 342) (Value.int (Int.ofNat (nat_lit 1)) (nat_lit 341))), (dE P "_filemode_table" (nat_lit 368) (Value.ref (nat_lit 85))), (dE P "filemode" (nat_lit 380) (Value.ref (nat_lit 92))), (dE P "_twin_re_1" (nat_lit 418) (Value.ref (nat_lit 97))), (dE P "_special_chars_map" (nat_lit 566) (Value.ref (nat_lit 99))), (dE P "escape" (nat_lit 573) (Value.ref (nat_lit 109))), (dE P "_translate" (nat_lit 594) (Value.ref (nat_lit 116))), (dE P "_plain_name" (nat_lit 605) (Value.ref (nat_lit 123))), (dE P "ABCMeta" (nat_lit 631) (Value.ref (nat_lit 140))), (dE P "_ABCLike" (nat_lit 674) (Value.ref (nat_lit 173))), (dE P "_abc_plain_meta" (nat_lit 681) (Value.ref (nat_lit 182))), (dE P "fspath" (nat_lit 693) (Value.ref (nat_lit 189))), (dE P "_check_arg_types" (nat_lit 706) (Value.ref (nat_lit 196))), (dE P "_get_sep" (nat_lit 715) (Value.ref (nat_lit 203))), (dE P "join" (nat_lit 726) (Value.ref (nat_lit 210))), (dE P "split" (nat_lit 737) (Value.ref (nat_lit 217))), (dE P "splitroot" (nat_lit 746) (Value.ref (nat_lit 224))), (dE P "basename" (nat_lit 755) (Value.ref (nat_lit 231))), (dE P "dirname" (nat_lit 765) (Value.ref (nat_lit 238))), (dE P "normpath" (nat_lit 780) (Value.ref (nat_lit 245))), (dE P "_law_numbers" (nat_lit 788) (Value.ref (nat_lit 250))), (dE P "_law_modes" (nat_lit 798) (Value.ref (nat_lit 257))), (dE P "_law_parts" (nat_lit 804) (Value.ref (nat_lit 262))), (dE P "_law_world" (nat_lit 814) (Value.ref (nat_lit 269)))] (nat_lit 55)) #[])
noncomputable def ob335 (P : Params) : Obj := (Obj.mk Value.none (Option.none) (Data.fields #[(Value.int (Int.ofNat (nat_lit 2)) (nat_lit 0)), (Value.int (Int.ofNat (nat_lit 0)) (nat_lit 0)), (Value.ref (nat_lit 37)), (Value.int (Int.ofNat (nat_lit 6)) (nat_lit 0)), (Value.int (Int.ofNat (nat_lit 0)) (nat_lit 0)), (Value.ref (nat_lit 44)), (Value.int (Int.ofNat (nat_lit 15)) (nat_lit 0)), (Value.int (Int.ofNat (nat_lit 0)) (nat_lit 0)), (Value.ref (nat_lit 51)), (Value.int (Int.ofNat (nat_lit 30)) (nat_lit 0)), (Value.int (Int.ofNat (nat_lit 0)) (nat_lit 0)), (Value.ref (nat_lit 91)), (Value.int (Int.ofNat (nat_lit 50)) (nat_lit 0)), (Value.int (Int.ofNat (nat_lit 0)) (nat_lit 0)), (Value.ref (nat_lit 108)), (Value.int (Int.ofNat (nat_lit 57)) (nat_lit 0)), (Value.int (Int.ofNat (nat_lit 0)) (nat_lit 0)), (Value.ref (nat_lit 115)), (Value.int (Int.ofNat (nat_lit 120)) (nat_lit 0)), (Value.int (Int.ofNat (nat_lit 0)) (nat_lit 0)), (Value.ref (nat_lit 122)), (Value.int (Int.ofNat (nat_lit 126)) (nat_lit 0)), (Value.int (Int.ofNat (nat_lit 0)) (nat_lit 0)), (Value.ref (nat_lit 129)), (Value.int (Int.ofNat (nat_lit 131)) (nat_lit 0)), (Value.int (Int.ofNat (nat_lit 0)) (nat_lit 0)), (Value.ref (nat_lit 148)), (Value.int (Int.ofNat (nat_lit 146)) (nat_lit 0)), (Value.int (Int.ofNat (nat_lit 0)) (nat_lit 0)), (Value.ref (nat_lit 181)), (Value.int (Int.ofNat (nat_lit 150)) (nat_lit 0)), (Value.int (Int.ofNat (nat_lit 0)) (nat_lit 0)), (Value.ref (nat_lit 188)), (Value.int (Int.ofNat (nat_lit 167)) (nat_lit 0)), (Value.int (Int.ofNat (nat_lit 0)) (nat_lit 0)), (Value.ref (nat_lit 195)), (Value.int (Int.ofNat (nat_lit 179)) (nat_lit 0)), (Value.int (Int.ofNat (nat_lit 0)) (nat_lit 0)), (Value.ref (nat_lit 202)), (Value.int (Int.ofNat (nat_lit 184)) (nat_lit 0)), (Value.int (Int.ofNat (nat_lit 0)) (nat_lit 0)), (Value.ref (nat_lit 209)), (Value.int (Int.ofNat (nat_lit 201)) (nat_lit 0)), (Value.int (Int.ofNat (nat_lit 0)) (nat_lit 0)), (Value.ref (nat_lit 216)), (Value.int (Int.ofNat (nat_lit 209)) (nat_lit 0)), (Value.int (Int.ofNat (nat_lit 0)) (nat_lit 0)), (Value.ref (nat_lit 223)), (Value.int (Int.ofNat (nat_lit 223)) (nat_lit 0)), (Value.int (Int.ofNat (nat_lit 0)) (nat_lit 0)), (Value.ref (nat_lit 230)), (Value.int (Int.ofNat (nat_lit 228)) (nat_lit 0)), (Value.int (Int.ofNat (nat_lit 0)) (nat_lit 0)), (Value.ref (nat_lit 237)), (Value.int (Int.ofNat (nat_lit 236)) (nat_lit 0)), (Value.int (Int.ofNat (nat_lit 0)) (nat_lit 0)), (Value.ref (nat_lit 244)), (Value.int (Int.ofNat (nat_lit 262)) (nat_lit 0)), (Value.int (Int.ofNat (nat_lit 0)) (nat_lit 0)), (Value.ref (nat_lit 249)), (Value.int (Int.ofNat (nat_lit 266)) (nat_lit 0)), (Value.int (Int.ofNat (nat_lit 0)) (nat_lit 0)), (Value.ref (nat_lit 256)), (Value.int (Int.ofNat (nat_lit 272)) (nat_lit 0)), (Value.int (Int.ofNat (nat_lit 0)) (nat_lit 0)), (Value.ref (nat_lit 261)), (Value.int (Int.ofNat (nat_lit 275)) (nat_lit 0)), (Value.int (Int.ofNat (nat_lit 0)) (nat_lit 0)), (Value.ref (nat_lit 268))]) #[])
noncomputable def hp0 (P : Params) : Heap := ⟨⟨[ob0 P, ob1 P, ob2 P, ob3 P, ob4 P, ob5 P, ob6 P, ob7 P, ob8 P, ob9 P, ob10 P, ob11 P, ob12 P, ob13 P, ob14 P, ob15 P, ob16 P, ob17 P, ob18 P, ob19 P, ob20 P, ob21 P, ob22 P, ob23 P, ob24 P, ob25 P, ob26 P, ob27 P]⟩, {}⟩
noncomputable def hp1 (P : Params) : Heap := ⟨⟨[ob0 P, ob1 P, ob2 P, ob28 P, ob4 P, ob5 P, ob6 P, ob7 P, ob8 P, ob9 P, ob10 P, ob11 P, ob12 P, ob13 P, ob14 P, ob15 P, ob16 P, ob17 P, ob18 P, ob19 P, ob20 P, ob21 P, ob22 P, ob23 P, ob24 P, ob25 P, ob26 P, ob27 P, ob29 P, ob30 P, ob31 P, ob32 P, ob33 P, ob34 P, ob35 P, ob36 P, ob37 P, ob38 P, ob39 P, ob40 P, ob41 P, ob42 P, ob43 P, ob44 P, ob45 P, ob46 P, ob47 P, ob48 P, ob49 P, ob50 P, ob51 P, ob52 P, ob53 P, ob54 P, ob55 P, ob56 P, ob57 P, ob58 P, ob59 P, ob60 P, ob61 P, ob62 P, ob63 P, ob64 P, ob65 P, ob66 P, ob67 P, ob68 P, ob69 P, ob70 P, ob71 P, ob72 P, ob73 P, ob74 P, ob75 P, ob76 P, ob77 P, ob78 P, ob79 P, ob80 P, ob81 P, ob82 P, ob83 P, ob84 P, ob85 P, ob86 P, ob87 P, ob88 P, ob89 P, ob90 P, ob91 P, ob92 P, ob93 P, ob94 P, ob95 P, ob96 P, ob97 P, ob98 P, ob99 P, ob100 P, ob101 P, ob102 P, ob103 P, ob104 P, ob105 P, ob106 P, ob107 P, ob108 P, ob109 P, ob110 P, ob111 P, ob112 P, ob113 P, ob114 P, ob115 P, ob116 P, ob117 P, ob118 P, ob119 P, ob120 P, ob121 P, ob122 P, ob123 P, ob124 P, ob125 P, ob126 P, ob127 P, ob128 P, ob129 P, ob130 P, ob131 P, ob132 P, ob133 P, ob134 P, ob135 P, ob136 P, ob137 P, ob138 P, ob139 P, ob140 P, ob141 P, ob142 P, ob143 P, ob144 P, ob145 P, ob146 P, ob147 P, ob148 P, ob149 P, ob150 P, ob151 P, ob152 P, ob153 P, ob154 P, ob155 P, ob156 P, ob157 P, ob158 P, ob159 P, ob160 P, ob161 P, ob162 P, ob163 P, ob164 P, ob165 P, ob166 P, ob167 P, ob168 P, ob169 P, ob170 P, ob171 P, ob172 P, ob173 P, ob174 P, ob175 P, ob176 P, ob177 P, ob178 P, ob179 P, ob180 P, ob181 P, ob182 P, ob183 P, ob184 P, ob185 P, ob186 P, ob187 P, ob188 P, ob189 P, ob190 P, ob191 P, ob192 P, ob193 P, ob194 P, ob195 P, ob196 P, ob197 P, ob198 P, ob199 P, ob200 P, ob201 P, ob202 P, ob203 P, ob204 P, ob205 P, ob206 P, ob207 P, ob208 P, ob209 P, ob210 P, ob211 P, ob212 P, ob213 P, ob214 P, ob215 P, ob216 P, ob217 P, ob218 P, ob219 P, ob220 P, ob221 P, ob222 P, ob223 P, ob224 P, ob225 P, ob226 P, ob227 P, ob228 P, ob229 P, ob230 P, ob231 P, ob232 P, ob233 P, ob234 P, ob235 P, ob236 P, ob237 P, ob238 P, ob239 P, ob240 P, ob241 P, ob242 P, ob243 P, ob244 P, ob245 P, ob246 P, ob247 P, ob248 P, ob249 P, ob250 P, ob251 P, ob252 P, ob253 P, ob254 P, ob255 P, ob256 P, ob257 P, ob258 P, ob259 P, ob260 P, ob261 P, ob262 P, ob263 P, ob264 P, ob265 P, ob266 P, ob267 P, ob268 P, ob269 P, ob270 P, ob271 P, ob272 P, ob273 P, ob274 P, ob275 P, ob276 P, ob277 P, ob278 P, ob279 P, ob280 P, ob281 P, ob282 P, ob283 P, ob284 P, ob285 P, ob286 P, ob287 P, ob288 P, ob289 P, ob290 P, ob291 P, ob292 P, ob293 P, ob294 P, ob295 P, ob296 P, ob297 P, ob298 P, ob299 P, ob300 P, ob301 P, ob302 P, ob303 P, ob304 P, ob305 P, ob306 P, ob307 P, ob308 P, ob309 P, ob310 P, ob311 P, ob312 P, ob313 P, ob314 P, ob315 P, ob316 P, ob317 P, ob318 P, ob319 P, ob320 P, ob321 P, ob322 P]⟩, {}⟩
noncomputable def hpa (P : Params) : Heap := ⟨⟨[ob0 P, ob1 P, ob2 P, ob3 P, ob4 P, ob5 P, ob6 P, ob7 P, ob8 P, ob9 P, ob10 P, ob11 P, ob12 P, ob13 P, ob14 P, ob15 P, ob16 P, ob17 P, ob18 P, ob19 P, ob20 P, ob21 P, ob22 P, ob23 P, ob24 P, ob25 P, ob26 P, ob27 P, ob29 P, ob323 P, ob31 P, ob32 P]⟩, {}⟩
noncomputable def hpb (P : Params) : Heap := ⟨⟨[ob0 P, ob1 P, ob2 P, ob324 P, ob4 P, ob5 P, ob6 P, ob7 P, ob8 P, ob9 P, ob10 P, ob11 P, ob12 P, ob13 P, ob14 P, ob15 P, ob16 P, ob17 P, ob18 P, ob19 P, ob20 P, ob21 P, ob22 P, ob23 P, ob24 P, ob25 P, ob26 P, ob27 P, ob29 P, ob325 P, ob31 P, ob32 P, ob33 P, ob34 P, ob35 P, ob36 P, ob37 P, ob38 P, ob39 P, ob40 P, ob41 P, ob42 P, ob43 P, ob44 P, ob45 P, ob46 P, ob47 P, ob48 P, ob49 P, ob50 P, ob51 P, ob52 P, ob53 P]⟩, {}⟩
noncomputable def hpc (P : Params) : Heap := ⟨⟨[ob0 P, ob1 P, ob2 P, ob326 P, ob4 P, ob5 P, ob6 P, ob7 P, ob8 P, ob9 P, ob10 P, ob11 P, ob12 P, ob13 P, ob14 P, ob15 P, ob16 P, ob17 P, ob18 P, ob19 P, ob20 P, ob21 P, ob22 P, ob23 P, ob24 P, ob25 P, ob26 P, ob27 P, ob29 P, ob327 P, ob31 P, ob32 P, ob33 P, ob34 P, ob35 P, ob36 P, ob37 P, ob38 P, ob39 P, ob40 P, ob41 P, ob42 P, ob43 P, ob44 P, ob45 P, ob46 P, ob47 P, ob48 P, ob49 P, ob50 P, ob51 P, ob52 P, ob53 P, ob54 P, ob55 P, ob56 P, ob57 P, ob58 P, ob59 P, ob60 P, ob61 P, ob62 P, ob63 P, ob64 P, ob65 P, ob66 P, ob67 P, ob68 P, ob69 P, ob70 P, ob71 P, ob72 P, ob73 P, ob74 P, ob75 P, ob76 P, ob77 P, ob78 P, ob79 P, ob80 P, ob81 P, ob82 P, ob83 P, ob84 P, ob85 P, ob86 P, ob87 P, ob88 P, ob89 P, ob90 P, ob91 P, ob92 P, ob93 P, ob94 P, ob95 P, ob96 P, ob97 P, ob98 P]⟩, {}⟩
noncomputable def hpd (P : Params) : Heap := ⟨⟨[ob0 P, ob1 P, ob2 P, ob328 P, ob4 P, ob5 P, ob6 P, ob7 P, ob8 P, ob9 P, ob10 P, ob11 P, ob12 P, ob13 P, ob14 P, ob15 P, ob16 P, ob17 P, ob18 P, ob19 P, ob20 P, ob21 P, ob22 P, ob23 P, ob24 P, ob25 P, ob26 P, ob27 P, ob29 P, ob327 P, ob31 P, ob32 P, ob33 P, ob34 P, ob35 P, ob36 P, ob37 P, ob38 P, ob39 P, ob40 P, ob41 P, ob42 P, ob43 P, ob44 P, ob45 P, ob46 P, ob47 P, ob48 P, ob49 P, ob50 P, ob51 P, ob52 P, ob53 P, ob54 P, ob55 P, ob56 P, ob57 P, ob58 P, ob59 P, ob60 P, ob61 P, ob62 P, ob63 P, ob64 P, ob65 P, ob66 P, ob67 P, ob68 P, ob69 P, ob70 P, ob71 P, ob72 P, ob73 P, ob74 P, ob75 P, ob76 P, ob77 P, ob78 P, ob79 P, ob80 P, ob81 P, ob82 P, ob83 P, ob84 P, ob85 P, ob86 P, ob87 P, ob88 P, ob89 P, ob90 P, ob91 P, ob92 P, ob93 P, ob94 P, ob95 P, ob96 P, ob97 P, ob98 P, ob99 P, ob100 P, ob101 P, ob102 P, ob103 P]⟩, {}⟩
noncomputable def hpe (P : Params) : Heap := ⟨⟨[ob0 P, ob1 P, ob2 P, ob329 P, ob4 P, ob5 P, ob6 P, ob7 P, ob8 P, ob9 P, ob10 P, ob11 P, ob12 P, ob13 P, ob14 P, ob15 P, ob16 P, ob17 P, ob18 P, ob19 P, ob20 P, ob21 P, ob22 P, ob23 P, ob24 P, ob25 P, ob26 P, ob27 P, ob29 P, ob330 P, ob31 P, ob32 P, ob33 P, ob34 P, ob35 P, ob36 P, ob37 P, ob38 P, ob39 P, ob40 P, ob41 P, ob42 P, ob43 P, ob44 P, ob45 P, ob46 P, ob47 P, ob48 P, ob49 P, ob50 P, ob51 P, ob52 P, ob53 P, ob54 P, ob55 P, ob56 P, ob57 P, ob58 P, ob59 P, ob60 P, ob61 P, ob62 P, ob63 P, ob64 P, ob65 P, ob66 P, ob67 P, ob68 P, ob69 P, ob70 P, ob71 P, ob72 P, ob73 P, ob74 P, ob75 P, ob76 P, ob77 P, ob78 P, ob79 P, ob80 P, ob81 P, ob82 P, ob83 P, ob84 P, ob85 P, ob86 P, ob87 P, ob88 P, ob89 P, ob90 P, ob91 P, ob92 P, ob93 P, ob94 P, ob95 P, ob96 P, ob97 P, ob98 P, ob99 P, ob100 P, ob101 P, ob102 P, ob103 P, ob104 P, ob105 P, ob106 P, ob107 P, ob108 P, ob109 P, ob110 P, ob111 P, ob112 P, ob113 P, ob114 P, ob115 P, ob116 P, ob117 P, ob118 P, ob119 P, ob120 P, ob121 P, ob122 P, ob123 P, ob124 P, ob125 P, ob126 P, ob127 P, ob128 P, ob129 P, ob130 P, ob131 P, ob132 P, ob133 P, ob134 P, ob135 P, ob136 P, ob137 P, ob138 P, ob139 P, ob140 P, ob331 P, ob142 P, ob143 P]⟩, {}⟩
noncomputable def hpf (P : Params) : Heap := ⟨⟨[ob0 P, ob1 P, ob2 P, ob332 P, ob4 P, ob5 P, ob6 P, ob7 P, ob8 P, ob9 P, ob10 P, ob11 P, ob12 P, ob13 P, ob14 P, ob15 P, ob16 P, ob17 P, ob18 P, ob19 P, ob20 P, ob21 P, ob22 P, ob23 P, ob24 P, ob25 P, ob26 P, ob27 P, ob29 P, ob333 P, ob31 P, ob32 P, ob33 P, ob34 P, ob35 P, ob36 P, ob37 P, ob38 P, ob39 P, ob40 P, ob41 P, ob42 P, ob43 P, ob44 P, ob45 P, ob46 P, ob47 P, ob48 P, ob49 P, ob50 P, ob51 P, ob52 P, ob53 P, ob54 P, ob55 P, ob56 P, ob57 P, ob58 P, ob59 P, ob60 P, ob61 P, ob62 P, ob63 P, ob64 P, ob65 P, ob66 P, ob67 P, ob68 P, ob69 P, ob70 P, ob71 P, ob72 P, ob73 P, ob74 P, ob75 P, ob76 P, ob77 P, ob78 P, ob79 P, ob80 P, ob81 P, ob82 P, ob83 P, ob84 P, ob85 P, ob86 P, ob87 P, ob88 P, ob89 P, ob90 P, ob91 P, ob92 P, ob93 P, ob94 P, ob95 P, ob96 P, ob97 P, ob98 P, ob99 P, ob100 P, ob101 P, ob102 P, ob103 P, ob104 P, ob105 P, ob106 P, ob107 P, ob108 P, ob109 P, ob110 P, ob111 P, ob112 P, ob113 P, ob114 P, ob115 P, ob116 P, ob117 P, ob118 P, ob119 P, ob120 P, ob121 P, ob122 P, ob123 P, ob124 P, ob125 P, ob126 P, ob127 P, ob128 P, ob129 P, ob130 P, ob131 P, ob132 P, ob133 P, ob134 P, ob135 P, ob136 P, ob137 P, ob138 P, ob139 P, ob140 P, ob141 P, ob142 P, ob143 P, ob144 P, ob145 P, ob146 P, ob147 P, ob148 P, ob149 P, ob150 P, ob151 P, ob152 P, ob153 P, ob154 P, ob155 P, ob156 P, ob157 P, ob158 P, ob159 P, ob160 P, ob161 P, ob162 P, ob163 P, ob164 P, ob165 P, ob166 P, ob167 P, ob168 P, ob169 P, ob170 P, ob171 P, ob172 P, ob173 P, ob174 P, ob175 P, ob176 P, ob177 P, ob178 P, ob179 P, ob180 P, ob181 P, ob182 P, ob183 P, ob184 P, ob185 P, ob186 P, ob187 P, ob188 P, ob189 P, ob190 P]⟩, {}⟩
noncomputable def hpg (P : Params) : Heap := ⟨⟨[ob0 P, ob1 P, ob2 P, ob334 P, ob4 P, ob5 P, ob6 P, ob7 P, ob8 P, ob9 P, ob10 P, ob11 P, ob12 P, ob13 P, ob14 P, ob15 P, ob16 P, ob17 P, ob18 P, ob19 P, ob20 P, ob21 P, ob22 P, ob23 P, ob24 P, ob25 P, ob26 P, ob27 P, ob29 P, ob335 P, ob31 P, ob32 P, ob33 P, ob34 P, ob35 P, ob36 P, ob37 P, ob38 P, ob39 P, ob40 P, ob41 P, ob42 P, ob43 P, ob44 P, ob45 P, ob46 P, ob47 P, ob48 P, ob49 P, ob50 P, ob51 P, ob52 P, ob53 P, ob54 P, ob55 P, ob56 P, ob57 P, ob58 P, ob59 P, ob60 P, ob61 P, ob62 P, ob63 P, ob64 P, ob65 P, ob66 P, ob67 P, ob68 P, ob69 P, ob70 P, ob71 P, ob72 P, ob73 P, ob74 P, ob75 P, ob76 P, ob77 P, ob78 P, ob79 P, ob80 P, ob81 P, ob82 P, ob83 P, ob84 P, ob85 P, ob86 P, ob87 P, ob88 P, ob89 P, ob90 P, ob91 P, ob92 P, ob93 P, ob94 P, ob95 P, ob96 P, ob97 P, ob98 P, ob99 P, ob100 P, ob101 P, ob102 P, ob103 P, ob104 P, ob105 P, ob106 P, ob107 P, ob108 P, ob109 P, ob110 P, ob111 P, ob112 P, ob113 P, ob114 P, ob115 P, ob116 P, ob117 P, ob118 P, ob119 P, ob120 P, ob121 P, ob122 P, ob123 P, ob124 P, ob125 P, ob126 P, ob127 P, ob128 P, ob129 P, ob130 P, ob131 P, ob132 P, ob133 P, ob134 P, ob135 P, ob136 P, ob137 P, ob138 P, ob139 P, ob140 P, ob141 P, ob142 P, ob143 P, ob144 P, ob145 P, ob146 P, ob147 P, ob148 P, ob149 P, ob150 P, ob151 P, ob152 P, ob153 P, ob154 P, ob155 P, ob156 P, ob157 P, ob158 P, ob159 P, ob160 P, ob161 P, ob162 P, ob163 P, ob164 P, ob165 P, ob166 P, ob167 P, ob168 P, ob169 P, ob170 P, ob171 P, ob172 P, ob173 P, ob174 P, ob175 P, ob176 P, ob177 P, ob178 P, ob179 P, ob180 P, ob181 P, ob182 P, ob183 P, ob184 P, ob185 P, ob186 P, ob187 P, ob188 P, ob189 P, ob190 P, ob191 P, ob192 P, ob193 P, ob194 P, ob195 P, ob196 P, ob197 P, ob198 P, ob199 P, ob200 P, ob201 P, ob202 P, ob203 P, ob204 P, ob205 P, ob206 P, ob207 P, ob208 P, ob209 P, ob210 P, ob211 P, ob212 P, ob213 P, ob214 P, ob215 P, ob216 P, ob217 P, ob218 P, ob219 P, ob220 P, ob221 P, ob222 P, ob223 P, ob224 P, ob225 P, ob226 P, ob227 P, ob228 P, ob229 P, ob230 P, ob231 P, ob232 P, ob233 P, ob234 P, ob235 P, ob236 P, ob237 P, ob238 P, ob239 P, ob240 P, ob241 P, ob242 P, ob243 P, ob244 P, ob245 P, ob246 P, ob247 P, ob248 P, ob249 P, ob250 P, ob251 P, ob252 P, ob253 P, ob254 P, ob255 P, ob256 P, ob257 P, ob258 P, ob259 P, ob260 P, ob261 P, ob262 P, ob263 P, ob264 P, ob265 P, ob266 P, ob267 P, ob268 P, ob269 P, ob270 P]⟩, {}⟩
noncomputable def kAs : List Nat := [(nat_lit 2), (nat_lit 3), (nat_lit 32), (nat_lit 34), (nat_lit 35), (nat_lit 37), (nat_lit 38), (nat_lit 39), (nat_lit 41), (nat_lit 42), (nat_lit 44), (nat_lit 45), (nat_lit 46), (nat_lit 48), (nat_lit 49), (nat_lit 51), (nat_lit 52), (nat_lit 53), (nat_lit 54), (nat_lit 55), (nat_lit 56), (nat_lit 57), (nat_lit 58), (nat_lit 59), (nat_lit 60), (nat_lit 61), (nat_lit 62), (nat_lit 63), (nat_lit 64), (nat_lit 65), (nat_lit 66), (nat_lit 67), (nat_lit 68), (nat_lit 69), (nat_lit 70), (nat_lit 71), (nat_lit 72), (nat_lit 73), (nat_lit 74), (nat_lit 75), (nat_lit 76), (nat_lit 77), (nat_lit 78), (nat_lit 79), (nat_lit 80), (nat_lit 81), (nat_lit 82), (nat_lit 83), (nat_lit 84), (nat_lit 85), (nat_lit 86), (nat_lit 88), (nat_lit 89), (nat_lit 91), (nat_lit 92), (nat_lit 96), (nat_lit 97), (nat_lit 99), (nat_lit 103), (nat_lit 105), (nat_lit 106), (nat_lit 108), (nat_lit 109), (nat_lit 110), (nat_lit 112), (nat_lit 113), (nat_lit 115), (nat_lit 116), (nat_lit 117), (nat_lit 119), (nat_lit 120), (nat_lit 122), (nat_lit 123), (nat_lit 124), (nat_lit 131), (nat_lit 133), (nat_lit 134), (nat_lit 136), (nat_lit 137), (nat_lit 138), (nat_lit 139), (nat_lit 140), (nat_lit 143), (nat_lit 150), (nat_lit 152), (nat_lit 153), (nat_lit 155), (nat_lit 156), (nat_lit 157), (nat_lit 159), (nat_lit 160), (nat_lit 162), (nat_lit 163), (nat_lit 164), (nat_lit 166), (nat_lit 167), (nat_lit 169), (nat_lit 170), (nat_lit 171), (nat_lit 172), (nat_lit 173), (nat_lit 176), (nat_lit 178), (nat_lit 179), (nat_lit 181), (nat_lit 182), (nat_lit 183), (nat_lit 185), (nat_lit 186), (nat_lit 188), (nat_lit 189), (nat_lit 190), (nat_lit 192), (nat_lit 193), (nat_lit 195), (nat_lit 196), (nat_lit 197), (nat_lit 199), (nat_lit 200), (nat_lit 202), (nat_lit 203), (nat_lit 204), (nat_lit 206), (nat_lit 207), (nat_lit 209), (nat_lit 210), (nat_lit 211), (nat_lit 213), (nat_lit 214), (nat_lit 216), (nat_lit 217), (nat_lit 218), (nat_lit 220), (nat_lit 221), (nat_lit 223), (nat_lit 224), (nat_lit 225), (nat_lit 227), (nat_lit 228), (nat_lit 230), (nat_lit 231), (nat_lit 232), (nat_lit 234), (nat_lit 235), (nat_lit 237), (nat_lit 238), (nat_lit 239), (nat_lit 241), (nat_lit 242), (nat_lit 244), (nat_lit 245), (nat_lit 246), (nat_lit 249), (nat_lit 250), (nat_lit 251), (nat_lit 253), (nat_lit 254), (nat_lit 256), (nat_lit 257), (nat_lit 258), (nat_lit 261), (nat_lit 262), (nat_lit 263), (nat_lit 265), (nat_lit 266), (nat_lit 268), (nat_lit 269), (nat_lit 270), (nat_lit 272), (nat_lit 273), (nat_lit 275), (nat_lit 276), (nat_lit 277), (nat_lit 280), (nat_lit 281), (nat_lit 282), (nat_lit 284), (nat_lit 285), (nat_lit 287), (nat_lit 288), (nat_lit 289), (nat_lit 291), (nat_lit 292), (nat_lit 294), (nat_lit 295), (nat_lit 296), (nat_lit 298), (nat_lit 299), (nat_lit 301), (nat_lit 302), (nat_lit 303), (nat_lit 305), (nat_lit 306), (nat_lit 308), (nat_lit 309), (nat_lit 310), (nat_lit 313), (nat_lit 314), (nat_lit 315), (nat_lit 317), (nat_lit 318), (nat_lit 320), (nat_lit 321)]
noncomputable def kFr (P : Params) : PySem.W.Frag := [((nat_lit 2), ob2 P), ((nat_lit 3), ob28 P), ((nat_lit 32), ob33 P), ((nat_lit 34), ob35 P), ((nat_lit 35), ob36 P), ((nat_lit 37), ob38 P), ((nat_lit 38), ob39 P), ((nat_lit 39), ob40 P), ((nat_lit 41), ob42 P), ((nat_lit 42), ob43 P), ((nat_lit 44), ob45 P), ((nat_lit 45), ob46 P), ((nat_lit 46), ob47 P), ((nat_lit 48), ob49 P), ((nat_lit 49), ob50 P), ((nat_lit 51), ob52 P), ((nat_lit 52), ob53 P), ((nat_lit 53), ob54 P), ((nat_lit 54), ob55 P), ((nat_lit 55), ob56 P), ((nat_lit 56), ob57 P), ((nat_lit 57), ob58 P), ((nat_lit 58), ob59 P), ((nat_lit 59), ob60 P), ((nat_lit 60), ob61 P), ((nat_lit 61), ob62 P), ((nat_lit 62), ob63 P), ((nat_lit 63), ob64 P), ((nat_lit 64), ob65 P), ((nat_lit 65), ob66 P), ((nat_lit 66), ob67 P), ((nat_lit 67), ob68 P), ((nat_lit 68), ob69 P), ((nat_lit 69), ob70 P), ((nat_lit 70), ob71 P), ((nat_lit 71), ob72 P), ((nat_lit 72), ob73 P), ((nat_lit 73), ob74 P), ((nat_lit 74), ob75 P), ((nat_lit 75), ob76 P), ((nat_lit 76), ob77 P), ((nat_lit 77), ob78 P), ((nat_lit 78), ob79 P), ((nat_lit 79), ob80 P), ((nat_lit 80), ob81 P), ((nat_lit 81), ob82 P), ((nat_lit 82), ob83 P), ((nat_lit 83), ob84 P), ((nat_lit 84), ob85 P), ((nat_lit 85), ob86 P), ((nat_lit 86), ob87 P), ((nat_lit 88), ob89 P), ((nat_lit 89), ob90 P), ((nat_lit 91), ob92 P), ((nat_lit 92), ob93 P), ((nat_lit 96), ob97 P), ((nat_lit 97), ob98 P), ((nat_lit 99), ob100 P), ((nat_lit 103), ob104 P), ((nat_lit 105), ob106 P), ((nat_lit 106), ob107 P), ((nat_lit 108), ob109 P), ((nat_lit 109), ob110 P), ((nat_lit 110), ob111 P), ((nat_lit 112), ob113 P), ((nat_lit 113), ob114 P), ((nat_lit 115), ob116 P), ((nat_lit 116), ob117 P), ((nat_lit 117), ob118 P), ((nat_lit 119), ob120 P), ((nat_lit 120), ob121 P), ((nat_lit 122), ob123 P), ((nat_lit 123), ob124 P), ((nat_lit 124), ob125 P), ((nat_lit 131), ob132 P), ((nat_lit 133), ob134 P), ((nat_lit 134), ob135 P), ((nat_lit 136), ob137 P), ((nat_lit 137), ob138 P), ((nat_lit 138), ob139 P), ((nat_lit 139), ob140 P), ((nat_lit 140), ob141 P), ((nat_lit 143), ob144 P), ((nat_lit 150), ob151 P), ((nat_lit 152), ob153 P), ((nat_lit 153), ob154 P), ((nat_lit 155), ob156 P), ((nat_lit 156), ob157 P), ((nat_lit 157), ob158 P), ((nat_lit 159), ob160 P), ((nat_lit 160), ob161 P), ((nat_lit 162), ob163 P), ((nat_lit 163), ob164 P), ((nat_lit 164), ob165 P), ((nat_lit 166), ob167 P), ((nat_lit 167), ob168 P), ((nat_lit 169), ob170 P), ((nat_lit 170), ob171 P), ((nat_lit 171), ob172 P), ((nat_lit 172), ob173 P), ((nat_lit 173), ob174 P), ((nat_lit 176), ob177 P), ((nat_lit 178), ob179 P), ((nat_lit 179), ob180 P), ((nat_lit 181), ob182 P), ((nat_lit 182), ob183 P), ((nat_lit 183), ob184 P), ((nat_lit 185), ob186 P), ((nat_lit 186), ob187 P), ((nat_lit 188), ob189 P), ((nat_lit 189), ob190 P), ((nat_lit 190), ob191 P), ((nat_lit 192), ob193 P), ((nat_lit 193), ob194 P), ((nat_lit 195), ob196 P), ((nat_lit 196), ob197 P), ((nat_lit 197), ob198 P), ((nat_lit 199), ob200 P), ((nat_lit 200), ob201 P), ((nat_lit 202), ob203 P), ((nat_lit 203), ob204 P), ((nat_lit 204), ob205 P), ((nat_lit 206), ob207 P), ((nat_lit 207), ob208 P), ((nat_lit 209), ob210 P), ((nat_lit 210), ob211 P), ((nat_lit 211), ob212 P), ((nat_lit 213), ob214 P), ((nat_lit 214), ob215 P), ((nat_lit 216), ob217 P), ((nat_lit 217), ob218 P), ((nat_lit 218), ob219 P), ((nat_lit 220), ob221 P), ((nat_lit 221), ob222 P), ((nat_lit 223), ob224 P), ((nat_lit 224), ob225 P), ((nat_lit 225), ob226 P), ((nat_lit 227), ob228 P), ((nat_lit 228), ob229 P), ((nat_lit 230), ob231 P), ((nat_lit 231), ob232 P), ((nat_lit 232), ob233 P), ((nat_lit 234), ob235 P), ((nat_lit 235), ob236 P), ((nat_lit 237), ob238 P), ((nat_lit 238), ob239 P), ((nat_lit 239), ob240 P), ((nat_lit 241), ob242 P), ((nat_lit 242), ob243 P), ((nat_lit 244), ob245 P), ((nat_lit 245), ob246 P), ((nat_lit 246), ob247 P), ((nat_lit 249), ob250 P), ((nat_lit 250), ob251 P), ((nat_lit 251), ob252 P), ((nat_lit 253), ob254 P), ((nat_lit 254), ob255 P), ((nat_lit 256), ob257 P), ((nat_lit 257), ob258 P), ((nat_lit 258), ob259 P), ((nat_lit 261), ob262 P), ((nat_lit 262), ob263 P), ((nat_lit 263), ob264 P), ((nat_lit 265), ob266 P), ((nat_lit 266), ob267 P), ((nat_lit 268), ob269 P), ((nat_lit 269), ob270 P), ((nat_lit 270), ob271 P), ((nat_lit 272), ob273 P), ((nat_lit 273), ob274 P), ((nat_lit 275), ob276 P), ((nat_lit 276), ob277 P), ((nat_lit 277), ob278 P), ((nat_lit 280), ob281 P), ((nat_lit 281), ob282 P), ((nat_lit 282), ob283 P), ((nat_lit 284), ob285 P), ((nat_lit 285), ob286 P), ((nat_lit 287), ob288 P), ((nat_lit 288), ob289 P), ((nat_lit 289), ob290 P), ((nat_lit 291), ob292 P), ((nat_lit 292), ob293 P), ((nat_lit 294), ob295 P), ((nat_lit 295), ob296 P), ((nat_lit 296), ob297 P), ((nat_lit 298), ob299 P), ((nat_lit 299), ob300 P), ((nat_lit 301), ob302 P), ((nat_lit 302), ob303 P), ((nat_lit 303), ob304 P), ((nat_lit 305), ob306 P), ((nat_lit 306), ob307 P), ((nat_lit 308), ob309 P), ((nat_lit 309), ob310 P), ((nat_lit 310), ob311 P), ((nat_lit 313), ob314 P), ((nat_lit 314), ob315 P), ((nat_lit 315), ob316 P), ((nat_lit 317), ob318 P), ((nat_lit 318), ob319 P), ((nat_lit 320), ob321 P), ((nat_lit 321), ob322 P)]
-- view 54 54
noncomputable def vw : Program := { pw with main := { pw.main with body := [stA (nat_lit 0), stA (nat_lit 1), stA (nat_lit 3), stA (nat_lit 4), stA (nat_lit 5), stA (nat_lit 6), stA (nat_lit 7), stA (nat_lit 8), stA (nat_lit 9), stA (nat_lit 10), stA (nat_lit 11), stA (nat_lit 12), stA (nat_lit 13), stA (nat_lit 14), stA (nat_lit 15), stA (nat_lit 16), stA (nat_lit 17), stA (nat_lit 18), stA (nat_lit 19), stA (nat_lit 20), stA (nat_lit 21), stA (nat_lit 22), stA (nat_lit 23), stA (nat_lit 24), stA (nat_lit 25), stA (nat_lit 26), stA (nat_lit 28), stA (nat_lit 29), stA (nat_lit 31), stA (nat_lit 33), stA (nat_lit 35), stA (nat_lit 37), stA (nat_lit 38), stA (nat_lit 40), stA (nat_lit 42), stA (nat_lit 44), stA (nat_lit 45), stA (nat_lit 46), stA (nat_lit 47), stA (nat_lit 48), stA (nat_lit 49), stA (nat_lit 50), stA (nat_lit 52), stA (nat_lit 53), stA (nat_lit 54), stA (nat_lit 55), stA (nat_lit 56), stA (nat_lit 57), stA (nat_lit 58), stA (nat_lit 59), stA (nat_lit 60), stA (nat_lit 61), stA (nat_lit 62), stA (nat_lit 63)] } }
-- law (some (stA 63))
end
end Mine
end

section
set_option Elab.async false
set_option maxRecDepth 100000
set_option maxHeartbeats 8000000
namespace Mine
noncomputable section
open PySem PySem.W PyProof.Rows

noncomputable abbrev lse : List PySem.Str := ["_filemode_table", "_twin_re_1", "_special_chars_map"]
noncomputable abbrev env0 : Env := { scope := pw.main.scope, locals := mainNs, globals := mainNs, cells := [], code := Value.ref 30, frame := some 31 }
noncomputable abbrev bE : List Stmt := behindTheImports pw
noncomputable abbrev cE : Code := Code.body bE env0
noncomputable abbrev q0 : Pos := ⟨0, 0, 0, 0⟩
noncomputable abbrev ann0 : Option Value := some (Value.ref 6)
noncomputable abbrev sH (h : Params → Heap) (k : Nat) (w : World) (os : OsState) : Shared := ⟨h w.params, #[], {}, k, os⟩
noncomputable abbrev g1 : List Stmt := [stA 1, stA 2, stA 3, stA 4, stA 5, stA 6, stA 7, stA 8, stA 9, stA 10, stA 11, stA 12, stA 13, stA 14, stA 15, stA 16, stA 17, stA 18, stA 19, stA 20, stA 21, stA 22, stA 23]
noncomputable abbrev g2 : List Stmt := [stA 24, stA 25, stA 26, stA 27]
noncomputable abbrev g3 : List Stmt := [stA 28]
noncomputable abbrev g4 : List Stmt := [stA 29, stA 30, stA 31, stA 32, stA 33, stA 34, stA 35, stA 36]
noncomputable abbrev g5 : List Stmt := [stA 37, stA 38, stA 39, stA 40, stA 41]
noncomputable abbrev g6 : List Stmt := [stA 42, stA 43, stA 44, stA 45, stA 46, stA 47, stA 48, stA 49, stA 50, stA 51, stA 52, stA 53, stA 54, stA 55]
noncomputable abbrev g7 : List Stmt := [stA 56, stA 57, stA 58, stA 59, stA 60, stA 61, stA 62, stA 63]
theorem open_h (w : World) : (fencedOpening treeTable pw w 6522).map (fun s => (s.heap, s.gens, s.drawn, s.toks)) = some (hp0 w.params, #[], {}, 276) := by
  rw [Fast.te14364793385576792824]
  kernel_rfl
theorem pc_pre (w : World) : (fun os => topGo treeTable pw w 28 ann0 12 (sH hp0 276 w os) (topStub pw)) = fun os => some (sH hpa 282 w os, ⟨denote treeTable cE, cE, q0, [topFrame q0]⟩) := by
  rw [Fast.te15667345088766844465, Fast.te11892475500146522536, Fast.te14364793385576792824]
  kernel_rfl
theorem pc_block (w : World) : (fun os => segRun treeTable pw w 28 ann0 1 1 (sH hpa 282 w os) (blockOf bE env0 cE q0 [topFrame q0])) = fun os => some (.next, sH hpa 282 w os, cE, q0) := by
  rw [Fast.te14374325043358763698, Fast.te14364793385576792824]
  kernel_rfl
noncomputable abbrev PcP1 (w : World) : Prop := (fun os => segRun treeTable pw w 28 ann0 1 268 (sH hpa 282 w os) (piecesOf g1 env0 cE q0 [topFrame q0])) = fun os => some (.next, sH hpb 343 w os, cE, ⟨28, 0, 28, 7⟩)
theorem pc1 (w : World) : PcP1 w := by
  unfold PcP1
  rw [Fast.te14374325043358763698, Fast.te14364793385576792824]
  kernel_rfl
noncomputable abbrev PcP2 (w : World) : Prop := (fun os => segRun treeTable pw w 28 ann0 1 286 (sH hpb 343 w os) (piecesOf g2 env0 cE ⟨28, 0, 28, 7⟩ [topFrame q0])) = fun os => some (.next, sH hpc 421 w os, cE, ⟨48, 0, 48, 8⟩)
theorem pc2 (w : World) : PcP2 w := by
  unfold PcP2
  rw [Fast.te14374325043358763698, Fast.te14364793385576792824]
  kernel_rfl
noncomputable abbrev PcP3 (w : World) : Prop := (fun os => segRun treeTable pw w 28 ann0 1 1253 (sH hpc 421 w os) (piecesOf g3 env0 cE ⟨48, 0, 48, 8⟩ [topFrame q0])) = fun os => some (.next, sH hpd 567 w os, cE, ⟨49, 0, 49, 18⟩)
theorem pc3ff (w : World) : PcP3 ((w.withFollow "special-get-raises" false).withFollow "comprehension-iter-twice" false) := by
  unfold PcP3
  rw [Fast.te14374325043358763698, Fast.te14364793385576792824]
  kernel_rfl
theorem pc3ft (w : World) : PcP3 ((w.withFollow "special-get-raises" false).withFollow "comprehension-iter-twice" true) := by
  unfold PcP3
  rw [Fast.te14374325043358763698, Fast.te14364793385576792824]
  kernel_rfl
theorem pc3tf (w : World) : PcP3 ((w.withFollow "special-get-raises" true).withFollow "comprehension-iter-twice" false) := by
  unfold PcP3
  rw [Fast.te14374325043358763698, Fast.te14364793385576792824]
  kernel_rfl
theorem pc3tt (w : World) : PcP3 ((w.withFollow "special-get-raises" true).withFollow "comprehension-iter-twice" true) := by
  unfold PcP3
  rw [Fast.te14374325043358763698, Fast.te14364793385576792824]
  kernel_rfl
theorem pc3 (w : World) : PcP3 w :=
  byRow2 "comprehension-iter-twice" (P := PcP3) (byRow2 "special-get-raises" (P := fun v => PcP3 (v.withFollow "comprehension-iter-twice" false)) pc3ff pc3tf)
    (byRow2 "special-get-raises" (P := fun v => PcP3 (v.withFollow "comprehension-iter-twice" true)) pc3ft pc3tt) w
noncomputable abbrev PcP4 (w : World) : Prop := (fun os => segRun treeTable pw w 28 ann0 1 347 (sH hpd 567 w os) (piecesOf g4 env0 cE ⟨49, 0, 49, 18⟩ [topFrame q0])) = fun os => some (.next, sH hpe 634 w os, cE, ⟨130, 0, 130, 8⟩)
theorem pc4 (w : World) : PcP4 w := by
  unfold PcP4
  rw [Fast.te14374325043358763698, Fast.te14364793385576792824]
  kernel_rfl
noncomputable abbrev PcP5 (w : World) : Prop := (fun os => segRun treeTable pw w 28 ann0 1 389 (sH hpe 634 w os) (piecesOf g5 env0 cE ⟨130, 0, 130, 8⟩ [topFrame q0])) = fun os => some (.next, sH hpf 696 w os, cE, ⟨166, 0, 166, 8⟩)
theorem pc5 (w : World) : PcP5 w := by
  unfold PcP5
  rw [Fast.te14374325043358763698, Fast.te14364793385576792824]
  kernel_rfl
noncomputable abbrev PcP6 (w : World) : Prop := (fun os => segRun treeTable pw w 28 ann0 1 394 (sH hpf 696 w os) (piecesOf g6 env0 cE ⟨166, 0, 166, 8⟩ [topFrame q0])) = fun os => some (.next, sH hpg 815 w os, cE, ⟨275, 0, 281, 16⟩)
theorem pc6 (w : World) : PcP6 w := by
  unfold PcP6
  rw [Fast.te14374325043358763698, Fast.te14364793385576792824]
  kernel_rfl
noncomputable abbrev PcP7 (w : World) : Prop := (fun os => segRun treeTable pw w 28 ann0 1 268 (sH hpg 815 w os) (piecesOf g7 env0 cE ⟨275, 0, 281, 16⟩ [topFrame q0])) = fun os => some (.next, sH hp1 910 w os, cE, ⟨387, 0, 402, 15⟩)
theorem pc7 (w : World) : PcP7 w := by
  unfold PcP7
  rw [Fast.te14374325043358763698, Fast.te14364793385576792824]
  kernel_rfl
theorem pc_fin (w : World) : (fun os => topRun treeTable pw w 28 ann0 2 (sH hp1 910 w os) ⟨doneF .next, cE, ⟨387, 0, 402, 15⟩, [topFrame q0]⟩) = fun os => some (sH hp1 910 w os) := by
  rw [Fast.te14082659384304107361, Fast.te14364793385576792824]
  kernel_rfl
theorem body_h : bE = g1 ++ (g2 ++ (g3 ++ (g4 ++ (g5 ++ (g6 ++ (g7 ++ [])))))) := by kernel_rfl
noncomputable abbrev stepsH : Nat := 12 + (1 + (268 + (286 + (1253 + (347 + (389 + (394 + (268 + 2))))))))
theorem run_h (w : World) (os : OsState) : topRun treeTable pw w 28 ann0 stepsH (sH hp0 276 w os) (topStub pw) = some (sH hp1 910 w os) := by
  refine go_top (congrFun (pc_pre w) os) (piece_block (congrFun (pc_block w) os) ?_)
  have k := piece_app (rest := g2 ++ (g3 ++ (g4 ++ (g5 ++ (g6 ++ (g7 ++ [])))))) (congrFun (pc1 w) os) (piece_app (congrFun (pc2 w) os) (piece_app (congrFun (pc3 w) os) (piece_app (congrFun (pc4 w) os) (piece_app (congrFun (pc5 w) os)
    (piece_app (congrFun (pc6 w) os) (piece_app (congrFun (pc7 w) os) (piece_nil (congrFun (pc_fin w) os))))))))
  rw [← body_h] at k
  exact k
end
end Mine
end

section
set_option Elab.async false
set_option maxRecDepth 100000
set_option maxHeartbeats 8000000
namespace Mine
noncomputable section
open PySem PySem.W PyProof.Rows
theorem size_h (w : World) : ((hp0 w.params).isNs mainGlobals && (#[] : Array GenState).size == 0, (hp0 w.params).objs.size, (hp0 w.params).nsMap mainGlobals "__annotations__") = (true, 28, some (Value.ref 6)) := by
  kernel_rfl
noncomputable abbrev hkH : Hook := kmHook kFr kAs (fun _ => by kernel_rfl) [111]
noncomputable abbrev xtH : Shared → Bool := fun s => xlAt vw [] s && recOk (RowW.records PySem.Challenge.rw_in0238_01.row.toRowW) s
theorem looks1 (w : World) (os : OsState) : (staticsOk (importedModules pw.main.body) (hp0 w.params) (hp1 w.params) && namesBound pw (hp1 w.params) && gensDone ⟨hp1 w.params, #[], {}, 910, os⟩ && laidKept (hp0 w.params) (hp1 w.params)) = true := by
  rw [Fast.te5923862056798008813]
  kernel_rfl
theorem looks2 (w : World) (os : OsState) : openSeen vw lse (importedModules pw.main.body) xtH true ⟨hp1 w.params, #[], {}, 910, os⟩ = openGood vw lse := by
  rw [Fast.te5923862056798008813, Fast.te4187177175401517315]
  kernel_rfl
theorem looks3 (w : World) (os : OsState) : hkH.obs ⟨hp1 w.params, #[], {}, 910, os⟩ = hkH.val w := by
  kernel_rfl
end
end Mine
end

section
set_option Elab.async false
set_option maxRecDepth 100000
set_option maxHeartbeats 8000000
namespace Mine
noncomputable section
open PySem PySem.W PyProof.Rows
noncomputable def lawD : DefRec := ⟨"law", aPar (stA 63), aBody (stA 63), aSco (stA 63), aPos (stA 63)⟩
theorem said_h : OpenLaw.wellSaid PySem.Challenge.rw_in0238_01 = true := by
  rw [Fast.te9446332074065402090]
  kernel_rfl
theorem hd2 (walk : WalkO vw lse (XL vw []) (Hook.says hkH) PySem.Challenge.rw_in0238_01.row.toRowW lawD [] fun f vs => PySem.call f vs) : PySem.Challenge.rw_in0238_01.Holds := by
  refine holds_law said_h fun said => ?_
  refine holds_open (q := vw) (loose := lse) (Xt := xtH) (XP := XL vw []) (Yf := Hook.obs hkH) (Ya := Hook.val hkH) (YP := Hook.says hkH) (d := lawD) (kwd := []) (N := 6522)
    (LeftO.of_pieces (H₀ := hp0) (H₁ := hp1) (gs₀ := #[]) (gs₁ := #[]) (d₀ := {}) (d₁ := {}) (k₀ := 276) (k₁ := 910) (m₀ := 28) (ann := some (Value.ref 6)) (M := stepsH) open_h size_h
      run_h (by rfl) (fun w => funext fun os => Prod.ext (looks1 w os) (Prod.ext (looks2 w os) (looks3 w os))))
    (Hook.of hkH) (Hook.keeps hkH) (fun s e => xl_of s (Bool.and_eq_true_iff.mp e).1) XL.keeps ?a ?b ?c (fun s e => recFacts_of (Bool.and_eq_true_iff.mp e).2) (by rfl) said (by decide +kernel) ⟨rfl, rfl, rfl, rfl, rfl, by decide +kernel⟩ ?w walk
  case a => kernel_rfl
  case b => kernel_rfl
  case c => kernel_rfl
  case w => w_witness2
end
end Mine
end

section
namespace Mine
open PySem PySem.Calls PySem.Spec PySem.W PyProof.Rows
set_option maxRecDepth 100000

/-- plain data -/
inductive V where
  | none
  | bool (b : Bool)
  | int (i : Int)
  | str (s : Str)
  | typ (n : String)
  | tup (l : List V)
  | lst (l : List V)
  | dct (l : List (Str × V))
  deriving Inhabited

noncomputable abbrev Pm := Addr → Option Obj
/-- the address of the one code table that the law's run writes -/
noncomputable abbrev tbA : Addr := 111

mutual
inductive VR (w : World) (B : Pm) : V → Value → Prop
  | none : VR w B .none .none
  | bool (b : Bool) : VR w B (.bool b) (.bool b)
  | int (i : Int) (t : Tok) : VR w B (.int i) (.int i t)
  | str (x : Str) (t : Tok) : VR w B (.str x) (.str x t)
  | typ (n : String) : VR w B (.typ n) (.type n)
  | tup {l : List V} {a : Addr} {vs : List Value} {n : Nat} : B a = some { cls := .type "tuple", data := .seq vs.toArray n } → VRs w B l vs → VR w B (.tup l) (.ref a)
  | lst {l : List V} {a : Addr} {vs : List Value} {n : Nat} : B a = some { cls := .type "list", data := .seq vs.toArray n } → VRs w B l vs → VR w B (.lst l) (.ref a)
  | dct {l : List (Str × V)} {a : Addr} {o : Obj} {es : List DictEntry} : B a = some o → o.ExactDict → (∃ n, o.data = .dict es.toArray n) → VRd w B l es → (l.map (·.1)).Nodup → (a == sysModules) = false → VR w B (.dct l) (.ref a)
inductive VRs (w : World) (B : Pm) : List V → List Value → Prop
  | nil : VRs w B [] []
  | cons {v : V} {x : Value} {l : List V} {xs : List Value} : VR w B v x → VRs w B l xs → VRs w B (v :: l) (x :: xs)
inductive VRd (w : World) (B : Pm) : List (Str × V) → List DictEntry → Prop
  | nil : VRd w B [] []
  | cons {k : Str} {t : Tok} {v : V} {x : Value} {l : List (Str × V)} {es : List DictEntry} : VR w B v x → VRd w B l es → VRd w B ((k, v) :: l) (⟨hashStr w k, .str k t, x⟩ :: es)
end

/-- an object that a datum may lie in -/
noncomputable def DatO (o : Obj) : Prop := o.cls = .type "tuple" ∨ o.cls = .type "list" ∨ o.ExactDict

mutual
theorem VR.up {w : World} {B B' : Pm} (h : ∀ b o, B b = some o → DatO o → B' b = some o) : ∀ {v : V} {x : Value}, VR w B v x → VR w B' v x
  | _, _, .none => .none
  | _, _, .bool b => .bool b
  | _, _, .int i t => .int i t
  | _, _, .str x t => .str x t
  | _, _, .typ n => .typ n
  | _, _, .tup a d => .tup (h _ _ a (.inl rfl)) (VRs.up h d)
  | _, _, .lst a d => .lst (h _ _ a (.inr (.inl rfl))) (VRs.up h d)
  | _, _, .dct a b c d e f => .dct (h _ _ a (.inr (.inr b))) b c (VRd.up h d) e f
theorem VRs.up {w : World} {B B' : Pm} (h : ∀ b o, B b = some o → DatO o → B' b = some o) : ∀ {v : List V} {x : List Value}, VRs w B v x → VRs w B' v x
  | _, _, .nil => .nil
  | _, _, .cons a b => .cons (VR.up h a) (VRs.up h b)
theorem VRd.up {w : World} {B B' : Pm} (h : ∀ b o, B b = some o → DatO o → B' b = some o) : ∀ {v : List (Str × V)} {x : List DictEntry}, VRd w B v x → VRd w B' v x
  | _, _, .nil => .nil
  | _, _, .cons a b => .cons (VR.up h a) (VRd.up h b)
end

noncomputable def Le (B B' : Pm) : Prop := ∀ b o, B b = some o → B' b = some o
theorem Le.refl (B : Pm) : Le B B := fun _ _ e => e
theorem Le.trans {A B C : Pm} (x : Le A B) (y : Le B C) : Le A C := fun b o e => y b o (x b o e)
theorem VR.le {w : World} {B B' : Pm} {v : V} {x : Value} (h : Le B B') (r : VR w B v x) : VR w B' v x := r.up fun b o e _ => h b o e
theorem VRs.le {w : World} {B B' : Pm} {v : List V} {x : List Value} (h : Le B B') (r : VRs w B v x) : VRs w B' v x := r.up fun b o e _ => h b o e
theorem VRd.le {w : World} {B B' : Pm} {v : List (Str × V)} {x : List DictEntry} (h : Le B B') (r : VRd w B v x) : VRd w B' v x := r.up fun b o e _ => h b o e

theorem VRs.length {w : World} {B : Pm} : ∀ {l : List V} {xs : List Value}, VRs w B l xs → xs.length = l.length
  | _, _, .nil => rfl
  | _, _, .cons _ h => congrArg (· + 1) h.length
theorem VRs.get {w : World} {B : Pm} : ∀ {l : List V} {xs : List Value}, VRs w B l xs → ∀ (i : Nat) (v : V), l[i]? = some v → ∃ x, xs[i]? = some x ∧ VR w B v x
  | _, _, .cons a h, 0, v, e => by cases e; exact ⟨_, rfl, a⟩
  | _, _, .cons a h, i + 1, v, e => h.get i v e
theorem VRs.get' {w : World} {B : Pm} : ∀ {l : List V} {xs : List Value}, VRs w B l xs → ∀ (i : Nat) (x : Value), xs[i]? = some x → ∃ v, l[i]? = some v ∧ VR w B v x
  | _, _, .cons a h, 0, x, e => by cases e; exact ⟨_, rfl, a⟩
  | _, _, .cons a h, i + 1, x, e => h.get' i x e
theorem VRs.append {w : World} {B : Pm} : ∀ {l : List V} {xs : List Value} {l' : List V} {xs' : List Value}, VRs w B l xs → VRs w B l' xs' → VRs w B (l ++ l') (xs ++ xs')
  | _, _, _, _, .nil, h => h
  | _, _, _, _, .cons a g, h => .cons a (g.append h)
theorem VRs.one {w : World} {B : Pm} {v : V} {x : Value} (h : VR w B v x) : VRs w B [v] [x] := .cons h .nil
theorem VRs.take {w : World} {B : Pm} : ∀ {l : List V} {xs : List Value} (n : Nat), VRs w B l xs → VRs w B (l.take n) (xs.take n)
  | _, _, 0, _ => by simpa using VRs.nil
  | _, _, _ + 1, .nil => .nil
  | _, _, n + 1, .cons a h => .cons a (h.take n)
theorem VRs.drop {w : World} {B : Pm} : ∀ {l : List V} {xs : List Value} (n : Nat), VRs w B l xs → VRs w B (l.drop n) (xs.drop n)
  | _, _, 0, h => h
  | _, _, _ + 1, .nil => .nil
  | _, _, n + 1, .cons _ h => h.drop n
theorem VRs.reverse {w : World} {B : Pm} : ∀ {l : List V} {xs : List Value}, VRs w B l xs → VRs w B l.reverse xs.reverse
  | _, _, .nil => .nil
  | _, _, .cons a h => by simp only [List.reverse_cons]; exact h.reverse.append (.one a)

/-- what the state bears besides: the static facts, as a property of all heaps over B -/
structure StatH (K : Frag) (mg mb : Str → Option Value) (h : Heap) : Prop where
  inK : K.In h
  g : h.Ns mainGlobals mg
  b : h.Ns builtinsNs mb
  boot : ∀ x : Str, x ≠ "__name__" → mb x = bootBuiltins x
  lim : h.NoLimit
  bmain : ∃ bm ob, mg "__builtins__" = some (.ref bm) ∧ bm ≠ builtinsNs ∧ bm ≠ tbA ∧ h.get? bm = some ob ∧ ob.cls = .type "module" ∧ ob.dict = some builtinsNs ∧ ob.data = .plain
noncomputable def Sub (B : Pm) (h : Heap) : Prop := ∀ b o, B b = some o → h.get? b = some o
structure Stat (K : Frag) (mg mb : Str → Option Value) (B : Pm) : Prop where
  all : ∀ h : Heap, Sub B h → StatH K mg mb h
  inB : ∀ a o, K.lookup a = some o → B a = some o
theorem Stat.le {K : Frag} {mg mb : Str → Option Value} {B B' : Pm} (x : Stat K mg mb B) (h : Le B B') : Stat K mg mb B' := ⟨fun g s => x.all g fun b o e => s b o (h b o e), fun a o e => h a o (x.inB a o e)⟩

noncomputable def TabOK (h : Heap) : Prop := ∃ ps, h.get? tbA = some (tabObj ps) ∧ TriplesOk ps.toList

structure G0 (K : Frag) (mg mb : Str → Option Value) (B : Pm) (s : Shared) : Prop where
  sub : Sub B s.heap
  stat : Stat K mg mb B
  tabB : B tbA = none
  tab : TabOK s.heap

/-- t = false: nothing that stood is turned; t = true: the one code table may grow -/
structure Kp (t : Bool) (s s' : Shared) : Prop where
  os : s'.os = s.os
  keep : ∀ b o, (t = true → b ≠ tbA) → s.heap.get? b = some o → s'.heap.get? b = some o
  small : t = false → ∃ h' tk, s' = { s with heap := h', toks := tk }
  bare : AllBare s.gens → AllBare s'.gens
theorem Kp.refl {t : Bool} (s : Shared) : Kp t s s := ⟨rfl, fun _ _ _ e => e, fun _ => ⟨s.heap, s.toks, rfl⟩, id⟩
theorem Kp.trans {t : Bool} {a b c : Shared} (x : Kp t a b) (y : Kp t b c) : Kp t a c :=
  ⟨y.os.trans x.os, fun p o h e => y.keep p o h (x.keep p o h e), fun h => by
    obtain ⟨h1, t1, rfl⟩ := x.small h
    obtain ⟨h2, t2, rfl⟩ := y.small h
    exact ⟨h2, t2, rfl⟩, fun h => y.bare (x.bare h)⟩
theorem Kp.up {t : Bool} {a b : Shared} (x : Kp false a b) : Kp t a b := ⟨x.os, fun p o _ e => x.keep p o (fun h => nomatch h) e, fun _ => x.small rfl, x.bare⟩
theorem Kp.toks {t : Bool} (s : Shared) (tk : Nat) : Kp t s { s with toks := tk } := ⟨rfl, fun _ _ _ e => e, fun _ => ⟨s.heap, tk, rfl⟩, id⟩
theorem Kp.heap {t : Bool} (s : Shared) {h' : Heap} (tk : Nat) (k : ∀ b o, s.heap.get? b = some o → h'.get? b = some o) : Kp t s { s with heap := h', toks := tk } := ⟨rfl, fun b o _ e => k b o e, fun _ => ⟨h', tk, rfl⟩, id⟩
theorem Kp.get {t : Bool} {s s' : Shared} (x : Kp t s s') {b : Addr} {o : Obj} (e : s.heap.get? b = some o) (h : b ≠ tbA) : s'.heap.get? b = some o := x.keep b o (fun _ => h) e

/-- room: frames and C units -/
structure Room (n : Nat) (A : Around) : Prop where
  hh : A.handled = none
  depth : A.depth + n < recursionLimit
  units : A.units + 8 * n + 40 < cLine
theorem Room.le {n m : Nat} {A : Around} (r : Room n A) (h : m ≤ n) : Room m A := ⟨r.hh, by have := r.depth; omega, by have := r.units; omega⟩
theorem Room.here {n : Nat} {A : Around} (r : Room n A) : A.depth < recursionLimit := by have := r.depth; omega
theorem Room.u {n : Nat} {A : Around} (r : Room n A) : A.units < cLine := by have := r.units; omega
theorem Room.deeper {n : Nat} {A : Around} (r : Room (n + 1) A) (env : Env) : Room n (A.deeper env) :=
  ⟨r.hh, by have := r.depth; show A.depth + 1 + n < _; omega, by have := r.units; show A.units + 3 + 8 * n + 40 < _; omega⟩

/-- the contract of a def -/
noncomputable def FnE (prog : Program) (w : World) (K : Frag) (mg mb : Str → Option Value) (t : Bool) (fv : Addr) (n : Nat) (pf : List V → Option V) : Prop :=
  ∀ (A : Around) (args : List V) (vals : List Value) (B : Pm) (s : Shared) (Q E : Value → Shared → Prop) (r : V),
    Room n A → G0 K mg mb B s → VRs w B args vals → pf args = some r →
    (∀ val s' B', G0 K mg mb B' s' → Le B B' → Kp t s s' → (∀ b o, B' b = some o → B b = some o ∨ s.heap.get? b = none) → VR w B' r val → Q val s') →
    wpAny (model prog w) A (call (.ref fv) vals) Q E s

theorem FnE.up {prog : Program} {w : World} {K : Frag} {mg mb : Str → Option Value} {t : Bool} {fv : Addr} {n : Nat} {pf : List V → Option V} (h : FnE prog w K mg mb false fv n pf) : FnE prog w K mg mb t fv n pf :=
  fun A args vals B s Q E r hr g va e k => h A args vals B s Q E r hr g va e fun val s' B' g' l kp gr v => k val s' B' g' l kp.up gr v
theorem FnE.deep {prog : Program} {w : World} {K : Frag} {mg mb : Str → Option Value} {t : Bool} {fv : Addr} {n m : Nat} {pf : List V → Option V} (h : FnE prog w K mg mb t fv n pf) (l : n ≤ m) : FnE prog w K mg mb t fv m pf :=
  fun A args vals B s Q E r hr g va e k => h A args vals B s Q E r (hr.le l) g va e k

inductive Slot where
  | unb
  | val (v : V)
  | own (l : List V)
  | ownd (l : List (Str × V))
  | bm (j : Nat)
  deriving Inhabited

structure Act where
  env : Env
  names : List Str
  h0 : Heap
  B0 : Pm
  /-- may store in cells -/
  st : Bool

noncomputable def VarAt (env : Env) (h : Heap) (x : Str) (v : Value) : Prop :=
  (env.kindOf x = some .local ∧ ∃ m, h.Ns env.locals m ∧ m x = some v) ∨
  ((env.kindOf x = some .cell ∨ env.kindOf x = some .free) ∧ ∃ c, env.cells.lookup x = some c ∧ h.IsCell c (some v))

/-- a bound list.append over the list at a -/
noncomputable def boundApp (a : Addr) : Obj := { cls := .type "builtin_function_or_method", data := .fields #[.builtin "list.append", .ref a] }
noncomputable def appendObj (a : Addr) (o : Obj) : Prop := o = boundApp a

noncomputable def SlotOK (w : World) (B : Pm) (h0 h : Heap) (env : Env) (ad : Nat → Addr) (i : Nat) (x : Str) : Slot → Prop
  | .unb => True
  | .val v => ∃ val, VarAt env h x val ∧ VR w B v val
  | .own l => VarAt env h x (.ref (ad i)) ∧ (B (ad i) = none ∧ h0.get? (ad i) = none) ∧ ∃ vs, h.PlainList (ad i) vs.toArray ∧ VRs w B l vs
  | .ownd l => VarAt env h x (.ref (ad i)) ∧ (B (ad i) = none ∧ h0.get? (ad i) = none) ∧ ((ad i == sysModules) = false ∧ ad i ≠ env.locals) ∧ ∃ o es, h.get? (ad i) = some o ∧ o.ExactDict ∧ (∃ n, o.data = .dict es.toArray n) ∧ VRd w B l es ∧ (l.map (·.1)).Nodup
  | .bm j => ∃ b o, VarAt env h x (.ref b) ∧ B b = some o ∧ appendObj (ad j) o

noncomputable def Slot.owns : Slot → Bool
  | .own _ => true
  | .ownd _ => true
  | _ => false

structure SR (w : World) (K : Frag) (mg mb : Str → Option Value) (X : Act) (ρ : List Slot) (B : Pm) (s : Shared) : Prop where
  g : G0 K mg mb B s
  keep : ∀ b o, b ≠ tbA → X.h0.get? b = some o → s.heap.get? b = some o
  grow : ∀ b o, B b = some o → X.B0 b = some o ∨ X.h0.get? b = none
  mono : Le X.B0 B
  frame : ∃ m, s.heap.Ns X.env.locals m
  frameB : B X.env.locals = none
  cellB : ∀ x c, X.env.cells.lookup x = some c → B c = none
  cellLive : ∀ x c, X.env.cells.lookup x = some c → ∃ v, s.heap.IsCell c v
  slots : ∃ ad : Nat → Addr, (∀ i x sl, X.names[i]? = some x → ρ[i]? = some sl → SlotOK w B X.h0 s.heap X.env ad i x sl) ∧
    ∀ i j a b, i < X.names.length → j < X.names.length → ρ[i]? = some a → ρ[j]? = some b → a.owns = true → b.owns = true → ad i = ad j → i = j

/-- static conditions on an activation -/
structure ActOK (X : Act) : Prop where
  fn : X.env.scope.kind = .function
  nd : X.names.Nodup
  glob : X.env.globals = mainGlobals
  bi : X.env.builtins = builtinsNs
  newL : X.h0.get? X.env.locals = none
  newC : ∀ x c, X.st = true → X.env.kindOf x = some .cell → X.env.cells.lookup x = some c → X.h0.get? c = none
  neC : ∀ x c, X.env.cells.lookup x = some c → c ≠ X.env.locals
  apart : ∀ x y c, X.env.cells.lookup x = some c → X.env.cells.lookup y = some c → x = y
  sub0 : ∀ b o, X.B0 b = some o → X.h0.get? b = some o

/-- an expression: p reads its value off the slots -/
noncomputable def EvE' (prog : Program) (w : World) (K : Frag) (mg mb : Str → Option Value) (t : Bool) (X : Act) (n : Nat) (e : Expr) (p : List Slot → Option V) : Prop :=
  ∀ (A : Around) (ρ : List Slot) (B : Pm) (s : Shared) (Q E : Value → Shared → Prop) (v : V),
    Room n A → SR w K mg mb X ρ B s → p ρ = some v →
    (∀ val s' B', SR w K mg mb X ρ B' s' → Le B B' → Kp t s s' → VR w B' v val → Q val s') →
    wpAny (model prog w) A (eval e X.env) Q E s
structure EvE (prog : Program) (w : World) (K : Frag) (mg mb : Str → Option Value) (t : Bool) (X : Act) (n : Nat) (e : Expr) (p : List Slot → Option V) : Prop where
  run : EvE' prog w K mg mb t X n e p
inductive PF where
  | next
  | brk
  | cont
  | ret (v : V)
  deriving Inhabited

noncomputable def FlowOK (w : World) (B : Pm) : PF → Flow → Prop
  | .next, .next => True
  | .brk, .brk => True
  | .cont, .cont => True
  | .ret v, .ret x => VR w B v x
  | _, _ => False

/-- what a statement leaves -/
structure Go (t : Bool) (s s' : Shared) : Prop where
  os : s'.os = s.os
  small : t = false → ∃ h' tk, s' = { s with heap := h', toks := tk }
  tab : t = false → s'.heap.get? tbA = s.heap.get? tbA
  bare : AllBare s.gens → AllBare s'.gens
theorem Go.refl {t : Bool} (s : Shared) : Go t s s := ⟨rfl, fun _ => ⟨s.heap, s.toks, rfl⟩, fun _ => rfl, id⟩
theorem Go.trans {t : Bool} {a b c : Shared} (x : Go t a b) (y : Go t b c) : Go t a c :=
  ⟨y.os.trans x.os, fun h => by
    obtain ⟨h1, t1, rfl⟩ := x.small h
    obtain ⟨h2, t2, rfl⟩ := y.small h
    exact ⟨h2, t2, rfl⟩, fun h => (y.tab h).trans (x.tab h), fun h => y.bare (x.bare h)⟩
theorem Kp.go {t : Bool} {s s' : Shared} (T : TabOK s.heap) (k : Kp t s s') : Go t s s' :=
  ⟨k.os, k.small, fun h => by
    obtain ⟨ps, e, _⟩ := T
    rw [e]; exact k.keep _ _ (fun q => by rw [h] at q; cases q) e, k.bare⟩
theorem Go.heap {t : Bool} {s : Shared} {h' : Heap} {tk : Nat} (T : TabOK s.heap) (k : ∀ o, s.heap.get? tbA = some o → h'.get? tbA = some o) : Go t s { s with heap := h', toks := tk } :=
  ⟨rfl, fun _ => ⟨h', tk, rfl⟩, fun _ => by
    obtain ⟨ps, e, _⟩ := T
    rw [e]; exact k _ e, id⟩
/-- a statement, a block -/
noncomputable def ExE' (prog : Program) (w : World) (K : Frag) (mg mb : Str → Option Value) (t : Bool) (X : Act) (n : Nat) (m : Sem Flow) (p : List Slot → Option (PF × List Slot)) : Prop :=
  ∀ (A : Around) (ρ : List Slot) (B : Pm) (s : Shared) (Q : Flow → Shared → Prop) (E : Value → Shared → Prop) (f : PF) (ρ' : List Slot),
    Room n A → SR w K mg mb X ρ B s → p ρ = some (f, ρ') →
    (∀ fl s' B', SR w K mg mb X ρ' B' s' → Le B B' → Go t s s' → FlowOK w B' f fl → Q fl s') →
    wpAny (model prog w) A m Q E s
structure ExE (prog : Program) (w : World) (K : Frag) (mg mb : Str → Option Value) (t : Bool) (X : Act) (n : Nat) (m : Sem Flow) (p : List Slot → Option (PF × List Slot)) : Prop where
  run : ExE' prog w K mg mb t X n m p
end Mine
end

section
namespace Mine
open PySem PySem.Calls PySem.Spec PySem.W PyProof.Rows
set_option maxRecDepth 100000

theorem ne_tab {h : Heap} {b : Addr} {o : Obj} (T : TabOK h) (e : h.get? b = some o) (d : ∀ ps, o.data ≠ .fields ps) : b ≠ tbA := by
  rintro rfl
  obtain ⟨ps, hp, _⟩ := T
  rw [e] at hp
  cases hp
  exact d _ rfl
theorem Ns.ne_tab {h : Heap} {b : Addr} {m : Str → Option Value} (T : TabOK h) (n : h.Ns b m) : b ≠ tbA := by
  obtain ⟨o, es, ep, e, d, _⟩ := n
  exact Mine.ne_tab T e (fun ps q => by rw [d] at q; cases q)
theorem Cell.ne_tab {h : Heap} {b : Addr} {v : Option Value} (T : TabOK h) (n : h.IsCell b v) : b ≠ tbA := by
  obtain ⟨o, e, d⟩ := n
  exact Mine.ne_tab T e (fun ps q => by rw [d] at q; cases q)
theorem PlainList.ne_tab {h : Heap} {b : Addr} {xs : Array Value} (T : TabOK h) (n : h.PlainList b xs) : b ≠ tbA := by
  obtain ⟨k, e⟩ := n
  exact Mine.ne_tab T e (fun ps q => by cases q)

theorem VarAt.kp {t : Bool} {env : Env} {s s' : Shared} {x : Str} {v : Value} (T : TabOK s.heap) (k : Kp t s s') (h : VarAt env s.heap x v) : VarAt env s'.heap x v := by
  rcases h with ⟨h1, m, h2, h3⟩ | ⟨h1, c, h2, h3⟩
  · exact .inl ⟨h1, m, h2.at' fun o e => k.get e (Ns.ne_tab T h2), h3⟩
  · refine .inr ⟨h1, c, h2, ?_⟩
    obtain ⟨o, e, d⟩ := h3
    exact ⟨o, k.get e (Cell.ne_tab T ⟨o, e, d⟩), d⟩

section
variable {prog : Program} {w : World} {K : Frag} {mg mb : Str → Option Value} {t : Bool} {X : Act} {n : Nat} {ρ : List Slot} {B B' : Pm} {s s' : Shared} {A : Around} {E : Value → Shared → Prop}

noncomputable def Grow (B B' : Pm) (s : Shared) : Prop := ∀ b o, B' b = some o → B b = some o ∨ s.heap.get? b = none

theorem SR.step (h : SR w K mg mb X ρ B s) (g' : G0 K mg mb B' s') (l : Le B B') (k : Kp t s s') (gr : Grow B B' s) : SR w K mg mb X ρ B' s' := by
  have T := h.g.tab
  have off : ∀ b o, s.heap.get? b = some o → B b = none → B' b = none := fun b o e hb => by
    cases q : B' b with
    | none => rfl
    | some o' =>
      rcases gr b o' q with z | z
      · rw [hb] at z; cases z
      · rw [e] at z; cases z
  refine ⟨g', fun b o hb e => k.get (h.keep b o hb e) hb, fun b o e => ?_, h.mono.trans l, ?_, ?_, fun x c hc => ?_, fun x c hc => ?_, ?_⟩
  · rcases gr b o e with z | z
    · exact h.grow b o z
    · right
      cases q : X.h0.get? b with
      | none => rfl
      | some o' =>
        have hb : b ≠ tbA := by rintro rfl; rw [g'.tabB] at e; cases e
        rw [h.keep b o' hb q] at z; cases z
  · obtain ⟨m, hm⟩ := h.frame
    exact ⟨m, hm.at' fun o e => k.get e (Ns.ne_tab T hm)⟩
  · obtain ⟨m, o, es, ep, e, _⟩ := h.frame
    exact off _ _ e h.frameB
  · obtain ⟨v, o, e, d⟩ := h.cellLive x c hc
    exact off _ _ e (h.cellB x c hc)
  · obtain ⟨v, o, e, d⟩ := h.cellLive x c hc
    exact ⟨v, o, k.get e (Cell.ne_tab T ⟨o, e, d⟩), d⟩
  · obtain ⟨ad, h1, h2⟩ := h.slots
    refine ⟨ad, fun i x sl hx hs => ?_, h2⟩
    have := h1 i x sl hx hs
    cases sl with
    | unb => trivial
    | val v =>
      obtain ⟨val, a, b⟩ := this
      exact ⟨val, a.kp T k, b.le l⟩
    | own L =>
      obtain ⟨a, b, vs, c, d⟩ := this
      refine ⟨a.kp T k, ⟨?_, b.2⟩, vs, ?_, d.le l⟩
      · obtain ⟨_, e⟩ := c; exact off _ _ e b.1
      · exact c.at fun o e => k.get e (PlainList.ne_tab T c)
    | ownd L =>
      obtain ⟨a, b, b2, o, es, c, d, ⟨nn, f⟩, g, i⟩ := this
      exact ⟨a.kp T k, ⟨off _ _ c b.1, b.2⟩, b2, o, es, k.get c (ne_tab T c fun ps q => by rw [f] at q; cases q), d, ⟨nn, f⟩, g.le l, i⟩
    | bm j =>
      obtain ⟨b, o, a, c, d⟩ := this
      exact ⟨b, o, a.kp T k, l _ _ c, d⟩
end
end Mine
end

section
namespace Mine
open PySem PySem.Calls PySem.Spec PySem.W PyProof.Rows
set_option maxRecDepth 100000

noncomputable def strV (x : Str) : Option V := if x.length ≤ 4096 then some (.str x) else none
noncomputable def lstV (l : List V) : Option V := if l.length ≤ 4096 then some (.lst l) else none
theorem line_of {n : Nat} (h : n ≤ 4096) : n ≤ sizeLine := by rw [sizeLine_eq]; omega

mutual
noncomputable def toPy : V → Option PyData
  | .none => some .none
  | .bool b => some (.bool b)
  | .int i => some (.int i)
  | .str s => some (.str s)
  | .tup l => (toPys l).map .tuple
  | .lst l => (toPys l).map .list
  | .typ _ => none
  | .dct _ => none
noncomputable def toPys : List V → Option (List PyData)
  | [] => some []
  | v :: r => match toPy v, toPys r with
    | some x, some xs => some (x :: xs)
    | _, _ => none
end
theorem reads_both {w : World} {B : Pm} {h : Heap} (sb : Sub B h) {v : V} {x : Value} (r : VR w B v x) : ∀ d, toPy v = some d → ∃ as, Reads h x d as := by
  refine VR.rec (w := w) (B := B) (motive_1 := fun v x _ => ∀ d, toPy v = some d → ∃ as, Reads h x d as) (motive_2 := fun l xs _ => ∀ ds, toPys l = some ds → ∃ as, ReadsAll h xs ds as) (motive_3 := fun _ _ _ => True)
    ?_ ?_ ?_ ?_ ?_ ?_ ?_ ?_ ?_ ?_ ?_ ?_ r
  · intro d e; cases e; exact ⟨_, .none⟩
  · intro b d e; cases e; exact ⟨_, .bool b⟩
  · intro i t d e; cases e; exact ⟨_, .int i t⟩
  · intro x t d e; cases e; exact ⟨_, .str x t⟩
  · intro n d e; cases e
  · intro l a vs n hb _ ih d e
    simp only [toPy, Option.map_eq_some_iff] at e
    obtain ⟨ds, e, rfl⟩ := e
    obtain ⟨as, r⟩ := ih ds e
    exact ⟨_, .tuple (sb _ _ hb) rfl rfl (by simpa using r)⟩
  · intro l a vs n hb _ ih d e
    simp only [toPy, Option.map_eq_some_iff] at e
    obtain ⟨ds, e, rfl⟩ := e
    obtain ⟨as, r⟩ := ih ds e
    exact ⟨_, .list (sb _ _ hb) rfl rfl (by simpa using r)⟩
  · intro l a o es _ _ _ _ _ _ _ d e; cases e
  · intro d e; cases e; exact ⟨_, .nil⟩
  · intro v x l xs _ _ ih1 ih2 ds e
    simp only [toPys] at e
    split at e
    · rename_i x' xs' e1 e2
      cases e
      obtain ⟨as, r⟩ := ih1 _ e1
      obtain ⟨bs, q⟩ := ih2 _ e2
      exact ⟨_, .cons r q⟩
    · cases e
  · trivial
  · intros; trivial

noncomputable def vEq (a b : V) : Option Bool := match toPy a, toPy b with
  | some x, some y => if SeqAt.shaped x && SeqAt.shaped y then some (PyData.eqv x y) else none
  | _, _ => none
noncomputable def vAdd : V → V → Option V
  | .int a, .int b => some (.int (a + b))
  | .str a, .str b => strV (a ++ b)
  | .lst a, .lst b => lstV (a ++ b)
  | _, _ => none
noncomputable def vSub : V → V → Option V
  | .int a, .int b => some (.int (a - b))
  | _, _ => none
noncomputable def smallI (a : Int) : Bool := -(2 ^ 64) < a && a < 2 ^ 64
noncomputable def vMul : V → V → Option V
  | .int a, .int b => if smallI a then some (.int (a * b)) else none
  | .str ⟨⟨[c]⟩⟩, .int n => if 1 ≤ n ∧ n ≤ 4096 then some (.str ⟨(List.replicate n.toNat c).toArray⟩) else none
  | .lst [v], .int n => if 0 ≤ n ∧ n ≤ 4096 then some (.lst (List.replicate n.toNat v)) else none
  | _, _ => none
noncomputable def vFdiv : V → V → Option V
  | .int a, .int b => if b ≠ 0 ∧ b.natAbs < 1073741824 then some (.int (a.fdiv b)) else none
  | _, _ => none
noncomputable def vMod : V → V → Option V
  | .int a, .int b => if b ≠ 0 then some (.int (a.fmod b)) else none
  | _, _ => none
noncomputable def vPow : V → V → Option V
  | .int a, .int n => if smallI a ∧ 0 ≤ n ∧ n ≤ 64 then some (.int (a ^ n.toNat)) else none
  | _, _ => none
noncomputable def vAnd : V → V → Option V
  | .int a, .int b => some (.int (Builtin.bitAnd a b))
  | _, _ => none
noncomputable def vBin : Operator → V → V → Option V
  | .Add => vAdd
  | .Sub => vSub
  | .Mult => vMul
  | .FloorDiv => vFdiv
  | .Mod => vMod
  | .Pow => vPow
  | .BitAnd => vAnd
  | _ => fun _ _ => none
noncomputable def intsOf : List V → Option (List Int)
  | [] => some []
  | .int i :: r => (intsOf r).map (i :: ·)
  | _ :: _ => none
noncomputable def strsOf : List V → Option (List Str)
  | [] => some []
  | .str x :: r => (strsOf r).map (x :: ·)
  | _ :: _ => none
noncomputable def vIn : V → V → Option Bool
  | .str y, .str x => some (Txt.contains x y)
  | .int k, .lst l => (intsOf l).map fun ns => ns.any (· == k)
  | .str k, .dct l => some (l.any fun p => p.1 == k)
  | .str k, .tup l => (strsOf l).map fun ys => ys.any (· == k)
  | _, _ => none
noncomputable def vCmp : CmpOp → V → V → Option Bool
  | .Eq, a, b => vEq a b
  | .NotEq, a, b => (vEq a b).map (!·)
  | .Lt, .int a, .int b => some (decide (a < b))
  | .LtE, .int a, .int b => some (decide (a ≤ b))
  | .Gt, .int a, .int b => some (decide (a > b))
  | .GtE, .int a, .int b => some (decide (a ≥ b))
  | .LtE, .str x, .str y => some (!(decide (y.cps.toList < x.cps.toList)))
  | .Gt, .str x, .str y => some (decide (y.cps.toList < x.cps.toList))
  | .In, a, b => vIn a b
  | .NotIn, .str y, .str x => some (!Txt.contains x y)
  | .IsNot, .str _, .lst _ => some true
  | _, _, _ => none
noncomputable def vTruth : V → Option Bool
  | .bool b => some b
  | .int i => some (i != 0)
  | .str x => if x.length ≤ 4096 then some (x.length != 0) else none
  | .lst l => if l.length ≤ 4096 then some (!l.isEmpty) else none
  | _ => none

section
variable {prog : Program} {w : World} {K : Frag} {mg mb : Str → Option Value} {A : Around} {B : Pm} {s : Shared}

/-- what a step gives back -/
noncomputable def Back (w : World) (K : Frag) (mg mb : Str → Option Value) (B : Pm) (s : Shared) (r : V) (Q : Value → Shared → Prop) : Prop :=
  ∀ val s' B', G0 K mg mb B' s' → Le B B' → Kp false s s' → Grow B B' s → VR w B' r val → Q val s'
theorem Back.same {r : V} {Q : Value → Shared → Prop} {val : Value} (g : G0 K mg mb B s) (k : Back w K mg mb B s r Q) (v : VR w B r val) : Q val s :=
  k val s B g (Le.refl B) (Kp.refl s) (fun _ _ e => .inl e) v
theorem G0.toks (g : G0 K mg mb B s) (tk : Nat) : G0 K mg mb B { s with toks := tk } := ⟨g.sub, g.stat, g.tabB, g.tab⟩
theorem Back.tok {r : V} {Q : Value → Shared → Prop} {val : Value} (g : G0 K mg mb B s) (k : Back w K mg mb B s r Q) (v : VR w B r val) (tk : Nat) : Q val { s with toks := tk } :=
  k val _ B (g.toks tk) (Le.refl B) (Kp.toks s tk) (fun _ _ e => .inl e) v

noncomputable def put (B : Pm) (a : Addr) (o : Obj) : Pm := fun b => if b = a then some o else B b
theorem put_self {a : Addr} {o : Obj} : put B a o a = some o := if_pos rfl
theorem put_le {a : Addr} {o : Obj} (h : B a = none) : Le B (put B a o) := fun b ob e => by
  unfold put
  split
  · rename_i q; subst q; rw [h] at e; cases e
  · exact e
theorem Sub.none {h : Heap} {a : Addr} (x : Sub B h) (e : h.get? a = none) : B a = none := by
  cases q : B a with
  | none => rfl
  | some o => rw [x _ _ q] at e; cases e
theorem fresh (h : Heap) {a : Addr} (l : h.objs.size ≤ a) : h.get? a = none := by
  cases e : h.get? a with
  | none => rfl
  | some o => exact absurd (Heap.lt_size e) (Nat.not_lt.mpr l)
theorem TabOK.keep {h h' : Heap} (T : TabOK h) (e : ∀ o, h.get? tbA = some o → h'.get? tbA = some o) : TabOK h' := let ⟨ps, a, b⟩ := T; ⟨ps, e _ a, b⟩
theorem G0.put (g : G0 K mg mb B s) {h' : Heap} {a : Addr} {o : Obj} (k : ∀ b o, s.heap.get? b = some o → h'.get? b = some o) (n : s.heap.get? a = none) (e : h'.get? a = some o) (tk : Nat) :
    G0 K mg mb (put B a o) { s with heap := h', toks := tk } := by
  have na : a ≠ tbA := by rintro rfl; obtain ⟨ps, q, _⟩ := g.tab; rw [q] at n; cases n
  refine ⟨fun b ob q => ?_, g.stat.le (put_le (g.sub.none n)), ?_, g.tab.keep fun _ q => k _ _ q⟩
  · unfold Mine.put at q
    split at q
    · rename_i z; subst z; cases q; exact e
    · exact k _ _ (g.sub _ _ q)
  · unfold Mine.put; rw [if_neg (Ne.symm na)]; exact g.tabB
theorem Grow.put {a : Addr} {o : Obj} (n : s.heap.get? a = none) : Grow B (put B a o) s := fun b ob e => by
  unfold Mine.put at e
  split at e
  · rename_i z; subst z; exact .inr n
  · exact .inl e
/-- one new object -/
theorem Back.push {r : V} {Q : Value → Shared → Prop} {o : Obj} (g : G0 K mg mb B s) (k : Back w K mg mb B s r Q) (tk : Nat) (hf : o.isFreed = false)
    (v : VR w (put B s.heap.objs.size o) r (.ref s.heap.objs.size)) : Q (.ref s.heap.objs.size) { s with heap := s.heap.push o, toks := tk } :=
  k _ _ _ (g.put (fun _ _ e => Heap.get?_push_of_some _ e) (fresh _ (Nat.le_refl _)) (Heap.get?_push_size _ hf) tk) (put_le (g.sub.none (fresh _ (Nat.le_refl _))))
    (Kp.heap s tk fun _ _ e => Heap.get?_push_of_some _ e) (Grow.put (fresh _ (Nat.le_refl _))) v

theorem str_cat (x y : Str) : (if x.length == 0 then Made.val (.str y 0) else if y.length == 0 then Made.val (.str x 0) else Made.str (x ++ y)) = (if x.length == 0 then Made.val (.str y 0) else if y.length == 0 then Made.val (.str x 0) else Made.str (x ++ y)) := rfl
theorem Str.eq_empty {x : Str} (h : (x.length == 0) = true) : x = Str.empty := by
  obtain ⟨⟨l⟩⟩ := x
  cases l with
  | nil => rfl
  | cons a r => simp [Str.length] at h
theorem cat_post {x y : Str} {t u : Tok} {r : V} {Q : Value → Shared → Prop} (g : G0 K mg mb B s) (e : strV (x ++ y) = some r) (k : Back w K mg mb B s r Q) :
    (if x.length == 0 then Made.val (.str y u) else if y.length == 0 then Made.val (.str x t) else Made.str (x ++ y)).post Q s := by
  unfold strV at e
  split at e
  · rename_i hl
    cases e
    split
    · rename_i h
      have := Str.eq_empty h
      subst this
      exact k.same g (by rw [Str.empty_append]; exact .str _ _)
    · split
      · rename_i h
        have := Str.eq_empty h
        subst this
        have e2 : x ++ Str.empty = x := by
          obtain ⟨⟨l⟩⟩ := x
          show Str.mk _ = Str.mk _
          simp [Str.empty]
        exact k.same g (by rw [e2]; exact .str _ _)
      · exact ⟨line_of hl, k.tok g (.str _ _) _⟩
  · cases e

theorem rep_lst {α : Type} (c : α) : ∀ (k : Nat) (a : Array α), (List.replicate k #[c]).foldl (fun x y => x ++ y) a = a ++ (List.replicate k c).toArray
  | 0, a => by simp
  | k + 1, a => by
    rw [List.replicate_succ, List.foldl_cons, rep_lst c k, List.replicate_succ]
    apply Array.ext'
    simp
theorem rep_one (c : Nat) (k : Nat) (a : Array Nat) : (List.replicate k #[c]).foldl (· ++ ·) a = a ++ (List.replicate k c).toArray := rep_lst c k a
theorem VRs.rep {v : V} {x : Value} (h : VR w B v x) : ∀ n, VRs w B (List.replicate n v) (List.replicate n x)
  | 0 => .nil
  | n + 1 => by simp only [List.replicate_succ]; exact .cons h (VRs.rep h n)
theorem strsAre_ok : ∀ {l : List V} {xs : List Value} {ns : List Str}, VRs w B l xs → strsOf l = some ns → StrsAre xs ns := fun {l} => by
  induction l with
  | nil => intro xs ns h e; cases h; cases e; exact .nil
  | cons v r ih =>
    intro xs ns h e
    cases h with
    | cons a h =>
      cases v with
      | str i =>
        cases a with
        | str _ t =>
          obtain ⟨ns', e', rfl⟩ := Option.map_eq_some_iff.mp (show (strsOf r).map (i :: ·) = some ns from e)
          exact .cons i t (ih h e')
      | _ => exact nomatch (show (none : Option (List Str)) = some ns from e)
theorem intsOf_ok : ∀ {l : List V} {xs : List Value} {ns : List Int}, VRs w B l xs → intsOf l = some ns → IntsAre xs ns := fun {l} => by
  induction l with
  | nil => intro xs ns h e; cases h; cases e; exact .nil
  | cons v r ih =>
    intro xs ns h e
    cases h with
    | cons a h =>
      cases v with
      | int i =>
        cases a with
        | int _ t =>
          obtain ⟨ns', e', rfl⟩ := Option.map_eq_some_iff.mp (show (intsOf r).map (i :: ·) = some ns from e)
          exact .cons i t (ih h e')
      | _ => exact nomatch (show (none : Option (List Int)) = some ns from e)
theorem mulList {l : Addr} {items : Array Value} {k : Nat} {x : Int} {u : Tok} {Q E : Value → Shared → Prop}
    (hl : s.heap.get? l = some { cls := .type "list", dict := none, data := .seq items k, slots := #[] })
    (hlo : -(2 ^ 63 : Int) ≤ x) (hhi : x < 2 ^ 63) (hsz : items.size * x.toNat ≤ 2 ^ 24)
    (h : Q (.ref s.heap.objs.size) { s with heap := s.heap.push { cls := .type "list", data := .seq (List.foldl (fun x1 x2 => x1 ++ x2) #[] (List.replicate (if items.isEmpty = true then 0 else x.toNat) items)) } }) :
    wpAny (model prog w) A (binaryOp .Mult (.ref l) (.int x u)) Q E s :=
  wpAny_binaryOp_repeat_ref (T := "list") (U := "int") (by decide) ⟨_, hl, rfl⟩ (fun s' => typeIs_int s' x u) noFill_list_mul F.fills_int_mul F.slot_int_rmul repeat_list F.slot_int_index.lookup
    (call_meets F.slot_int_rmul (typeIs_int s x u) F.entry_int_rmul (F.args_int_rmul_2 _ _) (int___rmul___int_list x u l items k)
      ⟨hl, rfl, ⟨_, hl, rfl⟩, call_meets F.slot_list_mul ⟨_, hl, rfl⟩ F.entry_list_mul (F.args_list_mul_2 _ _)
        (AutoListH.list___mul___list_int_3 l items k x u (by simp [Builtin.List.listFitsIndex]; omega) (by omega) (by simp [Builtin.List.listTooLong, sizeLine]; omega))
        ⟨hl, h⟩⟩)
theorem bin_ok {op : Operator} {a b r : V} {x y : Value} {Q E : Value → Shared → Prop} {n : Nat} (hr : Room n A) (g : G0 K mg mb B s) (va : VR w B a x) (vb : VR w B b y) (e : vBin op a b = some r) (k : Back w K mg mb B s r Q) :
    wpAny (model prog w) A (binaryOp op x y) Q E s := by
  cases op <;> simp only [vBin] at e <;> try (cases e; done)
  · -- Add
    unfold vAdd at e
    split at e
    · cases e; cases va; cases vb; exact P.add_int (k.tok g (.int _ _) _)
    · cases va; cases vb; exact P.add_str (cat_post g e k)
    · cases va with
      | lst ha hsa => cases vb with
        | lst hb hsb =>
          unfold lstV at e
          split at e
          · rename_i hl
            cases e
            refine P.add_list (g.sub _ _ ha) (g.sub _ _ hb) (k.push g _ rfl ?_) ?_
            · refine .lst (vs := _ ++ _) (n := 0) ?_ ((hsa.append hsb).le (put_le (g.sub.none (fresh _ (Nat.le_refl _)))))
              rw [put_self]; simp
            · rw [List.size_toArray, List.size_toArray, hsa.length, hsb.length]; rw [List.length_append] at hl; exact line_of hl
          · cases e
    · cases e
  · -- Sub
    unfold vSub at e
    split at e
    · cases e; cases va; cases vb; exact P.sub_int (k.tok g (.int _ _) _)
    · cases e
  · -- Mult
    unfold vMul at e
    split at e
    · split at e
      · rename_i h
        cases e; cases va; cases vb
        simp only [smallI, Bool.and_eq_true, decide_eq_true_eq] at h
        exact P.mul_int (k.tok g (.int _ _) _) (IntMulOk.of_left (intBits_le_64 h.1 h.2))
      · cases e
    · split at e
      · rename_i c n h
        cases e; cases va; cases vb
        have hc : (Str.length ⟨⟨[c]⟩⟩) = 1 := rfl
        refine P.mul_str ?_ ?_ ?_ ?_
        · have h1 : ¬ n < -(2 ^ 63 : Int) := by omega
          have h2 : ¬ n ≥ (2 ^ 63 : Int) := by omega
          rw [decide_eq_false h1, decide_eq_false h2]; rfl
        · intro _ _
          rw [hc]
          have : (1 : Int) ≤ (2 ^ 63 - 1) / n := by
            rw [Int.le_ediv_iff_mul_le (by omega)]; omega
          omega
        · intro _ _
          rw [hc]
          unfold Builtin.Str.tooLong
          rw [sizeLine_eq]
          exact decide_eq_false (by omega)
        · rw [if_neg (by omega), hc]
          split
          · rename_i q
            have hn : n = 1 := by simpa using q
            subst hn
            exact k.same g (.str _ _)
          · refine ⟨?_, k.tok g ?_ _⟩
            · show Array.size _ ≤ _
              rw [rep_one]
              simp only [Array.size_append, List.size_toArray, List.length_replicate, List.length_nil]
              rw [sizeLine_eq]; omega
            · rw [rep_one]
              simp only [Array.empty_append]
              exact .str _ _
      · cases e
    · split at e
      · rename_i v n h
        cases e; cases vb
        cases va with
        | lst ha hsa =>
          cases hsa with
          | cons h1 h2 =>
            cases h2
            rename_i a _ _ x
            refine mulList (g.sub _ _ ha) (by omega) (by omega) (by simp; omega) (k.push g _ rfl ?_)
            refine .lst (vs := List.replicate n.toNat x) (n := 0) ?_ ((VRs.rep h1 _).le (put_le (g.sub.none (fresh _ (Nat.le_refl _)))))
            rw [put_self]
            simp [rep_lst]
      · cases e
    · cases e
  · -- Mod
    unfold vMod at e
    split at e
    · split at e
      · rename_i h
        cases e; cases va; cases vb
        exact mod_int' h (k.tok g (.int _ _) _)
      · cases e
    · cases e
  · -- Pow
    unfold vPow at e
    split at e
    · split at e
      · rename_i a m h
        cases e; cases va; cases vb
        obtain ⟨h1, h2, h3⟩ := h
        simp only [smallI, Bool.and_eq_true, decide_eq_true_eq] at h1
        refine pow_int h2 ?_ (k.tok g (.int _ _) _)
        have hb := intBits_le_64 h1.1 h1.2
        have : (Builtin.Int.intBits a : Int) * m ≤ 64 * 64 := Int.mul_le_mul (by omega) (by omega) (by omega) (by omega)
        have e2 : (2 : Int) ^ 27 = 134217728 := by decide
        omega
      · cases e
    · cases e
  · -- BitAnd
    unfold vAnd at e
    split at e
    · cases e; cases va; cases vb; exact and_int (k.tok g (.int _ _) _)
    · cases e
  · -- FloorDiv
    unfold vFdiv at e
    split at e
    · split at e
      · rename_i h
        cases e; cases va; cases vb
        exact floordiv_int h.1 (k.tok g (.int _ _) _) (Or.inl (PyProof.noPylong_small h.2))
      · cases e
    · cases e
end
end Mine
end

section
namespace Mine
open PySem PySem.Calls PySem.Spec PySem.W PyProof.Rows
set_option maxRecDepth 100000

theorem Room.u64 {n : Nat} {A : Around} (r : Room n A) (h : 4 ≤ n) : A.units + 64 < cLine := by have := r.units; omega

noncomputable def dget (l : List (Str × V)) (k : Str) : Option V := (l.find? (·.1 == k)).map (·.2)

section
variable {prog : Program} {w : World} {K : Frag} {mg mb : Str → Option Value} {A : Around} {B : Pm} {s : Shared}

theorem isStrOf_str (x y : Str) (t : Tok) : Value.isStrOf x (.str y t) = decide (y = x) := by
  show (y == x) = _
  exact Bool.beq_eq_decide_eq y x

theorem vrd_find (k : Str) : ∀ {l : List (Str × V)} {es : List DictEntry}, VRd w B l es →
    (∀ v, dget l k = some v → ∃ x, findBy Value.isStrOf es.toArray k = some x ∧ VR w B v x) ∧ (dget l k = none → findBy Value.isStrOf es.toArray k = none)
  | _, _, .nil => ⟨fun v h => by simp [dget] at h, fun _ => by simp [findBy]⟩
  | _, _, .cons (k := k') (t := t) (v := v) (x := x) (l := l) (es := es) h r => by
    obtain ⟨h1, h2⟩ := vrd_find k r
    by_cases e : k' = k
    · subst e
      refine ⟨fun u hu => ?_, fun hu => ?_⟩
      · simp only [dget, List.find?_cons, beq_self_eq_true, Option.map_some, Option.some.injEq] at hu
        subst hu
        refine ⟨x, ?_, h⟩
        unfold findBy
        rw [List.find?_toArray, List.find?_cons, isStrOf_str]
        simp
      · simp [dget] at hu
    · have e1 : (k' == k) = false := by simpa using e
      have e2 : dget ((k', v) :: l) k = dget l k := by
        simp only [dget, List.find?_cons, e1]
      have e3 : findBy Value.isStrOf (⟨hashStr w k', .str k' t, x⟩ :: es).toArray k = findBy Value.isStrOf es.toArray k := by
        unfold findBy
        rw [List.find?_toArray, List.find?_toArray, List.find?_cons, isStrOf_str]
        simp [e]
      refine ⟨fun u hu => ?_, fun hu => ?_⟩
      · rw [e2] at hu
        rw [e3]; exact h1 u hu
      · rw [e2] at hu
        rw [e3]; exact h2 hu

theorem vrd_keys {l : List (Str × V)} {es : List DictEntry} (h : VRd w B l es) : ∀ e ∈ es, ∃ k t, e.key = .str k t ∧ e.hash = hashStr w k := by
  refine VRd.rec (w := w) (B := B) (motive_1 := fun _ _ _ => True) (motive_2 := fun _ _ _ => True) (motive_3 := fun _ es _ => ∀ e ∈ es, ∃ k t, e.key = .str k t ∧ e.hash = hashStr w k) trivial (fun _ => trivial) (fun _ _ => trivial) (fun _ _ => trivial) (fun _ => trivial) ?_ ?_ ?_ trivial ?_ ?_ ?_ h
  · intros; trivial
  · intros; trivial
  · intros; trivial
  · intros; trivial
  · intro e he; cases he
  · intro k t v x l es _ _ _ ih e he
    rcases List.mem_cons.mp he with rfl | m
    · exact ⟨_, _, rfl, rfl⟩
    · exact ih e m

theorem vrd_map {l : List (Str × V)} {es : List DictEntry} {h : Heap} {a : Addr} {o : Obj} (r : VRd w B l es) (e : h.get? a = some o) (x : o.ExactDict) (d : ∃ n, o.data = .dict es.toArray n) :
    h.MapOf (strKind prog w) a (findBy Value.isStrOf es.toArray) := by
  obtain ⟨n, d⟩ := d
  refine ⟨o, es.toArray, n, e, x, d, fun e' he => ?_, fun k => rfl⟩
  obtain ⟨k, t, h1, h2⟩ := vrd_keys r e' (by simpa using he)
  exact ⟨k, by rw [h1]; exact strKind_is prog w k t, h2⟩

theorem cmp_ok {op : CmpOp} {a b : V} {r : Bool} {x y : Value} {Q E : Value → Shared → Prop} {n : Nat} (hr : Room n A) (h4 : 4 ≤ n) (g : G0 K mg mb B s) (va : VR w B a x) (vb : VR w B b y) (e : vCmp op a b = some r)
    (k : ∀ tk, Q (.bool r) { s with toks := tk }) :
    wpAny (model prog w) A (compareOp op x y) Q E s := by
  have k0 : Q (.bool r) s := k s.toks
  unfold vCmp at e
  split at e
  · -- Eq
    unfold vEq at e
    split at e
    · rename_i p q hp hq
      split at e
      · rename_i hs
        cases e
        simp only [Bool.and_eq_true] at hs
        obtain ⟨as, ra⟩ := reads_both g.sub va _ hp
        obtain ⟨bs, rb⟩ := reads_both g.sub vb _ hq
        exact eq_dataH ra rb hs.1 hs.2 (hr.u64 h4) k0
      · cases e
    · cases e
  · simp only [Option.map_eq_some_iff] at e
    obtain ⟨r', e, rfl⟩ := e
    unfold vEq at e
    split at e
    · rename_i p q hp hq
      split at e
      · rename_i hs
        cases e
        simp only [Bool.and_eq_true] at hs
        obtain ⟨as, ra⟩ := reads_both g.sub va _ hp
        obtain ⟨bs, rb⟩ := reads_both g.sub vb _ hq
        exact ne_dataH ra rb hs.1 hs.2 (hr.u64 h4) k0
      · cases e
    · cases e
  · cases e; cases va; cases vb; exact P.lt_int k0
  · cases e; cases va; cases vb; exact P.le_int k0
  · cases e; cases va; cases vb; exact P.gt_int k0
  · cases e; cases va; cases vb; exact P.ge_int k0
  · cases e; cases va; cases vb; exact P.le_str k0
  · cases e; cases va; cases vb; exact P.gt_str k0
  · unfold vIn at e
    split at e
    · cases e; cases va; cases vb; exact P.in_str k0
    · simp only [Option.map_eq_some_iff] at e
      obtain ⟨ns, e, rfl⟩ := e
      cases va
      cases vb with
      | lst hb hsb =>
        exact in_list_ints ⟨_, g.sub _ _ hb, rfl, _, rfl⟩ (intsOf_ok hsb e) k0
    · rename_i kk l
      cases e
      cases va
      cases vb with
      | @dct _ _ _ es hb hx hd hv hn hm =>
        refine wpAny_in_of (strKind_is prog w _ _) hm (vrd_map hv (g.sub _ _ hb) hx hd) ?_
        obtain ⟨f1, f2⟩ := vrd_find kk hv
        have : (findBy Value.isStrOf es.toArray kk).isSome = (l.any fun p => p.1 == kk) := by
          cases q : dget l kk with
          | none =>
            rw [f2 q]
            simp only [dget, Option.map_eq_none_iff, List.find?_eq_none] at q
            symm
            simp only [Option.isSome_none, List.any_eq_false]
            exact q
          | some v =>
            obtain ⟨x', hx', _⟩ := f1 v q
            rw [hx']
            simp only [dget, Option.map_eq_some_iff] at q
            obtain ⟨p, q, _⟩ := q
            symm
            simp only [Option.isSome_some, List.any_eq_true]
            exact ⟨p, List.mem_of_find?_eq_some q, List.find?_some (p := fun e : Str × V => e.1 == kk) q⟩
        rw [this]
        exact k _
    · simp only [Option.map_eq_some_iff] at e
      obtain ⟨ns, e, rfl⟩ := e
      cases va
      cases vb with
      | tup hb hsb => exact in_tuple_strs ⟨_, g.sub _ _ hb, rfl, _, rfl⟩ (strsAre_ok hsb e) k0
    · cases e
  · cases e; cases va; cases vb; exact P.notIn_str k0
  · cases e
    cases va
    cases vb with
    | lst hb hsb =>
      exact wpAny_isNot_other rfl (fun q => nomatch q) k0
  · cases e

theorem truth_ok {a : V} {r : Bool} {x : Value} {Q : Bool → Shared → Prop} {E : Value → Shared → Prop} (g : G0 K mg mb B s) (va : VR w B a x) (e : vTruth a = some r) (k : ∀ tk, Q r { s with toks := tk }) :
    wpAny (model prog w) A (truthy x) Q E s := by
  unfold vTruth at e
  split at e
  · cases e; cases va; exact wpAny_truthy_bool (k s.toks)
  · cases e; cases va; exact P.truthy_int (k s.toks)
  · split at e
    · rename_i x' hl
      cases e; cases va
      refine P.truthy_str ?_ ?_
      · omega
      · have q : ((Str.length x' : Int) != 0) = (Str.length x' != 0) := by
          rw [Bool.eq_iff_iff]; simp
        rw [q]; exact k _
    · cases e
  · split at e
    · rename_i l hl
      cases e
      cases va with
      | @lst _ _ vs _ hb hsb =>
        refine wpAny_truthy_list ⟨_, g.sub _ _ hb, rfl, _, rfl⟩ ?_ ?_
        · rw [List.size_toArray, hsb.length]; omega
        · have q : vs.toArray.isEmpty = l.isEmpty := by
            rw [List.isEmpty_toArray]
            cases hsb <;> rfl
          rw [q]; exact k _
    · cases e
  · cases e
end
end Mine
end

section
namespace Mine
open PySem PySem.Calls PySem.Spec PySem.W PyProof.Rows
set_option maxRecDepth 100000

noncomputable def getv (i : Nat) (ρ : List Slot) : Option V := match ρ[i]? with
  | some (.val v) => some v
  | _ => none
noncomputable def getown (i : Nat) (ρ : List Slot) : Option (List V) := match ρ[i]? with
  | some (.own l) => some l
  | _ => none
noncomputable def getownd (i : Nat) (ρ : List Slot) : Option (List (Str × V)) := match ρ[i]? with
  | some (.ownd l) => some l
  | _ => none

noncomputable def TsE' (prog : Program) (w : World) (K : Frag) (mg mb : Str → Option Value) (t : Bool) (X : Act) (n : Nat) (e : Expr) (p : List Slot → Option Bool) : Prop :=
  ∀ (A : Around) (ρ : List Slot) (B : Pm) (s : Shared) (Q : Bool → Shared → Prop) (E : Value → Shared → Prop) (v : Bool),
    Room n A → SR w K mg mb X ρ B s → p ρ = some v →
    (∀ s' B', SR w K mg mb X ρ B' s' → Le B B' → Kp t s s' → Q v s') →
    wpAny (model prog w) A (isTrue e X.env (eval e X.env)) Q E s
structure TsE (prog : Program) (w : World) (K : Frag) (mg mb : Str → Option Value) (t : Bool) (X : Act) (n : Nat) (e : Expr) (p : List Slot → Option Bool) : Prop where
  run : TsE' prog w K mg mb t X n e p
/-- arguments, elements -/
noncomputable def EvL' (prog : Program) (w : World) (K : Frag) (mg mb : Str → Option Value) (t : Bool) (X : Act) (n : Nat) (ts : List (Bool × Sem Value)) (p : List Slot → Option (List V)) : Prop :=
  ∀ (A : Around) (ρ : List Slot) (B : Pm) (s : Shared) (Q : List Value → Shared → Prop) (E : Value → Shared → Prop) (v : List V),
    Room n A → SR w K mg mb X ρ B s → p ρ = some v →
    (∀ vals s' B', SR w K mg mb X ρ B' s' → Le B B' → Kp t s s' → VRs w B' v vals → Q vals s') →
    wpAny (model prog w) A (spliced ts) Q E s
structure EvL (prog : Program) (w : World) (K : Frag) (mg mb : Str → Option Value) (t : Bool) (X : Act) (n : Nat) (ts : List (Bool × Sem Value)) (p : List Slot → Option (List V)) : Prop where
  run : EvL' prog w K mg mb t X n ts p
section
variable {prog : Program} {w : World} {K : Frag} {mg mb : Str → Option Value} {t : Bool} {X : Act} {n : Nat} {ρ : List Slot} {B : Pm} {s : Shared} {A : Around} {E : Value → Shared → Prop}

theorem SR.toks (h : SR w K mg mb X ρ B s) (tk : Nat) : SR w K mg mb X ρ B { s with toks := tk } :=
  h.step (t := false) (h.g.toks tk) (Le.refl B) (Kp.toks s tk) fun _ _ e => .inl e

theorem SR.var {i : Nat} {x : Str} {v : V} (h : SR w K mg mb X ρ B s) (hx : X.names[i]? = some x) (e : getv i ρ = some v) : ∃ val, VarAt X.env s.heap x val ∧ VR w B v val := by
  obtain ⟨ad, h1, _⟩ := h.slots
  unfold getv at e
  split at e
  · rename_i v' q
    cases e
    exact h1 i x _ hx q
  · cases e

theorem load_var {x : Str} {v : Value} {Q : Value → Shared → Prop} (hk : X.env.scope.kind = .function) (h : VarAt X.env s.heap x v) (hQ : Q v s) (hn : (x == ("__classdict__" : Str)) = false) :
    wpAny (model prog w) A (loadName X.env x) Q E s := by
  rcases h with ⟨h1, m, h2, h3⟩ | ⟨h1, c, h2, h3⟩
  · exact wpAny_loadName_local hk h1 h2 h3 hQ
  · rcases h1 with h1 | h1
    · exact wpAny_loadName_cell hk h1 h2 h3 hQ
    · exact wpAny_loadName_free hk h1 h2 h3 hQ hn

theorem ev_name (ok : ActOK X) (i : Nat) {x : Str} {pos : Pos} (hx : X.names[i]? = some x) (hd : (x == ("__debug__" : Str)) = false := by decide) (hn : (x == ("__classdict__" : Str)) = false := by decide) :
    EvE prog w K mg mb t X n (.Name x pos) (getv i) := .mk fun A ρ B s Q E v _ h e k => by
  obtain ⟨val, a, b⟩ := h.var hx e
  exact wpAny_Name (load_var ok.fn a (k val s B h (Le.refl B) (Kp.refl s) b) hn) hd

theorem ev_int {i : Int} {k' : Nat} {pos : Pos} : EvE prog w K mg mb t X n (.Constant (.int i) k' pos) (fun _ => some (.int i)) := .mk fun A ρ B s Q E v _ h e k => by
  cases e
  exact wpAny_Constant_int (k _ _ B (h.toks _) (Le.refl B) (Kp.toks s _) (.int _ _))
theorem ev_str {x : Str} {k' : Nat} {pos : Pos} : EvE prog w K mg mb t X n (.Constant (.str x) k' pos) (fun _ => some (.str x)) := .mk fun A ρ B s Q E v _ h e k => by
  cases e
  exact Constant_str (k _ _ B (h.toks _) (Le.refl B) (Kp.toks s _) (.str _ _))
theorem ev_bool {c : Bool} {k' : Nat} {pos : Pos} : EvE prog w K mg mb t X n (.Constant (.bool c) k' pos) (fun _ => some (.bool c)) := .mk fun A ρ B s Q E v _ h e k => by
  cases e
  exact Constant_bool (k _ _ B h (Le.refl B) (Kp.refl s) (.bool _))

/-- a step on values, within an activation -/
theorem SR.back {r : V} {Q : Value → Shared → Prop} (h : SR w K mg mb X ρ B s) (k : ∀ val s' B', SR w K mg mb X ρ B' s' → Le B B' → Kp t s s' → VR w B' r val → Q val s') : Back w K mg mb B s r Q :=
  fun val s' B' g' l kp gr v => k val s' B' (h.step (t := t) g' l kp.up gr) l kp.up v

theorem ev_bin {op : Operator} {e1 e2 : Expr} {pos : Pos} {p1 p2 : List Slot → Option V} (h1 : EvE prog w K mg mb t X n e1 p1) (h2 : EvE prog w K mg mb t X n e2 p2) :
    EvE prog w K mg mb t X n (.BinOp e1 op e2 pos) (fun ρ => (p1 ρ).bind fun a => (p2 ρ).bind fun b => vBin op a b) := .mk fun A ρ B s Q E v hr h e k => by
  obtain ⟨a, ea, e⟩ := Option.bind_eq_some_iff.mp e
  obtain ⟨b, eb, e⟩ := Option.bind_eq_some_iff.mp e
  refine wpAny_BinOp (h1.run A ρ B s _ E a hr h ea fun x s1 B1 r1 l1 k1 v1 => h2.run A ρ B1 s1 _ E b hr r1 eb fun y s2 B2 r2 l2 k2 v2 => ?_)
  exact bin_ok hr r2.g (v1.le l2) v2 e (r2.back (t := t) fun val s' B' r' l' k' v' => k val s' B' r' (l1.trans (l2.trans l')) (k1.trans (k2.trans k')) v')

theorem ev_cmp (h4 : 4 ≤ n) {op : CmpOp} {e1 e2 : Expr} {pos : Pos} {p1 p2 : List Slot → Option V} (h1 : EvE prog w K mg mb t X n e1 p1) (h2 : EvE prog w K mg mb t X n e2 p2)
    (hm : behindInMarks op e2 = false := by with_unfolding_all rfl) :
    EvE prog w K mg mb t X n (.Compare e1 [op] [e2] pos) (fun ρ => (p1 ρ).bind fun a => (p2 ρ).bind fun b => (vCmp op a b).map .bool) := .mk fun A ρ B s Q E v hr h e k => by
  obtain ⟨a, ea, e⟩ := Option.bind_eq_some_iff.mp e
  obtain ⟨b, eb, e⟩ := Option.bind_eq_some_iff.mp e
  obtain ⟨c, ec, rfl⟩ := Option.map_eq_some_iff.mp e
  refine wpAny_Compare1 (h1.run A ρ B s _ E a hr h ea fun x s1 B1 r1 l1 k1 v1 => h2.run A ρ B1 s1 _ E b hr r1 eb fun y s2 B2 r2 l2 k2 v2 => ?_) hm
  exact cmp_ok hr h4 r2.g (v1.le l2) v2 ec fun tk => k _ _ B2 (r2.toks tk) (l1.trans l2) (k1.trans (k2.trans (Kp.toks s2 tk))) (.bool _)
theorem ts_cmp (h4 : 4 ≤ n) {op : CmpOp} {e1 e2 : Expr} {pos : Pos} {p1 p2 : List Slot → Option V} (h1 : EvE prog w K mg mb t X n e1 p1) (h2 : EvE prog w K mg mb t X n e2 p2)
    (hm : behindInMarks op e2 = false := by with_unfolding_all rfl) :
    TsE prog w K mg mb t X n (.Compare e1 [op] [e2] pos) (fun ρ => (p1 ρ).bind fun a => (p2 ρ).bind fun b => vCmp op a b) := .mk fun A ρ B s Q E v hr h e k => by
  obtain ⟨a, ea, e⟩ := Option.bind_eq_some_iff.mp e
  obtain ⟨b, eb, ec⟩ := Option.bind_eq_some_iff.mp e
  refine wpAny_isTrue_Compare1 (h1.run A ρ B s _ E a hr h ea fun x s1 B1 r1 l1 k1 v1 => h2.run A ρ B1 s1 _ E b hr r1 eb fun y s2 B2 r2 l2 k2 v2 => ?_) hm
  exact cmp_ok hr h4 r2.g (v1.le l2) v2 ec fun tk => wpAny_truthy_bool (k _ B2 (r2.toks tk) (l1.trans l2) (k1.trans (k2.trans (Kp.toks s2 tk))))

/-- a plain expression as a test -/
theorem ts_ev {e1 : Expr} {p1 : List Slot → Option V} (h1 : EvE prog w K mg mb t X n e1 p1)
    (he : ∀ whole, isTrue e1 X.env whole = (do let v ← whole; standAt e1.pos; holding [v] (truthy v)) := by intro _; rfl) :
    TsE prog w K mg mb t X n e1 (fun ρ => (p1 ρ).bind vTruth) := .mk fun A ρ B s Q E v hr h e k => by
  obtain ⟨a, ea, e⟩ := Option.bind_eq_some_iff.mp e
  refine isTrue_plain (h1.run A ρ B s _ E a hr h ea fun x s1 B1 r1 l1 k1 v1 => truth_ok r1.g v1 e fun tk => k _ B1 (r1.toks tk) l1 (k1.trans (Kp.toks s1 tk))) (he _)
theorem ts_not {e1 : Expr} {pos : Pos} {p1 : List Slot → Option Bool} (h1 : TsE prog w K mg mb t X n e1 p1) : TsE prog w K mg mb t X n (.UnaryOp .Not e1 pos) (fun ρ => (p1 ρ).map (!·)) := .mk fun A ρ B s Q E v hr h e k => by
  obtain ⟨a, ea, rfl⟩ := Option.map_eq_some_iff.mp e
  exact isTrue_not (h1.run A ρ B s _ E a hr h ea k)
theorem ts_and0 {pos : Pos} : TsE prog w K mg mb t X n (.BoolOp .And [] pos) (fun _ => some true) := .mk fun A ρ B s Q E v hr h e k => by
  cases e; exact isTrue_and_nil (k s B h (Le.refl B) (Kp.refl s))
theorem ts_or0 {pos : Pos} : TsE prog w K mg mb t X n (.BoolOp .Or [] pos) (fun _ => some false) := .mk fun A ρ B s Q E v hr h e k => by
  cases e; exact isTrue_or_nil (k s B h (Le.refl B) (Kp.refl s))
theorem ts_and {e1 : Expr} {rest : List Expr} {pos : Pos} {p1 p2 : List Slot → Option Bool} (h1 : TsE prog w K mg mb t X n e1 p1) (h2 : TsE prog w K mg mb t X n (.BoolOp .And rest pos) p2) :
    TsE prog w K mg mb t X n (.BoolOp .And (e1 :: rest) pos) (fun ρ => (p1 ρ).bind fun a => if a then p2 ρ else some false) := .mk fun A ρ B s Q E v hr h e k => by
  obtain ⟨a, ea, e⟩ := Option.bind_eq_some_iff.mp e
  refine isTrue_and (h1.run A ρ B s _ E a hr h ea fun s1 B1 r1 l1 k1 => ?_)
  cases a with
  | true => exact h2.run A ρ B1 s1 _ E v hr r1 e fun s2 B2 r2 l2 k2 => k s2 B2 r2 (l1.trans l2) (k1.trans k2)
  | false => cases e; exact k s1 B1 r1 l1 k1
theorem ts_or {e1 : Expr} {rest : List Expr} {pos : Pos} {p1 p2 : List Slot → Option Bool} (h1 : TsE prog w K mg mb t X n e1 p1) (h2 : TsE prog w K mg mb t X n (.BoolOp .Or rest pos) p2) :
    TsE prog w K mg mb t X n (.BoolOp .Or (e1 :: rest) pos) (fun ρ => (p1 ρ).bind fun a => if a then some true else p2 ρ) := .mk fun A ρ B s Q E v hr h e k => by
  obtain ⟨a, ea, e⟩ := Option.bind_eq_some_iff.mp e
  refine isTrue_or (h1.run A ρ B s _ E a hr h ea fun s1 B1 r1 l1 k1 => ?_)
  cases a with
  | false => exact h2.run A ρ B1 s1 _ E v hr r1 e fun s2 B2 r2 l2 k2 => k s2 B2 r2 (l1.trans l2) (k1.trans k2)
  | true => cases e; exact k s1 B1 r1 l1 k1

theorem ev_if {e0 e1 e2 : Expr} {pos : Pos} {p0 : List Slot → Option Bool} {p1 p2 : List Slot → Option V} (h0 : TsE prog w K mg mb t X n e0 p0) (h1 : EvE prog w K mg mb t X n e1 p1) (h2 : EvE prog w K mg mb t X n e2 p2) :
    EvE prog w K mg mb t X n (.IfExp e0 e1 e2 pos) (fun ρ => (p0 ρ).bind fun c => if c then p1 ρ else p2 ρ) := .mk fun A ρ B s Q E v hr h e k => by
  obtain ⟨c, ec, e⟩ := Option.bind_eq_some_iff.mp e
  refine IfExp_ (h0.run A ρ B s _ E c hr h ec fun s1 B1 r1 l1 k1 => ?_)
  cases c with
  | true => exact h1.run A ρ B1 s1 _ E v hr r1 e fun val s2 B2 r2 l2 k2 v2 => k val s2 B2 r2 (l1.trans l2) (k1.trans k2) v2
  | false => exact h2.run A ρ B1 s1 _ E v hr r1 e fun val s2 B2 r2 l2 k2 v2 => k val s2 B2 r2 (l1.trans l2) (k1.trans k2) v2

/-- and, or, not as values -/
theorem ev_or {e1 e2 : Expr} {rest : List Expr} {pos : Pos} {p1 p2 : List Slot → Option V} (h1 : EvE prog w K mg mb t X n e1 p1) (h2 : EvE prog w K mg mb t X n (.BoolOp .Or (e2 :: rest) pos) p2) :
    EvE prog w K mg mb t X n (.BoolOp .Or (e1 :: e2 :: rest) pos) (fun ρ => (p1 ρ).bind fun a => (vTruth a).bind fun c => if c then some a else p2 ρ) := .mk fun A ρ B s Q E v hr h e k => by
  obtain ⟨a, ea, e⟩ := Option.bind_eq_some_iff.mp e
  obtain ⟨c, ec, e⟩ := Option.bind_eq_some_iff.mp e
  refine BoolOp_or (h1.run A ρ B s _ E a hr h ea fun x s1 B1 r1 l1 k1 v1 => truth_ok r1.g v1 ec fun tk => ?_)
  cases c with
  | true => cases e; exact k x _ B1 (r1.toks tk) l1 (k1.trans (Kp.toks s1 tk)) v1
  | false => exact h2.run A ρ B1 _ _ E v hr (r1.toks tk) e fun val s2 B2 r2 l2 k2 v2 => k val s2 B2 r2 (l1.trans l2) (k1.trans ((Kp.toks s1 tk).trans k2)) v2
theorem ev_and {e1 e2 : Expr} {rest : List Expr} {pos : Pos} {p1 p2 : List Slot → Option V} (h1 : EvE prog w K mg mb t X n e1 p1) (h2 : EvE prog w K mg mb t X n (.BoolOp .And (e2 :: rest) pos) p2) :
    EvE prog w K mg mb t X n (.BoolOp .And (e1 :: e2 :: rest) pos) (fun ρ => (p1 ρ).bind fun a => (vTruth a).bind fun c => if c then p2 ρ else some a) := .mk fun A ρ B s Q E v hr h e k => by
  obtain ⟨a, ea, e⟩ := Option.bind_eq_some_iff.mp e
  obtain ⟨c, ec, e⟩ := Option.bind_eq_some_iff.mp e
  refine BoolOp_and (h1.run A ρ B s _ E a hr h ea fun x s1 B1 r1 l1 k1 v1 => truth_ok r1.g v1 ec fun tk => ?_)
  cases c with
  | false => cases e; exact k x _ B1 (r1.toks tk) l1 (k1.trans (Kp.toks s1 tk)) v1
  | true => exact h2.run A ρ B1 _ _ E v hr (r1.toks tk) e fun val s2 B2 r2 l2 k2 v2 => k val s2 B2 r2 (l1.trans l2) (k1.trans ((Kp.toks s1 tk).trans k2)) v2
theorem ev_b1 {op : BoolOp} {e1 : Expr} {pos : Pos} {p1 : List Slot → Option V} (h1 : EvE prog w K mg mb t X n e1 p1) : EvE prog w K mg mb t X n (.BoolOp op [e1] pos) p1 :=
  .mk fun A ρ B s Q E v hr h e k => BoolOp_one (h1.run A ρ B s Q E v hr h e k)
theorem ev_not {e1 : Expr} {pos : Pos} {p1 : List Slot → Option V} (h1 : EvE prog w K mg mb t X n e1 p1) : EvE prog w K mg mb t X n (.UnaryOp .Not e1 pos) (fun ρ => (p1 ρ).bind fun a => (vTruth a).map fun c => .bool (!c)) := .mk fun A ρ B s Q E v hr h e k => by
  obtain ⟨a, ea, e⟩ := Option.bind_eq_some_iff.mp e
  obtain ⟨c, ec, rfl⟩ := Option.map_eq_some_iff.mp e
  exact UnaryOp_ (h1.run A ρ B s _ E a hr h ea fun x s1 B1 r1 l1 k1 v1 => not_of (truth_ok r1.g v1 ec fun tk => k _ _ B1 (r1.toks tk) l1 (k1.trans (Kp.toks s1 tk)) (.bool _)))
theorem ev_neg {i : Int} {k' : Nat} {p pos : Pos} : EvE prog w K mg mb t X n (.UnaryOp .USub (.Constant (.int i) k' p) pos) (fun _ => some (.int (-i))) := .mk fun A ρ B s Q E v hr h e k => by
  cases e
  exact UnaryOp_ (wpAny_Constant_int (P.neg_int (k _ _ B (h.toks _) (Le.refl B) (Kp.toks s _) (.int _ _))))

theorem evl_nil {pos : Pos} : EvL prog w K mg mb t X n (backTo pos (starEach [] X.env)) (fun _ => some []) := .mk fun A ρ B s Q E v hr h e k => by
  cases e; exact spliced_nil (k [] s B h (Le.refl B) (Kp.refl s) .nil)
theorem evl_cons {pos : Pos} {e1 : Expr} {rest : List Expr} {p1 : List Slot → Option V} {p2 : List Slot → Option (List V)} (h1 : EvE prog w K mg mb t X n e1 p1) (h2 : EvL prog w K mg mb t X n (backTo pos (starEach rest X.env)) p2)
    (he : starEach (e1 :: rest) X.env = (false, eval e1 X.env) :: starEach rest X.env := by rfl) :
    EvL prog w K mg mb t X n (backTo pos (starEach (e1 :: rest) X.env)) (fun ρ => (p1 ρ).bind fun a => (p2 ρ).map (a :: ·)) := .mk fun A ρ B s Q E v hr h e k => by
  obtain ⟨a, ea, e⟩ := Option.bind_eq_some_iff.mp e
  obtain ⟨r, er, rfl⟩ := Option.map_eq_some_iff.mp e
  rw [he]
  refine spliced_cons (h1.run A ρ B s _ E a hr h ea fun x s1 B1 r1 l1 k1 v1 => ?_)
  exact h2.run A ρ B1 s1 _ E r hr r1 er fun vals s2 B2 r2 l2 k2 v2 => k (x :: vals) s2 B2 r2 (l1.trans l2) (k1.trans k2) (.cons (v1.le l2) v2)
end
end Mine
end

section
namespace Mine
open PySem PySem.Calls PySem.Spec PySem.W PyProof.Rows
set_option maxRecDepth 100000

theorem VarAt.unique {env : Env} {h : Heap} {x : Str} {u v : Value} (a : VarAt env h x u) (b : VarAt env h x v) : u = v := by
  rcases a with ⟨a1, m, a2, a3⟩ | ⟨a1, c, a2, a3⟩ <;> rcases b with ⟨b1, m', b2, b3⟩ | ⟨b1, c', b2, b3⟩
  · obtain ⟨o, es, ep, e1, e2, _, e4⟩ := a2
    obtain ⟨o', es', ep', f1, f2, _, f4⟩ := b2
    rw [e1] at f1; cases f1
    rw [e2] at f2; cases f2
    have := (e4 x).symm.trans (f4 x)
    rw [a3, b3] at this
    exact Option.some.inj this
  · rcases b1 with b1 | b1 <;> rw [a1] at b1 <;> cases b1
  · rcases a1 with a1 | a1 <;> rw [b1] at a1 <;> cases a1
  · rw [a2] at b2; cases b2
    obtain ⟨o, e1, e2⟩ := a3
    obtain ⟨o', f1, f2⟩ := b3
    rw [e1] at f1; cases f1
    rw [e2] at f2
    cases f2; rfl

noncomputable def smallK (i : Int) : Bool := -4096 ≤ i && i ≤ 4096
noncomputable def vIdx : V → V → Option V
  | .lst l, .int i => if smallK i then (seqIndex? i l.length).bind (l[·]?) else none
  | .tup l, .int i => if smallK i then (seqIndex? i l.length).bind (l[·]?) else none
  | .str x, .int i => if smallK i then (Txt.charAt x i).map fun c => .str ⟨#[c]⟩ else none
  | .dct l, .str k => dget l k
  | _, _ => none
noncomputable def pickV (l : List V) (lo hi st : Option Int) : List V :=
  (sliceRange (sliceBounds lo hi st l.length).1 (sliceBounds lo hi st l.length).2.1 (sliceBounds lo hi st l.length).2.2).filterMap (l[·]?)
noncomputable def vSl (v : V) (lo hi st : Option Int) : Option V := match v with
  | .str x => if x.length ≤ 4096 ∧ st = none then some (.str (Txt.slice x lo hi)) else none
  | .lst l => if l.length ≤ 4096 ∧ st ≠ some 0 then some (.lst (pickV l lo hi st)) else none
  | _ => none

section
variable {prog : Program} {w : World} {K : Frag} {mg mb : Str → Option Value} {t : Bool} {X : Act} {n : Nat} {ρ : List Slot} {B : Pm} {s : Shared} {A : Around} {E : Value → Shared → Prop}

theorem VRs.pick {l : List V} {xs : List Value} (h : VRs w B l xs) : ∀ is : List Nat, VRs w B (is.filterMap (l[·]?)) (is.filterMap (xs[·]?))
  | [] => .nil
  | i :: r => by
    simp only [List.filterMap_cons]
    cases e : l[i]? with
    | none =>
      have : xs[i]? = none := by
        rw [List.getElem?_eq_none_iff] at e ⊢
        rw [h.length]; exact e
      rw [this]; exact VRs.pick h r
    | some v =>
      obtain ⟨x, hx, hv⟩ := h.get i v e
      rw [hx]; exact .cons hv (VRs.pick h r)

theorem pick_ok {l : List V} {xs : List Value} {lo hi st : Option Int} (h : VRs w B l xs) : ∃ ys, slicePick xs.toArray lo hi st = ys.toArray ∧ VRs w B (pickV l lo hi st) ys := by
  refine ⟨_, rfl, ?_⟩
  have e : xs.toArray.size = l.length := by rw [List.size_toArray, h.length]
  rw [e]
  have e2 : (fun (i : Nat) => (xs.toArray)[i]?) = fun (i : Nat) => xs[i]? := by funext i; simp
  rw [e2]
  exact h.pick _

theorem seq_get {l : List V} {xs : List Value} {i : Int} {v : V} (h : VRs w B l xs) (e : (seqIndex? i l.length).bind (l[·]?) = some v) :
    ∃ j x, seqIndex? i xs.toArray.size = some j ∧ xs.toArray[j]? = some x ∧ VR w B v x := by
  obtain ⟨j, e1, e2⟩ := Option.bind_eq_some_iff.mp e
  obtain ⟨x, hx, hv⟩ := h.get j v e2
  exact ⟨j, x, by rw [List.size_toArray, h.length]; exact e1, by simpa using hx, hv⟩

theorem getItem_list {a : Addr} {its : Array Value} {i : Int} {u : Tok} {j : Nat} {x : Value} {Q : Value → Shared → Prop} (hl : s.heap.IsList a its) (hk : smallK i = true) (e1 : seqIndex? i its.size = some j) (e2 : its[j]? = some x) (h : Q x s) :
    wpAny (model prog w) A (getItem (.ref a) (.int i u)) Q E s := by
  simp only [smallK, Bool.and_eq_true, decide_eq_true_eq] at hk
  unfold seqIndex? at e1
  by_cases hn : i < 0
  · simp only [hn, if_true] at e1
    split at e1
    · rename_i q
      simp only [Bool.and_eq_true, decide_eq_true_eq] at q
      cases e1
      exact wpAny_getItem_list_neg hl hn (by omega) (by omega) e2 h
    · cases e1
  · simp only [hn, if_false] at e1
    split at e1
    · cases e1
      exact wpAny_getItem_list hl (by omega) (by omega) e2 h
    · cases e1

/-- o[i] on values -/
theorem idx_ok {a b r : V} {x y : Value} {value slice : Expr} {Q : Value → Shared → Prop} (g : G0 K mg mb B s) (va : VR w B a x) (vb : VR w B b y) (e : vIdx a b = some r) (k : ∀ val tk, VR w B r val → Q val { s with toks := tk })
    (hs : ∀ o i, subscripted slice false o i = operate [o, i] (getItem o i)) :
    wpAny (model prog w) A (subscriptTail value slice x y) Q E s := by
  unfold vIdx at e
  split at e
  · split at e
    · rename_i hk
      cases vb
      cases va with
      | lst ha hsa =>
        obtain ⟨j, x', e1, e2, e3⟩ := seq_get hsa e
        have hl : s.heap.IsList _ _ := ⟨_, g.sub _ _ ha, rfl, _, rfl⟩
        exact tail_any hl.typeIs slot_list_getitem.lookup (getItem_list hl hk e1 e2 (k _ s.toks e3)) (hs _ _)
    · cases e
  · split at e
    · rename_i hk
      cases vb
      cases va with
      | tup ha hsa =>
        obtain ⟨j, x', e1, e2, e3⟩ := seq_get hsa e
        have hl : IsTup s.heap _ _ := ⟨_, g.sub _ _ ha, rfl, _, rfl⟩
        simp only [smallK, Bool.and_eq_true, decide_eq_true_eq] at hk
        exact tail_any hl.typeIs slot_tuple_getitem.lookup (getItem_tuple hl (by omega) (by omega) e1 e2 (k _ s.toks e3)) (hs _ _)
    · cases e
  · split at e
    · rename_i hk
      cases va; cases vb
      obtain ⟨c, e1, rfl⟩ := Option.map_eq_some_iff.mp e
      refine tail_any (typeIs_str _ _ _) F.slot_str_getitem.lookup (P.getItem_str ?_ e1 (k _ _ (.str _ _))) (hs _ _)
      simp only [smallK, Bool.and_eq_true, decide_eq_true_eq] at hk
      rename_i i _ _ _
      rw [decide_eq_false (by omega), decide_eq_false (by omega)]; rfl
    · cases e
  · rename_i l kk
    cases vb
    cases va with
    | @dct _ _ _ es hb hx hd hv hn hm =>
      obtain ⟨x', e1, e2⟩ := (vrd_find kk hv).1 _ e
      have hmap := vrd_map (prog := prog) hv (g.sub _ _ hb) hx hd
      exact tail_any hmap.typeIs slot_dict_getitem.lookup (wpAny_getItem_of (strKind_is prog w _ _) hmap e1 (k _ _ e2)) (hs _ _)
  · cases e

theorem ev_idx {e1 e2 : Expr} {pos : Pos} {p1 p2 : List Slot → Option V} (h1 : EvE prog w K mg mb t X n e1 p1) (h2 : EvE prog w K mg mb t X n e2 p2)
    (hs : ∀ o i, subscripted e2 false o i = operate [o, i] (getItem o i) := by intro _ _; with_unfolding_all rfl) :
    EvE prog w K mg mb t X n (.Subscript e1 e2 pos) (fun ρ => (p1 ρ).bind fun a => (p2 ρ).bind fun b => vIdx a b) := .mk fun A ρ B s Q E v hr h e k => by
  obtain ⟨a, ea, e⟩ := Option.bind_eq_some_iff.mp e
  obtain ⟨b, eb, e⟩ := Option.bind_eq_some_iff.mp e
  refine Subscript_ (h1.run A ρ B s _ E a hr h ea fun x s1 B1 r1 l1 k1 v1 => h2.run A ρ B1 s1 _ E b hr r1 eb fun y s2 B2 r2 l2 k2 v2 => ?_)
  exact idx_ok r2.g (v1.le l2) v2 e (fun val tk vr => k val _ B2 (r2.toks tk) (l1.trans l2) (k1.trans (k2.trans (Kp.toks s2 tk))) vr) hs

theorem SR.own {i : Nat} {x : Str} {l : List V} (h : SR w K mg mb X ρ B s) (hx : X.names[i]? = some x) (e : getown i ρ = some l) : ∃ a vs, VarAt X.env s.heap x (.ref a) ∧ (B a = none ∧ X.h0.get? a = none) ∧ s.heap.PlainList a vs.toArray ∧ VRs w B l vs := by
  obtain ⟨ad, h1, _⟩ := h.slots
  unfold getown at e
  split at e
  · rename_i v' q
    cases e
    obtain ⟨a, b, vs, c, d⟩ := h1 i x _ hx q
    exact ⟨ad i, vs, a, b, c, d⟩
  · cases e

/-- an own list's item: the list stays the frame's own -/
theorem ev_oidx (ok : ActOK X) (i : Nat) {x : Str} {px pos : Pos} {e2 : Expr} {p2 : List Slot → Option V} (hx : X.names[i]? = some x) (h2 : EvE prog w K mg mb t X n e2 p2)
    (hd : (x == ("__debug__" : Str)) = false := by decide) (hn : (x == ("__classdict__" : Str)) = false := by decide)
    (hs : ∀ o i, subscripted e2 false o i = operate [o, i] (getItem o i) := by intro _ _; with_unfolding_all rfl) :
    EvE prog w K mg mb t X n (.Subscript (.Name x px) e2 pos) (fun ρ => (getown i ρ).bind fun l => (p2 ρ).bind fun b => vIdx (.lst l) b) := .mk fun A ρ B s Q E v hr h e k => by
  obtain ⟨l, ea, e⟩ := Option.bind_eq_some_iff.mp e
  obtain ⟨b, eb, e⟩ := Option.bind_eq_some_iff.mp e
  obtain ⟨a, vs, va, _, _, _⟩ := h.own hx ea
  refine Subscript_ (wpAny_Name (load_var ok.fn va ?_ hn) hd)
  refine h2.run A ρ B s _ E b hr h eb fun y s2 B2 r2 l2 k2 v2 => ?_
  obtain ⟨a', vs', va', ba', pl', vr'⟩ := r2.own hx ea
  have ea' := (va.kp h.g.tab k2).unique va'
  cases ea'
  cases b with
  | int j0 =>
    simp only [vIdx] at e
    split at e
    · rename_i hk
      cases v2
      obtain ⟨j, x', e1, e2, e3⟩ := seq_get vr' e
      exact tail_any pl'.isList.typeIs slot_list_getitem.lookup (getItem_list pl'.isList hk e1 e2 (k _ s2 B2 r2 l2 k2 e3)) (hs _ _)
    · cases e
  | _ => simp [vIdx] at e

/-- parts of a slice -/
noncomputable def EvPt' (prog : Program) (w : World) (K : Frag) (mg mb : Str → Option Value) (t : Bool) (X : Act) (n : Nat) (e : Option Expr) (p : List Slot → Option (Option Int)) : Prop :=
  ∀ (A : Around) (ρ : List Slot) (B : Pm) (s : Shared) (Q E : Value → Shared → Prop) (v : Option Int),
    Room n A → SR w K mg mb X ρ B s → p ρ = some v →
    (∀ val s' B', SR w K mg mb X ρ B' s' → Le B B' → Kp t s s' → IsPart val v → Q val s') →
    wpAny (model prog w) A (evalPart e X.env) Q E s
structure EvPt (prog : Program) (w : World) (K : Frag) (mg mb : Str → Option Value) (t : Bool) (X : Act) (n : Nat) (e : Option Expr) (p : List Slot → Option (Option Int)) : Prop where
  run : EvPt' prog w K mg mb t X n e p
theorem evp_none : EvPt prog w K mg mb t X n none (fun _ => some none) := .mk fun A ρ B s Q E v hr h e k => by
  cases e; exact wpAny_pure (k _ s B h (Le.refl B) (Kp.refl s) .none)
noncomputable def asI : V → Option (Option Int)
  | .int i => some (some i)
  | _ => none
theorem evp_some {e1 : Expr} {p : List Slot → Option V} (h1 : EvE prog w K mg mb t X n e1 p) : EvPt prog w K mg mb t X n (some e1) (fun ρ => (p ρ).bind asI) := .mk fun A ρ B s Q E v hr h e k => by
  obtain ⟨a, ea, e⟩ := Option.bind_eq_some_iff.mp e
  unfold asI at e
  split at e
  · cases e
    refine h1.run A ρ B s _ E _ hr h ea fun val s' B' r l kp vr => ?_
    cases vr
    exact k _ s' B' r l kp (.int _ _)
  · cases e
theorem part_str {v : Value} {o : Option Int} (h : IsPart v o) : ∃ q : Option (Int × Tok), v = partValue q ∧ q.map (·.1) = o := by
  cases h with
  | none => exact ⟨none, rfl, rfl⟩
  | int i t => exact ⟨some (i, t), rfl, rfl⟩

theorem G0.drop (g : G0 K mg mb B s) {o : Obj} : G0 K mg mb B { s with heap := s.heap.push o } :=
  ⟨fun b ob e => Heap.get?_push_of_some _ (g.sub b ob e), g.stat, g.tabB, g.tab.keep fun _ q => Heap.get?_push_of_some _ q⟩
theorem SR.drop (h : SR w K mg mb X ρ B s) {o : Obj} : SR w K mg mb X ρ B { s with heap := s.heap.push o } :=
  h.step (t := false) h.g.drop (Le.refl B) (Kp.heap s s.toks fun _ _ e => Heap.get?_push_of_some _ e) fun _ _ e => .inl e

theorem sl_list {a : Addr} {vs : List Value} {l : List V} {vl vu vst : Value} {lo hi st : Option Int} {sl : Addr} {value slice : Expr} {ops : Value → Value → List Value} {Q : Value → Shared → Prop} (g : G0 K mg mb B s) (hl : s.heap.IsList a vs.toArray) (vr : VRs w B l vs)
    (hsl : s.heap.IsSliceOf sl vl vu vst) (pl : IsPart vl lo) (pu : IsPart vu hi) (ps : IsPart vst st) (hz : l.length ≤ 4096) (h0 : st ≠ some 0) (k : Back w K mg mb B s (.lst (pickV l lo hi st)) Q)
    (hs : ∀ o i, subscripted slice false o i = operate (ops o i) (getItem o i)) :
    wpAny (model prog w) A (subscriptTail value slice (.ref a) (.ref sl)) Q E s := by
  refine tail_any hl.typeIs slot_list_getitem.lookup (wpAny_getItem_list_slice hl hsl pl pu ps h0 ?_ ?_) (hs _ _)
  · obtain ⟨ys, e, r⟩ := pick_ok (lo := lo) (hi := hi) (st := st) vr
    rw [e]
    exact k.push g _ rfl (.lst put_self (r.le (put_le (g.sub.none (fresh _ (Nat.le_refl _))))))
  · rw [List.size_toArray, vr.length]; exact line_of hz

theorem ev_slice {e1 : Expr} {lo hi st : Option Expr} {sp pos : Pos} {ops : Value → Value → List Value} {p1 : List Slot → Option V} {pl pu ps : List Slot → Option (Option Int)} (h1 : EvE prog w K mg mb t X n e1 p1)
    (hl : EvPt prog w K mg mb t X n lo pl) (hu : EvPt prog w K mg mb t X n hi pu) (hst : EvPt prog w K mg mb t X n st ps)
    (hs : ∀ o i, subscripted (.Slice lo hi st sp) false o i = operate (ops o i) (getItem o i) := by intro _ _; with_unfolding_all rfl) :
    EvE prog w K mg mb t X n (.Subscript e1 (.Slice lo hi st sp) pos) (fun ρ => (p1 ρ).bind fun a => (pl ρ).bind fun x => (pu ρ).bind fun y => (ps ρ).bind fun z => vSl a x y z) := .mk fun A ρ B s Q E v hr h e k => by
  obtain ⟨a, ea, e⟩ := Option.bind_eq_some_iff.mp e
  obtain ⟨x, ex, e⟩ := Option.bind_eq_some_iff.mp e
  obtain ⟨y, ey, e⟩ := Option.bind_eq_some_iff.mp e
  obtain ⟨z, ez, e⟩ := Option.bind_eq_some_iff.mp e
  refine Subscript_ (h1.run A ρ B s _ E a hr h ea fun va s1 B1 r1 l1 k1 v1 => wpAny_Slice (hl.run A ρ B1 s1 _ E x hr r1 ex fun vx s2 B2 r2 l2 k2 v2 => hu.run A ρ B2 s2 _ E y hr r2 ey fun vy s3 B3 r3 l3 k3 v3 => hst.run A ρ B3 s3 _ E z hr r3 ez fun vz s4 B4 r4 l4 k4 v4 => ?_))
  have v1' := v1.le (l2.trans (l3.trans l4))
  have l5 := l1.trans (l2.trans (l3.trans l4))
  have k5 := k1.trans (k2.trans (k3.trans (k4.trans (Kp.heap (t := t) s4 s4.toks fun _ _ e => Heap.get?_push_of_some (h := s4.heap) { cls := .type "slice", data := .fields #[vx, vy, vz] } e))))
  have r5 := r4.drop (o := { cls := .type "slice", data := .fields #[vx, vy, vz] })
  cases a with
  | str x' =>
    simp only [vSl] at e
    split at e
    · rename_i q
      cases e
      obtain ⟨q1, rfl⟩ := q
      cases v1'
      obtain ⟨qx, rfl, ex'⟩ := part_str v2
      obtain ⟨qy, rfl, ey'⟩ := part_str v3
      cases v4
      refine tail_any (typeIs_str _ _ _) F.slot_str_getitem.lookup (wpAny_getItem_str_slice (l := qx) (u := qy) (st := none) ⟨_, Heap.get?_push_size _ rfl, rfl, rfl⟩ rfl ?_) (hs _ _)
      have hmade : sliceMade x' = fun t l u st => if ((st.map (·.1)).getD 1 == 1 && (slicePicked x' l u st).length == x'.length) = true then .val (.str x' t) else .str ⟨((slicePicked x' l u st).filterMap (x'.cps[·]?)).toArray⟩ := rfl
      have hpick : slicePicked x' qx qy none = Builtin.Str.strSliceIndices x y 1 x'.length := by unfold slicePicked; rw [ex', ey']; rfl
      have hsl : Txt.slice x' x y = if ((1 : Int) == 1 && (Builtin.Str.strSliceIndices x y 1 x'.length).length == x'.length) = true then x' else ⟨((Builtin.Str.strSliceIndices x y 1 x'.length).filterMap (x'.cps[·]?)).toArray⟩ := rfl
      rw [hmade]
      dsimp only
      rw [hpick]
      refine post_val_or_str ⟨?_, fun t' tk => ?_⟩
      · have := Txt.slice_le x' x y
        rw [hsl] at this
        exact Nat.le_trans this (line_of q1)
      · have kk := k (.str (Txt.slice x' x y) t') _ B4 (r5.toks tk) l5 (k5.trans (Kp.toks _ tk)) (.str _ _)
        rw [hsl] at kk
        exact kk
    · cases e
  | lst l =>
    simp only [vSl] at e
    split at e
    · rename_i q
      cases e
      cases v1' with
      | lst ha hsa =>
        exact sl_list r5.g ⟨_, r5.g.sub _ _ ha, rfl, _, rfl⟩ hsa (Heap.IsSliceOf.new ..) v2 v3 v4 q.1 q.2 (r5.back (t := t) fun val s' B' r l' k' vr => k val s' B' r (l5.trans l') (k5.trans k') vr) hs
    · cases e
  | _ => simp [vSl] at e

theorem ev_oslice (ok : ActOK X) (i : Nat) {x : Str} {px : Pos} {lo hi st : Option Expr} {sp pos : Pos} {ops : Value → Value → List Value} {pl pu ps : List Slot → Option (Option Int)} (hx : X.names[i]? = some x)
    (hl : EvPt prog w K mg mb t X n lo pl) (hu : EvPt prog w K mg mb t X n hi pu) (hst : EvPt prog w K mg mb t X n st ps)
    (hd : (x == ("__debug__" : Str)) = false := by decide) (hn : (x == ("__classdict__" : Str)) = false := by decide)
    (hs : ∀ o i, subscripted (.Slice lo hi st sp) false o i = operate (ops o i) (getItem o i) := by intro _ _; with_unfolding_all rfl) :
    EvE prog w K mg mb t X n (.Subscript (.Name x px) (.Slice lo hi st sp) pos) (fun ρ => (getown i ρ).bind fun a => (pl ρ).bind fun x => (pu ρ).bind fun y => (ps ρ).bind fun z => vSl (.lst a) x y z) := .mk fun A ρ B s Q E v hr h e k => by
  obtain ⟨l, ea, e⟩ := Option.bind_eq_some_iff.mp e
  obtain ⟨x', ex, e⟩ := Option.bind_eq_some_iff.mp e
  obtain ⟨y, ey, e⟩ := Option.bind_eq_some_iff.mp e
  obtain ⟨z, ez, e⟩ := Option.bind_eq_some_iff.mp e
  obtain ⟨a, vs, va, _, _, _⟩ := h.own hx ea
  refine Subscript_ (wpAny_Name (load_var ok.fn va ?_ hn) hd)
  refine wpAny_Slice (hl.run A ρ B s _ E x' hr h ex fun vx s2 B2 r2 l2 k2 v2 => hu.run A ρ B2 s2 _ E y hr r2 ey fun vy s3 B3 r3 l3 k3 v3 => hst.run A ρ B3 s3 _ E z hr r3 ez fun vz s4 B4 r4 l4 k4 v4 => ?_)
  have l5 := l2.trans (l3.trans l4)
  have k4' := k2.trans (k3.trans k4)
  have k5 := k4'.trans (Kp.heap (t := t) s4 s4.toks fun _ _ e => Heap.get?_push_of_some (h := s4.heap) { cls := .type "slice", data := .fields #[vx, vy, vz] } e)
  have r5 := r4.drop (o := { cls := .type "slice", data := .fields #[vx, vy, vz] })
  obtain ⟨a', vs', va', ba', pl', vr'⟩ := r5.own hx ea
  have ea' := (va.kp h.g.tab k5).unique va'
  cases ea'
  simp only [vSl] at e
  split at e
  · rename_i q
    cases e
    exact sl_list r5.g pl'.isList vr' (Heap.IsSliceOf.new ..) v2 v3 v4 q.1 q.2 (r5.back (t := t) fun val s' B' r l' k' vr => k val s' B' r (l5.trans l') (k5.trans k') vr) hs
  · cases e

theorem ev_list {es : List Expr} {pos : Pos} {p : List Slot → Option (List V)} (h1 : EvL prog w K mg mb t X n (backTo pos (starEach es X.env)) p) :
    EvE prog w K mg mb t X n (.List es pos) (fun ρ => (p ρ).bind lstV) := .mk fun A ρ B s Q E v hr h e k => by
  obtain ⟨l, el, e⟩ := Option.bind_eq_some_iff.mp e
  unfold lstV at e
  split at e
  · rename_i q
    cases e
    refine List_ (h1.run A ρ B s _ E l hr h el fun vals s1 B1 r1 l1 k1 v1 => ?_)
    refine wpAny_newObj_type ?_ (by show vals.toArray.size ≤ sizeLine; rw [List.size_toArray, v1.length]; exact line_of q)
    exact (r1.back (t := t) fun val s' B' r l' k' vr => k val s' B' r (l1.trans l') (k1.trans k') vr).push r1.g _ rfl (.lst put_self (v1.le (put_le (r1.g.sub.none (fresh _ (Nat.le_refl _))))))
  · cases e
theorem ev_tup {es : List Expr} {c : Nat} {pos : Pos} {p : List Slot → Option (List V)} (h1 : EvL prog w K mg mb t X n (backTo pos (starEach es X.env)) p) :
    EvE prog w K mg mb t X n (.Tuple es c pos) (fun ρ => (p ρ).bind fun l => if l.length ≤ 4096 then some (.tup l) else none) := .mk fun A ρ B s Q E v hr h e k => by
  obtain ⟨l, el, e⟩ := Option.bind_eq_some_iff.mp e
  split at e
  · rename_i q
    cases e
    refine Tuple_ (h1.run A ρ B s _ E l hr h el fun vals s1 B1 r1 l1 k1 v1 => ?_)
    refine wpAny_newObj_type ?_ (by show vals.toArray.size ≤ sizeLine; rw [List.size_toArray, v1.length]; exact line_of q)
    exact (r1.back (t := t) fun val s' B' r l' k' vr => k val s' B' r (l1.trans l') (k1.trans k') vr).push r1.g _ rfl (.tup put_self (v1.le (put_le (r1.g.sub.none (fresh _ (Nat.le_refl _))))))
  · cases e
end
end Mine
end

section
namespace Mine
open PySem PySem.Calls PySem.Spec PySem.W PyProof.Rows
set_option maxRecDepth 100000

/-- a call of a built-in on values -/
noncomputable def CoE (prog : Program) (w : World) (K : Frag) (mg mb : Str → Option Value) (fv : Value) (pf : List V → Option V) : Prop :=
  ∀ (A : Around) (args : List V) (vals : List Value) (B : Pm) (s : Shared) (Q E : Value → Shared → Prop) (r : V),
    Room 4 A → G0 K mg mb B s → VRs w B args vals → pf args = some r → Back w K mg mb B s r Q → wpAny (model prog w) A (call fv vals) Q E s
/-- a method of str -/
structure MeE (prog : Program) (w : World) (K : Frag) (mg mb : Str → Option Value) (name : Str) (id : String) (pf : List V → Option V) : Prop where
  slot : PySem.Slot "str" name id
  ty : typeOf (.builtin id) = pure (.type "method_descriptor")
  call : CoE prog w K mg mb (.builtin id) pf

section
variable {prog : Program} {w : World} {K : Frag} {mg mb : Str → Option Value} {t : Bool} {X : Act} {n : Nat} {ρ : List Slot} {B : Pm} {s : Shared} {A : Around} {E : Value → Shared → Prop}

theorem statH (g : G0 K mg mb B s) : StatH K mg mb s.heap := g.stat.all _ g.sub
theorem load_glob {x : Str} {v : Value} {pos : Pos} {Q : Value → Shared → Prop} (ok : ActOK X) (g : G0 K mg mb B s) (hx : X.env.kindOf x = some .globalImplicit) (e : nsIn K mainGlobals x = some (some v)) (h : Q v s)
    (hd : (x == ("__debug__" : Str)) = false) : wpAny (model prog w) A (eval (.Name x pos) X.env) Q E s :=
  Name_function_global ok.fn hx (loadGlobal_global (env := X.env) (by rw [ok.glob]; exact (statH g).g) (mg_of (statH g).inK (statH g).g e) h) hd
theorem load_boot {x : Str} {v : Value} {pos : Pos} {Q : Value → Shared → Prop} (ok : ActOK X) (g : G0 K mg mb B s) (hx : X.env.kindOf x = some .globalImplicit) (e : nsIn K mainGlobals x = some none) (hv : bootBuiltins x = some v) (hn : x ≠ "__name__") (h : Q v s)
    (hd : (x == ("__debug__" : Str)) = false) : wpAny (model prog w) A (eval (.Name x pos) X.env) Q E s :=
  Name_function_global ok.fn hx (loadGlobal_builtin (env := X.env) (by rw [ok.glob]; exact (statH g).g) (mg_none_of (statH g).inK (statH g).g e) (by rw [ok.bi]; exact (statH g).b) (((statH g).boot x hn).trans hv) h) hd

/-- a global constant of the text -/
theorem ev_glob (ok : ActOK X) {x : Str} {v : Value} {pos : Pos} {d : V} (hx : X.env.kindOf x = some .globalImplicit) (e : nsIn K mainGlobals x = some (some v)) (hv : ∀ B, (∀ a o, K.lookup a = some o → B a = some o) → VR w B d v)
    (hd : (x == ("__debug__" : Str)) = false := by decide) : EvE prog w K mg mb t X n (.Name x pos) (fun _ => some d) := .mk fun A ρ B s Q E v' hr h e' k => by
  cases e'
  exact load_glob ok h.g hx e (k _ s B h (Le.refl B) (Kp.refl s) (hv B h.g.stat.inB)) hd
theorem ev_booty (ok : ActOK X) {x : Str} {T : String} {pos : Pos} (hx : X.env.kindOf x = some .globalImplicit) (e : nsIn K mainGlobals x = some none) (hv : bootBuiltins x = some (.type T)) (hn : x ≠ "__name__" := by decide)
    (hd : (x == ("__debug__" : Str)) = false := by decide) : EvE prog w K mg mb t X n (.Name x pos) (fun _ => some (.typ T)) := .mk fun A ρ B s Q E v' hr h e' k => by
  cases e'
  exact load_boot ok h.g hx e hv hn (k _ s B h (Le.refl B) (Kp.refl s) (.typ T)) hd

theorem ev_call (ok : ActOK X) {x : Str} {fv : Addr} {m : Nat} {pf : List V → Option V} {fp pos : Pos} {e1 : Expr} {rest : List Expr} {p : List Slot → Option (List V)} (hf : FnE prog w K mg mb t fv m pf) (hm : m ≤ n)
    (hx : X.env.kindOf x = some .globalImplicit) (e : nsIn K mainGlobals x = some (some (.ref fv))) (hk : keepIn K (.ref fv) = true) (h1 : EvL prog w K mg mb t X n (backTo pos (starEach (e1 :: rest) X.env)) p)
    (hd : (x == ("__debug__" : Str)) = false := by decide) (he : starEach (e1 :: rest) X.env = (false, eval e1 X.env) :: starEach rest X.env := by rfl) (hplain : (backTo pos (starEach rest X.env)).any (·.1) = false := by rfl) :
    EvE prog w K mg mb t X n (.Call (.Name x fp) (e1 :: rest) [] pos) (fun ρ => (p ρ).bind pf) := .mk fun A ρ B s Q E v hr h e' k => by
  obtain ⟨l, el, ef⟩ := Option.bind_eq_some_iff.mp e'
  refine Call_Name rfl (load_glob ok h.g hx e ?_ hd)
  refine callWith_K (h₀ := s.heap) (statH h.g).inK hk (h1.run A ρ B s _ E l hr h el fun vals s1 B1 r1 l1 k1 v1 => ⟨(statH r1.g).inK, ?_⟩) he hplain
  exact hf A l vals B1 s1 Q E v (hr.le hm) r1.g v1 ef fun val s' B' g' l' kp gr vr => k val s' B' (r1.step (t := t) g' l' kp gr) (l1.trans l') (k1.trans kp) vr

theorem Room.four (r : Room n A) (h : 4 ≤ n) : Room 4 A := r.le h
theorem ev_bcall (ok : ActOK X) (h4 : 4 ≤ n) {x : Str} {id : String} {pf : List V → Option V} {fp pos : Pos} {e1 : Expr} {rest : List Expr} {p : List Slot → Option (List V)} (hf : CoE prog w K mg mb (.builtin id) pf)
    (hx : X.env.kindOf x = some .globalImplicit) (e : nsIn K mainGlobals x = some none) (hv : bootBuiltins x = some (.builtin id)) (h1 : EvL prog w K mg mb t X n (backTo pos (starEach (e1 :: rest) X.env)) p) (hn : x ≠ "__name__" := by decide)
    (hd : (x == ("__debug__" : Str)) = false := by decide) (he : starEach (e1 :: rest) X.env = (false, eval e1 X.env) :: starEach rest X.env := by rfl) (hplain : (backTo pos (starEach rest X.env)).any (·.1) = false := by rfl) :
    EvE prog w K mg mb t X n (.Call (.Name x fp) (e1 :: rest) [] pos) (fun ρ => (p ρ).bind pf) := .mk fun A ρ B s Q E v hr h e' k => by
  obtain ⟨l, el, ef⟩ := Option.bind_eq_some_iff.mp e'
  refine Call_Name rfl (load_boot ok h.g hx e hv hn ?_ hd)
  have z := h1.run A ρ B s
  rw [he] at z ⊢
  refine callWith_builtin (by show (false || (backTo pos (starEach rest X.env)).any (·.1)) = false; rw [hplain]; rfl) (evalArgs_plain (z _ E l hr h el fun vals s1 B1 r1 l1 k1 v1 => ?_))
  exact hf A l vals B1 s1 Q E v (hr.four h4) r1.g v1 ef (r1.back (t := t) fun val s' B' r l' k' vr => k val s' B' r (l1.trans l') (k1.trans k') vr)
theorem ev_tcall (ok : ActOK X) (h4 : 4 ≤ n) {x : Str} {T : String} {pf : List V → Option V} {fp pos : Pos} {e1 : Expr} {rest : List Expr} {p : List Slot → Option (List V)} (hf : CoE prog w K mg mb (.type T) pf)
    (hx : X.env.kindOf x = some .globalImplicit) (e : nsIn K mainGlobals x = some none) (hv : bootBuiltins x = some (.type T)) (h1 : EvL prog w K mg mb t X n (backTo pos (starEach (e1 :: rest) X.env)) p) (hn : x ≠ "__name__" := by decide)
    (hd : (x == ("__debug__" : Str)) = false := by decide) (he : starEach (e1 :: rest) X.env = (false, eval e1 X.env) :: starEach rest X.env := by rfl) (hplain : (backTo pos (starEach rest X.env)).any (·.1) = false := by rfl) :
    EvE prog w K mg mb t X n (.Call (.Name x fp) (e1 :: rest) [] pos) (fun ρ => (p ρ).bind pf) := .mk fun A ρ B s Q E v hr h e' k => by
  obtain ⟨l, el, ef⟩ := Option.bind_eq_some_iff.mp e'
  refine Call_Name rfl (load_boot ok h.g hx e hv hn ?_ hd)
  have z := h1.run A ρ B s
  rw [he] at z ⊢
  refine PySem.callWith_type (by show (false || (backTo pos (starEach rest X.env)).any (·.1)) = false; rw [hplain]; rfl) (evalArgs_plain (z _ E l hr h el fun vals s1 B1 r1 l1 k1 v1 => ?_))
  exact hf A l vals B1 s1 Q E v (hr.four h4) r1.g v1 ef (r1.back (t := t) fun val s' B' r l' k' vr => k val s' B' r (l1.trans l') (k1.trans k') vr)

/-- o.name(args) on a text -/
theorem ev_meth (h4 : 4 ≤ n) {name : Str} {id : String} {pf : List V → Option V} {o e1 : Expr} {apos pos : Pos} {rest : List Expr} {p0 : List Slot → Option V} {p : List Slot → Option (List V)} (hm : MeE prog w K mg mb name id pf)
    (h0 : EvE prog w K mg mb t X n o p0) (h1 : EvL prog w K mg mb t X n (backTo pos (starEach (e1 :: rest) X.env)) p)
    (hbase : attributeBase o name X.env (eval o X.env) = eval o X.env := by rfl)
    (hfew : ((backTo pos (starEach (e1 :: rest) X.env)).all (fun x => !x.1) && (backToKw pos (keywordEach [] X.env)).all (fun x => x.1.isSome)
      && decide ((e1 :: rest).length + ([] : List Keyword).length + (if ([] : List Keyword).isEmpty then 0 else 1) < 30)) = true := by rfl)
    (hline : (apos.endLine == pos.line) = true := by rfl)
    (he : starEach (e1 :: rest) X.env = (false, eval e1 X.env) :: starEach rest X.env := by rfl) (hplain : (backTo pos (starEach rest X.env)).any (·.1) = false := by rfl) :
    EvE prog w K mg mb t X n (.Call (.Attribute o name apos) (e1 :: rest) [] pos) (fun ρ => (p0 ρ).bind fun a => match a with
      | .str x => (p ρ).bind fun l => pf (.str x :: l)
      | _ => none) := .mk fun A ρ B s Q E v hr h e' k => by
  obtain ⟨a, ea, e'⟩ := Option.bind_eq_some_iff.mp e'
  cases a with
  | str x =>
    obtain ⟨l, el, ef⟩ := Option.bind_eq_some_iff.mp e'
    refine wpAny_Call_method_lateS hbase hfew hline (h0.run A ρ B s _ E _ hr h ea fun va s1 B1 r1 l1 k1 v1 => ?_)
    cases v1
    refine ⟨"str", id, F.plainAttrs_str, hm.slot, hm.ty, typeIs_str _ _ _, (fun _ e => nomatch e), ?_⟩
    have z := h1.run A ρ B1 s1
    rw [he] at z ⊢
    refine callWith_builtin (by show (false || (backTo pos (starEach rest X.env)).any (·.1)) = false; rw [hplain]; rfl) (evalArgs_plain (z _ E l hr r1 el fun vals s2 B2 r2 l2 k2 v2 => ?_))
    exact hm.call A _ _ B2 s2 Q E v (hr.four h4) r2.g (.cons (.str _ _) v2) ef (r2.back (t := t) fun val s' B' r l' k' vr => k val s' B' r (l1.trans (l2.trans l')) (k1.trans (k2.trans k')) vr)
  | _ => cases e'

noncomputable def pf_startswith : List V → Option V
  | [.str x, .str y] => some (.bool (Txt.startswith x y))
  | _ => none
noncomputable def pf_endswith : List V → Option V
  | [.str x, .str y] => some (.bool (Txt.endswith x y))
  | _ => none
noncomputable def pf_rfind : List V → Option V
  | [.str x, .str y] => some (.int (Txt.rfind x y))
  | _ => none
noncomputable def pf_rstrip : List V → Option V
  | [.str x, .str y] => if x.length ≤ 4096 then some (.str (Txt.rstripChars x y)) else none
  | _ => none
noncomputable def pf_join : List V → Option V
  | [.str x, .lst l] => (strsOf l).bind fun ss => if JoinOk x ss = true then some (.str (Txt.join x ss)) else none
  | _ => none
noncomputable def pf_split : List V → Option V
  | [.str x, .str y] => if x.length ≤ 4096 ∧ (y.length == 0) = false ∧ (Builtin.Str.partsBetween x (Builtin.Str.occurrences x y 0 x.length (x.length + 1)) y.length).length ≤ 4096 then some (.lst ((Txt.split x y).map .str)) else none
  | _ => none
noncomputable def pf_len : List V → Option V
  | [.str x] => if x.length ≤ 4096 then some (.int x.length) else none
  | [.lst l] => if l.length ≤ 4096 then some (.int l.length) else none
  | _ => none
noncomputable def pf_max : List V → Option V
  | [.int a, .int b] => some (.int (if b > a then b else a))
  | _ => none
noncomputable def pf_int : List V → Option V
  | [.str x] => if x.length ≤ 640 then (PySem.intText? x).map .int else none
  | _ => none
noncomputable def pf_type : List V → Option V
  | [.str _] => some (.typ "str")
  | _ => none
noncomputable def pf_isinstance : List V → Option V
  | [.str _, .typ "str"] => some (.bool true)
  | [.str _, .typ "bytes"] => some (.bool false)
  | _ => none

theorem me_startswith : MeE prog w K mg mb "startswith" "str.startswith" pf_startswith := ⟨F.slot_str_startswith, F.type_str_startswith, fun A args vals B s Q E r hr g va e k => by
  unfold pf_startswith at e
  split at e
  · cases e; cases va with | cons a b => cases b with | cons b c => cases c; cases a; cases b; exact SC.startswith (k.same g (.bool _))
  · cases e⟩
theorem me_endswith : MeE prog w K mg mb "endswith" "str.endswith" pf_endswith := ⟨F.slot_str_endswith, F.type_str_endswith, fun A args vals B s Q E r hr g va e k => by
  unfold pf_endswith at e
  split at e
  · cases e; cases va with | cons a b => cases b with | cons b c => cases c; cases a; cases b; exact SC.endswith (k.same g (.bool _))
  · cases e⟩
theorem me_rfind : MeE prog w K mg mb "rfind" "str.rfind" pf_rfind := ⟨F.slot_str_rfind, F.type_str_rfind, fun A args vals B s Q E r hr g va e k => by
  unfold pf_rfind at e
  split at e
  · cases e; cases va with | cons a b => cases b with | cons b c => cases c; cases a; cases b; exact SC.rfind (k.tok g (.int _ _) _)
  · cases e⟩
theorem me_rstrip : MeE prog w K mg mb "rstrip" "str.rstrip" pf_rstrip := ⟨F.slot_str_rstrip, F.type_str_rstrip, fun A args vals B s Q E r hr g va e k => by
  unfold pf_rstrip at e
  split at e
  · split at e
    · rename_i hl
      cases e; cases va with | cons a b => cases b with | cons b c => cases c; cases a; cases b; exact SC.rstripChars (fun t' tk => k.tok g (.str _ _) _) (line_of hl)
    · cases e
  · cases e⟩
theorem strsOf_ok : ∀ {l : List V} {xs : List Value} {ss : List Str}, VRs w B l xs → strsOf l = some ss → ∃ q : List (Str × Tok), strValues q = xs ∧ q.map (·.1) = ss := fun {l} => by
  induction l with
  | nil => intro xs ss h e; cases h; cases e; exact ⟨[], rfl, rfl⟩
  | cons v r ih =>
    intro xs ss h e
    cases h with
    | cons a h =>
      cases v with
      | str i =>
        cases a with
        | str _ t =>
          obtain ⟨ss', e', rfl⟩ := Option.map_eq_some_iff.mp (show (strsOf r).map (i :: ·) = some ss from e)
          obtain ⟨q, rfl, rfl⟩ := ih h e'
          exact ⟨(i, t) :: q, rfl, rfl⟩
      | _ => exact nomatch (show (none : Option (List Str)) = some ss from e)
theorem me_join : MeE prog w K mg mb "join" "str.join" pf_join := ⟨F.slot_str_join, F.type_str_join, fun A args vals B s Q E r hr g va e k => by
  unfold pf_join at e
  split at e
  · obtain ⟨ss, es, e⟩ := Option.bind_eq_some_iff.mp e
    split at e
    · rename_i hj
      cases e
      cases va with
      | cons a b => cases b with
        | cons b c =>
          cases c; cases a
          cases b with
          | lst hb hsb =>
            obtain ⟨q, h1, h2⟩ := strsOf_ok hsb es
            subst h1
            exact SC.join ⟨_, g.sub _ _ hb, rfl, _, rfl⟩ h2 hj fun t' tk => k.tok g (.str _ _) _
    · cases e
  · cases e⟩
theorem VRs.strs : ∀ (q : List (Str × Tok)), VRs w B ((q.map (·.1)).map .str) (strValues q)
  | [] => .nil
  | (x, t) :: r => .cons (.str x t) (VRs.strs r)
theorem me_split : MeE prog w K mg mb "split" "str.split" pf_split := ⟨F.slot_str_split, F.type_str_split, fun A args vals B s Q E r hr g va e k => by
  unfold pf_split at e
  split at e
  · rename_i x y
    split at e
    · rename_i hj
      cases e
      cases va with
      | cons a b => cases b with
        | cons b c =>
          cases c; cases a; cases b
          obtain ⟨h1, h2, h3⟩ := hj
          have mk : ∀ (q : List (Str × Tok)) (tk : Nat), q.map (·.1) = Txt.split x y → Q (.ref s.heap.objs.size) { s with toks := tk, heap := s.heap.push { cls := .type "list", data := .seq (strValues q).toArray } } := fun q tk hq =>
            k.push g tk rfl (.lst put_self (by rw [← hq]; exact VRs.strs q))
          cases c1 : (decide (x.length < y.length) || decide (Builtin.Str.strKind x < Builtin.Str.strKind y))
          · cases hf : (Builtin.Str.occurrences x y 0 x.length (x.length + 1)).isEmpty
            · refine call_meets F.slot_str_split (typeIs_str _ _ _) F.entry_str_split (F.args_str_split_2 _ _) (meets_str_split_sep x y _ _ c1 h2 hf (line_of h1) (line_of h3)) ?_
              show wants Q E _ { s with toks := _, heap := s.heap.push { cls := .type "list", data := .seq (strsFrom s.toks (Builtin.Str.partsBetween x (Builtin.Str.occurrences x y 0 x.length (x.length + 1)) y.length)).toArray } }
              rw [strsFrom_eq]
              exact mk (numbered s.toks _) _ ((numbered_texts _ _).trans ((if_neg (ne_true_of_eq_false c1)).trans (if_neg (ne_true_of_eq_false hf))).symm)
            · exact call_meets F.slot_str_split (typeIs_str _ _ _) F.entry_str_split (F.args_str_split_2 _ _) (meets_str_split_not_found x y _ _ c1 h2 hf)
                (mk [(x, _)] _ ((if_neg (ne_true_of_eq_false c1)).trans (if_pos hf)).symm)
          · exact call_meets F.slot_str_split (typeIs_str _ _ _) F.entry_str_split (F.args_str_split_2 _ _) (meets_str_split_cannot_occur x y _ _ c1)
              (mk [(x, _)] _ (if_pos c1).symm)
    · cases e
  · cases e⟩

theorem co_len : CoE prog w K mg mb (.builtin "len") pf_len := fun A args vals B s Q E r hr g va e k => by
  unfold pf_len at e
  split at e
  · split at e
    · rename_i hl
      cases e; cases va with | cons a b => cases b; cases a; exact P.len_str (by omega) (k.tok g (.int _ _) _)
    · cases e
  · split at e
    · rename_i hl
      cases e
      cases va with
      | cons a b =>
        cases b
        cases a with
        | lst ha hsa =>
          refine call_len_list ⟨_, g.sub _ _ ha, rfl, _, rfl⟩ (by rw [List.size_toArray, hsa.length]; omega) ?_
          rw [List.size_toArray, hsa.length]
          exact k.tok g (.int _ _) _
    · cases e
  · cases e
theorem co_max : CoE prog w K mg mb (.builtin "max") pf_max := fun A args vals B s Q E r hr g va e k => by
  unfold pf_max at e
  split at e
  · cases e; cases va with
    | cons a b => cases b with
      | cons b c =>
        cases c; cases a; cases b
        refine max_two_ints hr.hh fun h' tk hk => ?_
        have g' : G0 K mg mb B { s with heap := h', toks := tk } := ⟨fun b o q => hk _ _ (g.sub b o q), g.stat, g.tabB, g.tab.keep fun _ q => hk _ _ q⟩
        refine k _ _ B g' (Le.refl B) (Kp.heap s tk hk) (fun _ _ e => .inl e) ?_
        split <;> exact .int _ _
  · cases e
theorem co_int : CoE prog w K mg mb (.type "int") pf_int := fun A args vals B s Q E r hr g va e k => by
  unfold pf_int at e
  split at e
  · split at e
    · rename_i hl
      obtain ⟨n, en, rfl⟩ := Option.map_eq_some_iff.mp e
      cases va with | cons a b => cases b; cases a; exact PySem.W.KIN.call_text en hl (k.tok g (.int _ _) _)
    · cases e
  · cases e
theorem co_type : CoE prog w K mg mb (.type "type") pf_type := fun A args vals B s Q E r hr g va e k => by
  unfold pf_type at e
  split at e
  · cases e; cases va with | cons a b => cases b; cases a; exact call_type_of (typeIs_str _ _ _) (by decide) (k.same g (.typ _))
  · cases e
theorem sub_str_bytes : isSubtype (.type "str") (.type "bytes") = pure false := by rw [isSubtype_type]; kernel_rfl
theorem co_isinstance : CoE prog w K mg mb (.builtin "isinstance") pf_isinstance := fun A args vals B s Q E r hr g va e k => by
  unfold pf_isinstance at e
  split at e
  · cases e; cases va with
    | cons a b => cases b with
      | cons b c =>
        cases c; cases a; cases b
        exact call_isinstance_yes (typeIs_str _ _ _) PySem.F.isi_meta_str PySem.F.isi_self_str (k.same g (.bool _))
  · cases e; cases va with
    | cons a b => cases b with
      | cons b c =>
        cases c; cases a; cases b
        obtain ⟨hp, gn, d, tk, os⟩ := s
        refine call_isinstance_of ?_
        exact isinstance_nested_false_str (by decide) (by kernel_rfl) sub_str_bytes (k.tok g (.bool _) _)
  · cases e
end
end Mine
end

section
namespace Mine
open PySem PySem.Calls PySem.Spec PySem.W PyProof.Rows
set_option maxRecDepth 100000

section
variable {prog : Program} {w : World} {K : Frag} {mg mb : Str → Option Value} {t : Bool} {X : Act} {n : Nat} {ρ : List Slot} {B : Pm} {s : Shared} {A : Around} {E : Value → Shared → Prop}

/-- after a store into a name: what is left of the activation -/
structure Stored (X : Act) (s : Shared) (h' : Heap) (x : Str) (val : Value) : Prop where
  at_ : VarAt X.env h' x val
  oth : ∀ y v, y ≠ x → VarAt X.env s.heap y v → VarAt X.env h' y v
  keep : ∀ b o, b ≠ X.env.locals → (∀ y, X.st = true → X.env.kindOf y = some .cell → X.env.cells.lookup y ≠ some b) → s.heap.get? b = some o → h'.get? b = some o
  frame : ∃ m, h'.Ns X.env.locals m
  cells : ∀ y c, X.env.cells.lookup y = some c → ∃ v, h'.IsCell c v

noncomputable def Stable (X : Act) (x : Str) : Prop := X.st = true ∧ (X.env.kindOf x = some .local ∨ (X.env.kindOf x = some .cell ∧ (X.env.cells.lookup x).isSome = true))

theorem store_var {x : Str} {val : Value} {Q : Unit → Shared → Prop} (ok : ActOK X) (h : SR w K mg mb X ρ B s) (hk : Stable X x)
    (k : ∀ h' tk, Stored X s h' x val → Q () { s with heap := h', toks := tk }) : wpAny (model prog w) A (storeName X.env x val) Q E s := by
  obtain ⟨m, hm⟩ := h.frame
  have cne : ∀ y c, X.env.cells.lookup y = some c → c ≠ X.env.locals := ok.neC
  rcases hk with ⟨hst, hk | ⟨hk, hc⟩⟩
  · refine wpAny_storeName_local hk hm (fun h' hn hs => k h' _ ⟨?_, ?_, ?_, ⟨_, hn⟩, ?_⟩) ?_
    · exact .inl ⟨hk, _, hn, by simp⟩
    · intro y v hy hv
      rcases hv with ⟨h1, m', h2, h3⟩ | ⟨h1, c, h2, o, h3, h4⟩
      · refine .inl ⟨h1, _, hn, ?_⟩
        simp only [hy, if_false]
        obtain ⟨o1, es1, ep1, e1, e2, _, e4⟩ := h2
        obtain ⟨o2, es2, ep2, f1, f2, _, f4⟩ := hm
        rw [e1] at f1; cases f1
        rw [e2] at f2; cases f2
        rw [← f4 y, e4 y, h3]
      · exact .inr ⟨h1, c, h2, o, (hs.2 c (cne _ _ h2)).trans h3, h4⟩
    · intro b o hb _ e
      exact (hs.2 b hb).trans e
    · intro y c hc
      obtain ⟨v, o, e, d⟩ := h.cellLive y c hc
      exact ⟨v, o, (hs.2 c (cne _ _ hc)).trans e, d⟩
    · rw [ok.fn]; rfl
  · obtain ⟨c, hc⟩ := Option.isSome_iff_exists.mp hc
    obtain ⟨v₀, hv₀⟩ := h.cellLive x c hc
    refine wpAny_storeName_cell ok.fn hk hc hv₀ fun h' hv hs => ?_
    have : ({ s with heap := h' } : Shared) = { s with heap := h', toks := s.toks } := rfl
    rw [this]
    refine k h' _ ⟨.inr ⟨.inl hk, c, hc, hv⟩, ?_, ?_, ?_, ?_⟩
    · intro y v hy hv'
      rcases hv' with ⟨h1, m', h2, h3⟩ | ⟨h1, c', h2, o, h3, h4⟩
      · exact .inl ⟨h1, m', h2.sameBut hs (cne _ _ hc).symm, h3⟩
      · have : c' ≠ c := fun q => hy (ok.apart y x c (q ▸ h2) hc)
        exact .inr ⟨h1, c', h2, o, (hs.2 c' this).trans h3, h4⟩
    · intro b o _ hb e
      exact (hs.2 b (fun q => hb x hst hk (q ▸ hc))).trans e
    · exact ⟨m, hm.sameBut hs (cne _ _ hc).symm⟩
    · intro y c' hc'
      by_cases q : c' = c
      · subst q; exact ⟨_, hv⟩
      · obtain ⟨v, o, e, d⟩ := h.cellLive y c' hc'
        exact ⟨v, o, (hs.2 c' q).trans e, d⟩

theorem SR.neL (h : SR w K mg mb X ρ B s) {a : Addr} {vs : Array Value} (p : s.heap.PlainList a vs) : a ≠ X.env.locals := by
  obtain ⟨m, o, es, ep, e, d, _⟩ := h.frame
  obtain ⟨k, e'⟩ := p
  rintro rfl
  rw [e] at e'; cases e'; cases d
theorem SR.neC (h : SR w K mg mb X ρ B s) {a : Addr} {o : Obj} (p : s.heap.get? a = some o) (d : ∀ v, o.data ≠ .cell v) : ∀ y, X.env.cells.lookup y ≠ some a := fun y q => by
  obtain ⟨v, o', e, d'⟩ := h.cellLive y a q
  rw [p] at e; cases e; exact d _ d'
theorem PlainList.nc {h : Heap} {a : Addr} {vs : Array Value} {o : Obj} (p : h.PlainList a vs) (e : h.get? a = some o) : ∀ v, o.data ≠ .cell v := by
  obtain ⟨kk, e2⟩ := p
  rw [e] at e2; cases e2
  exact fun v q => by cases q

/-- the own object's address is no own slot's, but at most slot i's -/
noncomputable def Apart (X : Act) (ρ : List Slot) (s : Shared) (i : Nat) (a : Addr) : Prop :=
  ∀ j sb y, ρ[j]? = some sb → sb.owns = true → j ≠ i → X.names[j]? = some y → ∀ b, VarAt X.env s.heap y (.ref b) → b ≠ a

noncomputable def OwnOK (w : World) (B : Pm) (h0 h : Heap) (X : Act) (a : Addr) : Slot → Prop
  | .own l => B a = none ∧ h0.get? a = none ∧ ∃ vs, h.PlainList a vs.toArray ∧ VRs w B l vs
  | .ownd l => B a = none ∧ h0.get? a = none ∧ ((a == sysModules) = false ∧ a ≠ X.env.locals) ∧ ∃ o es, h.get? a = some o ∧ o.ExactDict ∧ (∃ n, o.data = .dict es.toArray n) ∧ VRd w B l es ∧ (l.map (·.1)).Nodup
  | _ => False

noncomputable def clr (i : Nat) : Slot → Slot
  | .bm j => if j = i then .unb else .bm j
  | sl => sl
noncomputable def setS (ρ : List Slot) (i : Nat) (sl : Slot) : List Slot := (ρ.map (clr i)).set i sl

theorem clr_owns {i : Nat} {sl : Slot} : (clr i sl).owns = sl.owns := by
  cases sl with
  | bm j => simp only [clr]; split <;> rfl
  | _ => rfl

theorem names_ne {i j : Nat} {x y : Str} (ok : ActOK X) (hx : X.names[i]? = some x) (hy : X.names[j]? = some y) (hne : j ≠ i) : y ≠ x := fun q => by
  subst q
  have hj := (List.getElem?_eq_some_iff.mp hy)
  have hi := (List.getElem?_eq_some_iff.mp hx)
  exact hne ((List.getElem_inj ok.nd).mp (hj.2.trans hi.2.symm))

theorem Stored.tab {x : Str} {val : Value} {h' : Heap} (h : SR w K mg mb X ρ B s) (st : Stored X s h' x val) : ∀ o, s.heap.get? tbA = some o → h'.get? tbA = some o := fun o e => by
  obtain ⟨ps, e', _⟩ := h.g.tab
  obtain ⟨m, hm⟩ := h.frame
  refine st.keep _ o (Ne.symm (Ns.ne_tab h.g.tab hm)) ?_ e
  rw [e] at e'; cases e'
  exact fun y _ _ => h.neC e (fun v q => by cases q) y
/-- the slots behind a store; sl is the new slot -/
noncomputable def refOr (v : Value) (d : Addr) : Addr := match v with
  | .ref a => a
  | _ => d
theorem SR.store {i : Nat} {x : Str} {val : Value} {sl : Slot} {h' : Heap} {tk : Nat} (ok : ActOK X) (h : SR w K mg mb X ρ B s) (hx : X.names[i]? = some x) (st : Stored X s h' x val)
    (hsl : (∃ v, sl = .val v ∧ VR w B v val) ∨ (∃ j ad b o, sl = .bm j ∧ j ≠ i ∧ val = .ref b ∧ B b = some o ∧ appendObj ad o ∧ (∃ y l, X.names[j]? = some y ∧ ρ[j]? = some (.own l) ∧ VarAt X.env s.heap y (.ref ad))) ∨
      (∃ a, val = .ref a ∧ OwnOK w B X.h0 s.heap X a sl ∧ Apart X ρ s i a)) : SR w K mg mb X (setS ρ i sl) B { s with heap := h', toks := tk } := by
  have T := h.g.tab
  have keepB : ∀ b o, B b = some o → h'.get? b = some o := fun b o e => st.keep b o (by rintro rfl; rw [h.frameB] at e; cases e) (fun y _ _ q => by rw [h.cellB y b q] at e; cases e) (h.g.sub b o e)
  have keepTab := st.tab h
  refine ⟨⟨keepB, h.g.stat, h.g.tabB, T.keep keepTab⟩, fun b o hb e => ?_, h.grow, h.mono, st.frame, h.frameB, h.cellB, fun y c hc => ?_, ?_⟩
  · refine st.keep b o ?_ ?_ (h.keep b o hb e)
    · rintro rfl; rw [ok.newL] at e; cases e
    · intro y hst hk q; rw [ok.newC y b hst hk q] at e; cases e
  · exact st.cells y c hc
  · obtain ⟨ad, h1, h2⟩ := h.slots
    obtain ⟨ad', had, hat⟩ : ∃ ad' : Nat → Addr, (∀ j, j ≠ i → ad' j = ad j) ∧ ∀ a, val = .ref a → ad' i = a :=
      ⟨fun j => if j = i then refOr val (ad i) else ad j, fun j hj => if_neg hj, fun a ha => (if_pos rfl).trans (by rw [ha]; rfl)⟩
    have old : ∀ j y sb, X.names[j]? = some y → ρ[j]? = some sb → j ≠ i → SlotOK w B X.h0 h' X.env ad' j y (clr i sb) := by
      intro j y sb hy hs hne
      have z := h1 j y sb hy hs
      have hyx := names_ne ok hx hy hne
      cases sb with
      | unb => trivial
      | val v =>
        obtain ⟨val', a, b⟩ := z
        exact ⟨val', st.oth y _ hyx a, b⟩
      | own l =>
        obtain ⟨a, b, vs, c, d⟩ := z
        have q := had j hne
        show SlotOK _ _ _ _ _ _ _ _ (.own l)
        refine ⟨by rw [q]; exact st.oth y _ hyx a, by rw [q]; exact b, vs, ?_, d⟩
        rw [q]
        exact c.at fun o e => st.keep _ o (h.neL c) (fun y _ _ => h.neC e (PlainList.nc c e) y) e
      | ownd l =>
        obtain ⟨a, b, b2, o, es, c, d, e, f, g⟩ := z
        have q := had j hne
        show SlotOK _ _ _ _ _ _ _ _ (.ownd l)
        refine ⟨by rw [q]; exact st.oth y _ hyx a, by rw [q]; exact b, by rw [q]; exact b2, o, es, ?_, d, e, f, g⟩
        rw [q]
        refine st.keep _ o b2.2 (fun y _ _ => h.neC c ?_ y) c
        obtain ⟨kk, e⟩ := e
        exact fun v q => by rw [e] at q; cases q
      | bm j' =>
        obtain ⟨b, o, a, c, d⟩ := z
        simp only [clr]
        split
        · trivial
        · rename_i q
          refine ⟨b, o, st.oth y _ hyx a, c, ?_⟩
          rw [had j' q]; exact d
    have at' : ∀ j sb, (setS ρ i sl)[j]? = some sb → (j = i ∧ sb = sl) ∨ (j ≠ i ∧ ∃ s0, ρ[j]? = some s0 ∧ sb = clr i s0) := by
      intro j sb e
      unfold setS at e
      rw [List.getElem?_set] at e
      split at e
      · rename_i q
        split at e
        · cases e; exact .inl ⟨q.symm, rfl⟩
        · cases e
      · rename_i q
        rw [List.getElem?_map] at e
        obtain ⟨s0, e1, e2⟩ := Option.map_eq_some_iff.mp e
        exact .inr ⟨fun r => q r.symm, s0, e1, e2.symm⟩
    refine ⟨ad', fun j y sb hy e => ?_, fun j k a b lj lk ea eb oa ob eq => ?_⟩
    · rcases at' j sb e with ⟨rfl, rfl⟩ | ⟨hne, s0, e0, rfl⟩
      · have : y = x := by rw [hy] at hx; exact Option.some.inj hx
        subst this
        rcases hsl with ⟨v, rfl, hv⟩ | ⟨j', ada, b, o, rfl, hj, rfl, hb, ha, yy, l, hyy, hl, hva⟩ | ⟨a, rfl, ho, hap⟩
        · exact ⟨val, st.at_, hv⟩
        · refine ⟨b, o, st.at_, hb, ?_⟩
          obtain ⟨z1, _⟩ := h1 j' yy _ hyy hl
          have := VarAt.unique z1 hva
          injection this with this
          rw [had j' hj, this]; exact ha
        · have q : ad' j = a := hat a rfl
          cases sb with
          | own l =>
            obtain ⟨b1, b2, vs, c, d⟩ := ho
            refine ⟨by rw [q]; exact st.at_, by rw [q]; exact ⟨b1, b2⟩, vs, ?_, d⟩
            rw [q]
            exact c.at fun o e => st.keep _ o (h.neL c) (fun y _ _ => h.neC e (PlainList.nc c e) y) e
          | ownd l =>
            obtain ⟨b1, b2, b3, o, es, c, d, e, f, g⟩ := ho
            refine ⟨by rw [q]; exact st.at_, by rw [q]; exact ⟨b1, b2⟩, by rw [q]; exact b3, o, es, ?_, d, e, f, g⟩
            rw [q]
            refine st.keep _ o b3.2 (fun y _ _ => h.neC c ?_ y) c
            obtain ⟨kk, e⟩ := e
            exact fun v q => by rw [e] at q; cases q
          | _ => exact ho.elim
      · exact old j y s0 hy e0 hne
    · -- distinct
      have key : ∀ j s0, j < X.names.length → j ≠ i → ρ[j]? = some s0 → s0.owns = true → sl.owns = true → ad j ≠ ad' i := by
        intro j s0 lj hne e0 os osl
        rcases hsl with ⟨v, rfl, hv⟩ | ⟨j', ada, b, o, rfl, _⟩ | ⟨a, rfl, ho, hap⟩
        · cases osl
        · cases osl
        · rw [hat a rfl]
          cases hy : X.names[j]? with
          | none => rw [List.getElem?_eq_none_iff] at hy; omega
          | some y =>
            have z := h1 j y s0 hy e0
            refine hap j s0 y e0 os hne hy (ad j) ?_
            cases s0 with
            | own l => exact z.1
            | ownd l => exact z.1
            | _ => cases os
      rcases at' j a ea with ⟨rfl, rfl⟩ | ⟨hj, s0, e0, rfl⟩ <;> rcases at' k b eb with ⟨rfl, rfl⟩ | ⟨hk, s1, e1, rfl⟩
      · rfl
      · exfalso
        rw [clr_owns] at ob
        have := key k s1 lk hk e1 ob oa
        rw [had k hk] at eq
        exact this eq.symm
      · exfalso
        rw [clr_owns] at oa
        have := key j s0 lj hj e0 oa ob
        rw [had j hj] at eq
        exact this eq
      · rw [clr_owns] at oa ob
        rw [had j hj, had k hk] at eq
        exact h2 j k s0 s1 lj lk e0 e1 oa ob eq
end
end Mine
end

section
namespace Mine
open PySem PySem.Calls PySem.Spec PySem.W PyProof.Rows
set_option maxRecDepth 100000

noncomputable abbrev PS := List Slot → Option (PF × List Slot)

section
variable {prog : Program} {w : World} {K : Frag} {mg mb : Str → Option Value} {t : Bool} {X : Act} {n : Nat} {ρ : List Slot} {B : Pm} {s : Shared} {A : Around} {E : Value → Shared → Prop}

theorem xs_nil : ExE prog w K mg mb t X n (execs [] X.env) (fun ρ => some (.next, ρ)) := .mk fun A ρ B s Q E f ρ' hr h e k => by
  cases e
  exact wpAny_execs_nil (k .next s B h (Le.refl B) (Go.refl s) trivial)
noncomputable def pSeq (p q : PS) : PS := fun ρ => (p ρ).bind fun r => match r.1 with
  | .next => q r.2
  | f => some (f, r.2)
theorem xs_cons {st : Stmt} {rest : List Stmt} {p q : PS} (h1 : ExE prog w K mg mb t X n (exec st X.env) p) (h2 : ExE prog w K mg mb t X n (execs rest X.env) q) :
    ExE prog w K mg mb t X n (execs (st :: rest) X.env) (pSeq p q) := .mk fun A ρ B s Q E f ρ' hr h e k => by
  obtain ⟨⟨f1, ρ1⟩, e1, e2⟩ := Option.bind_eq_some_iff.mp e
  refine wpAny_execs_cons (h1.run A ρ B s _ E f1 ρ1 hr h e1 fun fl s1 B1 r1 l1 k1 fo => ?_)
  cases f1 with
  | next =>
    cases fl <;> first | exact fo.elim | skip
    exact h2.run A ρ1 B1 s1 Q E f ρ' hr r1 e2 fun fl s2 B2 r2 l2 k2 fo => k fl s2 B2 r2 (l1.trans l2) (k1.trans k2) fo
  | brk =>
    cases e2
    cases fl <;> first | exact fo.elim | exact k _ s1 B1 r1 l1 k1 fo
  | cont =>
    cases e2
    cases fl <;> first | exact fo.elim | exact k _ s1 B1 r1 l1 k1 fo
  | ret v =>
    cases e2
    cases fl <;> first | exact fo.elim | exact k _ s1 B1 r1 l1 k1 fo

theorem st_pass {pos : Pos} : ExE prog w K mg mb t X n (exec (.Pass pos) X.env) (fun ρ => some (.next, ρ)) := .mk fun A ρ B s Q E f ρ' hr h e k => by
  cases e; exact wpAny_Pass (k .next s B h (Le.refl B) (Go.refl s) trivial)
theorem st_break {pos : Pos} : ExE prog w K mg mb t X n (exec (.Break pos) X.env) (fun ρ => some (.brk, ρ)) := .mk fun A ρ B s Q E f ρ' hr h e k => by
  cases e; exact wpAny_Break (k .brk s B h (Le.refl B) (Go.refl s) trivial)
theorem st_continue {pos : Pos} : ExE prog w K mg mb t X n (exec (.Continue pos) X.env) (fun ρ => some (.cont, ρ)) := .mk fun A ρ B s Q E f ρ' hr h e k => by
  cases e; exact wpAny_Continue (k .cont s B h (Le.refl B) (Go.refl s) trivial)
theorem st_return {e1 : Expr} {pos : Pos} {p : List Slot → Option V} (h1 : EvE prog w K mg mb t X n e1 p) :
    ExE prog w K mg mb t X n (exec (.Return (some e1) pos) X.env) (fun ρ => (p ρ).map fun v => (.ret v, ρ)) := .mk fun A ρ B s Q E f ρ' hr h e k => by
  obtain ⟨v, ev, e⟩ := Option.map_eq_some_iff.mp e
  cases e
  exact wpAny_Return_some (h1.run A ρ B s _ E v hr h ev fun val s' B' r l kp vr => k (.ret val) s' B' r l (kp.go h.g.tab) vr)
noncomputable def pIf (c : List Slot → Option Bool) (p q : PS) : PS := fun ρ => (c ρ).bind fun b => if b then p ρ else q ρ
theorem st_if {c : Expr} {body orelse : List Stmt} {pos : Pos} {pc : List Slot → Option Bool} {p q : PS} (h0 : TsE prog w K mg mb t X n c pc) (h1 : ExE prog w K mg mb t X n (execs body X.env) p) (h2 : ExE prog w K mg mb t X n (execs orelse X.env) q) :
    ExE prog w K mg mb t X n (exec (.If c body orelse pos) X.env) (pIf pc p q) := .mk fun A ρ B s Q E f ρ' hr h e k => by
  obtain ⟨b, eb, e⟩ := Option.bind_eq_some_iff.mp e
  refine wpAny_If (h0.run A ρ B s _ E b hr h eb fun s1 B1 r1 l1 k1 => ?_)
  cases b with
  | true => exact h1.run A ρ B1 s1 Q E f ρ' hr r1 e fun fl s2 B2 r2 l2 k2 fo => k fl s2 B2 r2 (l1.trans l2) ((k1.go h.g.tab).trans k2) fo
  | false => exact h2.run A ρ B1 s1 Q E f ρ' hr r1 e fun fl s2 B2 r2 l2 k2 fo => k fl s2 B2 r2 (l1.trans l2) ((k1.go h.g.tab).trans k2) fo
theorem st_assert {c : Expr} {pos : Pos} {msg : Option Expr} {pc : List Slot → Option Bool} (h0 : TsE prog w K mg mb t X n c pc) :
    ExE prog w K mg mb t X n (exec (.Assert c msg pos) X.env) (fun ρ => (pc ρ).bind fun b => if b then some (.next, ρ) else none) := .mk fun A ρ B s Q E f ρ' hr h e k => by
  obtain ⟨b, eb, e⟩ := Option.bind_eq_some_iff.mp e
  cases b with
  | true =>
    cases e
    exact wpAny_Assert_holds (h0.run A ρ B s _ E true hr h eb fun s1 B1 r1 l1 k1 => ⟨rfl, k .next s1 B1 r1 l1 (k1.go h.g.tab) trivial⟩)
  | false => cases e

noncomputable def pSet (i : Nat) (p : List Slot → Option V) : PS := fun ρ => (p ρ).map fun v => (.next, setS ρ i (.val v))
theorem st_assign (ok : ActOK X) (i : Nat) {x : Str} {e1 : Expr} {px pos : Pos} {p : List Slot → Option V} (hx : X.names[i]? = some x) (hk : Stable X x) (h1 : EvE prog w K mg mb t X n e1 p)
    (hs : swapsWith e1 (some (.Name x px)) pos.line X.env = pure false := by rfl) : ExE prog w K mg mb t X n (exec (.Assign [.Name x px] e1 pos) X.env) (pSet i p) := .mk fun A ρ B s Q E f ρ' hr h e k => by
  obtain ⟨v, ev, e⟩ := Option.map_eq_some_iff.mp e
  cases e
  refine wpAny_Assign_Name (h1.run A ρ B s _ E v hr h ev fun val s1 B1 r1 l1 k1 vr => ?_) hs
  refine store_var ok r1 hk fun h' tk st => ?_
  exact k .next _ B1 (r1.store ok hx st (.inl ⟨v, rfl, vr⟩)) l1 ((k1.go h.g.tab).trans (Go.heap r1.g.tab (st.tab r1))) trivial

/-- a fresh address is no own slot's -/
theorem SR.apart_fresh (h : SR w K mg mb X ρ B s) {s' : Shared} {a : Addr} {i : Nat} (hf : s.heap.get? a = none) (k : Kp t s s') : Apart X ρ s' i a := by
  intro j sb y e0 os hne hy b hb q
  subst q
  obtain ⟨ad, h1, _⟩ := h.slots
  have z := h1 j y sb hy e0
  cases sb with
  | own l =>
    obtain ⟨z1, _, vs, ⟨_, z2⟩, _⟩ := z
    have := (z1.kp h.g.tab k).unique hb
    cases this
    rw [z2] at hf; cases hf
  | ownd l =>
    obtain ⟨z1, _, _, o, es, z2, _⟩ := z
    have := (z1.kp h.g.tab k).unique hb
    cases this
    rw [z2] at hf; cases hf
  | _ => cases os

theorem SR.h0fresh (h : SR w K mg mb X ρ B s) {a : Addr} (hf : s.heap.get? a = none) : X.h0.get? a = none := by
  cases q : X.h0.get? a with
  | none => rfl
  | some o =>
    by_cases ht : a = tbA
    · subst ht
      obtain ⟨ps, e, _⟩ := h.g.tab
      rw [e] at hf; cases hf
    · rw [h.keep a o ht q] at hf; cases hf

noncomputable def pNew (i : Nat) (p : List Slot → Option (List V)) : PS := fun ρ => (p ρ).bind fun l => if l.length ≤ 4096 then some (.next, setS ρ i (.own l)) else none
theorem st_new (ok : ActOK X) (i : Nat) {x : Str} {es : List Expr} {pe px pos : Pos} {p : List Slot → Option (List V)} (hx : X.names[i]? = some x) (hk : Stable X x) (h1 : EvL prog w K mg mb t X n (backTo pe (starEach es X.env)) p) :
    ExE prog w K mg mb t X n (exec (.Assign [.Name x px] (.List es pe) pos) X.env) (pNew i p) := .mk fun A ρ B s Q E f ρ' hr h e k => by
  obtain ⟨l, el, e⟩ := Option.bind_eq_some_iff.mp e
  split at e
  · rename_i q
    cases e
    refine wpAny_Assign_Name (List_ (h1.run A ρ B s _ E l hr h el fun vals s1 B1 r1 l1 k1 v1 => ?_)) rfl
    refine wpAny_newObj_type ?_ (by show vals.toArray.size ≤ sizeLine; rw [List.size_toArray, v1.length]; exact line_of q)
    have r2 := r1.drop (o := { cls := .type "list", data := .seq vals.toArray })
    have hf : s1.heap.get? s1.heap.objs.size = none := fresh _ (Nat.le_refl _)
    have k2 : Kp t s1 { s1 with heap := s1.heap.push { cls := .type "list", data := .seq vals.toArray } } := Kp.heap s1 s1.toks fun _ _ e => Heap.get?_push_of_some _ e
    refine store_var ok r2 hk fun h' tk st => ?_
    refine k .next _ B1 (r2.store ok hx st (.inr (.inr ⟨_, rfl, ⟨r1.g.sub.none hf, r1.h0fresh hf, vals, ⟨0, Heap.get?_push_size _ rfl⟩, v1⟩, r1.apart_fresh hf k2⟩))) l1 (((k1.trans k2).go h.g.tab).trans (Go.heap r2.g.tab (st.tab r2))) trivial
  · cases e

/-- own to value -/
noncomputable def frz (i : Nat) (ρ : List Slot) : List Slot := match ρ[i]? with
  | some (.own l) => ρ.set i (.val (.lst l))
  | some (.ownd l) => ρ.set i (.val (.dct l))
  | _ => ρ
end
end Mine
end

section
namespace Mine
open PySem PySem.Calls PySem.Spec PySem.W PyProof.Rows
set_option maxRecDepth 100000

section
variable {prog : Program} {w : World} {K : Frag} {mg mb : Str → Option Value} {t : Bool} {X : Act} {n : Nat} {ρ : List Slot} {B : Pm} {s : Shared} {A : Around} {E : Value → Shared → Prop}

theorem SR.neT (h : SR w K mg mb X ρ B s) {a : Addr} {o : Obj} (e : s.heap.get? a = some o) (d : ∀ ps, o.data ≠ .fields ps) : a ≠ tbA := ne_tab h.g.tab e d

/-- a lasting object may be named in B -/
theorem SR.name {a : Addr} {o : Obj} (h : SR w K mg mb X ρ B s) (e : s.heap.get? a = some o) (hb : B a = none) (h0 : X.h0.get? a = none) (hT : a ≠ tbA) (hL : a ≠ X.env.locals) (hC : ∀ y, X.env.cells.lookup y ≠ some a)
    (ap : ∀ (i : Nat) (x : Str) (sl : Slot), X.names[i]? = some x → ρ[i]? = some sl → sl.owns = true → ¬VarAt X.env s.heap x (.ref a)) : SR w K mg mb X ρ (put B a o) s ∧ Le B (put B a o) := by
  have l : Le B (put B a o) := put_le hb
  refine ⟨⟨⟨fun b ob q => ?_, h.g.stat.le l, ?_, h.g.tab⟩, h.keep, fun b ob q => ?_, h.mono.trans l, h.frame, ?_, fun y c hc => ?_, h.cellLive, ?_⟩, l⟩
  · unfold put at q
    split at q
    · rename_i r; cases q; rw [r]; exact e
    · exact h.g.sub b ob q
  · unfold put; rw [if_neg (fun q => hT q.symm)]; exact h.g.tabB
  · unfold put at q
    split at q
    · rename_i r; rw [r]; exact .inr h0
    · exact h.grow b ob q
  · unfold put; rw [if_neg (fun q => hL q.symm)]; exact h.frameB
  · unfold put; rw [if_neg (fun q : c = a => hC y (q ▸ hc))]; exact h.cellB y c hc
  · obtain ⟨ad, h1, h2⟩ := h.slots
    refine ⟨ad, fun i x sl hx hs => ?_, h2⟩
    have z := h1 i x sl hx hs
    have zap := ap i x sl hx hs
    cases sl with
    | unb => trivial
    | val v => obtain ⟨val, z1, z2⟩ := z; exact ⟨val, z1, z2.le l⟩
    | own L =>
      obtain ⟨z1, z2, vs, z3, z4⟩ := z
      have : ad i ≠ a := fun q => zap rfl (q ▸ z1)
      exact ⟨z1, ⟨by unfold put; rw [if_neg this]; exact z2.1, z2.2⟩, vs, z3, z4.le l⟩
    | ownd L =>
      obtain ⟨z1, z2, z3, ob, es, z4, z5, z6, z7, z8⟩ := z
      have : ad i ≠ a := fun q => zap rfl (q ▸ z1)
      exact ⟨z1, ⟨by unfold put; rw [if_neg this]; exact z2.1, z2.2⟩, z3, ob, es, z4, z5, z6, z7.le l, z8⟩
    | bm j => obtain ⟨b, ob, z1, z2, z3⟩ := z; exact ⟨b, ob, z1, l _ _ z2, z3⟩

/-- another slot over the same state -/
theorem SR.reslot {i : Nat} {sl : Slot} (h : SR w K mg mb X ρ B s) (ho : sl.owns = false) (hs : ∀ ad : Nat → Addr, (∀ i x sl, X.names[i]? = some x → ρ[i]? = some sl → SlotOK w B X.h0 s.heap X.env ad i x sl) → ∀ x, X.names[i]? = some x → SlotOK w B X.h0 s.heap X.env ad i x sl) : SR w K mg mb X (ρ.set i sl) B s := by
  refine ⟨h.g, h.keep, h.grow, h.mono, h.frame, h.frameB, h.cellB, h.cellLive, ?_⟩
  obtain ⟨ad, h1, h2⟩ := h.slots
  have get : ∀ j sb, (ρ.set i sl)[j]? = some sb → (j = i ∧ sb = sl) ∨ (j ≠ i ∧ ρ[j]? = some sb) := by
    intro j sb e
    rw [List.getElem?_set] at e
    split at e
    · rename_i q
      split at e
      · cases e; exact .inl ⟨q.symm, rfl⟩
      · cases e
    · rename_i q; exact .inr ⟨fun r => q r.symm, e⟩
  refine ⟨ad, fun j y sb hy e => ?_, fun j k a b lj lk ea eb oa ob eq => ?_⟩
  · rcases get j sb e with ⟨rfl, rfl⟩ | ⟨_, e⟩
    · exact hs ad h1 y hy
    · exact h1 j y sb hy e
  · rcases get j a ea with ⟨rfl, rfl⟩ | ⟨_, ea⟩
    · rw [ho] at oa; cases oa
    · rcases get k b eb with ⟨rfl, rfl⟩ | ⟨_, eb⟩
      · rw [ho] at ob; cases ob
      · exact h2 j k a b lj lk ea eb oa ob eq

theorem SR.frz {i : Nat} {x : Str} (hx : X.names[i]? = some x) (h : SR w K mg mb X ρ B s) : ∃ B', SR w K mg mb X (frz i ρ) B' s ∧ Le B B' := by
  obtain ⟨ad, h1, h2⟩ := id h.slots
  unfold Mine.frz
  split
  · rename_i l e
    obtain ⟨z1, z2, vs, z3, z4⟩ := h1 i x _ hx e
    obtain ⟨kk, z5⟩ := id z3
    have hli : i < X.names.length := (List.getElem?_eq_some_iff.mp hx).1
    have r0 := h.reslot (i := i) (sl := .unb) rfl (fun _ _ _ _ => trivial)
    obtain ⟨r1, l1⟩ := r0.name z5 z2.1 z2.2 (h.neT z5 (fun ps q => by cases q)) (h.neL z3) (h.neC z5 (fun v q => by cases q)) (by
      intro j y sb hy hj os hva
      have hji : j ≠ i := by
        rintro rfl
        rw [List.getElem?_set_self (List.getElem?_eq_some_iff.mp e).1] at hj
        cases hj; cases os
      rw [List.getElem?_set_ne hji.symm] at hj
      have hlj : j < X.names.length := (List.getElem?_eq_some_iff.mp hy).1
      have z := h1 j y sb hy hj
      have : VarAt X.env s.heap y (.ref (ad j)) := by
        cases sb with
        | own l => exact z.1
        | ownd l => exact z.1
        | _ => cases os
      have := this.unique hva
      injection this with this
      exact hji (h2 j i _ _ hlj hli hj e os rfl this))
    refine ⟨_, ?_, l1⟩
    have r2 := r1.reslot (i := i) (sl := .val (.lst l)) rfl (fun _ _ y hy => by
      rw [hx] at hy; cases hy
      exact ⟨_, z1, .lst (by unfold put; rw [if_pos rfl]) (z4.le l1)⟩)
    rw [List.set_set] at r2
    exact r2
  · rename_i l e
    obtain ⟨z1, z2, zz, o, es, z5, zx, zd, z4, zn⟩ := h1 i x _ hx e
    have hli : i < X.names.length := (List.getElem?_eq_some_iff.mp hx).1
    have r0 := h.reslot (i := i) (sl := .unb) rfl (fun _ _ _ _ => trivial)
    obtain ⟨nn, zd'⟩ := zd
    obtain ⟨r1, l1⟩ := r0.name z5 z2.1 z2.2 (h.neT z5 (fun ps q => by rw [zd'] at q; cases q)) zz.2 (h.neC z5 (fun v q => by rw [zd'] at q; cases q)) (by
      intro j y sb hy hj os hva
      have hji : j ≠ i := by
        rintro rfl
        rw [List.getElem?_set_self (List.getElem?_eq_some_iff.mp e).1] at hj
        cases hj; cases os
      rw [List.getElem?_set_ne hji.symm] at hj
      have hlj : j < X.names.length := (List.getElem?_eq_some_iff.mp hy).1
      have z := h1 j y sb hy hj
      have : VarAt X.env s.heap y (.ref (ad j)) := by
        cases sb with
        | own l => exact z.1
        | ownd l => exact z.1
        | _ => cases os
      have := this.unique hva
      injection this with this
      exact hji (h2 j i _ _ hlj hli hj e os rfl this))
    refine ⟨_, ?_, l1⟩
    have r2 := r1.reslot (i := i) (sl := .val (.dct l)) rfl (fun _ _ y hy => by
      rw [hx] at hy; cases hy
      exact ⟨_, z1, .dct (by unfold put; rw [if_pos rfl]) zx ⟨nn, zd'⟩ (z4.le l1) zn zz.1⟩)
    rw [List.set_set] at r2
    exact r2
  · exact ⟨B, h, Le.refl B⟩

/-- before a statement an own slot may be let go of -/
theorem xs_frz (i : Nat) {x : Str} {m : Sem Flow} {p : PS} (hx : X.names[i]? = some x) (h1 : ExE prog w K mg mb t X n m p) : ExE prog w K mg mb t X n m (fun ρ => p (frz i ρ)) := .mk fun A ρ B s Q E f ρ' hr h e k => by
  obtain ⟨B', r, l⟩ := h.frz hx
  exact h1.run A _ B' s Q E f ρ' hr r e fun fl s' B'' r' l' g fo => k fl s' B'' r' (l.trans l') g fo

/-- the own object turned -/
theorem SR.mutate {i : Nat} {x : Str} {a : Addr} {sl0 sl : Slot} {h' : Heap} {tk : Nat} (h : SR w K mg mb X ρ B s) (hx : X.names[i]? = some x) (e0 : ρ[i]? = some sl0) (os0 : sl0.owns = true) (os : sl.owns = true) (va : VarAt X.env s.heap x (.ref a))
    (hs : ∀ b o, b ≠ a → s.heap.get? b = some o → h'.get? b = some o) (ho : OwnOK w B X.h0 h' X a sl) : SR w K mg mb X (ρ.set i sl) B { s with heap := h', toks := tk } ∧ (∀ o, s.heap.get? tbA = some o → h'.get? tbA = some o) ∧ VarAt X.env h' x (.ref a) := by
  obtain ⟨ad, h1, h2⟩ := id h.slots
  have hli : i < X.names.length := (List.getElem?_eq_some_iff.mp hx).1
  have z := h1 i x _ hx e0
  have live : ad i = a ∧ B a = none ∧ X.h0.get? a = none ∧ a ≠ X.env.locals ∧ (∀ y, X.env.cells.lookup y ≠ some a) ∧ a ≠ tbA := by
    cases sl0 with
    | own l =>
      obtain ⟨z1, z2, vs, z3, z4⟩ := z
      obtain ⟨kk, z5⟩ := id z3
      have := z1.unique va
      injection this with this
      rw [this] at z2 z3 z5
      exact ⟨this, z2.1, z2.2, h.neL z3, h.neC z5 (fun v q => by cases q), h.neT z5 (fun ps q => by cases q)⟩
    | ownd l =>
      obtain ⟨z1, z2, zz, o, es, z5, zx, ⟨nn, zd⟩, z4, zn⟩ := z
      have := z1.unique va
      injection this with this
      rw [this] at z2 zz z5
      exact ⟨this, z2.1, z2.2, zz.2, h.neC z5 (fun v q => by rw [zd] at q; cases q), h.neT z5 (fun ps q => by rw [zd] at q; cases q)⟩
    | _ => cases os0
  obtain ⟨ha, hB, hh0, hL, hC, hT⟩ := live
  have var : ∀ y v, VarAt X.env s.heap y v → VarAt X.env h' y v := by
    intro y v hv
    rcases hv with ⟨q1, m, q2, q3⟩ | ⟨q1, c, q2, o, q3, q4⟩
    · exact .inl ⟨q1, m, q2.at' fun o e => hs _ o hL.symm e, q3⟩
    · exact .inr ⟨q1, c, q2, o, hs _ o (fun q => hC y (q ▸ q2)) q3, q4⟩
  have kt : ∀ o, s.heap.get? tbA = some o → h'.get? tbA = some o := fun o e => hs _ o hT.symm e
  refine ⟨⟨⟨fun b o e => hs b o (fun q => by subst q; rw [hB] at e; cases e) (h.g.sub b o e), h.g.stat, h.g.tabB, h.g.tab.keep kt⟩, fun b o hb e => hs b o (fun q => by subst q; rw [hh0] at e; cases e) (h.keep b o hb e), h.grow, h.mono, ?_, h.frameB, h.cellB, ?_, ?_⟩, kt, var _ _ va⟩
  · obtain ⟨m, hm⟩ := h.frame
    exact ⟨m, hm.at' fun o e => hs _ o hL.symm e⟩
  · intro y c hc
    obtain ⟨v, o, e, d⟩ := h.cellLive y c hc
    exact ⟨v, o, hs _ o (fun q => hC y (q ▸ hc)) e, d⟩
  · have get : ∀ j sb, (ρ.set i sl)[j]? = some sb → (j = i ∧ sb = sl) ∨ (j ≠ i ∧ ρ[j]? = some sb) := by
      intro j sb e
      rw [List.getElem?_set] at e
      split at e
      · rename_i q
        split at e
        · cases e; exact .inl ⟨q.symm, rfl⟩
        · cases e
      · rename_i q; exact .inr ⟨fun r => q r.symm, e⟩
    refine ⟨ad, fun j y sb hy e => ?_, fun j k b c lj lk eb ec ob oc eq => ?_⟩
    · rcases get j sb e with ⟨rfl, rfl⟩ | ⟨hji, e⟩
      · rw [hx] at hy; cases hy
        cases sb with
        | own l =>
          obtain ⟨b1, b2, vs, c, d⟩ := ho
          exact ⟨by rw [ha]; exact var _ _ va, by rw [ha]; exact ⟨b1, b2⟩, vs, by rw [ha]; exact c, d⟩
        | ownd l =>
          obtain ⟨b1, b2, b3, o, es, c, d, e, f, g⟩ := ho
          exact ⟨by rw [ha]; exact var _ _ va, by rw [ha]; exact ⟨b1, b2⟩, by rw [ha]; exact b3, o, es, by rw [ha]; exact c, d, e, f, g⟩
        | _ => exact ho.elim
      · have zj := h1 j y sb hy e
        have hlj : j < X.names.length := (List.getElem?_eq_some_iff.mp hy).1
        cases sb with
        | unb => trivial
        | val v => obtain ⟨val, q1, q2⟩ := zj; exact ⟨val, var _ _ q1, q2⟩
        | own l =>
          obtain ⟨q1, q2, vs, q3, q4⟩ := zj
          have : ad j ≠ a := fun q => hji (h2 j i _ _ hlj hli e e0 rfl os0 (q.trans ha.symm))
          exact ⟨var _ _ q1, q2, vs, q3.at fun o e => hs _ o this e, q4⟩
        | ownd l =>
          obtain ⟨q1, q2, qq, o, es, q3, q4, q5, q6, q7⟩ := zj
          have : ad j ≠ a := fun q => hji (h2 j i _ _ hlj hli e e0 rfl os0 (q.trans ha.symm))
          exact ⟨var _ _ q1, q2, qq, o, es, hs _ o this q3, q4, q5, q6, q7⟩
        | bm k => obtain ⟨b, o, q1, q2, q3⟩ := zj; exact ⟨b, o, var _ _ q1, q2, q3⟩
    · rcases get j b eb with ⟨e1, e2⟩ | ⟨hj, eb'⟩ <;> rcases get k c ec with ⟨e3, e4⟩ | ⟨hk, ec'⟩
      · rw [e1, e3]
      · rw [e1] at eq ⊢
        exact h2 _ _ _ _ hli lk e0 ec' os0 oc eq
      · rw [e3] at eq ⊢
        exact h2 _ _ _ _ lj hli eb' e0 ob os0 eq
      · exact h2 _ _ _ _ lj lk eb' ec' ob oc eq
end
end Mine
end

section
namespace Mine
open PySem PySem.Calls PySem.Spec PySem.W PyProof.Rows
set_option maxRecDepth 100000

section
variable {prog : Program} {w : World} {K : Frag} {mg mb : Str → Option Value} {t : Bool} {X : Act} {n : Nat} {ρ : List Slot} {B : Pm} {s : Shared} {A : Around} {E : Value → Shared → Prop}

theorem inter_false (ok : ActOK X) : interactive X.env = false := by unfold interactive; rw [ok.fn]; rfl

theorem getown_at {i : Nat} {l : List V} (e : getown i ρ = some l) : ρ[i]? = some (.own l) := by
  unfold getown at e
  split at e
  · rename_i q; cases e; exact q
  · cases e
theorem getownd_at {i : Nat} {l : List (Str × V)} (e : getownd i ρ = some l) : ρ[i]? = some (.ownd l) := by
  unfold getownd at e
  split at e
  · rename_i q; cases e; exact q
  · cases e

/-- push behind an own list -/
theorem own_append {i : Nat} {x : Str} {l : List V} {v : V} {y : Value} {a : Addr} {Q : Value → Shared → Prop} (h : SR w K mg mb X ρ B s) (hx : X.names[i]? = some x) (e : getown i ρ = some l) (hz : l.length < 4096) (va : VarAt X.env s.heap x (.ref a)) (vr : VR w B v y)
    (k : ∀ s', SR w K mg mb X (ρ.set i (.own (l ++ [v]))) B s' → Go t s s' → Q .none s') : wpAny (model prog w) A (call (.builtin "list.append") [.ref a, y]) Q E s := by
  obtain ⟨a', vs, va', ba, pl, vrs⟩ := h.own hx e
  have := va'.unique va
  injection this with this
  subst this
  refine wpAny_list_append_plain pl (fun h' pl' hs => ?_) (by rw [List.size_toArray, vrs.length]; exact line_of (Nat.le_of_lt hz))
  have pl'' : h'.PlainList a' (vs ++ [y]).toArray := by simpa using pl'
  obtain ⟨r, kt, _⟩ := h.mutate (tk := s.toks) hx (getown_at e) rfl (sl := .own (l ++ [v])) rfl va' (fun b o hb q => (hs.2 b hb).trans q) ⟨ba.1, ba.2, _, pl'', vrs.append (.one vr)⟩
  exact k _ r (Go.heap h.g.tab kt)

noncomputable def pApp (i : Nat) (p : List Slot → Option V) : PS := fun ρ => (getown i ρ).bind fun l => (p ρ).bind fun v => if l.length < 4096 then some (.next, ρ.set i (.own (l ++ [v]))) else none
theorem st_append (ok : ActOK X) (i : Nat) {x : Str} {e1 : Expr} {px apos pos pos2 : Pos} {p : List Slot → Option V} (hx : X.names[i]? = some x) (h1 : EvE prog w K mg mb t X n e1 p)
    (hd : (x == ("__debug__" : Str)) = false := by decide) (hn : (x == ("__classdict__" : Str)) = false := by decide)
    (hbase : attributeBase (.Name x px) "append" X.env (eval (.Name x px) X.env) = eval (.Name x px) X.env := by rfl)
    (hfew : ((backTo pos (starEach [e1] X.env)).all (fun x => !x.1) && (backToKw pos (keywordEach [] X.env)).all (fun x => x.1.isSome)
      && decide (([e1] : List Expr).length + ([] : List Keyword).length + (if ([] : List Keyword).isEmpty then 0 else 1) < 30)) = true := by rfl)
    (hline : (apos.endLine == pos.line) = true := by rfl)
    (he : backTo pos (starEach [e1] X.env) = [(false, eval e1 X.env)] := by rfl)
    (hs : swapsWith (.Call (.Attribute (.Name x px) "append" apos) [e1] [] pos) none pos2.line X.env = pure false := by rfl) :
    ExE prog w K mg mb t X n (exec (.Expr (.Call (.Attribute (.Name x px) "append" apos) [e1] [] pos) pos2) X.env) (pApp i p) := .mk fun A ρ B s Q E f ρ' hr h e k => by
  obtain ⟨l, el, e⟩ := Option.bind_eq_some_iff.mp e
  obtain ⟨v, ev, e⟩ := Option.bind_eq_some_iff.mp e
  split at e
  · rename_i hz
    cases e
    obtain ⟨a, vs, va, _, pl, _⟩ := h.own hx el
    refine wpAny_Expr_any ?_ (inter_false ok) hs
    refine wpAny_Call_method_lateS hbase hfew hline (wpAny_Name (load_var ok.fn va ?_ hn) hd)
    obtain ⟨kk, plo⟩ := id pl
    refine ⟨"list", "list.append", PySem.F.plainAttrs_list, slot_list_append, type_list_append, pl.isList.typeIs, (fun b q => by cases q; exact ⟨_, plo, rfl⟩), ?_⟩
    rw [he]
    refine callWith_builtin rfl (evalArgs_plain (Calls.spliced_cons (h1.run A ρ B s _ E v hr h ev fun y s2 B2 r2 l2 k2 v2 => Calls.spliced_nil ?_)))
    refine own_append (t := t) r2 hx el hz (va.kp h.g.tab k2) v2 fun s' r g => ?_
    exact k .next s' B2 r l2 ((k2.go h.g.tab).trans g) trivial
  · cases e

noncomputable def pPop (i : Nat) : PS := fun ρ => (getown i ρ).bind fun l => if l ≠ [] ∧ l.length ≤ 4096 then some (.next, ρ.set i (.own l.dropLast)) else none
theorem st_pop (ok : ActOK X) (i : Nat) {x : Str} {px apos pos pos2 : Pos} (hx : X.names[i]? = some x)
    (hd : (x == ("__debug__" : Str)) = false := by decide) (hn : (x == ("__classdict__" : Str)) = false := by decide)
    (hbase : attributeBase (.Name x px) "pop" X.env (eval (.Name x px) X.env) = eval (.Name x px) X.env := by rfl)
    (hfew : ((backTo pos (starEach [] X.env)).all (fun x => !x.1) && (backToKw pos (keywordEach [] X.env)).all (fun x => x.1.isSome)
      && decide (([] : List Expr).length + ([] : List Keyword).length + (if ([] : List Keyword).isEmpty then 0 else 1) < 30)) = true := by rfl)
    (hline : (apos.endLine == pos.line) = true := by rfl)
    (he : backTo pos (starEach [] X.env) = [] := by rfl)
    (hs : swapsWith (.Call (.Attribute (.Name x px) "pop" apos) [] [] pos) none pos2.line X.env = pure false := by rfl) :
    ExE prog w K mg mb t X n (exec (.Expr (.Call (.Attribute (.Name x px) "pop" apos) [] [] pos) pos2) X.env) (pPop i) := .mk fun A ρ B s Q E f ρ' hr h e k => by
  obtain ⟨l, el, e⟩ := Option.bind_eq_some_iff.mp e
  split at e
  · rename_i hz
    cases e
    obtain ⟨a, vs, va, ba, pl, vrs⟩ := h.own hx el
    refine wpAny_Expr_any ?_ (inter_false ok) hs
    refine wpAny_Call_method_lateS hbase hfew hline (wpAny_Name (load_var ok.fn va ?_ hn) hd)
    obtain ⟨kk, plo⟩ := id pl
    refine ⟨"list", "list.pop", PySem.F.plainAttrs_list, PySem.F.slot_list_pop, PySem.F.type_list_pop, pl.isList.typeIs, (fun b q => by cases q; exact ⟨_, plo, rfl⟩), ?_⟩
    rw [he]
    refine callWith_builtin rfl (PyProof.Rows.evalArgs_empty ?_)
    have hlen := vrs.length
    have hpos : 0 < vs.length := by rw [hlen]; exact List.length_pos_iff.mpr hz.1
    obtain ⟨y, hy⟩ : ∃ y, vs.toArray[vs.toArray.size - 1]? = some y := ⟨vs[vs.length - 1], by simp⟩
    refine call_meets PySem.F.slot_list_pop ⟨_, plo, rfl⟩ PySem.F.entry_list_pop (PySem.F.args_list_pop_1 _) (PySem.MeetsSeq.list_pop_last a vs.toArray kk y hy (by rw [List.size_toArray, hlen]; exact line_of hz.2)) ⟨plo, ?_⟩
    have h1 : ∃ k2, (Obj.mapSeq (fun xs => xs.eraseIdxIfInBounds (vs.toArray.size - 1)) { cls := .type "list", data := .seq vs.toArray kk }) = { cls := .type "list", data := .seq vs.dropLast.toArray k2 } := by
      have this : vs.toArray.eraseIdxIfInBounds (vs.toArray.size - 1) = vs.dropLast.toArray := by
        apply Array.ext'
        simp [Array.eraseIdxIfInBounds]
        rw [if_pos (by omega)]
      exact ⟨if (vs.dropLast.toArray.size == vs.toArray.size) = true then kk else kk + 1, by simp only [Obj.mapSeq, this]⟩
    obtain ⟨k2, h1⟩ := h1
    have pl' : (s.heap.update a (Obj.mapSeq fun xs => xs.eraseIdxIfInBounds (vs.toArray.size - 1))).PlainList a vs.dropLast.toArray := by
      refine ⟨k2, ?_⟩
      have := Heap.get?_update_self (f := Obj.mapSeq fun xs => xs.eraseIdxIfInBounds (vs.toArray.size - 1)) plo (by rw [h1]; rfl)
      rw [this, h1]
    have hs' : Heap.SameBut a s.heap (s.heap.update a (Obj.mapSeq fun xs => xs.eraseIdxIfInBounds (vs.toArray.size - 1))) := Heap.SameBut.update ..
    have vrs' : VRs w B l.dropLast vs.dropLast := by
      rw [List.dropLast_eq_take, List.dropLast_eq_take, hlen]
      exact vrs.take _
    obtain ⟨r, kt, _⟩ := h.mutate (tk := s.toks) hx (getown_at el) rfl (sl := .own l.dropLast) rfl va (fun b o hb q => (hs'.2 b hb).trans q) ⟨ba.1, ba.2, _, pl', vrs'⟩
    exact k .next _ B r (Le.refl B) (Go.heap h.g.tab kt) trivial
  · cases e

noncomputable def vAug : Operator → V → V → Option V
  | .Add, .str x, .str y => vAdd (.str x) (.str y)
  | .Add, .int a, .int b => some (.int (a + b))
  | .FloorDiv, .int a, .int b => vFdiv (.int a) (.int b)
  | _, _, _ => none
theorem aug_ok {op : Operator} {a b r : V} {x y : Value} {Q : Value → Shared → Prop} (g : G0 K mg mb B s) (va : VR w B a x) (vb : VR w B b y) (e : vAug op a b = some r) (k : Back w K mg mb B s r Q) :
    wpAny (model prog w) A (inplaceOp op x y) Q E s := by
  unfold vAug at e
  split at e
  · cases va; cases vb; exact P.iadd_str (cat_post g e k)
  · cases e; cases va; cases vb; exact P.iadd_int (k.tok g (.int _ _) _)
  · simp only [vFdiv] at e
    rename_i a b
    by_cases h : b ≠ 0 ∧ b.natAbs < 1073741824
    · rw [if_pos h] at e
      cases e; cases va; cases vb
      refine AutoIntOps.ifloordiv_1 (by simpa using h.1) (by rw [PyProof.noPylong_small h.2]; simp) (k.tok g (.int _ _) _)
    · rw [if_neg h] at e; cases e
  · cases e
noncomputable def pAug (i : Nat) (op : Operator) (p : List Slot → Option V) : PS := fun ρ => (getv i ρ).bind fun a => (p ρ).bind fun b => (vAug op a b).map fun v => (.next, setS ρ i (.val v))
theorem st_aug (ok : ActOK X) (i : Nat) {x : Str} {op : Operator} {e1 : Expr} {px pos : Pos} {p : List Slot → Option V} (hx : X.names[i]? = some x) (hk : Stable X x) (h1 : EvE prog w K mg mb t X n e1 p) (hn : (x == ("__classdict__" : Str)) = false := by decide) :
    ExE prog w K mg mb t X n (exec (.AugAssign (.Name x px) op e1 pos) X.env) (pAug i op p) := .mk fun A ρ B s Q E f ρ' hr h e k => by
  obtain ⟨a, ea, e⟩ := Option.bind_eq_some_iff.mp e
  obtain ⟨b, eb, e⟩ := Option.bind_eq_some_iff.mp e
  obtain ⟨v, ev, e⟩ := Option.map_eq_some_iff.mp e
  cases e
  obtain ⟨xa, va, ra⟩ := h.var hx ea
  refine wpAny_AugAssign_Name (load_var ok.fn va ?_ hn)
  refine h1.run A ρ B s _ E b hr h eb fun val s1 B1 r1 l1 k1 vr => ?_
  refine aug_ok r1.g (ra.le l1) vr ev (r1.back (t := t) fun val s2 B2 r2 l2 k2 vr2 => ?_)
  refine store_var ok r2 hk fun h' tk st => ?_
  exact k .next _ B2 (r2.store ok hx st (.inl ⟨v, rfl, vr2⟩)) (l1.trans l2) (((k1.trans k2).go h.g.tab).trans (Go.heap r2.g.tab (st.tab r2))) trivial
end
end Mine
end

section
namespace Mine
open PySem PySem.Calls PySem.Spec PySem.W PyProof.Rows
set_option maxRecDepth 100000

/-- storing a value at a target -/
noncomputable def AsF' (prog : Program) (w : World) (K : Frag) (mg mb : Str → Option Value) (t : Bool) (X : Act) (m : Value → Sem Unit) (pa : List Slot → V → Option (List Slot)) : Prop :=
  ∀ (A : Around) (ρ : List Slot) (B : Pm) (s : Shared) (Q : Unit → Shared → Prop) (E : Value → Shared → Prop) (v : V) (val : Value) (ρ' : List Slot),
    A.handled = none → SR w K mg mb X ρ B s → VR w B v val → pa ρ v = some ρ' → (∀ s', SR w K mg mb X ρ' B s' → Go t s s' → (∀ b o, B b = some o → s'.heap.get? b = some o) → Q () s') →
    wpAny (model prog w) A (m val) Q E s
structure AsF (prog : Program) (w : World) (K : Frag) (mg mb : Str → Option Value) (t : Bool) (X : Act) (m : Value → Sem Unit) (pa : List Slot → V → Option (List Slot)) : Prop where
  run : AsF' prog w K mg mb t X m pa
noncomputable def AsL' (prog : Program) (w : World) (K : Frag) (mg mb : Str → Option Value) (t : Bool) (X : Act) (ms : List (Value → Sem Unit)) (pl : List Slot → List V → Option (List Slot)) : Prop :=
  ∀ (A : Around) (ρ : List Slot) (B : Pm) (s : Shared) (Q : Unit → Shared → Prop) (E : Value → Shared → Prop) (l : List V) (vals : List Value) (ρ' : List Slot),
    A.handled = none → SR w K mg mb X ρ B s → VRs w B l vals → pl ρ l = some ρ' → (∀ s', SR w K mg mb X ρ' B s' → Go t s s' → (∀ b o, B b = some o → s'.heap.get? b = some o) → Q () s') →
    wpAny (model prog w) A (assignInOrder ms vals) Q E s
structure AsL (prog : Program) (w : World) (K : Frag) (mg mb : Str → Option Value) (t : Bool) (X : Act) (ms : List (Value → Sem Unit)) (pl : List Slot → List V → Option (List Slot)) : Prop where
  run : AsL' prog w K mg mb t X ms pl
section
variable {prog : Program} {w : World} {K : Frag} {mg mb : Str → Option Value} {t : Bool} {X : Act} {n : Nat} {ρ : List Slot} {B : Pm} {s : Shared} {A : Around} {E : Value → Shared → Prop}

theorem G0.ext {h' : Heap} (g : G0 K mg mb B s) (k : ∀ b o, s.heap.get? b = some o → h'.get? b = some o) (tk : Nat) : G0 K mg mb B { s with heap := h', toks := tk } :=
  ⟨fun b o e => k b o (g.sub b o e), g.stat, g.tabB, g.tab.keep fun o e => k _ o e⟩
theorem SR.ext {h' : Heap} (h : SR w K mg mb X ρ B s) (k : ∀ b o, s.heap.get? b = some o → h'.get? b = some o) (tk : Nat) : SR w K mg mb X ρ B { s with heap := h', toks := tk } :=
  h.step (t := false) (h.g.ext k tk) (Le.refl B) (Kp.heap s tk k) fun _ _ e => .inl e

noncomputable def paN (i : Nat) : List Slot → V → Option (List Slot) := fun ρ v => some (setS ρ i (.val v))
theorem as_store (ok : ActOK X) (i : Nat) {x : Str} (hx : X.names[i]? = some x) (hk : Stable X x) : AsF prog w K mg mb t X (storeName X.env x) (paN i) := .mk fun A ρ B s Q E v val ρ' hh h vr e k => by
  cases e
  refine store_var ok h hk fun h' tk st => ?_
  have r := h.store ok hx (tk := tk) st (.inl ⟨v, rfl, vr⟩)
  exact k _ r (Go.heap h.g.tab (st.tab h)) r.g.sub
theorem as_name (ok : ActOK X) (i : Nat) {x : Str} {pos : Pos} (hx : X.names[i]? = some x) (hk : Stable X x) : AsF prog w K mg mb t X (assign (.Name x pos) X.env) (paN i) := .mk fun A ρ B s Q E v val ρ' hh h vr e k =>
  wpAny_assign_Name ((as_store ok i hx hk).run A ρ B s Q E v val ρ' hh h vr e k)
theorem as_bind (ok : ActOK X) (i : Nat) {x : Str} (hx : X.names[i]? = some x) (hk : Stable X x) : AsF prog w K mg mb t X (bindName X.env x) (paN i) := .mk fun A ρ B s Q E v val ρ' hh h vr e k =>
  wpAny_bindName ((as_store ok i hx hk).run A ρ B s Q E v val ρ' hh h vr e k)
noncomputable def plN : List Slot → List V → Option (List Slot) := fun ρ l => match l with
  | [] => some ρ
  | _ => none
theorem asl_nil : AsL prog w K mg mb t X [] plN := .mk fun A ρ B s Q E l vals ρ' hh h vr e k => by
  unfold plN at e
  split at e
  · cases e; exact wpAny_pure (k s h (Go.refl s) h.g.sub)
  · cases e
noncomputable def plC (pa : List Slot → V → Option (List Slot)) (pl : List Slot → List V → Option (List Slot)) : List Slot → List V → Option (List Slot) := fun ρ l => match l with
  | [] => none
  | v :: r => (pa ρ v).bind fun ρ1 => pl ρ1 r
theorem asl_cons {m : Value → Sem Unit} {ms : List (Value → Sem Unit)} {pa : List Slot → V → Option (List Slot)} {pl : List Slot → List V → Option (List Slot)} (h1 : AsF prog w K mg mb t X m pa) (h2 : AsL prog w K mg mb t X ms pl) :
    AsL prog w K mg mb t X (m :: ms) (plC pa pl) := .mk fun A ρ B s Q E l vals ρ' hh h vr e k => by
  cases l with
  | nil => cases e
  | cons v r =>
    cases vr with
    | @cons _ x _ xs v1 v2 =>
      obtain ⟨ρ1, e1, e2⟩ := Option.bind_eq_some_iff.mp e
      show wpAny (model prog w) A (do holding xs (m x); assignInOrder ms xs) Q E s
      exact wpAny_bind (wpAny_holding (h1.run A ρ B s _ E v x ρ1 hh h v1 e1 fun s1 r1 g1 kk => h2.run A ρ1 B s1 Q E r xs ρ' hh r1 v2 e2 fun s2 r2 g2 kk2 => k s2 r2 (g1.trans g2) kk2))

noncomputable def paT (k : Nat) (pl : List Slot → List V → Option (List Slot)) : List Slot → V → Option (List Slot) := fun ρ v => match v with
  | .tup l => if l.length = k then pl ρ l else none
  | _ => none
theorem as_tup (kk : Nat) {elts : List Expr} {c : Nat} {pos : Pos} {pl : List Slot → List V → Option (List Slot)} (h1 : AsL prog w K mg mb t X ((assignEach elts X.env).map (·.2)) pl)
    (hkk : (assignEach elts X.env).length = kk := by rfl) (hstar : (assignEach elts X.env).findIdx? (·.1) = none := by rfl) : AsF prog w K mg mb t X (assign (.Tuple elts c pos) X.env) (paT kk pl) := .mk fun A ρ B s Q E v val ρ' hh h vr e k => by
  unfold paT at e
  split at e
  · rename_i l
    split at e
    · rename_i hl
      cases vr with
      | tup ha hs =>
        refine wpAny_assign_Tuple hh ⟨_, h.g.sub _ _ ha, rfl, _, rfl⟩ (by rw [List.size_toArray, hs.length, hl, hkk]) hstar fun h' he => ?_
        have kk' : ∀ b o, s.heap.get? b = some o → h'.get? b = some o := fun b o q => he b o (Nat.ne_of_lt (Heap.lt_size q)) q
        have r := h.ext kk' s.toks
        exact h1.run A ρ B _ Q E l _ ρ' hh r hs e fun s2 r2 g2 k2 => k s2 r2 (((Kp.heap (t := t) s s.toks kk').go h.g.tab).trans g2) k2
    · cases e
  · cases e

noncomputable def pAsg (p : List Slot → Option V) (pa : List Slot → V → Option (List Slot)) : PS := fun ρ => (p ρ).bind fun v => (pa ρ v).map fun ρ' => (.next, ρ')
theorem st_asgt {elts : List Expr} {c : Nat} {tpos pos : Pos} {e1 : Expr} {p : List Slot → Option V} {pa : List Slot → V → Option (List Slot)} (h1 : EvE prog w K mg mb t X n e1 p) (h2 : AsF prog w K mg mb t X (assign (.Tuple elts c tpos) X.env) pa)
    (hs : swapsWithSole [.Tuple elts c tpos] e1 pos.line X.env = pure false := by rfl)
    (hw : swappedStores [.Tuple elts c tpos] e1 X.env = pure none := by rfl) : ExE prog w K mg mb t X n (exec (.Assign [.Tuple elts c tpos] e1 pos) X.env) (pAsg p pa) := .mk fun A ρ B s Q E f ρ' hr h e k => by
  obtain ⟨v, ev, e⟩ := Option.bind_eq_some_iff.mp e
  obtain ⟨ρ1, e1, e⟩ := Option.map_eq_some_iff.mp e
  cases e
  exact Assign_Tuple (h1.run A ρ B s _ E v hr h ev fun val s1 B1 r1 l1 k1 vr => h2.run A ρ B1 s1 _ E v val ρ' hr.hh r1 vr e1 fun s2 r2 g2 _ => k .next s2 B1 r2 l1 ((k1.go h.g.tab).trans g2) trivial) hs hw
noncomputable def paS (k : Nat) (pl : List Slot → List V → Option (List Slot)) : List Slot → V → Option (List Slot) := fun ρ v => match v with
  | .tup l => if l.length = k then pl ρ l.reverse else none
  | _ => none
theorem st_asgs {elts : List Expr} {c : Nat} {tpos pos : Pos} {e1 : Expr} {p : List Slot → Option V} (names : List Str) {pl : List Slot → List V → Option (List Slot)} (h1 : EvE prog w K mg mb t X n e1 p) (h2 : AsL prog w K mg mb t X (names.reverse.map fun n => bindName X.env n) pl)
    (hs : swapsWithSole [.Tuple elts c tpos] e1 pos.line X.env = pure false := by rfl)
    (hw : swappedStores [.Tuple elts c tpos] e1 X.env = pure (some names) := by rfl) : ExE prog w K mg mb t X n (exec (.Assign [.Tuple elts c tpos] e1 pos) X.env) (pAsg p (paS names.length pl)) := .mk fun A ρ B s Q E f ρ' hr h e k => by
  obtain ⟨v, ev, e⟩ := Option.bind_eq_some_iff.mp e
  obtain ⟨ρ1, e1, e⟩ := Option.map_eq_some_iff.mp e
  cases e
  refine Assign_Tuple_swapped (names := names) (h1.run A ρ B s _ E v hr h ev fun val s1 B1 r1 l1 k1 vr => ?_) hs hw
  unfold paS at e1
  split at e1
  · split at e1
    · rename_i hl
      cases vr with
      | @tup _ a vs m ha hsa =>
        have ht : IsTup s1.heap a vs.toArray := ⟨_, r1.g.sub _ _ ha, rfl, _, rfl⟩
        have hn : names.length = vs.toArray.size := by rw [List.size_toArray, hsa.length, hl]
        rw [hn]
        refine unpackItems_tuple hr.hh ht fun h' he => ?_
        have kk : ∀ b o, s1.heap.get? b = some o → h'.get? b = some o := fun b o q => he b o (Nat.ne_of_lt (Heap.lt_size q)) q
        have r := r1.ext kk s1.toks
        show wpAny _ _ (assignInOrder _ (vs.toArray.toList.reverse)) _ _ _
        exact h2.run A ρ B1 _ _ E _ _ ρ' hr.hh r hsa.reverse e1 fun s2 r2 g2 _ => k .next s2 B1 r2 l1 (((k1.go h.g.tab).trans ((Kp.heap (t := t) s1 s1.toks kk).go r1.g.tab)).trans g2) trivial
    · cases e1
  · cases e1
end

/-- an object that is no datum -/
noncomputable def ItO (o : Obj) : Prop := ¬DatO o ∧ ∀ a, ¬appendObj a o

/-- an iterator over data -/
noncomputable def anyT (target : Expr) : Prop := (∃ x p, target = .Name x p) ∨ (∃ es c p, target = .Tuple es c p)
noncomputable def tupT (target : Expr) : Prop := ∃ es c p, target = .Tuple es c p
structure IterW (T : Expr → Prop) (prog : Program) (w : World) (A : Around) (I : Addr) (wr : List Addr) (B₀ : Pm) (vs : List V) (St : Nat → Heap → Prop) (Mid : Nat → Value → Heap → Prop) : Prop where
  frame : ∀ i h h', St i h → Sub B₀ h → Sub B₀ h' → (∀ b ∈ wr, ∀ o, h.get? b = some o → h'.get? b = some o) → St i h'
  obj : ∀ i h, St i h → ∀ b ∈ wr, ∃ o, h.get? b = some o ∧ ItO o
  item : ∀ i v (s : Shared) (Q : Option Value → Shared → Prop) (E : Value → Shared → Prop), vs[i]? = some v → St i s.heap → Sub B₀ s.heap →
    (∀ val h' tk B1, Mid i val h' → Le B₀ B1 → (∀ b o, B1 b = some o → B₀ b = some o ∨ (s.heap.get? b = none ∧ b ∉ wr)) → Sub B1 h' → VR w B1 v val → (∀ b o, b ∉ wr → s.heap.get? b = some o → h'.get? b = some o) →
      Q (some val) { s with heap := h', toks := tk }) → wpAny (model prog w) A (pyNext (.ref I)) Q E s
  mid : ∀ i val h, Mid i val h → ∀ b ∈ wr, ∃ o, h.get? b = some o ∧ ItO o
  go : ∀ (target : Expr) i val (s : Shared) (Q : Unit → Shared → Prop) (E : Value → Shared → Prop), T target → Mid i val s.heap → Sub B₀ s.heap →
    (∀ h', St (i + 1) h' → (∀ b o, b ∉ wr → s.heap.get? b = some o → h'.get? b = some o) → Q () { s with heap := h' }) → wpAny (model prog w) A (letOwnedTupleGo target (.ref I) val) Q E s
  done : ∀ (s : Shared) (Q : Option Value → Shared → Prop) (E : Value → Shared → Prop), St vs.length s.heap → Sub B₀ s.heap →
    (∀ h' tk, (∀ b o, b ∉ wr → s.heap.get? b = some o → h'.get? b = some o) → Q none { s with heap := h', toks := tk }) → wpAny (model prog w) A (pyNext (.ref I)) Q E s

structure Locked (K : Frag) (mg mb : Str → Option Value) (X : Act) (wr : List Addr) (B₀ B : Pm) : Prop where
  base : Le B₀ B
  stat : Stat K mg mb B₀
  held : ∀ b ∈ wr, ∃ o, B b = some o ∧ ItO o
  out : ∀ b ∈ wr, B₀ b = none
  h0 : ∀ b ∈ wr, X.h0.get? b = none
theorem Locked.le {K : Frag} {mg mb : Str → Option Value} {X : Act} {wr : List Addr} {B₀ B B' : Pm} (k : Locked K mg mb X wr B₀ B) (l : Le B B') : Locked K mg mb X wr B₀ B' :=
  ⟨k.base.trans l, k.stat, fun b hb => let ⟨o, e, z⟩ := k.held b hb; ⟨o, l b o e, z⟩, k.out, k.h0⟩

open Classical in
noncomputable def relock (wr : List Addr) (f : Pm) (B B1 : Pm) : Pm := fun b => if b ∈ wr then f b else (B b).or (B1 b)

section
variable {prog : Program} {w : World} {K : Frag} {mg mb : Str → Option Value} {t : Bool} {X : Act} {n : Nat} {ρ : List Slot} {B : Pm} {s : Shared} {A : Around} {E : Value → Shared → Prop}

theorem SR.relock {wr : List Addr} {B₀ B1 : Pm} (f : Pm) {h' : Heap} {tk : Nat} (ok : ActOK X) (h : SR w K mg mb X ρ B s) (L : Locked K mg mb X wr B₀ B) (l1 : Le B₀ B1) (gr : ∀ b o, B1 b = some o → B₀ b = some o ∨ (s.heap.get? b = none ∧ b ∉ wr)) (sb : Sub B1 h')
    (keep : ∀ b o, b ∉ wr → s.heap.get? b = some o → h'.get? b = some o) (hf : ∀ b ∈ wr, ∀ o, f b = some o → h'.get? b = some o) :
    SR w K mg mb X ρ (relock wr f B B1) { s with heap := h', toks := tk } ∧ ((∀ b ∈ wr, ∃ o, f b = some o ∧ ItO o) → Locked K mg mb X wr B₀ (relock wr f B B1)) ∧ Le B₀ (relock wr f B B1) ∧ Le B1 (relock wr f B B1) ∧ Go t s { s with heap := h', toks := tk } := by
  have off : ∀ b, b ∉ wr → Mine.relock wr f B B1 b = (B b).or (B1 b) := fun b hb => by unfold Mine.relock; rw [if_neg hb]
  have on : ∀ b, b ∈ wr → Mine.relock wr f B B1 b = f b := fun b hb => by unfold Mine.relock; rw [if_pos hb]
  have nb : ∀ b, B b = none → b ∉ wr := fun b e hb => by obtain ⟨o, q, _⟩ := L.held b hb; rw [e] at q; cases q
  have none' : ∀ b o, s.heap.get? b = some o → B b = none → Mine.relock wr f B B1 b = none := fun b o e hb => by
    rw [off b (nb b hb), hb]
    cases q : B1 b with
    | none => rfl
    | some o' =>
      rcases gr b o' q with z | z
      · rw [L.base b o' z] at hb; cases hb
      · rw [e] at z; cases z.1
  have tabL : ∃ o, s.heap.get? tbA = some o := let ⟨ps, e, _⟩ := h.g.tab; ⟨_, e⟩
  obtain ⟨ot, et⟩ := tabL
  have tw : tbA ∉ wr := nb _ h.g.tabB
  have kt : ∀ o, s.heap.get? tbA = some o → h'.get? tbA = some o := fun o e => keep _ o tw e
  have up : ∀ b o, B b = some o → b ∉ wr → Mine.relock wr f B B1 b = some o := fun b o e hb => by rw [off b hb, e]; rfl
  have dat : ∀ b o, B b = some o → DatO o → Mine.relock wr f B B1 b = some o := fun b o e d => by
    refine up b o e fun hb => ?_
    obtain ⟨o', q, z, _⟩ := L.held b hb
    rw [e] at q; cases q; exact z d
  have lb : Le B₀ (Mine.relock wr f B B1) := fun b o e => up b o (L.base b o e) fun hb => by rw [L.out b hb] at e; cases e
  refine ⟨⟨⟨fun b o e => ?_, L.stat.le lb, none' _ _ et h.g.tabB, h.g.tab.keep kt⟩, fun b o hb e => ?_, fun b o e => ?_, fun b o e => ?_, ?_, ?_, fun y c hc => ?_, fun y c hc => ?_, ?_⟩, fun obj => ⟨lb, L.stat, fun b hb => ?_, L.out, L.h0⟩, lb, fun b o e => ?_, Go.heap h.g.tab kt⟩
  · by_cases hb : b ∈ wr
    · rw [on b hb] at e; exact hf b hb o e
    · rw [off b hb] at e
      cases q : B b with
      | some o' => rw [q] at e; cases e; exact keep b _ hb (h.g.sub b _ q)
      | none => rw [q] at e; exact sb b o e
  · exact keep b o (fun q => by rw [L.h0 b q] at e; cases e) (h.keep b o hb e)
  · by_cases hb : b ∈ wr
    · exact .inr (L.h0 b hb)
    · rw [off b hb] at e
      cases q : B b with
      | some o' => rw [q] at e; cases e; exact h.grow b _ q
      | none =>
        rw [q] at e
        rcases gr b o e with z | z
        · rw [L.base b o z] at q; cases q
        · exact .inr (h.h0fresh z.1)
  · exact up b o (h.mono b o e) fun q => by
      have := ok.sub0 b o e
      rw [L.h0 b q] at this; cases this
  · obtain ⟨m, hm⟩ := h.frame
    exact ⟨m, hm.at' fun o e => keep _ o (nb _ h.frameB) e⟩
  · obtain ⟨m, o, es, ep, e, _⟩ := h.frame
    exact none' _ o e h.frameB
  · obtain ⟨v, o, e, d⟩ := h.cellLive y c hc
    exact none' _ o e (h.cellB y c hc)
  · obtain ⟨v, o, e, d⟩ := h.cellLive y c hc
    exact ⟨v, o, keep _ o (nb _ (h.cellB y c hc)) e, d⟩
  · obtain ⟨ad, h1, h2⟩ := h.slots
    have var : ∀ y v, VarAt X.env s.heap y v → VarAt X.env h' y v := by
      intro y v hv
      rcases hv with ⟨q1, m, q2, q3⟩ | ⟨q1, c, q2, o, q3, q4⟩
      · exact .inl ⟨q1, m, q2.at' fun o e => keep _ o (nb _ h.frameB) e, q3⟩
      · exact .inr ⟨q1, c, q2, o, keep _ o (nb _ (h.cellB y c q2)) q3, q4⟩
    refine ⟨ad, fun i x sl hx hs => ?_, h2⟩
    have z := h1 i x sl hx hs
    cases sl with
    | unb => trivial
    | val v => obtain ⟨val, z1, z2⟩ := z; exact ⟨val, var _ _ z1, z2.up dat⟩
    | own l =>
      obtain ⟨z1, z2, vs, z3, z4⟩ := z
      obtain ⟨kk, z5⟩ := id z3
      exact ⟨var _ _ z1, ⟨none' _ _ z5 z2.1, z2.2⟩, vs, z3.at fun o e => keep _ o (nb _ z2.1) e, z4.up dat⟩
    | ownd l =>
      obtain ⟨z1, z2, zz, o, es, z3, z4, z5, z6, z7⟩ := z
      exact ⟨var _ _ z1, ⟨none' _ _ z3 z2.1, z2.2⟩, zz, o, es, keep _ o (nb _ z2.1) z3, z4, z5, z6.up dat, z7⟩
    | bm j =>
      obtain ⟨b, o, z1, z2, z3⟩ := z
      refine ⟨b, o, var _ _ z1, up b o z2 fun hb => ?_, z3⟩
      obtain ⟨o', q, _, z⟩ := L.held b hb
      rw [z2] at q; cases q; exact z _ z3
  · obtain ⟨o, e, z⟩ := obj b hb
    exact ⟨o, by rw [on b hb]; exact e, z⟩
  · rcases gr b o e with z | z
    · exact lb b o z
    · rw [off b z.2]
      cases q : B b with
      | none => exact e
      | some o' => have := h.g.sub b o' q; rw [z.1] at this; cases this
end
end Mine
end

section
namespace Mine
open PySem PySem.Calls PySem.Spec PySem.W PyProof.Rows
set_option maxRecDepth 100000

/-- an expression as the source of a loop -/
noncomputable def ItE' (T : Expr → Prop) (prog : Program) (w : World) (K : Frag) (mg mb : Str → Option Value) (t : Bool) (X : Act) (n : Nat) (e : Expr) (p : List Slot → Option (List V)) : Prop :=
  ∀ (A : Around) (ρ : List Slot) (B : Pm) (s : Shared) (Q E : Value → Shared → Prop) (vs : List V),
    Room n A → SR w K mg mb X ρ B s → p ρ = some vs →
    (∀ I wr B₀ B' St Mid s', SR w K mg mb X ρ B' s' → Le B B₀ → Locked K mg mb X wr B₀ B' → Kp t s s' → (∀ A', A'.handled = none → IterW T prog w A' I wr B₀ vs St Mid) → St 0 s'.heap → Q (.ref I) s') →
    wpAny (model prog w) A (eval e X.env) (fun x s₁ => wpAny (model prog w) A (pyIter x) Q E s₁) E s
structure ItE (T : Expr → Prop) (prog : Program) (w : World) (K : Frag) (mg mb : Str → Option Value) (t : Bool) (X : Act) (n : Nat) (e : Expr) (p : List Slot → Option (List V)) : Prop where
  run : ItE' T prog w K mg mb t X n e p
section
variable {prog : Program} {w : World} {K : Frag} {mg mb : Str → Option Value} {t : Bool} {X : Act} {n : Nat} {ρ : List Slot} {B : Pm} {s : Shared} {A : Around} {E : Value → Shared → Prop}

noncomputable def pFor (pa : List Slot → V → Option (List Slot)) (body orelse : PS) : List V → PS
  | [], ρ => orelse ρ
  | v :: vs, ρ => (pa ρ v).bind fun ρ1 => (body ρ1).bind fun r => match r.1 with
    | .next => pFor pa body orelse vs r.2
    | .cont => pFor pa body orelse vs r.2
    | .brk => some (.next, r.2)
    | .ret x => some (.ret x, r.2)

theorem st_for (ok : ActOK X) {T : Expr → Prop} {target iter : Expr} {body orelse : List Stmt} {pos : Pos} {pi : List Slot → Option (List V)} {pa : List Slot → V → Option (List Slot)} {pb po : PS}
    (h0 : ItE T prog w K mg mb t X n iter pi) (ht : T target) (h1 : AsF prog w K mg mb t X (assign target X.env) pa)
    (h2 : ExE prog w K mg mb t X n (execs body X.env) pb) (h3 : ExE prog w K mg mb t X n (execs orelse X.env) po) (hs : ∀ x, foldedSetIterable iter X.env x = pure x := by intro _; rfl) :
    ExE prog w K mg mb t X n (exec (.For target iter body orelse pos) X.env) (fun ρ => (pi ρ).bind fun vs => pFor pa pb po vs ρ) := .mk fun A ρ B s Q E f ρ' hr h e k => by
  obtain ⟨vs, evs, e⟩ := Option.bind_eq_some_iff.mp e
  refine wpAny_For (h0.run A ρ B s _ E vs hr h evs fun I wr B₀ B' St Mid s' r l L k1 W st0 => ?_) hs
  have W := W A hr.hh
  refine codeAny_forLoop_any (fun kk s1 => ∃ i ρi Bi, SR w K mg mb X ρi Bi s1 ∧ Locked K mg mb X wr B₀ Bi ∧ St i s1.heap ∧ pFor pa pb po (vs.drop i) ρi = some (f, ρ') ∧ Go t s s1 ∧ kk = vs.length + 1 - i ∧ i ≤ vs.length) ?_ (vs.length + 1)
    ⟨0, ρ, B', r, L, st0, by simpa using e, k1.go h.g.tab, rfl, Nat.zero_le _⟩
  rintro kk s1 ⟨i, ρi, Bi, ri, Li, sti, ei, gi, rfl, hi⟩
  rcases Nat.lt_or_ge i vs.length with hlt | hge
  · have hv : vs[i]? = some vs[i] := by simp [hlt]
    have hd : vs.drop i = vs[i] :: vs.drop (i + 1) := List.drop_eq_getElem_cons hlt
    rw [hd] at ei
    obtain ⟨ρ1, ea, ei⟩ := Option.bind_eq_some_iff.mp ei
    obtain ⟨⟨f1, ρ2⟩, eb, ei⟩ := Option.bind_eq_some_iff.mp ei
    have subi : Sub B₀ s1.heap := fun b o q => ri.g.sub b o (Li.base b o q)
    refine W.item i _ s1 _ _ hv sti subi fun val h' tk B1 mid l1 gr sb vr keep => ?_
    obtain ⟨r2, L2, lb2, lb12, g2⟩ := ri.relock (t := t) (tk := tk) (fun b => h'.get? b) ok Li l1 gr sb keep (fun b _ o q => q)
    have L2 := L2 (W.mid i val h' mid)
    refine W.go target i val _ _ _ ht mid (fun b o q => r2.g.sub b o (L2.base b o q)) fun h2' st2 keep2 => ?_
    obtain ⟨r3, L3, lb3, lb13, g3⟩ := r2.relock (t := t) (tk := tk) (B1 := B₀) (fun b => h2'.get? b) ok L2 (Le.refl B₀) (fun b o q => .inl q) (fun b o q => keep2 b o (fun hb => by rw [L2.out b hb] at q; cases q) (r2.g.sub b o (L2.base b o q))) keep2 (fun b _ o q => q)
    have L3 := L3 (W.obj _ _ st2)
    have vr3 : VR w (relock wr (fun b => h2'.get? b) (relock wr (fun b => h'.get? b) Bi B1) B₀) vs[i] val := by
      refine vr.up fun b o q d => ?_
      have hb : b ∉ wr := fun hb => by
        obtain ⟨o2, z1, z2⟩ := W.mid i val h' mid b hb
        have := sb b o q
        rw [z1] at this; cases this
        exact z2.1 d
      unfold relock
      rw [if_neg hb, if_neg hb]
      have q2 := lb12 b o q
      unfold relock at q2
      rw [if_neg hb] at q2
      rw [q2]; rfl
    have hh : A.handled = none := hr.hh
    refine h1.run A ρi _ _ _ _ vs[i] val ρ1 hh r3 vr3 ea fun s4 r4 g4 sub4 => ?_
    have st4 : St (i + 1) s4.heap := W.frame _ _ _ st2 (fun b o q => r3.g.sub b o (L3.base b o q)) (fun b o q => sub4 b o (L3.base b o q)) fun b hb o q => sub4 b o (by unfold relock; rw [if_pos hb]; exact q)
    refine h2.run A ρ1 _ s4 _ _ f1 ρ2 hr r4 eb fun fl s5 B5 r5 l5 g5 fo => ?_
    have L5 := L3.le l5
    have st5 : St (i + 1) s5.heap := W.frame _ _ _ st4 (fun b o q => r4.g.sub b o (L3.base b o q)) (fun b o q => r5.g.sub b o (L5.base b o q)) fun b hb o q => by
      obtain ⟨o', z1, _⟩ := L3.held b hb
      have := r4.g.sub b o' z1
      rw [q] at this; cases this
      exact r5.g.sub b o (l5 b o z1)
    have gg : Go t s s5 := gi.trans (g2.trans (g3.trans (g4.trans g5)))
    cases f1 with
    | next =>
      cases fl <;> first | exact fo.elim | exact ⟨vs.length + 1 - (i + 1), by omega, i + 1, ρ2, B5, r5, L5, st5, ei, gg, rfl, hlt⟩
    | cont =>
      cases fl <;> first | exact fo.elim | exact ⟨vs.length + 1 - (i + 1), by omega, i + 1, ρ2, B5, r5, L5, st5, ei, gg, rfl, hlt⟩
    | brk =>
      cases ei
      cases fl <;> first | exact fo.elim | exact k .next s5 B5 r5 (l.trans L5.base) gg trivial
    | ret x =>
      cases ei
      cases fl <;> first | exact fo.elim | exact k (.ret _) s5 B5 r5 (l.trans L5.base) gg fo
  · have hi' : i = vs.length := by omega
    subst hi'
    rw [List.drop_length] at ei
    refine W.done s1 _ _ sti (fun b o q => ri.g.sub b o (Li.base b o q)) fun h' tk keep => ?_
    obtain ⟨r2, _, lb2, _, g2⟩ := ri.relock (t := t) (tk := tk) (B1 := B₀) (fun _ => none) ok Li (Le.refl B₀) (fun b o q => .inl q) (fun b o q => keep b o (fun hb => by rw [Li.out b hb] at q; cases q) (ri.g.sub b o (Li.base b o q))) keep (fun b _ o q => by cases q)
    refine h3.run A ρi _ _ _ _ f ρ' hr r2 ei fun fl s3 B3 r3 l3 g3 fo => ?_
    exact k fl s3 B3 r3 (l.trans (lb2.trans l3)) (gi.trans (g2.trans g3)) fo

/-- fuel -/
noncomputable def pWhile (c : List Slot → Option Bool) (body orelse : PS) : Nat → PS
  | 0, _ => none
  | m + 1, ρ => (c ρ).bind fun b => if b then (body ρ).bind fun r => match r.1 with
    | .next => pWhile c body orelse m r.2
    | .cont => pWhile c body orelse m r.2
    | .brk => some (.next, r.2)
    | .ret x => some (.ret x, r.2) else orelse ρ
theorem st_while {c : Expr} {body orelse : List Stmt} {pos : Pos} {pc : List Slot → Option Bool} {pb po : PS} (fuel : Nat) (h0 : TsE prog w K mg mb t X n c pc) (h1 : ExE prog w K mg mb t X n (execs body X.env) pb) (h2 : ExE prog w K mg mb t X n (execs orelse X.env) po) :
    ExE prog w K mg mb t X n (exec (.While c body orelse pos) X.env) (pWhile pc pb po fuel) := .mk fun A ρ B s Q E f ρ' hr h e k => by
  refine wpAny_While ?_
  refine codeAny_whileLoop (fun m s1 => ∃ ρi Bi, SR w K mg mb X ρi Bi s1 ∧ pWhile pc pb po m ρi = some (f, ρ') ∧ Go t s s1 ∧ Le B Bi) ?_ fuel ⟨ρ, B, h, e, Go.refl s, Le.refl B⟩
  rintro m s1 ⟨ρi, Bi, ri, ei, gi, li⟩
  cases m with
  | zero => cases ei
  | succ m =>
    obtain ⟨b, eb, ei⟩ := Option.bind_eq_some_iff.mp ei
    refine h0.run A ρi Bi s1 _ _ b hr ri eb fun s2 B2 r2 l2 k2 => ?_
    have g2 := gi.trans (k2.go ri.g.tab)
    cases b with
    | false =>
      exact h2.run A ρi B2 s2 _ _ f ρ' hr r2 ei fun fl s3 B3 r3 l3 g3 fo => k fl s3 B3 r3 (li.trans (l2.trans l3)) (g2.trans g3) fo
    | true =>
      obtain ⟨⟨f1, ρ2⟩, eb, ei⟩ := Option.bind_eq_some_iff.mp ei
      refine h1.run A ρi B2 s2 _ _ f1 ρ2 hr r2 eb fun fl s3 B3 r3 l3 g3 fo => ?_
      have l4 := li.trans (l2.trans l3)
      have g4 := g2.trans g3
      cases f1 with
      | next => cases fl <;> first | exact fo.elim | exact ⟨m, Nat.lt_succ_self m, ρ2, B3, r3, ei, g4, l4⟩
      | cont => cases fl <;> first | exact fo.elim | exact ⟨m, Nat.lt_succ_self m, ρ2, B3, r3, ei, g4, l4⟩
      | brk =>
        cases ei
        cases fl <;> first | exact fo.elim | exact k .next s3 B3 r3 l4 g4 trivial
      | ret x =>
        cases ei
        cases fl <;> first | exact fo.elim | exact k (.ret _) s3 B3 r3 l4 g4 fo
end
end Mine
end

section
namespace Mine
open PySem PySem.Calls PySem.Spec PySem.W PyProof.Rows
set_option maxRecDepth 100000

noncomputable def itNames : List String := ["list_iterator", "tuple_iterator", "dict_keyiterator", "range_iterator", "str_ascii_iterator", "str_iterator"]
noncomputable def Heap.ItAt (h : Heap) (I : Addr) : Prop := ∃ o nm, h.get? I = some o ∧ o.cls = .type nm ∧ nm ∈ itNames
theorem ItO.of {o : Obj} {nm : String} (hc : o.cls = .type nm) (hn : nm ∈ itNames) : ItO o := by
  refine ⟨fun d => ?_, fun a d => ?_⟩
  · rcases d with d | d | d
    · rw [hc] at d; cases d; revert hn; decide
    · rw [hc] at d; cases d; revert hn; decide
    · have d := d.1
      rw [hc] at d; cases d; revert hn; decide
  · have d : o = boundApp a := d
    rw [d] at hc
    have hc : Value.type "builtin_function_or_method" = .type nm := hc
    cases hc; revert hn; decide

section
variable {prog : Program} {w : World} {K : Frag} {mg mb : Str → Option Value} {t : Bool} {X : Act} {n : Nat} {ρ : List Slot} {B : Pm} {s : Shared} {A : Around} {E : Value → Shared → Prop}

theorem go_pure {target : Expr} {I : Addr} {val : Value} {Q : Unit → Shared → Prop} (ht : anyT target) (h : Heap.ItAt s.heap I) (hQ : Q () s) :
    wpAny (model prog w) A (letOwnedTupleGo target (.ref I) val) Q E s := by
  rcases ht with ⟨x, p, rfl⟩ | ⟨es, c, p, rfl⟩
  · exact wpAny_pure hQ
  · obtain ⟨o, nm, ho, hc, hn⟩ := h
    cases val with
    | ref a =>
      unfold letOwnedTupleGo
      refine wpAny_bind (wpAny_load ho ?_)
      rw [hc]
      cases hd : o.data with
      | fields vs =>
        show wpAny _ A (if (["enumerate", "zip", "dict_itemiterator", "dict_reverseitemiterator", "odict_iterator", "itertools.zip_longest", "itertools.pairwise"].contains nm && vs[0]? == some (rawInt a)) = true then _ else _) Q E s
        rw [if_neg]
        · exact wpAny_pure hQ
        · have : ["enumerate", "zip", "dict_itemiterator", "dict_reverseitemiterator", "odict_iterator", "itertools.zip_longest", "itertools.pairwise"].contains nm = false := by
            clear hc
            revert hn; revert nm
            simp only [itNames]
            intro nm hn
            simp only [List.mem_cons, List.not_mem_nil, or_false] at hn
            rcases hn with rfl | rfl | rfl | rfl | rfl | rfl <;> decide
          rw [this]; simp
      | _ => exact wpAny_pure hQ
    | _ => exact wpAny_pure hQ

theorem IterW.ofWalks {I : Addr} {fp : List Addr} {m : Nat} {P : Nat → Value → Prop} {St : Nat → Heap → Prop} {B₀ : Pm} {vs : List V} (W : Walks prog w A I fp [I] m P St) (hB : B₀ I = none) (hfp : ∀ b ∈ fp, b ≠ I → ∃ o, B₀ b = some o) (hm : vs.length = m)
    (hP : ∀ i v val, vs[i]? = some v → P i val → VR w B₀ v val) (hob : ∀ i h, St i h → Heap.ItAt h I) : IterW anyT prog w A I [I] B₀ vs St (fun i _ h => St (i + 1) h) := by
  have ob : ∀ i h, St i h → ∀ b ∈ [I], ∃ o, h.get? b = some o ∧ ItO o := fun i h st b hb => by
    rw [List.mem_singleton] at hb; subst hb
    obtain ⟨o, nm, ho, hc, hn⟩ := hob i h st
    exact ⟨o, ho, ItO.of hc hn⟩
  refine ⟨fun i h h' st s1 s2 hk => ?_, ob, fun i v s Q E hv st sb k => ?_, fun i val h st => ob _ _ st, fun target i val s Q E ht st sb k => ?_, fun s Q E st sb k => ?_⟩
  · refine W.frame i h h' st fun b hb o e => ?_
    by_cases q : b = I
    · subst q; exact hk b (List.mem_singleton.mpr rfl) o e
    · obtain ⟨o', e'⟩ := hfp b hb q
      have := s1 b o' e'
      rw [e] at this; cases this
      exact s2 b o e'
  · have hi : i < m := by rw [← hm]; exact (List.getElem?_eq_some_iff.mp hv).1
    refine W.item i s Q E hi st fun val h' tk hp st' keep => ?_
    exact k val h' tk B₀ st' (Le.refl B₀) (fun b o q => .inl q) (fun b o q => keep b o (fun hb => by rw [List.mem_singleton] at hb; subst hb; rw [hB] at q; cases q) (sb b o q)) (hP i v val hv hp) keep
  · exact go_pure ht (hob _ _ st) (k s.heap st fun _ _ _ q => q)
  · subst hm
    exact W.done s Q E st fun h' tk keep => k h' tk keep

/-- the iterator that pyIter just made, held -/
theorem SR.lock {s' : Shared} {o : Obj} {nm : String} (ok : ActOK X) (h : SR w K mg mb X ρ B s) (hc : o.cls = .type nm) (hn : nm ∈ itNames) (hf : o.isFreed = false) :
    SR w K mg mb X ρ (put B s.heap.objs.size o) { s with heap := s.heap.push o } ∧ Locked K mg mb X [s.heap.objs.size] B (put B s.heap.objs.size o) ∧ Kp t s { s with heap := s.heap.push o } ∧ B s.heap.objs.size = none := by
  have hfr : s.heap.get? s.heap.objs.size = none := fresh _ (Nat.le_refl _)
  have hB := h.g.sub.none hfr
  have kk : ∀ b ob, s.heap.get? b = some ob → (s.heap.push o).get? b = some ob := fun _ _ e => Heap.get?_push_of_some _ e
  refine ⟨h.step (t := t) (h.g.put kk hfr (Heap.get?_push_size _ hf) s.toks) (put_le hB) (Kp.heap s s.toks kk) (Grow.put hfr), ⟨put_le hB, h.g.stat, ?_, ?_, ?_⟩, Kp.heap s s.toks kk, hB⟩
  · intro b hb; rw [List.mem_singleton] at hb; subst hb
    exact ⟨o, put_self, ItO.of hc hn⟩
  · intro b hb; rw [List.mem_singleton] at hb; subst hb; exact hB
  · intro b hb; rw [List.mem_singleton] at hb; subst hb; exact h.h0fresh hfr

/-- pyIter of a value -/
noncomputable def itemsOf : V → Option (List V)
  | .lst l => some l
  | .tup l => some l
  | .str x => some (x.cps.toList.map fun c => .str ⟨#[c]⟩)
  | .dct l => some (l.map fun p => .str p.1)
  | _ => none

inductive VRk (w : World) (B : Pm) : List (Str × V) → List (Str × Value) → Prop
  | nil : VRk w B [] []
  | cons {k : Str} {v : V} {x : Value} {l : List (Str × V)} {kvs : List (Str × Value)} : VR w B v x → VRk w B l kvs → VRk w B ((k, v) :: l) ((k, x) :: kvs)
theorem vrd_to (prog : Program) : ∀ {l : List (Str × V)} {es : List DictEntry}, VRd w B l es → ∃ kvs, Pairs (strKind prog w) es kvs ∧ VRk w B l kvs
  | _, _, .nil => ⟨[], .nil, .nil⟩
  | _, _, .cons (k := k) (t := t) (x := x) h r =>
    let ⟨kvs, p, q⟩ := vrd_to prog r
    ⟨(k, x) :: kvs, .cons (strKind_is prog w k t) rfl p, .cons h q⟩
theorem VRk.keys : ∀ {l : List (Str × V)} {kvs : List (Str × Value)}, VRk w B l kvs → kvs.map (·.1) = l.map (·.1)
  | _, _, .nil => rfl
  | _, _, .cons _ r => by simp only [List.map_cons, r.keys]
theorem VRk.length {l : List (Str × V)} {kvs : List (Str × Value)} (h : VRk w B l kvs) : kvs.length = l.length := by
  have := congrArg List.length h.keys
  simpa using this
theorem vrd_keysOf {l : List (Str × V)} {es : List DictEntry} (r : VRd w B l es) : KeysOf (strKind prog w) es.toArray := fun e he => by
  obtain ⟨k, t, h1, h2⟩ := vrd_keys r e (by simpa using he)
  exact ⟨k, by rw [h1]; exact strKind_is prog w k t, h2⟩
theorem vrd_of {es : List DictEntry} {kvs : List (Str × Value)} (p : Pairs (strKind prog w) es kvs) : ∀ {l : List (Str × V)}, (∀ e ∈ es, ∃ k, (strKind prog w).is k e.key = true ∧ e.hash = (strKind prog w).hash k) → VRk w B l kvs → VRd w B l es := by
  induction p with
  | nil => intro l _ q; cases q; exact .nil
  | @cons e kv es kvs h1 h2 p ih =>
    intro l hk q
    cases q with
    | cons h r =>
      obtain ⟨k', g1, g2⟩ := hk e List.mem_cons_self
      have hkk := Value.isStrOf_inj _ _ _ h1 g1
      obtain ⟨t, ht⟩ := Value.isStrOf_shape h1
      obtain ⟨eh, ek, ev⟩ := e
      simp only at ht h2 g2 hkk
      subst ht h2
      have : eh = hashStr w _ := g2.trans (by rw [← hkk]; rfl)
      subst this
      exact .cons h (ih (fun e he => hk e (List.mem_cons_of_mem _ he)) r)
theorem vrd_dictOf {l : List (Str × V)} {es : List DictEntry} {kvs : List (Str × Value)} {h : Heap} {a : Addr} {o : Obj} (r : VRd w B l es) (p : Pairs (strKind prog w) es kvs) (q : VRk w B l kvs) (nd : (l.map (·.1)).Nodup) (e : h.get? a = some o) (x : o.ExactDict) (d : ∃ n, o.data = .dict es.toArray n) :
    h.DictOf (strKind prog w) a kvs := by
  obtain ⟨n, d⟩ := d
  exact ⟨o, es.toArray, n, e, x, d, vrd_keysOf r, p, by rw [q.keys]; exact nd⟩
theorem dictOf_vrd {l : List (Str × V)} {kvs : List (Str × Value)} {h : Heap} {a : Addr} (x : h.DictOf (strKind prog w) a kvs) (q : VRk w B l kvs) :
    ∃ o es, h.get? a = some o ∧ o.ExactDict ∧ (∃ n, o.data = .dict es.toArray n) ∧ VRd w B l es ∧ (l.map (·.1)).Nodup := by
  obtain ⟨o, es, ep, e, x, d, ko, p, nd⟩ := x
  exact ⟨o, es.toList, e, x, ⟨ep, by simpa using d⟩, vrd_of p (fun e he => ko e (by simpa using he)) q, by rw [← q.keys]; exact nd⟩

theorem it_val (ok : ActOK X) {e1 : Expr} {p : List Slot → Option V} (h1 : EvE prog w K mg mb t X n e1 p) : ItE anyT prog w K mg mb t X n e1 (fun ρ => (p ρ).bind itemsOf) := .mk fun A ρ B s Q E vs hr h e k => by
  obtain ⟨v, ev, e⟩ := Option.bind_eq_some_iff.mp e
  refine h1.run A ρ B s _ E v hr h ev fun val s1 B1 r1 l1 k1 vr => ?_
  cases v with
  | lst l =>
    cases e
    cases vr with
    | @lst _ a xs m ha hs =>
      have hl : s1.heap.IsList a xs.toArray := ⟨_, r1.g.sub _ _ ha, rfl, _, rfl⟩
      refine wpAny_pyIter_list hl ?_
      obtain ⟨r2, L2, k2, hB⟩ := r1.lock (t := t) (s' := s1) (o := { cls := .type "list_iterator", data := .fields #[.ref a, .int 0 0] }) ok rfl (by decide) rfl
      have hne : a ≠ s1.heap.objs.size := fun q => by rw [q, hB] at ha; cases ha
      refine k s1.heap.objs.size _ _ _ _ _ _ r2 l1 L2 (k1.trans k2) (fun A' hA => IterW.ofWalks (Walks.list hA s1.heap.objs.size a hne xs.toArray) hB ?_ (by rw [List.size_toArray, hs.length]) ?_ ?_) ⟨⟨_, Heap.get?_push_size _ rfl, rfl, rfl⟩, hl.at fun _ q => Heap.get?_push_of_some _ q⟩
      · intro b hb q
        rcases List.mem_cons.mp hb with rfl | hb
        · exact (q rfl).elim
        · rw [List.mem_singleton] at hb; subst hb; exact ⟨_, ha⟩
      · intro i v val hv hp
        obtain ⟨x, hx, hxr⟩ := hs.get i v hv
        have : xs[i]? = some val := by simpa using hp
        rw [hx] at this; cases this; exact hxr
      · rintro i h ⟨⟨o, ho, hc, _⟩, _⟩
        exact ⟨o, _, ho, hc, by decide⟩
  | tup l =>
    cases e
    cases vr with
    | @tup _ a xs m ha hs =>
      have hl : s1.heap.IsTuple a xs.toArray := ⟨_, r1.g.sub _ _ ha, rfl, _, rfl⟩
      refine wpAny_pyIter_tuple hl ?_
      obtain ⟨r2, L2, k2, hB⟩ := r1.lock (t := t) (s' := s1) (o := { cls := .type "tuple_iterator", data := .fields #[.ref a, .int 0 0] }) ok rfl (by decide) rfl
      have hne : a ≠ s1.heap.objs.size := fun q => by rw [q, hB] at ha; cases ha
      refine k s1.heap.objs.size _ _ _ _ _ _ r2 l1 L2 (k1.trans k2) (fun A' hA => IterW.ofWalks (Walks.tuple hA s1.heap.objs.size a hne xs.toArray) hB ?_ (by rw [List.size_toArray, hs.length]) ?_ ?_) ⟨⟨_, Heap.get?_push_size _ rfl, rfl, rfl⟩, hl.at fun _ q => Heap.get?_push_of_some _ q⟩
      · intro b hb q
        rcases List.mem_cons.mp hb with rfl | hb
        · exact (q rfl).elim
        · rw [List.mem_singleton] at hb; subst hb; exact ⟨_, ha⟩
      · intro i v val hv hp
        obtain ⟨x, hx, hxr⟩ := hs.get i v hv
        have : xs[i]? = some val := by simpa using hp
        rw [hx] at this; cases this; exact hxr
      · rintro i h ⟨⟨o, ho, hc, _⟩, _⟩
        exact ⟨o, _, ho, hc, by decide⟩
  | str x =>
    cases e
    cases vr with
    | str _ tk =>
      have fin : ∀ (o : Obj) (nm : String) (St : Nat → Heap → Prop), o.cls = .type nm → nm ∈ itNames → o.isFreed = false → (∀ A' : Around, A'.handled = none → Walks prog w A' s1.heap.objs.size [s1.heap.objs.size] [s1.heap.objs.size] x.cps.size (SignAt x) St) →
          St 0 (s1.heap.push o) → (∀ i h, St i h → Heap.ItAt h s1.heap.objs.size) → Q (.ref s1.heap.objs.size) { s1 with heap := s1.heap.push o } := by
        intro o nm St hc hn hf W st0 hob
        obtain ⟨r2, L2, k2, hB⟩ := r1.lock (t := t) (s' := s1) (o := o) ok hc hn hf
        refine k s1.heap.objs.size _ _ _ _ _ _ r2 l1 L2 (k1.trans k2) (fun A' hA => IterW.ofWalks (W A' hA) hB ?_ (by simp) ?_ hob) st0
        · intro b hb q
          rw [List.mem_singleton] at hb; exact (q hb).elim
        · intro i v val hv hp
          obtain ⟨c, u, hc, rfl⟩ := hp
          rw [List.getElem?_map] at hv
          have : x.cps.toList[i]? = some c := by simpa using hc
          rw [this] at hv; cases hv
          exact .str _ _
      cases ha : x.cps.all (· < 128)
      · exact wpAny_pyIter_wide ha (fin _ "str_iterator" _ rfl (by decide) rfl (fun A' hA => Walks.strWide hA _ x tk) ⟨_, Heap.get?_push_size _ rfl, rfl, rfl⟩ (fun i h st => let ⟨o, ho, hc, _⟩ := st; ⟨o, _, ho, hc, by decide⟩))
      · exact wpAny_pyIter_ascii ha (fin _ "str_ascii_iterator" _ rfl (by decide) rfl (fun A' hA => Walks.strAscii hA _ x tk) ⟨_, Heap.get?_push_size _ rfl, rfl, rfl⟩ (fun i h st => let ⟨o, ho, hc, _⟩ := st; ⟨o, _, ho, hc, by decide⟩))
  | dct l =>
    cases e
    cases vr with
    | @dct _ a o es hb hx hd hv hn hm =>
      obtain ⟨kvs, p, q⟩ := vrd_to prog hv
      have hdo := vrd_dictOf hv p q hn (r1.g.sub _ _ hb) hx hd
      obtain ⟨ep, hda⟩ := hdo.dictAt
      refine wpAny_pyIter_dict hm hda ?_
      obtain ⟨r2, L2, k2, hB⟩ := r1.lock (t := t) (s' := s1) (o := { cls := .type "dict_keyiterator", data := .fields #[.ref a, .int 0 0, .int kvs.length 0, .int ep 0] }) ok rfl (by decide) rfl
      have hne : a ≠ s1.heap.objs.size := fun q => by rw [q, hB] at hb; cases hb
      refine k s1.heap.objs.size _ _ _ _ _ _ r2 l1 L2 (k1.trans k2) (fun A' hA => IterW.ofWalks (Walks.dictKeys (knd := strKind prog w) hA s1.heap.objs.size a hne kvs ep) hB ?_ (by rw [List.length_map, q.length]) ?_ ?_) ⟨⟨_, Heap.get?_push_size _ rfl, rfl, rfl⟩, hda.at' fun _ q => Heap.get?_push_of_some _ q⟩
      · intro b hb' q
        rcases List.mem_cons.mp hb' with rfl | hb'
        · exact (q rfl).elim
        · rw [List.mem_singleton] at hb'; subst hb'; exact ⟨_, hb⟩
      · intro i v val hv' hp
        obtain ⟨kk, x, h1, h2⟩ := hp
        obtain ⟨tk, rfl⟩ := Value.isStrOf_shape h2
        have e1 : (kvs.map (·.1))[i]? = some kk := by rw [List.getElem?_map, h1]; rfl
        rw [q.keys, List.getElem?_map] at e1
        obtain ⟨p0, e2, e3⟩ := Option.map_eq_some_iff.mp e1
        rw [List.getElem?_map, e2] at hv'
        cases hv'
        show VR w B1 (V.str p0.1) _
        rw [e3]; exact .str _ _
      · rintro i h ⟨⟨o, ho, hc, _⟩, _⟩
        exact ⟨o, _, ho, hc, by decide⟩
  | _ => cases e
end
end Mine
end

section
namespace Mine
open PySem PySem.Calls PySem.Spec PySem.W PyProof.Rows
set_option maxRecDepth 100000

noncomputable def smR (a : Int) : Bool := -1000000 ≤ a && a ≤ 1000000
noncomputable def rngOf : List V → Option (Int × Int × Int)
  | [.int b] => if smR b then some (0, b, 1) else none
  | [.int a, .int b] => if smR a && smR b then some (a, b, 1) else none
  | [.int a, .int b, .int c] => if smR a && smR b && c == -1 then some (a, b, -1) else none
  | _ => none
noncomputable def rngV (r : Int × Int × Int) : List V := (List.range (Builtin.Range.rangeSize r.1 r.2.1 r.2.2).toNat).map fun i => .int (r.1 + (i : Nat) * r.2.2)

theorem small_of {a b c : Int} (ha : smR a = true) (hb : smR b = true) (hc : c = 1 ∨ c = -1) : Builtin.Range.small a b c = true ∧ Builtin.Range.rangeSize a b c ≤ 2000000 := by
  simp only [smR, Bool.and_eq_true, decide_eq_true_eq] at ha hb
  have h1 : Builtin.Range.rangeSize a b c ≤ 2000000 ∧ 0 ≤ Builtin.Range.rangeSize a b c := by
    unfold Builtin.Range.rangeSize
    rcases hc with rfl | rfl
    · split
      · split <;> simp <;> omega
      · split <;> simp <;> omega
    · split
      · rename_i q; omega
      · split <;> simp <;> omega
  refine ⟨?_, h1.1⟩
  unfold Builtin.Range.small Builtin.Range.rangeFitsLong
  have e : (2 : Int) ^ 63 = 9223372036854775808 := by decide
  rw [e]
  generalize Builtin.Range.rangeSize a b c = z at h1
  rcases hc with rfl | rfl <;> simp <;> omega

section
variable {prog : Program} {w : World} {K : Frag} {mg mb : Str → Option Value} {t : Bool} {X : Act} {n : Nat} {ρ : List Slot} {B : Pm} {s : Shared} {A : Around} {E : Value → Shared → Prop}

theorem call_rng {l : List V} {vals : List Value} {r : Int × Int × Int} {Q : Value → Shared → Prop} (vr : VRs w B l vals) (e : rngOf l = some r)
    (h : ∀ t u v tk, Q (.ref s.heap.objs.size) { s with heap := s.heap.push { cls := .type "range", data := .fields #[.int r.1 t, .int r.2.1 u, .int r.2.2 v] }, toks := tk }) :
    (smR r.1 = true ∧ smR r.2.1 = true ∧ (r.2.2 = 1 ∨ r.2.2 = -1)) ∧ wpAny (model prog w) A (call (.type "range") vals) Q E s := by
  unfold rngOf at e
  split at e
  · split at e
    · rename_i hb; cases e; cases vr with | cons a b => cases b; cases a; exact ⟨⟨by show smR 0 = true; decide, hb, .inl rfl⟩, call_range_1 (h _ _ _ _)⟩
    · cases e
  · split at e
    · rename_i hb
      rw [Bool.and_eq_true] at hb
      cases e; cases vr with | cons a b => cases b with | cons b c => cases c; cases a; cases b; exact ⟨⟨hb.1, hb.2, .inl rfl⟩, call_range_2 (h _ _ _ _)⟩
    · cases e
  · split at e
    · rename_i hb
      rw [Bool.and_eq_true, Bool.and_eq_true] at hb
      have hc := hb.2
      simp only [beq_iff_eq] at hc
      subst hc
      cases e; cases vr with | cons a b => cases b with | cons b c => cases c with | cons c d => cases d; cases a; cases b; cases c; exact ⟨⟨hb.1.1, hb.1.2, .inr rfl⟩, call_range_3 (by decide) (h _ _ _ _) (.inl (PyProof.noPylong_small (by decide)))⟩
    · cases e
  · cases e

/-- evaluating a call of range -/
theorem ev_rng (ok : ActOK X) {fp pos : Pos} {e1 : Expr} {rest : List Expr} {p : List Slot → Option (List V)} {Q : Value → Shared → Prop} (hr : Room n A) (h : SR w K mg mb X ρ B s)
    (hx : X.env.kindOf "range" = some .globalImplicit) (e : nsIn K mainGlobals "range" = some none) (h1 : EvL prog w K mg mb t X n (backTo pos (starEach (e1 :: rest) X.env)) p) {r : Int × Int × Int} {l : List V} (el : p ρ = some l) (er : rngOf l = some r)
    (he : starEach (e1 :: rest) X.env = (false, eval e1 X.env) :: starEach rest X.env) (hplain : (backTo pos (starEach rest X.env)).any (·.1) = false)
    (k : ∀ a t' u v s1 B1, SR w K mg mb X ρ B1 s1 → Le B B1 → Kp t s s1 → IsRange s1.heap a r.1 r.2.1 r.2.2 t' u v → s.heap.get? a = none → (smR r.1 = true ∧ smR r.2.1 = true ∧ (r.2.2 = 1 ∨ r.2.2 = -1)) → B1 a = none → Q (.ref a) s1) :
    wpAny (model prog w) A (eval (.Call (.Name "range" fp) (e1 :: rest) [] pos) X.env) Q E s := by
  refine Call_Name rfl (load_boot ok h.g hx e (v := .type "range") (by decide) (by decide) ?_ (by decide))
  have z := h1.run A ρ B s
  rw [he] at z ⊢
  refine PySem.callWith_type (by show (false || (backTo pos (starEach rest X.env)).any (·.1)) = false; rw [hplain]; rfl) (evalArgs_plain (z _ E l hr h el fun vals s1 B1 r1 l1 k1 v1 => ?_))
  obtain ⟨⟨c1, c2, c3⟩, _⟩ := call_rng (prog := prog) (A := A) (E := E) (s := s1) (Q := fun _ _ => True) v1 er (fun _ _ _ _ => trivial)
  refine (call_rng v1 er fun t' u v tk => ?_).2
  have kk : ∀ b o, s1.heap.get? b = some o → (s1.heap.push { cls := .type "range", data := .fields #[.int r.1 t', .int r.2.1 u, .int r.2.2 v] }).get? b = some o := fun _ _ e => Heap.get?_push_of_some _ e
  have hf : s1.heap.get? s1.heap.objs.size = none := fresh _ (Nat.le_refl _)
  refine k s1.heap.objs.size t' u v _ B1 (r1.ext kk tk) l1 (k1.trans (Kp.heap s1 tk kk)) (Heap.get?_push_size _ rfl) ?_ ⟨c1, c2, c3⟩ (r1.g.sub.none hf)
  cases q : s.heap.get? s1.heap.objs.size with
  | none => rfl
  | some o =>
    exfalso
    by_cases hT : s1.heap.objs.size = tbA
    · obtain ⟨ps, e, _⟩ := r1.g.tab
      rw [← hT, hf] at e; cases e
    · rw [k1.get q hT] at hf; cases hf

theorem it_range (ok : ActOK X) {fp pos : Pos} {e1 : Expr} {rest : List Expr} {p : List Slot → Option (List V)}
    (hx : X.env.kindOf "range" = some .globalImplicit) (e : nsIn K mainGlobals "range" = some none) (h1 : EvL prog w K mg mb t X n (backTo pos (starEach (e1 :: rest) X.env)) p)
    (he : starEach (e1 :: rest) X.env = (false, eval e1 X.env) :: starEach rest X.env := by rfl) (hplain : (backTo pos (starEach rest X.env)).any (·.1) = false := by rfl) :
    ItE anyT prog w K mg mb t X n (.Call (.Name "range" fp) (e1 :: rest) [] pos) (fun ρ => ((p ρ).bind rngOf).map rngV) := .mk fun A ρ B s Q E vs hr h e' k => by
  obtain ⟨r, e2, rfl⟩ := Option.map_eq_some_iff.mp e'
  obtain ⟨l, el, er⟩ := Option.bind_eq_some_iff.mp e2
  refine ev_rng (t := t) ok hr h hx e h1 el er he hplain fun a t' u v s1 B1 r1 l1 k1 hrg _ cc hBa => ?_
  obtain ⟨c1, c2, c3⟩ := cc
  obtain ⟨sm, le⟩ := small_of c1 c2 c3
  refine wpAny_pyIter_range hrg sm ?_
  obtain ⟨r2, L2, k2, hB⟩ := r1.lock (t := t) (s' := s1) (o := { cls := .type "range_iterator", data := .fields #[rawInt r.1, rawInt (Builtin.Range.rangeSize r.1 r.2.1 r.2.2), rawInt r.2.2] }) ok rfl (by decide) rfl
  have hsz : Builtin.Range.rangeSize r.1 r.2.1 r.2.2 = ((Builtin.Range.rangeSize r.1 r.2.1 r.2.2).toNat : Int) := rangeSize_toNat _ _ _
  refine k s1.heap.objs.size _ _ _ _ _ _ r2 l1 L2 (k1.trans k2) (fun A' hA => IterW.ofWalks (Walks.range hA s1.heap.objs.size r.1 r.2.2 (Builtin.Range.rangeSize r.1 r.2.1 r.2.2).toNat) hB ?_ (by simp [rngV]) ?_ ?_) ?_
  · intro b hb q
    rw [List.mem_singleton] at hb; exact (q hb).elim
  · intro i v val hv hp
    obtain ⟨tk, rfl⟩ := hp
    simp only [rngV, List.getElem?_map, Option.map_eq_some_iff] at hv
    obtain ⟨j, hj, rfl⟩ := hv
    have : j = i := by
      rw [List.getElem?_range] at hj
      · cases hj; rfl
      · exact (List.getElem?_eq_some_iff.mp hj).1 |> (by simpa using ·)
    subst this
    exact .int _ _
  · intro i h st
    exact ⟨_, _, st, rfl, by decide⟩
  · have : (s1.heap.push { cls := .type "range_iterator", data := .fields #[rawInt r.1, rawInt (Builtin.Range.rangeSize r.1 r.2.1 r.2.2), rawInt r.2.2] }).get? s1.heap.objs.size = some _ := Heap.get?_push_size _ rfl
    have e1 : r.1 + ((0 : Nat) : Int) * r.2.2 = r.1 := by simp
    have e2 : (((Builtin.Range.rangeSize r.1 r.2.1 r.2.2).toNat : Nat) : Int) - ((0 : Nat) : Int) = Builtin.Range.rangeSize r.1 r.2.1 r.2.2 := by rw [← hsz]; simp
    rw [e1, e2]; exact this
end
end Mine
end

section
namespace Mine
open PySem PySem.Calls PySem.Spec PySem.W PyProof.Rows
set_option maxRecDepth 100000
open PySem.Builtin

theorem slot_md_get : PySem.Slot "method_descriptor" "__get__" "method_descriptor.__get__" :=
  .of (owner := "method_descriptor") (n := "__get__") (by rw [typeLookup_type, builtinLookup_eq_fast]; kernel_rfl) (by decide +kernel) (by decide +kernel) (by decide +kernel)
    (by first | exact .inl (by decide +kernel) | exact .inr (by decide +kernel)) (by rw [isSubtype_type]; kernel_rfl)
theorem entry_md_get : entryFor table "method_descriptor.__get__" = some Builtin.«method_descriptor.__get__» := entryFor_of_tree (by kernel_rfl)
theorem args_md_get (a b c : Value) : argsOk "method_descriptor.__get__" ⟨[a, b, c], []⟩ := by unfold argsOk; kernel_rfl
theorem md_no_set : typeLookup (.type "method_descriptor") "__set__" = pure none := by rw [typeLookup_type, builtinLookup_eq_fast]; kernel_rfl
theorem md_no_del : typeLookup (.type "method_descriptor") "__delete__" = pure none := by rw [typeLookup_type, builtinLookup_eq_fast]; kernel_rfl
theorem sub_list_list' : isSubtype (.type "list") (.type "list") = pure true := by rw [isSubtype_type]; kernel_rfl

theorem told_app : Manifest.toldItsClass.contains "list.append" = false := by decide +kernel
theorem run_md_get {prog : Program} {w : World} {A : Around} {E : Value → Shared → Prop} {s : Shared} {a : Addr} {P : Fin → Shared → Prop} (hT : s.TypeIs (.ref a) "list") (h : P (.done (.ret (.ref s.heap.objs.size))) { s with heap := s.heap.push { cls := .type "builtin_function_or_method", data := .fields #[.builtin "list.append", .ref a] } }) :
    wpAny (model prog w) A (Builtin.«method_descriptor.__get__» ⟨[.builtin "list.append", .ref a, .type "list"], []⟩) P E s := by
  unfold Builtin.«method_descriptor.__get__»
  refine wpAny_bind (wpAny_of_eq (a := (.builtin "list.append", some (.ref a), some (.type "list"))) (by first | rfl | kernel_rfl) ?_)
  simp only [told_app]
  refine wpAny_bind (wpAny_bind (m := _) ?_)
  refine wpAny_of_eq (a := (("append" : Str), Value.type "list")) (by first | rfl | kernel_rfl) ?_
  refine wpAny_bind (wpAny_isInstance (T := "list") (b := true) hT sub_list_list' ?_)
  refine wpAny_pure ?_
  exact wpAny_bind (wpAny_newObj_type (wpAny_pure h))
theorem meets_ga_append (a : Addr) (xs : Array Value) (k : Nat) (u : Tok) :
    Meets (Builtin.«object.__getattribute__» ⟨[.ref a, .str "append" u], []⟩) (fun A R s => s.heap.get? a = some { cls := .type "list", dict := none, data := .seq xs k, slots := #[] } ∧
      R (.ok (.ret (.ref s.heap.objs.size))) { s with heap := s.heap.push { cls := .type "builtin_function_or_method", data := .fields #[.builtin "list.append", .ref a] } }) :=
  Meets.of_wp fun prog w A R s hs => by
    obtain ⟨hp, g, d, tk, os⟩ := s
    obtain ⟨hx, hs⟩ := hs
    have hT : (⟨hp, g, d, tk, os⟩ : Shared).TypeIs (.ref a) "list" := ⟨_, hx, rfl⟩
    have h1 := PySem.F.slot_list_append.lookup
    have h2 := PySem.F.type_list_append
    have h3 := slot_md_get.lookup
    have h4 := md_no_set
    have h5 := md_no_del
    unfold Builtin.«object.__getattribute__»
    repeat (any_goals (first | assumption | ((with_reducible show wpAny _ _ (call (Value.builtin "method_descriptor.__get__") _) _ _ _); refine wpAny_call_entry slot_md_get h2 entry_md_get (run_md_get ⟨_, hx, rfl⟩ ⟨_, rfl, ?_⟩) (args_md_get _ _ _)) | wp_step))
    exact ⟨_, rfl, hs⟩

theorem sig_app : Manifest.signature? "list.append" = some ⟨.oneArg, "list.append", "append", .self, [⟨"object", .posOnly, true⟩]⟩ := by first | rfl | kernel_rfl
theorem sub_list_mod : isSubtype (.type "list") (.type "module") = pure false := by rw [isSubtype_type]; kernel_rfl
theorem var_app : Manifest.varargsMethods.contains "list.append" = false := by decide +kernel
theorem quiet_app {as : Args} : (Code.builtin "list.append" as).quiet = true := Code.quiet_builtin _ (by decide +kernel)
theorem kind_app : builtinKind "list.append" = some .method := by first | rfl | kernel_rfl
section
variable {prog : Program} {w : World} {A : Around} {E : Value → Shared → Prop} {s : Shared}
theorem getAttr_append {a : Addr} {xs : Array Value} {k : Nat} {Q : Value → Shared → Prop} (hx : s.heap.get? a = some { cls := .type "list", data := .seq xs k })
    (h : ∀ tk, Q (.ref s.heap.objs.size) { s with heap := s.heap.push (boundApp a), toks := tk }) :
    wpAny (model prog w) A (getAttr (.ref a) "append" true) Q E s := by
  obtain ⟨hp, g, d, tk, os⟩ := s
  have hT : ∀ tk', (⟨hp, g, d, tk', os⟩ : Shared).TypeIs (.ref a) "list" := fun _ => ⟨_, hx, rfl⟩
  have f3 := PySem.F.slot_list_getattribute.lookup
  have f4 := PySem.F.slot_list_getattribute.bind (.ref a)
  unfold getAttr getAttrBy
  repeat (any_goals (first | assumption | exact hT _ | ((with_reducible show wpAny _ _ (call (Value.builtin "list.__getattribute__") _ _) _ _ _); refine call_meets PySem.F.slot_list_getattribute (hT _) am_entry_list_getattribute (PySem.F.args_list_getattribute_2 _ _) (meets_ga_append a xs k _) ⟨hx, ?_⟩) | wp_step))
  all_goals (show wpAny (model prog w) A (handedOut (.ref hp.objs.size)) Q E _; exact wpAny_pure (h _))

/-- the bound append called -/
theorem call_boundApp {b a : Addr} {x : Value} {Q : Value → Shared → Prop} {xs : Array Value} (hb : s.heap.get? b = some (boundApp a)) (pl : s.heap.PlainList a xs) (hsz : xs.size ≤ sizeLine)
    (hQ : ∀ h', h'.PlainList a (xs.push x) → Heap.SameBut a s.heap h' → Q .none { s with heap := h' }) : wpAny (model prog w) A (call (.ref b) [x]) Q E s := by
  obtain ⟨k, hx⟩ := pl
  have h : codeAny (model prog w) A (.builtin "list.append" ⟨[.ref a, x], []⟩) (wants Q E) s := by
    refine codeAny_builtin PySem.F.entry_list_append ?_
    rw [Around.under_plainId PySem.F.slot_list_append.plain]
    refine (PySem.list_append a xs k x hsz) prog w A (wants Q E) s ⟨hx, ?_⟩
    obtain ⟨n', hd'⟩ := Obj.data_mapSeq (o := { cls := .type "list", data := .seq xs k }) rfl (·.push x)
    have h2 : (Obj.mapSeq (fun xs => xs.push x) { cls := .type "list", data := .seq xs k }) = { cls := .type "list", data := .seq (xs.push x) n' } := by
      have : (Obj.mapSeq (fun xs => xs.push x) { cls := .type "list", data := .seq xs k }) = { cls := .type "list", data := (Obj.mapSeq (fun xs => xs.push x) { cls := .type "list", data := .seq xs k }).data } := rfl
      rw [this, hd']
    refine hQ _ ⟨n', ?_⟩ (Heap.SameBut.update ..)
    rw [Heap.get?_update_self _ hx (Obj.isFreed_of_seq hd'), h2]
  refine wpAny_call (codeAny_of_tree ?_)
  show wpAny _ A.in1 (callAny (.ref b) ⟨[x], []⟩) _ _ _
  unfold callAny
  refine wpAny_bind (wpAny_load hb ?_)
  show wpAny _ _ (do checkBoundCall "list.append" ⟨[.ref a, x], []⟩; again (.builtin "list.append" ⟨[.ref a, x], []⟩)) _ _ _
  refine wpAny_bind ?_
  unfold checkBoundCall
  simp only [sig_app, kind_app]
  have hT : s.TypeIs (.ref a) "list" := ⟨_, hx, rfl⟩
  rw [if_neg (by decide)]
  refine wpAny_bind (wpAny_isInstance (T := "list") (b := false) hT sub_list_mod ?_)
  rw [if_neg (by rw [var_app]; decide)]
  refine wpAny_bind ?_
  show wpAny _ _ (do return match (← loadHead a).data with | .cls _ => true | _ => false) _ _ _
  refine wpAny_bind (wpAny_loadPart hx (wpAny_pure ?_))
  rw [if_neg (by exact Bool.false_ne_true)]
  refine wpAny_bind (wpAny_typeOf hT ?_)
  refine wpAny_of_eq (a := ()) (by unfold Bind.checkArgs; kernel_rfl) ?_
  exact wpAny_pure ⟨quiet_app, h⟩
end

section
variable {prog : Program} {w : World} {K : Frag} {mg mb : Str → Option Value} {t : Bool} {X : Act} {n : Nat} {ρ : List Slot} {B : Pm} {s : Shared} {A : Around} {E : Value → Shared → Prop}

noncomputable def pBm (i j : Nat) : PS := fun ρ => (getown j ρ).bind fun _ => some (.next, setS ρ i (.bm j))
theorem st_bm (ok : ActOK X) (i j : Nat) {x y : Str} {px py pa pos : Pos} (hx : X.names[i]? = some x) (hy : X.names[j]? = some y) (hij : j ≠ i) (hk : Stable X x)
    (hd : (y == ("__debug__" : Str)) = false := by decide) (hn : (y == ("__classdict__" : Str)) = false := by decide) :
    ExE prog w K mg mb t X n (exec (.Assign [.Name x px] (.Attribute (.Name y py) "append" pa) pos) X.env) (pBm i j) := .mk fun A ρ B s Q E f ρ' hr h e k => by
  obtain ⟨l, el, e⟩ := Option.bind_eq_some_iff.mp e
  cases e
  obtain ⟨a, vs, va, ba, pl, vrs⟩ := h.own hy el
  obtain ⟨kk, plo⟩ := id pl
  refine wpAny_Assign_Name ?_ rfl
  rw [arm_eval_Attribute]
  refine wpAny_bind (wpAny_Name (load_var ok.fn va ?_ hn) hd)
  refine wpAny_bind (wpAny_standAt (wpAny_bind (wpAny_holding (getAttr_append plo fun tk => ?_))))
  refine wpAny_bind (wpAny_pure (wpAny_pure ?_))
  have hf : s.heap.get? s.heap.objs.size = none := fresh _ (Nat.le_refl _)
  have kp : ∀ b o, s.heap.get? b = some o → (s.heap.push (boundApp a)).get? b = some o := fun _ _ e => Heap.get?_push_of_some _ e
  have hB := h.g.sub.none hf
  have k1 : Kp t s { s with heap := s.heap.push (boundApp a), toks := tk } := Kp.heap s tk kp
  have r1 : SR w K mg mb X ρ (put B s.heap.objs.size (boundApp a)) { s with heap := s.heap.push (boundApp a), toks := tk } :=
    h.step (t := t) (h.g.put kp hf (Heap.get?_push_size _ rfl) tk) (put_le hB) k1 (Grow.put hf)
  refine store_var ok r1 hk fun h' tk' st => ?_
  refine k .next _ _ (r1.store ok hx st (.inr (.inl ⟨j, a, _, boundApp a, rfl, hij, rfl, put_self, rfl, y, l, hy, getown_at el, va.kp h.g.tab k1⟩))) (put_le hB) ((k1.go h.g.tab).trans (Go.heap r1.g.tab (st.tab r1))) trivial

theorem callWith_machine {pos : Pos} {b a : Addr} {Q : Value → Shared → Prop} {tr : Sem Value}
    (h : wpAny (model prog w) A tr (fun v s₁ => s₁.heap.get? b = some (boundApp a) ∧ wpAny (model prog w) A (call (.ref b) [v]) Q E s₁) E s) :
    wpAny (model prog w) A (callWith pos (.ref b) [] [(false, tr)] []) Q E s := by
  unfold callWith
  refine wpAny_bind (wpAny_holding (evalArgs_plain (Calls.spliced_cons (wpAny_mono h (fun v s₁ h₁ => Calls.spliced_nil (wpAny_bind (wpAny_standAt ?_))) fun _ _ e => e))))
  refine wpAny_bind (m := keeperOf (.ref b)) ?_
  unfold keeperOf
  refine wpAny_bind (wpAny_load h₁.1 ?_)
  exact wpAny_pure (wpAny_bind (wpAny_mono h₁.2 (fun r s₂ hr => wpAny_bind (wpAny_holding (wpAny_point (wpAny_pure hr)))) fun _ _ x => x))

noncomputable def getbm (i : Nat) (ρ : List Slot) : Option Nat := match ρ[i]? with
  | some (.bm j) => some j
  | _ => none
noncomputable def pBadd (i : Nat) (p : List Slot → Option V) : PS := fun ρ => (getbm i ρ).bind fun j => (getown j ρ).bind fun l => (p ρ).bind fun v => if l.length < 4096 ∧ j < i then some (.next, ρ.set j (.own (l ++ [v]))) else none
theorem st_badd (ok : ActOK X) (i : Nat) {x : Str} {e1 : Expr} {px pos pos2 : Pos} {p : List Slot → Option V} (hx : X.names[i]? = some x) (h1 : EvE prog w K mg mb t X n e1 p)
    (hd : (x == ("__debug__" : Str)) = false := by decide) (hn : (x == ("__classdict__" : Str)) = false := by decide) (hst : starEach [e1] X.env = [(false, eval e1 X.env)] := by rfl)
    (hs : swapsWith (.Call (.Name x px) [e1] [] pos) none pos2.line X.env = pure false := by rfl) :
    ExE prog w K mg mb t X n (exec (.Expr (.Call (.Name x px) [e1] [] pos) pos2) X.env) (pBadd i p) := .mk fun A ρ B s Q E f ρ' hr h e k => by
  obtain ⟨j, ej, e⟩ := Option.bind_eq_some_iff.mp e
  obtain ⟨l, el, e⟩ := Option.bind_eq_some_iff.mp e
  obtain ⟨v, ev, e⟩ := Option.bind_eq_some_iff.mp e
  split at e
  · rename_i hz
    cases e
    have hi : ρ[i]? = some (.bm j) := by
      unfold getbm at ej
      split at ej
      · rename_i q; cases ej; exact q
      · cases ej
    obtain ⟨y, hy⟩ : ∃ y, X.names[j]? = some y := by
      have := (List.getElem?_eq_some_iff.mp hx).1
      exact ⟨X.names[j], by simp⟩
    obtain ⟨ad, s1, _⟩ := id h.slots
    obtain ⟨b, o, z1, z2, z3⟩ := s1 i x _ hx hi
    obtain ⟨y1, y2, vs, y3, y4⟩ := s1 j y _ hy (getown_at el)
    have ho : o = boundApp (ad j) := z3
    subst ho
    obtain ⟨kk, plo⟩ := id y3
    refine wpAny_Expr_any ?_ (inter_false ok) hs
    refine Call_Name1 (wpAny_Name (load_var ok.fn z1 ?_ hn) hd) hst
    refine callWith_machine (a := ad j) (h1.run A ρ B s _ E v hr h ev fun val s2 B2 r2 l2 k2 v2 => ?_)
    have hb2 : s2.heap.get? b = some (boundApp (ad j)) := r2.g.sub _ _ (l2 _ _ z2)
    refine ⟨hb2, ?_⟩
    have pl2 : s2.heap.PlainList (ad j) vs.toArray := ⟨kk, k2.get plo (PlainList.ne_tab h.g.tab y3)⟩
    have va2 := y1.kp h.g.tab k2
    obtain ⟨a', vs', va', ba', pl', vrs'⟩ := r2.own hy el
    have := va'.unique va2
    injection this with this
    rw [this] at pl' va' ba'
    refine call_boundApp hb2 pl' (by rw [List.size_toArray, vrs'.length]; exact line_of (Nat.le_of_lt hz.1)) fun h' plh hs' => ?_
    have pl'' : h'.PlainList (ad j) (vs' ++ [val]).toArray := by simpa using plh
    obtain ⟨r, kt, _⟩ := r2.mutate (tk := s2.toks) hy (getown_at el) rfl (sl := .own (l ++ [v])) rfl va' (fun b o hb q => (hs'.2 b hb).trans q) ⟨ba'.1, ba'.2, _, pl'', vrs'.append (.one v2)⟩
    exact k .next _ B2 r l2 ((k2.go h.g.tab).trans (Go.heap r2.g.tab kt)) trivial
  · cases e
end
end Mine
end

section
namespace Mine
open PySem PySem.Calls PySem.Spec PySem.W PyProof.Rows
set_option maxRecDepth 100000

noncomputable def BigK (K : Frag) : Prop := ∃ a o, sysModules ≤ a ∧ K.lookup a = some o

section
variable {prog : Program} {w : World} {K : Frag} {mg mb : Str → Option Value} {t : Bool} {X : Act} {n : Nat} {ρ : List Slot} {B : Pm} {s : Shared} {A : Around} {E : Value → Shared → Prop}

theorem ts_own (ok : ActOK X) (i : Nat) {x : Str} {px : Pos} (hx : X.names[i]? = some x) (hd : (x == ("__debug__" : Str)) = false := by decide) (hn : (x == ("__classdict__" : Str)) = false := by decide) :
    TsE prog w K mg mb t X n (.Name x px) (fun ρ => (getown i ρ).bind fun l => if l.length ≤ 4096 then some (!l.isEmpty) else none) := .mk fun A ρ B s Q E v hr h e k => by
  obtain ⟨l, el, e⟩ := Option.bind_eq_some_iff.mp e
  split at e
  · rename_i hl
    cases e
    obtain ⟨a, vs, va, _, pl, vrs⟩ := h.own hx el
    refine isTrue_plain (wpAny_Name (load_var ok.fn va ?_ hn) hd) (by rfl)
    refine wpAny_truthy_list pl.isList ?_ ?_
    · rw [List.size_toArray, vrs.length]; omega
    · have q : vs.toArray.isEmpty = l.isEmpty := by
        rw [List.isEmpty_toArray]
        cases vrs <;> rfl
      rw [q]; exact k _ B (h.toks _) (Le.refl B) (Kp.toks s _)
  · cases e


theorem vrs_of_get {l : List V} : ∀ {xs : List Value}, xs.length = l.length → (∀ (i : Nat) v x, l[i]? = some v → xs[i]? = some x → VR w B v x) → VRs w B l xs := by
  induction l with
  | nil => intro xs h _; cases xs with | nil => exact .nil | cons _ _ => cases h
  | cons v l ih =>
    intro xs h k
    cases xs with
    | nil => cases h
    | cons x xs => exact .cons (k 0 v x rfl rfl) (ih (by simpa using h) fun i v x a b => k (i + 1) v x a b)
theorem rng_vrs {r : Int × Int × Int} {acc : Array Value} (it : ItemsOf (fun i v => ∃ t, v = .int (r.1 + i * r.2.2) t) acc (Builtin.Range.rangeSize r.1 r.2.1 r.2.2).toNat) : VRs w B (rngV r) acc.toList := by
  refine vrs_of_get (by rw [Array.length_toList, it.1]; simp [rngV]) fun i v x hv hx => ?_
  obtain ⟨tk, rfl⟩ := it.2 i x (by simpa using hx)
  simp only [rngV, List.getElem?_map, Option.map_eq_some_iff] at hv
  obtain ⟨j, hj, rfl⟩ := hv
  have : j = i := by
    rw [List.getElem?_range] at hj
    · cases hj; rfl
    · exact (List.getElem?_eq_some_iff.mp hj).1 |> (by simpa using ·)
  subst this
  exact .int _ _
theorem ev_chain (h4 : 4 ≤ n) {e1 e2 e3 : Expr} {op1 op2 : CmpOp} {pos : Pos} {p1 p2 p3 : List Slot → Option V} (h1 : EvE prog w K mg mb t X n e1 p1) (h2 : EvE prog w K mg mb t X n e2 p2) (h3 : EvE prog w K mg mb t X n e3 p3)
    (hm : lastMarks [op1, op2] [e2, e3] = false := by with_unfolding_all rfl) :
    EvE prog w K mg mb t X n (.Compare e1 [op1, op2] [e2, e3] pos) (fun ρ => (p1 ρ).bind fun a => (p2 ρ).bind fun b => (vCmp op1 a b).bind fun c => if c then (p3 ρ).bind fun d => (vCmp op2 b d).map .bool else some (.bool false)) := .mk fun A ρ B s Q E v hr h e k => by
  obtain ⟨a, ea, e⟩ := Option.bind_eq_some_iff.mp e
  obtain ⟨b, eb, e⟩ := Option.bind_eq_some_iff.mp e
  obtain ⟨c, ec, e⟩ := Option.bind_eq_some_iff.mp e
  refine Compare_chain (h1.run A ρ B s _ E a hr h ea fun x s1 B1 r1 l1 k1 v1 => chain_link (h2.run A ρ B1 s1 _ E b hr r1 eb fun y s2 B2 r2 l2 k2 v2 => ?_)) hm
  refine cmp_ok hr h4 r2.g (v1.le l2) v2 ec fun tk => wpAny_truthy_bool ?_
  have k3 := k1.trans (k2.trans (Kp.toks s2 tk))
  have r3 := r2.toks tk
  cases c with
  | false =>
    cases e
    exact k _ _ B2 r3 (l1.trans l2) k3 (.bool _)
  | true =>
    obtain ⟨d, ed, e⟩ := Option.bind_eq_some_iff.mp e
    obtain ⟨z, ez, rfl⟩ := Option.map_eq_some_iff.mp e
    refine chain_last (h3.run A ρ B2 _ _ E d hr r3 ed fun y3 s4 B4 r4 l4 k4 v4 => ?_)
    exact cmp_ok hr h4 r4.g (v2.le l4) v4 ez fun tk => k _ _ B4 (r4.toks tk) (l1.trans (l2.trans l4)) (k3.trans (k4.trans (Kp.toks s4 tk))) (.bool _)

/-- list(range(..)) -/
theorem ev_listrange (ok : ActOK X) {fl fp pos pos2 : Pos} {e1 : Expr} {rest : List Expr} {p : List Slot → Option (List V)}
    (hxl : X.env.kindOf "list" = some .globalImplicit) (el : nsIn K mainGlobals "list" = some none)
    (hx : X.env.kindOf "range" = some .globalImplicit) (e : nsIn K mainGlobals "range" = some none) (h1 : EvL prog w K mg mb t X n (backTo pos (starEach (e1 :: rest) X.env)) p)
    (he : starEach (e1 :: rest) X.env = (false, eval e1 X.env) :: starEach rest X.env := by rfl) (hplain : (backTo pos (starEach rest X.env)).any (·.1) = false := by rfl)
    (hst : starEach [.Call (.Name "range" fp) (e1 :: rest) [] pos] X.env = [(false, eval (.Call (.Name "range" fp) (e1 :: rest) [] pos) X.env)] := by rfl) :
    EvE prog w K mg mb t X n (.Call (.Name "list" fl) [.Call (.Name "range" fp) (e1 :: rest) [] pos] [] pos2) (fun ρ => ((p ρ).bind rngOf).map fun r => .lst (rngV r)) := .mk fun A ρ B s Q E v hr h e' k => by
  obtain ⟨r, e2, rfl⟩ := Option.map_eq_some_iff.mp e'
  obtain ⟨l, ell, er⟩ := Option.bind_eq_some_iff.mp e2
  refine Call_Name1 (load_boot ok h.g hxl el (v := .type "list") (by decide) (by decide) ?_ (by decide)) hst
  refine PySem.callWith_type rfl (evalArgs_plain (Calls.spliced_cons (ev_rng (t := t) ok hr h hx e h1 ell er he hplain fun a t' u v s1 B1 r1 l1 k1 hrg _ cc hBa => Calls.spliced_nil ?_)))
  obtain ⟨c1, c2, c3⟩ := cc
  obtain ⟨sm, le⟩ := small_of c1 c2 c3
  have hsz : Builtin.Range.rangeSize r.1 r.2.1 r.2.2 = ((Builtin.Range.rangeSize r.1 r.2.1 r.2.2).toNat : Int) := rangeSize_toNat _ _ _
  refine call_list_range hr.hh hrg sm hsz (by omega) fun h' tk acc c' kp ho it => ?_
  have hf : s1.heap.get? s1.heap.objs.size = none := fresh _ (Nat.le_refl _)
  refine k _ _ _ (r1.step (t := t) (r1.g.put kp hf ho tk) (put_le (r1.g.sub.none hf)) (Kp.heap s1 tk kp) (Grow.put hf)) (l1.trans (put_le (r1.g.sub.none hf))) (k1.trans (Kp.heap s1 tk kp)) ?_
  refine .lst (vs := acc.toList) (n := c') (by rw [put_self]) ?_
  exact rng_vrs it

/-- a dict display of no pair, of one pair, as the frame's own -/
theorem SR.newd {h' : Heap} {s1 : Shared} {i : Nat} {x : Str} {l : List (Str × V)} {tk : Nat} {Q : Flow → Shared → Prop} (ok : ActOK X) (h : SR w K mg mb X ρ B s) (hk : Stable X x) (hx : X.names[i]? = some x) (hs1 : s1 = { s with heap := h', toks := tk }) {a : Addr} (hf : s.heap.get? a = none) (kp : ∀ b o, s.heap.get? b = some o → h'.get? b = some o)
    (hbig : (a == sysModules) = false) (hd : ∃ o es, h'.get? a = some o ∧ o.ExactDict ∧ (∃ n, o.data = .dict es.toArray n) ∧ VRd w B l es ∧ (l.map (·.1)).Nodup)
    (k : ∀ s', SR w K mg mb X (setS ρ i (.ownd l)) B s' → Go t s s' → Q .next s') : wpAny (model prog w) A (storeName X.env x (.ref a)) (fun _ => Q .next) E s1 := by
  subst hs1
  have r1 := h.ext kp tk
  have k1 : Kp t s { s with heap := h', toks := tk } := Kp.heap s tk kp
  refine store_var ok r1 hk fun h2 tk2 st => ?_
  refine k _ (r1.store ok hx st (.inr (.inr ⟨a, rfl, ⟨h.g.sub.none hf, h.h0fresh hf, ⟨hbig, ?_⟩, hd⟩, h.apart_fresh hf k1⟩))) ((k1.go h.g.tab).trans (Go.heap r1.g.tab (st.tab r1)))
  rintro rfl
  obtain ⟨m, o, es, ep, e, _⟩ := h.frame
  rw [e] at hf; cases hf

theorem notMod (h : SR w K mg mb X ρ B s) (hK : BigK K) : (s.heap.objs.size == sysModules) = false := by
  obtain ⟨a, o, l, e⟩ := hK
  have q := Heap.lt_size (h.g.sub _ _ (h.g.stat.inB _ _ e))
  rw [beq_eq_false_iff_ne]
  exact Nat.ne_of_gt (Nat.lt_of_le_of_lt l q)

noncomputable def pNewd0 (i : Nat) : PS := fun ρ => some (.next, setS ρ i (.ownd []))
theorem st_newd0 (ok : ActOK X) (i : Nat) {x : Str} {pe px pos : Pos} (hx : X.names[i]? = some x) (hk : Stable X x) (hM : BigK K) :
    ExE prog w K mg mb t X n (exec (.Assign [.Name x px] (.Dict [] [] pe) pos) X.env) (pNewd0 i) := .mk fun A ρ B s Q E f ρ' hr h e k => by
  cases e
  refine wpAny_Assign_Name (wpAny_Dict_empty ?_) rfl
  refine SR.newd (t := t) (tk := s.toks) (h' := s.heap.push { cls := .type "dict", data := .dict #[] }) ok h hk hx rfl (fresh _ (Nat.le_refl _)) (fun _ _ e => Heap.get?_push_of_some _ e) (notMod h hM) ⟨_, [], Heap.get?_push_size _ rfl, ⟨rfl, rfl, rfl⟩, ⟨0, rfl⟩, .nil, by simp⟩ fun s' r g => ?_
  exact k .next s' B r (Le.refl B) g trivial

theorem dict1 {k0 : Str} {v : V} {x : Value} {h' : Heap} {a : Addr} (vr : VR w B v x) (hd : h'.DictOf (strKind prog w) a (merged [] [(k0, x)])) :
    ∃ o es, h'.get? a = some o ∧ o.ExactDict ∧ (∃ n, o.data = .dict es.toArray n) ∧ VRd w B [(k0, v)] es ∧ ([(k0, v)].map (·.1)).Nodup :=
  dictOf_vrd (kvs := [(k0, x)]) hd (.cons vr .nil)

/-- an object on nobody's account is turned -/
theorem SR.side {a : Addr} {h' : Heap} {tk : Nat} (h : SR w K mg mb X ρ B s) (hs : ∀ b o, b ≠ a → s.heap.get? b = some o → h'.get? b = some o) (hB : B a = none) (hh0 : X.h0.get? a = none) (hT : a ≠ tbA) (hL : a ≠ X.env.locals) (hC : ∀ y, X.env.cells.lookup y ≠ some a)
    (ap : Apart X ρ s X.names.length a) : SR w K mg mb X ρ B { s with heap := h', toks := tk } ∧ Go t s { s with heap := h', toks := tk } ∧ (∀ y v, VarAt X.env s.heap y v → VarAt X.env h' y v) := by
  have var : ∀ y v, VarAt X.env s.heap y v → VarAt X.env h' y v := by
    intro y v hv
    rcases hv with ⟨q1, m, q2, q3⟩ | ⟨q1, c, q2, o, q3, q4⟩
    · exact .inl ⟨q1, m, q2.at' fun o e => hs _ o hL.symm e, q3⟩
    · exact .inr ⟨q1, c, q2, o, hs _ o (fun q => hC y (q ▸ q2)) q3, q4⟩
  have kt : ∀ o, s.heap.get? tbA = some o → h'.get? tbA = some o := fun o e => hs _ o hT.symm e
  refine ⟨⟨⟨fun b o e => hs b o (fun q => by subst q; rw [hB] at e; cases e) (h.g.sub b o e), h.g.stat, h.g.tabB, h.g.tab.keep kt⟩, fun b o hb e => hs b o (fun q => by subst q; rw [hh0] at e; cases e) (h.keep b o hb e), h.grow, h.mono, ?_, h.frameB, h.cellB, ?_, ?_⟩, Go.heap h.g.tab kt, var⟩
  · obtain ⟨m, hm⟩ := h.frame
    exact ⟨m, hm.at' fun o e => hs _ o hL.symm e⟩
  · intro y c hc
    obtain ⟨v, o, e, d⟩ := h.cellLive y c hc
    exact ⟨v, o, hs _ o (fun q => hC y (q ▸ hc)) e, d⟩
  · obtain ⟨ad, h1, h2⟩ := h.slots
    refine ⟨ad, fun j y sb hy e => ?_, h2⟩
    have zj := h1 j y sb hy e
    have hlj : j < X.names.length := (List.getElem?_eq_some_iff.mp hy).1
    cases sb with
    | unb => trivial
    | val v => obtain ⟨val, q1, q2⟩ := zj; exact ⟨val, var _ _ q1, q2⟩
    | own l =>
      obtain ⟨q1, q2, vs, q3, q4⟩ := zj
      have : ad j ≠ a := ap j _ y e rfl (by omega) hy _ q1
      exact ⟨var _ _ q1, q2, vs, q3.at fun o e => hs _ o this e, q4⟩
    | ownd l =>
      obtain ⟨q1, q2, qq, o, es, q3, q4, q5, q6, q7⟩ := zj
      have : ad j ≠ a := ap j _ y e rfl (by omega) hy _ q1
      exact ⟨var _ _ q1, q2, qq, o, es, hs _ o this q3, q4, q5, q6, q7⟩
    | bm k => obtain ⟨b, o, q1, q2, q3⟩ := zj; exact ⟨b, o, var _ _ q1, q2, q3⟩

/-- evaluated with the heap as it stood -/
noncomputable def EvC' (prog : Program) (w : World) (K : Frag) (mg mb : Str → Option Value) (X : Act) (e : Expr) (p : List Slot → Option V) : Prop :=
  ∀ (A : Around) (ρ : List Slot) (B : Pm) (s : Shared) (Q E : Value → Shared → Prop) (v : V),
    A.handled = none → SR w K mg mb X ρ B s → p ρ = some v → (∀ val tk, VR w B v val → Q val { s with toks := tk }) →
    wpAny (model prog w) A (eval e X.env) Q E s
structure EvC (prog : Program) (w : World) (K : Frag) (mg mb : Str → Option Value) (X : Act) (e : Expr) (p : List Slot → Option V) : Prop where
  run : EvC' prog w K mg mb X e p
/-- evaluated, and only new objects are named -/
noncomputable def EvG' (prog : Program) (w : World) (K : Frag) (mg mb : Str → Option Value) (t : Bool) (X : Act) (n : Nat) (e : Expr) (p : List Slot → Option V) : Prop :=
  ∀ (A : Around) (ρ : List Slot) (B : Pm) (s : Shared) (Q E : Value → Shared → Prop) (v : V),
    Room n A → SR w K mg mb X ρ B s → p ρ = some v →
    (∀ val s' B', SR w K mg mb X ρ B' s' → Le B B' → Kp t s s' → Grow B B' s → VR w B' v val → Q val s') →
    wpAny (model prog w) A (eval e X.env) Q E s
structure EvG (prog : Program) (w : World) (K : Frag) (mg mb : Str → Option Value) (t : Bool) (X : Act) (n : Nat) (e : Expr) (p : List Slot → Option V) : Prop where
  run : EvG' prog w K mg mb t X n e p
theorem EvC.g {e : Expr} {p : List Slot → Option V} (h : EvC prog w K mg mb X e p) : EvG prog w K mg mb t X n e p := .mk fun A ρ B s Q E v hr hs e k =>
  h.run A ρ B s Q E v hr.hh hs e fun val tk vr => k val _ B (hs.toks tk) (Le.refl B) (Kp.toks s tk) (fun _ _ q => .inl q) vr
theorem EvC.e {e : Expr} {p : List Slot → Option V} (h : EvC prog w K mg mb X e p) : EvE prog w K mg mb t X n e p := .mk fun A ρ B s Q E v hr hs e k =>
  h.run A ρ B s Q E v hr.hh hs e fun val tk vr => k val _ B (hs.toks tk) (Le.refl B) (Kp.toks s tk) vr
theorem evc_name (ok : ActOK X) (i : Nat) {x : Str} {pos : Pos} (hx : X.names[i]? = some x) (hd : (x == ("__debug__" : Str)) = false := by decide) (hn : (x == ("__classdict__" : Str)) = false := by decide) :
    EvC prog w K mg mb X (.Name x pos) (getv i) := .mk fun A ρ B s Q E v _ h e k => by
  obtain ⟨val, a, b⟩ := h.var hx e
  exact wpAny_Name (load_var ok.fn a (k val s.toks b) hn) hd
theorem evc_int {i : Int} {k' : Nat} {pos : Pos} : EvC prog w K mg mb X (.Constant (.int i) k' pos) (fun _ => some (.int i)) := .mk fun A ρ B s Q E v _ h e k => by
  cases e
  exact wpAny_Constant_int (k _ _ (.int _ _))
theorem evc_str {x : Str} {k' : Nat} {pos : Pos} : EvC prog w K mg mb X (.Constant (.str x) k' pos) (fun _ => some (.str x)) := .mk fun A ρ B s Q E v _ h e k => by
  cases e
  exact wpAny_Constant_str (k _ _ (.str _ _))
theorem evc_idx {e1 e2 : Expr} {pos : Pos} {p1 p2 : List Slot → Option V} (h1 : EvC prog w K mg mb X e1 p1) (h2 : EvC prog w K mg mb X e2 p2)
    (hs : ∀ o i, subscripted e2 false o i = operate [o, i] (getItem o i) := by intro _ _; with_unfolding_all rfl) :
    EvC prog w K mg mb X (.Subscript e1 e2 pos) (fun ρ => (p1 ρ).bind fun a => (p2 ρ).bind fun b => vIdx a b) := .mk fun A ρ B s Q E v hr h e k => by
  obtain ⟨a, ea, e⟩ := Option.bind_eq_some_iff.mp e
  obtain ⟨b, eb, e⟩ := Option.bind_eq_some_iff.mp e
  refine Subscript_ (h1.run A ρ B s _ E a hr h ea fun x tk1 v1 => h2.run A ρ B _ _ E b hr (h.toks tk1) eb fun y tk2 v2 => ?_)
  exact idx_ok ((h.toks tk1).toks tk2).g v1 v2 e (fun val tk vr => k val tk vr) hs
theorem evg_call1 (ok : ActOK X) {x : Str} {fv : Addr} {m : Nat} {pf : List V → Option V} {fp pos : Pos} {e1 : Expr} {p : List Slot → Option V} (hf : FnE prog w K mg mb t fv m pf) (hm : m ≤ n)
    (hx : X.env.kindOf x = some .globalImplicit) (e : nsIn K mainGlobals x = some (some (.ref fv))) (hk : keepIn K (.ref fv) = true) (h1 : EvC prog w K mg mb X e1 p)
    (hd : (x == ("__debug__" : Str)) = false := by decide) (he : backTo pos (starEach [e1] X.env) = [(false, eval e1 X.env)] := by rfl) (he2 : starEach [e1] X.env = (false, eval e1 X.env) :: starEach [] X.env := by rfl) (hplain : (backTo pos (starEach [] X.env)).any (·.1) = false := by rfl) :
    EvG prog w K mg mb t X n (.Call (.Name x fp) [e1] [] pos) (fun ρ => (p ρ).bind fun v => pf [v]) := .mk fun A ρ B s Q E v hr h e' k => by
  obtain ⟨l, el, ef⟩ := Option.bind_eq_some_iff.mp e'
  refine Call_Name rfl (load_glob ok h.g hx e ?_ hd)
  refine callWith_K (h₀ := s.heap) (statH h.g).inK hk ?_ he2 hplain
  rw [he]
  refine Calls.spliced_cons (h1.run A ρ B s _ E l hr.hh h el fun val tk v1 => Calls.spliced_nil ⟨(statH (h.toks tk).g).inK, ?_⟩)
  exact hf A [l] [val] B _ Q E v (hr.le hm) (h.toks tk).g (.one v1) ef fun val s' B' g' l' kp gr vr => k val s' B' ((h.toks tk).step (t := t) g' l' kp gr) l' ((Kp.toks s tk).trans kp) gr vr

/-- {k: v} evaluated -/
theorem dict1_ev {ke ve : Expr} {pe : Pos} {pk pv : List Slot → Option V} (h1 : EvC prog w K mg mb X ke pk) (h2 : EvG prog w K mg mb t X n ve pv) {Q : Value → Shared → Prop} (hr : Room n A) (h : SR w K mg mb X ρ B s) {k0 : Str} {v : V} (ek : pk ρ = some (.str k0)) (ev : pv ρ = some v) (hM : BigK K)
    (k : ∀ s1 B1 a, SR w K mg mb X ρ B1 s1 → Le B B1 → Go t s s1 → B1 a = none → X.h0.get? a = none → ((a == sysModules) = false ∧ a ≠ X.env.locals) → (∀ i, Apart X ρ s1 i a) →
      (∃ o es, s1.heap.get? a = some o ∧ o.ExactDict ∧ (∃ n, o.data = .dict es.toArray n) ∧ VRd w B1 [(k0, v)] es ∧ ([(k0, v)].map (·.1)).Nodup) → Kp t s s1 → s.heap.get? a = none → Q (.ref a) s1) :
    wpAny (model prog w) A (eval (.Dict [some ke] [ve] pe) X.env) Q E s := by
  have hf : s.heap.get? s.heap.objs.size = none := fresh _ (Nat.le_refl _)
  have kp : ∀ b o, s.heap.get? b = some o → (s.heap.push { cls := .type "dict", data := .dict #[] }).get? b = some o := fun _ _ e => Heap.get?_push_of_some _ e
  have r0 := h.drop (o := { cls := .type "dict", data := .dict #[] })
  have k0' : Kp t s { s with heap := s.heap.push { cls := .type "dict", data := .dict #[] } } := Kp.heap s s.toks kp
  have ho : (s.heap.push { cls := .type "dict", data := .dict #[] }).get? s.heap.objs.size = some { cls := .type "dict", data := .dict #[] } := Heap.get?_push_size _ rfl
  have hT : s.heap.objs.size ≠ tbA := by
    obtain ⟨ps, e, _⟩ := h.g.tab
    intro q; rw [q, e] at hf; cases hf
  have hL : s.heap.objs.size ≠ X.env.locals := by
    obtain ⟨m, o, es, ep, e, _⟩ := h.frame
    intro q; rw [q, e] at hf; cases hf
  have hC : ∀ y, X.env.cells.lookup y ≠ some s.heap.objs.size := fun y q => by
    obtain ⟨v, o, e, d⟩ := h.cellLive y _ q
    rw [e] at hf; cases hf
  refine wpAny_Dict_walk (knd := strKind prog w) rfl rfl (by simp) (by simp) ?_
  refine evalPairs_cons (h1.run A ρ B _ _ E _ hr.hh r0 ek fun kv tk1 v1 => ?_)
  have r1 := r0.toks tk1
  cases v1 with
  | str _ tk0 =>
    refine wpAny_bind (h2.run A ρ B _ _ E v hr r1 ev fun vv s2 B2 r2 l2 k2 gr v2 => ?_)
    refine wpAny_bind (wpAny_standAt (wpAny_pure (evalPairs_nil ?_)))
    have ha2 : s2.heap.get? s.heap.objs.size = some { cls := .type "dict", data := .dict #[] } := k2.get ho hT
    have kk : Kp t s s2 := k0'.trans ((Kp.toks _ tk1).trans k2)
    have hB2 : B2 s.heap.objs.size = none := by
      cases q : B2 s.heap.objs.size with
      | none => rfl
      | some o =>
        exfalso
        rcases gr _ o q with z | z
        · rw [h.g.sub.none hf] at z; cases z
        · have z : (s.heap.push { cls := .type "dict", data := .dict #[] }).get? s.heap.objs.size = none := z
          rw [ho] at z; cases z
    refine ⟨[(k0, vv)], ⟨strKind_is prog w k0 tk0, rfl, trivial⟩, ⟨_, #[], 0, ha2, ⟨rfl, rfl, rfl⟩, rfl, (fun e he => by simp at he), .nil, by simp⟩, fun h' hd hs => ?_⟩
    have ap : ∀ i, Apart X ρ s2 i s.heap.objs.size := fun i => h.apart_fresh hf kk
    obtain ⟨r3, g3, var3⟩ := r2.side (t := t) (tk := s2.toks + [(Value.str k0 tk0, vv)].length) (fun b o hb e => hs.extBut b o hb e) hB2 (h.h0fresh hf) hT hL hC (ap _)
    refine k _ B2 _ r3 l2 ((kk.go h.g.tab).trans g3) hB2 (h.h0fresh hf) ⟨notMod h hM, hL⟩ (fun i j sb y e0 os hne hy b hb => ?_) (dict1 v2 hd) ⟨kk.os, fun b o hb e => ?_, fun q => ?_, kk.bare⟩ hf
    · obtain ⟨ad, q1, _⟩ := r2.slots
      have z := q1 j y sb hy e0
      have z1 : VarAt X.env s2.heap y (.ref (ad j)) := by
        cases sb with
        | own l => exact z.1
        | ownd l => exact z.1
        | _ => cases os
      have := (var3 _ _ z1).unique hb
      injection this with this
      rw [← this]
      exact ap i j sb y e0 os hne hy _ z1
    · exact hs.extBut b o (fun q => by rw [q] at e; rw [hf] at e; cases e) (kk.keep b o hb e)
    · obtain ⟨h5, t5, e5⟩ := kk.small q
      exact ⟨h', _, by rw [e5]⟩
end
end Mine
end

section
namespace Mine
open PySem PySem.Calls PySem.Spec PySem.W PyProof.Rows
set_option maxRecDepth 100000

noncomputable def vStore (l : List (Str × V)) (k : Str) (v : V) : List (Str × V) :=
  if l.any (fun p => p.1 = k) then l.map (fun p => if p.1 = k then (p.1, v) else p) else l ++ [(k, v)]

section
variable {prog : Program} {w : World} {K : Frag} {mg mb : Str → Option Value} {t : Bool} {X : Act} {n : Nat} {ρ : List Slot} {B : Pm} {s : Shared} {A : Around} {E : Value → Shared → Prop}

theorem VRk.any {l : List (Str × V)} {kvs : List (Str × Value)} (h : VRk w B l kvs) (k : Str) : (kvs.any fun p => p.1 = k) = (l.any fun p => p.1 = k) := by
  have := congrArg (List.any · (fun p : Str => decide (p = k))) h.keys
  rw [List.any_map, List.any_map] at this
  exact this
theorem VRk.mapSet {k : Str} {v : V} {x : Value} (vr : VR w B v x) : ∀ {l : List (Str × V)} {kvs : List (Str × Value)}, VRk w B l kvs → VRk w B (l.map (fun p => if p.1 = k then (p.1, v) else p)) (kvs.map (fun p => if p.1 = k then (p.1, x) else p))
  | _, _, .nil => .nil
  | _, _, .cons (k := k') h r => by
    simp only [List.map_cons]
    split
    · exact .cons vr (VRk.mapSet vr r)
    · exact .cons h (VRk.mapSet vr r)
theorem VRk.append {l l' : List (Str × V)} {kvs kvs' : List (Str × Value)} (h : VRk w B l kvs) (h' : VRk w B l' kvs') : VRk w B (l ++ l') (kvs ++ kvs') := by
  induction h with
  | nil => exact h'
  | cons a _ ih => exact .cons a ih
theorem VRk.stored {l : List (Str × V)} {kvs : List (Str × Value)} {k : Str} {v : V} {x : Value} (h : VRk w B l kvs) (vr : VR w B v x) : VRk w B (vStore l k v) (stored kvs k x) := by
  unfold vStore PySem.stored
  rw [h.any k]
  split
  · exact h.mapSet vr
  · exact h.append (.cons vr .nil)

theorem SR.ownd {i : Nat} {x : Str} {l : List (Str × V)} (h : SR w K mg mb X ρ B s) (hx : X.names[i]? = some x) (e : getownd i ρ = some l) : ∃ a o es, VarAt X.env s.heap x (.ref a) ∧ (B a = none ∧ X.h0.get? a = none) ∧ ((a == sysModules) = false ∧ a ≠ X.env.locals) ∧ s.heap.get? a = some o ∧ o.ExactDict ∧ (∃ n, o.data = .dict es.toArray n) ∧ VRd w B l es ∧ (l.map (·.1)).Nodup := by
  obtain ⟨ad, h1, _⟩ := h.slots
  obtain ⟨a, b, c, o, es, d⟩ := h1 i x _ hx (getownd_at e)
  exact ⟨ad i, o, es, a, b, c, d⟩

noncomputable def pNewd1 (i : Nat) (pk pv : List Slot → Option V) : PS := fun ρ => (pk ρ).bind fun k => (pv ρ).bind fun v => match k with
  | .str k => some (.next, setS ρ i (.ownd [(k, v)]))
  | _ => none
theorem st_newd1 (ok : ActOK X) (i : Nat) {x : Str} {ke ve : Expr} {pe px pos : Pos} {pk pv : List Slot → Option V} (hx : X.names[i]? = some x) (hk : Stable X x) (hM : BigK K) (h1 : EvC prog w K mg mb X ke pk) (h2 : EvG prog w K mg mb t X n ve pv) :
    ExE prog w K mg mb t X n (exec (.Assign [.Name x px] (.Dict [some ke] [ve] pe) pos) X.env) (pNewd1 i pk pv) := .mk fun A ρ B s Q E f ρ' hr h e k => by
  obtain ⟨kv, ek, e⟩ := Option.bind_eq_some_iff.mp e
  obtain ⟨v, ev, e⟩ := Option.bind_eq_some_iff.mp e
  cases kv with
  | str k0 =>
    cases e
    refine wpAny_Assign_Name (dict1_ev (t := t) h1 h2 hr h ek ev hM fun s1 B1 a r1 l1 g1 hB hh hn ap hd _ _ => ?_) rfl
    refine store_var ok r1 hk fun h' tk st => ?_
    exact k .next _ B1 (r1.store ok hx st (.inr (.inr ⟨a, rfl, ⟨hB, hh, hn, hd⟩, ap i⟩))) l1 (g1.trans (Go.heap r1.g.tab (st.tab r1))) trivial
  | _ => cases e

noncomputable def pSetd (i : Nat) (pk pv : List Slot → Option V) : PS := fun ρ => (pv ρ).bind fun v => (pk ρ).bind fun k => (getownd i ρ).bind fun l => match k with
  | .str k => if l.length < 4096 then some (.next, ρ.set i (.ownd (vStore l k v))) else none
  | _ => none
theorem st_setd (ok : ActOK X) (i : Nat) {x : Str} {ie ve : Expr} {ps px pos : Pos} {pk pv : List Slot → Option V} (hx : X.names[i]? = some x) (h1 : EvE prog w K mg mb t X n ve pv) (h2 : EvE prog w K mg mb t X n ie pk)
    (hd : (x == ("__debug__" : Str)) = false := by decide) (hn : (x == ("__classdict__" : Str)) = false := by decide)
    (hs : swapsWith ve (some (.Subscript (.Name x px) ie ps)) pos.line X.env = pure false := by rfl) :
    ExE prog w K mg mb t X n (exec (.Assign [.Subscript (.Name x px) ie ps] ve pos) X.env) (pSetd i pk pv) := .mk fun A ρ B s Q E f ρ' hr h e k => by
  obtain ⟨v, ev, e⟩ := Option.bind_eq_some_iff.mp e
  obtain ⟨kv, ek, e⟩ := Option.bind_eq_some_iff.mp e
  obtain ⟨l, el, e⟩ := Option.bind_eq_some_iff.mp e
  cases kv with
  | str k0 =>
    dsimp only at e
    split at e
    · rename_i hz
      cases e
      refine wpAny_Assign_Subscript (h1.run A ρ B s _ E v hr h ev fun val s1 B1 r1 l1 k1 v1 => ?_) hs
      obtain ⟨a, o, es, va, _⟩ := r1.ownd hx el
      refine wpAny_Name (load_var ok.fn va ?_ hn) hd
      refine h2.run A ρ B1 s1 _ E _ hr r1 ek fun kval s2 B2 r2 l2 k2 v2 => ?_
      cases v2 with
      | str _ tk0 =>
        obtain ⟨a', o', es', va', ba', na', ho', hx', hd', hv', hnd'⟩ := r2.ownd hx el
        have := (va.kp r1.g.tab k2).unique va'
        injection this with this
        subst this
        obtain ⟨kvs, p, q⟩ := vrd_to prog hv'
        refine wpAny_setItem_pairs (strKind_is prog w k0 tk0) (vrd_dictOf hv' p q hnd' ho' hx' hd') (fun h' hdo hsb => ?_) (by rw [q.length]; exact line_of (Nat.le_of_lt hz))
        obtain ⟨r, kt, _⟩ := r2.mutate (tk := s2.toks + 1) hx (getownd_at el) rfl (sl := .ownd (vStore l k0 v)) rfl va' (fun b o hb q => (hsb.2 b hb).trans q) ⟨ba'.1, ba'.2, na', dictOf_vrd hdo (q.stored (v1.le l2))⟩
        exact k .next _ B2 r (l1.trans l2) (((k1.trans k2).go h.g.tab).trans (Go.heap r2.g.tab kt)) trivial
    · cases e
  | _ => cases e

noncomputable def pUpd (i : Nat) (pk pv : List Slot → Option V) : PS := fun ρ => (getownd i ρ).bind fun l => (pk ρ).bind fun k => (pv ρ).bind fun v => match k with
  | .str k => if l.length < 4096 then some (.next, ρ.set i (.ownd (vStore l k v))) else none
  | _ => none
theorem st_upd (ok : ActOK X) (i : Nat) {x : Str} {ke ve : Expr} {pe px apos pos pos2 : Pos} {pk pv : List Slot → Option V} (hx : X.names[i]? = some x) (hM : BigK K) (h1 : EvC prog w K mg mb X ke pk) (h2 : EvG prog w K mg mb t X n ve pv)
    (hd : (x == ("__debug__" : Str)) = false := by decide) (hn : (x == ("__classdict__" : Str)) = false := by decide)
    (hbase : attributeBase (.Name x px) "update" X.env (eval (.Name x px) X.env) = eval (.Name x px) X.env := by rfl)
    (hfew : ((backTo pos (starEach [.Dict [some ke] [ve] pe] X.env)).all (fun x => !x.1) && (backToKw pos (keywordEach [] X.env)).all (fun x => x.1.isSome)
      && decide (([.Dict [some ke] [ve] pe] : List Expr).length + ([] : List Keyword).length + (if ([] : List Keyword).isEmpty then 0 else 1) < 30)) = true := by rfl)
    (hline : (apos.endLine == pos.line) = true := by rfl)
    (he : backTo pos (starEach [.Dict [some ke] [ve] pe] X.env) = [(false, eval (.Dict [some ke] [ve] pe) X.env)] := by rfl)
    (hs : swapsWith (.Call (.Attribute (.Name x px) "update" apos) [.Dict [some ke] [ve] pe] [] pos) none pos2.line X.env = pure false := by rfl) :
    ExE prog w K mg mb t X n (exec (.Expr (.Call (.Attribute (.Name x px) "update" apos) [.Dict [some ke] [ve] pe] [] pos) pos2) X.env) (pUpd i pk pv) := .mk fun A ρ B s Q E f ρ' hr h e k => by
  obtain ⟨l, el, e⟩ := Option.bind_eq_some_iff.mp e
  obtain ⟨kv, ek, e⟩ := Option.bind_eq_some_iff.mp e
  obtain ⟨v, ev, e⟩ := Option.bind_eq_some_iff.mp e
  cases kv with
  | str k0 =>
    dsimp only at e
    split at e
    · rename_i hz
      cases e
      obtain ⟨a, o, es, va, ba, na, ho, hx2, ⟨nn, hd2⟩, hv, hnd⟩ := h.ownd hx el
      refine wpAny_Expr_any ?_ (inter_false ok) hs
      refine wpAny_Call_method_lateS hbase hfew hline (wpAny_Name (load_var ok.fn va ?_ hn) hd)
      refine ⟨"dict", "dict.update", PySem.F.plainAttrs_dict, PySem.F.slot_dict_update, PySem.F.type_dict_update, ⟨_, ho, hx2.1⟩, (fun b q => by cases q; exact ⟨_, ho, hx2.2.1⟩), ?_⟩
      rw [he]
      refine callWith_builtin rfl (evalArgs_plain (Calls.spliced_cons (dict1_ev (t := t) h1 h2 hr h ek ev hM fun s2 B2 b r2 l2 g2 hB hh hnb ap hdd kp2 hbf => Calls.spliced_nil ?_)))
      obtain ⟨a', o', es', va', ba', na', ho', hx', hd', hv', hnd'⟩ := r2.ownd hx el
      have := (va.kp h.g.tab kp2).unique va'
      injection this with this
      subst this
      obtain ⟨kvs, p, q⟩ := vrd_to prog hv'
      obtain ⟨o3, es3, ho3, hx3, hd3, hv3, hn3⟩ := hdd
      obtain ⟨kvs3, p3, q3⟩ := vrd_to prog hv3
      have hab : a ≠ b := fun q => by rw [q, hbf] at ho; cases ho
      have hkvs3 : ∃ xx, kvs3 = [(k0, xx)] ∧ VR w B2 v xx := by
        cases q3 with
        | cons a1 a2 => cases a2; exact ⟨_, rfl, a1⟩
      obtain ⟨xx, rfl, vrx⟩ := hkvs3
      refine call_meetsIn PySem.F.slot_dict_update ⟨_, ho', hx'.1⟩ PySem.F.entry_dict_update (PySem.F.args_dict_update_2 _ _) (meets_dict_update (strKind prog w) a b hab hnb.1)
        ⟨kvs, [(k0, xx)], vrd_dictOf hv' p q hnd' ho' hx' hd', vrd_dictOf hv3 p3 q3 hn3 ho3 hx3 hd3, by rw [q.length]; simp; exact Nat.le_trans (Nat.succ_le_of_lt hz) (line_of (Nat.le_refl _)), fun h' hdo _ hsb => ?_⟩
      obtain ⟨r, kt, _⟩ := r2.mutate (tk := s2.toks) hx (getownd_at el) rfl (sl := .ownd (vStore l k0 v)) rfl va' (fun b o hb q => (hsb.2 b hb).trans q) ⟨ba'.1, ba'.2, na', dictOf_vrd hdo (q.stored vrx)⟩
      exact k .next _ B2 r l2 (g2.trans (Go.heap r2.g.tab kt)) trivial
    · cases e
  | _ => cases e
end
end Mine
end

section
namespace Mine
open PySem PySem.Calls PySem.Spec PySem.W PyProof.Rows
set_option maxRecDepth 100000

theorem cells_isSome : ∀ (names : List (Str × NameKind)) (n : Nat) (acc : List (Str × Addr)) (x : Str), (names.lookup x = some .cell ∨ (acc.lookup x).isSome = true) → ((cellsFrom n names acc).lookup x).isSome = true
  | [], n, acc, x, h => by
    rcases h with h | h
    · cases h
    · exact h
  | (y, kd) :: r, n, acc, x, h => by
    unfold cellsFrom
    by_cases q : x = y
    · subst q
      rcases h with h | h
      · rw [List.lookup_cons_self] at h
        cases h
        exact cells_isSome r _ _ x (.inr (by simp [List.lookup_cons]))
      · split
        · exact cells_isSome r _ _ x (.inr (by simp [List.lookup_cons]))
        · exact cells_isSome r _ _ x (.inr h)
    · have qb : (x == y) = false := beq_eq_false_iff_ne.mpr q
      rcases h with h | h
      · rw [List.lookup_cons, qb] at h
        split
        · exact cells_isSome r _ _ x (.inl h)
        · exact cells_isSome r _ _ x (.inl h)
      · split
        · exact cells_isSome r _ _ x (.inr (by rw [List.lookup_cons, qb]; exact h))
        · exact cells_isSome r _ _ x (.inr h)

theorem bindL_off (kd : Str → Option NameKind) (x : Str) : ∀ (binds : List (Str × Value)) (m : Str → Option Value), x ∉ binds.map (·.1) → bindL kd binds m x = m x
  | [], m, _ => rfl
  | (n, v) :: r, m, h => by
    simp only [List.map_cons, List.mem_cons, not_or] at h
    unfold bindL
    rw [bindL_off kd x r _ h.2]
    split
    · simp [h.1]
    · rfl
theorem bindL_at (kd : Str → Option NameKind) (x : Str) (v : Value) (hk : kd x = some .local) : ∀ (binds : List (Str × Value)) (m : Str → Option Value), (binds.map (·.1)).Nodup → (x, v) ∈ binds → bindL kd binds m x = some v
  | (n, v0) :: r, m, hn, h => by
    simp only [List.map_cons, List.nodup_cons] at hn
    unfold bindL
    rcases List.mem_cons.mp h with h | h
    · cases h
      rw [if_pos hk, bindL_off kd x r _ hn.1]
      simp
    · exact bindL_at kd x v hk r _ hn.2 h
theorem bindC_off (kd : Str → Option NameKind) (x : Str) : ∀ (binds : List (Str × Value)) (m : Str → Option Value), x ∉ binds.map (·.1) → bindC kd binds m x = m x
  | [], m, _ => rfl
  | (n, v) :: r, m, h => by
    simp only [List.map_cons, List.mem_cons, not_or] at h
    unfold bindC
    rw [bindC_off kd x r _ h.2]
    split
    · rfl
    · simp [h.1]
theorem bindC_at (kd : Str → Option NameKind) (x : Str) (v : Value) (hk : kd x ≠ some .local) : ∀ (binds : List (Str × Value)) (m : Str → Option Value), (binds.map (·.1)).Nodup → (x, v) ∈ binds → bindC kd binds m x = some v
  | (n, v0) :: r, m, hn, h => by
    simp only [List.map_cons, List.nodup_cons] at hn
    unfold bindC
    rcases List.mem_cons.mp h with h | h
    · cases h
      rw [if_neg hk, bindC_off kd x r _ hn.1]
      simp
    · exact bindC_at kd x v hk r _ hn.2 h

noncomputable def slots0 (nn : Nat) (args : List V) : List Slot := args.map .val ++ List.replicate (nn - args.length) .unb
noncomputable def pfun (nn np : Nat) (pb : PS) : List V → Option V := fun args => if args.length = np then (pb (slots0 nn args)).bind fun r => match r.1 with
  | .ret v => some v
  | _ => none else none

section
variable {prog : Program} {w : World} {K : Frag} {mg mb : Str → Option Value} {t : Bool} {n : Nat} {B : Pm} {s : Shared} {A : Around} {E : Value → Shared → Prop}

/-- the frame just made -/
theorem SR.entry {fd : FuncData} {fv : Addr} {names : List Str} {np : Nat} {args : List V} {vals : List Value} {s1 : Shared} (hnd : names.Nodup) (hnp : np ≤ names.length)
    (hgl : fd.globals = mainGlobals) (hbi : fd.builtins = builtinsNs) (hk : fd.scope.kind = .function)
    (hpk : ∀ x ∈ names.take np, fd.scope.names.lookup x = some .local ∨ fd.scope.names.lookup x = some .cell) (hl : args.length = np)
    (g : G0 K mg mb B s) (vr : VRs w B args vals)
    (I : InCallC s (callEnvC fd s.heap.objs.size fv).locals (bindL (callEnvC fd s.heap.objs.size fv).kindOf ((names.take np).zip vals) fun _ => none) (callEnvC fd s.heap.objs.size fv).cells
        (bindC (callEnvC fd s.heap.objs.size fv).kindOf ((names.take np).zip vals) fun _ => none) s1) :
    ∃ X : Act, X.env = callEnvC fd s.heap.objs.size fv ∧ X.names = names ∧ X.h0 = s.heap ∧ X.B0 = B ∧ X.st = true ∧ ActOK X ∧ SR w K mg mb X (slots0 names.length args) B s1 := by
  have hge : ∀ a, s.heap.objs.size ≤ a → s.heap.get? a = none := fun a h => fresh _ h
  have hcell : ∀ x c, (callEnvC fd s.heap.objs.size fv).cells.lookup x = some c → s.heap.objs.size < c := fun x c h => I.above x c (mem_of_lookup h)
  let X : Act := ⟨callEnvC fd s.heap.objs.size fv, names, s.heap, B, true⟩
  have ok : ActOK X := ⟨hk, hnd, hgl, hbi, hge _ (Nat.le_refl _), fun x c _ _ h => hge _ (Nat.le_of_lt (hcell x c h)), fun x c h => Nat.ne_of_gt (hcell x c h),
    fun x y c h1 h2 => name_of_addr I.apart (mem_of_lookup h1) (mem_of_lookup h2), g.sub⟩
  obtain ⟨h1, tk1, e1⟩ := I.toInCall.same
  have kp := I.toInCall.keep
  refine ⟨X, rfl, rfl, rfl, rfl, rfl, ok, ⟨?_, fun b o _ e => kp b o e, fun b o e => .inl e, Le.refl B, ⟨_, I.toInCall.ns⟩, g.sub.none (hge _ (Nat.le_refl _)), fun x c h => g.sub.none (hge _ (Nat.le_of_lt (hcell x c h))), fun x c h => ⟨_, I.cell x c h⟩, ?_⟩⟩
  · subst e1; exact g.ext kp tk1
  · refine ⟨fun _ => 0, fun i x sl hx hs => ?_, fun i j a b _ _ ea eb oa _ _ => ?_⟩
    · unfold slots0 at hs
      by_cases hi : i < args.length
      · rw [List.getElem?_append_left (by simpa using hi), List.getElem?_map] at hs
        obtain ⟨v, hv, rfl⟩ := Option.map_eq_some_iff.mp hs
        obtain ⟨val, hval, vrv⟩ := vr.get i v hv
        have hmem : (x, val) ∈ (names.take np).zip vals := by
          refine List.mem_of_getElem? (i := i) ?_
          rw [List.getElem?_zip_eq_some]
          exact ⟨by rw [List.getElem?_take_of_lt (by omega)]; exact hx, hval⟩
        have hnd' : (((names.take np).zip vals).map (·.1)).Nodup := by
          have : ((names.take np).zip vals).map (·.1) = names.take np := by
            rw [List.map_fst_zip]
            rw [vr.length, List.length_take]; omega
          rw [this]
          exact hnd.sublist (List.take_sublist _ _)
        have hxm : x ∈ names.take np := (List.of_mem_zip hmem).1
        refine ⟨val, ?_, vrv⟩
        rcases hpk x hxm with q | q
        · exact .inl ⟨q, _, I.toInCall.ns, bindL_at _ x val q _ _ hnd' hmem⟩
        · obtain ⟨c, hc⟩ := Option.isSome_iff_exists.mp (cells_isSome fd.scope.names (s.heap.objs.size + 1) [] x (.inl q))
          refine .inr ⟨.inl q, c, hc, ?_⟩
          have := I.cell x c hc
          rw [bindC_at _ x val (by show fd.scope.names.lookup x ≠ some .local; rw [q]; decide) _ _ hnd' hmem] at this
          exact this
      · rw [List.getElem?_append_right (by simpa using hi)] at hs
        have := List.mem_of_getElem? hs
        rw [List.mem_replicate] at this
        rw [this.2]; trivial
    · exfalso
      unfold slots0 at ea
      have := List.mem_of_getElem? ea
      rcases List.mem_append.mp this with q | q
      · obtain ⟨v, _, rfl⟩ := List.mem_map.mp q
        cases oa
      · rw [(List.mem_replicate.mp q).2] at oa; cases oa

theorem fn_intro {fd : FuncData} {o : Obj} {fv : Addr} (names : List Str) (np : Nat) {body : List Stmt} {pb : PS} (hKo : K.lookup fv = some o) (hdata : o.data = .func fd) (hbody : fd.body = .stmts body) (hclo : fd.closure = [])
    (hcode : codeIn K fd.code fd.qualname = true) (hgl : fd.globals = mainGlobals) (hbi : fd.builtins = builtinsNs)
    (hco : fd.scope.isCoroutine = false) (hgen : fd.scope.isGenerator = false) (hk : fd.scope.kind = .function) (hnd : names.Nodup) (hnp : np ≤ names.length)
    (hpk : ∀ x ∈ names.take np, fd.scope.names.lookup x = some .local ∨ fd.scope.names.lookup x = some .cell)
    (hbind : ∀ vals : List Value, vals.length = np → bindArgs fd ⟨vals, []⟩ = pure ((names.take np).zip vals))
    (hB : ∀ X : Act, (∃ L, X.env = callEnvC fd L fv) → X.names = names → X.st = true → ActOK X → ExE prog w K mg mb t X n (execs body X.env) pb) :
    FnE prog w K mg mb t fv (n + 1) (pfun names.length np pb) := fun A args vals B s Q E r hr g vr e k => by
  unfold pfun at e
  split at e
  · rename_i hl
    obtain ⟨⟨f, ρ'⟩, e1, e2⟩ := Option.bind_eq_some_iff.mp e
    have hlim := (statH g).lim
    have hkind : ∀ x ∈ (names.take np).zip vals, fd.scope.names.lookup x.1 = some .local ∨ (fd.scope.names.lookup x.1 = some .cell ∧ ((cellsFrom (s.heap.objs.size + 1) fd.scope.names []).lookup x.1).isSome = true) := fun x hx => by
      rcases hpk x.1 (List.of_mem_zip (show (x.1, x.2) ∈ _ from hx)).1 with q | q
      · exact .inl q
      · exact .inr ⟨q, cells_isSome _ _ _ _ (.inl q)⟩
    refine wpAny_call (codeAny_call_cells hr.here ((statH g).inK _ _ hKo) hdata hlim (codeRec_of (statH g).inK hcode) hbody (hbind vals (vr.length.trans hl)) hclo hkind (fun s1 I => ?_) hco hgen hk)
    obtain ⟨X, hX, hXn, hX0, hXB, hXS, ok, r0⟩ := SR.entry hnd hnp hgl hbi hk hpk hl g vr I
    have hbd := hB X ⟨_, hX⟩ hXn hXS ok
    rw [hX] at hbd
    refine hbd.run _ _ B s1 _ _ f ρ' (hr.deeper _) r0 e1 fun fl s' B' r' l' g' fo => ?_
    cases f with
    | ret v =>
      cases e2
      cases fl with
      | ret val =>
        refine k val s' B' r'.g l' ⟨?_, fun b o hb e => ?_, fun q => ?_, fun hg => g'.bare (by obtain ⟨h1, tk1, e1⟩ := I.toInCall.same; rw [e1]; exact hg)⟩ (fun b o e => ?_) fo
        · obtain ⟨h1, tk1, e1⟩ := I.toInCall.same
          rw [g'.os, e1]
        · by_cases hT : b = tbA
          · subst hT
            cases t with
            | true => exact (hb rfl rfl).elim
            | false => rw [g'.tab rfl]; exact I.toInCall.keep _ _ e
          · exact r'.keep b o hT (by rw [hX0]; exact e)
        · obtain ⟨h1, tk1, e1⟩ := I.toInCall.same
          obtain ⟨h2, tk2, e2⟩ := g'.small q
          exact ⟨h2, tk2, by rw [e2, e1]⟩
        · rcases r'.grow b o e with z | z
          · rw [hXB] at z; exact .inl z
          · rw [hX0] at z; exact .inr z
      | _ => exact fo.elim
    | _ => cases e2
  · cases e

theorem fn_intro2 {fd : FuncData} {o : Obj} {fv : Addr} (names : List Str) (np : Nat) {body : List Stmt} {pb : PS} (hKo : K.lookup fv = some o) (hdata : o.data = .func fd) (hbody : fd.body = .stmts body) (hclo : fd.closure = [])
    (hcode : codeIn K fd.code fd.qualname = true) (hgl : fd.globals = mainGlobals) (hbi : fd.builtins = builtinsNs)
    (hco : fd.scope.isCoroutine = false) (hgen : fd.scope.isGenerator = false) (hk : fd.scope.kind = .function) (hnd : names.Nodup) (hnp : np ≤ names.length)
    (hpk : ∀ x ∈ names.take np, fd.scope.names.lookup x = some .local ∨ fd.scope.names.lookup x = some .cell)
    (hbind : ∀ vals : List Value, vals.length = np → bindArgs fd ⟨vals, []⟩ = pure ((names.take np).zip vals))
    (hB : ∀ (h0 : Heap) (B0 : Pm) (L : Addr), ActOK ⟨callEnvC fd L fv, names, h0, B0, true⟩ → ExE prog w K mg mb t ⟨callEnvC fd L fv, names, h0, B0, true⟩ n (execs body (callEnvC fd L fv)) pb) :
    FnE prog w K mg mb t fv (n + 1) (pfun names.length np pb) :=
  fn_intro names np hKo hdata hbody hclo hcode hgl hbi hco hgen hk hnd hnp hpk hbind fun X hX hn hS ok => by
    obtain ⟨env, nms, h0, B0, st⟩ := X
    cases hS
    obtain ⟨L, rfl⟩ := hX
    cases hn
    exact hB h0 B0 L ok
end
end Mine
end

section
namespace Mine
open PySem PySem.Calls PySem.Spec PySem.W PyProof.Rows
set_option maxRecDepth 100000

theorem sub_str_str : isSubtype (.type "str") (.type "str") = pure true := by rw [isSubtype_type]; kernel_rfl
theorem sub_tup_tup : isSubtype (.type "tuple") (.type "tuple") = pure true := by rw [isSubtype_type]; kernel_rfl
theorem ty_str_meta : typeOf (.type "str") = pure (.type "type") := by first | rfl | kernel_rfl
theorem isn_str (d : Int) (tk : Tok) : Meets (Builtin.«issubclass.nested» ⟨[.type "str", .type "str", .int d tk], []⟩) (fun _ R s => R (.ok (.ret (.bool true))) s) :=
  .of_wp fun prog w A R s hs => by
    have h1 := ty_str_meta
    have h2 := sub_str_str
    repeat (any_goals (first | assumption | (rw [h1]) | (rw [h2]) | wp_step))
    all_goals (try exact ⟨_, rfl, hs⟩)
theorem kind_isn : builtinKind "issubclass.nested" = none := by decide +kernel
theorem plain_isn : plainId "issubclass.nested" = true := by decide +kernel
theorem args_isn (a b c : Value) : argsOk "issubclass.nested" ⟨[a, b, c], []⟩ := by unfold argsOk; kernel_rfl

section
variable {prog : Program} {w : World} {A : Around} {E : Value → Shared → Prop} {s : Shared}
theorem code_isn {d : Int} {tk : Tok} {R : Result → Shared → Prop} (h : R (.ok (.ret (.bool true))) s) : codeAny (model prog w) A (.call (.builtin "issubclass.nested") ⟨[.type "str", .type "str", .int d tk], []⟩) R s := by
  refine codeAny_call_builtin plain_isn PySem.F.entry_issubclass_nested ?_
  have hfin := isn_str d tk prog w A R s h
  simp only [checkBuiltinCall, kind_isn]
  cases hsig : Manifest.signature? "issubclass.nested" with
  | none => exact wpAny_pure hfin
  | some sig =>
    have ok := args_isn (.type "str") (.type "str") (.int d tk)
    simp only [argsOk, hsig] at ok
    have h2 : Bind.checkArgs "issubclass.nested" sig ⟨[.type "str", .type "str", .int d tk], []⟩ = pure () := ok
    show wpAny _ _ (Bind.checkArgs "issubclass.nested" sig ⟨[.type "str", .type "str", .int d tk], []⟩) _ _ s
    rw [h2]; exact wpAny_pure hfin
theorem isn_tup {a : Addr} {n : Nat} {Q : Fin → Shared → Prop} (hx : s.heap.get? a = some { cls := .type "tuple", data := .seq #[.type "str", .type "bytes"] n }) (hq : Q (.done (.ret (.bool true))) s) :
    wpAny (model prog w) A (Builtin.«issubclass.nested» ⟨[.type "str", .ref a, rawInt 0], []⟩) Q E s := by
  obtain ⟨hp, g, d, tk, os⟩ := s
  have hT : (⟨hp, g, d, tk, os⟩ : Shared).TypeIs (.ref a) "tuple" := ⟨_, hx, rfl⟩
  have h2 := sub_tup_tup
  unfold Builtin.«issubclass.nested»
  repeat (any_goals (first | assumption | wp_step))
  refine code_isn ?_
  dsimp only
  repeat (any_goals (first | assumption | exact hq | wp_step))
theorem call_iss {a : Addr} {n : Nat} {Q : Value → Shared → Prop} (hx : s.heap.get? a = some { cls := .type "tuple", data := .seq #[.type "str", .type "bytes"] n }) (hq : Q (.bool true) s) :
    wpAny (model prog w) A (call (.builtin "issubclass") [.type "str", .ref a]) Q E s :=
  call_issubclass (S := fun _ R s' => s'.heap.get? a = some { cls := .type "tuple", data := .seq #[.type "str", .type "bytes"] n } ∧ R (.ok (.ret (.bool true))) s')
    (fun _ _ _ _ _ hs => issubclass_outer (isn_tup hs.1 hs.2)) ⟨hx, hq⟩
end
section
variable {prog : Program} {w : World} {K : Frag} {mg mb : Str → Option Value} {t : Bool} {X : Act} {n : Nat} {ρ : List Slot} {B : Pm} {s : Shared} {A : Around} {E : Value → Shared → Prop}
noncomputable def pf_iss : List V → Option V
  | [.typ "str", .tup [.typ "str", .typ "bytes"]] => some (.bool true)
  | _ => none
theorem co_iss : CoE prog w K mg mb (.builtin "issubclass") pf_iss := fun A args vals B s Q E r hr g va e k => by
  unfold pf_iss at e
  split at e
  · cases e
    cases va with
    | cons a b => cases b with
      | cons b c =>
        cases c; cases a
        cases b with
        | tup ha hs =>
          cases hs with
          | cons h1 h2 => cases h2 with
            | cons h2 h3 =>
              cases h3; cases h1; cases h2
              exact call_iss (g.sub _ _ ha) (k.same g (.bool _))
  · cases e
end
end Mine
end

section
namespace Mine
open PySem PySem.Calls PySem.Spec PySem.W PyProof.Rows
set_option maxRecDepth 100000
section
variable {prog : Program} {w : World} {K : Frag} {mg mb : Str → Option Value} {t : Bool} {X : Act} {n : Nat} {ρ : List Slot} {B : Pm} {s : Shared} {A : Around} {E : Value → Shared → Prop}

theorem st_try {body orelse : List Stmt} {hd : ExceptHandler} {hs : List ExceptHandler} {pos : Pos} {p q : PS} (h1 : ExE prog w K mg mb t X n (execs body X.env) p) (h2 : ExE prog w K mg mb t X n (execs orelse X.env) q) :
    ExE prog w K mg mb t X n (exec (.Try body (hd :: hs) orelse [] pos) X.env) (pSeq p q) := .mk fun A ρ B s Q E f ρ' hr h e k => by
  obtain ⟨⟨f1, ρ1⟩, e1, e2⟩ := Option.bind_eq_some_iff.mp e
  refine wpAny_Try_except (h1.run A ρ B s _ _ f1 ρ1 hr h e1 fun fl s1 B1 r1 l1 k1 fo => ?_)
  cases f1 with
  | next =>
    cases fl <;> first | exact fo.elim | skip
    exact h2.run A ρ1 B1 s1 Q E f ρ' hr r1 e2 fun fl s2 B2 r2 l2 k2 fo => k fl s2 B2 r2 (l1.trans l2) (k1.trans k2) fo
  | brk =>
    cases e2
    cases fl <;> first | exact fo.elim | exact k _ s1 B1 r1 l1 k1 fo
  | cont =>
    cases e2
    cases fl <;> first | exact fo.elim | exact k _ s1 B1 r1 l1 k1 fo
  | ret v =>
    cases e2
    cases fl <;> first | exact fo.elim | exact k _ s1 B1 r1 l1 k1 fo

noncomputable def pfunva (nn : Nat) (pb : PS) : List V → Option V
  | [u, v] => (pb (slots0 nn [u, .tup [v]])).bind fun r => match r.1 with
    | .ret v => some v
    | _ => none
  | _ => none
theorem fn_va {fd : FuncData} {o : Obj} {fv : Addr} (na nb : Str) (names : List Str) {body : List Stmt} {pb : PS} (hKo : K.lookup fv = some o) (hdata : o.data = .func fd) (hbody : fd.body = .stmts body) (hclo : fd.closure = [])
    (hcode : codeIn K fd.code fd.qualname = true) (hgl : fd.globals = mainGlobals) (hbi : fd.builtins = builtinsNs)
    (hco : fd.scope.isCoroutine = false) (hgen : fd.scope.isGenerator = false) (hk : fd.scope.kind = .function) (hnd : (na :: nb :: names).Nodup)
    (hpk : ∀ x ∈ [na, nb], fd.scope.names.lookup x = some .local ∨ fd.scope.names.lookup x = some .cell)
    (hbind : ∀ x y : Value, bindArgs fd ⟨[x, y], []⟩ = (newTuple [y] >>= fun t => pure [(na, x), (nb, t)]))
    (hB : ∀ (h0 : Heap) (B0 : Pm) (L : Addr), ActOK ⟨callEnvC fd L fv, na :: nb :: names, h0, B0, true⟩ → ExE prog w K mg mb t ⟨callEnvC fd L fv, na :: nb :: names, h0, B0, true⟩ n (execs body (callEnvC fd L fv)) pb) :
    FnE prog w K mg mb t fv (n + 1) (pfunva (names.length + 2) pb) := fun A args vals B s Q E r hr g vr e k => by
  unfold pfunva at e
  split at e
  · rename_i u v
    obtain ⟨⟨f, ρ'⟩, e1, e2⟩ := Option.bind_eq_some_iff.mp e
    cases vr with
    | @cons _ x _ _ vx vr => cases vr with
      | @cons _ y _ _ vy vr =>
        cases vr
        have hf : s.heap.get? s.heap.objs.size = none := fresh _ (Nat.le_refl _)
        have kp : ∀ b o, s.heap.get? b = some o → (s.heap.push { cls := .type "tuple", data := .seq [y].toArray }).get? b = some o := fun _ _ e => Heap.get?_push_of_some _ e
        have l1 : Le B (put B s.heap.objs.size { cls := .type "tuple", data := .seq [y].toArray }) := put_le (g.sub.none hf)
        have g1 : G0 K mg mb (put B s.heap.objs.size { cls := .type "tuple", data := .seq [y].toArray }) { s with heap := s.heap.push { cls := .type "tuple", data := .seq [y].toArray } } := g.put kp hf (Heap.get?_push_size _ rfl) s.toks
        refine wpAny_call (codeAny_call_function hr.here ((statH g).inK _ _ hKo) hdata hco hgen hbody (codeRec_of (statH g).inK hcode) ?_)
        rw [hbind, hclo]
        refine wpAny_bind (wpAny_newObj_type (wpAny_pure ?_) (by size_fits))
        have hlim := (statH g1).lim
        refine wpAny_newFunctionEnv_cells (s := { s with heap := s.heap.push { cls := .type "tuple", data := .seq [y].toArray } }) hk (fun z hz => ?_) fun env he s1 I => ?_
        · have : z.1 ∈ [na, nb] := by
            simp only [List.mem_cons, List.not_mem_nil, or_false] at hz ⊢
            rcases hz with rfl | rfl
            · exact .inl rfl
            · exact .inr rfl
          rcases hpk z.1 this with q | q
          · exact .inl q
          · exact .inr ⟨q, cells_isSome _ _ _ _ (.inl q)⟩
        subst he
        refine ⟨hlim.keeps I.toInCall.keep, codeAny_func ?_⟩
        have vr1 : VRs w (put B s.heap.objs.size { cls := .type "tuple", data := .seq [y].toArray }) [u, .tup [v]] [x, .ref s.heap.objs.size] := .cons (vx.le l1) (.one (.tup put_self (.one (vy.le l1))))
        obtain ⟨X, hX, hXn, hX0, hXB, hXS, ok, r0⟩ := SR.entry (names := na :: nb :: names) (np := 2) hnd (by simp) hgl hbi hk (by simpa using hpk) rfl g1 vr1 (fv := fv) (fd := fd) I
        obtain ⟨env, nms, h0, B0, st⟩ := X
        cases hX; cases hXn; cases hX0; cases hXB; cases hXS
        refine (hB _ _ _ ok).run _ _ _ s1 _ _ f ρ' (hr.deeper _) r0 e1 fun fl s' B' r' l' g' fo => ?_
        cases f with
        | ret v =>
          cases e2
          cases fl with
          | ret val =>
            obtain ⟨h1, tk1, e1⟩ := I.toInCall.same
            refine k val s' B' r'.g (l1.trans l') ⟨by rw [g'.os, e1], fun b o hb e => ?_, fun q => ?_, fun hg => g'.bare (by rw [e1]; exact hg)⟩ (fun b o e => ?_) fo
            · by_cases hT : b = tbA
              · subst hT
                cases t with
                | true => exact (hb rfl rfl).elim
                | false => rw [g'.tab rfl]; exact I.toInCall.keep _ _ (kp _ _ e)
              · exact r'.keep b o hT (kp _ _ e)
            · obtain ⟨h2, tk2, e2⟩ := g'.small q
              exact ⟨h2, tk2, by rw [e2, e1]⟩
            · rcases r'.grow b o e with z | z
              · rcases Grow.put hf b o z with z | z
                · exact .inl z
                · exact .inr z
              · refine .inr ?_
                cases q : s.heap.get? b with
                | none => rfl
                | some o' => cases (kp b o' q).symm.trans z
          | _ => exact fo.elim
        | _ => cases e2
  · cases e
end
end Mine
end

section
namespace Mine
open PySem PySem.Calls PySem.Spec PySem.W PyProof.Rows
set_option maxRecDepth 100000
section
variable {prog : Program} {w : World} {A : Around} {E : Value → Shared → Prop} {s : Shared}

theorem nextOf_tuple_item {it l : Addr} {i : Nat} {items} {x : Value} {Q : Value → Shared → Prop} (hit : s.heap.IsTupleIter it l i)
    (hl : s.heap.IsTuple l items) (hx : items[i]? = some x)
    (hQ : ∀ h', h'.IsTupleIter it l (i + 1) → Heap.SameBut it s.heap h' → Q x { s with heap := h' }) :
    wpAny (model prog w) A (Builtin.SmallTypes.nextOf (.ref it)) Q E s := by
  obtain ⟨o, ho, hc, hd⟩ := id hit
  obtain ⟨ol, hol, _, nl, hdl⟩ := hl
  unfold Builtin.SmallTypes.nextOf
  refine wpAny_bind (wpAny_callSpecial?_slot (name := Str.ofString "__next__") hit.typeIs PySem.F.slot_tuple_iterator_next
    (wpAny_call_entry PySem.F.slot_tuple_iterator_next hit.typeIs PySem.F.entry_tuple_iterator_next ?_ (PySem.F.args_tuple_iterator_next_1 _)))
  show wpAny _ _ (field (.ref it) 0 >>= _) _ _ s
  refine wpAny_bind (wpAny_field ho hd (x := .ref l) rfl ?_)
  show wpAny _ _ (if (Value.ref l == Value.none) = true then _ else _) _ _ s
  rw [if_neg (show ¬ ((Value.ref l == Value.none) = true) from Bool.false_ne_true)]
  show wpAny _ _ (field (.ref it) 1 >>= _) _ _ s
  refine wpAny_bind (wpAny_field ho hd (x := .int i 0) rfl ?_)
  show wpAny _ _ (seqItems? (.ref l) >>= _) _ _ s
  refine wpAny_bind (wpAny_seqItems hol hdl ?_)
  simp only [Int.toNat_natCast, hx]
  refine wpAny_bind (wpAny_setField ho hd (by simp) (wpAny_pure ⟨x, rfl, wpAny_pure (hQ _ ?_ (Heap.SameBut.update ..))⟩))
  exact ⟨_, Heap.get?_update_self _ ho (Obj.isFreed_of_fields (Obj.data_mapFields hd _)), (Obj.cls_mapFields ..).trans hc, by
    rw [Obj.data_mapFields hd]; simp [rawInt]⟩

theorem nextOf_tuple_end {it l : Addr} {i : Nat} {items} {Q : Value → Shared → Prop} (hh : A.handled = none)
    (hit : s.heap.IsTupleIter it l i) (hl : s.heap.IsTuple l items) (hx : items[i]? = none)
    (hE : ∀ h' e, Heap.ExtBut it s.heap h' → (∃ o, h'.get? e = some o ∧ o.cls = .type "StopIteration") → E (.ref e) { s with heap := h' }) :
    wpAny (model prog w) A (Builtin.SmallTypes.nextOf (.ref it)) Q E s := by
  obtain ⟨o, ho, hc, hd⟩ := id hit
  obtain ⟨ol, hol, _, nl, hdl⟩ := hl
  unfold Builtin.SmallTypes.nextOf
  refine wpAny_bind (wpAny_callSpecial?_slot (name := Str.ofString "__next__") hit.typeIs PySem.F.slot_tuple_iterator_next
    (wpAny_call_entry PySem.F.slot_tuple_iterator_next hit.typeIs PySem.F.entry_tuple_iterator_next ?_ (PySem.F.args_tuple_iterator_next_1 _)))
  show wpAny _ _ (field (.ref it) 0 >>= _) _ _ s
  refine wpAny_bind (wpAny_field ho hd (x := .ref l) rfl ?_)
  show wpAny _ _ (if (Value.ref l == Value.none) = true then _ else _) _ _ s
  rw [if_neg (show ¬ ((Value.ref l == Value.none) = true) from Bool.false_ne_true)]
  show wpAny _ _ (field (.ref it) 1 >>= _) _ _ s
  refine wpAny_bind (wpAny_field ho hd (x := .int i 0) rfl ?_)
  show wpAny _ _ (seqItems? (.ref l) >>= _) _ _ s
  refine wpAny_bind (wpAny_seqItems hol hdl ?_)
  simp only [Int.toNat_natCast, hx]
  refine wpAny_bind (wpAny_rule (wpAny_bind (wpAny_setField ho hd (by simp) ?_)))
  show wpAny _ _ (newExc (.type "StopIteration") [] >>= _) _ _ _
  refine wpAny_bind ?_
  simp only [newExc, newTuple]
  refine wpAny_bind (wpAny_newObj_type ?_ (by size_fits))
  refine wpAny_bind (m := firstArgMember _ _) (wpAny_of_eq (a := Value.none) (by first | rfl | (simp only [firstArgMember]; rfl)) ?_)
  refine wpAny_newObj_type ?_ (by size_fits)
  simp only [raiseNew]
  refine wpAny_bind (wpAny_handled ?_)
  first | rw [show A.in1.handled = none from hh] | rw [hh]
  refine wpAny_bind (wpAny_pure (wpAny_throw ?_))
  exact hE _ _ (((Heap.SameBut.update ..).extBut.push _).push _) ⟨_, Heap.get?_push_size _ rfl, rfl⟩
end

theorem drawsTuple {prog : Program} {w : World} {A : Around} (hh : A.handled = none) (it l : Addr) (hne : l ≠ it) (items : Array Value) :
    Draws prog w A it [it, l] items.size (fun i v => items[i]? = some v) (fun i h => h.IsTupleIter it l i ∧ h.IsTuple l items) where
  live := fun _ _ st => let ⟨o, ho, _⟩ := st.1; ⟨o, ho⟩
  frame := fun _ _ _ st hk => ⟨st.1.at fun o e => hk it (by simp) o e, st.2.at fun o e => hk l (by simp) o e⟩
  item := fun i s Q E hi st hQ => by
    refine nextOf_tuple_item st.1 st.2 (x := items[i]) (by simp [hi]) fun h' hit' hs' => ?_
    exact hQ _ h' s.toks (by simp [hi]) ⟨hit', st.2.extBut hs'.extBut hne⟩ hs'
  done := fun s Q E st hE => nextOf_tuple_end hh st.1 st.2 (by simp) hE

open AutoSeq1 (wpAny_loadPart') in
theorem meets_enum_newT (l : Addr) (items : Array Value) (n : Nat) :
    Meets (Builtin.«enumerate.__new__» ⟨[.type "enumerate", .ref l], []⟩) (fun _ R s => s.heap.get? l = some { cls := .type "tuple", data := .seq items n } ∧
      R (.ok (.ret (.ref (s.heap.push { cls := .type "tuple_iterator", data := .fields #[.ref l, .int 0 0] }).objs.size)))
        { s with heap := (s.heap.push { cls := .type "tuple_iterator", data := .fields #[.ref l, .int 0 0] }).push { cls := .type "enumerate", data := .fields #[.none, .bool false, .ref s.heap.objs.size, rawInt 0, .none, .none] } }) :=
  .of_wp fun prog w A R s h => by
    obtain ⟨hp, g, d, tk, os⟩ := s; obtain ⟨hl, h⟩ := h
    have hsub := sub_enumerate
    have hL : Heap.IsTuple (Shared.heap ⟨hp, g, d, tk, os⟩) l items := ⟨_, hl, rfl, n, rfl⟩
    wp_walk using wpAny_loadPart' hl
    refine wpAny_stack_any fun st => wpAny_pure ?_
    split
    · rename_i c _ _ _ _ _
      cases (c == Value.type "enumerate")
      · wp_walk using wpAny_loadPart' hl, wpAny_pyIter_tuple hL
        exact ⟨_, rfl, h⟩
      · wp_walk using wpAny_loadPart' hl, wpAny_pyIter_tuple hL
        exact ⟨_, rfl, h⟩
    · wp_walk using wpAny_loadPart' hl, wpAny_pyIter_tuple hL
      exact ⟨_, rfl, h⟩

section
variable {prog : Program} {w : World} {A : Around} {E : Value → Shared → Prop} {s : Shared}
theorem call_enum_tuple {l : Addr} {items : Array Value} {n : Nat} {Q : Value → Shared → Prop} (hl : s.heap.get? l = some { cls := .type "tuple", data := .seq items n })
    (h : Q (.ref (s.heap.objs.size + 1)) { s with heap := (s.heap.push { cls := .type "tuple_iterator", data := .fields #[.ref l, .int 0 0] }).push { cls := .type "enumerate", data := .fields #[.none, .bool false, .ref s.heap.objs.size, rawInt 0, .none, .none] } }) :
    wpAny (model prog w) A (call (.type "enumerate") [.ref l]) Q E s := by
  refine callType_new PySem.F.called_enumerate (by decide) (PySem.F.typeCall_enumerate_1 _) (PySem.F.newCall_enumerate_1 _) (fun obj => PySem.F.args_object_init_2 obj _) PySem.F.entry_enumerate_new
    (meets_enum_newT l items n) ⟨hl, ?_⟩
  have hz : (s.heap.push { cls := .type "tuple_iterator", data := .fields #[.ref l, .int 0 0] }).objs.size = s.heap.objs.size + 1 := Heap.size_push ..
  show _ ∧ _
  rw [hz]
  have he := Heap.get?_push_size (s.heap.push { cls := .type "tuple_iterator", data := .fields #[.ref l, .int 0 0] })
      (o := { cls := .type "enumerate", data := .fields #[.none, .bool false, .ref s.heap.objs.size, rawInt 0, .none, .none] }) rfl
  rw [hz] at he
  exact ⟨⟨_, he, rfl⟩, h⟩
end
end Mine
end

section
namespace Mine
open PySem PySem.Calls PySem.Spec PySem.W PyProof.Rows
set_option maxRecDepth 100000

noncomputable def enumFrom : Nat → List V → List V
  | _, [] => []
  | k, v :: r => .tup [.int k, v] :: enumFrom (k + 1) r
theorem enumFrom_len : ∀ (l : List V) (k : Nat), (enumFrom k l).length = l.length
  | [], _ => rfl
  | _ :: r, k => congrArg (· + 1) (enumFrom_len r (k + 1))
theorem enumFrom_get : ∀ (l : List V) (k i : Nat) (x : V), (enumFrom k l)[i]? = some x → ∃ v, l[i]? = some v ∧ x = .tup [.int ((k + i : Nat) : Int), v]
  | [], _, _, _, h => by cases h
  | v :: r, k, 0, x, h => by cases h; exact ⟨v, rfl, rfl⟩
  | v :: r, k, i + 1, x, h => by
    obtain ⟨v', h1, h2⟩ := enumFrom_get r (k + 1) i x h
    exact ⟨v', h1, by rw [h2]; congr 4; omega⟩
noncomputable def enumV : V → Option (List V)
  | .tup l => some (enumFrom 0 l)
  | _ => none

theorem ItO_enum {o : Obj} (hc : o.cls = .type "enumerate") : ItO o := by
  refine ⟨fun d => ?_, fun a d => ?_⟩
  · rcases d with d | d | d
    · rw [hc] at d; injection d with d; exact absurd d (by decide)
    · rw [hc] at d; injection d with d; exact absurd d (by decide)
    · have d := d.1
      rw [hc] at d; injection d with d; exact absurd d (by decide)
  · have d : o = boundApp a := d
    rw [d] at hc
    have hc : Value.type "builtin_function_or_method" = .type "enumerate" := hc
    injection hc with hc; exact absurd hc (by decide)

section
variable {prog : Program} {w : World} {K : Frag} {mg mb : Str → Option Value} {t : Bool} {X : Act} {n : Nat} {ρ : List Slot} {B : Pm} {s : Shared} {A : Around} {E : Value → Shared → Prop}

theorem IterW.enum {e it l : Addr} {B₀ : Pm} {vs : List V} {items : List Value} {m : Nat} (hA : A.handled = none) (hl : B₀ l = some { cls := .type "tuple", data := .seq items.toArray m }) (hs : VRs w B₀ vs items) (he : B₀ e = none) (hit : B₀ it = none) (hei : e ≠ it) :
    IterW tupT prog w A e [e, it] B₀ (enumFrom 0 vs) (fun i h => (∃ old, IsEnum h e it i old) ∧ h.IsTupleIter it l i ∧ h.IsTuple l items.toArray)
      (fun i v h => ∃ T x, v = .ref T ∧ IsEnumOut h e it ((i : Int) + 1) x T ∧ (h.IsTupleIter it l (i + 1) ∧ h.IsTuple l items.toArray) ∧ T ≠ e ∧ T ≠ it) := by
  have hle : l ≠ e := fun q => by rw [q, he] at hl; cases hl
  have hli : l ≠ it := fun q => by rw [q, hit] at hl; cases hl
  have D := drawsTuple (prog := prog) (w := w) (A := A.in1) hA it l hli items.toArray
  have ob : ∀ h (b : Addr), (∃ o, h.get? e = some o ∧ o.cls = .type "enumerate") → (∃ i, Heap.IsTupleIter h it l i) → b ∈ [e, it] → ∃ o, h.get? b = some o ∧ ItO o := by
    intro h b h1 h2 hb
    rcases List.mem_cons.mp hb with rfl | hb
    · obtain ⟨o, ho, hc⟩ := h1
      exact ⟨o, ho, ItO_enum hc⟩
    · rw [List.mem_singleton] at hb; subst hb
      obtain ⟨i, o, ho, hc, _⟩ := h2
      exact ⟨o, ho, ItO.of hc (by decide)⟩
  refine ⟨fun i h h' st s1 s2 hk => ?_, fun i h st b hb => ?_, fun i v s Q E hv st sb k => ?_, fun i val h st b hb => ?_, fun target i val s Q E ht st sb k => ?_, fun s Q E st sb k => ?_⟩
  · obtain ⟨⟨old, st1⟩, st2, st3⟩ := st
    refine ⟨⟨old, hk e (by simp) _ st1⟩, st2.at fun o x => hk it (by simp) o x, ?_⟩
    exact ⟨_, s2 _ _ hl, rfl, _, rfl⟩
  · obtain ⟨⟨old, st1⟩, st2, st3⟩ := st
    exact ob h b ⟨_, st1, rfl⟩ ⟨i, st2⟩ hb
  · obtain ⟨⟨old, st1⟩, st2, st3⟩ := st
    obtain ⟨v0, h1, h2⟩ := enumFrom_get vs 0 i v hv
    have hlt : i < items.toArray.size := by rw [List.size_toArray, hs.length]; exact (List.getElem?_eq_some_iff.mp h1).1
    refine wpAny_pyNext_enum_itemD D st1 ⟨st2, st3⟩ hlt hei (by simp; exact ⟨hei, hle.symm⟩) fun x h' tk hP ho hs' hT hsz hk => ?_
    have hfr : s.heap.get? s.heap.objs.size = none := fresh _ (Nat.le_refl _)
    have helt : e < s.heap.objs.size := Heap.lt_size st1
    have hilt : it < s.heap.objs.size := by obtain ⟨_, y, _⟩ := st2; exact Heap.lt_size y
    have hB : B₀ s.heap.objs.size = none := sb.none hfr
    have keep : ∀ b o, b ∉ [e, it] → s.heap.get? b = some o → h'.get? b = some o := fun b o hb y => hk b o (fun q => hb (by simp [q])) (fun q => hb (by simp [q])) y
    obtain ⟨x', hx', hxr⟩ := hs.get i v0 h1
    have : items[i]? = some x := by simpa using hP
    rw [hx'] at this; cases this
    refine k (.ref s.heap.objs.size) h' _ (put B₀ s.heap.objs.size { cls := .type "tuple", data := .seq #[.int i tk, x] }) ⟨_, _, rfl, ho, hs', Nat.ne_of_gt helt, Nat.ne_of_gt hilt⟩ (put_le hB) (fun b o q => ?_) (fun b o q => ?_) ?_ keep
    · unfold put at q
      split at q
      · rename_i z; rw [z]; exact .inr ⟨hfr, by simp; exact ⟨Nat.ne_of_gt helt, Nat.ne_of_gt hilt⟩⟩
      · exact .inl q
    · unfold put at q
      split at q
      · rename_i z; cases q; rw [z]; exact hT
      · exact keep b o (fun hb => by
          rcases List.mem_cons.mp hb with rfl | hb
          · rw [he] at q; cases q
          · rw [List.mem_singleton] at hb; subst hb; rw [hit] at q; cases q) (sb b o q)
    · rw [h2]
      refine .tup (vs := [.int i tk, x]) (n := 0) (by rw [put_self]) (.cons ?_ (.one (hxr.le (put_le hB))))
      have : (((0 + i : Nat)) : Int) = (i : Int) := by simp
      rw [this]; exact .int _ _
  · obtain ⟨T, x, _, st1, st2, _⟩ := st
    exact ob h b ⟨_, st1, rfl⟩ ⟨_, st2.1⟩ hb
  · obtain ⟨T, x, rfl, st1, ⟨st2, st3⟩, hTe, hTi⟩ := st
    obtain ⟨es, c, p, rfl⟩ := ht
    refine wpAny_letOwnedTupleGo_enum st1 fun h' he' hs' => k h' ⟨⟨x, by simpa using he'⟩, st2.at fun o y => (hs'.2 _ hei.symm).trans y, st3.at fun o y => (hs'.2 _ hle).trans y⟩ fun b o hb y => ?_
    exact (hs'.2 b fun q => hb (by simp [q])).trans y
  · obtain ⟨⟨old, st1⟩, st2⟩ := st
    have hn : (enumFrom 0 vs).length = items.toArray.size := by rw [enumFrom_len, List.size_toArray, hs.length]
    rw [hn] at st1 st2
    exact wpAny_pyNext_enum_endD D st1 st2 fun h' hx => k h' s.toks fun b o hb y => hx b o (fun q => hb (by simp [q])) y

theorem it_enum (ok : ActOK X) {fp pos : Pos} {e1 : Expr} {p : List Slot → Option V}
    (hx : X.env.kindOf "enumerate" = some .globalImplicit) (e : nsIn K mainGlobals "enumerate" = some none) (h1 : EvE prog w K mg mb t X n e1 p)
    (hst : starEach [e1] X.env = [(false, eval e1 X.env)] := by rfl) :
    ItE tupT prog w K mg mb t X n (.Call (.Name "enumerate" fp) [e1] [] pos) (fun ρ => (p ρ).bind enumV) := .mk fun A ρ B s Q E vs hr h e' k => by
  obtain ⟨v, ev, e2⟩ := Option.bind_eq_some_iff.mp e'
  cases v with
  | tup l =>
    cases e2
    refine Call_Name1 (load_boot ok h.g hx e (v := .type "enumerate") (by decide) (by decide) ?_ (by decide)) hst
    refine PySem.callWith_type rfl (evalArgs_plain (Calls.spliced_cons (h1.run A ρ B s _ E _ hr h ev fun val s1 B1 r1 l1 k1 v1 => Calls.spliced_nil ?_)))
    cases v1 with
    | @tup _ a xs m ha hs =>
      refine call_enum_tuple (r1.g.sub _ _ ha) ?_
      have hf1 : s1.heap.get? s1.heap.objs.size = none := fresh _ (Nat.le_refl _)
      have kp1 : ∀ b o, s1.heap.get? b = some o → (s1.heap.push { cls := .type "tuple_iterator", data := .fields #[.ref a, .int 0 0] }).get? b = some o := fun _ _ e => Heap.get?_push_of_some _ e
      have r2 := r1.step (t := t) (r1.g.put kp1 hf1 (Heap.get?_push_size _ rfl) s1.toks) (put_le (r1.g.sub.none hf1)) (Kp.heap s1 s1.toks kp1) (Grow.put hf1)
      have hz : (s1.heap.push { cls := .type "tuple_iterator", data := .fields #[.ref a, .int 0 0] }).objs.size = s1.heap.objs.size + 1 := Heap.size_push ..
      have hf2 : (s1.heap.push { cls := .type "tuple_iterator", data := .fields #[.ref a, .int 0 0] }).get? (s1.heap.objs.size + 1) = none := fresh _ (by rw [hz]; exact Nat.le_refl _)
      have kp2 : ∀ b o, (s1.heap.push { cls := .type "tuple_iterator", data := .fields #[.ref a, .int 0 0] }).get? b = some o → ((s1.heap.push { cls := .type "tuple_iterator", data := .fields #[.ref a, .int 0 0] }).push { cls := .type "enumerate", data := .fields #[.none, .bool false, .ref s1.heap.objs.size, rawInt 0, .none, .none] }).get? b = some o := fun _ _ e => Heap.get?_push_of_some _ e
      have ho2 : ((s1.heap.push { cls := .type "tuple_iterator", data := .fields #[.ref a, .int 0 0] }).push { cls := .type "enumerate", data := .fields #[.none, .bool false, .ref s1.heap.objs.size, rawInt 0, .none, .none] }).get? (s1.heap.objs.size + 1) = some { cls := .type "enumerate", data := .fields #[.none, .bool false, .ref s1.heap.objs.size, rawInt 0, .none, .none] } := by
        have := Heap.get?_push_size (s1.heap.push { cls := .type "tuple_iterator", data := .fields #[.ref a, .int 0 0] }) (o := { cls := .type "enumerate", data := .fields #[.none, .bool false, .ref s1.heap.objs.size, rawInt 0, .none, .none] }) rfl
        rw [hz] at this; exact this
      have hB1 := r1.g.sub.none hf1
      have hB2 := r2.g.sub.none hf2
      have r3 := r2.step (t := t) (r2.g.put kp2 hf2 ho2 s1.toks) (put_le hB2) (Kp.heap _ s1.toks kp2) (Grow.put hf2)
      have hB12 : B1 (s1.heap.objs.size + 1) = none := by
        have := hB2; unfold put at this; rw [if_neg (Nat.succ_ne_self _)] at this; exact this
      refine wpAny_pyIter_enum (old := .none) ho2 ?_
      refine k _ [s1.heap.objs.size + 1, s1.heap.objs.size] B1 _ _ _ _ r3 l1 ⟨(put_le hB1).trans (put_le hB2), r1.g.stat, ?_, ?_, ?_⟩ (k1.trans ((Kp.heap s1 s1.toks kp1).trans (Kp.heap _ s1.toks kp2)))
        (fun A' hA => IterW.enum hA ha hs hB12 hB1 (Nat.succ_ne_self _)) ⟨⟨_, ho2⟩, ?_, ?_⟩
      · intro b hb
        rcases List.mem_cons.mp hb with rfl | hb
        · exact ⟨_, put_self, ItO_enum rfl⟩
        · rw [List.mem_singleton] at hb; subst hb
          refine ⟨_, ?_, ItO.of (o := { cls := .type "tuple_iterator", data := .fields #[.ref a, .int 0 0] }) rfl (by decide)⟩
          exact put_le hB2 _ _ put_self
      · intro b hb
        rcases List.mem_cons.mp hb with rfl | hb
        · exact hB12
        · rw [List.mem_singleton] at hb; subst hb; exact hB1
      · intro b hb
        rcases List.mem_cons.mp hb with rfl | hb
        · exact r2.h0fresh hf2
        · rw [List.mem_singleton] at hb; subst hb; exact r1.h0fresh hf1
      · exact ⟨_, kp2 _ _ (Heap.get?_push_size _ rfl), rfl, rfl⟩
      · exact ⟨_, kp2 _ _ (kp1 _ _ (r1.g.sub _ _ ha)), rfl, _, rfl⟩
  | _ => cases e2
end
end Mine
end

section
namespace Mine
open PySem PySem.Calls PySem.Spec PySem.W PyProof.Rows
set_option maxRecDepth 100000
theorem sub_key_lookup : isSubtype (.type "KeyError") (.type "LookupError") = pure true := by rw [isSubtype_type]; kernel_rfl
section
variable {prog : Program} {w : World} {A : Around} {E : Value → Shared → Prop} {s : Shared}
theorem int_is (c : Nat) (tk : Tok) : (intKind prog w).is (c : Int) (.int (c : Int) tk) = true := by simp [intKind, Value.isInt]
theorem tl_miss {d : Addr} {c : Nat} {f : Int → Option Value} {Q : Builtin.Str.Mapped → Shared → Prop} (hh : A.handled = none) (hd : (d == sysModules) = false) (hm : s.heap.MapOf (intKind prog w) d f) (hf : f (c : Int) = none)
    (hQ : ∀ h' tk, (∀ b o, s.heap.get? b = some o → h'.get? b = some o) → Q .keep { s with heap := h', toks := tk }) : wpAny (model prog w) A (Builtin.Str.tableLookup (.ref d) c) Q E s := by
  unfold Builtin.Str.tableLookup
  refine wpAny_bind (wpAny_attempt (wpAny_bind (wpAny_mkInt ?_)))
  refine wpAny_getItem_missing_of (knd := intKind prog w) (k := (c : Int)) (int_is c _) hd hh hm hf fun h' e hx => ?_
  obtain ⟨o, r, h1, h2, h3⟩ := hx.there
  refine wpAny_bind (wpAny_isInstance (T := "KeyError") (b := true) ⟨_, h1, h2⟩ sub_key_lookup ?_)
  exact wpAny_bind (wpAny_rule (wpAny_pure (hQ h' _ hx.keeps)))
theorem tl_text {d : Addr} {c : Nat} {f : Int → Option Value} {x : Str} {u : Tok} {Q : Builtin.Str.Mapped → Shared → Prop} (hm : s.heap.MapOf (intKind prog w) d f) (hf : f (c : Int) = some (.str x u))
    (hQ : ∀ tk, Q (.text x) { s with toks := tk }) : wpAny (model prog w) A (Builtin.Str.tableLookup (.ref d) c) Q E s := by
  unfold Builtin.Str.tableLookup
  refine wpAny_bind (wpAny_attempt (wpAny_bind (wpAny_mkInt ?_)))
  refine wpAny_getItem_of (knd := intKind prog w) (k := (c : Int)) (int_is c _) hm hf ?_
  repeat (any_goals (first | exact hQ _ | wp_step))
theorem map_up {d : Addr} {f : Int → Option Value} {h h' : Heap} (hm : h.MapOf (intKind prog w) d f) (k : ∀ b o, h.get? b = some o → h'.get? b = some o) : h'.MapOf (intKind prog w) d f := by
  obtain ⟨o, es, ep, e, r⟩ := hm
  exact ⟨o, es, ep, k _ _ e, r⟩

theorem tr_keep {d : Addr} {c : Nat} {u : Tok} {f : Int → Option Value} {Q : Value → Shared → Prop} (hc : c < 128) (hh : A.handled = none) (hd : (d == sysModules) = false) (hm : s.heap.MapOf (intKind prog w) d f) (hf : f (c : Int) = none)
    (hQ : ∀ t' h' tk, (∀ b o, s.heap.get? b = some o → h'.get? b = some o) → Q (.str ⟨#[c]⟩ t') { s with heap := h', toks := tk }) :
    wpAny (model prog w) A (call (.builtin "str.translate") [.str ⟨#[c]⟩ u, .ref d]) Q E s := by
  refine wpAny_call_entry PySem.F.slot_str_translate (typeIs_str _ _ _) PySem.F.entry_str_translate ?_ (PySem.F.args_str_translate_2 _ _)
  unfold Builtin.«str.translate»
  refine wpAny_bind ?_
  refine wpAny_bind (wpAny_of_eq (a := (Value.str ⟨#[c]⟩ u, Value.ref d)) (by first | rfl | kernel_rfl) ?_)
  refine wpAny_bind (wpAny_of_eq (a := (⟨#[c]⟩ : Str)) (by first | rfl | kernel_rfl) (wpAny_pure ?_))
  dsimp only
  rw [if_neg (by show ¬ ((1 : Nat) == 0) = true; decide)]
  refine wpAny_bind ?_
  rw [show (#[c] : Array Nat) = [c].toArray from rfl, List.forIn_toArray, List.forIn_cons]
  refine wpAny_bind ?_
  have hall : ([c].toArray.all fun x => decide (x < 128)) = true := by simp [hc]
  dsimp only
  rw [hall]
  rw [if_neg (by decide), if_pos rfl]
  show wpAny _ _ (Builtin.Str.tableLookup (.ref d) c >>= _) _ _ _
  refine wpAny_bind (tl_miss (A := A.in1) hh hd hm hf fun h' tk kp => ?_)
  dsimp only
  refine wpAny_bind (wpAny_pure ?_)
  refine wpAny_pure ?_
  dsimp only
  rw [List.forIn_nil]
  refine wpAny_pure ?_
  dsimp only
  rw [if_neg (by decide)]
  show wpAny _ _ (do ret (← mkStr ⟨#[c]⟩)) _ _ _
  refine wpAny_bind (wpAny_mkStr (wpAny_pure ⟨_, rfl, hQ _ h' _ kp⟩) ?_)
  show 1 ≤ sizeLine
  rw [sizeLine_eq]; omega
theorem tr_text {d : Addr} {c : Nat} {u v : Tok} {x : Str} {f : Int → Option Value} {Q : Value → Shared → Prop} (hc : c < 128) (hx : (x.length == 1) = false) (hx2 : x.length ≤ 4096) (hm : s.heap.MapOf (intKind prog w) d f) (hf : f (c : Int) = some (.str x v))
    (hQ : ∀ t' tk, Q (.str x t') { s with toks := tk }) :
    wpAny (model prog w) A (call (.builtin "str.translate") [.str ⟨#[c]⟩ u, .ref d]) Q E s := by
  refine wpAny_call_entry PySem.F.slot_str_translate (typeIs_str _ _ _) PySem.F.entry_str_translate ?_ (PySem.F.args_str_translate_2 _ _)
  unfold Builtin.«str.translate»
  refine wpAny_bind ?_
  refine wpAny_bind (wpAny_of_eq (a := (Value.str ⟨#[c]⟩ u, Value.ref d)) (by first | rfl | kernel_rfl) ?_)
  refine wpAny_bind (wpAny_of_eq (a := (⟨#[c]⟩ : Str)) (by first | rfl | kernel_rfl) (wpAny_pure ?_))
  dsimp only
  rw [if_neg (by show ¬ ((1 : Nat) == 0) = true; decide)]
  refine wpAny_bind ?_
  rw [show (#[c] : Array Nat) = [c].toArray from rfl, List.forIn_toArray, List.forIn_cons]
  refine wpAny_bind ?_
  have hall : ([c].toArray.all fun x => decide (x < 128)) = true := by simp [hc]
  dsimp only
  rw [hall]
  rw [if_neg (by decide), if_pos rfl]
  show wpAny _ _ (Builtin.Str.tableLookup (.ref d) c >>= _) _ _ _
  refine wpAny_bind (tl_text (A := A.in1) hm hf fun tk => ?_)
  dsimp only
  rw [hx, Bool.false_and, if_neg Bool.false_ne_true]
  refine wpAny_bind (wpAny_pure ?_)
  refine wpAny_bind (wpAny_rule ?_)
  rw [if_neg Bool.false_ne_true]
  refine wpAny_bind (tl_text (A := A.in1) (s := { s with toks := tk }) hm hf fun tk2 => ?_)
  dsimp only
  refine wpAny_pure ?_
  dsimp only
  rw [List.forIn_nil]
  refine wpAny_pure ?_
  dsimp only
  have htl : Builtin.Str.tooLong (0 + x.length) = false := by
    unfold Builtin.Str.tooLong
    rw [sizeLine_eq]
    exact decide_eq_false (by omega)
  rw [htl, if_neg Bool.false_ne_true]
  have hxe : (⟨List.foldl (fun (acc : Array Nat) (p : Str) => acc ++ p.cps) #[] ([x] : List Str).reverse⟩ : Str) = x := by
    obtain ⟨cps⟩ := x
    simp
  rw [hxe]
  show wpAny _ _ (do ret (← mkStr x)) _ _ _
  exact wpAny_bind (wpAny_mkStr (wpAny_pure ⟨_, rfl, hQ _ _⟩) (line_of hx2))
end

section
variable {prog : Program} {w : World} {K : Frag} {mg mb : Str → Option Value} {t : Bool} {X : Act} {n : Nat} {ρ : List Slot} {B : Pm} {s : Shared} {A : Around} {E : Value → Shared → Prop}
noncomputable def pf_tr : V → Option V
  | .str ⟨⟨[97]⟩⟩ => some (.str ⟨#[97]⟩)
  | .str ⟨⟨[98]⟩⟩ => some (.str ⟨#[98]⟩)
  | .str ⟨⟨[99]⟩⟩ => some (.str ⟨#[99]⟩)
  | .str ⟨⟨[46]⟩⟩ => some (.str ⟨#[92, 46]⟩)
  | _ => none
/-- what the table of escape is -/
noncomputable def TrTab (prog : Program) (w : World) (K : Frag) (d : Addr) : Prop := ∃ f : Int → Option Value, (∀ h, K.In h → h.MapOf (intKind prog w) d f) ∧ (d == sysModules) = false ∧ f 97 = none ∧ f 98 = none ∧ f 99 = none ∧ ∃ u, f 46 = some (.str ⟨#[92, 46]⟩ u)
theorem ev_translate (ok : ActOK X) {e1 : Expr} {x : Str} {d : Addr} {px apos pos : Pos} {p : List Slot → Option V} (hT : TrTab prog w K d) (hx : X.env.kindOf x = some .globalImplicit) (e : nsIn K mainGlobals x = some (some (.ref d))) (h1 : EvE prog w K mg mb t X n e1 p)
    (hd : (x == ("__debug__" : Str)) = false := by decide)
    (hbase : attributeBase e1 "translate" X.env (eval e1 X.env) = eval e1 X.env := by rfl)
    (hfew : ((backTo pos (starEach [.Name x px] X.env)).all (fun x => !x.1) && (backToKw pos (keywordEach [] X.env)).all (fun x => x.1.isSome)
      && decide (([.Name x px] : List Expr).length + ([] : List Keyword).length + (if ([] : List Keyword).isEmpty then 0 else 1) < 30)) = true := by rfl)
    (hline : (apos.endLine == pos.line) = true := by rfl)
    (he : backTo pos (starEach [.Name x px] X.env) = [(false, eval (.Name x px) X.env)] := by rfl) :
    EvE prog w K mg mb t X n (.Call (.Attribute e1 "translate" apos) [.Name x px] [] pos) (fun ρ => (p ρ).bind pf_tr) := .mk fun A ρ B s Q E v hr h e' k => by
  obtain ⟨a, ea, e'⟩ := Option.bind_eq_some_iff.mp e'
  obtain ⟨f, hm, hs, f1, f2, f3, u, f4⟩ := hT
  have key : ∀ (c : Nat) (y : Str), c < 128 → ((f (c : Int) = none ∧ y = ⟨#[c]⟩) ∨ (∃ u, f (c : Int) = some (.str y u) ∧ (y.length == 1) = false ∧ y.length ≤ 4096)) → a = .str ⟨#[c]⟩ → v = .str y →
      wpAny (model prog w) A (eval (.Call (.Attribute e1 "translate" apos) [.Name x px] [] pos) X.env) Q E s := by
    intro c y hc hy ha hv
    subst ha hv
    refine wpAny_Call_method_lateS hbase hfew hline (h1.run A ρ B s _ E _ hr h ea fun va s1 B1 r1 l1 k1 v1 => ?_)
    cases v1
    refine ⟨"str", "str.translate", PySem.F.plainAttrs_str, PySem.F.slot_str_translate, PySem.F.type_str_translate, typeIs_str _ _ _, (fun _ e => nomatch e), ?_⟩
    rw [he]
    refine callWith_builtin rfl (evalArgs_plain (Calls.spliced_cons (load_glob ok r1.g hx e (Calls.spliced_nil ?_) hd)))
    rcases hy with ⟨hf, rfl⟩ | ⟨u, hf, hy1, hy2⟩
    · refine tr_keep hc hr.hh hs (hm _ (statH r1.g).inK) hf fun t' h' tk kp => ?_
      exact k _ _ B1 (r1.ext kp tk) l1 (k1.trans (Kp.heap s1 tk kp)) (.str _ _)
    · refine tr_text hc hy1 hy2 (hm _ (statH r1.g).inK) hf fun t' tk => ?_
      exact k _ _ B1 (r1.toks tk) l1 (k1.trans (Kp.toks s1 tk)) (.str _ _)
  unfold pf_tr at e'
  split at e'
  · cases e'; exact key 97 _ (by decide) (.inl ⟨f1, rfl⟩) rfl rfl
  · cases e'; exact key 98 _ (by decide) (.inl ⟨f2, rfl⟩) rfl rfl
  · cases e'; exact key 99 _ (by decide) (.inl ⟨f3, rfl⟩) rfl rfl
  · cases e'; exact key 46 _ (by decide) (.inr ⟨u, f4, by decide, by decide⟩) rfl rfl
  · cases e'
end
end Mine
end

section
namespace Mine
open PySem PySem.Calls PySem.Spec PySem.W PyProof.Rows
set_option maxRecDepth 100000

/-- a source of a comprehension -/
noncomputable def ItW' (prog : Program) (w : World) (K : Frag) (mg mb : Str → Option Value) (t : Bool) (X : Act) (n : Nat) (iter : Expr) (pi : List Slot → Option (List V)) : Prop :=
  ∀ (A : Around) (ρ : List Slot) (B : Pm) (s : Shared) (Q E : Value → Shared → Prop) (vs : List V), Room n A → SR w K mg mb X ρ B s → pi ρ = some vs →
    (∀ fp m P St s1 o B1, SR w K mg mb X ρ B1 s1 → Le B B1 → Kp t s s1 → Walks prog w A s1.heap.objs.size fp [s1.heap.objs.size] m P St → St 0 (s1.heap.push o) → (∀ b ∈ fp, b < (s1.heap.push o).objs.size) → vs.length = m → m ≤ 2000000 →
      (∀ i v val, vs[i]? = some v → P i val → VR w B1 v val) → (∀ i val, P i val → i < m) → o.isFreed = false → Q (.ref s1.heap.objs.size) { s1 with heap := s1.heap.push o }) →
    wpAny (model prog w) A (eval iter X.env) (fun x s₁ => wpAny (model prog w) A (pyIter x) Q E s₁) E s
structure ItW (prog : Program) (w : World) (K : Frag) (mg mb : Str → Option Value) (t : Bool) (X : Act) (n : Nat) (iter : Expr) (pi : List Slot → Option (List V)) : Prop where
  run : ItW' prog w K mg mb t X n iter pi
/-- evaluated to what was there, or to a plain thing -/
noncomputable def EvR' (prog : Program) (w : World) (K : Frag) (mg mb : Str → Option Value) (t : Bool) (X : Act) (n : Nat) (e : Expr) (p : List Slot → Option V) : Prop :=
  ∀ (A : Around) (ρ : List Slot) (B : Pm) (s : Shared) (Q E : Value → Shared → Prop) (v : V),
    Room n A → SR w K mg mb X ρ B s → p ρ = some v →
    (∀ val s' B', SR w K mg mb X ρ B' s' → Le B B' → Kp t s s' → VR w B v val → Q val s') →
    wpAny (model prog w) A (eval e X.env) Q E s
structure EvR (prog : Program) (w : World) (K : Frag) (mg mb : Str → Option Value) (t : Bool) (X : Act) (n : Nat) (e : Expr) (p : List Slot → Option V) : Prop where
  run : EvR' prog w K mg mb t X n e p
noncomputable def isSc : V → Bool
  | .none => true
  | .bool _ => true
  | .int _ => true
  | .str _ => true
  | .typ _ => true
  | _ => false
theorem VR.sc {w : World} {B B' : Pm} {v : V} {x : Value} (h : VR w B v x) (hs : isSc v = true) : VR w B' v x := by
  cases v <;> simp [isSc] at hs <;> cases h <;> constructor
noncomputable def scOf : Value → V
  | .bool b => .bool b
  | .int i _ => .int i
  | .str x _ => .str x
  | .type n => .typ n
  | _ => .none
theorem VR.scOf {w : World} {B : Pm} {v : V} {x : Value} (h : VR w B v x) (hs : isSc v = true) : v = Mine.scOf x := by
  cases h with
  | tup _ _ => cases hs
  | lst _ _ => cases hs
  | dct _ _ _ _ _ _ => cases hs
  | _ => rfl
theorem VR.inj {w : World} {B B' : Pm} {v v' : V} {x : Value} (h : VR w B v x) (h' : VR w B' v' x) (hs : isSc v = true) (hs' : isSc v' = true) : v = v' := (h.scOf hs).trans (h'.scOf hs').symm

theorem Walks.lt {prog : Program} {w : World} {A : Around} {I : Addr} {fp wr : List Addr} {n : Nat} {P : Nat → Value → Prop} {St : Nat → Heap → Prop} (W : Walks prog w A I fp wr n P St) : Walks prog w A I fp wr n (fun i v => P i v ∧ i < n) St where
  sub := W.sub
  frame := W.frame
  item := fun i s Q E hi st hQ => W.item i s Q E hi st fun v h' tk hp st' k => hQ v h' tk ⟨hp, hi⟩ st' k
  done := W.done
  self := W.self

section
variable {prog : Program} {w : World} {K : Frag} {mg mb : Str → Option Value} {t : Bool} {X : Act} {n : Nat} {ρ : List Slot} {B : Pm} {s : Shared} {A : Around} {E : Value → Shared → Prop}

theorem evr_sc {e : Expr} {p : List Slot → Option V} (h : EvE prog w K mg mb t X n e p) : EvR prog w K mg mb t X n e (fun ρ => (p ρ).bind fun v => if isSc v then some v else none) := .mk fun A ρ B s Q E v hr hs e k => by
  obtain ⟨v', ev, e⟩ := Option.bind_eq_some_iff.mp e
  split at e
  · rename_i hsc
    cases e
    exact h.run A ρ B s Q E _ hr hs ev fun val s' B' r l kp vr => k val s' B' r l kp (vr.sc hsc)
  · cases e
theorem G0.down {B' : Pm} (g : G0 K mg mb B' s) (l : Le B B') (st : Stat K mg mb B) : G0 K mg mb B s :=
  ⟨fun b o e => g.sub b o (l b o e), st, by
    cases q : B tbA with
    | none => rfl
    | some o => (have := l _ _ q; rw [g.tabB] at this; cases this), g.tab⟩
theorem evr_idx {e1 e2 : Expr} {pos : Pos} {p1 p2 : List Slot → Option V} (h1 : EvC prog w K mg mb X e1 p1) (h2 : EvE prog w K mg mb t X n e2 p2)
    (hs : ∀ o i, subscripted e2 false o i = operate [o, i] (getItem o i) := by intro _ _; with_unfolding_all rfl) :
    EvR prog w K mg mb t X n (.Subscript e1 e2 pos) (fun ρ => (p1 ρ).bind fun a => (p2 ρ).bind fun b => if isSc b then vIdx a b else none) := .mk fun A ρ B s Q E v hr h e k => by
  obtain ⟨a, ea, e⟩ := Option.bind_eq_some_iff.mp e
  obtain ⟨b, eb, e⟩ := Option.bind_eq_some_iff.mp e
  split at e
  · rename_i hsc
    refine Subscript_ (h1.run A ρ B s _ E a hr.hh h ea fun x tk1 v1 => h2.run A ρ B _ _ E b hr (h.toks tk1) eb fun y s2 B2 r2 l2 k2 v2 => ?_)
    exact idx_ok (r2.g.down l2 h.g.stat) v1 (v2.sc hsc) e (fun val tk vr => k val _ B2 (r2.toks tk) l2 ((Kp.toks s tk1).trans (k2.trans (Kp.toks s2 tk))) vr) hs
  · cases e

theorem itw_range (ok : ActOK X) {fp pos : Pos} {e1 : Expr} {rest : List Expr} {p : List Slot → Option (List V)}
    (hx : X.env.kindOf "range" = some .globalImplicit) (e : nsIn K mainGlobals "range" = some none) (h1 : EvL prog w K mg mb t X n (backTo pos (starEach (e1 :: rest) X.env)) p)
    (he : starEach (e1 :: rest) X.env = (false, eval e1 X.env) :: starEach rest X.env := by rfl) (hplain : (backTo pos (starEach rest X.env)).any (·.1) = false := by rfl) :
    ItW prog w K mg mb t X n (.Call (.Name "range" fp) (e1 :: rest) [] pos) (fun ρ => ((p ρ).bind rngOf).map rngV) := .mk fun A ρ B s Q E vs hr h e' k => by
  obtain ⟨r, e2, rfl⟩ := Option.map_eq_some_iff.mp e'
  obtain ⟨l, el, er⟩ := Option.bind_eq_some_iff.mp e2
  refine ev_rng (t := t) ok hr h hx e h1 el er he hplain fun a t' u v s1 B1 r1 l1 k1 hrg _ cc hBa => ?_
  obtain ⟨c1, c2, c3⟩ := cc
  obtain ⟨sm, le⟩ := small_of c1 c2 c3
  refine wpAny_pyIter_range hrg sm ?_
  have hsz : Builtin.Range.rangeSize r.1 r.2.1 r.2.2 = ((Builtin.Range.rangeSize r.1 r.2.1 r.2.2).toNat : Int) := rangeSize_toNat _ _ _
  refine k _ _ _ _ s1 _ B1 r1 l1 k1 (Walks.lt (Walks.range hr.hh s1.heap.objs.size r.1 r.2.2 (Builtin.Range.rangeSize r.1 r.2.1 r.2.2).toNat)) ?_ ?_ (by simp [rngV]) (by omega) ?_ (fun i val h => h.2) rfl
  · have : (s1.heap.push { cls := .type "range_iterator", data := .fields #[rawInt r.1, rawInt (Builtin.Range.rangeSize r.1 r.2.1 r.2.2), rawInt r.2.2] }).get? s1.heap.objs.size = some _ := Heap.get?_push_size _ rfl
    have e1 : r.1 + ((0 : Nat) : Int) * r.2.2 = r.1 := by simp
    have e2 : (((Builtin.Range.rangeSize r.1 r.2.1 r.2.2).toNat : Nat) : Int) - ((0 : Nat) : Int) = Builtin.Range.rangeSize r.1 r.2.1 r.2.2 := by rw [← hsz]; simp
    rw [e1, e2]; exact this
  · intro b hb
    rw [List.mem_singleton] at hb; subst hb
    rw [Heap.size_push]; exact Nat.lt_succ_self _
  · rintro i v val hv ⟨⟨tk, rfl⟩, _⟩
    simp only [rngV, List.getElem?_map, Option.map_eq_some_iff] at hv
    obtain ⟨j, hj, rfl⟩ := hv
    have : j = i := by
      rw [List.getElem?_range] at hj
      · cases hj; rfl
      · exact (List.getElem?_eq_some_iff.mp hj).1 |> (by simpa using ·)
    subst this
    exact .int _ _

noncomputable def itemsW : V → Option (List V)
  | .lst l => if l.length ≤ 4096 then some l else none
  | .str x => if x.length ≤ 4096 then some (x.cps.toList.map fun c => .str ⟨#[c]⟩) else none
  | _ => none
theorem itw_val (ok : ActOK X) {e1 : Expr} {p : List Slot → Option V} (h1 : EvE prog w K mg mb t X n e1 p) : ItW prog w K mg mb t X n e1 (fun ρ => (p ρ).bind itemsW) := .mk fun A ρ B s Q E vs hr h e k => by
  obtain ⟨v, ev, e⟩ := Option.bind_eq_some_iff.mp e
  refine h1.run A ρ B s _ E v hr h ev fun val s1 B1 r1 l1 k1 vr => ?_
  cases v with
  | lst l =>
    simp only [itemsW] at e
    split at e
    · rename_i hz
      cases e
      cases vr with
      | @lst _ a xs m ha hs =>
        have hl : s1.heap.IsList a xs.toArray := ⟨_, r1.g.sub _ _ ha, rfl, _, rfl⟩
        have hf : s1.heap.get? s1.heap.objs.size = none := fresh _ (Nat.le_refl _)
        have hne : a ≠ s1.heap.objs.size := fun q => by rw [q, r1.g.sub.none hf] at ha; cases ha
        refine wpAny_pyIter_list hl ?_
        refine k _ _ _ _ s1 _ B1 r1 l1 k1 (Walks.lt (Walks.list hr.hh s1.heap.objs.size a hne xs.toArray)) ⟨⟨_, Heap.get?_push_size _ rfl, rfl, rfl⟩, hl.at fun _ q => Heap.get?_push_of_some _ q⟩ ?_ (by rw [List.size_toArray, hs.length]) (by rw [List.size_toArray, hs.length]; omega) ?_ (fun i val h => h.2) rfl
        · intro b hb
          rw [Heap.size_push]
          rcases List.mem_cons.mp hb with rfl | hb
          · exact Nat.lt_succ_self _
          · rw [List.mem_singleton] at hb; subst hb
            exact Nat.lt_succ_of_lt (Heap.lt_size (r1.g.sub _ _ ha))
        · intro i v val hv hp
          obtain ⟨x, hx, hxr⟩ := hs.get i v hv
          have : xs[i]? = some val := by simpa using hp.1
          rw [hx] at this; cases this; exact hxr
    · cases e
  | str x =>
    simp only [itemsW] at e
    split at e
    · rename_i hz
      cases e
      cases vr with
      | str _ tk =>
        have fin : ∀ (o : Obj) (St : Nat → Heap → Prop), o.isFreed = false → (∀ A' : Around, A'.handled = none → Walks prog w A' s1.heap.objs.size [s1.heap.objs.size] [s1.heap.objs.size] x.cps.size (SignAt x) St) →
            St 0 (s1.heap.push o) → Q (.ref s1.heap.objs.size) { s1 with heap := s1.heap.push o } := by
          intro o St hf W st0
          refine k _ _ _ _ s1 _ B1 r1 l1 k1 (Walks.lt (W A hr.hh)) st0 ?_ (by simp) ?_ ?_ (fun i val h => h.2) hf
          · intro b hb
            rw [List.mem_singleton] at hb; subst hb
            rw [Heap.size_push]; exact Nat.lt_succ_self _
          · have : x.cps.size ≤ 4096 := hz
            omega
          · intro i v val hv hp
            obtain ⟨⟨c, u, hc, rfl⟩, _⟩ := hp
            rw [List.getElem?_map] at hv
            have : x.cps.toList[i]? = some c := by simpa using hc
            rw [this] at hv; cases hv
            exact .str _ _
        cases ha : x.cps.all (· < 128)
        · exact wpAny_pyIter_wide ha (fin _ _ rfl (fun A' hA => Walks.strWide hA _ x tk) ⟨_, Heap.get?_push_size _ rfl, rfl, rfl⟩)
        · exact wpAny_pyIter_ascii ha (fin _ _ rfl (fun A' hA => Walks.strAscii hA _ x tk) ⟨_, Heap.get?_push_size _ rfl, rfl, rfl⟩)
    · cases e
  | _ => cases e
end
end Mine
end

section
namespace Mine
open PySem PySem.Calls PySem.Spec PySem.W PyProof.Rows
set_option maxRecDepth 100000

noncomputable def compV (f : V → Option V) (c : V → Option Bool) : List V → Option (List V)
  | [] => some []
  | a :: r => if isSc a then (c a).bind fun b => if b then (f a).bind fun y => (compV f c r).map (y :: ·) else compV f c r else none
theorem compV_mem {f : V → Option V} {c : V → Option Bool} : ∀ {vs res : List V}, compV f c vs = some res → ∀ a ∈ vs, isSc a = true ∧ ∃ b, c a = some b ∧ (b = true → ∃ y, f a = some y)
  | v :: r, res, h, a, ha => by
    unfold compV at h
    split at h
    · rename_i hs
      obtain ⟨b, hb, h⟩ := Option.bind_eq_some_iff.mp h
      cases b with
      | true =>
        obtain ⟨y, hy, h2⟩ := Option.bind_eq_some_iff.mp h
        obtain ⟨res', h3, rfl⟩ := Option.map_eq_some_iff.mp h2
        rcases List.mem_cons.mp ha with rfl | ha
        · exact ⟨hs, true, hb, fun _ => ⟨y, hy⟩⟩
        · exact compV_mem h3 a ha
      | false =>
        rcases List.mem_cons.mp ha with rfl | ha
        · exact ⟨hs, false, hb, fun q => by cases q⟩
        · exact compV_mem h a ha
    · cases h

section
variable {prog : Program} {w : World} {K : Frag} {mg mb : Str → Option Value} {t : Bool} {X : Act} {n : Nat} {ρ : List Slot} {B : Pm} {s : Shared} {A : Around} {E : Value → Shared → Prop}

noncomputable def FV (w : World) (B : Pm) (f : V → Option V) (v y : Value) : Prop := ∃ a b, isSc a = true ∧ VR w B a v ∧ f a = some b ∧ VR w B b y
noncomputable def PV (w : World) (B : Pm) (c : V → Option Bool) (v : Value) : Bool := @decide (∃ a, isSc a = true ∧ VR w B a v ∧ c a = some true) (Classical.propDecidable _)
theorem PV_eq {c : V → Option Bool} {a : V} {v : Value} {b : Bool} (hs : isSc a = true) (vr : VR w B a v) (hc : c a = some b) : PV w B c v = b := by
  unfold PV
  cases b with
  | true => exact @decide_eq_true _ (Classical.propDecidable _) ⟨a, hs, vr, hc⟩
  | false =>
    refine @decide_eq_false _ (Classical.propDecidable _) ?_
    rintro ⟨a', hs', vr', hc'⟩
    have := vr.inj vr' hs hs'
    subst this
    rw [hc] at hc'; cases hc'
theorem compV_paired {f : V → Option V} {c : V → Option Bool} {vs : List V} {vals : List Value} (h : VRs w B vs vals) : ∀ {res : List V} {ys : List Value}, compV f c vs = some res → Paired (FV w B f) (vals.filter (PV w B c)) ys → VRs w B res ys := by
  induction vs generalizing vals with
  | nil => intro res ys e p; cases h; cases e; cases p; exact .nil
  | cons a r ih =>
    intro res ys e p
    cases h with
    | @cons _ v _ vals vr hr =>
      unfold compV at e
      split at e
      · rename_i hs
        obtain ⟨b, hb, e⟩ := Option.bind_eq_some_iff.mp e
        have hp := PV_eq (w := w) (B := B) hs vr hb
        cases b with
        | true =>
          obtain ⟨y, hy, e2⟩ := Option.bind_eq_some_iff.mp e
          obtain ⟨res', e3, rfl⟩ := Option.map_eq_some_iff.mp e2
          rw [List.filter_cons, hp, if_pos rfl] at p
          cases p with
          | cons hF p =>
            obtain ⟨a', b', hs', vr', hf', vb⟩ := hF
            have := vr.inj vr' hs hs'
            subst this
            rw [hy] at hf'; cases hf'
            exact .cons vb (ih hr e3 p)
        | false =>
          rw [List.filter_cons, hp, if_neg Bool.false_ne_true] at p
          exact ih hr e p
      · cases e

inductive FreeOK (X : Act) (scope : Scope) (cl : List (Str × Addr)) : List Str → List Nat → Prop
  | nil : FreeOK X scope cl [] []
  | cons {y : Str} {fs : List Str} {is : List Nat} (i : Nat) {c : Addr} (h1 : X.names[i]? = some y) (h2 : (relabel scope X.env).names.lookup y = some .cell ∨ (relabel scope X.env).names.lookup y = some .free) (h3 : cl.lookup y = some c) (h4 : X.env.cells.lookup y = some c)
      (h5 : X.env.kindOf y = some .cell) : FreeOK X scope cl fs is → FreeOK X scope cl (y :: fs) (i :: is)
structure CompOK (X : Act) (scope : Scope) (cl : List (Str × Addr)) (x : Str) (fnames : List Str) (fr : List Nat) : Prop where
  hclos : closureFor scope X.env = pure cl
  hcell : ∀ y ∈ scope.names, y.2 ≠ .cell
  hkind : scope.kind = .function
  hnames : ∀ y ∈ scope.names, y.2 = .local → scope.names.lookup y.1 = some .local
  hx : scope.names.lookup x = some .local
  nd : (x :: fnames).Nodup
  fre : FreeOK X scope cl fnames fr
  sub : ∀ p ∈ cl, X.env.cells.lookup p.1 = some p.2
noncomputable def frV : List Nat → List Slot → Option (List Slot)
  | [], _ => some []
  | i :: is, ρ => (getv i ρ).bind fun v => (frV is ρ).map (.val v :: ·)
noncomputable abbrev CX (X : Act) (scope : Scope) (cl : List (Str × Addr)) (C : Addr) (x : Str) (fnames : List Str) (h0 : Heap) (B0 : Pm) : Act := ⟨compEnvC scope cl C X.env, x :: fnames, h0, B0, false⟩

theorem frV_at {scope : Scope} {cl : List (Str × Addr)} {fnames : List Str} {fr : List Nat} (F : FreeOK X scope cl fnames fr) (h : SR w K mg mb X ρ B s) : ∀ {sl : List Slot}, frV fr ρ = some sl →
    ∀ (j : Nat) (y : Str) (sb : Slot), fnames[j]? = some y → sl[j]? = some sb → ∃ v val c, sb = Slot.val v ∧ VR w B v val ∧ cl.lookup y = some c ∧ ((relabel scope X.env).names.lookup y = some .cell ∨ (relabel scope X.env).names.lookup y = some .free) ∧ s.heap.IsCell c (some val) := by
  induction F with
  | nil => intro sl e j y sb hy _; cases hy
  | cons i h1 h2 h3 h4 h5 F ih =>
    intro sl e j y sb hy hs
    obtain ⟨v, ev, e2⟩ := Option.bind_eq_some_iff.mp e
    obtain ⟨sl', e3, rfl⟩ := Option.map_eq_some_iff.mp e2
    cases j with
    | zero =>
      cases hy; cases hs
      obtain ⟨val, va, vr⟩ := h.var h1 ev
      refine ⟨v, val, _, rfl, vr, h3, h2, ?_⟩
      rcases va with ⟨q, _⟩ | ⟨_, c', q1, q2⟩
      · rw [h5] at q; cases q
      · rw [h4] at q1; cases q1; exact q2
    | succ j => exact ih e3 j y sb hy hs

theorem frV_val {fr : List Nat} : ∀ {sl : List Slot}, frV fr ρ = some sl → ∀ (j : Nat) (sb : Slot), sl[j]? = some sb → ∃ v, sb = Slot.val v := by
  induction fr with
  | nil => intro sl e j sb h; cases e; cases h
  | cons i is ih =>
    intro sl e j sb h
    obtain ⟨v, ev, e2⟩ := Option.bind_eq_some_iff.mp e
    obtain ⟨sl', e3, rfl⟩ := Option.map_eq_some_iff.mp e2
    cases j with
    | zero => cases h; exact ⟨v, rfl⟩
    | succ j => exact ih e3 j sb h

theorem comp_act {scope : Scope} {cl : List (Str × Addr)} {x : Str} {fnames : List Str} {fr : List Nat} (ok : ActOK X) (c : CompOK X scope cl x fnames fr) (h : SR w K mg mb X ρ B s) {C : Addr} (hC : s.heap.get? C = none) : ActOK (CX X scope cl C x fnames s.heap B) :=
  ⟨c.hkind, c.nd, ok.glob, ok.bi, hC, (fun _ _ q => nomatch q), fun y cc hc q => (by
    obtain ⟨v, o, e, _⟩ := h.cellLive y cc (c.sub _ (mem_of_lookup hc))
    have q : cc = C := q
    rw [q, hC] at e; exact absurd e (by simp)), fun y z cc h1 h2 => ok.apart y z cc (c.sub _ (mem_of_lookup h1)) (c.sub _ (mem_of_lookup h2)), h.g.sub⟩

theorem comp_sr {scope : Scope} {cl : List (Str × Addr)} {x : Str} {fnames : List Str} {fr : List Nat} {sl : List Slot} {s3 : Shared} {C : Addr} {m3 : Str → Option Value} {a : V} {v : Value} (c : CompOK X scope cl x fnames fr) (h : SR w K mg mb X ρ B s) (hsl : frV fr ρ = some sl) (hC : s.heap.get? C = none)
    (kp : ∀ b o, s.heap.get? b = some o → s3.heap.get? b = some o) (hn : s3.heap.Ns C m3) (hm : m3 x = some v) (vr : VR w B a v) :
    SR w K mg mb (CX X scope cl C x fnames s.heap B) (.val a :: sl) B s3 := by
  refine ⟨⟨fun b o e => kp b o (h.g.sub b o e), h.g.stat, h.g.tabB, h.g.tab.keep fun o e => kp _ o e⟩, fun b o _ e => kp b o e, fun b o e => .inl e, Le.refl B, ⟨m3, hn⟩, h.g.sub.none hC, fun y cc hc => ?_, fun y cc hc => ?_, ?_⟩
  · exact h.cellB y cc (c.sub _ (mem_of_lookup hc))
  · obtain ⟨v, o, e, d⟩ := h.cellLive y cc (c.sub _ (mem_of_lookup hc))
    exact ⟨v, o, kp _ _ e, d⟩
  · refine ⟨fun _ => 0, fun i y sb hy hs => ?_, fun i j p q _ _ ea eb oa _ _ => ?_⟩
    · cases i with
      | zero =>
        cases hy; cases hs
        exact ⟨v, .inl ⟨lookup_relabel_local c.hx, m3, hn, hm⟩, vr⟩
      | succ j =>
        obtain ⟨v', val, cc, rfl, vr', hl, hk, o, e, d⟩ := frV_at c.fre h hsl j y sb hy hs
        exact ⟨val, .inr ⟨hk, cc, hl, o, kp _ _ e, d⟩, vr'⟩
    · exfalso
      cases i with
      | zero => cases ea; cases oa
      | succ j =>
        obtain ⟨v, rfl⟩ := frV_val hsl j p ea
        cases oa

/-- what kit's rule wants of the body -/
theorem comp_quiet {scope : Scope} {cl : List (Str × Addr)} {x : Str} {fnames : List Str} {fr : List Nat} {sl : List Slot} {ifs : List Expr} {elt : Expr} {pe : List Slot → Option V} {pc : List Slot → Option Bool} {vs res : List V} {P : Nat → Value → Prop} {o : Obj} (ok : ActOK X) (c : CompOK X scope cl x fnames fr) (hr : Room n A)
    (h : SR w K mg mb X ρ B s) (hsl : frV fr ρ = some sl) (hres : compV (fun a => pe (.val a :: sl)) (fun a => pc (.val a :: sl)) vs = some res)
    (hP : ∀ i v val, vs[i]? = some v → P i val → VR w B v val) (hi : ∀ i val, P i val → i < vs.length)
    (helt : ∀ (C : Addr) (h0 : Heap) (B0 : Pm), ActOK (CX X scope cl C x fnames h0 B0) → EvR prog w K mg mb false (CX X scope cl C x fnames h0 B0) n elt pe)
    (hifs : (ifs = [] ∧ ∀ ρ, pc ρ = some true) ∨ (∃ e1, ifs = [e1] ∧ ∀ (C : Addr) (h0 : Heap) (B0 : Pm), ActOK (CX X scope cl C x fnames h0 B0) → TsE prog w K mg mb false (CX X scope cl C x fnames h0 B0) n e1 pc)) :
    QuietOnC prog w A X.env scope cl x ifs elt [s.heap.objs.size] P (PV w B (fun a => pc (.val a :: sl))) (FV w B (fun a => pe (.val a :: sl))) { s with heap := s.heap.push o } := by
  have kp2 : ∀ (s3 : Shared), (∀ b o', b ∉ [s.heap.objs.size] → (s.heap.push o).get? b = some o' → s3.heap.get? b = some o') → ∀ b o', s.heap.get? b = some o' → s3.heap.get? b = some o' := fun s3 k b o' e =>
    k b o' (fun hb => by rw [List.mem_singleton] at hb; exact absurd (Heap.lt_size e) (by rw [hb]; exact Nat.lt_irrefl _)) (Heap.get?_push_of_some _ e)
  have hC : ∀ C, (s.heap.push o).objs.size ≤ C → s.heap.get? C = none := fun C hc => fresh _ (Nat.le_trans (by rw [Heap.size_push]; exact Nat.le_succ _) hc)
  refine ⟨fun C i v s3 m3 E' hCs hp hn hm hk _ => ?_, fun C i v s3 m3 E' hCs hp hpv hn hm hk _ => ?_⟩
  · have hlt := hi i v hp
    have hv : vs[i]? = some vs[i] := by simp [hlt]
    have vr := hP i _ v hv hp
    obtain ⟨hs, b, hb, _⟩ := compV_mem hres vs[i] (List.getElem_mem hlt)
    rw [PV_eq (c := fun a => pc (.val a :: sl)) hs vr hb]
    rcases hifs with ⟨rfl, hpc⟩ | ⟨e1, rfl, hT⟩
    · have : b = true := by rw [hpc] at hb; exact (Option.some.inj hb).symm
      subst this
      rw [List.forIn_nil]
      exact wpAny_pure ⟨rfl, s3.heap, s3.toks, rfl, fun _ _ e => e⟩
    · rw [List.forIn_cons]
      refine wpAny_bind ?_
      rw [if_pos rfl]
      refine wpAny_bind ((hT C s.heap B (comp_act ok c h (hC C hCs))).run A _ B s3 _ _ b hr (comp_sr c h hsl (hC C hCs) (kp2 s3 hk) hn hm vr) hb fun s4 B4 r4 l4 k4 => ?_)
      refine wpAny_pure ?_
      dsimp only
      rw [List.forIn_nil]
      refine wpAny_pure ⟨rfl, ?_⟩
      obtain ⟨h4, tk4, e4⟩ := k4.small rfl
      subst e4
      exact ⟨h4, tk4, rfl, fun b o e => k4.keep b o (fun q => nomatch q) e⟩
  · have hlt := hi i v hp
    have hv : vs[i]? = some vs[i] := by simp [hlt]
    have vr := hP i _ v hv hp
    obtain ⟨hs, b, hb, hy⟩ := compV_mem hres vs[i] (List.getElem_mem hlt)
    rw [PV_eq (c := fun a => pc (.val a :: sl)) hs vr hb] at hpv
    subst hpv
    obtain ⟨y, hy⟩ := hy rfl
    refine (helt C s.heap B (comp_act ok c h (hC C hCs))).run A _ B s3 _ _ y hr (comp_sr c h hsl (hC C hCs) (kp2 s3 hk) hn hm vr) hy fun val s4 B4 r4 l4 k4 vy => ?_
    refine ⟨⟨vs[i], y, hs, vr, hy, vy⟩, ?_⟩
    obtain ⟨h4, tk4, e4⟩ := k4.small rfl
    subst e4
    exact ⟨h4, tk4, rfl, fun b o e => k4.keep b o (fun q => nomatch q) e⟩

noncomputable def pComp (pi : List Slot → Option (List V)) (fr : List Nat) (pe : List Slot → Option V) (pc : List Slot → Option Bool) : List Slot → Option (List V) := fun ρ =>
  (pi ρ).bind fun vs => (frV fr ρ).bind fun sl => (compV (fun a => pe (.val a :: sl)) (fun a => pc (.val a :: sl)) vs).bind fun l => if l.length ≤ 4096 then some l else none

theorem ev_comp {scope : Scope} {cl : List (Str × Addr)} {x : Str} (fnames : List Str) (fr : List Nat) {ifs : List Expr} {elt iter : Expr} {px pos : Pos} {pe : List Slot → Option V} {pc : List Slot → Option Bool} {pi : List Slot → Option (List V)} (ok : ActOK X) (c : CompOK X scope cl x fnames fr)
    (hit : ItW prog w K mg mb t X n iter pi)
    (helt : ∀ (C : Addr) (h0 : Heap) (B0 : Pm), ActOK (CX X scope cl C x fnames h0 B0) → EvR prog w K mg mb false (CX X scope cl C x fnames h0 B0) n elt pe)
    (hifs : (ifs = [] ∧ ∀ ρ, pc ρ = some true) ∨ (∃ e1, ifs = [e1] ∧ ∀ (C : Addr) (h0 : Heap) (B0 : Pm), ActOK (CX X scope cl C x fnames h0 B0) → TsE prog w K mg mb false (CX X scope cl C x fnames h0 B0) n e1 pc))
    (hs : ∀ x, foldedSetIterable iter X.env x = pure x := by intro _; rfl) :
    EvE prog w K mg mb t X n (.ListComp elt [⟨.Name x px, iter, ifs, 0⟩] scope pos) (fun ρ => (pComp pi fr pe pc ρ).map .lst) := .mk fun A ρ B s Q E v hr h e k => by
  obtain ⟨res, e2, rfl⟩ := Option.map_eq_some_iff.mp e
  obtain ⟨vs, evs, e3⟩ := Option.bind_eq_some_iff.mp e2
  obtain ⟨sl, esl, e4⟩ := Option.bind_eq_some_iff.mp e3
  obtain ⟨res', er, e5⟩ := Option.bind_eq_some_iff.mp e4
  split at e5
  · rename_i hlen
    cases e5
    refine wpAny_ListComp_free (w := w) (prog := prog) (PV w B (fun a => pc (.val a :: sl))) (FV w B (fun a => pe (.val a :: sl))) c.hclos c.hcell c.hkind c.hnames c.hx ?_ hs
    refine hit.run A ρ B s _ E vs hr h evs fun fp m P St s1 o B1 r1 l1 k1 W st0 hfp hm hm2 hP hi hf => ?_
    have h1 : SR w K mg mb X ρ B s1 := h.step (r1.g.down l1 h.g.stat) (Le.refl B) k1 (fun _ _ q => .inl q)
    have hP' : ∀ i v val, vs[i]? = some v → P i val → VR w B v val := fun i v val hv hp => (hP i v val hv hp).sc (compV_mem er v (List.mem_of_getElem? hv)).1
    refine ⟨_, fp, [s1.heap.objs.size], m, P, St, rfl, W, Nat.le_trans hm2 (by rw [sizeLine_eq]; omega), st0, hfp, comp_quiet ok c hr h1 esl er hP' (fun i val hp => by rw [hm]; exact hi i val hp) helt hifs, ?_⟩
    intro D h' tk ys vals hD hl hpl hlen' hvP hpair hk
    have vrs : VRs w B res ys.toList := compV_paired (vs := vs) (vals := vals) (vrs_of_get (hlen'.trans hm.symm) fun i v x a b => hP' i v x a (hvP i x b)) er hpair
    have kp : ∀ b o', s1.heap.get? b = some o' → h'.get? b = some o' := fun b o' e => hk b o' (fun hb => by rw [List.mem_singleton] at hb; exact absurd (Heap.lt_size e) (by rw [hb]; exact Nat.lt_irrefl _)) (Heap.get?_push_of_some _ e)
    have hfD : s1.heap.get? D = none := by
      cases q : s1.heap.get? D with
      | none => rfl
      | some o' =>
        have hD : (s1.heap.push o).get? D = none := hD
        rw [Heap.get?_push_of_some _ q] at hD; cases hD
    obtain ⟨nn, ho⟩ := hpl
    have lD := put_le (o := { cls := .type "list", data := .seq ys nn }) (r1.g.sub.none hfD)
    refine k (.ref D) _ (put B1 D { cls := .type "list", data := .seq ys nn }) (r1.step (t := t) (r1.g.put kp hfD ho tk) lD (Kp.heap s1 tk kp) (Grow.put hfD)) (l1.trans lD) (k1.trans (Kp.heap s1 tk kp)) (.lst (vs := ys.toList) (n := nn) (by rw [put_self]) (vrs.le (l1.trans lD)))
  · cases e5
end
end Mine
end

section
namespace Mine
open PySem PySem.Calls PySem.Spec PySem.W PyProof.Rows
set_option maxRecDepth 100000

/-- what a display of constants means -/
noncomputable def mapO {α β : Type} (f : α → Option β) : List α → Option (List β)
  | [] => some []
  | a :: r => (f a).bind fun b => (mapO f r).map (b :: ·)
noncomputable def litE : Nat → Expr → Option V
  | 0, _ => none
  | _ + 1, .Constant (.str x) _ _ => some (.str x)
  | _ + 1, .Constant (.int i) _ _ => some (.int i)
  | m + 1, .List es _ => (mapO (litE m) es).bind lstV
  | m + 1, .Tuple es _ _ => (mapO (litE m) es).bind fun l => if l.length ≤ 4096 then some (.tup l) else none
  | _ + 1, _ => none

section
variable {prog : Program} {w : World} {K : Frag} {mg mb : Str → Option Value} {t : Bool} {X : Act} {n : Nat} {ρ : List Slot} {B : Pm} {s : Shared} {A : Around} {E : Value → Shared → Prop}

theorem lit_star {m : Nat} {e : Expr} {v : V} {rest : List Expr} {env : Env} (h : litE m e = some v) : starEach (e :: rest) env = (false, eval e env) :: starEach rest env := by
  cases m with
  | zero => cases h
  | succ m => cases e <;> first | rfl | cases h
theorem lits_evl {m : Nat} (ih : ∀ e v, litE m e = some v → EvE prog w K mg mb t X n e (fun _ => some v)) {pos : Pos} : ∀ (es : List Expr) (l : List V), mapO (litE m) es = some l → EvL prog w K mg mb t X n (backTo pos (starEach es X.env)) (fun _ => some l)
  | [], l, h => by cases h; exact evl_nil
  | e :: r, l, h => by
    obtain ⟨v, hv, h2⟩ := Option.bind_eq_some_iff.mp h
    obtain ⟨l', hl, rfl⟩ := Option.map_eq_some_iff.mp h2
    exact evl_cons (ih e v hv) (lits_evl ih r l' hl) (lit_star hv)
theorem ev_lit : ∀ (m : Nat) (e : Expr) (v : V), litE m e = some v → EvE prog w K mg mb t X n e (fun _ => some v)
  | 0, _, _, h => by cases h
  | m + 1, e, v, h => by
    unfold litE at h
    split at h
    · cases h
    · cases h; exact ev_str
    · cases h; exact ev_int
    · rename_i es _ hm
      cases hm
      obtain ⟨l, hl, h2⟩ := Option.bind_eq_some_iff.mp h
      have e2 : (fun ρ : List Slot => ((fun _ => some l) ρ : Option (List V)).bind lstV) = fun _ => some v := by funext ρ; exact h2
      rw [← e2]
      exact ev_list (lits_evl (ev_lit _) es l hl)
    · rename_i es _ _ hm
      cases hm
      obtain ⟨l, hl, h2⟩ := Option.bind_eq_some_iff.mp h
      have e2 : (fun ρ : List Slot => ((fun _ => some l) ρ : Option (List V)).bind fun l => if l.length ≤ 4096 then some (V.tup l) else none) = fun _ => some v := by funext ρ; exact h2
      rw [← e2]
      exact ev_tup (lits_evl (ev_lit _) es l hl)
    · cases h

/-- x = [.. for ..] by the road that swaps the names -/
theorem st_comp {scope : Scope} {cl : List (Str × Addr)} {x y : Str} (ok : ActOK X) (i : Nat) (hy : X.names[i]? = some y) (hk : Stable X y) (fnames : List Str) (fr : List Nat) (_ : ActOK X) {ifs : List Expr} {elt iter : Expr} {px py pos spos : Pos} {pe : List Slot → Option V} {pc : List Slot → Option Bool} {pi : List Slot → Option (List V)} (c : CompOK X scope cl x fnames fr)
    (hit : ItW prog w K mg mb t X n iter pi)
    (helt : ∀ (C : Addr) (h0 : Heap) (B0 : Pm), ActOK (CX X scope cl C x fnames h0 B0) → EvR prog w K mg mb false (CX X scope cl C x fnames h0 B0) n elt pe)
    (hifs : (ifs = [] ∧ ∀ ρ, pc ρ = some true) ∨ (∃ e1, ifs = [e1] ∧ ∀ (C : Addr) (h0 : Heap) (B0 : Pm), ActOK (CX X scope cl C x fnames h0 B0) → TsE prog w K mg mb false (CX X scope cl C x fnames h0 B0) n e1 pc))
    (hloc : X.env.kindOf y = some .local := by rfl)
    (hsw : swapsWith (.ListComp elt [⟨.Name x px, iter, ifs, 0⟩] scope pos) (some (.Name y py)) spos.line X.env = pure true := by rfl)
    (hs : ∀ x, foldedSetIterable iter X.env x = pure x := by intro _; rfl) :
    ExE prog w K mg mb t X n (exec (.Assign [.Name y py] (.ListComp elt [⟨.Name x px, iter, ifs, 0⟩] scope pos) spos) X.env) (fun ρ => (pComp pi fr pe pc ρ).map fun l => (.next, setS ρ i (.val (.lst l)))) := .mk fun A ρ B s Q E f ρ' hr h e k => by
  obtain ⟨res, e2, e2'⟩ := Option.map_eq_some_iff.mp e
  cases e2'
  obtain ⟨vs, evs, e3⟩ := Option.bind_eq_some_iff.mp e2
  obtain ⟨sl, esl, e4⟩ := Option.bind_eq_some_iff.mp e3
  obtain ⟨res', er, e5⟩ := Option.bind_eq_some_iff.mp e4
  split at e5
  · rename_i hlen
    cases e5
    refine wpAny_Assign_ListComp_free (w := w) (prog := prog) (PV w B (fun a => pc (.val a :: sl))) (FV w B (fun a => pe (.val a :: sl))) hsw c.hclos c.hcell c.hkind c.hnames c.hx hloc (by rw [ok.fn]; rfl) ?_ hs
    refine hit.run A ρ B s _ E vs hr h evs fun fp m P St s1 o B1 r1 l1 k1 W st0 hfp hm hm2 hP hi hf => ?_
    have h1 : SR w K mg mb X ρ B s1 := h.step (r1.g.down l1 h.g.stat) (Le.refl B) k1 (fun _ _ q => .inl q)
    have hP' : ∀ i v val, vs[i]? = some v → P i val → VR w B v val := fun i v val hv hp => (hP i v val hv hp).sc (compV_mem er v (List.mem_of_getElem? hv)).1
    obtain ⟨mm, hmm⟩ := id r1.frame
    have hLlt := hmm.lt
    refine ⟨_, fp, [s1.heap.objs.size], m, P, St, mm, rfl, W, Nat.le_trans hm2 (by rw [sizeLine_eq]; omega), st0, hfp, (fun hb => by rw [List.mem_singleton] at hb; rw [hb] at hLlt; exact Nat.lt_irrefl _ hLlt), hmm.push _, comp_quiet ok c hr h1 esl er hP' (fun i val hp => by rw [hm]; exact hi i val hp) helt hifs, ?_⟩
    intro D h' tk ys vals hD hl hpl hlen' hvP hpair hn' hk'
    have vrs : VRs w B res ys.toList := compV_paired (vs := vs) (vals := vals) (vrs_of_get (hlen'.trans hm.symm) fun i v x a b => hP' i v x a (hvP i x b)) er hpair
    have kp : ∀ b o', b ≠ X.env.locals → s1.heap.get? b = some o' → h'.get? b = some o' := fun b o' hbL e => hk' b o' hbL (fun hb => by rw [List.mem_singleton] at hb; exact absurd (Heap.lt_size e) (by rw [hb]; exact Nat.lt_irrefl _)) (Heap.get?_push_of_some _ e)
    have hfD : s1.heap.get? D = none := by
      cases q : s1.heap.get? D with
      | none => rfl
      | some o' =>
        have hD : (s1.heap.push o).get? D = none := hD
        rw [Heap.get?_push_of_some _ q] at hD; cases hD
    obtain ⟨nn, ho⟩ := hpl
    obtain ⟨oL, esL, epL, eL, dL, kL, fL⟩ := id hmm
    obtain ⟨oL', esL', epL', eL', dL', kL', fL'⟩ := id hn'
    have hDL : D ≠ X.env.locals := fun q => by rw [q, eL] at hfD; cases hfD
    -- the heap before the store
    have hfree : oL.isFreed = false := by
      obtain ⟨c1, d1, t1, s1'⟩ := oL
      have dL : t1 = _ := dL
      subst dL; rfl
    have hH : (h'.update X.env.locals fun _ => oL).get? X.env.locals = some oL := Heap.get?_update_self (f := fun _ => oL) eL' hfree
    have hHo : ∀ b, b ≠ X.env.locals → (h'.update X.env.locals fun _ => oL).get? b = h'.get? b := fun b hb => Heap.get?_update_other h' _ hb.symm
    have kpH : ∀ b o', s1.heap.get? b = some o' → (h'.update X.env.locals fun _ => oL).get? b = some o' := fun b o' e => by
      by_cases hb : b = X.env.locals
      · subst hb; rw [hH, ← eL, e]
      · rw [hHo b hb]; exact kp b o' hb e
    have lD := put_le (o := { cls := .type "list", data := .seq ys nn }) (r1.g.sub.none hfD)
    have hoH : (h'.update X.env.locals fun _ => oL).get? D = some { cls := .type "list", data := .seq ys nn } := by rw [hHo D hDL]; exact ho
    have r2 := r1.step (t := t) (r1.g.put kpH hfD hoH tk) lD (Kp.heap s1 tk kpH) (Grow.put hfD)
    have st : Stored X { s1 with heap := h'.update X.env.locals fun _ => oL, toks := tk } h' y (.ref D) := by
      refine ⟨.inl ⟨hloc, _, hn', by simp⟩, fun z v hz hv => ?_, fun b o' hb _ e => by rw [← hHo b hb]; exact e, ⟨_, hn'⟩, fun z cc hc => ?_⟩
      · rcases hv with ⟨q1, m', q2, q3⟩ | ⟨q1, cc, q2, o', q3, q4⟩
        · refine .inl ⟨q1, _, hn', ?_⟩
          simp only [hz, if_false]
          obtain ⟨o1, es1, ep1, z1, z2, _, z4⟩ := q2
          rw [hH] at z1; cases z1
          rw [dL] at z2; cases z2
          rw [← fL z, z4 z, q3]
        · exact .inr ⟨q1, cc, q2, o', by rw [← hHo cc (ok.neC z cc q2)]; exact q3, q4⟩
      · obtain ⟨v, o', e, d⟩ := r1.cellLive z cc hc
        exact ⟨v, o', kp cc o' (ok.neC z cc hc) e, d⟩
    have r3 := r2.store (tk := tk) ok hy st (.inl ⟨.lst res, rfl, .lst (vs := ys.toList) (n := nn) (by rw [put_self]) (vrs.le (l1.trans lD))⟩)
    exact k .next _ _ r3 (l1.trans lD) (((k1.trans (Kp.heap s1 tk kpH)).go h.g.tab).trans (Go.heap r2.g.tab (st.tab r2))) trivial
  · cases e5

/-- own list += a list -/
theorem fills_iadd_list : fillsInplaceSlot (.type "list") "add" true = pure false := by
  unfold fillsInplaceSlot
  have := PySem.F.slot_list_iadd.lookup
  show (typeLookup (.type "list") (dunderI "add") >>= fun fi => pure (fi.isSome && !(true && isSeqSlot fi))) = pure false
  rw [this]
  rfl
theorem seq_iadd_list : seqSlot? (.type "list") (dunderI "add") = pure (some (.builtin "list.__iadd__")) := PySem.seqSlot_of PySem.F.slot_list_iadd.lookup (by decide +kernel)
theorem iadd_list {a b : Addr} {xs ys : Array Value} {m m2 : Nat} {Q : Value → Shared → Prop} (ha : s.heap.get? a = some { cls := .type "list", data := .seq xs m }) (hb : s.heap.get? b = some { cls := .type "list", data := .seq ys m2 }) (hz : xs.size + ys.size ≤ 2 ^ 20)
    (hQ : ∀ h' nn, h'.get? a = some { cls := .type "list", data := .seq (xs ++ ys) nn } → Heap.SameBut a s.heap h' → Q (.ref a) { s with heap := h' }) : wpAny (model prog w) A (inplaceOp .Add (.ref a) (.ref b)) Q E s := by
  have hTa : s.TypeIs (.ref a) "list" := ⟨_, ha, rfl⟩
  have hTb : s.TypeIs (.ref b) "list" := ⟨_, hb, rfl⟩
  unfold inplaceOp
  refine wpAny_holding ?_
  refine wpAny_bind (wpAny_typeOf hTa (wpAny_bind (wpAny_of_eq (a := false) fills_iadd_list ?_)))
  rw [if_neg Bool.false_ne_true]
  refine wpAny_bind (wpAny_binaryOp1_none (nm := "add") hTa hTb noFill_list_add ?_)
  refine wpAny_bind (wpAny_of_eq seq_iadd_list ?_)
  refine wpAny_bind (wpAny_rule ?_)
  have e1 : (2 : Nat) ^ 20 = 1048576 := by decide
  have hs := sizeLine_eq
  rw [e1] at hz
  have fin : ∀ Q' : Value → Shared → Prop, (∀ h' nn, h'.get? a = some { cls := .type "list", data := .seq (xs ++ ys) nn } → Heap.SameBut a s.heap h' → Q' (.ref a) { s with heap := h' }) → wpAny (model prog w) A (call (.builtin "list.__iadd__") [.ref a, .ref b]) Q' E s := by
    intro Q' hQ'
    refine call_meets PySem.F.slot_list_iadd hTa PySem.F.entry_list_iadd (PySem.F.args_list_iadd_2 _ _) (AutoSeq1.list___iadd___list_list_0 a xs m b ys m2 ?_ ?_ ?_) ⟨ha, hb, ?_⟩
    · simp [Builtin.List.listTooLong]; intro _; omega
    · omega
    · omega
    · obtain ⟨n', hd'⟩ := Obj.data_mapSeq (o := { cls := .type "list", data := .seq xs m }) rfl (fun x => x ++ ys)
      have h2 : (Obj.mapSeq (fun x => x ++ ys) { cls := .type "list", data := .seq xs m }) = { cls := .type "list", data := .seq (xs ++ ys) n' } := by
        have : (Obj.mapSeq (fun x => x ++ ys) { cls := .type "list", data := .seq xs m }) = { cls := .type "list", data := (Obj.mapSeq (fun x => x ++ ys) { cls := .type "list", data := .seq xs m }).data } := rfl
        rw [this, hd']
      refine hQ' _ n' ?_ (Heap.SameBut.update ..)
      rw [Heap.get?_update_self _ ha (Obj.isFreed_of_seq hd'), h2]
  first
    | exact fin Q hQ
    | exact wpAny_bind (fin _ fun h' nn z1 z2 => wpAny_pure (hQ h' nn z1 z2))

noncomputable def pExt (i : Nat) (p : List Slot → Option V) : PS := fun ρ => (getown i ρ).bind fun l => (p ρ).bind fun v => match v with
  | .lst l2 => if l.length + l2.length ≤ 4096 then some (.next, setS ρ i (.own (l ++ l2))) else none
  | _ => none
theorem st_extend (ok : ActOK X) (i : Nat) {x : Str} {e1 : Expr} {px pos : Pos} {p : List Slot → Option V} (hx : X.names[i]? = some x) (hk : Stable X x) (h1 : EvE prog w K mg mb t X n e1 p) (hn : (x == ("__classdict__" : Str)) = false := by decide) :
    ExE prog w K mg mb t X n (exec (.AugAssign (.Name x px) .Add e1 pos) X.env) (pExt i p) := .mk fun A ρ B s Q E f ρ' hr h e k => by
  obtain ⟨l, el, e⟩ := Option.bind_eq_some_iff.mp e
  obtain ⟨v, ev, e⟩ := Option.bind_eq_some_iff.mp e
  cases v with
  | lst l2 =>
    dsimp only at e
    split at e
    · rename_i hz
      cases e
      obtain ⟨a, vs, va, _, pl, _⟩ := h.own hx el
      refine wpAny_AugAssign_Name (load_var ok.fn va ?_ hn)
      refine h1.run A ρ B s _ E _ hr h ev fun val s1 B1 r1 l1 k1 vr => ?_
      obtain ⟨a', vs', va', ba', pl', vrs'⟩ := r1.own hx el
      have := (va.kp h.g.tab k1).unique va'
      injection this with this
      subst this
      obtain ⟨kk, plo⟩ := id pl'
      cases vr with
      | @lst _ b ys m hb hs =>
        refine iadd_list plo (r1.g.sub _ _ hb) ?_ fun h' nn ho hsb => ?_
        · rw [List.size_toArray, List.size_toArray, vrs'.length, hs.length]
          have e1 : (2 : Nat) ^ 20 = 1048576 := by decide
          omega
        · have pl'' : h'.PlainList a (vs' ++ ys).toArray := ⟨nn, by rw [ho]; simp⟩
          obtain ⟨r, kt, va2⟩ := r1.mutate (tk := s1.toks) hx (getown_at el) rfl (sl := .own (l ++ l2)) rfl va' (fun b o hb q => (hsb.2 b hb).trans q) ⟨ba'.1, ba'.2, _, pl'', vrs'.append hs⟩
          refine store_var ok r hk fun h2 tk2 st => ?_
          have hset : setS (ρ.set i (.own (l ++ l2))) i (.own (l ++ l2)) = setS ρ i (.own (l ++ l2)) := by
            unfold setS; rw [List.map_set, List.set_set]
          have ap : Apart X (ρ.set i (.own (l ++ l2))) { s1 with heap := h' } i a := by
            intro j sb y e0 os hne hy b hbv
            rw [List.getElem?_set_ne hne.symm] at e0
            obtain ⟨ad, q1, q2⟩ := id r1.slots
            have hli : i < X.names.length := (List.getElem?_eq_some_iff.mp hx).1
            have hlj : j < X.names.length := (List.getElem?_eq_some_iff.mp hy).1
            have zi := q1 i x _ hx (getown_at el)
            have zia := zi.1.unique va'
            injection zia with zia
            obtain ⟨ad2, p1, p2⟩ := id r.slots
            have e0' : (ρ.set i (.own (l ++ l2)))[j]? = some sb := by rw [List.getElem?_set_ne hne.symm]; exact e0
            have ei' : (ρ.set i (.own (l ++ l2)))[i]? = some (.own (l ++ l2)) := by rw [List.getElem?_set_self (List.getElem?_eq_some_iff.mp (getown_at el)).1]
            have zj := p1 j y sb hy e0'
            have zi2 := p1 i x _ hx ei'
            have zi2a := zi2.1.unique va2
            injection zi2a with zi2a
            have zjv : VarAt X.env h' y (.ref (ad2 j)) := by
              cases sb with
              | own l => exact zj.1
              | ownd l => exact zj.1
              | _ => cases os
            have := zjv.unique hbv
            injection this with this
            rw [← this, ← zi2a]
            intro q
            exact hne (p2 j i _ _ hlj hli e0' ei' os rfl q)
          have r3 := r.store (tk := tk2) (sl := .own (l ++ l2)) ok hx st (.inr (.inr ⟨a, rfl, ⟨ba'.1, ba'.2, _, pl'', vrs'.append hs⟩, ap⟩))
          rw [hset] at r3
          exact k .next _ B1 r3 l1 (((k1.go h.g.tab).trans (Go.heap r1.g.tab kt)).trans (Go.heap r.g.tab (st.tab r))) trivial
    · cases e
  | _ => cases e
end
end Mine
end

section
namespace Mine
open PySem PySem.Calls PySem.Spec PySem.W PyProof.Rows
set_option maxRecDepth 100000
open Builtin Builtin.Str in
theorem gives_find4 (x y : PySem.Str) (i j : Int) (t u v v2 : Tok) : Gives (Builtin.«str.find» ⟨[.str x t, .str y u, .int i v, .int j v2], []⟩) (.int (match occurrences x y (fromIndex x.length i) (min (fromIndex x.length j) x.length) 1 with | k :: _ => (k : Int) | [] => -1)) := by
  show Gives (match occurrences x y (fromIndex x.length i) (min (fromIndex x.length j) x.length) 1 with | k :: _ => retInt k | [] => (do rule "str.find.not-found"; retInt (-1))) _
  cases occurrences x y (fromIndex x.length i) (min (fromIndex x.length j) x.length) 1 with
  | nil => exact .rule (.of_eq rfl)
  | cons k _ => exact .of_eq rfl

section
variable {prog : Program} {w : World} {K : Frag} {mg mb : PySem.Str → Option Value} {t : Bool} {X : Act} {n : Nat} {ρ : List Slot} {B : Pm} {s : Shared} {A : Around} {E : Value → Shared → Prop}
noncomputable def findV (x y : PySem.Str) (i j : Int) : Int := match Builtin.Str.occurrences x y (fromIndex x.length i) (min (fromIndex x.length j) x.length) 1 with
  | k :: _ => (k : Int)
  | [] => -1
noncomputable def pf_find : List V → Option V
  | [.str x, .str y, .int i, .int j] => some (.int (findV x y i j))
  | _ => none
theorem me_find : MeE prog w K mg mb "find" "str.find" pf_find := ⟨PySem.F.slot_str_find, PySem.F.type_str_find, fun A args vals B s Q E r hr g va e k => by
  unfold pf_find at e
  split at e
  · cases e
    cases va with | cons a b => cases b with | cons b c => cases c with | cons c d => cases d with | cons d z =>
      cases z; cases a; cases b; cases c; cases d
      exact call_gives PySem.F.slot_str_find (typeIs_str _ _ _) PySem.F.entry_str_find (PySem.F.args_str_find_4 _ _ _ _) (gives_find4 _ _ _ _ _ _ _ _) (k.tok g (.int _ _) _)
  · cases e⟩
noncomputable def pf_replace : List V → Option V
  | [.str x, .str y, .str _] => if (Builtin.Str.occurrences x y 0 x.length (x.length + 1)).isEmpty then some (.str x) else none
  | _ => none
theorem me_replace : MeE prog w K mg mb "replace" "str.replace" pf_replace := ⟨PySem.F.slot_str_replace, PySem.F.type_str_replace, fun A args vals B s Q E r hr g va e k => by
  unfold pf_replace at e
  split at e
  · split at e
    · rename_i hc
      cases e
      cases va with | cons a b => cases b with | cons b c => cases c with | cons c d =>
        cases d; cases a; cases b; cases c
        refine call_gives PySem.F.slot_str_replace (typeIs_str _ _ _) PySem.F.entry_str_replace (PySem.F.args_str_replace_3 _ _ _) (gives_str_replace _ _ _ _ _ _ ?_) ?_
        · intro q; rw [hc] at q; cases q
        · rw [hc]; exact k.same g (.str _ _)
    · cases e
  · cases e⟩
noncomputable def vFstr : V → Option V
  | .str x => if x.length ≤ 4096 then some (.str (((Str.empty ++ ("[" : PySem.Str)) ++ x) ++ ("]" : PySem.Str))) else none
  | _ => none
theorem ev_fstr {e1 : Expr} {k1 k2 : Nat} {p1 p2 p3 pos : Pos} {p : List Slot → Option V} (h1 : EvE prog w K mg mb t X n e1 p) :
    EvE prog w K mg mb t X n (.JoinedStr [.Constant (.str "[") k1 p1, .FormattedValue e1 (-1) none p2, .Constant (.str "]") k2 p3] pos) (fun ρ => (p ρ).bind vFstr) := .mk fun A ρ B s Q E v hr h e k => by
  obtain ⟨a, ea, e⟩ := Option.bind_eq_some_iff.mp e
  unfold vFstr at e
  split at e
  · rename_i x
    split at e
    · rename_i hx
      cases e
      refine JoinedStr_many (joinParts_cons (Constant_str ⟨by decide, joinParts_cons (FormattedValue_plain (h1.run A ρ B _ _ E _ hr (h.toks _) ea fun val s1 B1 r1 l1 k1 v1 => ?_))⟩))
      cases v1
      have hl : (Str.empty ++ ("[" : PySem.Str) ++ x).length = 1 + x.length := by
        rw [strLen_append]; rfl
      refine formatField_str (fun t' tk => ⟨by rw [hl, sizeLine_eq]; omega, joinParts_cons (Constant_str ⟨?_, joinParts_nil ?_ ?_⟩)⟩) (line_of hx)
      · rw [strLen_append, hl, sizeLine_eq]
        show 1 + x.length + 1 ≤ _
        omega
      · exact k _ _ B1 (((r1.toks tk).toks _).toks _) l1 (((Kp.toks s _).trans k1).trans ((Kp.toks s1 tk).trans ((Kp.toks _ _).trans (Kp.toks _ _)))) (.str _ _)
      · rw [strLen_append, hl, sizeLine_eq]
        show 1 + x.length + 1 ≤ _
        omega
    · cases e
  · cases e
end
end Mine
end

section
namespace Mine
open PySem PySem.Calls PySem.Spec PySem.W PyProof.Rows
set_option maxRecDepth 100000

/-- the pattern machine, some turns of it -/
noncomputable def driveV : Nat → Sre.M → Option Sre.M
  | 0, _ => none
  | k + 1, m => if (m.runFor Builtin.Re.reTurnSteps).outcome.isSome then some (m.runFor Builtin.Re.reTurnSteps) else driveV k (m.runFor Builtin.Re.reTurnSteps)
noncomputable def failed (m : Sre.M) : Bool := match (driveV 60 m).bind (·.outcome) with
  | some .failed => true
  | _ => false
section
variable {prog : Program} {w : World} {A : Around} {E : Value → Shared → Prop} {s : Shared}
theorem drive_ok {Q : Sre.M → Shared → Prop} : ∀ (k turns : Nat) (m m' : Sre.M), k ≤ turns → driveV k m = some m' → Q m' s → wpAny (model prog w) A (Builtin.Re.reDrive turns m) Q E s
  | 0, _, _, _, _, h, _ => by cases h
  | k + 1, 0, _, _, h, _, _ => by omega
  | k + 1, turns + 1, m, m', hk, h, hq => by
    unfold Builtin.Re.reDrive
    unfold driveV at h
    dsimp only
    split at h
    · rename_i hs
      cases h
      rw [if_pos hs]; exact wpAny_pure hq
    · rename_i hs
      rw [if_neg hs]
      exact wpAny_bind (wpAny_rule (drive_ok k turns _ m' (by omega) h hq))
theorem next_none {t : Builtin.Re.ReTarget} {Q : Option Sre.M → Shared → Prop} (h : failed (Sre.forSearch t.code t.text t.groups 0 t.lim false) = true) (hq : Q none s) : wpAny (model prog w) A (Builtin.Re.reNextFound t 0 false) Q E s := by
  unfold Builtin.Re.reNextFound Builtin.Re.reRunToEnd
  unfold failed at h
  split at h
  · rename_i ho
    obtain ⟨m', h1, h2⟩ := Option.bind_eq_some_iff.mp ho
    refine wpAny_bind (drive_ok 60 _ _ m' ?_ h1 ?_)
    · exact Nat.le_of_ble_eq_true (by decide +kernel)
    refine wpAny_bind ?_
    refine wpAny_forIn_list _ (fun _ _ s' => s' = s) _ ?_ ?_ _ _ rfl
    · rintro x rest b s' rfl
      split
      · exact wpAny_bind (wpAny_rule (wpAny_pure rfl))
      · exact wpAny_pure rfl
    · rintro b s' rfl
      rw [h2]
      exact wpAny_pure hq
  · cases h
end

/-- the class [&~|] met nowhere -/
noncomputable def subCode : Array Nat := #[14, 14, 4, 1, 1, 9, 0, 64, 0, 1342177280, 0, 0, 0, 0, 0, 17, 0, 13, 11, 9, 0, 64, 0, 1342177280, 0, 0, 0, 0, 0, 17, 1, 1]
theorem miss_a : failed (Sre.forSearch subCode #[33, 97] 1 0 2 false) = true := by decide +kernel
theorem miss_b : failed (Sre.forSearch subCode #[97, 45, 99] 1 0 3 false) = true := by decide +kernel
end Mine
end

section
namespace Mine
open PySem PySem.Calls PySem.Spec PySem.W PyProof.Rows
set_option maxRecDepth 100000
theorem slot_sub : PySem.Slot "re.Pattern" "sub" "re.Pattern.sub" :=
  .of (owner := "re.Pattern") (n := "sub") (by rw [typeLookup_type, builtinLookup_eq_fast]; kernel_rfl) (by decide +kernel) (by decide +kernel) (by decide +kernel)
    (by first | exact .inl (by decide +kernel) | exact .inr (by decide +kernel)) (by rw [isSubtype_type]; kernel_rfl)
theorem entry_sub : entryFor table "re.Pattern.sub" = some Builtin.«re.Pattern.sub» := entryFor_of_tree (by kernel_rfl)
theorem entry_subloop : entryFor table "re.Pattern.sub.loop" = some Builtin.«re.Pattern.sub.loop» := entryFor_of_tree (by kernel_rfl)
theorem args_sub (a b c : Value) : argsOk "re.Pattern.sub" ⟨[a, b, c], []⟩ := by unfold argsOk; kernel_rfl
theorem type_sub : typeOf (.builtin "re.Pattern.sub") = pure (.type "method_descriptor") := by show builtinType _ = _; rw [builtinType_eq_fast]; kernel_rfl
theorem plain_subloop : plainId "re.Pattern.sub.loop" = true := by decide +kernel
theorem pa_pattern : PlainAttrs "re.Pattern" := ⟨⟨"object.__getattribute__", by rw [typeLookup_type, builtinLookup_eq_fast]; kernel_rfl, by decide +kernel⟩, by rw [typeLookup_type, builtinLookup_eq_fast]; kernel_rfl⟩
theorem sub_str_ba : isSubtype (.type "str") (.type "bytearray") = pure false := by rw [isSubtype_type]; kernel_rfl
theorem fn_call : typeLookup (.type "function") "__call__" = pure (some (.builtin "function.__call__")) := by rw [typeLookup_type, builtinLookup_eq_fast]; kernel_rfl

section
variable {prog : Program} {w : World} {A : Around} {E : Value → Shared → Prop} {s : Shared}

theorem whole_target {p c : Addr} {x : Str} {u u1 u2 : Tok} {k : Nat} {pt : Value} {Q : Builtin.Re.ReTarget → Shared → Prop} {cs : Array Value} (hp : s.heap.get? p = some { cls := .type "re.Pattern", data := .fields #[pt, .int 32 u1, .int 1 u2, .none, .none, .ref c, .int 0 0] })
    (hc : s.heap.get? c = some { cls := .type "tuple", data := .seq cs k })
    (hQ : Q { pattern := .ref p, string := .str x u, code := (cs.map Builtin.Re.reRawOf).map (·.toNat), text := x.cps, kind := 0, groups := 1, pos := 0, lim := x.cps.size } s) :
    wpAny (model prog w) A (Builtin.Re.reWholeTarget (.ref p) (.str x u)) Q E s := by
  obtain ⟨hp', g, d, tk, os⟩ := s
  unfold Builtin.Re.reWholeTarget
  repeat (any_goals (first | assumption | exact hQ | wp_step))

theorem sub_loop {p c f L : Addr} {x : Str} {u u1 u2 : Tok} {k kL : Nat} {pt : Value} {Q : Fin → Shared → Prop} {cs : Array Value} (hp : s.heap.get? p = some { cls := .type "re.Pattern", data := .fields #[pt, .int 32 u1, .int 1 u2, .none, .none, .ref c, .int 0 0] })
    (hc : s.heap.get? c = some { cls := .type "tuple", data := .seq cs k }) (hL : s.heap.get? L = some { cls := .type "list", data := .seq #[] kL })
    (hfail : failed (Sre.forSearch ((cs.map Builtin.Re.reRawOf).map (·.toNat)) x.cps 1 0 x.cps.size false) = true) (hx : 0 < x.cps.size) (hx2 : x.cps.size ≤ 4096)
    (hQ : ∀ t' h' tk, (∀ b o, b ≠ L → s.heap.get? b = some o → h'.get? b = some o) → Q (.done (.ret (.str x t'))) { s with heap := h', toks := tk }) :
    wpAny (model prog w) A (Builtin.«re.Pattern.sub.loop» ⟨[.ref p, .str x u, .ref f, rawInt 1, rawInt 0, rawInt 0, rawInt 0, rawInt 0, .bool false, .ref L, .bool false], []⟩) Q E s := by
  unfold Builtin.«re.Pattern.sub.loop»
  refine wpAny_bind (whole_target hp hc ?_)
  rw [if_neg (by decide)]
  dsimp only
  rw [if_neg (by decide)]
  refine wpAny_bind (next_none hfail ?_)
  dsimp only
  rw [if_pos (by simpa using hx)]
  have hex : (x.cps.extract (Int.toNat 0) x.cps.size) = x.cps := by simp
  refine wpAny_bind (m := Builtin.Re.reSlice x.cps 0 (Int.toNat 0) x.cps.size) ?_
  show wpAny _ _ (mkStr ⟨x.cps.extract (Int.toNat 0) x.cps.size⟩) _ _ _
  rw [hex]
  refine wpAny_mkStr ?_ (line_of hx2)
  refine wpAny_bind (wpAny_updateSeq hL rfl ?_)
  refine wpAny_bind (m := Builtin.Re.reSlice x.cps 0 0 0) ?_
  show wpAny _ _ (mkStr ⟨x.cps.extract 0 0⟩) _ _ _
  refine wpAny_mkStr ?_ (by simp [Str.length])
  have hL2 : (s.heap.update L (Obj.mapSeq fun y => y.push (.str ⟨x.cps⟩ s.toks))).get? L = some { cls := .type "list", data := .seq #[.str x s.toks] (kL + 1) } := Heap.get?_update_self _ hL rfl
  refine wpAny_bind (wpAny_seqItems hL2 rfl ?_)
  rw [if_neg (by simp)]
  refine wpAny_bind ?_
  show wpAny _ _ (call (.builtin "str.join") [.str ⟨x.cps.extract 0 0⟩ _, .ref L]) _ _ _
  have hj : JoinOk ⟨x.cps.extract 0 0⟩ [x] = true := by
    have hl : (⟨x.cps.extract 0 0⟩ : Str).length = 0 := by simp [Str.length]
    have hl2 : x.length ≤ 4096 := hx2
    unfold JoinOk Builtin.Str.tooLong
    simp only [List.foldl_toArray', List.foldl_cons, List.foldl_nil, hl]
    rw [sizeLine_eq, decide_eq_false (by omega)]; rfl
  refine SC.join (l := [(x, s.toks)]) ⟨_, hL2, rfl, _, rfl⟩ rfl hj fun t' tk => ?_
  rw [if_neg Bool.false_ne_true]
  refine wpAny_pure ?_
  have hjx : Txt.join ⟨x.cps.extract 0 0⟩ [x] = x := rfl
  show Q (.done (.ret (.str (Txt.join ⟨x.cps.extract 0 0⟩ [x]) t'))) _
  rw [hjx]
  exact hQ t' _ _ fun b o hb e => (Heap.get?_update_other _ _ hb.symm).trans e

theorem call_sub {p c f : Addr} {of : Obj} {x : Str} {u u1 u2 : Tok} {k : Nat} {pt : Value} {Q : Value → Shared → Prop} {cs : Array Value} (hp : s.heap.get? p = some { cls := .type "re.Pattern", data := .fields #[pt, .int 32 u1, .int 1 u2, .none, .none, .ref c, .int 0 0] })
    (hc : s.heap.get? c = some { cls := .type "tuple", data := .seq cs k }) (hfn : s.heap.get? f = some of) (hfc : of.cls = .type "function")
    (hfail : failed (Sre.forSearch ((cs.map Builtin.Re.reRawOf).map (·.toNat)) x.cps 1 0 x.cps.size false) = true) (hx : 0 < x.cps.size) (hx2 : x.cps.size ≤ 4096)
    (hQ : ∀ t' h' tk, (∀ b o, s.heap.get? b = some o → h'.get? b = some o) → Q (.str x t') { s with heap := h', toks := tk }) :
    wpAny (model prog w) A (call (.builtin "re.Pattern.sub") [.ref p, .ref f, .str x u]) Q E s := by
  have hTf : s.TypeIs (.ref f) "function" := ⟨_, hfn, hfc⟩
  refine wpAny_call (codeAny_call_builtin slot_sub.plain entry_sub (slot_sub.check _ _ _ _ _ _ _ _ (show s.TypeIs (.ref p) "re.Pattern" from ⟨_, hp, rfl⟩) (args_sub _ _ _) ?_))
  unfold Builtin.«re.Pattern.sub» Builtin.Re.reSubstitute
  dsimp only
  refine wpAny_bind (wpAny_of_eq (a := [some (.ref f), some (.str x u), none]) (by first | rfl | kernel_rfl) ?_)
  refine wpAny_bind (wpAny_pure ?_)
  refine wpAny_bind (wpAny_specialOf hTf fn_call ?_)
  rw [if_pos (show (some (Value.builtin "function.__call__")).isSome = true from rfl)]
  refine wpAny_bind (wpAny_pure ?_)
  rw [if_pos (show (some (Value.builtin "function.__call__")).isSome = true from rfl)]
  refine wpAny_bind (wpAny_pure ?_)
  refine wpAny_bind (wpAny_holding (whole_target hp hc ?_))
  rw [if_pos (by rfl)]
  refine wpAny_bind (m := Builtin.Re.reNotHeld "re.Pattern.sub" (.str x u)) ?_
  unfold Builtin.Re.reNotHeld
  refine wpAny_bind (wpAny_isInstance (T := "str") (b := false) (typeIs_str _ _ _) sub_str_ba ?_)
  rw [if_neg Bool.false_ne_true]
  refine wpAny_pure ?_
  refine wpAny_bind (wpAny_newObj_type ?_ (by size_fits))
  refine wpAny_pure ⟨plainId_quiet plain_subloop _, codeAny_builtin entry_subloop ?_⟩
  rw [Around.under_plainId plain_subloop]
  have kp : ∀ b o, s.heap.get? b = some o → (s.heap.push { cls := .type "list", data := .seq ([] : List Value).toArray }).get? b = some o := fun _ _ e => Heap.get?_push_of_some _ e
  refine sub_loop (s := { s with heap := s.heap.push { cls := .type "list", data := .seq ([] : List Value).toArray } }) (kp _ _ hp) (kp _ _ hc) (Heap.get?_push_size _ rfl) hfail hx hx2 fun t' h' tk hk => ?_
  exact hQ t' h' tk fun b o e => hk b o (Nat.ne_of_lt (Heap.lt_size e)) (kp b o e)
end
end Mine
end

section
namespace Mine
open PySem PySem.Calls PySem.Spec PySem.W PyProof.Rows
set_option maxRecDepth 100000
section
variable {prog : Program} {w : World} {K : Frag} {mg mb : Str → Option Value} {X : Act} {n : Nat} {ρ : List Slot} {B : Pm} {s : Shared} {A : Around} {E : Value → Shared → Prop}

/-- the state after code went into the table, and some new objects -/
theorem SR.table {h' : Heap} {tk : Nat} {ps : Array Value} (h : SR w K mg mb X ρ B s) (hx : Heap.ExtBut tbA s.heap h') (hp : h'.get? tbA = some (tabObj ps)) (ht : TriplesOk ps.toList) :
    SR w K mg mb X ρ B { s with heap := h', toks := tk } ∧ Kp true s { s with heap := h', toks := tk } := by
  have k : Kp true s { s with heap := h', toks := tk } := ⟨rfl, fun b o hb e => hx b o (hb rfl) e, (fun q => nomatch q), id⟩
  refine ⟨h.step (t := true) ⟨fun b o e => hx b o (fun q => by rw [q, h.g.tabB] at e; cases e) (h.g.sub b o e), h.g.stat, h.g.tabB, ⟨ps, hp, ht⟩⟩ (Le.refl B) k (fun _ _ e => .inl e), k⟩

theorem ev_lambda {c : Addr} {params : Arguments} {body : Expr} {scope : Scope} {pos : Pos} {Q : Value → Shared → Prop} {cl : List (Str × Addr)} (ok : ActOK X) (h : SR w K mg mb X ρ B s) (hdef : defaultsOf params X.env = ([], [])) (hcl : closureFor scope X.env = pure cl) (hcode : X.env.code = .ref c) (C : CodeHd s.heap c tbA) (hM : BigK K)
    (k : ∀ f of s', SR w K mg mb X ρ B s' → Kp true s s' → s'.heap.get? f = some of → of.cls = .type "function" → Q (.ref f) s') :
    wpAny (model prog w) A (eval (.Lambda params body scope pos) X.env) Q E s := by
  obtain ⟨ps, hP, ht⟩ := h.g.tab
  have sH := statH h.g
  have hb : s.heap.BuiltinsAt mg tbA := by
    obtain ⟨bm, ob, h1, h2, h3, h4, h5, h6, h7⟩ := sH.bmain
    refine ⟨bm, ob, h1, h2, ?_, h3, h4, h5, h6, h7⟩
    rintro rfl
    obtain ⟨o, es, ep, e, d, _⟩ := sH.g
    rw [h4] at e; cases e
    rw [h7] at d; cases d
  refine kla_eval hdef ?_
  cases hf : codeAmong pos ps.toList with
  | none =>
    refine kla_makeFunction hcl ok.glob sH.g hcode C hP ht hf (by decide) hb fun c' ctv h' tk hx hge hlt hrec htb => ?_
    have ht' : TriplesOk (ps ++ #[rawInt pos.line, rawInt pos.col, .ref c']).toList := by
      rw [Array.toList_append]
      exact TriplesOk_snoc _ _ _ _ ht
    obtain ⟨r1, k1⟩ := h.table (tk := tk) hx htb ht'
    exact k _ _ _ (r1.drop) (k1.trans (Kp.heap _ tk fun _ _ e => Heap.get?_push_of_some _ e)) (Heap.get?_push_size _ rfl) rfl
  | some cv =>
    refine kla_makeFunctionHit hcl ok.glob sH.g hcode C hP ht hf hb fun ctv h' tk hk hsz => ?_
    have r1 := h.ext hk tk
    exact k _ _ _ (r1.drop) ((Kp.heap s tk hk).trans (Kp.heap _ tk fun _ _ e => Heap.get?_push_of_some _ e)) (Heap.get?_push_size _ rfl) rfl

noncomputable def subOk (x : PySem.Str) : Bool := x.cps.toList == [33, 97] || x.cps.toList == [97, 45, 99]
theorem subOk_miss {x : PySem.Str} (h : subOk x = true) : failed (Sre.forSearch subCode x.cps 1 0 x.cps.size false) = true ∧ 0 < x.cps.size ∧ x.cps.size ≤ 4096 := by
  unfold subOk at h
  obtain ⟨⟨l⟩⟩ := x
  simp only [Bool.or_eq_true, beq_iff_eq] at h
  rcases h with rfl | rfl
  · exact ⟨miss_a, by decide, by decide⟩
  · exact ⟨miss_b, by decide, by decide⟩
noncomputable def pSub (i : Nat) : PS := fun ρ => (getv i ρ).bind fun v => match v with
  | .str x => if subOk x then some (.next, setS ρ i (.val (.str x))) else none
  | _ => none
theorem st_sub (ok : ActOK X) (i : Nat) {x g : PySem.Str} {p cp c : Addr} {pt : Value} {u1 u2 : Tok} {k0 : Nat} {cs : Array Value} {params : Arguments} {body : Expr} {scope : Scope} {px px2 gp lpos apos pos spos : Pos} {cl : List (PySem.Str × Addr)} (hx : X.names[i]? = some x) (hk : Stable X x)
    (hg : X.env.kindOf g = some .globalImplicit) (e : nsIn K mainGlobals g = some (some (.ref p)))
    (hp : K.lookup p = some { cls := .type "re.Pattern", data := .fields #[pt, .int 32 u1, .int 1 u2, .none, .none, .ref cp, .int 0 0] }) (hc : K.lookup cp = some { cls := .type "tuple", data := .seq cs k0 })
    (hcs : (cs.map Builtin.Re.reRawOf).map (·.toNat) = subCode)
    (hdef : defaultsOf params X.env = ([], [])) (hcl : closureFor scope X.env = pure cl) (hcode : X.env.code = .ref c) (C : ∀ h, K.In h → CodeHd h c tbA) (hM : BigK K)
    (hd : (g == ("__debug__" : PySem.Str)) = false := by decide)
    (hd2 : (x == ("__debug__" : PySem.Str)) = false := by decide) (hn2 : (x == ("__classdict__" : PySem.Str)) = false := by decide)
    (hbase : attributeBase (.Name g gp) "sub" X.env (eval (.Name g gp) X.env) = eval (.Name g gp) X.env := by rfl)
    (hfew : ((backTo pos (starEach [.Lambda params body scope lpos, .Name x px2] X.env)).all (fun x => !x.1) && (backToKw pos (keywordEach [] X.env)).all (fun x => x.1.isSome)
      && decide (([.Lambda params body scope lpos, .Name x px2] : List Expr).length + ([] : List Keyword).length + (if ([] : List Keyword).isEmpty then 0 else 1) < 30)) = true := by rfl)
    (hline : (apos.endLine == pos.line) = true := by rfl)
    (he : backTo pos (starEach [.Lambda params body scope lpos, .Name x px2] X.env) = [(false, eval (.Lambda params body scope lpos) X.env), (false, eval (.Name x px2) X.env)] := by rfl)
    (hs : swapsWith (.Call (.Attribute (.Name g gp) "sub" apos) [.Lambda params body scope lpos, .Name x px2] [] pos) (some (.Name x px)) spos.line X.env = pure false := by rfl) :
    ExE prog w K mg mb true X n (exec (.Assign [.Name x px] (.Call (.Attribute (.Name g gp) "sub" apos) [.Lambda params body scope lpos, .Name x px2] [] pos) spos) X.env) (pSub i) := .mk fun A ρ B s Q E f ρ' hr h e' k => by
  obtain ⟨v, ev, e'⟩ := Option.bind_eq_some_iff.mp e'
  cases v with
  | str xs =>
    dsimp only at e'
    split at e'
    · rename_i hso
      cases e'
      obtain ⟨m1, m2, m3⟩ := subOk_miss hso
      refine wpAny_Assign_Name ?_ hs
      refine wpAny_Call_method_lateS hbase hfew hline (load_glob ok h.g hg e ?_ hd)
      have hpB : ∀ {s1 : Shared} {B1 : Pm}, SR w K mg mb X ρ B1 s1 → s1.heap.get? p = _ := fun r => r.g.sub _ _ (r.g.stat.inB _ _ hp)
      have hcB : ∀ {s1 : Shared} {B1 : Pm}, SR w K mg mb X ρ B1 s1 → s1.heap.get? cp = _ := fun r => r.g.sub _ _ (r.g.stat.inB _ _ hc)
      refine ⟨"re.Pattern", "re.Pattern.sub", pa_pattern, slot_sub, type_sub, ⟨_, hpB h, rfl⟩, (fun b q => by cases q; exact ⟨_, hpB h, rfl⟩), ?_⟩
      rw [he]
      refine callWith_builtin rfl (evalArgs_plain (Calls.spliced_cons (ev_lambda ok h hdef hcl hcode (C _ (statH h.g).inK) hM fun fa of s1 r1 k1 hfa hfc => ?_)))
      obtain ⟨val, va, vr⟩ := r1.var hx ev
      cases vr with
      | str _ tx =>
        refine Calls.spliced_cons (wpAny_Name (load_var ok.fn va ?_ hn2) hd2)
        refine Calls.spliced_nil ?_
        refine call_sub (hpB r1) (hcB r1) hfa hfc (by rw [hcs]; exact m1) m2 m3 fun t' h' tk kp => ?_
        have r2 := r1.ext kp tk
        refine store_var ok r2 hk fun h2 tk2 st => ?_
        exact k .next _ B (r2.store ok hx st (.inl ⟨.str xs, rfl, .str _ _⟩)) (Le.refl B) (((k1.trans (Kp.heap s1 tk kp)).go h.g.tab).trans (Go.heap r2.g.tab (st.tab r2))) trivial
    · cases e'
  | _ => cases e'
end
end Mine
end

section
namespace Mine
open PySem PySem.Calls PySem.Spec PySem.W PyProof.Rows
set_option maxRecDepth 100000

noncomputable def txsV (pe : List Slot → Option V) : List V → Option (List PySem.Str)
  | [] => some []
  | a :: r => (pe [.val a]).bind fun y => match y with
    | .str x => (txsV pe r).map (x :: ·)
    | _ => none
theorem txsV_get {pe : List Slot → Option V} : ∀ {vs : List V} {txs : List PySem.Str}, txsV pe vs = some txs → txs.length = vs.length ∧ ∀ (i : Nat) (a : V), vs[i]? = some a → ∃ x, pe [.val a] = some (.str x) ∧ txs[i]? = some x
  | [], txs, e => by cases e; exact ⟨rfl, fun i a q => by cases q⟩
  | v :: r, txs, e => by
    unfold txsV at e
    obtain ⟨y, ey, e⟩ := Option.bind_eq_some_iff.mp e
    cases y with
    | str x =>
      obtain ⟨t', e2, rfl⟩ := Option.map_eq_some_iff.mp e
      obtain ⟨l1, l2⟩ := txsV_get e2
      refine ⟨congrArg (· + 1) l1, fun i a q => ?_⟩
      cases i with
      | zero => cases q; exact ⟨x, ey, rfl⟩
      | succ i => exact l2 i a q
    | _ => cases e

noncomputable def pJG (p0 pi pe : List Slot → Option V) : List Slot → Option V := fun ρ => (p0 ρ).bind fun a => match a with
  | .str sep => (pi ρ).bind fun v => match v with
    | .lst vs => (txsV pe vs).bind fun txs => if txs.length ≤ 4096 ∧ JoinOk sep txs = true then some (.str (Txt.join sep txs)) else none
    | _ => none
  | _ => none

section
variable {prog : Program} {w : World} {K : Frag} {mg mb : Str → Option Value} {X : Act} {n : Nat} {ρ : List Slot} {B : Pm} {s : Shared} {A : Around} {E : Value → Shared → Prop}

noncomputable abbrev GX (X : Act) (scope : Scope) (C : Addr) (code : Value) (x : PySem.Str) (h0 : Heap) (B0 : Pm) : Act := ⟨genEnv scope [] C code builtinsNs X.env, [x], h0, B0, false⟩
theorem gen_act {scope : Scope} {x : PySem.Str} {C : Addr} {code : Value} {h0 : Heap} {B0 : Pm} (ok : ActOK X) (hk : scope.kind = .function) (hC : h0.get? C = none) (sb : Sub B0 h0) : ActOK (GX X scope C code x h0 B0) :=
  ⟨hk, List.nodup_cons.mpr ⟨List.not_mem_nil, List.nodup_nil⟩, ok.glob, rfl, hC, (fun _ _ q => nomatch q), (fun _ _ q => nomatch q), (fun _ _ _ q => nomatch q), sb⟩
theorem gen_sr {scope : Scope} {x : PySem.Str} {C : Addr} {code : Value} {s2 : Shared} {m2 : PySem.Str → Option Value} {a : V} {v : Value} (g : G0 K mg mb B s) (hx : scope.names.lookup x = some .local)
    (kp : ∀ b o, b ≠ tbA → s.heap.get? b = some o → s2.heap.get? b = some o) (ht : TabOK s2.heap) (hC : s.heap.get? C = none) (hn : s2.heap.Ns C m2) (hm : m2 x = some v) (vr : VR w B a v) :
    SR w K mg mb (GX X scope C code x s.heap B) [.val a] B s2 := by
  refine ⟨⟨fun b o e => kp b o (fun q => by rw [q, g.tabB] at e; cases e) (g.sub b o e), g.stat, g.tabB, ht⟩, kp, fun b o e => .inl e, Le.refl B, ⟨m2, hn⟩, g.sub.none hC, (fun _ _ q => nomatch q), (fun _ _ q => nomatch q), fun _ => 0, fun i y sb hy hs => ?_, fun i j p q _ _ ea eb oa _ _ => ?_⟩
  · cases i with
    | zero => cases hy; cases hs; exact ⟨v, .inl ⟨hx, m2, hn, hm⟩, vr⟩
    | succ j => cases hy
  · cases i with
    | zero => cases ea; cases oa
    | succ j => cases ea

/-- the generator's own code, with the table grown or not -/
theorem gen_code {c : Addr} {scope : Scope} {pos : Pos} {qn : PySem.Str} {Q : Value → Shared → Prop} (g : G0 K mg mb B s) (hcode : X.env.code = .ref c) (C : CodeHd s.heap c tbA)
    (k : ∀ cv h' tk, (∀ b o, b ≠ tbA → s.heap.get? b = some o → h'.get? b = some o) → s.heap.objs.size ≤ h'.objs.size → TabOK h' → Q cv { s with heap := h', toks := tk }) :
    wpAny (model prog w) A (genexprCode X.env pos qn scope) Q E s := by
  obtain ⟨ps, hP, ht⟩ := g.tab
  cases hf : codeAmong pos ps.toList with
  | none =>
    refine wpAny_genexprCodeX hcode (C.code hP ht) (C.tab hP) hf fun c' h' tk hx hge hlt _ _ htb _ => ?_
    refine k _ h' tk (fun b o hb e => hx b o hb e) (Nat.le_trans hge (Nat.le_of_lt hlt)) ⟨_, htb.2, ?_⟩
    rw [Array.toList_append]
    exact TriplesOk_snoc _ _ _ _ ht
  | some cv =>
    exact wpAny_genexprCode_hit hcode (C.code hP ht) hf (k cv s.heap s.toks (fun _ _ _ e => e) (Nat.le_refl _) ⟨ps, hP, ht⟩)

theorem ev_joingen {c : Addr} {o elt iter : Expr} {x : PySem.Str} {px gpos apos pos : Pos} {scope : Scope} {p0 pi pe : List Slot → Option V} (ok : ActOK X) (hcode : X.env.code = .ref c) (C : ∀ h, K.In h → CodeHd h c tbA)
    (h0 : EvE prog w K mg mb true X (n + 1) o p0) (hi : EvE prog w K mg mb true X (n + 1) iter pi)
    (helt : ∀ (C : Addr) (code : Value) (h0 : Heap) (B0 : Pm), ActOK (GX X scope C code x h0 B0) → EvE prog w K mg mb false (GX X scope C code x h0 B0) n elt pe)
    (hco : scope.isCoroutine = false) (hclos : closureFor scope X.env = pure []) (hcell : ∀ y ∈ scope.names, y.2 ≠ .cell) (hz : scope.names.lookup (".0" : PySem.Str) = some NameKind.local)
    (hx : scope.names.lookup x = some .local) (hkind : scope.kind = .function)
    (hbase : attributeBase o "join" X.env (eval o X.env) = eval o X.env := by rfl)
    (hfew : ((backTo pos (starEach [.GeneratorExp elt [⟨.Name x px, iter, [], 0⟩] scope gpos] X.env)).all (fun x => !x.1) && (backToKw pos (keywordEach [] X.env)).all (fun x => x.1.isSome)
      && decide (([.GeneratorExp elt [⟨.Name x px, iter, [], 0⟩] scope gpos] : List Expr).length + ([] : List Keyword).length + (if ([] : List Keyword).isEmpty then 0 else 1) < 30)) = true := by rfl)
    (hline : (apos.endLine == pos.line) = true := by rfl)
    (he : backTo pos (starEach [.GeneratorExp elt [⟨.Name x px, iter, [], 0⟩] scope gpos] X.env) = [(false, eval (.GeneratorExp elt [⟨.Name x px, iter, [], 0⟩] scope gpos) X.env)] := by rfl)
    (hs : ∀ v, genFold iter X.env v = pure v := by intro _; rfl) :
    EvE prog w K mg mb true X (n + 1) (.Call (.Attribute o "join" apos) [.GeneratorExp elt [⟨.Name x px, iter, [], 0⟩] scope gpos] [] pos) (pJG p0 pi pe) := .mk fun A ρ B s Q E v hr h e' k => by
  obtain ⟨a, ea, e'⟩ := Option.bind_eq_some_iff.mp e'
  cases a with
  | str sep =>
    obtain ⟨lv, el, e'⟩ := Option.bind_eq_some_iff.mp e'
    cases lv with
    | lst vs =>
      obtain ⟨txs, et, e'⟩ := Option.bind_eq_some_iff.mp e'
      split at e'
      · rename_i hj
        cases e'
        obtain ⟨t1, t2⟩ := txsV_get et
        refine wpAny_Call_method_lateS hbase hfew hline (h0.run A ρ B s _ E _ hr h ea fun va s1 B1 r1 l1 k1 v1 => ?_)
        cases v1 with
        | str _ tk0 =>
        refine ⟨"str", "str.join", PySem.F.plainAttrs_str, PySem.F.slot_str_join, PySem.F.type_str_join, typeIs_str _ _ _, (fun _ e => nomatch e), ?_⟩
        rw [he]
        refine callWith_builtin rfl (evalArgs_plain (Calls.spliced_cons ?_))
        refine wpAny_GeneratorExp_walksQD hr.hh hco hclos hcell hz hx hkind hr.here ?_ hs
        refine hi.run A ρ B1 s1 _ E _ hr r1 el fun lval s2 B2 r2 l2 k2 v2 => ?_
        cases v2 with
        | @lst _ la xs m ha hsx =>
        have hl : s2.heap.IsList la xs.toArray := ⟨_, r2.g.sub _ _ ha, rfl, _, rfl⟩
        have hne : la ≠ s2.heap.objs.size := Nat.ne_of_lt (Heap.lt_size (r2.g.sub _ _ ha))
        refine wpAny_pyIter_list hl ?_
        have r3 := r2.drop (o := { cls := .type "list_iterator", data := .fields #[.ref la, .int 0 0] })
        refine ⟨(statH r3.g).lim, gen_code r3.g hcode (C _ (statH r3.g).inK) fun cv h4 tk4 kp4 sz4 tab4 => ?_⟩
        have g4 : G0 K mg mb B2 { s2 with heap := h4, toks := tk4 } := ⟨fun b o e => kp4 b o (fun q => by rw [q, r2.g.tabB] at e; cases e) (r3.g.sub b o e), r2.g.stat, r2.g.tabB, tab4⟩
        obtain ⟨bm, ob, b1, b2, b3, b4, b5, b6, b7⟩ := (statH g4).bmain
        refine wpAny_builtinsFor (by rw [ok.glob]; exact (statH g4).g) b1 b2 b4 b5 b6 b7 ?_
        have sz9 : (s2.heap.push { cls := .type "list_iterator", data := .fields #[.ref la, .int 0 0] }).objs.size ≤ h4.objs.size := sz4
        rw [Heap.size_push] at sz9
        have kp24 : ∀ b o, b ≠ tbA → s2.heap.get? b = some o → h4.get? b = some o := fun b o hb e => kp4 b o hb (Heap.get?_push_of_some _ e)
        have iT : s2.heap.objs.size ≠ tbA := fun q => by
          obtain ⟨ps, hP, _⟩ := r2.g.tab
          have := Heap.lt_size hP
          rw [q] at this; exact Nat.lt_irrefl _ this
        have laT : la ≠ tbA := fun q => by rw [q, r2.g.tabB] at ha; cases ha
        have hit : h4.get? s2.heap.objs.size = some { cls := .type "list_iterator", data := .fields #[.ref la, .int 0 0] } := kp4 _ _ iT (Heap.get?_push_size _ rfl)
        have hla : h4.get? la = some _ := kp24 _ _ laT (r2.g.sub _ _ ha)
        have laI : la < s2.heap.objs.size := Heap.lt_size (r2.g.sub _ _ ha)
        have hlen : txs.length = xs.toArray.size := by rw [List.size_toArray, hsx.length]; exact t1
        refine ⟨s2.heap.objs.size, [s2.heap.objs.size, la], [s2.heap.objs.size], xs.toArray.size, _, _, fun _ => true, fun i y => ∃ x u, txs[i]? = some x ∧ y = .str x u, rfl,
          (fun A' hA => Walks.list hA s2.heap.objs.size la hne xs.toArray), ⟨⟨_, hit, rfl, rfl⟩, ⟨_, hla, rfl, _, rfl⟩⟩, ?_, (statH g4).lim, ?_, ?_, ?_⟩
        · intro b hb
          show b < h4.objs.size
          rcases List.mem_cons.mp hb with rfl | hb
          · exact Nat.lt_of_lt_of_le (Nat.lt_succ_self _) sz9
          · rw [List.mem_singleton] at hb; subst hb; exact Nat.lt_of_lt_of_le (Nat.lt_succ_of_lt laI) sz9
        · intro hb
          rw [List.mem_singleton] at hb
          obtain ⟨_, hns, _⟩ := (statH r2.g).lim
          exact absurd hns.lt (by rw [hb]; exact Nat.lt_irrefl _)
        · intro href hhref
          have hC : s2.heap.get? h4.objs.size = none := fresh _ (by omega)
          have act := gen_act (x := x) (scope := scope) (C := h4.objs.size) (code := cv) ok hkind hC r2.g.sub
          have kq : ∀ s3 : Shared, (∀ b ∈ List.range h4.objs.size, b ∉ [s2.heap.objs.size] → ∀ o, href.get? b = some o → s3.heap.get? b = some o) → ∀ b o, b ≠ s2.heap.objs.size → h4.get? b = some o → s3.heap.get? b = some o :=
            fun s3 kk b o hb e => kk b (List.mem_range.mpr (Heap.lt_size e)) (fun q => hb (List.mem_singleton.mp q)) o (hhref b o e)
          refine ⟨fun A' E' i v s3 m3 _ _ _ _ _ _ _ => ?_, fun A' E' i v s3 m3 hh hd hu hp _ hn hm kk => ?_⟩
          · rw [List.forIn_nil]
            exact wpAny_pure ⟨rfl, s3.heap, s3.toks, rfl, fun _ _ e => e⟩
          · have hp : xs[i]? = some v := by simpa using hp
            obtain ⟨a, hva, vr⟩ := hsx.get' i v hp
            obtain ⟨tx, ptx, etx⟩ := t2 i a hva
            have kk' := kq s3 kk
            have tab3 : TabOK s3.heap := by
              obtain ⟨ps, hP, ht⟩ := tab4
              exact ⟨ps, kk' _ _ (Ne.symm iT) hP, ht⟩
            have sr := gen_sr (X := X) (scope := scope) (x := x) (code := cv) (s2 := s3) r2.g hx (fun b o hb e => kk' b o (Nat.ne_of_lt (Heap.lt_size e)) (kp24 b o hb e)) tab3 hC hn hm vr
            have rm : Room n A' := ⟨hh, by have := hr.depth; omega, by have := hr.units; omega⟩
            refine (helt h4.objs.size cv s2.heap B2 act).run A' _ B2 s3 _ E' _ rm sr ptx fun val s5 B5 r5 l5 k5 v5 => ?_
            cases v5 with
            | str _ u =>
            refine ⟨⟨tx, u, etx, rfl⟩, ?_⟩
            obtain ⟨h5, tk5, e5⟩ := k5.small rfl
            subst e5
            exact ⟨h5, tk5, rfl, fun b o e => k5.keep b o (fun q => nomatch q) e⟩
        · intro ga h5 tk5 gs hgb hga hsz5 kp5 W hat
          refine Calls.spliced_nil ?_
          have kp25 : ∀ b o, b ≠ tbA → s2.heap.get? b = some o → h5.get? b = some o := fun b o hb e => kp5 b o (kp24 b o hb e)
          have hpn : (passing (fun _ => true) xs.toArray.size 0) = List.range xs.toArray.size := by
            unfold passing
            rw [List.drop_zero]
            exact List.filter_eq_self.mpr fun _ _ => rfl
          refine SC.joinGen W.in4_2 (fun i s' st => st.1.typeIs) hat ?_ List.mem_cons_self (fun j v hv => let ⟨i, _, x, u, _, e⟩ := hv; ⟨x, u, e⟩) (fun s' lt hm hacc => ?_) ?_
          · intro b hb
            show b < h5.objs.size
            have hga : h4.objs.size < ga := hga
            have hsz5 : h5.objs.size = ga + 1 := hsz5
            rw [hsz5]
            rcases List.mem_cons.mp hb with rfl | hb
            · exact Nat.lt_succ_self _
            · rcases List.mem_cons.mp hb with rfl | hb
              · exact Nat.lt_succ_of_lt hga
              · exact Nat.lt_succ_of_lt (Nat.lt_trans (List.mem_range.mp hb) hga)
          · have hlt : lt.map (·.1) = txs := by
              rw [hpn, List.length_range] at hacc
              have hsz : lt.length = xs.toArray.size := by simpa [strValues] using hacc.1
              apply List.ext_getElem?
              intro j
              by_cases hjl : j < xs.toArray.size
              · have hj' : j < lt.length := hsz ▸ hjl
                obtain ⟨i, hi1, y, u, hy, hv⟩ := hacc.2 j (.str lt[j].1 lt[j].2) (by simp [strValues, List.getElem?_eq_getElem hj'])
                rw [List.getElem?_range hjl] at hi1
                cases hi1
                injection hv with q1 _
                rw [hy, List.getElem?_map, List.getElem?_eq_getElem hj', Option.map_some, q1]
              · rw [List.getElem?_eq_none (by simpa [hsz] using Nat.le_of_not_lt hjl), List.getElem?_eq_none (by rw [hlen]; exact Nat.le_of_not_lt hjl)]
            rw [hlt]
            refine ⟨hj.2, fun t' tk' => ?_⟩
            have kp26 : ∀ b o, b ≠ tbA → s2.heap.get? b = some o → s'.heap.get? b = some o := fun b o hb e => hm.heap b o (fun q => by
              have lt := Heap.lt_size e
              rcases List.mem_cons.mp q with q | q
              · rw [q] at lt
                have lt : h4.objs.size < s2.heap.objs.size := lt
                exact Nat.lt_irrefl _ (Nat.lt_trans lt (Nat.lt_of_lt_of_le (Nat.lt_succ_self _) sz9))
              · rw [List.mem_singleton] at q; rw [q] at lt; exact Nat.lt_irrefl _ lt) (kp25 b o hb e)
            have tab6 : TabOK s'.heap := by
              obtain ⟨ps, hP, ht⟩ := tab4
              refine ⟨ps, hm.heap _ _ (fun q => ?_) (kp5 _ _ hP), ht⟩
              have lt : tbA < h4.objs.size := Heap.lt_size hP
              have lt' := lt
              rcases List.mem_cons.mp q with q | q
              · have q : tbA = h4.objs.size := q
                exact absurd (q ▸ lt) (Nat.lt_irrefl _)
              · rw [List.mem_singleton] at q; exact iT q.symm
            have kk : Kp true s2 { s' with toks := tk' } := ⟨hm.os, fun b o hb e => kp26 b o (hb rfl) e, (fun q => nomatch q), fun hb => AllBare.moved (AllBare.push hb hgb) hm.gens⟩
            have g6 : G0 K mg mb B2 { s' with toks := tk' } := ⟨fun b o e => kp26 b o (fun q => by rw [q, r2.g.tabB] at e; cases e) (r2.g.sub b o e), r2.g.stat, r2.g.tabB, tab6⟩
            exact k _ _ B2 (r2.step g6 (Le.refl B2) kk (fun _ _ e => .inl e)) (l1.trans l2) (k1.trans (k2.trans kk)) (.str _ _)
          · rw [hpn, List.length_range, ← hlen, sizeLine_eq]
            have := hj.1
            omega
      · cases e'
    | _ => cases e'
  | _ => cases e'
end
end Mine
end

section
namespace Mine
open PySem PySem.Calls PySem.Spec PySem.W PyProof.Rows
set_option maxRecDepth 100000

noncomputable section
noncomputable abbrev KK (P : Params) : Frag := kFr P
noncomputable abbrev FnC (fv : Addr) (t : Bool) (n : Nat) (pf : List V → Option V) : Prop :=
  ∀ (prog : Program) (w : World) (P : Params) (mg mb : Str → Option Value), FnE prog w (KK P) mg mb t fv n pf
theorem bigK {P : Params} : BigK (KK P) := ⟨45, _, by decide, rfl⟩
noncomputable def tableV : V := .tup [.tup [.tup [.int 40960, .str "l"], .tup [.int 49152, .str "s"], .tup [.int 32768, .str "-"], .tup [.int 24576, .str "b"], .tup [.int 16384, .str "d"], .tup [.int 8192, .str "c"], .tup [.int 4096, .str "p"]], .tup [.tup [.int 256, .str "r"]], .tup [.tup [.int 128, .str "w"]], .tup [.tup [.int 2112, .str "s"], .tup [.int 2048, .str "S"], .tup [.int 64, .str "x"]], .tup [.tup [.int 32, .str "r"]], .tup [.tup [.int 16, .str "w"]], .tup [.tup [.int 1032, .str "s"], .tup [.int 1024, .str "S"], .tup [.int 8, .str "x"]], .tup [.tup [.int 4, .str "r"]], .tup [.tup [.int 2, .str "w"]], .tup [.tup [.int 513, .str "t"], .tup [.int 512, .str "T"], .tup [.int 1, .str "x"]]]
noncomputable def partsV : V := .lst [.tup [.str "*", .lst [.str "*01"]], .tup [.str "?", .lst [.str "*0"]], .tup [.str "a", .lst [.str "=0"]], .tup [.str "ab", .lst [.str "=1"]], .tup [.str "..", .lst [.str ".."]], .tup [.str ".", .lst [.str "."]], .tup [.str "?b", .lst [.str "*1"]], .tup [.str "a/*", .lst [.str "=0", .str "*01"]], .tup [.str "/a*", .lst [.str "*01"]], .tup [.str "", .lst []], .tup [.str "*//", .lst [.str "*01"]], .tup [.str "[!a]?", .lst [.str "*"]], .tup [.str "../[a-c]*", .lst [.str "..", .str "*01"]], .tup [.str "c", .lst [.str "="]]]
noncomputable def exprAt (P : Params) : Expr := match (KK P).lookup 262 with
  | some ⟨_, _, .func fd, _⟩ => (match fd.body with | .stmts (.Assign _ e _ :: _) => e | _ => .Constant (.int 0) 0 ⟨0,0,0,0⟩)
  | _ => .Constant (.int 0) 0 ⟨0,0,0,0⟩
theorem parts_lit (P : Params) : litE 5 (exprAt P) = some partsV := by kernel_rfl
theorem ev_parts {prog : Program} {w : World} {P : Params} {K : Frag} {mg mb : Str → Option Value} {t : Bool} {X : Act} {n : Nat} {e : Expr} {v : V} (hv : v = partsV) (he : e = exprAt P) : EvE prog w K mg mb t X n e (fun _ => some v) := ev_lit 5 e v (by rw [he, hv]; exact parts_lit P)
theorem table_vr {w : World} {P : Params} : ∀ B : Pm, (∀ a o, (KK P).lookup a = some o → B a = some o) → VR w B tableV (.ref 85) := fun B hB => by
  unfold tableV
  repeat (first | exact .nil | exact .int _ _ | exact .str _ _ | refine .cons ?_ ?_ | refine .tup (hB _ _ rfl) ?_)
theorem keysOf_bool {prog : Program} {w : World} {es : Array DictEntry} (h : es.all (fun e => match e.key with | .int k _ => e.hash == hashInt k | _ => false) = true) : KeysOf (intKind prog w) es := fun e he => by
  rw [Array.all_eq_true'] at h
  have := h e he
  split at this
  · rename_i k tk hk
    exact ⟨k, by rw [hk]; simp [intKind, Value.isInt], by simpa [intKind] using this⟩
  · cases this
theorem trTab {prog : Program} {w : World} {P : Params} : TrTab prog w (KK P) 99 := by
  refine ⟨fun k => findBy (intKind prog w).is (match (KK P).lookup 99 with | some ⟨_, _, .dict es _, _⟩ => es | _ => #[]) k, fun h X => ⟨_, _, _, X _ _ rfl, ⟨rfl, rfl, rfl⟩, rfl, keysOf_bool (by decide +kernel), fun k => rfl⟩, by decide, by rfl, by rfl, by rfl, ⟨_, by rfl⟩⟩
theorem cHd {P : Params} : ∀ h, (KK P).In h → CodeHd h 115 tbA := fun h X => codeHd_of_K X rfl
end
section
variable {prog : Program} {w : World} {K : Frag} {mg mb : Str → Option Value} {t : Bool} {X : Act} {n : Nat}
theorem xs_dead {m : Sem Flow} : ExE prog w K mg mb t X n m (fun _ => none) := .mk fun _ _ _ _ _ _ _ _ _ _ e _ => nomatch e
theorem ev_dead {e : Expr} : EvE prog w K mg mb t X n e (fun _ => none) := .mk fun _ _ _ _ _ _ _ _ _ e _ => nomatch e
end
end Mine
end

section
namespace Mine
open PySem PySem.Calls PySem.Spec PySem.W PyProof.Rows
set_option maxRecDepth 100000
set_option Elab.async false
set_option maxHeartbeats 4000000
noncomputable section
noncomputable def BD_S_IFMT : { pb : PS // FnC 45 false 5 (pfun 1 1 pb) } := ⟨_, fun prog w P mg mb =>
  have h4 : 4 ≤ 4 := by decide
  fn_intro2 (K := KK P) ["mode"] 1 rfl rfl rfl rfl rfl rfl rfl rfl rfl rfl (by decide) (by decide) (by decide)
    (fun vals h => match vals, h with | [a], _ => rfl)
    fun h0 B0 L ok =>
  (xs_cons (st_return (ev_bin (ev_name ok 0 rfl) ev_int))
 xs_nil)⟩
noncomputable def PF_S_IFMT : List V → Option V := pfun 1 1 BD_S_IFMT.1
theorem FN_S_IFMT : FnC 45 false 5 PF_S_IFMT := BD_S_IFMT.2

noncomputable def BD_S_ISDIR : { pb : PS // FnC 52 false 6 (pfun 1 1 pb) } := ⟨_, fun prog w P mg mb =>
  have h4 : 4 ≤ 5 := by decide
  fn_intro2 (K := KK P) ["mode"] 1 rfl rfl rfl rfl rfl rfl rfl rfl rfl rfl (by decide) (by decide) (by decide)
    (fun vals h => match vals, h with | [a], _ => rfl)
    fun h0 B0 L ok =>
  (xs_cons (st_return (ev_cmp h4 (ev_call ok (FN_S_IFMT prog w P mg mb) (by decide) rfl rfl rfl (evl_cons (ev_name ok 0 rfl) evl_nil)) (ev_glob ok rfl rfl (fun _ _ => .int _ _))))
 xs_nil)⟩
noncomputable def PF_S_ISDIR : List V → Option V := pfun 1 1 BD_S_ISDIR.1
theorem FN_S_ISDIR : FnC 52 false 6 PF_S_ISDIR := BD_S_ISDIR.2

noncomputable def BD__get_sep : { pb : PS // FnC 203 false 5 (pfun 1 1 pb) } := ⟨_, fun prog w P mg mb =>
  have h4 : 4 ≤ 4 := by decide
  fn_intro2 (K := KK P) ["path"] 1 rfl rfl rfl rfl rfl rfl rfl rfl rfl rfl (by decide) (by decide) (by decide)
    (fun vals h => match vals, h with | [a], _ => rfl)
    fun h0 B0 L ok =>
  (xs_cons (st_if (ts_ev (ev_bcall ok h4 co_isinstance rfl rfl rfl (evl_cons (ev_name ok 0 rfl) (evl_cons (ev_booty ok rfl rfl rfl) evl_nil))))
 (xs_cons xs_dead
 xs_nil)
 (xs_cons (st_return ev_str)
 xs_nil))
 xs_nil)⟩
noncomputable def PF__get_sep : List V → Option V := pfun 1 1 BD__get_sep.1
theorem FN__get_sep : FnC 203 false 5 PF__get_sep := BD__get_sep.2

noncomputable def BD__law_modes : { pb : PS // FnC 257 false 5 (pfun 4 1 pb) } := ⟨_, fun prog w P mg mb =>
  have h4 : 4 ≤ 4 := by decide
  fn_intro2 (K := KK P) ["numbers", "modes", "number", "kind"] 1 rfl rfl rfl rfl rfl rfl rfl rfl rfl rfl (by decide) (by decide) (by decide)
    (fun vals h => match vals, h with | [a], _ => rfl)
    fun h0 B0 L ok =>
  (xs_cons (st_new ok 1 rfl ⟨rfl, .inl rfl⟩ (evl_cons ev_int evl_nil))
 (xs_cons (st_for ok (it_val ok (ev_slice (ev_name ok 0 rfl) (evp_some ev_int) evp_none evp_none)) (.inl ⟨_, _, rfl⟩) (as_name ok 2 rfl ⟨rfl, .inl rfl⟩)
 (xs_cons (st_assign ok 3 rfl ⟨rfl, .inl rfl⟩ (ev_if (ts_cmp h4 (ev_bin (ev_name ok 2 rfl) ev_int) ev_int) ev_int (ev_bin (ev_bin (ev_name ok 2 rfl) ev_int) ev_int)))
 (xs_cons (st_append ok 1 rfl (ev_bin (ev_bin (ev_bin ev_int (ev_bin (ev_name ok 2 rfl) ev_int)) (ev_bin ev_int (ev_name ok 3 rfl))) (ev_bin (ev_bin (ev_name ok 2 rfl) ev_int) ev_int)))
 xs_nil))
 xs_nil)
 (xs_cons (xs_frz 1 rfl (st_return (ev_name ok 1 rfl)))
 xs_nil)))⟩
noncomputable def PF__law_modes : List V → Option V := pfun 4 1 BD__law_modes.1
theorem FN__law_modes : FnC 257 false 5 PF__law_modes := BD__law_modes.2

noncomputable def BD__law_signs : { pb : PS // FnC 302 false 5 (pfun 4 1 pb) } := ⟨_, fun prog w P mg mb =>
  have h4 : 4 ≤ 4 := by decide
  fn_intro2 (K := KK P) ["mode", "row", "k", "rights"] 1 rfl rfl rfl rfl rfl rfl rfl rfl rfl rfl (by decide) (by decide) (by decide)
    (fun vals h => match vals, h with | [a], _ => rfl)
    fun h0 B0 L ok =>
  (xs_cons (st_assign ok 1 rfl ⟨rfl, .inl rfl⟩ (ev_idx ev_str (ev_bin (ev_bin (ev_name ok 0 rfl) ev_int) ev_int)))
 (xs_cons (st_for ok (it_range ok rfl rfl (evl_cons ev_int evl_nil)) (.inl ⟨_, _, rfl⟩) (as_name ok 2 rfl ⟨rfl, .inl rfl⟩)
 (xs_cons (st_assign ok 3 rfl ⟨rfl, .inl rfl⟩ (ev_bin (ev_bin (ev_name ok 0 rfl) (ev_bin ev_int (ev_bin ev_int (ev_name ok 2 rfl)))) ev_int))
 (xs_cons (st_aug ok 1 rfl ⟨rfl, .inl rfl⟩ (ev_bin (ev_idx ev_str (ev_bin (ev_name ok 3 rfl) ev_int)) (ev_idx ev_str (ev_bin (ev_bin (ev_name ok 3 rfl) ev_int) ev_int))))
 (xs_cons (st_aug ok 1 rfl ⟨rfl, .inl rfl⟩ (ev_idx (ev_idx (ev_list (evl_cons ev_str (evl_cons ev_str (evl_cons ev_str evl_nil)))) (ev_name ok 2 rfl)) (ev_bin (ev_bin (ev_name ok 3 rfl) ev_int) (ev_bin ev_int (ev_bin (ev_bin (ev_name ok 0 rfl) (ev_bin ev_int (ev_bin ev_int (ev_name ok 2 rfl)))) ev_int)))))
 xs_nil)))
 xs_nil)
 (xs_cons (st_return (ev_name ok 1 rfl))
 xs_nil)))⟩
noncomputable def PF__law_signs : List V → Option V := pfun 4 1 BD__law_signs.1
theorem FN__law_signs : FnC 302 false 5 PF__law_signs := BD__law_signs.2

noncomputable def BD__law_steps : { pb : PS // FnC 309 false 5 (pfun 5 1 pb) } := ⟨_, fun prog w P mg mb =>
  have h4 : 4 ≤ 4 := by decide
  fn_intro2 (K := KK P) ["parts", "steps", "slash", "text", "added"] 1 rfl rfl rfl rfl rfl rfl rfl rfl rfl rfl (by decide) (by decide) (by decide)
    (fun vals h => match vals, h with | [a], _ => rfl)
    fun h0 B0 L ok =>
  (xs_cons (st_assign ok 1 rfl ⟨rfl, .inl rfl⟩ (ev_list evl_nil))
 (xs_cons (st_assign ok 2 rfl ⟨rfl, .inl rfl⟩ ev_bool)
 (xs_cons (st_for ok (it_val ok (ev_name ok 0 rfl)) (.inr ⟨_, _, _, rfl⟩) (as_tup 2 (asl_cons (as_name ok 3 rfl ⟨rfl, .inl rfl⟩) (asl_cons (as_name ok 4 rfl ⟨rfl, .inl rfl⟩) asl_nil)))
 (xs_cons (st_if (ts_cmp h4 (ev_slice (ev_name ok 3 rfl) evp_none (evp_some ev_int) evp_none) ev_str)
 (xs_cons (st_assign ok 1 rfl ⟨rfl, .inl rfl⟩ (ev_list evl_nil))
 xs_nil)
 xs_nil)
 (xs_cons (st_assign ok 1 rfl ⟨rfl, .inl rfl⟩ (ev_bin (ev_name ok 1 rfl) (ev_name ok 4 rfl)))
 (xs_cons (st_assign ok 2 rfl ⟨rfl, .inl rfl⟩ (ev_or (ev_cmp h4 (ev_slice (ev_name ok 3 rfl) (evp_some ev_neg) evp_none evp_none) ev_str) (ev_b1 (ev_and (ev_cmp h4 (ev_name ok 3 rfl) ev_str) (ev_b1 (ev_cmp h4 (ev_name ok 1 rfl) (ev_list evl_nil)))))))
 xs_nil)))
 xs_nil)
 (xs_cons (st_return (ev_if (ts_ev (ev_name ok 2 rfl)) (ev_bin (ev_name ok 1 rfl) (ev_list (evl_cons ev_str evl_nil))) (ev_name ok 1 rfl)))
 xs_nil))))⟩
noncomputable def PF__law_steps : List V → Option V := pfun 5 1 BD__law_steps.1
theorem FN__law_steps : FnC 309 false 5 PF__law_steps := BD__law_steps.2

noncomputable def BD__law_fits : { pb : PS // FnC 276 false 5 (pfun 7 2 pb) } := ⟨_, fun prog w P mg mb =>
  have h4 : 4 ≤ 4 := by decide
  fn_intro2 (K := KK P) ["part", "sign", "barred", "k", "met", "low", "high"] 2 rfl rfl rfl rfl rfl rfl rfl rfl rfl rfl (by decide) (by decide) (by decide)
    (fun vals h => match vals, h with | [a, b], _ => rfl)
    fun h0 B0 L ok =>
  (xs_cons (st_if (ts_cmp h4 (ev_name ok 0 rfl) ev_str)
 (xs_cons (st_return ev_bool)
 xs_nil)
 xs_nil)
 (xs_cons (st_if (ts_cmp h4 (ev_name ok 0 rfl) ev_str)
 (xs_cons (st_return ev_bool)
 xs_nil)
 xs_nil)
 (xs_cons (st_if (ts_cmp h4 (ev_idx (ev_name ok 0 rfl) ev_int) ev_str)
 (xs_cons (st_return (ev_or (ev_cmp h4 (ev_name ok 0 rfl) (ev_name ok 1 rfl)) (ev_b1 (ev_cmp h4 (ev_name ok 0 rfl) (ev_bin ev_str (ev_name ok 1 rfl))))))
 xs_nil)
 xs_nil)
 (xs_cons (st_assign ok 2 rfl ⟨rfl, .inl rfl⟩ (ev_cmp h4 (ev_idx (ev_name ok 0 rfl) ev_int) ev_str))
 (xs_cons (st_assign ok 3 rfl ⟨rfl, .inl rfl⟩ (ev_if (ts_ev (ev_name ok 2 rfl)) ev_int ev_int))
 (xs_cons (st_assign ok 4 rfl ⟨rfl, .inl rfl⟩ ev_bool)
 (xs_cons (st_while 64 (ts_cmp h4 (ev_name ok 3 rfl) (ev_bin (ev_bcall ok h4 co_len rfl rfl rfl (evl_cons (ev_name ok 0 rfl) evl_nil)) ev_int))
 (xs_cons (st_if (ts_cmp h4 (ev_idx (ev_name ok 0 rfl) (ev_name ok 3 rfl)) ev_str)
 (xs_cons (st_aug ok 3 rfl ⟨rfl, .inl rfl⟩ ev_int)
 xs_nil)
 xs_nil)
 (xs_cons (st_assign ok 5 rfl ⟨rfl, .inl rfl⟩ (ev_idx (ev_name ok 0 rfl) (ev_name ok 3 rfl)))
 (xs_cons (st_assign ok 6 rfl ⟨rfl, .inl rfl⟩ (ev_name ok 5 rfl))
 (xs_cons (st_if (ts_and (ts_cmp h4 (ev_idx (ev_name ok 0 rfl) (ev_bin (ev_name ok 3 rfl) ev_int)) ev_str) (ts_and (ts_cmp h4 (ev_bin (ev_name ok 3 rfl) ev_int) (ev_bin (ev_bcall ok h4 co_len rfl rfl rfl (evl_cons (ev_name ok 0 rfl) evl_nil)) ev_int)) ts_and0))
 (xs_cons (st_aug ok 3 rfl ⟨rfl, .inl rfl⟩ ev_int)
 (xs_cons (st_if (ts_cmp h4 (ev_idx (ev_name ok 0 rfl) (ev_name ok 3 rfl)) ev_str)
 (xs_cons (st_aug ok 3 rfl ⟨rfl, .inl rfl⟩ ev_int)
 xs_nil)
 xs_nil)
 (xs_cons (st_assign ok 6 rfl ⟨rfl, .inl rfl⟩ (ev_idx (ev_name ok 0 rfl) (ev_name ok 3 rfl)))
 xs_nil)))
 xs_nil)
 (xs_cons (st_assign ok 4 rfl ⟨rfl, .inl rfl⟩ (ev_or (ev_name ok 4 rfl) (ev_b1 (ev_chain h4 (ev_name ok 5 rfl) (ev_name ok 1 rfl) (ev_name ok 6 rfl)))))
 (xs_cons (st_aug ok 3 rfl ⟨rfl, .inl rfl⟩ ev_int)
 xs_nil))))))
 xs_nil)
 (xs_cons (st_return (ev_cmp h4 (ev_name ok 4 rfl) (ev_name ok 2 rfl)))
 xs_nil))))))))⟩
noncomputable def PF__law_fits : List V → Option V := pfun 7 2 BD__law_fits.1
theorem FN__law_fits : FnC 276 false 5 PF__law_fits := BD__law_fits.2

noncomputable def BD_filemode : { pb : PS // FnC 92 false 6 (pfun 6 1 pb) } := ⟨_, fun prog w P mg mb =>
  have h4 : 4 ≤ 5 := by decide
  fn_intro2 (K := KK P) ["mode", "perm", "index", "table", "bit", "char"] 1 rfl rfl rfl rfl rfl rfl rfl rfl rfl rfl (by decide) (by decide) (by decide)
    (fun vals h => match vals, h with | [a], _ => rfl)
    fun h0 B0 L ok =>
  (xs_cons (st_new ok 1 rfl ⟨rfl, .inl rfl⟩ evl_nil)
 (xs_cons (st_for ok (it_enum ok rfl rfl (ev_glob ok rfl rfl table_vr)) ⟨_, _, _, rfl⟩ (as_tup 2 (asl_cons (as_name ok 2 rfl ⟨rfl, .inl rfl⟩) (asl_cons (as_name ok 3 rfl ⟨rfl, .inl rfl⟩) asl_nil)))
 (xs_cons (st_for ok (it_val ok (ev_name ok 3 rfl)) (.inr ⟨_, _, _, rfl⟩) (as_tup 2 (asl_cons (as_name ok 4 rfl ⟨rfl, .inl rfl⟩) (asl_cons (as_name ok 5 rfl ⟨rfl, .inl rfl⟩) asl_nil)))
 (xs_cons (st_if (ts_cmp h4 (ev_name ok 2 rfl) ev_int)
 (xs_cons (st_if (ts_cmp h4 (ev_call ok (FN_S_IFMT prog w P mg mb) (by decide) rfl rfl rfl (evl_cons (ev_name ok 0 rfl) evl_nil)) (ev_name ok 4 rfl))
 (xs_cons (st_append ok 1 rfl (ev_name ok 5 rfl))
 (xs_cons st_break
 xs_nil))
 xs_nil)
 xs_nil)
 (xs_cons (st_if (ts_cmp h4 (ev_bin (ev_name ok 0 rfl) (ev_name ok 4 rfl)) (ev_name ok 4 rfl))
 (xs_cons (st_append ok 1 rfl (ev_name ok 5 rfl))
 (xs_cons st_break
 xs_nil))
 xs_nil)
 xs_nil))
 xs_nil)
 (xs_cons (st_if (ts_cmp h4 (ev_name ok 2 rfl) ev_int)
 (xs_cons (st_append ok 1 rfl ev_str)
 xs_nil)
 (xs_cons (st_append ok 1 rfl ev_str)
 xs_nil))
 xs_nil))
 xs_nil)
 xs_nil)
 (xs_cons (xs_frz 1 rfl (st_return (ev_meth h4 me_join ev_str (evl_cons (ev_name ok 1 rfl) evl_nil))))
 xs_nil)))⟩
noncomputable def PF_filemode : List V → Option V := pfun 6 1 BD_filemode.1
theorem FN_filemode : FnC 92 false 6 PF_filemode := BD_filemode.2

noncomputable def BD_fspath : { pb : PS // FnC 189 false 5 (pfun 4 1 pb) } := ⟨_, fun prog w P mg mb =>
  have h4 : 4 ≤ 4 := by decide
  fn_intro2 (K := KK P) ["path", "kind", "hook", "given"] 1 rfl rfl rfl rfl rfl rfl rfl rfl rfl rfl (by decide) (by decide) (by decide)
    (fun vals h => match vals, h with | [a], _ => rfl)
    fun h0 B0 L ok =>
  (xs_cons (st_assign ok 1 rfl ⟨rfl, .inl rfl⟩ (ev_tcall ok h4 co_type rfl rfl rfl (evl_cons (ev_name ok 0 rfl) evl_nil)))
 (xs_cons (st_if (ts_ev (ev_bcall ok h4 co_iss rfl rfl rfl (evl_cons (ev_name ok 1 rfl) (evl_cons (ev_tup (evl_cons (ev_booty ok rfl rfl rfl) (evl_cons (ev_booty ok rfl rfl rfl) evl_nil))) evl_nil))))
 (xs_cons (st_return (ev_name ok 0 rfl))
 xs_nil)
 xs_nil)
 (xs_cons xs_dead
 (xs_cons xs_dead
 (xs_cons xs_dead
 (xs_cons xs_dead
 (xs_cons xs_dead
 (xs_cons xs_dead
 (xs_cons xs_dead
 (xs_cons xs_dead
 xs_nil))))))))))⟩
noncomputable def PF_fspath : List V → Option V := pfun 4 1 BD_fspath.1
theorem FN_fspath : FnC 189 false 5 PF_fspath := BD_fspath.2

noncomputable def BD_escape : { pb : PS // FnC 109 false 5 (pfun 1 1 pb) } := ⟨_, fun prog w P mg mb =>
  have h4 : 4 ≤ 4 := by decide
  fn_intro2 (K := KK P) ["pattern"] 1 rfl rfl rfl rfl rfl rfl rfl rfl rfl rfl (by decide) (by decide) (by decide)
    (fun vals h => match vals, h with | [a], _ => rfl)
    fun h0 B0 L ok =>
  (xs_cons (st_if (ts_ev (ev_bcall ok h4 co_isinstance rfl rfl rfl (evl_cons (ev_name ok 0 rfl) (evl_cons (ev_booty ok rfl rfl rfl) evl_nil))))
 (xs_cons (st_return (ev_translate ok trTab rfl rfl (ev_name ok 0 rfl)))
 xs_nil)
 (xs_cons xs_dead
 (xs_cons xs_dead
 xs_nil)))
 xs_nil)⟩
noncomputable def PF_escape : List V → Option V := pfun 1 1 BD_escape.1
theorem FN_escape : FnC 109 false 5 PF_escape := BD_escape.2

noncomputable def BD_join : { pb : PS // FnC 210 false 6 (pfunva 5 pb) } := ⟨_, fun prog w P mg mb =>
  have h4 : 4 ≤ 5 := by decide
  fn_va (K := KK P) "a" "p" ["sep", "path", "b"] rfl rfl rfl rfl rfl rfl rfl rfl rfl rfl (by decide) (by decide)
    (fun x y => rfl)
    fun h0 B0 L ok =>
  (xs_cons (st_assign ok 0 rfl ⟨rfl, .inl rfl⟩ (ev_call ok (FN_fspath prog w P mg mb) (by decide) rfl rfl rfl (evl_cons (ev_name ok 0 rfl) evl_nil)))
 (xs_cons (st_assign ok 2 rfl ⟨rfl, .inl rfl⟩ (ev_call ok (FN__get_sep prog w P mg mb) (by decide) rfl rfl rfl (evl_cons (ev_name ok 0 rfl) evl_nil)))
 (xs_cons (st_assign ok 3 rfl ⟨rfl, .inl rfl⟩ (ev_name ok 0 rfl))
 (xs_cons (st_try (xs_cons (st_for ok (it_val ok (ev_name ok 1 rfl)) (.inl ⟨_, _, rfl⟩) (as_name ok 4 rfl ⟨rfl, .inl rfl⟩)
 (xs_cons (st_assign ok 4 rfl ⟨rfl, .inl rfl⟩ (ev_call ok (FN_fspath prog w P mg mb) (by decide) rfl rfl rfl (evl_cons (ev_name ok 4 rfl) evl_nil)))
 (xs_cons (st_if (ts_or (ts_ev (ev_meth h4 me_startswith (ev_name ok 4 rfl) (evl_cons (ev_name ok 2 rfl) evl_nil))) (ts_or (ts_not (ts_ev (ev_name ok 3 rfl))) ts_or0))
 (xs_cons (st_assign ok 3 rfl ⟨rfl, .inl rfl⟩ (ev_name ok 4 rfl))
 xs_nil)
 (xs_cons (st_if (ts_ev (ev_meth h4 me_endswith (ev_name ok 3 rfl) (evl_cons (ev_name ok 2 rfl) evl_nil)))
 (xs_cons (st_aug ok 3 rfl ⟨rfl, .inl rfl⟩ (ev_name ok 4 rfl))
 xs_nil)
 (xs_cons (st_aug ok 3 rfl ⟨rfl, .inl rfl⟩ (ev_bin (ev_name ok 2 rfl) (ev_name ok 4 rfl)))
 xs_nil))
 xs_nil))
 xs_nil))
 xs_nil)
 xs_nil) xs_nil)
 (xs_cons (st_return (ev_name ok 3 rfl))
 xs_nil)))))⟩
noncomputable def PF_join : List V → Option V := pfunva 5 BD_join.1
theorem FN_join : FnC 210 false 6 PF_join := BD_join.2

noncomputable def BD_split : { pb : PS // FnC 217 false 6 (pfun 5 1 pb) } := ⟨_, fun prog w P mg mb =>
  have h4 : 4 ≤ 5 := by decide
  fn_intro2 (K := KK P) ["p", "sep", "i", "head", "tail"] 1 rfl rfl rfl rfl rfl rfl rfl rfl rfl rfl (by decide) (by decide) (by decide)
    (fun vals h => match vals, h with | [a], _ => rfl)
    fun h0 B0 L ok =>
  (xs_cons (st_assign ok 0 rfl ⟨rfl, .inl rfl⟩ (ev_call ok (FN_fspath prog w P mg mb) (by decide) rfl rfl rfl (evl_cons (ev_name ok 0 rfl) evl_nil)))
 (xs_cons (st_assign ok 1 rfl ⟨rfl, .inl rfl⟩ (ev_call ok (FN__get_sep prog w P mg mb) (by decide) rfl rfl rfl (evl_cons (ev_name ok 0 rfl) evl_nil)))
 (xs_cons (st_assign ok 2 rfl ⟨rfl, .inl rfl⟩ (ev_bin (ev_meth h4 me_rfind (ev_name ok 0 rfl) (evl_cons (ev_name ok 1 rfl) evl_nil)) ev_int))
 (xs_cons (st_asgs ["head", "tail"] (ev_tup (evl_cons (ev_slice (ev_name ok 0 rfl) evp_none (evp_some (ev_name ok 2 rfl)) evp_none) (evl_cons (ev_slice (ev_name ok 0 rfl) (evp_some (ev_name ok 2 rfl)) evp_none evp_none) evl_nil))) (asl_cons (as_bind ok 4 rfl ⟨rfl, .inl rfl⟩) (asl_cons (as_bind ok 3 rfl ⟨rfl, .inl rfl⟩) asl_nil)))
 (xs_cons (st_if (ts_and (ts_ev (ev_name ok 3 rfl)) (ts_and (ts_cmp h4 (ev_name ok 3 rfl) (ev_bin (ev_name ok 1 rfl) (ev_bcall ok h4 co_len rfl rfl rfl (evl_cons (ev_name ok 3 rfl) evl_nil)))) ts_and0))
 (xs_cons (st_assign ok 3 rfl ⟨rfl, .inl rfl⟩ (ev_meth h4 me_rstrip (ev_name ok 3 rfl) (evl_cons (ev_name ok 1 rfl) evl_nil)))
 xs_nil)
 xs_nil)
 (xs_cons (st_return (ev_tup (evl_cons (ev_name ok 3 rfl) (evl_cons (ev_name ok 4 rfl) evl_nil))))
 xs_nil))))))⟩
noncomputable def PF_split : List V → Option V := pfun 5 1 BD_split.1
theorem FN_split : FnC 217 false 6 PF_split := BD_split.2

noncomputable def BD_splitroot : { pb : PS // FnC 224 false 6 (pfun 3 1 pb) } := ⟨_, fun prog w P mg mb =>
  have h4 : 4 ≤ 5 := by decide
  fn_intro2 (K := KK P) ["p", "sep", "empty"] 1 rfl rfl rfl rfl rfl rfl rfl rfl rfl rfl (by decide) (by decide) (by decide)
    (fun vals h => match vals, h with | [a], _ => rfl)
    fun h0 B0 L ok =>
  (xs_cons (st_assign ok 0 rfl ⟨rfl, .inl rfl⟩ (ev_call ok (FN_fspath prog w P mg mb) (by decide) rfl rfl rfl (evl_cons (ev_name ok 0 rfl) evl_nil)))
 (xs_cons (st_if (ts_ev (ev_bcall ok h4 co_isinstance rfl rfl rfl (evl_cons (ev_name ok 0 rfl) (evl_cons (ev_booty ok rfl rfl rfl) evl_nil))))
 (xs_cons xs_dead
 (xs_cons xs_dead
 xs_nil))
 (xs_cons (st_assign ok 1 rfl ⟨rfl, .inl rfl⟩ ev_str)
 (xs_cons (st_assign ok 2 rfl ⟨rfl, .inl rfl⟩ ev_str)
 xs_nil)))
 (xs_cons (st_if (ts_cmp h4 (ev_slice (ev_name ok 0 rfl) evp_none (evp_some ev_int) evp_none) (ev_name ok 1 rfl))
 (xs_cons (st_return (ev_tup (evl_cons (ev_name ok 2 rfl) (evl_cons (ev_name ok 2 rfl) (evl_cons (ev_name ok 0 rfl) evl_nil)))))
 xs_nil)
 (xs_cons (st_if (ts_or (ts_cmp h4 (ev_slice (ev_name ok 0 rfl) (evp_some ev_int) (evp_some ev_int) evp_none) (ev_name ok 1 rfl)) (ts_or (ts_cmp h4 (ev_slice (ev_name ok 0 rfl) (evp_some ev_int) (evp_some ev_int) evp_none) (ev_name ok 1 rfl)) ts_or0))
 (xs_cons (st_return (ev_tup (evl_cons (ev_name ok 2 rfl) (evl_cons (ev_name ok 1 rfl) (evl_cons (ev_slice (ev_name ok 0 rfl) (evp_some ev_int) evp_none evp_none) evl_nil)))))
 xs_nil)
 (xs_cons (st_return (ev_tup (evl_cons (ev_name ok 2 rfl) (evl_cons (ev_slice (ev_name ok 0 rfl) evp_none (evp_some ev_int) evp_none) (evl_cons (ev_slice (ev_name ok 0 rfl) (evp_some ev_int) evp_none evp_none) evl_nil)))))
 xs_nil))
 xs_nil))
 xs_nil)))⟩
noncomputable def PF_splitroot : List V → Option V := pfun 3 1 BD_splitroot.1
theorem FN_splitroot : FnC 224 false 6 PF_splitroot := BD_splitroot.2

noncomputable def BD_basename : { pb : PS // FnC 231 false 6 (pfun 3 1 pb) } := ⟨_, fun prog w P mg mb =>
  have h4 : 4 ≤ 5 := by decide
  fn_intro2 (K := KK P) ["p", "sep", "i"] 1 rfl rfl rfl rfl rfl rfl rfl rfl rfl rfl (by decide) (by decide) (by decide)
    (fun vals h => match vals, h with | [a], _ => rfl)
    fun h0 B0 L ok =>
  (xs_cons (st_assign ok 0 rfl ⟨rfl, .inl rfl⟩ (ev_call ok (FN_fspath prog w P mg mb) (by decide) rfl rfl rfl (evl_cons (ev_name ok 0 rfl) evl_nil)))
 (xs_cons (st_assign ok 1 rfl ⟨rfl, .inl rfl⟩ (ev_call ok (FN__get_sep prog w P mg mb) (by decide) rfl rfl rfl (evl_cons (ev_name ok 0 rfl) evl_nil)))
 (xs_cons (st_assign ok 2 rfl ⟨rfl, .inl rfl⟩ (ev_bin (ev_meth h4 me_rfind (ev_name ok 0 rfl) (evl_cons (ev_name ok 1 rfl) evl_nil)) ev_int))
 (xs_cons (st_return (ev_slice (ev_name ok 0 rfl) (evp_some (ev_name ok 2 rfl)) evp_none evp_none))
 xs_nil))))⟩
noncomputable def PF_basename : List V → Option V := pfun 3 1 BD_basename.1
theorem FN_basename : FnC 231 false 6 PF_basename := BD_basename.2

noncomputable def BD_dirname : { pb : PS // FnC 238 false 6 (pfun 4 1 pb) } := ⟨_, fun prog w P mg mb =>
  have h4 : 4 ≤ 5 := by decide
  fn_intro2 (K := KK P) ["p", "sep", "i", "head"] 1 rfl rfl rfl rfl rfl rfl rfl rfl rfl rfl (by decide) (by decide) (by decide)
    (fun vals h => match vals, h with | [a], _ => rfl)
    fun h0 B0 L ok =>
  (xs_cons (st_assign ok 0 rfl ⟨rfl, .inl rfl⟩ (ev_call ok (FN_fspath prog w P mg mb) (by decide) rfl rfl rfl (evl_cons (ev_name ok 0 rfl) evl_nil)))
 (xs_cons (st_assign ok 1 rfl ⟨rfl, .inl rfl⟩ (ev_call ok (FN__get_sep prog w P mg mb) (by decide) rfl rfl rfl (evl_cons (ev_name ok 0 rfl) evl_nil)))
 (xs_cons (st_assign ok 2 rfl ⟨rfl, .inl rfl⟩ (ev_bin (ev_meth h4 me_rfind (ev_name ok 0 rfl) (evl_cons (ev_name ok 1 rfl) evl_nil)) ev_int))
 (xs_cons (st_assign ok 3 rfl ⟨rfl, .inl rfl⟩ (ev_slice (ev_name ok 0 rfl) evp_none (evp_some (ev_name ok 2 rfl)) evp_none))
 (xs_cons (st_if (ts_and (ts_ev (ev_name ok 3 rfl)) (ts_and (ts_cmp h4 (ev_name ok 3 rfl) (ev_bin (ev_name ok 1 rfl) (ev_bcall ok h4 co_len rfl rfl rfl (evl_cons (ev_name ok 3 rfl) evl_nil)))) ts_and0))
 (xs_cons (st_assign ok 3 rfl ⟨rfl, .inl rfl⟩ (ev_meth h4 me_rstrip (ev_name ok 3 rfl) (evl_cons (ev_name ok 1 rfl) evl_nil)))
 xs_nil)
 xs_nil)
 (xs_cons (st_return (ev_name ok 3 rfl))
 xs_nil))))))⟩
noncomputable def PF_dirname : List V → Option V := pfun 4 1 BD_dirname.1
theorem FN_dirname : FnC 238 false 6 PF_dirname := BD_dirname.2

noncomputable def BD_normpath : { pb : PS // FnC 245 false 7 (pfun 9 1 pb) } := ⟨_, fun prog w P mg mb =>
  have h4 : 4 ≤ 6 := by decide
  fn_intro2 (K := KK P) ["path", "sep", "dot", "dotdot", "_", "initial_slashes", "comps", "new_comps", "comp"] 1 rfl rfl rfl rfl rfl rfl rfl rfl rfl rfl (by decide) (by decide) (by decide)
    (fun vals h => match vals, h with | [a], _ => rfl)
    fun h0 B0 L ok =>
  (xs_cons (st_assign ok 0 rfl ⟨rfl, .inl rfl⟩ (ev_call ok (FN_fspath prog w P mg mb) (by decide) rfl rfl rfl (evl_cons (ev_name ok 0 rfl) evl_nil)))
 (xs_cons (st_if (ts_ev (ev_bcall ok h4 co_isinstance rfl rfl rfl (evl_cons (ev_name ok 0 rfl) (evl_cons (ev_booty ok rfl rfl rfl) evl_nil))))
 (xs_cons xs_dead
 (xs_cons xs_dead
 (xs_cons xs_dead
 xs_nil)))
 (xs_cons (st_assign ok 1 rfl ⟨rfl, .inl rfl⟩ ev_str)
 (xs_cons (st_assign ok 2 rfl ⟨rfl, .inl rfl⟩ ev_str)
 (xs_cons (st_assign ok 3 rfl ⟨rfl, .inl rfl⟩ ev_str)
 xs_nil))))
 (xs_cons (st_if (ts_not (ts_ev (ev_name ok 0 rfl)))
 (xs_cons (st_return (ev_name ok 2 rfl))
 xs_nil)
 xs_nil)
 (xs_cons (st_asgt (ev_call ok (FN_splitroot prog w P mg mb) (by decide) rfl rfl rfl (evl_cons (ev_name ok 0 rfl) evl_nil)) (as_tup 3 (asl_cons (as_name ok 4 rfl ⟨rfl, .inl rfl⟩) (asl_cons (as_name ok 5 rfl ⟨rfl, .inl rfl⟩) (asl_cons (as_name ok 0 rfl ⟨rfl, .inl rfl⟩) asl_nil)))))
 (xs_cons (st_assign ok 6 rfl ⟨rfl, .inl rfl⟩ (ev_meth h4 me_split (ev_name ok 0 rfl) (evl_cons (ev_name ok 1 rfl) evl_nil)))
 (xs_cons (st_new ok 7 rfl ⟨rfl, .inl rfl⟩ evl_nil)
 (xs_cons (st_for ok (it_val ok (ev_name ok 6 rfl)) (.inl ⟨_, _, rfl⟩) (as_name ok 8 rfl ⟨rfl, .inl rfl⟩)
 (xs_cons (st_if (ts_or (ts_not (ts_ev (ev_name ok 8 rfl))) (ts_or (ts_cmp h4 (ev_name ok 8 rfl) (ev_name ok 2 rfl)) ts_or0))
 (xs_cons st_continue
 xs_nil)
 xs_nil)
 (xs_cons (st_if (ts_or (ts_cmp h4 (ev_name ok 8 rfl) (ev_name ok 3 rfl)) (ts_or (ts_and (ts_not (ts_ev (ev_name ok 5 rfl))) (ts_and (ts_not (ts_own ok 7 rfl)) ts_and0)) (ts_or (ts_and (ts_own ok 7 rfl) (ts_and (ts_cmp h4 (ev_oidx ok 7 rfl ev_neg) (ev_name ok 3 rfl)) ts_and0)) ts_or0)))
 (xs_cons (st_append ok 7 rfl (ev_name ok 8 rfl))
 xs_nil)
 (xs_cons (st_if (ts_own ok 7 rfl)
 (xs_cons (st_pop ok 7 rfl)
 xs_nil)
 xs_nil)
 xs_nil))
 xs_nil))
 xs_nil)
 (xs_cons (xs_frz 7 rfl (st_assign ok 6 rfl ⟨rfl, .inl rfl⟩ (ev_name ok 7 rfl)))
 (xs_cons (st_assign ok 0 rfl ⟨rfl, .inl rfl⟩ (ev_bin (ev_name ok 5 rfl) (ev_meth h4 me_join (ev_name ok 1 rfl) (evl_cons (ev_name ok 6 rfl) evl_nil))))
 (xs_cons (st_return (ev_or (ev_name ok 0 rfl) (ev_b1 (ev_name ok 2 rfl))))
 xs_nil))))))))))⟩
noncomputable def PF_normpath : List V → Option V := pfun 9 1 BD_normpath.1
theorem FN_normpath : FnC 245 false 7 PF_normpath := BD_normpath.2

noncomputable def BD__law_world : { pb : PS // FnC 269 false 7 (pfun 4 1 pb) } := ⟨_, fun prog w P mg mb =>
  have h4 : 4 ≤ 6 := by decide
  fn_intro2 (K := KK P) ["modes", "paths", "world", "n"] 1 rfl rfl rfl rfl rfl rfl rfl rfl rfl rfl (by decide) (by decide) (by decide)
    (fun vals h => match vals, h with | [a], _ => rfl)
    fun h0 B0 L ok =>
  (xs_cons (st_new ok 1 rfl ⟨rfl, .inl rfl⟩ (evl_cons ev_str (evl_cons ev_str evl_nil)))
 (xs_cons (st_newd1 ok 2 rfl ⟨rfl, .inl rfl⟩ bigK evc_str (EvC.g (evc_idx (evc_name ok 0 rfl) evc_int)))
 (xs_cons (st_for ok (it_range ok rfl rfl (evl_cons ev_int (evl_cons ev_int evl_nil))) (.inl ⟨_, _, rfl⟩) (as_name ok 3 rfl ⟨rfl, .inl rfl⟩)
 (xs_cons (st_append ok 1 rfl (ev_call ok (FN_join prog w P mg mb) (by decide) rfl rfl rfl (evl_cons (ev_oidx ok 1 rfl (ev_bin (ev_name ok 3 rfl) ev_int)) (evl_cons (ev_idx (ev_list (evl_cons ev_str (evl_cons ev_str evl_nil))) (ev_bin (ev_name ok 3 rfl) ev_int)) evl_nil))))
 (xs_cons (st_setd ok 2 rfl (ev_idx (ev_name ok 0 rfl) (ev_name ok 3 rfl)) (ev_oidx ok 1 rfl (ev_name ok 3 rfl)))
 xs_nil))
 xs_nil)
 (xs_cons (xs_frz 2 rfl (st_return (ev_name ok 2 rfl)))
 xs_nil))))⟩
noncomputable def PF__law_world : List V → Option V := pfun 4 1 BD__law_world.1
theorem FN__law_world : FnC 269 false 7 PF__law_world := BD__law_world.2

noncomputable def BD__law_numbers : { pb : PS // FnC 250 false 5 (pfun 3 1 pb) } := ⟨_, fun prog w P mg mb =>
  have h4 : 4 ≤ 4 := by decide
  fn_intro2 (K := KK P) ["script", "given", "fixed"] 1 rfl rfl rfl rfl rfl rfl rfl rfl rfl rfl (by decide) (by decide) (by decide)
    (fun vals h => match vals, h with | [a], _ => rfl)
    fun h0 B0 L ok =>
  (xs_cons (st_assign ok 1 rfl ⟨rfl, .inr ⟨rfl, rfl⟩⟩ (ev_bin (ev_slice (ev_name ok 0 rfl) evp_none (evp_some ev_int) evp_none) (ev_bin (ev_list (evl_cons ev_int evl_nil)) (ev_bin ev_int (ev_bcall ok h4 co_len rfl rfl rfl (evl_cons (ev_slice (ev_name ok 0 rfl) evp_none (evp_some ev_int) evp_none) evl_nil))))))
 (xs_cons (st_assign ok 2 rfl ⟨rfl, .inr ⟨rfl, rfl⟩⟩ (ev_list (evl_cons ev_int (evl_cons ev_int (evl_cons ev_int (evl_cons ev_int (evl_cons ev_int (evl_cons ev_int (evl_cons ev_int (evl_cons ev_int (evl_cons ev_int evl_nil)))))))))))
 (xs_cons (st_return (ev_comp ["fixed", "given"] [2, 1] ok ⟨rfl, by decide, rfl, by decide, rfl, by decide, (.cons 2 rfl (.inl rfl) rfl rfl rfl (.cons 1 rfl (.inl rfl) rfl rfl rfl .nil)), by intro p hp; simp only [List.mem_cons, List.not_mem_nil, or_false] at hp; rcases hp with rfl | rfl <;> rfl⟩ (itw_range ok rfl rfl (evl_cons ev_int evl_nil)) (fun C h0 B0 ok' => evr_sc (ev_bin (ev_bin (ev_idx (ev_name ok' 2 rfl) (ev_name ok' 0 rfl)) (ev_bin ev_int ev_int)) (ev_idx (ev_name ok' 1 rfl) (ev_name ok' 0 rfl)))) (.inl ⟨rfl, fun _ => rfl⟩)))
 xs_nil)))⟩
noncomputable def PF__law_numbers : List V → Option V := pfun 3 1 BD__law_numbers.1
theorem FN__law_numbers : FnC 250 false 5 PF__law_numbers := BD__law_numbers.2

end
end Mine
end

section
namespace Mine
open PySem PySem.Calls PySem.Spec PySem.W PyProof.Rows
set_option maxRecDepth 100000
set_option Elab.async false
set_option maxHeartbeats 4000000
noncomputable section
noncomputable def BD__law_parts : { pb : PS // FnC 262 false 5 (pfun 2 1 pb) } := ⟨_, fun prog w P mg mb =>
  have h4 : 4 ≤ 4 := by decide
  fn_intro2 (K := KK P) ["number", "table"] 1 rfl rfl rfl rfl rfl rfl rfl rfl rfl rfl (by decide) (by decide) (by decide)
    (fun vals h => match vals, h with | [a], _ => rfl)
    fun h0 B0 L ok =>
  (xs_cons (st_assign ok 1 rfl ⟨rfl, .inr ⟨rfl, rfl⟩⟩ (ev_parts (v := partsV) (P := P) rfl rfl))
 (xs_cons (st_return (ev_comp ["table", "number"] [1, 0] ok ⟨rfl, by decide, rfl, by decide, rfl, by decide, (.cons 1 rfl (.inl rfl) rfl rfl rfl (.cons 0 rfl (.inl rfl) rfl rfl rfl .nil)), by intro p hp; simp only [List.mem_cons, List.not_mem_nil, or_false] at hp; rcases hp with rfl | rfl <;> rfl⟩ (itw_range ok rfl rfl (evl_cons (ev_bin ev_int (ev_bin (ev_name ok 0 rfl) ev_int)) evl_nil)) (fun C h0 B0 ok' => evr_idx (evc_name ok' 1 rfl) (ev_bin (ev_bin (ev_bin (ev_name ok' 2 rfl) ev_int) (ev_bin ev_int (ev_name ok' 0 rfl))) ev_int)) (.inl ⟨rfl, fun _ => rfl⟩)))
 xs_nil))⟩
noncomputable def PF__law_parts : List V → Option V := pfun 2 1 BD__law_parts.1
theorem FN__law_parts : FnC 262 false 5 PF__law_parts := BD__law_parts.2

noncomputable def BD__law_takes : { pb : PS // FnC 281 false 6 (pfun 4 2 pb) } := ⟨_, fun prog w P mg mb =>
  have h4 : 4 ≤ 5 := by decide
  fn_intro2 (K := KK P) ["parts", "text", "at", "part"] 2 rfl rfl rfl rfl rfl rfl rfl rfl rfl rfl (by decide) (by decide) (by decide)
    (fun vals h => match vals, h with | [a, b], _ => rfl)
    fun h0 B0 L ok =>
  (xs_cons (st_assign ok 2 rfl ⟨rfl, .inl rfl⟩ (ev_list (evl_cons ev_int evl_nil)))
 (xs_cons (st_for ok (it_val ok (ev_name ok 0 rfl)) (.inl ⟨_, _, rfl⟩) (as_name ok 3 rfl ⟨rfl, .inr ⟨rfl, rfl⟩⟩)
 (xs_cons (st_if (ts_cmp h4 (ev_name ok 3 rfl) (ev_list (evl_cons ev_str evl_nil)))
 (xs_cons (st_assign ok 2 rfl ⟨rfl, .inl rfl⟩ (ev_if (ts_cmp h4 (ev_name ok 2 rfl) (ev_list evl_nil)) (ev_listrange ok rfl rfl rfl rfl (evl_cons (ev_idx (ev_name ok 2 rfl) ev_int) (evl_cons (ev_bin (ev_bcall ok h4 co_len rfl rfl rfl (evl_cons (ev_name ok 1 rfl) evl_nil)) ev_int) evl_nil))) (ev_list evl_nil)))
 xs_nil)
 (xs_cons (st_comp ok 2 rfl ⟨rfl, .inl rfl⟩ ["part", "text"] [3, 1] ok ⟨rfl, by decide, rfl, by decide, rfl, by decide, (.cons 3 rfl (.inl rfl) rfl rfl rfl (.cons 1 rfl (.inl rfl) rfl rfl rfl .nil)), by intro p hp; simp only [List.mem_cons, List.not_mem_nil, or_false] at hp; rcases hp with rfl | rfl <;> rfl⟩ (itw_val ok (ev_name ok 2 rfl)) (fun C h0 B0 ok' => evr_sc (ev_bin (ev_name ok' 0 rfl) ev_int)) (.inr ⟨_, rfl, fun C h0 B0 ok' => (ts_and (ts_cmp h4 (ev_name ok' 0 rfl) (ev_bcall ok' h4 co_len rfl rfl rfl (evl_cons (ev_name ok' 2 rfl) evl_nil))) (ts_and (ts_ev (ev_call ok' (FN__law_fits prog w P mg mb) (by decide) rfl rfl rfl (evl_cons (ev_name ok' 1 rfl) (evl_cons (ev_idx (ev_name ok' 2 rfl) (ev_name ok' 0 rfl)) evl_nil)))) ts_and0))⟩))
 xs_nil))
 xs_nil)
 xs_nil)
 (xs_cons (st_return (ev_cmp h4 (ev_bcall ok h4 co_len rfl rfl rfl (evl_cons (ev_name ok 1 rfl) evl_nil)) (ev_name ok 2 rfl)))
 xs_nil)))⟩
noncomputable def PF__law_takes : List V → Option V := pfun 4 2 BD__law_takes.1
theorem FN__law_takes : FnC 281 false 6 PF__law_takes := BD__law_takes.2

noncomputable def BD__law_due : { pb : PS // FnC 314 false 6 (pfun 12 3 pb) } := ⟨_, fun prog w P mg mb =>
  have h4 : 4 ≤ 5 := by decide
  fn_intro2 (K := KK P) ["modes", "steps", "who", "found", "step", "further", "n", "rights", "rows", "path", "k", "row"] 3 rfl rfl rfl rfl rfl rfl rfl rfl rfl rfl (by decide) (by decide) (by decide)
    (fun vals h => match vals, h with | [a, b, c], _ => rfl)
    fun h0 B0 L ok =>
  (xs_cons (st_assign ok 3 rfl ⟨rfl, .inl rfl⟩ (ev_list (evl_cons ev_int evl_nil)))
 (xs_cons (st_for ok (it_val ok (ev_name ok 1 rfl)) (.inl ⟨_, _, rfl⟩) (as_name ok 4 rfl ⟨rfl, .inl rfl⟩)
 (xs_cons (st_new ok 5 rfl ⟨rfl, .inl rfl⟩ evl_nil)
 (xs_cons (st_for ok (it_val ok (ev_name ok 3 rfl)) (.inl ⟨_, _, rfl⟩) (as_name ok 6 rfl ⟨rfl, .inr ⟨rfl, rfl⟩⟩)
 (xs_cons (st_assign ok 7 rfl ⟨rfl, .inl rfl⟩ (ev_bin (ev_bin (ev_idx (ev_name ok 0 rfl) (ev_name ok 6 rfl)) (ev_bin ev_int (ev_bin ev_int (ev_name ok 2 rfl)))) ev_int))
 (xs_cons (st_if (ts_and (ts_cmp h4 (ev_bin (ev_bin (ev_idx (ev_name ok 0 rfl) (ev_name ok 6 rfl)) ev_int) ev_int) ev_int) (ts_and (ts_cmp h4 (ev_bin (ev_name ok 7 rfl) ev_int) ev_int) ts_and0))
 (xs_cons (st_if (ts_cmp h4 (ev_name ok 4 rfl) ev_str)
 (xs_cons (st_append ok 5 rfl (ev_name ok 6 rfl))
 xs_nil)
 (xs_cons (st_if (ts_cmp h4 (ev_name ok 4 rfl) ev_str)
 (xs_cons (st_append ok 5 rfl (ev_bcall ok h4 co_max rfl rfl rfl (evl_cons (ev_bin (ev_name ok 6 rfl) ev_int) (evl_cons ev_int evl_nil))))
 xs_nil)
 (xs_cons (st_if (ts_or (ts_cmp h4 (ev_idx (ev_name ok 4 rfl) ev_int) ev_str) (ts_or (ts_cmp h4 (ev_name ok 7 rfl) ev_int) ts_or0))
 (xs_cons (st_extend ok 5 rfl ⟨rfl, .inl rfl⟩ (ev_comp ["n"] [6] ok ⟨rfl, by decide, rfl, by decide, rfl, by decide, (.cons 6 rfl (.inl rfl) rfl rfl rfl .nil), by intro p hp; simp only [List.mem_cons, List.not_mem_nil, or_false] at hp; rcases hp with rfl <;> rfl⟩ (itw_val ok (ev_slice (ev_name ok 4 rfl) (evp_some ev_int) evp_none evp_none)) (fun C h0 B0 ok' => evr_sc (ev_bin (ev_bin ev_int (ev_name ok' 1 rfl)) (ev_tcall ok' h4 co_int rfl rfl rfl (evl_cons (ev_name ok' 0 rfl) evl_nil)))) (.inr ⟨_, rfl, fun C h0 B0 ok' => (ts_cmp h4 (ev_name ok' 1 rfl) ev_int)⟩)))
 xs_nil)
 xs_nil)
 xs_nil))
 xs_nil))
 xs_nil)
 xs_nil)
 xs_nil))
 xs_nil)
 (xs_cons (xs_frz 5 rfl (st_assign ok 3 rfl ⟨rfl, .inl rfl⟩ (ev_name ok 5 rfl)))
 xs_nil)))
 xs_nil)
 (xs_cons (st_new ok 8 rfl ⟨rfl, .inl rfl⟩ evl_nil)
 (xs_cons (st_for ok (it_val ok (ev_name ok 3 rfl)) (.inl ⟨_, _, rfl⟩) (as_name ok 6 rfl ⟨rfl, .inr ⟨rfl, rfl⟩⟩)
 (xs_cons (st_assign ok 9 rfl ⟨rfl, .inl rfl⟩ ev_str)
 (xs_cons (st_assign ok 10 rfl ⟨rfl, .inl rfl⟩ (ev_name ok 6 rfl))
 (xs_cons (st_while 64 (ts_cmp h4 (ev_name ok 10 rfl) ev_int)
 (xs_cons (st_assign ok 9 rfl ⟨rfl, .inl rfl⟩ (ev_bin (ev_idx (ev_list (evl_cons ev_str (evl_cons ev_str evl_nil))) (ev_bin (ev_name ok 10 rfl) ev_int)) (ev_name ok 9 rfl)))
 (xs_cons (st_aug ok 10 rfl ⟨rfl, .inl rfl⟩ ev_int)
 xs_nil))
 xs_nil)
 (xs_cons (st_assign ok 11 rfl ⟨rfl, .inl rfl⟩ (ev_bin (ev_bin (ev_call ok (FN__law_signs prog w P mg mb) (by decide) rfl rfl rfl (evl_cons (ev_idx (ev_name ok 0 rfl) (ev_name ok 6 rfl)) evl_nil)) ev_str) (ev_if (ts_cmp h4 (ev_name ok 6 rfl) ev_int) (ev_name ok 9 rfl) ev_str)))
 (xs_cons (st_assign ok 7 rfl ⟨rfl, .inl rfl⟩ (ev_bin (ev_bin (ev_idx (ev_name ok 0 rfl) (ev_bin (ev_name ok 6 rfl) ev_int)) (ev_bin ev_int (ev_bin ev_int (ev_name ok 2 rfl)))) ev_int))
 (xs_cons (st_if (ts_and (ts_cmp h4 (ev_name ok 6 rfl) ev_int) (ts_and (ts_cmp h4 (ev_name ok 7 rfl) (ev_list (evl_cons ev_int (evl_cons ev_int evl_nil)))) (ts_and (ts_or (ts_cmp h4 (ev_name ok 2 rfl) ev_int) (ts_or (ts_cmp h4 (ev_bin (ev_bin (ev_idx (ev_name ok 0 rfl) (ev_bin (ev_name ok 6 rfl) ev_int)) ev_int) ev_int) ev_int) ts_or0)) ts_and0)))
 (xs_cons (st_aug ok 11 rfl ⟨rfl, .inl rfl⟩ ev_str)
 xs_nil)
 xs_nil)
 (xs_cons (st_append ok 8 rfl (ev_name ok 11 rfl))
 xs_nil)))))))
 xs_nil)
 (xs_cons (xs_frz 8 rfl (st_return (ev_name ok 8 rfl)))
 xs_nil)))))⟩
noncomputable def PF__law_due : List V → Option V := pfun 12 3 BD__law_due.1
theorem FN__law_due : FnC 314 false 6 PF__law_due := BD__law_due.2

end
end Mine
end

section
namespace Mine
open PySem PySem.Calls PySem.Spec PySem.W PyProof.Rows
set_option maxRecDepth 100000
set_option Elab.async false
set_option maxHeartbeats 4000000
noncomputable section
noncomputable def BD__translate : { pb : PS // FnC 116 true 6 (pfun 13 3 pb) } := ⟨_, fun prog w P mg mb =>
  have h4 : 4 ≤ 5 := by decide
  have h4' : 4 ≤ 4 := by decide
  fn_intro2 (K := KK P) ["pat", "STAR", "QUESTION_MARK", "res", "add", "i", "n", "c", "j", "stuff", "chunks", "k", "chunk"] 3 rfl rfl rfl rfl rfl rfl rfl rfl rfl rfl (by decide) (by decide) (by decide)
    (fun vals h => match vals, h with | [a, b, c], _ => rfl)
    fun h0 B0 L ok =>
  (xs_cons (st_new ok 3 rfl ⟨rfl, .inl rfl⟩ evl_nil)
 (xs_cons (st_bm ok 4 3 rfl rfl (by decide) ⟨rfl, .inl rfl⟩)
 (xs_cons (st_asgs ["i", "n"] (ev_tup (evl_cons ev_int (evl_cons (ev_bcall ok h4 co_len rfl rfl rfl (evl_cons (ev_name ok 0 rfl) evl_nil)) evl_nil))) (asl_cons (as_bind ok 6 rfl ⟨rfl, .inl rfl⟩) (asl_cons (as_bind ok 5 rfl ⟨rfl, .inl rfl⟩) asl_nil)))
 (xs_cons (st_while 64 (ts_cmp h4 (ev_name ok 5 rfl) (ev_name ok 6 rfl))
 (xs_cons (st_assign ok 7 rfl ⟨rfl, .inl rfl⟩ (ev_idx (ev_name ok 0 rfl) (ev_name ok 5 rfl)))
 (xs_cons (st_assign ok 5 rfl ⟨rfl, .inl rfl⟩ (ev_bin (ev_name ok 5 rfl) ev_int))
 (xs_cons (st_if (ts_cmp h4 (ev_name ok 7 rfl) ev_str)
 (xs_cons (st_if (ts_or (ts_not (ts_own ok 3 rfl)) (ts_or (ts_cmp h4 (ev_oidx ok 3 rfl ev_neg) (ev_name ok 1 rfl)) ts_or0))
 (xs_cons (st_badd ok 4 rfl (ev_name ok 1 rfl))
 xs_nil)
 xs_nil)
 xs_nil)
 (xs_cons (st_if (ts_cmp h4 (ev_name ok 7 rfl) ev_str)
 (xs_cons (st_badd ok 4 rfl (ev_name ok 2 rfl))
 xs_nil)
 (xs_cons (st_if (ts_cmp h4 (ev_name ok 7 rfl) ev_str)
 (xs_cons (st_assign ok 8 rfl ⟨rfl, .inl rfl⟩ (ev_name ok 5 rfl))
 (xs_cons (st_if (ts_and (ts_cmp h4 (ev_name ok 8 rfl) (ev_name ok 6 rfl)) (ts_and (ts_cmp h4 (ev_idx (ev_name ok 0 rfl) (ev_name ok 8 rfl)) ev_str) ts_and0))
 (xs_cons (st_assign ok 8 rfl ⟨rfl, .inl rfl⟩ (ev_bin (ev_name ok 8 rfl) ev_int))
 xs_nil)
 xs_nil)
 (xs_cons (st_if (ts_and (ts_cmp h4 (ev_name ok 8 rfl) (ev_name ok 6 rfl)) (ts_and (ts_cmp h4 (ev_idx (ev_name ok 0 rfl) (ev_name ok 8 rfl)) ev_str) ts_and0))
 (xs_cons (st_assign ok 8 rfl ⟨rfl, .inl rfl⟩ (ev_bin (ev_name ok 8 rfl) ev_int))
 xs_nil)
 xs_nil)
 (xs_cons (st_while 64 (ts_and (ts_cmp h4 (ev_name ok 8 rfl) (ev_name ok 6 rfl)) (ts_and (ts_cmp h4 (ev_idx (ev_name ok 0 rfl) (ev_name ok 8 rfl)) ev_str) ts_and0))
 (xs_cons (st_assign ok 8 rfl ⟨rfl, .inl rfl⟩ (ev_bin (ev_name ok 8 rfl) ev_int))
 xs_nil)
 xs_nil)
 (xs_cons (st_if (ts_cmp h4 (ev_name ok 8 rfl) (ev_name ok 6 rfl))
 (xs_cons (st_badd ok 4 rfl ev_str)
 xs_nil)
 (xs_cons (st_assign ok 9 rfl ⟨rfl, .inl rfl⟩ (ev_slice (ev_name ok 0 rfl) (evp_some (ev_name ok 5 rfl)) (evp_some (ev_name ok 8 rfl)) evp_none))
 (xs_cons (st_if (ts_cmp h4 ev_str (ev_name ok 9 rfl))
 (xs_cons (st_assign ok 9 rfl ⟨rfl, .inl rfl⟩ (ev_meth h4 me_replace (ev_name ok 9 rfl) (evl_cons ev_str (evl_cons ev_str evl_nil))))
 xs_nil)
 (xs_cons (st_new ok 10 rfl ⟨rfl, .inl rfl⟩ evl_nil)
 (xs_cons (st_assign ok 11 rfl ⟨rfl, .inl rfl⟩ (ev_if (ts_cmp h4 (ev_idx (ev_name ok 0 rfl) (ev_name ok 5 rfl)) ev_str) (ev_bin (ev_name ok 5 rfl) ev_int) (ev_bin (ev_name ok 5 rfl) ev_int)))
 (xs_cons (st_while 64 (ts_ev ev_bool)
 (xs_cons (st_assign ok 11 rfl ⟨rfl, .inl rfl⟩ (ev_meth h4 me_find (ev_name ok 0 rfl) (evl_cons ev_str (evl_cons (ev_name ok 11 rfl) (evl_cons (ev_name ok 8 rfl) evl_nil)))))
 (xs_cons (st_if (ts_cmp h4 (ev_name ok 11 rfl) ev_int)
 (xs_cons st_break
 xs_nil)
 xs_nil)
 (xs_cons (st_append ok 10 rfl (ev_slice (ev_name ok 0 rfl) (evp_some (ev_name ok 5 rfl)) (evp_some (ev_name ok 11 rfl)) evp_none))
 (xs_cons (st_assign ok 5 rfl ⟨rfl, .inl rfl⟩ (ev_bin (ev_name ok 11 rfl) ev_int))
 (xs_cons (st_assign ok 11 rfl ⟨rfl, .inl rfl⟩ (ev_bin (ev_name ok 11 rfl) ev_int))
 xs_nil)))))
 xs_nil)
 (xs_cons (st_assign ok 12 rfl ⟨rfl, .inl rfl⟩ (ev_slice (ev_name ok 0 rfl) (evp_some (ev_name ok 5 rfl)) (evp_some (ev_name ok 8 rfl)) evp_none))
 (xs_cons (st_if (ts_ev (ev_name ok 12 rfl))
 (xs_cons (st_append ok 10 rfl (ev_name ok 12 rfl))
 xs_nil)
 (xs_cons xs_dead
 xs_nil))
 (xs_cons (xs_frz 10 rfl (st_for ok (it_range ok rfl rfl (evl_cons (ev_bin (ev_bcall ok h4 co_len rfl rfl rfl (evl_cons (ev_name ok 10 rfl) evl_nil)) ev_int) (evl_cons ev_int (evl_cons ev_neg evl_nil)))) (.inl ⟨_, _, rfl⟩) (as_name ok 11 rfl ⟨rfl, .inl rfl⟩)
 (xs_cons (st_if (ts_cmp h4 (ev_idx (ev_idx (ev_name ok 10 rfl) (ev_bin (ev_name ok 11 rfl) ev_int)) ev_neg) (ev_idx (ev_idx (ev_name ok 10 rfl) (ev_name ok 11 rfl)) ev_int))
 (xs_cons xs_dead
 (xs_cons xs_dead
 xs_nil))
 xs_nil)
 xs_nil)
 xs_nil))
 (xs_cons (st_assign ok 9 rfl ⟨rfl, .inl rfl⟩ (ev_joingen ok rfl cHd ev_str (ev_name ok 10 rfl) (fun C code h0 B0 ok' => (ev_meth h4' me_replace (ev_meth h4' me_replace (ev_name ok' 0 rfl) (evl_cons ev_str (evl_cons ev_str evl_nil))) (evl_cons ev_str (evl_cons ev_str evl_nil)))) rfl rfl (by decide) rfl rfl rfl))
 xs_nil))))))))
 (xs_cons (st_sub ok 9 rfl ⟨rfl, .inl rfl⟩ rfl rfl rfl rfl (by kernel_rfl) rfl rfl rfl cHd bigK)
 (xs_cons (st_assign ok 5 rfl ⟨rfl, .inl rfl⟩ (ev_bin (ev_name ok 8 rfl) ev_int))
 (xs_cons (st_if (ts_not (ts_ev (ev_name ok 9 rfl)))
 (xs_cons (st_badd ok 4 rfl ev_str)
 xs_nil)
 (xs_cons (st_if (ts_cmp h4 (ev_name ok 9 rfl) ev_str)
 (xs_cons (st_badd ok 4 rfl ev_str)
 xs_nil)
 (xs_cons (st_if (ts_cmp h4 (ev_idx (ev_name ok 9 rfl) ev_int) ev_str)
 (xs_cons (st_assign ok 9 rfl ⟨rfl, .inl rfl⟩ (ev_bin ev_str (ev_slice (ev_name ok 9 rfl) (evp_some ev_int) evp_none evp_none)))
 xs_nil)
 (xs_cons (st_if (ts_cmp h4 (ev_idx (ev_name ok 9 rfl) ev_int) (ev_tup (evl_cons ev_str (evl_cons ev_str evl_nil))))
 (xs_cons (st_assign ok 9 rfl ⟨rfl, .inl rfl⟩ (ev_bin ev_str (ev_name ok 9 rfl)))
 xs_nil)
 xs_nil)
 xs_nil))
 (xs_cons (st_badd ok 4 rfl (ev_fstr (ev_name ok 9 rfl)))
 xs_nil)))
 xs_nil))
 xs_nil))))))
 xs_nil)))))
 (xs_cons (st_badd ok 4 rfl (ev_call ok (FnE.up (FN_escape prog w P mg mb)) (by decide) rfl rfl rfl (evl_cons (ev_name ok 7 rfl) evl_nil)))
 xs_nil))
 xs_nil))
 xs_nil))
 xs_nil)))
 xs_nil)
 (xs_cons (st_assert (ts_cmp h4 (ev_name ok 5 rfl) (ev_name ok 6 rfl)))
 (xs_cons (xs_frz 3 rfl (st_return (ev_name ok 3 rfl)))
 xs_nil))))))⟩
noncomputable def PF__translate : List V → Option V := pfun 13 3 BD__translate.1
theorem FN__translate : FnC 116 true 6 PF__translate := BD__translate.2

noncomputable def BD__law_found : { pb : PS // FnC 288 true 8 (pfun 12 4 pb) } := ⟨_, fun prog w P mg mb =>
  have h4 : 4 ≤ 7 := by decide
  fn_intro2 (K := KK P) ["world", "signs", "path", "who", "tails", "tail", "found", "plain", "parts", "further", "folder", "place"] 4 rfl rfl rfl rfl rfl rfl rfl rfl rfl rfl (by decide) (by decide) (by decide)
    (fun vals h => match vals, h with | [a, b, c, d], _ => rfl)
    fun h0 B0 L ok =>
  (xs_cons (st_new ok 4 rfl ⟨rfl, .inl rfl⟩ evl_nil)
 (xs_cons (st_while 64 (ts_cmp h4 (ev_name ok 2 rfl) ev_str)
 (xs_cons (st_asgt (ev_call ok (FnE.up (FN_split prog w P mg mb)) (by decide) rfl rfl rfl (evl_cons (ev_name ok 2 rfl) evl_nil)) (as_tup 2 (asl_cons (as_name ok 2 rfl ⟨rfl, .inl rfl⟩) (asl_cons (as_name ok 5 rfl ⟨rfl, .inl rfl⟩) asl_nil))))
 (xs_cons (st_append ok 4 rfl (ev_name ok 5 rfl))
 xs_nil))
 xs_nil)
 (xs_cons (st_assign ok 6 rfl ⟨rfl, .inl rfl⟩ (ev_list (evl_cons ev_str evl_nil)))
 (xs_cons (st_for ok (it_val ok (ev_oslice ok 4 rfl evp_none evp_none (evp_some ev_neg))) (.inl ⟨_, _, rfl⟩) (as_name ok 5 rfl ⟨rfl, .inl rfl⟩)
 (xs_cons (st_assign ok 7 rfl ⟨rfl, .inl rfl⟩ (ev_and (ev_cmp h4 ev_str (ev_name ok 5 rfl)) (ev_and (ev_cmp h4 ev_str (ev_name ok 5 rfl)) (ev_b1 (ev_cmp h4 ev_str (ev_name ok 5 rfl))))))
 (xs_cons (st_assign ok 8 rfl ⟨rfl, .inl rfl⟩ (ev_call ok (FN__translate prog w P mg mb) (by decide) rfl rfl rfl (evl_cons (ev_name ok 5 rfl) (evl_cons (ev_list (evl_cons ev_str evl_nil)) (evl_cons ev_str evl_nil)))))
 (xs_cons (st_new ok 9 rfl ⟨rfl, .inl rfl⟩ evl_nil)
 (xs_cons (st_for ok (it_val ok (ev_name ok 6 rfl)) (.inl ⟨_, _, rfl⟩) (as_name ok 10 rfl ⟨rfl, .inl rfl⟩)
 (xs_cons (st_if (ts_and (ts_ev (ev_call ok (FnE.up (FN_S_ISDIR prog w P mg mb)) (by decide) rfl rfl rfl (evl_cons (ev_idx (ev_name ok 0 rfl) (ev_name ok 10 rfl)) evl_nil))) (ts_and (ts_cmp h4 (ev_idx (ev_idx (ev_name ok 1 rfl) (ev_name ok 10 rfl)) (ev_bin (ev_bin ev_int (ev_name ok 3 rfl)) ev_int)) ev_str) ts_and0))
 (xs_cons (st_if (ts_ev (ev_name ok 7 rfl))
 (xs_cons (st_assign ok 11 rfl ⟨rfl, .inl rfl⟩ (ev_call ok (FnE.up (FN_normpath prog w P mg mb)) (by decide) rfl rfl rfl (evl_cons (ev_call ok (FnE.up (FN_join prog w P mg mb)) (by decide) rfl rfl rfl (evl_cons (ev_name ok 10 rfl) (evl_cons (ev_name ok 5 rfl) evl_nil))) evl_nil)))
 (xs_cons (st_if (ts_cmp h4 (ev_name ok 11 rfl) (ev_name ok 0 rfl))
 (xs_cons (st_append ok 9 rfl (ev_name ok 11 rfl))
 xs_nil)
 xs_nil)
 xs_nil))
 (xs_cons (st_if (ts_cmp h4 (ev_idx (ev_idx (ev_name ok 1 rfl) (ev_name ok 10 rfl)) (ev_bin (ev_bin ev_int (ev_name ok 3 rfl)) ev_int)) ev_str)
 (xs_cons (st_for ok (it_val ok (ev_name ok 0 rfl)) (.inl ⟨_, _, rfl⟩) (as_name ok 11 rfl ⟨rfl, .inl rfl⟩)
 (xs_cons (st_if (ts_and (ts_cmp h4 (ev_name ok 11 rfl) ev_str) (ts_and (ts_cmp h4 (ev_call ok (FnE.up (FN_dirname prog w P mg mb)) (by decide) rfl rfl rfl (evl_cons (ev_name ok 11 rfl) evl_nil)) (ev_name ok 10 rfl)) (ts_and (ts_ev (ev_call ok (FnE.up (FN__law_takes prog w P mg mb)) (by decide) rfl rfl rfl (evl_cons (ev_name ok 8 rfl) (evl_cons (ev_call ok (FnE.up (FN_basename prog w P mg mb)) (by decide) rfl rfl rfl (evl_cons (ev_name ok 11 rfl) evl_nil)) evl_nil)))) ts_and0)))
 (xs_cons (st_append ok 9 rfl (ev_name ok 11 rfl))
 xs_nil)
 xs_nil)
 xs_nil)
 xs_nil)
 xs_nil)
 xs_nil)
 xs_nil))
 xs_nil)
 xs_nil)
 xs_nil)
 xs_nil)
 (xs_cons (xs_frz 9 rfl (st_assign ok 6 rfl ⟨rfl, .inl rfl⟩ (ev_name ok 9 rfl)))
 xs_nil)))))
 xs_nil)
 (xs_cons (st_return (ev_name ok 6 rfl))
 xs_nil)))))⟩
noncomputable def PF__law_found : List V → Option V := pfun 12 4 BD__law_found.1
theorem FN__law_found : FnC 288 true 8 PF__law_found := BD__law_found.2

noncomputable def BD__law_told : { pb : PS // FnC 295 true 9 (pfun 8 4 pb) } := ⟨_, fun prog w P mg mb =>
  have h4 : 4 ≤ 8 := by decide
  fn_intro2 (K := KK P) ["world", "signs", "path", "who", "rows", "place", "row", "above"] 4 rfl rfl rfl rfl rfl rfl rfl rfl rfl rfl (by decide) (by decide) (by decide)
    (fun vals h => match vals, h with | [a, b, c, d], _ => rfl)
    fun h0 B0 L ok =>
  (xs_cons (st_new ok 4 rfl ⟨rfl, .inl rfl⟩ evl_nil)
 (xs_cons (st_for ok (it_val ok (ev_call ok (FN__law_found prog w P mg mb) (by decide) rfl rfl rfl (evl_cons (ev_name ok 0 rfl) (evl_cons (ev_name ok 1 rfl) (evl_cons (ev_name ok 2 rfl) (evl_cons (ev_name ok 3 rfl) evl_nil)))))) (.inl ⟨_, _, rfl⟩) (as_name ok 5 rfl ⟨rfl, .inl rfl⟩)
 (xs_cons (st_assign ok 6 rfl ⟨rfl, .inl rfl⟩ (ev_bin (ev_bin (ev_idx (ev_name ok 1 rfl) (ev_name ok 5 rfl)) ev_str) (ev_name ok 5 rfl)))
 (xs_cons (st_assign ok 7 rfl ⟨rfl, .inl rfl⟩ (ev_idx (ev_name ok 1 rfl) (ev_call ok (FnE.up (FN_dirname prog w P mg mb)) (by decide) rfl rfl rfl (evl_cons (ev_name ok 5 rfl) evl_nil))))
 (xs_cons (st_if (ts_and (ts_cmp h4 (ev_name ok 5 rfl) ev_str) (ts_and (ts_cmp h4 (ev_idx (ev_name ok 7 rfl) (ev_bin (ev_bin ev_int (ev_name ok 3 rfl)) ev_int)) ev_str) (ts_and (ts_cmp h4 (ev_idx (ev_name ok 7 rfl) (ev_bin (ev_bin ev_int (ev_name ok 3 rfl)) ev_int)) ev_str) (ts_and (ts_or (ts_cmp h4 (ev_name ok 3 rfl) ev_int) (ts_or (ts_cmp h4 (ev_idx (ev_name ok 7 rfl) ev_int) ev_str) ts_or0)) ts_and0))))
 (xs_cons (st_aug ok 6 rfl ⟨rfl, .inl rfl⟩ ev_str)
 xs_nil)
 xs_nil)
 (xs_cons (st_append ok 4 rfl (ev_name ok 6 rfl))
 xs_nil))))
 xs_nil)
 (xs_cons (xs_frz 4 rfl (st_return (ev_name ok 4 rfl)))
 xs_nil)))⟩
noncomputable def PF__law_told : List V → Option V := pfun 8 4 BD__law_told.1
theorem FN__law_told : FnC 295 true 9 PF__law_told := BD__law_told.2

noncomputable def BD_law : { pb : PS // FnC 321 true 10 (pfun 11 1 pb) } := ⟨_, fun prog w P mg mb =>
  have h4 : 4 ≤ 9 := by decide
  fn_intro2 (K := KK P) ["script", "numbers", "modes", "world", "signs", "place", "number", "parts", "path", "part", "who"] 1 rfl rfl rfl rfl rfl rfl rfl rfl rfl rfl (by decide) (by decide) (by decide)
    (fun vals h => match vals, h with | [a], _ => rfl)
    fun h0 B0 L ok =>
  (xs_cons (st_assign ok 1 rfl ⟨rfl, .inl rfl⟩ (ev_call ok (FnE.up (FN__law_numbers prog w P mg mb)) (by decide) rfl rfl rfl (evl_cons (ev_name ok 0 rfl) evl_nil)))
 (xs_cons (st_assign ok 2 rfl ⟨rfl, .inl rfl⟩ (ev_call ok (FnE.up (FN__law_modes prog w P mg mb)) (by decide) rfl rfl rfl (evl_cons (ev_name ok 1 rfl) evl_nil)))
 (xs_cons (st_assign ok 3 rfl ⟨rfl, .inl rfl⟩ (ev_call ok (FnE.up (FN__law_world prog w P mg mb)) (by decide) rfl rfl rfl (evl_cons (ev_name ok 2 rfl) evl_nil)))
 (xs_cons (st_newd0 ok 4 rfl ⟨rfl, .inl rfl⟩ bigK)
 (xs_cons (st_for ok (it_val ok (ev_name ok 3 rfl)) (.inl ⟨_, _, rfl⟩) (as_name ok 5 rfl ⟨rfl, .inl rfl⟩)
 (xs_cons (st_upd ok 4 rfl bigK (evc_name ok 5 rfl) (evg_call1 ok (FnE.up (FN_filemode prog w P mg mb)) (by decide) rfl rfl rfl (evc_idx (evc_name ok 3 rfl) (evc_name ok 5 rfl))))
 xs_nil)
 xs_nil)
 (xs_cons (st_for ok (it_val ok (ev_slice (ev_name ok 1 rfl) evp_none (evp_some ev_int) evp_none)) (.inl ⟨_, _, rfl⟩) (as_name ok 6 rfl ⟨rfl, .inl rfl⟩)
 (xs_cons (st_assign ok 7 rfl ⟨rfl, .inl rfl⟩ (ev_call ok (FnE.up (FN__law_parts prog w P mg mb)) (by decide) rfl rfl rfl (evl_cons (ev_name ok 6 rfl) evl_nil)))
 (xs_cons (st_assign ok 8 rfl ⟨rfl, .inl rfl⟩ ev_str)
 (xs_cons (st_for ok (it_val ok (ev_name ok 7 rfl)) (.inl ⟨_, _, rfl⟩) (as_name ok 9 rfl ⟨rfl, .inl rfl⟩)
 (xs_cons (st_assign ok 8 rfl ⟨rfl, .inl rfl⟩ (ev_call ok (FnE.up (FN_join prog w P mg mb)) (by decide) rfl rfl rfl (evl_cons (ev_name ok 8 rfl) (evl_cons (ev_idx (ev_name ok 9 rfl) ev_int) evl_nil))))
 xs_nil)
 xs_nil)
 (xs_cons (st_for ok (it_range ok rfl rfl (evl_cons ev_int evl_nil)) (.inl ⟨_, _, rfl⟩) (as_name ok 10 rfl ⟨rfl, .inl rfl⟩)
 (xs_cons (xs_frz 4 rfl (st_if (ts_cmp h4 (ev_call ok (FN__law_told prog w P mg mb) (by decide) rfl rfl rfl (evl_cons (ev_name ok 3 rfl) (evl_cons (ev_name ok 4 rfl) (evl_cons (ev_name ok 8 rfl) (evl_cons (ev_name ok 10 rfl) evl_nil))))) (ev_call ok (FnE.up (FN__law_due prog w P mg mb)) (by decide) rfl rfl rfl (evl_cons (ev_name ok 2 rfl) (evl_cons (ev_call ok (FnE.up (FN__law_steps prog w P mg mb)) (by decide) rfl rfl rfl (evl_cons (ev_name ok 7 rfl) evl_nil)) (evl_cons (ev_name ok 10 rfl) evl_nil)))))
 (xs_cons (st_return ev_bool)
 xs_nil)
 xs_nil))
 xs_nil)
 xs_nil)
 xs_nil))))
 xs_nil)
 (xs_cons (st_return ev_bool)
 xs_nil)))))))⟩
noncomputable def PF_law : List V → Option V := pfun 11 1 BD_law.1
theorem FN_law : FnC 321 true 10 PF_law := BD_law.2

end
end Mine
end

section
namespace Mine
open PySem PySem.Calls PySem.Spec PySem.W PyProof.Rows
set_option maxRecDepth 100000

/-- a text from its signs -/
noncomputable abbrev tx (l : List Nat) : PySem.Str := ⟨l.toArray⟩
theorem tx_len (l : List Nat) : (tx l).length = l.length := by simp [Str.length]
theorem tx_append (a b : List Nat) : tx a ++ tx b = tx (a ++ b) := by
  show Str.mk (a.toArray ++ b.toArray) = _
  simp
theorem tx_inj {a b : List Nat} (h : tx a = tx b) : a = b := by
  simpa using h

theorem rfind_at (q t : List Nat) (h : 47 ∉ t) : Txt.rfind (tx (q ++ 47 :: t)) (tx [47]) = (q.length : Int) := by
  have at1 : ∀ i, StrLaws.At (tx (q ++ 47 :: t)) (tx [47]) (tx (q ++ 47 :: t)).length i ↔ (q ++ 47 :: t)[i]? = some 47 := fun i => by
    have := StrLaws.subAt_one (tx (q ++ 47 :: t)) 47 i
    simpa [StrLaws.At] using this
  have hq : StrLaws.At (tx (q ++ 47 :: t)) (tx [47]) (tx (q ++ 47 :: t)).length q.length := (at1 _).mpr (by simp)
  unfold Txt.rfind
  rcases StrLaws.last_spec (tx (q ++ 47 :: t)) (tx [47]) with ⟨_, hn⟩ | ⟨i, e, hi, hm⟩
  · exact absurd hq (hn _)
  · rw [e]
    have hi' := (at1 i).mp hi
    rcases Nat.lt_trichotomy i q.length with hlt | heq | hgt
    · exact absurd hq (hm _ hlt)
    · simp [heq]
    · rw [List.getElem?_append_right (by omega)] at hi'
      obtain ⟨k, hk⟩ : ∃ k, i - q.length = k + 1 := ⟨i - q.length - 1, by omega⟩
      rw [hk, List.getElem?_cons_succ] at hi'
      exact absurd (List.mem_of_getElem? hi') h

theorem slice_to (l : List Nat) (j : Nat) (h : j ≤ l.length) : Txt.slice (tx l) none (some (j : Int)) = tx (l.take j) := by
  have := slice_closes_to (x := tx l) (j := (j : Int)) ⟨by omega, by simpa using h⟩
  rw [beq_iff_eq] at this
  rw [this]
  simp
theorem slice_fr (l : List Nat) (j : Nat) (h : j ≤ l.length) : Txt.slice (tx l) (some (j : Int)) none = tx (l.drop j) := by
  rw [slice_from_eq (x := tx l) (i := (j : Int)) (b := (l.length : Int)) (by omega) (by simp [Str.length]; omega) (by simp [Str.length])]
  simp
  rw [List.take_of_length_le (by simp)]

/-- without the slashes behind -/
noncomputable def unsl (l : List Nat) : List Nat := l.take (l.length - (l.reverse.takeWhile (· == 47)).length)
theorem rstrip_sl (l : List Nat) : Txt.rstripChars (tx l) (tx [47]) = tx (unsl l) := by
  have hg : (fun c : Nat => (#[47] : Array Nat).contains c) = (· == 47) := by
    funext c
    by_cases h : c = 47 <;> simp [h]
  unfold Txt.rstripChars Txt.stripBy
  have e : PySem.stripped ((tx [47]).cps.contains) false true (tx l) = tx (unsl l) := by
    unfold PySem.stripped stripLo stripHi Builtin.Str.strSub unsl
    simp only [Bool.false_eq_true, if_false, if_true, List.drop_zero]
    show Str.mk _ = _
    congr 1
    have : ((tx [47]).cps.contains : Nat → Bool) = (· == 47) := hg
    rw [this]
    simp [Str.length]
  split
  · rename_i hs
    unfold stripSame stripLo stripHi at hs
    simp only [Bool.false_eq_true, if_false, if_true, List.drop_zero, Bool.and_eq_true, beq_iff_eq] at hs
    have : ((tx [47]).cps.contains : Nat → Bool) = (· == 47) := hg
    rw [this] at hs
    simp only [Str.length, List.size_toArray] at hs
    have h2 := hs.2
    unfold unsl
    rw [h2]; simp
  · exact e

theorem unsl_core (c : List Nat) (j : Nat) (h : c ≠ []) (hl : c.getLast h ≠ 47) : unsl (c ++ List.replicate j 47) = c := by
  unfold unsl
  have e1 : ((c ++ List.replicate j 47).reverse.takeWhile (· == 47)).length = j := by
    rw [List.reverse_append, List.reverse_replicate, List.takeWhile_append_of_pos (by simp)]
    have : c.reverse.takeWhile (· == 47) = [] := by
      obtain ⟨a, l, e⟩ : ∃ a l, c.reverse = a :: l := by
        cases hr : c.reverse with
        | nil => simp at hr; exact absurd hr h
        | cons a l => exact ⟨a, l, rfl⟩
      rw [e]
      have ha : a = c.getLast h := by
        have : c = l.reverse ++ [a] := by rw [← List.reverse_reverse c, e]; simp
        simp [this]
      rw [List.takeWhile_cons_of_neg]
      simp [ha]; exact hl
    simp [this]
  rw [e1]
  simp
end Mine
end

section
namespace Mine
open PySem PySem.Calls PySem.Spec PySem.W PyProof.Rows
set_option maxRecDepth 100000

theorem pSeq_n {p q : PS} {ρ ρ1 : List Slot} {r : Option (PF × List Slot)} (h : p ρ = some (.next, ρ1)) (h2 : q ρ1 = r) : pSeq p q ρ = r := by
  unfold pSeq; rw [h]; exact h2
theorem pSeq_r {p q : PS} {ρ ρ1 : List Slot} {v : V} (h : p ρ = some (.ret v, ρ1)) : pSeq p q ρ = some (.ret v, ρ1) := by
  unfold pSeq; rw [h]; rfl
theorem pSeq_c {p q : PS} {ρ ρ1 : List Slot} (h : p ρ = some (.cont, ρ1)) : pSeq p q ρ = some (.cont, ρ1) := by
  unfold pSeq; rw [h]; rfl
theorem pSeq_b {p q : PS} {ρ ρ1 : List Slot} (h : p ρ = some (.brk, ρ1)) : pSeq p q ρ = some (.brk, ρ1) := by
  unfold pSeq; rw [h]; rfl
theorem pIf_t {c : List Slot → Option Bool} {p q : PS} {ρ : List Slot} {r : Option (PF × List Slot)} (h : c ρ = some true) (h2 : p ρ = r) : pIf c p q ρ = r := by
  unfold pIf; rw [h]; exact h2
theorem pIf_f {c : List Slot → Option Bool} {p q : PS} {ρ : List Slot} {r : Option (PF × List Slot)} (h : c ρ = some false) (h2 : q ρ = r) : pIf c p q ρ = r := by
  unfold pIf; rw [h]; exact h2
theorem pIf_b {c : List Slot → Option Bool} {p q : PS} {ρ : List Slot} {b : Bool} (h : c ρ = some b) : pIf c p q ρ = if b then p ρ else q ρ := by
  unfold pIf; rw [h]; rfl
theorem pSet_e {i : Nat} {p : List Slot → Option V} {ρ : List Slot} {v : V} (h : p ρ = some v) : pSet i p ρ = some (.next, setS ρ i (.val v)) := by
  unfold pSet; rw [h]; rfl
theorem pSet_i {i : Nat} {p : List Slot → Option V} {ρ ρ' : List Slot} {v : V} (h : p ρ = some v) (e : setS ρ i (.val v) = ρ') : pSet i p ρ = some (.next, ρ') := by
  rw [pSet_e h, e]
theorem pApp_e {i : Nat} {p : List Slot → Option V} {ρ : List Slot} {v : V} {l : List V} (hl : getown i ρ = some l) (h : p ρ = some v) (hs : l.length < 4096) : pApp i p ρ = some (.next, ρ.set i (.own (l ++ [v]))) := by
  unfold pApp; rw [hl, h]; simp [hs]
theorem pExt_e {i : Nat} {p : List Slot → Option V} {ρ : List Slot} {l l2 : List V} (hl : getown i ρ = some l) (h : p ρ = some (.lst l2)) (hs : l.length + l2.length ≤ 4096) : pExt i p ρ = some (.next, setS ρ i (.own (l ++ l2))) := by
  unfold pExt; rw [hl, h]; simp [hs]
theorem pfun_e {nn np : Nat} {pb : PS} {args : List V} {ρ : List Slot} {v : V} (hn : args.length = np) (h : pb (slots0 nn args) = some (.ret v, ρ)) : pfun nn np pb args = some v := by
  unfold pfun; rw [if_pos hn, h]; rfl
theorem bind_e {α β : Type} {a : Option α} {f : α → Option β} {x : α} {r : Option β} (h : a = some x) (h2 : f x = r) : a.bind f = r := by
  rw [h]; exact h2
theorem map_e {α β : Type} {a : Option α} {f : α → β} {x : α} (h : a = some x) : a.map f = some (f x) := by
  rw [h]; rfl
theorem pRet_e {p : List Slot → Option V} {q : PS} {ρ : List Slot} {v : V} (h : p ρ = some v) : pSeq (fun ρ => Option.map (fun v => (PF.ret v, ρ)) (p ρ)) q ρ = some (.ret v, ρ) := pSeq_r (by show Option.map _ (p ρ) = _; rw [h]; rfl)
theorem pFor_c {pa : List Slot → V → Option (List Slot)} {body o : PS} {v : V} {vs : List V} {ρ ρ1 ρ2 : List Slot} {r : Option (PF × List Slot)} (h1 : pa ρ v = some ρ1) (h2 : body ρ1 = some (.next, ρ2)) (h3 : pFor pa body o vs ρ2 = r) : pFor pa body o (v :: vs) ρ = r := by
  show ((pa ρ v).bind fun ρ1 => (body ρ1).bind fun r => match r.1 with
    | .next => pFor pa body o vs r.2
    | .cont => pFor pa body o vs r.2
    | .brk => some (.next, r.2)
    | .ret x => some (.ret x, r.2)) = r
  rw [h1]; show (body ρ1).bind _ = r
  rw [h2]; exact h3
/-- a loop by its invariant: S a ρ = the state ρ stands for a -/
theorem pFor_inv {α β : Type} {pa : List Slot → V → Option (List Slot)} {body : PS} (h : β → V) (S : α → List Slot → Prop) (f : α → β → α) (I : α → List β → Prop)
    (step : ∀ a b bs ρ, I a (b :: bs) → S a ρ → ∃ ρ1 ρ2, pa ρ (h b) = some ρ1 ∧ body ρ1 = some (.next, ρ2) ∧ S (f a b) ρ2 ∧ I (f a b) bs) :
    ∀ (bs : List β) (a : α) (ρ : List Slot), I a bs → S a ρ → ∃ ρ', pFor pa body (fun ρ => some (.next, ρ)) (bs.map h) ρ = some (.next, ρ') ∧ S (bs.foldl f a) ρ' ∧ I (bs.foldl f a) []
  | [], a, ρ, hi, hs => ⟨ρ, rfl, hs, hi⟩
  | b :: bs, a, ρ, hi, hs => by
    obtain ⟨ρ1, ρ2, e1, e2, h2, i2⟩ := step a b bs ρ hi hs
    obtain ⟨ρ', e3, h3⟩ := pFor_inv h S f I step bs (f a b) ρ2 i2 h2
    exact ⟨ρ', pFor_c e1 e2 e3, h3⟩
/-- a while that runs once more -/
theorem pWhile_c {c : List Slot → Option Bool} {body o : PS} {n : Nat} {ρ ρ2 : List Slot} {r : Option (PF × List Slot)} (h1 : c ρ = some true) (h2 : body ρ = some (.next, ρ2)) (h3 : pWhile c body o n ρ2 = r) : pWhile c body o (n + 1) ρ = r := by
  show ((c ρ).bind fun b => if b then (body ρ).bind fun r => match r.1 with
    | .next => pWhile c body o n r.2
    | .cont => pWhile c body o n r.2
    | .brk => some (.next, r.2)
    | .ret x => some (.ret x, r.2) else o ρ) = r
  rw [h1]; show (body ρ).bind _ = r
  rw [h2]; exact h3
theorem pWhile_e {c : List Slot → Option Bool} {body o : PS} {n : Nat} {ρ : List Slot} {r : Option (PF × List Slot)} (h1 : c ρ = some false) (h3 : o ρ = r) : pWhile c body o (n + 1) ρ = r := by
  show ((c ρ).bind fun b => if b then (body ρ).bind _ else o ρ) = r
  rw [h1]; exact h3
end Mine
end

section
namespace Mine
open PySem PySem.Calls PySem.Spec PySem.W PyProof.Rows
set_option maxRecDepth 100000
theorem fspath_s (x : PySem.Str) : PF_fspath [.str x] = some (.str x) := by kernel_rfl
theorem sep_s (x : PySem.Str) : PF__get_sep [.str x] = some (.str (tx [47])) := by kernel_rfl

/-- the signs are code points -/
noncomputable def okL (l : List Nat) : Prop := ∀ c ∈ l, c < 1114112
theorem okL_app {a b : List Nat} (ha : okL a) (hb : okL b) : okL (a ++ b) := fun c hc => by
  rcases List.mem_append.mp hc with h | h
  · exact ha c h
  · exact hb c h
theorem strOk_tx {l : List Nat} (h : okL l) : PyData.strOk (tx l) = true := by
  unfold PyData.strOk
  simp only [List.all_toArray, List.all_eq_true, decide_eq_true_eq]
  exact h
theorem vEq_str {x y : List Nat} (hx : okL x) (hy : okL y) : vEq (.str (tx x)) (.str (tx y)) = some (decide (x = y)) := by
  have h : ∀ z, okL z → SeqAt.shaped (.str (tx z)) = true := fun z hz => by
    simp only [SeqAt.shaped, PyData.canLay0, PyData.depth, strOk_tx hz]; rfl
  simp only [vEq, toPy, h _ hx, h _ hy, Bool.and_self, if_true, PyData.eqv, Option.some.injEq]
  rw [Bool.eq_iff_iff, beq_iff_eq, decide_eq_true_eq]
  exact ⟨tx_inj, fun e => by rw [e]⟩

/-- the head of split -/
noncomputable def hdL (q : List Nat) : List Nat := if q = List.replicate q.length 47 then q else unsl q

theorem mul_sl (n : Nat) (h1 : 1 ≤ n) (h2 : n ≤ 4096) : vMul (.str (tx [47])) (.int (n : Int)) = some (.str (tx (List.replicate n 47))) := by
  show (if 1 ≤ (n : Int) ∧ (n : Int) ≤ 4096 then some (V.str ⟨(List.replicate (n : Int).toNat 47).toArray⟩) else none) = _
  rw [if_pos (by omega)]
  simp
theorem len_tx {l : List Nat} (h : l.length ≤ 4096) : pf_len [.str (tx l)] = some (.int (l.length : Int)) := by
  simp [pf_len, tx_len, h]
theorem sl_to {l : List Nat} (hl : l.length ≤ 4096) {j : Nat} (h : j ≤ l.length) : vSl (.str (tx l)) none (some (j : Int)) none = some (.str (tx (l.take j))) := by
  simp [vSl, tx_len, hl, slice_to l j h]
theorem sl_fr {l : List Nat} (hl : l.length ≤ 4096) {j : Nat} (h : j ≤ l.length) : vSl (.str (tx l)) (some (j : Int)) none none = some (.str (tx (l.drop j))) := by
  simp [vSl, tx_len, hl, slice_fr l j h]
theorem truth_tx {l : List Nat} (h : l.length ≤ 4096) : vTruth (.str (tx l)) = some (decide (l ≠ [])) := by
  have e : (l.length != 0) = decide (l ≠ []) := by cases l <;> simp
  simp only [vTruth, tx_len, h, if_true, e]
theorem rstrip_tx {l : List Nat} (h : l.length ≤ 4096) : pf_rstrip [.str (tx l), .str (tx [47])] = some (.str (tx (unsl l))) := by
  simp only [pf_rstrip, tx_len, h, if_true, rstrip_sl]

theorem take_mid (q t : List Nat) : (q ++ 47 :: t).take (q.length + 1) = q ++ [47] := by
  rw [List.take_append]; simp [List.take_of_length_le]
theorem drop_mid (q t : List Nat) : (q ++ 47 :: t).drop (q.length + 1) = t := by
  rw [List.drop_append]; simp

theorem split_at (q t : List Nat) (ht : 47 ∉ t) (ok : okL q) (hl : q.length + t.length + 1 ≤ 4096) :
    PF_split [.str (tx (q ++ 47 :: t))] = some (.tup [.str (tx (hdL (q ++ [47]))), .str (tx t)]) := by
  have hlen : (q ++ 47 :: t).length ≤ 4096 := by simp; omega
  have hlen2 : (q ++ [47]).length ≤ 4096 := by simp; omega
  have e1 : vSl (.str (tx (q ++ 47 :: t))) none (some ((q.length : Int) + 1)) none = some (.str (tx (q ++ [47]))) := by
    have := sl_to (l := q ++ 47 :: t) hlen (j := q.length + 1) (by simp)
    rw [take_mid] at this
    exact this
  have e2 : vSl (.str (tx (q ++ 47 :: t))) (some ((q.length : Int) + 1)) none none = some (.str (tx t)) := by
    have := sl_fr (l := q ++ 47 :: t) hlen (j := q.length + 1) (by simp)
    rw [drop_mid] at this
    exact this
  have ok2 : okL (q ++ [47]) := okL_app ok (by intro c hc; simp at hc; omega)
  have okr : ∀ n, okL (List.replicate n 47) := fun n c hc => by have := List.eq_of_mem_replicate hc; omega
  unfold PF_split BD_split; dsimp only
  apply pfun_e rfl
  refine pSeq_n (ρ1 := [.val (.str (tx (q ++ 47 :: t))), .unb, .unb, .unb, .unb]) (by kernel_rfl) ?_
  refine pSeq_n (ρ1 := [.val (.str (tx (q ++ 47 :: t))), .val (.str (tx [47])), .unb, .unb, .unb]) (by kernel_rfl) ?_
  refine pSeq_n (ρ1 := [.val (.str (tx (q ++ 47 :: t))), .val (.str (tx [47])), .val (.int ((q.length : Int) + 1)), .unb, .unb]) ?_ ?_
  · refine pSet_e (v := .int ((q.length : Int) + 1)) ?_
    show (some (V.int (Txt.rfind (tx (q ++ 47 :: t)) (tx [47])))).bind _ = _
    rw [rfind_at q t ht]; rfl
  refine pSeq_n (ρ1 := [.val (.str (tx (q ++ 47 :: t))), .val (.str (tx [47])), .val (.int ((q.length : Int) + 1)), .val (.str (tx (q ++ [47]))), .val (.str (tx t))]) ?_ ?_
  · unfold pAsg
    show ((((vSl (.str (tx (q ++ 47 :: t))) none (some ((q.length : Int) + 1)) none).bind fun a => Option.map (fun x => a :: x) ((vSl (.str (tx (q ++ 47 :: t))) (some ((q.length : Int) + 1)) none none).bind fun a => Option.map (fun x => a :: x) (some []))).bind fun l => if l.length ≤ 4096 then some (V.tup l) else none)).bind _ = _
    rw [e1, e2]; rfl
  refine pSeq_n (ρ1 := [.val (.str (tx (q ++ 47 :: t))), .val (.str (tx [47])), .val (.int ((q.length : Int) + 1)), .val (.str (tx (hdL (q ++ [47])))), .val (.str (tx t))]) ?_ ?_
  · have ht1 : vTruth (.str (tx (q ++ [47]))) = some true := by rw [truth_tx hlen2]; simp
    have hm : vMul (.str (tx [47])) (.int (((q ++ [47]).length : Nat) : Int)) = some (.str (tx (List.replicate (q ++ [47]).length 47))) := mul_sl _ (by simp) hlen2
    have hne : vCmp .NotEq (.str (tx (q ++ [47]))) (.str (tx (List.replicate (q ++ [47]).length 47))) = some (!decide ((q ++ [47]) = List.replicate (q ++ [47]).length 47)) := by
      show (vEq _ _).map _ = _
      rw [vEq_str ok2 (okr _)]; rfl
    have htest : ((vTruth (.str (tx (q ++ [47])))).bind fun a => if a = true then (((pf_len [.str (tx (q ++ [47]))]).bind fun b => vMul (.str (tx [47])) b).bind fun b => vCmp .NotEq (.str (tx (q ++ [47]))) b).bind fun a => if a = true then some true else some false else some false) = some (!decide ((q ++ [47]) = List.replicate (q ++ [47]).length 47)) := by
      rw [ht1, Option.bind_some, if_pos rfl, len_tx hlen2, Option.bind_some, hm, Option.bind_some, hne, Option.bind_some]
      cases decide ((q ++ [47]) = List.replicate (q ++ [47]).length 47) <;> rfl
    by_cases hd : (q ++ [47]) = List.replicate (q ++ [47]).length 47
    · refine pIf_f (htest.trans (by rw [decide_eq_true hd]; rfl)) ?_
      unfold hdL; rw [if_pos hd]
    · refine pIf_t (htest.trans (by rw [decide_eq_false hd]; rfl)) ?_
      refine pSeq_n (ρ1 := [.val (.str (tx (q ++ 47 :: t))), .val (.str (tx [47])), .val (.int ((q.length : Int) + 1)), .val (.str (tx (hdL (q ++ [47])))), .val (.str (tx t))]) ?_ rfl
      refine pSet_i (v := .str (tx (unsl (q ++ [47])))) (rstrip_tx hlen2) ?_
      unfold hdL; rw [if_neg hd]; rfl
  exact pSeq_r (by rfl)
end Mine
end

section
namespace Mine
open PySem PySem.Calls PySem.Spec PySem.W PyProof.Rows
set_option maxRecDepth 100000

theorem starts_tx (b : List Nat) : Txt.startswith (tx b) (tx [47]) = decide (b.head? = some 47) := by
  rw [Bool.eq_iff_iff, decide_eq_true_eq]
  have := StrLaws.subAt_one (tx b) 47 0
  unfold Txt.startswith
  rw [Bool.and_eq_true, decide_eq_true_eq]
  refine Iff.trans this ?_
  cases b <;> simp
theorem ends_tx (b : List Nat) : Txt.endswith (tx b) (tx [47]) = decide (b.getLast? = some 47) := by
  rw [Bool.eq_iff_iff, decide_eq_true_eq]
  have := StrLaws.subAt_one (tx b) 47 (b.length - 1)
  unfold Txt.endswith
  rw [Bool.and_eq_true, decide_eq_true_eq]
  simp only [tx_len, List.length_singleton] at this ⊢
  rw [List.getLast?_eq_getElem?]
  refine Iff.trans ?_ this
  constructor
  · rintro ⟨h1, h2⟩
    exact ⟨by show b.length - 1 + 1 ≤ _; omega, h2⟩
  · rintro ⟨h1, h2⟩
    have h1 : b.length - 1 + 1 ≤ b.length := h1
    exact ⟨by omega, h2⟩
theorem add_tx {a b : List Nat} (h : a.length + b.length ≤ 4096) : vAdd (.str (tx a)) (.str (tx b)) = some (.str (tx (a ++ b))) := by
  show strV (tx a ++ tx b) = _
  rw [tx_append]
  unfold strV
  rw [tx_len, if_pos (by simp; omega)]

noncomputable def joinL (p b : List Nat) : List Nat := if b.head? = some 47 then b else if p.getLast? = some 47 then p ++ b else p ++ 47 :: b
theorem join_s (p b : List Nat) (hp : p ≠ []) (hl : p.length + b.length ≤ 4000) : PF_join [.str (tx p), .str (tx b)] = some (.str (tx (joinL p b))) := by
  unfold PF_join BD_join pfunva; dsimp only
  refine bind_e (x := (PF.ret (.str (tx (joinL p b))), [.val (.str (tx p)), .val (.tup [.str (tx b)]), .val (.str (tx [47])), .val (.str (tx (joinL p b))), .val (.str (tx b))])) ?_ rfl
  refine pSeq_n (ρ1 := [.val (.str (tx p)), .val (.tup [.str (tx b)]), .unb, .unb, .unb]) (by kernel_rfl) ?_
  refine pSeq_n (ρ1 := [.val (.str (tx p)), .val (.tup [.str (tx b)]), .val (.str (tx [47])), .unb, .unb]) (by kernel_rfl) ?_
  refine pSeq_n (ρ1 := [.val (.str (tx p)), .val (.tup [.str (tx b)]), .val (.str (tx [47])), .val (.str (tx p)), .unb]) (by kernel_rfl) ?_
  refine pSeq_n (ρ1 := [.val (.str (tx p)), .val (.tup [.str (tx b)]), .val (.str (tx [47])), .val (.str (tx (joinL p b))), .val (.str (tx b))]) ?_ (pSeq_r (by rfl))
  refine pSeq_n (ρ1 := [.val (.str (tx p)), .val (.tup [.str (tx b)]), .val (.str (tx [47])), .val (.str (tx (joinL p b))), .val (.str (tx b))]) ?_ rfl
  refine pSeq_n (ρ1 := [.val (.str (tx p)), .val (.tup [.str (tx b)]), .val (.str (tx [47])), .val (.str (tx (joinL p b))), .val (.str (tx b))]) ?_ rfl
  refine bind_e (x := [.str (tx b)]) (by rfl) ?_
  refine pFor_c (ρ1 := [.val (.str (tx p)), .val (.tup [.str (tx b)]), .val (.str (tx [47])), .val (.str (tx p)), .val (.str (tx b))]) (ρ2 := [.val (.str (tx p)), .val (.tup [.str (tx b)]), .val (.str (tx [47])), .val (.str (tx (joinL p b))), .val (.str (tx b))]) (by rfl) ?_ (by rfl)
  refine pSeq_n (ρ1 := [.val (.str (tx p)), .val (.tup [.str (tx b)]), .val (.str (tx [47])), .val (.str (tx p)), .val (.str (tx b))]) (by kernel_rfl) ?_
  refine pSeq_n (ρ1 := [.val (.str (tx p)), .val (.tup [.str (tx b)]), .val (.str (tx [47])), .val (.str (tx (joinL p b))), .val (.str (tx b))]) ?_ rfl
  have hlp : p.length ≤ 4096 := by omega
  have htest : (some (Txt.startswith (tx b) (tx [47]))).bind (fun a => if a = true then some true else (Option.map (fun x => !x) (vTruth (.str (tx p)))).bind fun a => if a = true then some true else some false) = some (decide (b.head? = some 47)) := by
    rw [Option.bind_some, starts_tx, truth_tx hlp, decide_eq_true hp]
    cases decide (b.head? = some 47) <;> rfl
  by_cases h1 : b.head? = some 47
  · refine pIf_t (htest.trans (by rw [decide_eq_true h1])) ?_
    have : joinL p b = b := by unfold joinL; rw [if_pos h1]
    rw [this]; rfl
  · refine pIf_f (htest.trans (by rw [decide_eq_false h1])) ?_
    by_cases h2 : p.getLast? = some 47
    · have e : joinL p b = p ++ b := by unfold joinL; rw [if_neg h1, if_pos h2]
      rw [e]
      refine pSeq_n (ρ1 := [.val (.str (tx p)), .val (.tup [.str (tx b)]), .val (.str (tx [47])), .val (.str (tx (p ++ b))), .val (.str (tx b))]) ?_ rfl
      refine pIf_t ?_ (pSeq_n (ρ1 := [.val (.str (tx p)), .val (.tup [.str (tx b)]), .val (.str (tx [47])), .val (.str (tx (p ++ b))), .val (.str (tx b))]) ?_ rfl)
      · show some (Txt.endswith (tx p) (tx [47])) = _
        rw [ends_tx, decide_eq_true h2]
      · show (vAdd (.str (tx p)) (.str (tx b))).map _ = _
        rw [add_tx (by omega)]; rfl
    · have e : joinL p b = p ++ 47 :: b := by unfold joinL; rw [if_neg h1, if_neg h2]
      rw [e]
      refine pSeq_n (ρ1 := [.val (.str (tx p)), .val (.tup [.str (tx b)]), .val (.str (tx [47])), .val (.str (tx (p ++ 47 :: b))), .val (.str (tx b))]) ?_ rfl
      refine pIf_f ?_ (pSeq_n (ρ1 := [.val (.str (tx p)), .val (.tup [.str (tx b)]), .val (.str (tx [47])), .val (.str (tx (p ++ 47 :: b))), .val (.str (tx b))]) ?_ rfl)
      · show some (Txt.endswith (tx p) (tx [47])) = _
        rw [ends_tx, decide_eq_false h2]
      · show (vAdd (.str (tx [47])) (.str (tx b))).bind (fun c => (vAug .Add (.str (tx p)) c).map _) = _
        rw [add_tx (by simp; omega), Option.bind_some]
        show (vAdd (.str (tx p)) (.str (tx ([47] ++ b)))).map _ = _
        rw [add_tx (by simp; omega)]; rfl
end Mine
end

section
namespace Mine
open PySem PySem.Calls PySem.Spec PySem.W PyProof.Rows
set_option maxRecDepth 100000

noncomputable def nameTab : List (List Nat) := [[42], [63], [97], [97, 98], [46, 46], [46], [63, 98], [97, 42], [91, 33, 97, 93, 63], [91, 97, 45, 99, 93, 42], [99]]
noncomputable def nm (n : List Nat) : Prop := n ≠ [] ∧ 47 ∉ n ∧ okL n ∧ n ∈ nameTab
/-- the names of a path, the last first -/
inductive Tl : List Nat → List (List Nat) → Prop
  | nil : Tl [47] []
  | one {n : List Nat} : nm n → Tl (47 :: n) [n]
  | cons {c n : List Nat} {ts : List (List Nat)} (j : Nat) : Tl c ts → ts ≠ [] → nm n → Tl (c ++ List.replicate (j + 1) 47 ++ n) (n :: ts)

theorem Tl.all {c : List Nat} {ts : List (List Nat)} (h : Tl c ts) : ∀ t ∈ ts, t ∈ nameTab := by
  induction h with
  | nil => intro t ht; cases ht
  | one hn => intro t ht; simp at ht; rw [ht]; exact hn.2.2.2
  | cons j h _ hn ih => intro t ht; rcases List.mem_cons.mp ht with e | e; rw [e]; exact hn.2.2.2; exact ih t e
theorem nm_last {n : List Nat} (h : nm n) {l : List Nat} : (l ++ n).getLast? ≠ some 47 := by
  rw [List.getLast?_append]
  cases e : n.getLast? with
  | none => exact absurd (List.getLast?_eq_none_iff.mp e) h.1
  | some a =>
    intro q
    simp at q
    exact h.2.1 (q ▸ List.mem_of_getLast? e)
theorem Tl.last {c : List Nat} {ts : List (List Nat)} (h : Tl c ts) (ht : ts ≠ []) : c.getLast? ≠ some 47 := by
  cases h with
  | nil => exact absurd rfl ht
  | one hn => exact nm_last (l := [47]) hn
  | cons j h _ hn => exact nm_last hn
theorem Tl.ne {c : List Nat} {ts : List (List Nat)} (h : Tl c ts) : c ≠ [] := by
  cases h with
  | nil => simp
  | one hn => simp
  | cons j h _ hn => simp
theorem Tl.ok {c : List Nat} {ts : List (List Nat)} (h : Tl c ts) : okL c := by
  induction h with
  | nil => intro c hc; simp at hc; omega
  | one hn => intro c hc; rcases List.mem_cons.mp hc with h | h; omega; exact hn.2.2.1 c h
  | cons j h _ hn ih => exact okL_app (okL_app ih (fun c hc => by have := List.eq_of_mem_replicate hc; omega)) hn.2.2.1

noncomputable def stepOf (n : List Nat) : List Nat :=
  if n = [42] then [42, 48, 49] else if n = [63] then [42, 48] else if n = [97] then [61, 48] else if n = [97, 98] then [61, 49]
  else if n = [46, 46] then [46, 46] else if n = [46] then [46] else if n = [63, 98] then [42, 49] else if n = [97, 42] then [42, 48, 49]
  else if n = [91, 33, 97, 93, 63] then [42] else if n = [91, 97, 45, 99, 93, 42] then [42, 48, 49] else if n = [99] then [61] else [46]

/-- the parts of a pattern: the text, the steps -/
inductive Part : List Nat → List (List Nat) → Prop
  | a {n : List Nat} (k : Nat) : nm n → Part (n ++ List.replicate k 47) [stepOf n]
  | b {n1 n2 : List Nat} : nm n1 → nm n2 → Part (n1 ++ 47 :: n2) [stepOf n1, stepOf n2]
  | c {n : List Nat} : nm n → Part (47 :: n) [stepOf n]
  | d : Part [] []

noncomputable def newSteps (steps : List (List Nat)) (text : List Nat) (added : List (List Nat)) : List (List Nat) := (if text.head? = some 47 then [] else steps) ++ added
noncomputable def newSlash (steps : List (List Nat)) (text : List Nat) (added : List (List Nat)) : Bool := decide (text.getLast? = some 47) || (decide (text = []) && decide (newSteps steps text added ≠ []))

structure Inv (m : Nat) (p : List Nat) (steps : List (List Nat)) (slash : Bool) (ts : List (List Nat)) (c : List Nat) (k : Nat) : Prop where
  path : p = c ++ List.replicate k 47
  tl : Tl c ts
  k0 : ts = [] → k = 0
  steps : steps = ts.reverse.map stepOf
  slash : slash = decide (k ≠ 0)
  few : ts.length ≤ 2 * m

theorem head_nm {n l : List Nat} (h : nm n) : (n ++ l).head? ≠ some 47 := by
  cases n with
  | nil => exact absurd rfl h.1
  | cons a r => intro q; simp at q; exact h.2.1 (by simp [q])
theorem rep_last (k : Nat) (l : List Nat) : (l ++ List.replicate (k + 1) 47).getLast? = some 47 := by
  rw [List.replicate_succ', ← List.append_assoc]; simp

/-- what stands ahead of a name that is joined -/
theorem Inv.ahead {m : Nat} {p : List Nat} {steps : List (List Nat)} {slash : Bool} {ts : List (List Nat)} {c : List Nat} {k : Nat} (h : Inv m p steps slash ts c k) {n l : List Nat} (hn : nm n) :
    ∃ q, joinL p (n ++ l) = q ++ n ++ l ∧ Tl (q ++ n) (n :: ts) := by
  have hd := head_nm (l := l) hn
  unfold joinL
  rw [if_neg hd]
  by_cases ht : ts = []
  · have hk := h.k0 ht
    have hc : c = [47] := by
      have := h.tl; rw [ht] at this; cases this; rfl
    have hp : p = [47] := by rw [h.path, hc, hk]; rfl
    refine ⟨[47], ?_, ?_⟩
    · rw [hp]; simp
    · rw [ht]; exact .one hn
  · cases k with
    | zero =>
      have hp : p = c := by rw [h.path]; simp
      refine ⟨c ++ List.replicate 1 47, ?_, .cons 0 h.tl ht hn⟩
      rw [hp, if_neg (h.tl.last ht)]; simp
    | succ j =>
      refine ⟨c ++ List.replicate (j + 1) 47, ?_, .cons j h.tl ht hn⟩
      rw [h.path, if_pos (rep_last j c)]; simp

theorem Inv.step {m : Nat} {p : List Nat} {steps : List (List Nat)} {slash : Bool} {ts : List (List Nat)} {c : List Nat} {k : Nat} (h : Inv m p steps slash ts c k) {text : List Nat} {added : List (List Nat)} (hp : Part text added) :
    ∃ ts' c' k', Inv (m + 1) (joinL p text) (newSteps steps text added) (newSlash steps text added) ts' c' k' := by
  cases hp with
  | @a n k' hn =>
    obtain ⟨q, e, t⟩ := h.ahead (l := List.replicate k' 47) hn
    refine ⟨_, _, k', ⟨e, t, (fun q => nomatch q), ?_, ?_, ?_⟩⟩
    · unfold newSteps; rw [if_neg (head_nm hn), h.steps]; simp
    · unfold newSlash
      have h0 : n ++ List.replicate k' 47 ≠ [] := by simp [hn.1]
      rw [decide_eq_false h0]
      cases k' with
      | zero =>
        have := nm_last (l := []) hn
        simp at this
        simp [this]
      | succ j => rw [rep_last]; simp
    · have := h.few; simp only [List.length_cons]; omega
  | @b n1 n2 h1 h2 =>
    obtain ⟨q, e, t⟩ := h.ahead (l := 47 :: n2) h1
    refine ⟨n2 :: n1 :: ts, _, 0, ⟨?_, .cons 0 t (by simp) h2, fun q => rfl, ?_, ?_, ?_⟩⟩
    · rw [e]; simp
    · unfold newSteps; rw [if_neg (head_nm h1), h.steps]; simp
    · unfold newSlash
      have h0 : n1 ++ 47 :: n2 ≠ [] := by simp
      have h3 : (n1 ++ 47 :: n2).getLast? ≠ some 47 := by
        have := nm_last (l := n1 ++ [47]) h2
        simpa using this
      rw [decide_eq_false h0, decide_eq_false h3]; simp
    · have := h.few; simp only [List.length_cons]; omega
  | @c n hn =>
    refine ⟨[n], 47 :: n, 0, ⟨?_, .one hn, fun q => rfl, ?_, ?_, ?_⟩⟩
    · unfold joinL; simp
    · unfold newSteps; simp
    · unfold newSlash
      have h3 := nm_last (l := [47]) hn
      have h3 : (47 :: n).getLast? ≠ some 47 := h3
      rw [decide_eq_false h3]; simp
    · simp; omega
  | d =>
    have e0 : newSteps steps [] [] = steps := by unfold newSteps; simp
    unfold newSlash
    rw [e0]
    by_cases ht : ts = []
    · have hk := h.k0 ht
      have hc : c = [47] := by
        have := h.tl; rw [ht] at this; cases this; rfl
      have hp : p = [47] := by rw [h.path, hc, hk]; rfl
      refine ⟨ts, c, 0, ⟨?_, h.tl, fun _ => rfl, h.steps, ?_, ?_⟩⟩
      · rw [hp, hc]; rfl
      · rw [h.steps, ht]; simp
      · have := h.few; omega
    · cases k with
      | zero =>
        have hp : p = c := by rw [h.path]; simp
        refine ⟨ts, c, 1, ⟨?_, h.tl, fun e => absurd e ht, h.steps, ?_, ?_⟩⟩
        · rw [hp]; unfold joinL; rw [if_neg (by simp), if_neg (h.tl.last ht)]; rfl
        · rw [h.steps]; simp [ht]
        · have := h.few; omega
      | succ j =>
        refine ⟨ts, c, j + 1, ⟨?_, h.tl, fun e => absurd e ht, h.steps, ?_, ?_⟩⟩
        · rw [h.path]; unfold joinL; rw [if_neg (by simp), if_pos (rep_last j c)]; simp
        · rw [h.steps]; simp [ht]
        · have := h.few; omega
end Mine
end

section
namespace Mine
open PySem PySem.Calls PySem.Spec PySem.W PyProof.Rows
set_option maxRecDepth 100000

noncomputable def tW : List Slot → Option Bool := fun ρ => (getv 2 ρ).bind fun a => (some (V.str (Str.ofString "/"))).bind fun b => vCmp CmpOp.NotEq a b
noncomputable def tB : PS := pSeq (pAsg (fun ρ => ((getv 2 ρ).bind fun a => Option.map (fun x => a :: x) (some [])).bind PF_split) (paT 2 (plC (paN 2) (plC (paN 5) plN)))) (pSeq (pApp 4 (getv 5)) fun ρ => some (PF.next, ρ))
theorem slash_tx : Str.ofString "/" = tx [47] := by kernel_rfl
/-- the state of _law_found while it reads the path -/
noncomputable abbrev tS (a b : V) (p : List Nat) (w : V) (acc : List V) (d : Slot) : List Slot := [.val a, .val b, .val (.str (tx p)), .val w, .own acc, d, .unb, .unb, .unb, .unb, .unb, .unb]

theorem tW_at {a b w : V} {p : List Nat} {acc : List V} {d : Slot} (hp : okL p) : tW (tS a b p w acc d) = some (decide (p ≠ [47])) := by
  show vCmp CmpOp.NotEq (.str (tx p)) (.str (Str.ofString "/")) = _
  rw [slash_tx]
  show (vEq (.str (tx p)) (.str (tx [47]))).map _ = _
  rw [vEq_str hp (by intro c hc; simp at hc; omega)]
  simp
theorem tB_at {a b w : V} {p h t : List Nat} {acc : List V} {d : Slot} (hs : PF_split [.str (tx p)] = some (.tup [.str (tx h), .str (tx t)])) (hl : acc.length < 4096) :
    tB (tS a b p w acc d) = some (.next, tS a b h w (acc ++ [.str (tx t)]) (.val (.str (tx t)))) := by
  refine pSeq_n (ρ1 := tS a b h w acc (.val (.str (tx t)))) ?_ (pSeq_n (ρ1 := tS a b h w (acc ++ [.str (tx t)]) (.val (.str (tx t)))) ?_ rfl)
  · show ((PF_split [.str (tx p)]).bind _) = _
    rw [hs]; rfl
  · exact pApp_e rfl rfl hl

theorem split_root {n : List Nat} (hn : 47 ∉ n) (hl : n.length ≤ 4000) : PF_split [.str (tx (47 :: n))] = some (.tup [.str (tx [47]), .str (tx n)]) := by
  have := split_at [] n hn (by intro c hc; cases hc) (by simp; omega)
  exact this
theorem split_core {c n : List Nat} (j : Nat) (hc : c ≠ []) (hc2 : c.getLast? ≠ some 47) (ok : okL c) (hn : 47 ∉ n) (hl : c.length + j + n.length ≤ 4000) :
    PF_split [.str (tx (c ++ List.replicate (j + 1) 47 ++ n))] = some (.tup [.str (tx c), .str (tx n)]) := by
  have e : c ++ List.replicate (j + 1) 47 ++ n = (c ++ List.replicate j 47) ++ 47 :: n := by
    rw [List.replicate_succ']; simp
  rw [e, split_at (c ++ List.replicate j 47) n hn (okL_app ok (fun c hc => by have := List.eq_of_mem_replicate hc; omega)) (by simp; omega)]
  have e2 : c ++ List.replicate j 47 ++ [47] = c ++ List.replicate (j + 1) 47 := by rw [List.replicate_succ']; simp
  have hlast : c.getLast hc ≠ 47 := fun q => hc2 (by rw [List.getLast?_eq_some_getLast hc, q])
  rw [e2]
  unfold hdL
  rw [if_neg, unsl_core c (j + 1) hc hlast]
  intro q
  have : c.getLast hc ∈ List.replicate (c ++ List.replicate (j + 1) 47).length 47 := by
    rw [← q]; exact List.mem_append_left _ (List.getLast_mem hc)
  exact hlast (List.eq_of_mem_replicate this)

theorem tails_loop {a b w : V} {c : List Nat} {ts : List (List Nat)} (h : Tl c ts) : ∀ (fuel : Nat) (acc : List V) (d : Slot), ts.length < fuel → c.length ≤ 4000 → acc.length + ts.length ≤ 4000 →
    ∃ d', pWhile tW tB (fun ρ => some (.next, ρ)) fuel (tS a b c w acc d) = some (.next, tS a b [47] w (acc ++ ts.map fun t => .str (tx t)) d') := by
  induction h with
  | nil =>
    intro fuel acc d hf hl ha
    obtain ⟨f, rfl⟩ : ∃ f, fuel = f + 1 := ⟨fuel - 1, by omega⟩
    refine ⟨d, pWhile_e (tW_at (by intro c hc; simp at hc; omega)) ?_⟩
    simp
  | @one n hn =>
    intro fuel acc d hf hl ha
    obtain ⟨f, rfl⟩ : ∃ f, fuel = f + 2 := ⟨fuel - 2, by simp at hf; omega⟩
    simp only [List.length_cons, List.length_nil] at hl ha
    have ok : okL (47 :: n) := (Tl.one hn).ok
    refine ⟨.val (.str (tx n)), pWhile_c ((tW_at ok).trans (by simp [hn.1])) (tB_at (split_root hn.2.1 (by omega)) (by omega)) (pWhile_e (tW_at (by intro c hc; simp at hc; omega)) ?_)⟩
    simp
  | @cons c n ts j ht hne hn ih =>
    intro fuel acc d hf hl ha
    obtain ⟨f, rfl⟩ : ∃ f, fuel = f + 1 := ⟨fuel - 1, by simp at hf; omega⟩
    simp only [List.length_cons, List.length_append, List.length_replicate] at hl ha hf
    have ok := (Tl.cons j ht hne hn).ok
    obtain ⟨d', e⟩ := ih f (acc ++ [.str (tx n)]) (.val (.str (tx n))) (by omega) (by omega) (by simp; omega)
    refine ⟨d', pWhile_c ((tW_at ok).trans ?_) (tB_at (split_core j ht.ne (ht.last hne) ht.ok hn.2.1 (by omega)) (by omega)) (e.trans (by simp))⟩
    have : c ++ List.replicate (j + 1) 47 ++ n ≠ [47] := fun q => by
      have := congrArg List.length q
      have hc := List.length_pos_iff.mpr ht.ne
      simp at this; omega
    rw [decide_eq_true this]

/-- the whole path -/
theorem tails_whole {a b w : V} {m k : Nat} {p c : List Nat} {steps ts : List (List Nat)} {slash : Bool} (h : Inv m p steps slash ts c k) (hp : p.length ≤ 4000) (hm : m ≤ 4) :
    ∃ d', pWhile tW tB (fun ρ => some (.next, ρ)) 64 (tS a b p w [] .unb) = some (.next, tS a b [47] w (((if slash then [[]] else []) ++ ts).map fun t => .str (tx t)) d') := by
  have few := h.few
  have hpath := h.path
  cases k with
  | zero =>
    have hs : slash = false := by rw [h.slash]; rfl
    have hp' : p = c := by rw [hpath]; simp
    obtain ⟨d', e⟩ := tails_loop (a := a) (b := b) (w := w) h.tl 64 [] .unb (by omega) (by rw [← hp']; exact hp) (by simp; omega)
    exact ⟨d', by rw [hp', e, hs]; simp⟩
  | succ j =>
    have hs : slash = true := by rw [h.slash]; simp
    have hne : ts ≠ [] := fun q => by have := h.k0 q; omega
    rw [hpath] at hp ⊢
    simp only [List.length_append, List.length_replicate] at hp
    obtain ⟨d', e⟩ := tails_loop (a := a) (b := b) (w := w) h.tl 63 [.str (tx [])] (.val (.str (tx []))) (by omega) (by omega) (by simp; omega)
    refine ⟨d', pWhile_c ((tW_at ?_).trans ?_) (tB_at (h := c) (t := []) ?_ (by simp)) (e.trans (by rw [hs]; simp))⟩
    · exact okL_app h.tl.ok (fun c hc => by have := List.eq_of_mem_replicate hc; omega)
    · have : c ++ List.replicate (j + 1) 47 ≠ [47] := fun q => by
        have := congrArg List.length q
        have hc := List.length_pos_iff.mpr h.tl.ne
        simp at this; omega
      rw [decide_eq_true this]
    · have := split_core (n := []) j h.tl.ne (h.tl.last hne) h.tl.ok (by simp) (by simp; omega)
      simpa using this
end Mine
end

section
namespace Mine
open PySem PySem.Calls PySem.Spec PySem.W PyProof.Rows
set_option maxRecDepth 100000

theorem and_block (x k n : Nat) : x &&& (2 ^ k * (2 ^ n - 1)) = 2 ^ k * (x / 2 ^ k % 2 ^ n) := by
  apply Nat.eq_of_testBit_eq
  intro i
  rw [Nat.testBit_and, Nat.testBit_two_pow_mul, Nat.testBit_two_pow_mul, Nat.testBit_two_pow_sub_one, Nat.testBit_mod_two_pow, Nat.testBit_div_two_pow]
  by_cases h : i ≥ k
  · have : k + (i - k) = i := by omega
    simp [h]
    rw [Bool.and_comm]
  · simp [h]
theorem and_kind (x : Nat) : x &&& 61440 = 4096 * (x / 4096 % 16) := and_block x 12 4
theorem and_one (x k : Nat) : x &&& 2 ^ k = 2 ^ k * (x / 2 ^ k % 2) := by
  have := and_block x k 1
  simpa using this
theorem band (x b : Nat) : Builtin.bitAnd (x : Int) (b : Int) = ((x &&& b : Nat) : Int) := by
  simp [Builtin.bitAnd]
/-- both of two bits -/
theorem and_two (x a b : Nat) (h : a &&& b = 0) : (x &&& (a ||| b) = a ||| b) ↔ (x &&& a = a ∧ x &&& b = b) := by
  rw [Nat.and_or_distrib_left]
  constructor
  · intro e
    constructor
    · apply Nat.eq_of_testBit_eq; intro i
      have e1 := congrArg (Nat.testBit · i) e
      have h1 := congrArg (Nat.testBit · i) h
      simp only [Nat.testBit_and, Nat.testBit_or, Nat.zero_testBit] at e1 h1 ⊢
      revert e1 h1
      cases x.testBit i <;> cases a.testBit i <;> cases b.testBit i <;> simp
    · apply Nat.eq_of_testBit_eq; intro i
      have e1 := congrArg (Nat.testBit · i) e
      have h1 := congrArg (Nat.testBit · i) h
      simp only [Nat.testBit_and, Nat.testBit_or, Nat.zero_testBit] at e1 h1 ⊢
      revert e1 h1
      cases x.testBit i <;> cases a.testBit i <;> cases b.testBit i <;> simp
  · rintro ⟨e1, e2⟩
    rw [e1, e2]
theorem bit_iff (x k : Nat) : (x &&& 2 ^ k = 2 ^ k) ↔ x / 2 ^ k % 2 = 1 := by
  rw [and_one]
  have : 0 < 2 ^ k := Nat.two_pow_pos k
  constructor
  · intro h
    have : 2 ^ k * (x / 2 ^ k % 2) = 2 ^ k * 1 := by rw [h]; simp
    exact Nat.eq_of_mul_eq_mul_left (by assumption) this
  · intro h; rw [h]; simp

theorem isdir_v (x : Nat) : PF_S_ISDIR [.int (x : Int)] = some (.bool (decide (x / 4096 % 16 = 4))) := by
  have e1 : PF_S_IFMT [.int (x : Int)] = some (.int ((4096 * (x / 4096 % 16) : Nat) : Int)) := by
    have h : PF_S_IFMT [.int (x : Int)] = some (.int (Builtin.bitAnd (x : Int) (61440 : Nat))) := by kernel_rfl
    rw [h, band, and_kind]
  unfold PF_S_ISDIR BD_S_ISDIR; dsimp only
  refine pfun_e (ρ := slots0 1 [.int (x : Int)]) rfl (pRet_e ?_)
  show ((PF_S_IFMT [.int (x : Int)]).bind fun a => (some (V.int 16384)).bind fun b => Option.map V.bool (vCmp CmpOp.Eq a b)) = _
  rw [e1, Option.bind_some, Option.bind_some]
  show (vEq (.int _) (.int _)).map V.bool = _
  simp only [vEq, toPy, PyData.eqv]
  have h : ∀ i : Int, SeqAt.shaped (.int i) = true := fun i => rfl
  simp only [h, Bool.and_self, if_true, Option.map_some, Option.some.injEq, V.bool.injEq]
  rw [Bool.eq_iff_iff, beq_iff_eq, decide_eq_true_eq]
  omega
end Mine
end

section
namespace Mine
open PySem PySem.Calls PySem.Spec PySem.W PyProof.Rows
set_option maxRecDepth 100000

theorem vEq_int (a b : Int) : vEq (.int a) (.int b) = some (decide (a = b)) := by
  have h : ∀ i : Int, SeqAt.shaped (.int i) = true := fun i => rfl
  simp only [vEq, toPy, h, Bool.and_self, if_true, PyData.eqv, Option.some.injEq]
  rw [Bool.eq_iff_iff, beq_iff_eq, decide_eq_true_eq]

noncomputable def kch (k : Nat) : Nat := [63, 112, 99, 63, 100, 63, 98, 63, 45, 63, 108, 63, 115, 63, 63, 63].getD k 63
noncomputable def rch (r : Nat) : Nat := if r / 4 % 2 = 1 then 114 else 45
noncomputable def wch (r : Nat) : Nat := if r / 2 % 2 = 1 then 119 else 45
noncomputable def xch (t : Bool) (r s : Nat) : Nat := if r % 2 = 1 then (if s % 2 = 1 then (if t then 116 else 115) else 120) else (if s % 2 = 1 then (if t then 84 else 83) else 45)
/-- the ten signs of a mode -/
noncomputable def sg (x : Nat) : PySem.Str := ⟨#[kch (x / 4096 % 16), rch (x / 64 % 8), wch (x / 64 % 8), xch false (x / 64 % 8) (x / 2048), rch (x / 8 % 8), wch (x / 8 % 8), xch false (x / 8 % 8) (x / 1024), rch (x % 8), wch (x % 8), xch true (x % 8) (x / 512)]⟩

/-- one sign -/
noncomputable abbrev c1 (c : Nat) : V := .str ⟨#[c]⟩
noncomputable abbrev entV (e : Nat × Nat) : V := .tup [.int (e.1 : Int), c1 e.2]
noncomputable def pick (test : Nat → Bool) (dflt : Nat) : List (Nat × Nat) → Nat
  | [] => dflt
  | e :: r => if test e.1 then e.2 else pick test dflt r
noncomputable abbrev rowV (b : Nat × List (Nat × Nat)) : V := .tup [.int (b.1 : Int), .tup (b.2.map entV)]
noncomputable def fmTab : List (Nat × List (Nat × Nat)) := [(0, [(40960, 108), (49152, 115), (32768, 45), (24576, 98), (16384, 100), (8192, 99), (4096, 112)]), (1, [(256, 114)]), (2, [(128, 119)]), (3, [(2112, 115), (2048, 83), (64, 120)]), (4, [(32, 114)]), (5, [(16, 119)]), (6, [(1032, 115), (1024, 83), (8, 120)]), (7, [(4, 114)]), (8, [(2, 119)]), (9, [(513, 116), (512, 84), (1, 120)])]
noncomputable def fmTest (x i bit : Nat) : Bool := if i = 0 then decide (4096 * (x / 4096 % 16) = bit) else decide (x &&& bit = bit)
noncomputable def fmPick (x : Nat) (b : Nat × List (Nat × Nat)) : Nat := pick (fmTest x b.1) (if b.1 = 0 then 63 else 45) b.2

noncomputable def fmCond : List Slot → Option Bool := fun ρ => (getv 2 ρ).bind fun a => (some (V.int 0)).bind fun b => vCmp CmpOp.Eq a b
noncomputable def fmC0 : List Slot → Option Bool := fun ρ => (((getv 0 ρ).bind fun a => Option.map (fun x => a :: x) (some [])).bind PF_S_IFMT).bind fun a => (getv 4 ρ).bind fun b => vCmp CmpOp.Eq a b
noncomputable def fmC1 : List Slot → Option Bool := fun ρ => ((getv 0 ρ).bind fun a => (getv 4 ρ).bind fun b => vBin Operator.BitAnd a b).bind fun a => (getv 4 ρ).bind fun b => vCmp CmpOp.Eq a b
noncomputable def fmHit : PS := pSeq (pApp 1 (getv 5)) (pSeq (fun ρ => some (PF.brk, ρ)) fun ρ => some (PF.next, ρ))
noncomputable def fmBody : PS := pSeq (pIf fmCond (pSeq (pIf fmC0 fmHit fun ρ => some (PF.next, ρ)) fun ρ => some (PF.next, ρ)) (pSeq (pIf fmC1 fmHit fun ρ => some (PF.next, ρ)) fun ρ => some (PF.next, ρ))) fun ρ => some (PF.next, ρ)
noncomputable def fmElse : PS := pSeq (pIf fmCond (pSeq (pApp 1 fun x => some (V.str (Str.ofString "?"))) fun ρ => some (PF.next, ρ)) (pSeq (pApp 1 fun x => some (V.str (Str.ofString "-"))) fun ρ => some (PF.next, ρ))) fun ρ => some (PF.next, ρ)
noncomputable def fmOuter : PS := pSeq (fun ρ => ((getv 3 ρ).bind itemsOf).bind fun vs => pFor (paT 2 (plC (paN 4) (plC (paN 5) plN))) fmBody fmElse vs ρ) fun ρ => some (PF.next, ρ)

noncomputable abbrev fmS (x : Nat) (perm : List Nat) (i : Nat) (t : V) (d4 d5 : Slot) : List Slot := [.val (.int (x : Int)), .own (perm.map c1), .val (.int (i : Int)), .val t, d4, d5]

theorem fmCond_at {x i : Nat} {perm : List Nat} {t : V} {d4 d5 : Slot} : fmCond (fmS x perm i t d4 d5) = some (decide (i = 0)) := by
  show vEq (.int (i : Int)) (.int 0) = _
  rw [vEq_int]
  congr 1
  rw [Bool.eq_iff_iff, decide_eq_true_eq, decide_eq_true_eq]
  omega
theorem ifmt_v (x : Nat) : PF_S_IFMT [.int (x : Int)] = some (.int ((4096 * (x / 4096 % 16) : Nat) : Int)) := by
  have h : PF_S_IFMT [.int (x : Int)] = some (.int (Builtin.bitAnd (x : Int) (61440 : Nat))) := by kernel_rfl
  rw [h, band, and_kind]
theorem fmHit_at {x i : Nat} {perm : List Nat} {t b : V} {c : Nat} (h : perm.length < 4096) : fmHit (fmS x perm i t (.val b) (.val (c1 c))) = some (.brk, fmS x (perm ++ [c]) i t (.val b) (.val (c1 c))) := by
  refine pSeq_n (ρ1 := fmS x (perm ++ [c]) i t (.val b) (.val (c1 c))) ?_ rfl
  rw [pApp_e (l := perm.map c1) (v := c1 c) rfl rfl (by simpa using h)]
  simp [fmS, List.set]
theorem fmBody_at {x i bit c : Nat} {perm : List Nat} {t : V} (h : perm.length < 4096) :
    fmBody (fmS x perm i t (.val (.int (bit : Int))) (.val (c1 c))) = if fmTest x i bit then some (.brk, fmS x (perm ++ [c]) i t (.val (.int (bit : Int))) (.val (c1 c))) else some (.next, fmS x perm i t (.val (.int (bit : Int))) (.val (c1 c))) := by
  have fin : ∀ {cd : List Slot → Option Bool} {b : Bool}, cd (fmS x perm i t (.val (.int (bit : Int))) (.val (c1 c))) = some b →
      pSeq (pIf cd fmHit fun ρ => some (PF.next, ρ)) (fun ρ => some (PF.next, ρ)) (fmS x perm i t (.val (.int (bit : Int))) (.val (c1 c))) = if b then some (.brk, fmS x (perm ++ [c]) i t (.val (.int (bit : Int))) (.val (c1 c))) else some (.next, fmS x perm i t (.val (.int (bit : Int))) (.val (c1 c))) := fun {cd b} hc => by
    cases b with
    | true => exact pSeq_b (pIf_t hc (fmHit_at h))
    | false => exact pSeq_n (pIf_f hc rfl) rfl
  have wrap : ∀ {p : PS} {b : Bool}, p (fmS x perm i t (.val (.int (bit : Int))) (.val (c1 c))) = (if b then some (.brk, fmS x (perm ++ [c]) i t (.val (.int (bit : Int))) (.val (c1 c))) else some (.next, fmS x perm i t (.val (.int (bit : Int))) (.val (c1 c)))) →
      pSeq p (fun ρ => some (PF.next, ρ)) (fmS x perm i t (.val (.int (bit : Int))) (.val (c1 c))) = if b then some (.brk, fmS x (perm ++ [c]) i t (.val (.int (bit : Int))) (.val (c1 c))) else some (.next, fmS x perm i t (.val (.int (bit : Int))) (.val (c1 c))) := fun {p b} hp => by
    cases b with
    | true => exact pSeq_b hp
    | false => exact pSeq_n hp rfl
  unfold fmBody
  refine wrap ?_
  unfold fmTest
  by_cases h0 : i = 0
  · rw [if_pos h0]
    refine pIf_t (fmCond_at.trans (by rw [decide_eq_true h0])) (fin ?_)
    show (PF_S_IFMT [.int (x : Int)]).bind (fun a => vEq a (.int (bit : Int))) = _
    rw [ifmt_v, Option.bind_some, vEq_int]
    congr 1
    rw [Bool.eq_iff_iff, decide_eq_true_eq, decide_eq_true_eq]
    omega
  · rw [if_neg h0]
    refine pIf_f (fmCond_at.trans (by rw [decide_eq_false h0])) (fin ?_)
    show vEq (.int (Builtin.bitAnd (x : Int) (bit : Int))) (.int (bit : Int)) = _
    rw [band, vEq_int]
    congr 1
    rw [Bool.eq_iff_iff, decide_eq_true_eq, decide_eq_true_eq]
    omega
theorem q_sign : Str.ofString "?" = ⟨#[63]⟩ := by kernel_rfl
theorem m_sign : Str.ofString "-" = ⟨#[45]⟩ := by kernel_rfl
theorem fmElse_at {x i : Nat} {perm : List Nat} {t : V} {d4 d5 : Slot} (h : perm.length < 4096) : fmElse (fmS x perm i t d4 d5) = some (.next, fmS x (perm ++ [if i = 0 then 63 else 45]) i t d4 d5) := by
  unfold fmElse
  refine pSeq_n (ρ1 := fmS x (perm ++ [if i = 0 then 63 else 45]) i t d4 d5) ?_ rfl
  by_cases h0 : i = 0
  · rw [if_pos h0]
    refine pIf_t (fmCond_at.trans (by rw [decide_eq_true h0])) (pSeq_n (ρ1 := fmS x (perm ++ [63]) i t d4 d5) ?_ rfl)
    rw [pApp_e (l := perm.map c1) (v := c1 63) rfl (by rw [q_sign]) (by simpa using h)]
    simp [fmS, List.set]
  · rw [if_neg h0]
    refine pIf_f (fmCond_at.trans (by rw [decide_eq_false h0])) (pSeq_n (ρ1 := fmS x (perm ++ [45]) i t d4 d5) ?_ rfl)
    rw [pApp_e (l := perm.map c1) (v := c1 45) rfl (by rw [m_sign]) (by simpa using h)]
    simp [fmS, List.set]
theorem fm_inner {x i : Nat} {t : V} : ∀ (es : List (Nat × Nat)) (perm : List Nat) (d4 d5 : Slot), perm.length < 4096 →
    ∃ d4' d5', pFor (paT 2 (plC (paN 4) (plC (paN 5) plN))) fmBody fmElse (es.map entV) (fmS x perm i t d4 d5) = some (.next, fmS x (perm ++ [pick (fmTest x i) (if i = 0 then 63 else 45) es]) i t d4' d5')
  | [], perm, d4, d5, h => ⟨d4, d5, fmElse_at h⟩
  | e :: es, perm, d4, d5, h => by
    have ha : paT 2 (plC (paN 4) (plC (paN 5) plN)) (fmS x perm i t d4 d5) (entV e) = some (fmS x perm i t (.val (.int (e.1 : Int))) (.val (c1 e.2))) := rfl
    have hb := fmBody_at (x := x) (i := i) (bit := e.1) (c := e.2) (t := t) h
    by_cases ht : fmTest x i e.1 = true
    · refine ⟨.val (.int (e.1 : Int)), .val (c1 e.2), ?_⟩
      show ((paT 2 (plC (paN 4) (plC (paN 5) plN)) (fmS x perm i t d4 d5) (entV e)).bind _) = _
      rw [ha, Option.bind_some, hb, if_pos ht, Option.bind_some]
      have : pick (fmTest x i) (if i = 0 then 63 else 45) (e :: es) = e.2 := by unfold pick; rw [if_pos ht]
      rw [this]
    · rw [if_neg ht] at hb
      obtain ⟨d4', d5', ih⟩ := fm_inner es perm (.val (.int (e.1 : Int))) (.val (c1 e.2)) h
      refine ⟨d4', d5', pFor_c ha hb (ih.trans ?_)⟩
      have : pick (fmTest x i) (if i = 0 then 63 else 45) (e :: es) = pick (fmTest x i) (if i = 0 then 63 else 45) es := by
        show (if fmTest x i e.1 = true then _ else _) = _
        rw [if_neg ht]
      rw [this]

theorem fm_outer {x : Nat} : ∀ (bs : List (Nat × List (Nat × Nat))) (perm : List Nat) (d2 d3 d4 d5 : Slot), perm.length + bs.length < 4096 →
    ∃ d2' d3' d4' d5', pFor (paT 2 (plC (paN 2) (plC (paN 3) plN))) fmOuter (fun ρ => some (PF.next, ρ)) (bs.map rowV) [.val (.int (x : Int)), .own (perm.map c1), d2, d3, d4, d5] = some (.next, [.val (.int (x : Int)), .own ((perm ++ bs.map (fmPick x)).map c1), d2', d3', d4', d5'])
  | [], perm, d2, d3, d4, d5, h => ⟨d2, d3, d4, d5, by simp [pFor]⟩
  | b :: bs, perm, d2, d3, d4, d5, h => by
    simp only [List.length_cons] at h
    obtain ⟨d4', d5', e⟩ := fm_inner (x := x) (i := b.1) (t := .tup (b.2.map entV)) b.2 perm (clr 3 (clr 2 d4)) (clr 3 (clr 2 d5)) (by omega)
    obtain ⟨a2, a3, a4, a5, ih⟩ := fm_outer bs (perm ++ [fmPick x b]) (.val (.int (b.1 : Int))) (.val (.tup (b.2.map entV))) d4' d5' (by simp; omega)
    refine ⟨a2, a3, a4, a5, pFor_c (ρ1 := fmS x perm b.1 (.tup (b.2.map entV)) (clr 3 (clr 2 d4)) (clr 3 (clr 2 d5))) (ρ2 := fmS x (perm ++ [fmPick x b]) b.1 (.tup (b.2.map entV)) d4' d5') rfl ?_ (ih.trans (by simp))⟩
    exact pSeq_n (ρ1 := fmS x (perm ++ [fmPick x b]) b.1 (.tup (b.2.map entV)) d4' d5') e rfl

theorem tab_rows : (some tableV).bind enumV = some (fmTab.map rowV) := by kernel_rfl
theorem join_ten (a b c d e f g h i j : Nat) : (match V.str (Str.ofString "") with
    | V.str x => ((some (V.lst [c1 a, c1 b, c1 c, c1 d, c1 e, c1 f, c1 g, c1 h, c1 i, c1 j])).bind fun a => Option.map (fun x => a :: x) (some [])).bind fun l => pf_join (V.str x :: l)
    | _ => none) = some (.str ⟨#[a, b, c, d, e, f, g, h, i, j]⟩) := by kernel_rfl
theorem fm_signs (x : Nat) : fmTab.map (fmPick x) = [kch (x / 4096 % 16), rch (x / 64 % 8), wch (x / 64 % 8), xch false (x / 64 % 8) (x / 2048), rch (x / 8 % 8), wch (x / 8 % 8), xch false (x / 8 % 8) (x / 1024), rch (x % 8), wch (x % 8), xch true (x % 8) (x / 512)] := by
  have one : ∀ i k c, i ≠ 0 → fmPick x (i, [(2 ^ k, c)]) = if x / 2 ^ k % 2 = 1 then c else 45 := fun i k c hi => by
    simp only [fmPick, pick, fmTest, if_neg hi, decide_eq_true_eq, bit_iff]
  have three : ∀ i a b c d, i ≠ 0 → 2 ^ a &&& 2 ^ b = 0 → fmPick x (i, [(2 ^ a ||| 2 ^ b, c), (2 ^ a, d), (2 ^ b, 120)]) = if x / 2 ^ b % 2 = 1 then (if x / 2 ^ a % 2 = 1 then c else 120) else (if x / 2 ^ a % 2 = 1 then d else 45) := fun i a b c d hi h0 => by
    simp only [fmPick, pick, fmTest, if_neg hi, decide_eq_true_eq, bit_iff, and_two x _ _ h0]
    by_cases h1 : x / 2 ^ a % 2 = 1 <;> by_cases h2 : x / 2 ^ b % 2 = 1 <;> simp [h1, h2]
  have zero : ∀ k, k < 16 → pick (fun bit => decide (4096 * k = bit)) 63 [(40960, 108), (49152, 115), (32768, 45), (24576, 98), (16384, 100), (8192, 99), (4096, 112)] = kch k := by decide
  have e0 : fmPick x (0, [(40960, 108), (49152, 115), (32768, 45), (24576, 98), (16384, 100), (8192, 99), (4096, 112)]) = kch (x / 4096 % 16) := zero _ (Nat.mod_lt _ (by decide))
  have e1 := one 1 8 114 (by decide)
  have e2 := one 2 7 119 (by decide)
  have e3 := three 3 11 6 115 83 (by decide) (by decide)
  have e4 := one 4 5 114 (by decide)
  have e5 := one 5 4 119 (by decide)
  have e6 := three 6 10 3 115 83 (by decide) (by decide)
  have e7 := one 7 2 114 (by decide)
  have e8 := one 8 1 119 (by decide)
  have e9 := three 9 9 0 116 84 (by decide) (by decide)
  simp only [show (2 : Nat) ^ 8 = 256 by decide, show (2 : Nat) ^ 7 = 128 by decide, show (2 : Nat) ^ 11 = 2048 by decide, show (2 : Nat) ^ 6 = 64 by decide, show (2 : Nat) ^ 5 = 32 by decide, show (2 : Nat) ^ 4 = 16 by decide, show (2 : Nat) ^ 10 = 1024 by decide, show (2 : Nat) ^ 3 = 8 by decide, show (2 : Nat) ^ 2 = 4 by decide, show (2 : Nat) ^ 1 = 2 by decide, show (2 : Nat) ^ 9 = 512 by decide, show (2 : Nat) ^ 0 = 1 by decide, show (2048 : Nat) ||| 64 = 2112 by decide, show (1024 : Nat) ||| 8 = 1032 by decide, show (512 : Nat) ||| 1 = 513 by decide] at e1 e2 e3 e4 e5 e6 e7 e8 e9
  simp only [fmTab, List.map_cons, List.map_nil, e0, e1, e2, e3, e4, e5, e6, e7, e8, e9, rch, wch, xch, show x / 64 % 8 / 4 % 2 = x / 256 % 2 by omega, show x / 64 % 8 / 2 % 2 = x / 128 % 2 by omega, show x / 64 % 8 % 2 = x / 64 % 2 by omega,
    show x / 8 % 8 / 4 % 2 = x / 32 % 2 by omega, show x / 8 % 8 / 2 % 2 = x / 16 % 2 by omega, show x / 8 % 8 % 2 = x / 8 % 2 by omega, show x % 8 / 4 % 2 = x / 4 % 2 by omega, show x % 8 / 2 % 2 = x / 2 % 2 by omega, show x % 8 % 2 = x % 2 by omega, Nat.div_one, Bool.false_eq_true, if_false, if_true]

theorem filemode_v (x : Nat) : PF_filemode [.int (x : Int)] = some (.str (sg x)) := by
  unfold PF_filemode BD_filemode; dsimp only
  obtain ⟨d2, d3, d4, d5, e⟩ := fm_outer (x := x) fmTab [] .unb .unb .unb .unb (by decide)
  rw [List.nil_append, fm_signs] at e
  refine pfun_e (ρ := [.val (.int (x : Int)), .val (.lst ([kch (x / 4096 % 16), rch (x / 64 % 8), wch (x / 64 % 8), xch false (x / 64 % 8) (x / 2048), rch (x / 8 % 8), wch (x / 8 % 8), xch false (x / 8 % 8) (x / 1024), rch (x % 8), wch (x % 8), xch true (x % 8) (x / 512)].map c1)), d2, d3, d4, d5]) rfl ?_
  refine pSeq_n (ρ1 := [.val (.int (x : Int)), .own [], .unb, .unb, .unb, .unb]) rfl ?_
  refine pSeq_n (bind_e tab_rows e) ?_
  refine pSeq_r ?_
  refine (map_e (join_ten _ _ _ _ _ _ _ _ _ _)).trans ?_
  rfl
end Mine
end

section
namespace Mine
open PySem PySem.Calls PySem.Spec PySem.W PyProof.Rows
set_option maxRecDepth 100000

theorem pAug_i {i : Nat} {op : Operator} {p : List Slot → Option V} {ρ ρ' : List Slot} {a b v : V} (h1 : getv i ρ = some a) (h2 : p ρ = some b) (h3 : vAug op a b = some v) (e : setS ρ i (.val v) = ρ') : pAug i op p ρ = some (.next, ρ') := by
  unfold pAug; rw [h1, h2, Option.bind_some, Option.bind_some, h3, Option.map_some, e]
theorem fd (x b : Nat) : Int.fdiv (x : Int) (b : Int) = ((x / b : Nat) : Int) := (Int.ofNat_fdiv x b).symm
theorem fm (x b : Nat) : Int.fmod (x : Int) (b : Int) = ((x % b : Nat) : Int) := (Int.ofNat_fmod x b).symm

theorem upto {P : Nat → Prop} : ∀ n, (∀ i, i < n → P i) → ∀ i, i < n → P i := fun _ h => h
theorem below8 {P : Nat → Prop} (h0 : P 0) (h1 : P 1) (h2 : P 2) (h3 : P 3) (h4 : P 4) (h5 : P 5) (h6 : P 6) (h7 : P 7) : ∀ r, r < 8 → P r := fun r h => by
  have : r = 0 ∨ r = 1 ∨ r = 2 ∨ r = 3 ∨ r = 4 ∨ r = 5 ∨ r = 6 ∨ r = 7 := by omega
  rcases this with rfl | rfl | rfl | rfl | rfl | rfl | rfl | rfl <;> assumption
theorem below16 {P : Nat → Prop} (h : ∀ r, r < 8 → P r) (h2 : ∀ r, r < 8 → P (r + 8)) : ∀ r, r < 16 → P r := fun r hr => by
  by_cases q : r < 8
  · exact h r q
  · have := h2 (r - 8) (by omega)
    have e : r - 8 + 8 = r := by omega
    rwa [e] at this
theorem below2 {P : Nat → Prop} (h0 : P 0) (h1 : P 1) : ∀ r, r < 2 → P r := fun r h => by
  have : r = 0 ∨ r = 1 := by omega
  rcases this with rfl | rfl <;> assumption

theorem kind_idx : ∀ k : Nat, k < 16 → vIdx (.str (Str.ofString "?pc?d?b?-?l?s???")) (.int (k : Int)) = some (c1 (kch k)) :=
  below16 (below8 (by kernel_rfl) (by kernel_rfl) (by kernel_rfl) (by kernel_rfl) (by kernel_rfl) (by kernel_rfl) (by kernel_rfl) (by kernel_rfl))
    (below8 (by kernel_rfl) (by kernel_rfl) (by kernel_rfl) (by kernel_rfl) (by kernel_rfl) (by kernel_rfl) (by kernel_rfl) (by kernel_rfl))
noncomputable abbrev lsA (r : Nat) : Option V := ((some (V.str (Str.ofString "-r"))).bind fun a => ((some (V.int (r : Int))).bind fun a => (some (V.int 4)).bind fun b => vBin Operator.FloorDiv a b).bind fun b => vIdx a b).bind fun a =>
  ((some (V.str (Str.ofString "-w"))).bind fun a => (((some (V.int (r : Int))).bind fun a => (some (V.int 2)).bind fun b => vBin Operator.FloorDiv a b).bind fun a => (some (V.int 2)).bind fun b => vBin Operator.Mod a b).bind fun b => vIdx a b).bind fun b => vBin Operator.Add a b
theorem lsA_at : ∀ r : Nat, r < 8 → lsA r = some (.str ⟨#[rch r, wch r]⟩) :=
  below8 (by kernel_rfl) (by kernel_rfl) (by kernel_rfl) (by kernel_rfl) (by kernel_rfl) (by kernel_rfl) (by kernel_rfl) (by kernel_rfl)
noncomputable abbrev lsB (k r s : Nat) : Option V := ((((some (V.str (Str.ofString "-xSs"))).bind fun a => Option.map (fun x => a :: x) ((some (V.str (Str.ofString "-xSs"))).bind fun a => Option.map (fun x => a :: x) ((some (V.str (Str.ofString "-xTt"))).bind fun a => Option.map (fun x => a :: x) (some [])))).bind lstV).bind fun a => (some (V.int (k : Int))).bind fun b => vIdx a b).bind
  fun a => (((some (V.int (r : Int))).bind fun a => (some (V.int 2)).bind fun b => vBin Operator.Mod a b).bind fun a => ((some (V.int 2)).bind fun a => (some (V.int (s : Int))).bind fun b => vBin Operator.Mult a b).bind fun b => vBin Operator.Add a b).bind fun b => vIdx a b
theorem lsB_at0 : ∀ s, s < 2 → ∀ r, r < 8 → lsB 0 r s = some (c1 (xch false r s)) :=
  below2 (below8 (by kernel_rfl) (by kernel_rfl) (by kernel_rfl) (by kernel_rfl) (by kernel_rfl) (by kernel_rfl) (by kernel_rfl) (by kernel_rfl)) (below8 (by kernel_rfl) (by kernel_rfl) (by kernel_rfl) (by kernel_rfl) (by kernel_rfl) (by kernel_rfl) (by kernel_rfl) (by kernel_rfl))
theorem lsB_at1 : ∀ s, s < 2 → ∀ r, r < 8 → lsB 1 r s = some (c1 (xch false r s)) :=
  below2 (below8 (by kernel_rfl) (by kernel_rfl) (by kernel_rfl) (by kernel_rfl) (by kernel_rfl) (by kernel_rfl) (by kernel_rfl) (by kernel_rfl)) (below8 (by kernel_rfl) (by kernel_rfl) (by kernel_rfl) (by kernel_rfl) (by kernel_rfl) (by kernel_rfl) (by kernel_rfl) (by kernel_rfl))
theorem lsB_at2 : ∀ s, s < 2 → ∀ r, r < 8 → lsB 2 r s = some (c1 (xch true r s)) :=
  below2 (below8 (by kernel_rfl) (by kernel_rfl) (by kernel_rfl) (by kernel_rfl) (by kernel_rfl) (by kernel_rfl) (by kernel_rfl) (by kernel_rfl)) (below8 (by kernel_rfl) (by kernel_rfl) (by kernel_rfl) (by kernel_rfl) (by kernel_rfl) (by kernel_rfl) (by kernel_rfl) (by kernel_rfl))
theorem xch_mod (t : Bool) (r s : Nat) : xch t r (s % 2) = xch t r s := by
  simp only [xch, Nat.mod_mod]

noncomputable abbrev lsS (x : Nat) (l : List Nat) (d2 d3 : Slot) : List Slot := [.val (.int (x : Int)), .val (.str (tx l)), d2, d3]
noncomputable def lsBody : PS := pSeq (pSet 3 fun ρ => ((getv 0 ρ).bind fun a => ((some (V.int 8)).bind fun a => ((some (V.int 2)).bind fun a => (getv 2 ρ).bind fun b => vBin Operator.Sub a b).bind fun b => vBin Operator.Pow a b).bind fun b => vBin Operator.FloorDiv a b).bind fun a => (some (V.int 8)).bind fun b => vBin Operator.Mod a b)
  (pSeq (pAug 1 Operator.Add fun ρ => ((some (V.str (Str.ofString "-r"))).bind fun a => ((getv 3 ρ).bind fun a => (some (V.int 4)).bind fun b => vBin Operator.FloorDiv a b).bind fun b => vIdx a b).bind fun a =>
    ((some (V.str (Str.ofString "-w"))).bind fun a => (((getv 3 ρ).bind fun a => (some (V.int 2)).bind fun b => vBin Operator.FloorDiv a b).bind fun a => (some (V.int 2)).bind fun b => vBin Operator.Mod a b).bind fun b => vIdx a b).bind fun b => vBin Operator.Add a b)
  (pSeq (pAug 1 Operator.Add fun ρ => ((((some (V.str (Str.ofString "-xSs"))).bind fun a => Option.map (fun x => a :: x) ((some (V.str (Str.ofString "-xSs"))).bind fun a => Option.map (fun x => a :: x) ((some (V.str (Str.ofString "-xTt"))).bind fun a => Option.map (fun x => a :: x) (some [])))).bind lstV).bind fun a => (getv 2 ρ).bind fun b => vIdx a b).bind
    fun a => (((getv 3 ρ).bind fun a => (some (V.int 2)).bind fun b => vBin Operator.Mod a b).bind fun a => ((some (V.int 2)).bind fun a => (((getv 0 ρ).bind fun a => ((some (V.int 2)).bind fun a => ((some (V.int 11)).bind fun a => (getv 2 ρ).bind fun b => vBin Operator.Sub a b).bind fun b => vBin Operator.Pow a b).bind fun b => vBin Operator.FloorDiv a b).bind fun a => (some (V.int 2)).bind fun b => vBin Operator.Mod a b).bind fun b => vBin Operator.Mult a b).bind fun b => vBin Operator.Add a b).bind fun b => vIdx a b)
  fun ρ => some (PF.next, ρ)))
theorem lsBody_at {x k q s c : Nat} {l : List Nat} {d3 : Slot} (hl : l.length ≤ 4000) (hk : k < 3)
    (h1 : pSet 3 (fun ρ => ((getv 0 ρ).bind fun a => ((some (V.int 8)).bind fun a => ((some (V.int 2)).bind fun a => (getv 2 ρ).bind fun b => vBin Operator.Sub a b).bind fun b => vBin Operator.Pow a b).bind fun b => vBin Operator.FloorDiv a b).bind fun a => (some (V.int 8)).bind fun b => vBin Operator.Mod a b) (lsS x l (.val (.int (k : Int))) d3) = some (.next, lsS x l (.val (.int (k : Int))) (.val (.int ((x / q % 8 : Nat) : Int)))))
    (h2 : (some (V.int (x : Int))).bind (fun a => ((some (V.int 2)).bind fun a => ((some (V.int 11)).bind fun a => (some (V.int (k : Int))).bind fun b => vBin Operator.Sub a b).bind fun b => vBin Operator.Pow a b).bind fun b => vBin Operator.FloorDiv a b) = some (V.int ((x / s : Nat) : Int)))
    (h3 : lsB k (x / q % 8) (x / s % 2) = some (c1 c)) :
    lsBody (lsS x l (.val (.int (k : Int))) d3) = some (.next, lsS x (l ++ [rch (x / q % 8), wch (x / q % 8), c]) (.val (.int (k : Int))) (.val (.int ((x / q % 8 : Nat) : Int)))) := by
  have hr : x / q % 8 < 8 := Nat.mod_lt _ (by decide)
  refine pSeq_n h1 ?_
  refine pSeq_n (ρ1 := lsS x (l ++ [rch (x / q % 8), wch (x / q % 8)]) (.val (.int (k : Int))) (.val (.int ((x / q % 8 : Nat) : Int)))) ?_ ?_
  · refine pAug_i (a := .str (tx l)) (b := .str (tx [rch (x / q % 8), wch (x / q % 8)])) rfl (lsA_at _ hr) (add_tx (by simp; omega)) rfl
  · refine pSeq_n (ρ1 := lsS x (l ++ [rch (x / q % 8), wch (x / q % 8), c]) (.val (.int (k : Int))) (.val (.int ((x / q % 8 : Nat) : Int)))) ?_ rfl
    refine pAug_i (a := .str (tx (l ++ [rch (x / q % 8), wch (x / q % 8)]))) (b := .str (tx [c])) rfl ?_ (add_tx (by simp; omega)) ?_
    · have h2' : ((some (V.int (x : Int))).bind (fun a => ((some (V.int 2)).bind fun a => ((some (V.int 11)).bind fun a => (some (V.int (k : Int))).bind fun b => vBin Operator.Sub a b).bind fun b => vBin Operator.Pow a b).bind fun b => vBin Operator.FloorDiv a b)).bind (fun a => (some (V.int 2)).bind fun b => vBin Operator.Mod a b) = some (V.int ((x / s % 2 : Nat) : Int)) := by
        rw [h2, Option.bind_some, Option.bind_some]
        show some (V.int (Int.fmod ((x / s : Nat) : Int) ((2 : Nat) : Int))) = _
        rw [fm]
      show ((((some (V.str (Str.ofString "-xSs"))).bind fun a => Option.map (fun x => a :: x) ((some (V.str (Str.ofString "-xSs"))).bind fun a => Option.map (fun x => a :: x) ((some (V.str (Str.ofString "-xTt"))).bind fun a => Option.map (fun x => a :: x) (some [])))).bind lstV).bind fun a => (some (V.int (k : Int))).bind fun b => vIdx a b).bind
        (fun a => (((some (V.int ((x / q % 8 : Nat) : Int))).bind fun a => (some (V.int 2)).bind fun b => vBin Operator.Mod a b).bind fun a => ((some (V.int 2)).bind fun a => (((some (V.int (x : Int))).bind (fun a => ((some (V.int 2)).bind fun a => ((some (V.int 11)).bind fun a => (some (V.int (k : Int))).bind fun b => vBin Operator.Sub a b).bind fun b => vBin Operator.Pow a b).bind fun b => vBin Operator.FloorDiv a b)).bind (fun a => (some (V.int 2)).bind fun b => vBin Operator.Mod a b)).bind fun b => vBin Operator.Mult a b).bind fun b => vBin Operator.Add a b).bind fun b => vIdx a b) = _
      rw [h2']
      exact h3
    · rw [List.append_assoc]; rfl

theorem signs_v (x : Nat) : PF__law_signs [.int (x : Int)] = some (.str (sg x)) := by
  unfold PF__law_signs BD__law_signs; dsimp only
  refine pfun_e (ρ := lsS x [kch (x / 4096 % 16), rch (x / 64 % 8), wch (x / 64 % 8), xch false (x / 64 % 8) (x / 2048), rch (x / 8 % 8), wch (x / 8 % 8), xch false (x / 8 % 8) (x / 1024), rch (x % 8), wch (x % 8), xch true (x % 8) (x / 512)] (.val (.int 2)) (.val (.int ((x / 1 % 8 : Nat) : Int)))) rfl ?_
  refine pSeq_n (ρ1 := lsS x [kch (x / 4096 % 16)] .unb .unb) ?_ ?_
  · refine pSet_i (v := c1 (kch (x / 4096 % 16))) ?_ rfl
    show vIdx (.str (Str.ofString "?pc?d?b?-?l?s???")) (.int (Int.fmod (Int.fdiv (x : Int) ((4096 : Nat) : Int)) ((16 : Nat) : Int))) = _
    rw [fd, fm]
    exact kind_idx _ (Nat.mod_lt _ (by decide))
  refine pSeq_n (bind_e (x := [.int ((0 : Nat) : Int), .int ((1 : Nat) : Int), .int ((2 : Nat) : Int)]) (by kernel_rfl) ?_) (pRet_e rfl)
  have r8 : ∀ (q : Nat) (k : Nat) (l : List Nat) (d3 : Slot) (e : Int), e = (q : Int) → (pSet 3 (fun ρ => ((getv 0 ρ).bind fun a => ((some (V.int 8)).bind fun a => ((some (V.int 2)).bind fun a => (getv 2 ρ).bind fun b => vBin Operator.Sub a b).bind fun b => vBin Operator.Pow a b).bind fun b => vBin Operator.FloorDiv a b).bind fun a => (some (V.int 8)).bind fun b => vBin Operator.Mod a b) (lsS x l (.val (.int (k : Int))) d3) = (some (V.int (Int.fmod (Int.fdiv (x : Int) e) ((8 : Nat) : Int)))).map fun v => (.next, setS (lsS x l (.val (.int (k : Int))) d3) 3 (.val v))) → pSet 3 (fun ρ => ((getv 0 ρ).bind fun a => ((some (V.int 8)).bind fun a => ((some (V.int 2)).bind fun a => (getv 2 ρ).bind fun b => vBin Operator.Sub a b).bind fun b => vBin Operator.Pow a b).bind fun b => vBin Operator.FloorDiv a b).bind fun a => (some (V.int 8)).bind fun b => vBin Operator.Mod a b) (lsS x l (.val (.int (k : Int))) d3) = some (.next, lsS x l (.val (.int (k : Int))) (.val (.int ((x / q % 8 : Nat) : Int)))) := fun q k l d3 e he h => by
    rw [h, he, fd, fm]; rfl
  have s2 : ∀ (s : Nat) (k : Nat) (e : Int), e = (s : Int) → (some (V.int (x : Int))).bind (fun a => ((some (V.int 2)).bind fun a => ((some (V.int 11)).bind fun a => (some (V.int (k : Int))).bind fun b => vBin Operator.Sub a b).bind fun b => vBin Operator.Pow a b).bind fun b => vBin Operator.FloorDiv a b) = some (V.int (Int.fdiv (x : Int) e)) → (some (V.int (x : Int))).bind (fun a => ((some (V.int 2)).bind fun a => ((some (V.int 11)).bind fun a => (some (V.int (k : Int))).bind fun b => vBin Operator.Sub a b).bind fun b => vBin Operator.Pow a b).bind fun b => vBin Operator.FloorDiv a b) = some (V.int ((x / s : Nat) : Int)) := fun s k e he h => by
    rw [h, he, fd]
  have b0 : ∀ y, y % 2 < 2 := fun y => Nat.mod_lt _ (by decide)
  have b1 : ∀ y, y % 8 < 8 := fun y => Nat.mod_lt _ (by decide)
  refine pFor_c (ρ1 := lsS x [kch (x / 4096 % 16)] (.val (.int ((0 : Nat) : Int))) .unb) rfl (lsBody_at (q := 64) (s := 2048) (by simp) (by decide) (r8 64 0 _ _ (8 ^ 2) (by decide) rfl) (s2 2048 0 (2 ^ 11) (by decide) (by kernel_rfl)) (lsB_at0 _ (b0 _) _ (b1 _))) ?_
  refine pFor_c (ρ1 := lsS x _ (.val (.int ((1 : Nat) : Int))) _) rfl (lsBody_at (q := 8) (s := 1024) (by simp) (by decide) (r8 8 1 _ _ (8 ^ 1) (by decide) rfl) (s2 1024 1 (2 ^ 10) (by decide) (by kernel_rfl)) (lsB_at1 _ (b0 _) _ (b1 _))) ?_
  refine pFor_c (ρ1 := lsS x _ (.val (.int ((2 : Nat) : Int))) _) rfl (lsBody_at (q := 1) (s := 512) (by simp) (by decide) (r8 1 2 _ _ (8 ^ 0) (by decide) rfl) (s2 512 2 (2 ^ 9) (by decide) (by kernel_rfl)) (lsB_at2 _ (b0 _) _ (b1 _))) ?_
  simp only [xch_mod, Nat.div_one]
  rfl
end Mine
end

section
namespace Mine
open PySem PySem.Calls PySem.Spec PySem.W PyProof.Rows
set_option maxRecDepth 100000

noncomputable def pl : Nat → List Nat
  | 2 => [47, 97] | 3 => [47, 97, 98] | 4 => [47, 97, 47, 97] | 5 => [47, 97, 47, 97, 98] | 6 => [47, 97, 98, 47, 97] | 7 => [47, 97, 98, 47, 97, 98] | _ => [47]
noncomputable abbrev plV (n : Nat) : V := .str (tx (pl n))
noncomputable def wd (m : Nat → Nat) : V := .dct [(tx (pl 1), .int (m 1 : Nat)), (tx (pl 2), .int (m 2 : Nat)), (tx (pl 3), .int (m 3 : Nat)), (tx (pl 4), .int (m 4 : Nat)), (tx (pl 5), .int (m 5 : Nat)), (tx (pl 6), .int (m 6 : Nat)), (tx (pl 7), .int (m 7 : Nat))]
noncomputable def sd (m : Nat → Nat) : V := .dct [(tx (pl 1), .str (sg (m 1))), (tx (pl 2), .str (sg (m 2))), (tx (pl 3), .str (sg (m 3))), (tx (pl 4), .str (sg (m 4))), (tx (pl 5), .str (sg (m 5))), (tx (pl 6), .str (sg (m 6))), (tx (pl 7), .str (sg (m 7)))]
theorem to7 {P : Nat → Prop} (h1 : P 1) (h2 : P 2) (h3 : P 3) (h4 : P 4) (h5 : P 5) (h6 : P 6) (h7 : P 7) : ∀ n, 1 ≤ n ∧ n ≤ 7 → P n := fun r h => by
  have : r = 1 ∨ r = 2 ∨ r = 3 ∨ r = 4 ∨ r = 5 ∨ r = 6 ∨ r = 7 := by omega
  rcases this with rfl | rfl | rfl | rfl | rfl | rfl | rfl <;> assumption
theorem wd_at (m : Nat → Nat) : ∀ n, 1 ≤ n ∧ n ≤ 7 → vIdx (wd m) (plV n) = some (.int (m n : Nat)) :=
  to7 (by kernel_rfl) (by kernel_rfl) (by kernel_rfl) (by kernel_rfl) (by kernel_rfl) (by kernel_rfl) (by kernel_rfl)
theorem sd_at (m : Nat → Nat) : ∀ n, 1 ≤ n ∧ n ≤ 7 → vIdx (sd m) (plV n) = some (.str (sg (m n))) :=
  to7 (by kernel_rfl) (by kernel_rfl) (by kernel_rfl) (by kernel_rfl) (by kernel_rfl) (by kernel_rfl) (by kernel_rfl)

noncomputable def rt : Nat → Nat → Nat
  | 0, x => x / 64 % 8
  | 1, x => x / 8 % 8
  | _, x => x % 8
noncomputable def sp : Nat → Nat → Nat
  | 0, x => x / 2048
  | 1, x => x / 1024
  | _, x => x / 512
theorem to3 {P : Nat → Prop} (h0 : P 0) (h1 : P 1) (h2 : P 2) : ∀ n, n < 3 → P n := fun r h => by
  have : r = 0 ∨ r = 1 ∨ r = 2 := by omega
  rcases this with rfl | rfl | rfl <;> assumption
/-- the sign at 3 who + j -/
noncomputable abbrev at3 (j : Int) (who : Nat) : Option V := (((some (V.int 3)).bind fun a => (some (V.int (who : Int))).bind fun b => vBin Operator.Mult a b).bind fun a => (some (V.int j)).bind fun b => vBin Operator.Add a b)
theorem sg_x (x : Nat) : ∀ who, who < 3 → ((at3 3 who).bind fun b => vIdx (.str (sg x)) b) = some (c1 (xch (decide (who = 2)) (rt who x) (sp who x))) :=
  to3 (by kernel_rfl) (by kernel_rfl) (by kernel_rfl)
theorem sg_r (x : Nat) : ∀ who, who < 3 → ((at3 1 who).bind fun b => vIdx (.str (sg x)) b) = some (c1 (rch (rt who x))) :=
  to3 (by kernel_rfl) (by kernel_rfl) (by kernel_rfl)
theorem sg_w (x : Nat) : ∀ who, who < 3 → ((at3 2 who).bind fun b => vIdx (.str (sg x)) b) = some (c1 (wch (rt who x))) :=
  to3 (by kernel_rfl) (by kernel_rfl) (by kernel_rfl)
theorem sg_9 (x : Nat) : vIdx (.str (sg x)) (.int 9) = some (c1 (xch true (x % 8) (x / 512))) := by kernel_rfl

theorem in_one (l : List Nat) (c : Nat) : vIn (c1 c) (.str (tx l)) = some (decide (c ∈ l)) := by
  show some (!(Builtin.Str.occurrences (tx l) ⟨#[c]⟩ 0 (tx l).length 1).isEmpty) = _
  rw [StrLaws.found_one]
theorem xst : Str.ofString "xst" = tx [120, 115, 116] := by kernel_rfl
theorem x_in (t : Bool) (r s : Nat) : vCmp .In (c1 (xch t r s)) (.str (Str.ofString "xst")) = some (decide (r % 2 = 1)) := by
  show vIn (c1 (xch t r s)) (.str (Str.ofString "xst")) = _
  rw [xst, in_one]
  congr 1
  rw [Bool.eq_iff_iff, decide_eq_true_eq, decide_eq_true_eq]
  unfold xch
  by_cases h : r % 2 = 1
  · simp only [h, if_true]
    by_cases h2 : s % 2 = 1
    · cases t <;> simp [h2]
    · simp [h2]
  · simp only [h, if_false]
    by_cases h2 : s % 2 = 1
    · cases t <;> simp [h2]
    · simp [h2]
theorem okc {c : Nat} (h : c < 1114112) : okL [c] := fun d hd => by simp at hd; omega
theorem r_eq (r : Nat) : vCmp .Eq (c1 (rch r)) (.str (Str.ofString "r")) = some (decide (r / 4 % 2 = 1)) := by
  have e : Str.ofString "r" = tx [114] := by kernel_rfl
  rw [e]
  show vEq (.str (tx [rch r])) (.str (tx [114])) = _
  rw [vEq_str (okc (by unfold rch; split <;> decide)) (okc (by decide))]
  congr 1
  rw [Bool.eq_iff_iff, decide_eq_true_eq, decide_eq_true_eq]
  unfold rch
  by_cases h : r / 4 % 2 = 1 <;> simp [h]
theorem w_eq (r : Nat) : vCmp .Eq (c1 (wch r)) (.str (Str.ofString "w")) = some (decide (r / 2 % 2 = 1)) := by
  have e : Str.ofString "w" = tx [119] := by kernel_rfl
  rw [e]
  show vEq (.str (tx [wch r])) (.str (tx [119])) = _
  rw [vEq_str (okc (by unfold wch; split <;> decide)) (okc (by decide))]
  congr 1
  rw [Bool.eq_iff_iff, decide_eq_true_eq, decide_eq_true_eq]
  unfold wch
  by_cases h : r / 2 % 2 = 1 <;> simp [h]
theorem t_not (r s : Nat) : vCmp .NotIn (c1 (xch true r s)) (.str (Str.ofString "tT")) = some (decide (s % 2 = 0)) := by
  have e : Str.ofString "tT" = tx [116, 84] := by kernel_rfl
  rw [e]
  show some (!(!(Builtin.Str.occurrences (tx [116, 84]) ⟨#[xch true r s]⟩ 0 (tx [116, 84]).length 1).isEmpty)) = _
  rw [StrLaws.found_one]
  congr 1
  rw [Bool.eq_iff_iff, Bool.not_eq_true', decide_eq_false_iff_not, decide_eq_true_eq]
  unfold xch
  by_cases h : r % 2 = 1 <;> by_cases h2 : s % 2 = 1 <;> simp [h, h2] <;> omega

/-- may this class go into the folder n -/
noncomputable def dxB (m : Nat → Nat) (who n : Nat) : Bool := decide (m n / 4096 % 16 = 4) && decide (rt who (m n) % 2 = 1)
noncomputable def rB (m : Nat → Nat) (who n : Nat) : Bool := decide (rt who (m n) / 4 % 2 = 1)

noncomputable abbrev fS (m : Nat → Nat) (who : Nat) (tails : List V) (tail : List Nat) (found : List Nat) (plain parts : V) (acc : List Nat) (n : Nat) (d11 : Slot) : List Slot :=
  [.val (wd m), .val (sd m), .val (.str (tx [47])), .val (.int (who : Int)), .own tails, .val (.str (tx tail)), .val (.lst (found.map plV)), .val plain, .val parts, .own (acc.map plV), .val (plV n), d11]
noncomputable def ft1 : List Slot → Option Bool := fun ρ => (((((getv 0 ρ).bind fun a => (getv 10 ρ).bind fun b => vIdx a b).bind fun a => Option.map (fun x => a :: x) (some [])).bind PF_S_ISDIR).bind vTruth).bind
  fun a => if a = true then ((((getv 1 ρ).bind fun a => (getv 10 ρ).bind fun b => vIdx a b).bind fun a => (((some (V.int 3)).bind fun a => (getv 3 ρ).bind fun b => vBin Operator.Mult a b).bind fun a => (some (V.int 3)).bind fun b => vBin Operator.Add a b).bind fun b => vIdx a b).bind
    fun a => (some (V.str (Str.ofString "xst"))).bind fun b => vCmp CmpOp.In a b).bind fun a => if a = true then some true else some false else some false
noncomputable def ft3 : List Slot → Option Bool := fun ρ => (((getv 1 ρ).bind fun a => (getv 10 ρ).bind fun b => vIdx a b).bind fun a => (((some (V.int 3)).bind fun a => (getv 3 ρ).bind fun b => vBin Operator.Mult a b).bind fun a => (some (V.int 1)).bind fun b => vBin Operator.Add a b).bind fun b => vIdx a b).bind
  fun a => (some (V.str (Str.ofString "r"))).bind fun b => vCmp CmpOp.Eq a b
theorem ift (o : Option Bool) : (o.bind fun a => if a = true then some true else some false) = o := by
  cases o with
  | none => rfl
  | some b => cases b <;> rfl
variable {m : Nat → Nat} {who n : Nat} {tails : List V} {tail found acc : List Nat} {plain parts : V} {d11 : Slot}
theorem ft1_at (hw : who < 3) (hn : 1 ≤ n ∧ n ≤ 7) : ft1 (fS m who tails tail found plain parts acc n d11) = some (dxB m who n) := by
  show ((((vIdx (wd m) (plV n)).bind fun a => Option.map (fun x => a :: x) (some [])).bind PF_S_ISDIR).bind vTruth).bind
    (fun a => if a = true then (((vIdx (sd m) (plV n)).bind fun a => (at3 3 who).bind fun b => vIdx a b).bind fun a => (some (V.str (Str.ofString "xst"))).bind fun b => vCmp CmpOp.In a b).bind (fun a => if a = true then some true else some false) else some false) = _
  rw [wd_at m n hn, sd_at m n hn, Option.bind_some, Option.bind_some]
  show ((PF_S_ISDIR [.int (m n : Nat)]).bind vTruth).bind _ = _
  rw [isdir_v, Option.bind_some, sg_x _ who hw, Option.bind_some, Option.bind_some, x_in, ift]
  show (if decide (m n / 4096 % 16 = 4) = true then _ else _) = _
  unfold dxB
  cases decide (m n / 4096 % 16 = 4) <;> rfl
theorem ft3_at (hw : who < 3) (hn : 1 ≤ n ∧ n ≤ 7) : ft3 (fS m who tails tail found plain parts acc n d11) = some (rB m who n) := by
  show ((vIdx (sd m) (plV n)).bind fun a => (at3 1 who).bind fun b => vIdx a b).bind (fun a => (some (V.str (Str.ofString "r"))).bind fun b => vCmp CmpOp.Eq a b) = _
  rw [sd_at m n hn, Option.bind_some, sg_r _ who hw, Option.bind_some, Option.bind_some, r_eq]
  rfl
end Mine
end

section
namespace Mine
open PySem PySem.Calls PySem.Spec PySem.W PyProof.Rows
set_option maxRecDepth 100000

noncomputable def isPl (t : List Nat) : Bool := decide (t ∈ [[97], [97, 98], [46, 46], [46], [99], []])
noncomputable def kids (n : Nat) (ds : List Nat) : List Nat := if n < 4 then ds.map (2 * n + ·) else []
noncomputable def outS (st : List Nat) (n : Nat) : List Nat := if st = [46] then [n] else if st = [46, 46] then [max (n / 2) 1] else kids n ((st.drop 1).map (· - 48))
/-- where a piece leads from n -/
noncomputable def goes (m : Nat → Nat) (who : Nat) (t : List Nat) (n : Nat) : List Nat := if dxB m who n then (if isPl t || rB m who n then outS (stepOf t) n else []) else []

noncomputable def plTab : List (List Nat) := [[97], [97, 98], [46, 46], [46], [99], []]
noncomputable def glTab : List (List Nat) := [[42], [63], [63, 98], [97, 42], [91, 33, 97, 93, 63], [91, 97, 45, 99, 93, 42]]
noncomputable def plc (t : List Nat) (n : Nat) : List Nat := if t = [46] ∨ t = [] then pl n else if t = [46, 46] then pl (max (n / 2) 1) else if n = 1 then 47 :: t else pl n ++ 47 :: t
theorem plTab6 {P : List Nat → Prop} (h1 : P [97]) (h2 : P [97, 98]) (h3 : P [46, 46]) (h4 : P [46]) (h5 : P [99]) (h6 : P []) : ∀ t ∈ plTab, P t := fun t ht => by
  simp only [plTab, List.mem_cons, List.not_mem_nil, or_false] at ht
  rcases ht with rfl | rfl | rfl | rfl | rfl | rfl <;> assumption
theorem glTab6 {P : List Nat → Prop} (h1 : P [42]) (h2 : P [63]) (h3 : P [63, 98]) (h4 : P [97, 42]) (h5 : P [91, 33, 97, 93, 63]) (h6 : P [91, 97, 45, 99, 93, 42]) : ∀ t ∈ glTab, P t := fun t ht => by
  simp only [glTab, List.mem_cons, List.not_mem_nil, or_false] at ht
  rcases ht with rfl | rfl | rfl | rfl | rfl | rfl <;> assumption

theorem np_at : ∀ t ∈ plTab, ∀ n, 1 ≤ n ∧ n ≤ 7 → (PF_join [plV n, .str (tx t)]).bind (fun a => PF_normpath [a]) = some (.str (tx (plc t n))) := by
  refine plTab6 ?_ ?_ ?_ ?_ ?_ ?_ <;> refine to7 ?_ ?_ ?_ ?_ ?_ ?_ ?_ <;> kernel_rfl
theorem pin_at (m : Nat → Nat) : ∀ t ∈ plTab, ∀ n, 1 ≤ n ∧ n ≤ 7 → vCmp .In (.str (tx (plc t n))) (wd m) = some (decide (outS (stepOf t) n ≠ [])) := by
  refine plTab6 ?_ ?_ ?_ ?_ ?_ ?_ <;> refine to7 ?_ ?_ ?_ ?_ ?_ ?_ ?_ <;> kernel_rfl
theorem pout_at : ∀ t ∈ plTab, ∀ n, 1 ≤ n ∧ n ≤ 7 → outS (stepOf t) n ≠ [] → (outS (stepOf t) n).map pl = [plc t n] := by
  refine plTab6 ?_ ?_ ?_ ?_ ?_ ?_ <;> refine to7 ?_ ?_ ?_ ?_ ?_ ?_ ?_ <;> decide

noncomputable def fNil : PS := fun ρ => some (PF.next, ρ)
noncomputable def fPlace : List Slot → Option V := fun ρ => ((((getv 10 ρ).bind fun a => Option.map (fun x => a :: x) ((getv 5 ρ).bind fun a => Option.map (fun x => a :: x) (some []))).bind PF_join).bind fun a => Option.map (fun x => a :: x) (some [])).bind PF_normpath
noncomputable def fIn : List Slot → Option Bool := fun ρ => (getv 11 ρ).bind fun a => (getv 0 ρ).bind fun b => vCmp CmpOp.In a b
noncomputable def fAdd : PS := pSeq (pApp 9 (getv 11)) fun ρ => some (PF.next, ρ)
noncomputable def fPlain : PS := pSeq (pSet 11 fPlace) (pSeq (pIf fIn fAdd fun ρ => some (PF.next, ρ)) fun ρ => some (PF.next, ρ))
noncomputable def fCond : List Slot → Option Bool := fun ρ => ((getv 11 ρ).bind fun a => (some (V.str (Str.ofString "/"))).bind fun b => vCmp CmpOp.NotEq a b).bind fun a => if a = true then
  ((((getv 11 ρ).bind fun a => Option.map (fun x => a :: x) (some [])).bind PF_dirname).bind fun a => (getv 10 ρ).bind fun b => vCmp CmpOp.Eq a b).bind fun a => if a = true then
    ((((getv 8 ρ).bind fun a => Option.map (fun x => a :: x) ((((getv 11 ρ).bind fun a => Option.map (fun x => a :: x) (some [])).bind PF_basename).bind fun a => Option.map (fun x => a :: x) (some []))).bind PF__law_takes).bind vTruth).bind fun a => if a = true then some true else some false
    else some false else some false
noncomputable def fAll : PS := fun ρ => ((getv 0 ρ).bind itemsOf).bind fun vs => pFor (paN 11) (pSeq (pIf fCond fAdd fun ρ => some (PF.next, ρ)) fun ρ => some (PF.next, ρ)) (fun ρ => some (PF.next, ρ)) vs ρ
noncomputable def fGlob : PS := pSeq (pIf ft3 (pSeq fAll fun ρ => some (PF.next, ρ)) fun ρ => some (PF.next, ρ)) fun ρ => some (PF.next, ρ)
noncomputable def fBody : PS := pSeq (pIf ft1 (pSeq (pIf (fun ρ => (getv 7 ρ).bind vTruth) fPlain fGlob) fun ρ => some (PF.next, ρ)) fun ρ => some (PF.next, ρ)) fun ρ => some (PF.next, ρ)

noncomputable def partsOf (t : List Nat) : V := if t = [42] then .lst [.lst [.str (tx [115, 116, 97, 114])]] else if t = [63] then .lst [.str (tx [46])] else if t = [63, 98] then .lst [.str (tx [46]), .str (tx [98])]
  else if t = [97, 42] then .lst [.str (tx [97]), .lst [.str (tx [115, 116, 97, 114])]] else if t = [91, 33, 97, 93, 63] then .lst [.str (tx [91, 94, 97, 93]), .str (tx [46])]
  else if t = [91, 97, 45, 99, 93, 42] then .lst [.str (tx [91, 97, 45, 99, 93]), .lst [.str (tx [115, 116, 97, 114])]] else .lst (t.map fun c => .str (tx (if c = 46 then [92, 46] else [c])))
theorem tr_gl : ∀ t ∈ glTab, PF__translate [.str (tx t), .lst [.str (Str.ofString "star")], .str (Str.ofString ".")] = some (partsOf t) := by
  refine glTab6 ?_ ?_ ?_ ?_ ?_ ?_ <;> kernel_rfl
theorem tr_pl : ∀ t ∈ plTab, PF__translate [.str (tx t), .lst [.str (Str.ofString "star")], .str (Str.ofString ".")] = some (partsOf t) := by
  refine plTab6 ?_ ?_ ?_ ?_ ?_ ?_ <;> kernel_rfl
end Mine
end

section
namespace Mine
open PySem PySem.Calls PySem.Spec PySem.W PyProof.Rows
set_option maxRecDepth 100000
variable {m : Nat → Nat} {who n : Nat} {tails : List V} {tail found acc : List Nat} {plain parts : V} {d11 : Slot}

theorem outS_le (st : List Nat) (n : Nat) : (outS st n).length ≤ 1 + (st.drop 1).length := by
  unfold outS kids
  split
  · simp
  · split
    · simp
    · split <;> simp <;> omega
theorem fAdd_at {j : Nat} (h : acc.length < 4096) : fAdd (fS m who tails tail found plain parts acc n (.val (plV j))) = some (.next, fS m who tails tail found plain parts (acc ++ [j]) n (.val (plV j))) := by
  refine pSeq_n (ρ1 := fS m who tails tail found plain parts (acc ++ [j]) n (.val (plV j))) ?_ rfl
  rw [pApp_e (l := acc.map plV) (v := plV j) rfl rfl (by simpa using h)]
  simp [fS, List.set]
theorem pl_one : ∀ t ∈ plTab, ∀ n, 1 ≤ n ∧ n ≤ 7 → outS (stepOf t) n = [] ∨ ∃ j, outS (stepOf t) n = [j] := by
  refine plTab6 ?_ ?_ ?_ ?_ ?_ ?_ <;> refine to7 ?_ ?_ ?_ ?_ ?_ ?_ ?_ <;> first | exact .inl rfl | exact .inr ⟨_, rfl⟩

theorem fPlain_at (ht : tail ∈ plTab) (hn : 1 ≤ n ∧ n ≤ 7) (h : acc.length < 4096) :
    ∃ d', fPlain (fS m who tails tail found plain parts acc n d11) = some (.next, fS m who tails tail found plain parts (acc ++ outS (stepOf tail) n) n d') := by
  have hp : fPlace (fS m who tails tail found plain parts acc n d11) = some (.str (tx (plc tail n))) := by
    have := np_at tail ht n hn
    show ((PF_join [plV n, .str (tx tail)]).bind fun a => Option.map (fun x => a :: x) (some [])).bind PF_normpath = _
    rw [← this]
    cases PF_join [plV n, .str (tx tail)] <;> rfl
  have hi := pin_at m tail ht n hn
  refine ⟨.val (.str (tx (plc tail n))), ?_⟩
  refine pSeq_n (pSet_e hp) ?_
  rcases pl_one tail ht n hn with e | ⟨j, e⟩
  · rw [e] at hi ⊢
    refine pSeq_n (ρ1 := fS m who tails tail found plain parts (acc ++ []) n (.val (.str (tx (plc tail n))))) (pIf_f ?_ ?_) rfl
    · exact hi
    · rw [List.append_nil]; rfl
  · have hq := pout_at tail ht n hn (by rw [e]; simp)
    rw [e] at hi hq ⊢
    simp only [List.map_cons, List.map_nil, List.cons.injEq, and_true] at hq
    rw [← hq] at hi ⊢
    exact pSeq_n (pIf_t hi (fAdd_at h)) rfl

theorem cond_at (m : Nat → Nat) (who : Nat) (tails : List V) (found : List Nat) (plain : V) (acc : List Nat) : ∀ t ∈ glTab, ∀ n, 1 ≤ n ∧ n ≤ 7 → ∀ j, 1 ≤ j ∧ j ≤ 7 →
    fCond (fS m who tails t found plain (partsOf t) acc n (.val (plV j))) = some (decide (j ∈ outS (stepOf t) n)) := by
  refine glTab6 ?_ ?_ ?_ ?_ ?_ ?_ <;> refine to7 ?_ ?_ ?_ ?_ ?_ ?_ ?_ <;> refine to7 ?_ ?_ ?_ ?_ ?_ ?_ ?_ <;> kernel_rfl
end Mine
end

section
namespace Mine
open PySem PySem.Calls PySem.Spec PySem.W PyProof.Rows
set_option maxRecDepth 100000
variable {m : Nat → Nat} {who n : Nat} {tails : List V} {tail found acc : List Nat} {plain parts : V} {d11 : Slot}

theorem fold_filter (p : Nat → Bool) : ∀ (l : List Nat) (acc : List Nat), l.foldl (fun a j => if p j then a ++ [j] else a) acc = acc ++ l.filter p
  | [], acc => by simp
  | j :: l, acc => by
    rw [List.foldl_cons, fold_filter p l]
    cases h : p j <;> simp [h]
theorem gl_filter : ∀ t ∈ glTab, ∀ n, 1 ≤ n ∧ n ≤ 7 → [1, 2, 3, 4, 5, 6, 7].filter (fun j => decide (j ∈ outS (stepOf t) n)) = outS (stepOf t) n := by
  refine glTab6 ?_ ?_ ?_ ?_ ?_ ?_ <;> refine to7 ?_ ?_ ?_ ?_ ?_ ?_ ?_ <;> decide
theorem wd_items (m : Nat → Nat) : itemsOf (wd m) = some ([1, 2, 3, 4, 5, 6, 7].map plV) := by kernel_rfl

theorem fAll_at (ht : tail ∈ glTab) (hn : 1 ≤ n ∧ n ≤ 7) (h : acc.length < 4000) :
    ∃ d', fAll (fS m who tails tail found plain (partsOf tail) acc n d11) = some (.next, fS m who tails tail found plain (partsOf tail) (acc ++ outS (stepOf tail) n) n d') := by
  obtain ⟨ρ', e, ⟨d', hs⟩, _⟩ := pFor_inv (pa := paN 11) (body := pSeq (pIf fCond fAdd fun ρ => some (PF.next, ρ)) fun ρ => some (PF.next, ρ)) plV
    (fun a ρ => ∃ d', ρ = fS m who tails tail found plain (partsOf tail) a n d') (fun a j => if decide (j ∈ outS (stepOf tail) n) then a ++ [j] else a)
    (fun a bs => (∀ j ∈ bs, 1 ≤ j ∧ j ≤ 7) ∧ a.length + bs.length ≤ 4090) (by
      rintro a j bs ρ ⟨hj, hl⟩ ⟨d, rfl⟩
      simp only [List.length_cons] at hl
      have hj1 := hj j (by simp)
      have hc := cond_at m who tails found plain a tail ht n hn j hj1
      refine ⟨fS m who tails tail found plain (partsOf tail) a n (.val (plV j)), fS m who tails tail found plain (partsOf tail) (if decide (j ∈ outS (stepOf tail) n) then a ++ [j] else a) n (.val (plV j)), rfl, ?_, ⟨_, rfl⟩, fun i hi => hj i (by simp [hi]), ?_⟩
      · cases hd : decide (j ∈ outS (stepOf tail) n) with
        | true =>
          rw [hd] at hc
          exact pSeq_n (pIf_t hc (fAdd_at (by omega))) rfl
        | false =>
          rw [hd] at hc
          exact pSeq_n (pIf_f hc rfl) rfl
      · split
        · simp; omega
        · omega)
    [1, 2, 3, 4, 5, 6, 7] acc (fS m who tails tail found plain (partsOf tail) acc n d11) ⟨by decide, by simp; omega⟩ ⟨d11, rfl⟩
  refine ⟨d', ?_⟩
  rw [fold_filter, gl_filter tail ht n hn] at hs
  rw [hs] at e
  exact bind_e (wd_items m) e

/-- the tail of the loop reads its two facts -/
theorem isPl_gl : ∀ t ∈ glTab, isPl t = false := glTab6 (by decide) (by decide) (by decide) (by decide) (by decide) (by decide)
theorem isPl_pl : ∀ t ∈ plTab, isPl t = true := plTab6 (by decide) (by decide) (by decide) (by decide) (by decide) (by decide)
theorem fBody_at (ht : tail ∈ plTab ∨ tail ∈ glTab) (hw : who < 3) (hn : 1 ≤ n ∧ n ≤ 7) (h : acc.length < 4000) :
    ∃ d', fBody (fS m who tails tail found (.bool (isPl tail)) (partsOf tail) acc n d11) = some (.next, fS m who tails tail found (.bool (isPl tail)) (partsOf tail) (acc ++ goes m who tail n) n d') := by
  have h1 := ft1_at (m := m) (tails := tails) (tail := tail) (found := found) (plain := .bool (isPl tail)) (parts := partsOf tail) (acc := acc) (d11 := d11) hw hn
  unfold goes
  cases hd : dxB m who n with
  | false =>
    rw [hd] at h1
    exact ⟨d11, pSeq_n (pIf_f h1 rfl) (by simp)⟩
  | true =>
    rw [hd] at h1
    rcases ht with ht | ht
    · obtain ⟨d', e⟩ := fPlain_at (m := m) (who := who) (tails := tails) (found := found) (plain := .bool (isPl tail)) (parts := partsOf tail) (d11 := d11) ht hn (by omega : acc.length < 4096)
      refine ⟨d', pSeq_n (pIf_t h1 (pSeq_n (pIf_t ?_ e) rfl)) ?_⟩
      · show vTruth (.bool (isPl tail)) = _
        rw [isPl_pl tail ht]; rfl
      · rw [isPl_pl tail ht]; simp
    · have h3 := ft3_at (m := m) (tails := tails) (tail := tail) (found := found) (plain := .bool (isPl tail)) (parts := partsOf tail) (acc := acc) (d11 := d11) hw hn
      have hp : (fun ρ => (getv 7 ρ).bind vTruth) (fS m who tails tail found (.bool (isPl tail)) (partsOf tail) acc n d11) = some false := by
        show vTruth (.bool (isPl tail)) = _
        rw [isPl_gl tail ht]; rfl
      cases hr : rB m who n with
      | false =>
        rw [hr] at h3
        refine ⟨d11, pSeq_n (pIf_t h1 (pSeq_n (pIf_f hp (pSeq_n (pIf_f h3 rfl) rfl)) rfl)) ?_⟩
        rw [isPl_gl tail ht]; simp
      | true =>
        rw [hr] at h3
        obtain ⟨d', e⟩ := fAll_at (m := m) (who := who) (tails := tails) (found := found) (plain := .bool (isPl tail)) (d11 := d11) ht hn h
        refine ⟨d', pSeq_n (pIf_t h1 (pSeq_n (pIf_f hp (pSeq_n (pIf_t h3 (pSeq_n e rfl)) rfl)) rfl)) ?_⟩
        rw [isPl_gl tail ht]; simp
end Mine
end

section
namespace Mine
open PySem PySem.Calls PySem.Spec PySem.W PyProof.Rows
set_option maxRecDepth 100000
variable {m : Nat → Nat} {who n : Nat} {tails : List V} {tail found acc : List Nat} {plain parts : V} {d11 : Slot}

theorem outS_few : ∀ t, t ∈ plTab ∨ t ∈ glTab → ∀ n, 1 ≤ n ∧ n ≤ 7 → (outS (stepOf t) n).length ≤ 2 ∧ ∀ j ∈ outS (stepOf t) n, 1 ≤ j ∧ j ≤ 7 := by
  rintro t (ht | ht)
  · revert t; refine plTab6 ?_ ?_ ?_ ?_ ?_ ?_ <;> refine to7 ?_ ?_ ?_ ?_ ?_ ?_ ?_ <;> decide
  · revert t; refine glTab6 ?_ ?_ ?_ ?_ ?_ ?_ <;> refine to7 ?_ ?_ ?_ ?_ ?_ ?_ ?_ <;> decide
theorem goes_few {t : List Nat} (ht : t ∈ plTab ∨ t ∈ glTab) (hn : 1 ≤ n ∧ n ≤ 7) : (goes m who t n).length ≤ 2 ∧ ∀ j ∈ goes m who t n, 1 ≤ j ∧ j ≤ 7 := by
  have := outS_few t ht n hn
  unfold goes
  split
  · split
    · exact this
    · simp
  · simp

noncomputable abbrev oS (m : Nat → Nat) (who : Nat) (tails : List V) (tail : List Nat) (found : List Nat) (d7 d8 d9 d10 d11 : Slot) : List Slot :=
  [.val (wd m), .val (sd m), .val (.str (tx [47])), .val (.int (who : Int)), .own tails, .val (.str (tx tail)), .val (.lst (found.map plV)), d7, d8, d9, d10, d11]
theorem inner_at {d10 : Slot} (ht : tail ∈ plTab ∨ tail ∈ glTab) (hw : who < 3) (hf : ∀ n ∈ found, 1 ≤ n ∧ n ≤ 7) (hl : found.length ≤ 1000) :
    ∃ d10' d11', pFor (paN 10) fBody (fun ρ => some (PF.next, ρ)) (found.map plV) (oS m who tails tail found (.val (.bool (isPl tail))) (.val (partsOf tail)) (.own []) d10 d11)
      = some (.next, oS m who tails tail found (.val (.bool (isPl tail))) (.val (partsOf tail)) (.own ((found.flatMap (goes m who tail)).map plV)) d10' d11') := by
  obtain ⟨ρ', e, ⟨d', d'', hs⟩, _⟩ := pFor_inv (pa := paN 10) (body := fBody) plV
    (fun a ρ => ∃ d' d'', ρ = oS m who tails tail found (.val (.bool (isPl tail))) (.val (partsOf tail)) (.own (a.map plV)) d' d'') (fun a j => a ++ goes m who tail j)
    (fun a bs => (∀ j ∈ bs, 1 ≤ j ∧ j ≤ 7) ∧ a.length + 2 * bs.length ≤ 2000) (by
      rintro a j bs ρ ⟨hj, hl⟩ ⟨d, d2, rfl⟩
      simp only [List.length_cons] at hl
      have hj1 := hj j (by simp)
      obtain ⟨d', e⟩ := fBody_at (m := m) (tails := tails) (found := found) (acc := a) (d11 := clr 10 d2) ht hw hj1 (by omega)
      refine ⟨fS m who tails tail found (.bool (isPl tail)) (partsOf tail) a j (clr 10 d2), _, rfl, e, ⟨_, d', rfl⟩, fun i hi => hj i (by simp [hi]), ?_⟩
      have := (goes_few (m := m) (who := who) ht hj1).1
      simp only [List.length_append]; omega)
    found [] (oS m who tails tail found (.val (.bool (isPl tail))) (.val (partsOf tail)) (.own []) d10 d11) ⟨hf, by simp; omega⟩ ⟨d10, d11, rfl⟩
  refine ⟨d', d'', ?_⟩
  have hfl : ∀ (l acc : List Nat), l.foldl (fun a j => a ++ goes m who tail j) acc = acc ++ l.flatMap (goes m who tail) := by
    intro l
    induction l with
    | nil => intro acc; simp
    | cons a l ih => intro acc; rw [List.foldl_cons, ih]; simp
  rw [hfl, List.nil_append] at hs
  rw [e, hs]

noncomputable def oPl : List Slot → Option V := fun ρ => ((some (V.str (Str.ofString "*"))).bind fun a => (getv 5 ρ).bind fun b => Option.map V.bool (vCmp CmpOp.NotIn a b)).bind fun a => (vTruth a).bind fun c => if c = true then
  ((some (V.str (Str.ofString "?"))).bind fun a => (getv 5 ρ).bind fun b => Option.map V.bool (vCmp CmpOp.NotIn a b)).bind fun a => (vTruth a).bind fun c => if c = true then
    (some (V.str (Str.ofString "["))).bind fun a => (getv 5 ρ).bind fun b => Option.map V.bool (vCmp CmpOp.NotIn a b) else some a
  else some a
noncomputable def oTr : List Slot → Option V := fun ρ => ((getv 5 ρ).bind fun a => Option.map (fun x => a :: x) ((((some (V.str (Str.ofString "star"))).bind fun a => Option.map (fun x => a :: x) (some [])).bind lstV).bind fun a => Option.map (fun x => a :: x) ((some (V.str (Str.ofString "."))).bind fun a => Option.map (fun x => a :: x) (some [])))).bind PF__translate
noncomputable def oBody : PS := pSeq (pSet 7 oPl) (pSeq (pSet 8 oTr) (pSeq (pNew 9 fun x => some []) (pSeq (fun ρ => ((getv 6 ρ).bind itemsOf).bind fun vs => pFor (paN 10) fBody (fun ρ => some (PF.next, ρ)) vs ρ) (pSeq (fun ρ => pSet 6 (getv 9) (frz 9 ρ)) fun ρ => some (PF.next, ρ)))))

theorem oPl_at {d7 d8 d9 d10 : Slot} : ∀ t, t ∈ plTab ∨ t ∈ glTab → oPl (oS m who tails t found d7 d8 d9 d10 d11) = some (.bool (isPl t)) := by
  rintro t (ht | ht)
  · revert t; refine plTab6 ?_ ?_ ?_ ?_ ?_ ?_ <;> kernel_rfl
  · revert t; refine glTab6 ?_ ?_ ?_ ?_ ?_ ?_ <;> kernel_rfl
theorem oTr_at {d7 d8 d9 d10 : Slot} (ht : tail ∈ plTab ∨ tail ∈ glTab) : oTr (oS m who tails tail found d7 d8 d9 d10 d11) = some (partsOf tail) := by
  have : oTr (oS m who tails tail found d7 d8 d9 d10 d11) = PF__translate [.str (tx tail), .lst [.str (Str.ofString "star")], .str (Str.ofString ".")] := rfl
  rw [this]
  rcases ht with ht | ht
  · exact tr_pl tail ht
  · exact tr_gl tail ht
theorem oBody_at {d7 d8 d9 d10 : Slot} (ht : tail ∈ plTab ∨ tail ∈ glTab) (hw : who < 3) (hf : ∀ n ∈ found, 1 ≤ n ∧ n ≤ 7) (hl : found.length ≤ 1000) :
    ∃ e7 e8 e9 e10 e11, oBody (oS m who tails tail found d7 d8 d9 d10 d11) = some (.next, oS m who tails tail (found.flatMap (goes m who tail)) e7 e8 e9 e10 e11) := by
  obtain ⟨e10, e11, e⟩ := inner_at (m := m) (tails := tails) (d10 := clr 9 (clr 8 (clr 7 d10))) (d11 := clr 9 (clr 8 (clr 7 d11))) ht hw hf hl
  refine ⟨.val (.bool (isPl tail)), .val (partsOf tail), .val (.lst ((found.flatMap (goes m who tail)).map plV)), clr 6 e10, clr 6 e11, ?_⟩
  refine pSeq_n (ρ1 := oS m who tails tail found (.val (.bool (isPl tail))) (clr 7 d8) (clr 7 d9) (clr 7 d10) (clr 7 d11)) (pSet_i (oPl_at tail ht) rfl) ?_
  refine pSeq_n (ρ1 := oS m who tails tail found (.val (.bool (isPl tail))) (.val (partsOf tail)) (clr 8 (clr 7 d9)) (clr 8 (clr 7 d10)) (clr 8 (clr 7 d11))) (pSet_i (oTr_at ht) rfl) ?_
  refine pSeq_n (ρ1 := oS m who tails tail found (.val (.bool (isPl tail))) (.val (partsOf tail)) (.own []) (clr 9 (clr 8 (clr 7 d10))) (clr 9 (clr 8 (clr 7 d11)))) rfl ?_
  exact pSeq_n e (pSeq_n rfl rfl)

/-- all pieces, one by one -/
noncomputable def finds (m : Nat → Nat) (who : Nat) : List (List Nat) → List Nat → List Nat
  | [], found => found
  | t :: ts, found => finds m who ts (found.flatMap (goes m who t))
theorem flat_few {t : List Nat} (ht : t ∈ plTab ∨ t ∈ glTab) : ∀ (l : List Nat), (∀ n ∈ l, 1 ≤ n ∧ n ≤ 7) → (l.flatMap (goes m who t)).length ≤ 2 * l.length ∧ ∀ j ∈ l.flatMap (goes m who t), 1 ≤ j ∧ j ≤ 7
  | [], _ => by simp
  | n :: l, h => by
    have h1 := goes_few (m := m) (who := who) ht (h n (by simp))
    have h2 := flat_few ht l fun j hj => h j (by simp [hj])
    rw [List.flatMap_cons]
    refine ⟨?_, ?_⟩
    · rw [List.length_append, List.length_cons]; have := h1.1; have := h2.1; omega
    · intro j hj
      rcases List.mem_append.mp hj with hj | hj
      · exact h1.2 j hj
      · exact h2.2 j hj
theorem outer_at (hw : who < 3) : ∀ (ts : List (List Nat)) (found : List Nat) (d5 d7 d8 d9 d10 d11 : Slot), (∀ t ∈ ts, t ∈ plTab ∨ t ∈ glTab) → (∀ n ∈ found, 1 ≤ n ∧ n ≤ 7) → found.length * 2 ^ ts.length ≤ 1000 →
    ∃ e5 e7 e8 e9 e10 e11, pFor (paN 5) oBody (fun ρ => some (PF.next, ρ)) (ts.map fun t => .str (tx t)) [.val (wd m), .val (sd m), .val (.str (tx [47])), .val (.int (who : Int)), .own tails, d5, .val (.lst (found.map plV)), d7, d8, d9, d10, d11]
      = some (.next, [.val (wd m), .val (sd m), .val (.str (tx [47])), .val (.int (who : Int)), .own tails, e5, .val (.lst ((finds m who ts found).map plV)), e7, e8, e9, e10, e11]) ∧ (finds m who ts found).length ≤ 1000 ∧ ∀ n ∈ finds m who ts found, 1 ≤ n ∧ n ≤ 7
  | [], found, d5, d7, d8, d9, d10, d11, _, hf, hl => ⟨d5, d7, d8, d9, d10, d11, rfl, by simpa [finds] using hl, hf⟩
  | t :: ts, found, d5, d7, d8, d9, d10, d11, ht, hf, hl => by
    have ht1 := ht t (by simp)
    have hp : 1 ≤ 2 ^ ts.length := Nat.one_le_two_pow
    rw [List.length_cons, Nat.pow_succ, Nat.mul_comm (2 ^ ts.length) 2, ← Nat.mul_assoc] at hl
    have hl1 : found.length ≤ 1000 := by
      have : found.length * 2 * 1 ≤ found.length * 2 * 2 ^ ts.length := Nat.mul_le_mul_left _ hp
      omega
    obtain ⟨e7, e8, e9, e10, e11, e⟩ := oBody_at (m := m) (tails := tails) (d7 := clr 5 d7) (d8 := clr 5 d8) (d9 := clr 5 d9) (d10 := clr 5 d10) (d11 := clr 5 d11) ht1 hw hf hl1
    have hff := flat_few (m := m) (who := who) ht1 found hf
    obtain ⟨f5, f7, f8, f9, f10, f11, f, g⟩ := outer_at hw ts (found.flatMap (goes m who t)) (.val (.str (tx t))) e7 e8 e9 e10 e11 (fun t h => ht t (by simp [h])) hff.2
      (Nat.le_trans (Nat.mul_le_mul_right _ hff.1) (by rw [Nat.mul_comm 2]; exact hl))
    exact ⟨f5, f7, f8, f9, f10, f11, pFor_c rfl e f, g⟩
end Mine
end

section
namespace Mine
open PySem PySem.Calls PySem.Spec PySem.W PyProof.Rows
set_option maxRecDepth 100000

theorem pick_rev (l : List V) : pickV l none none (some (-1)) = l.reverse := by
  have hb : sliceBounds none none (some (-1)) l.length = ((l.length : Int) - 1, -1, -1) := by
    simp [sliceBounds]
  unfold pickV
  rw [hb]
  have hs : sliceRange ((l.length : Int) - 1) (-1) (-1) = (List.range l.length).map fun k => l.length - 1 - k := by
    unfold sliceRange
    have h1 : ¬ ((-1 : Int) > 0) := by decide
    simp only [h1, if_false]
    by_cases h : (l.length : Int) - 1 > -1
    · rw [if_pos h]
      have e : (((l.length : Int) - 1 - -1 - -1 - 1) / (- -1)).toNat = l.length := by rw [show (- -1 : Int) = 1 by decide, Int.ediv_one]; omega
      rw [e]
      refine List.map_congr_left fun k hk => ?_
      rw [List.mem_range] at hk
      omega
    · rw [if_neg h]
      have : l.length = 0 := by omega
      rw [this]; rfl
  show (sliceRange ((l.length : Int) - 1) (-1) (-1)).filterMap (l[·]?) = _
  rw [hs, List.filterMap_map]
  have h2 : (List.range l.length).filterMap ((fun x => l[x]?) ∘ fun k => l.length - 1 - k) = (List.range l.length).filterMap (fun k => l.reverse[k]?) := by
    have gen : ∀ (L : List Nat), (∀ k ∈ L, k < l.length) → L.filterMap ((fun x => l[x]?) ∘ fun k => l.length - 1 - k) = L.filterMap (fun k => l.reverse[k]?) := by
      intro L
      induction L with
      | nil => intro _; rfl
      | cons k L ih =>
        intro h
        have e : ((fun x => l[x]?) ∘ fun k => l.length - 1 - k) k = l.reverse[k]? := by
          rw [List.getElem?_reverse (h k (by simp))]; rfl
        rw [List.filterMap_cons, List.filterMap_cons, e, ih fun k hk => h k (by simp [hk])]
    exact gen _ fun k hk => List.mem_range.mp hk
  rw [h2]
  have := StrLaws.picks l.reverse l.length 0 (by simp)
  simp only [Nat.zero_add, List.map_id', List.drop_zero] at this
  rw [this, List.take_of_length_le (by simp)]

theorem tails_ok {t : List Nat} (h : t ∈ nameTab) : t ∈ plTab ∨ t ∈ glTab := by
  revert t; decide

theorem found_v {m : Nat → Nat} {who mm k : Nat} {p c : List Nat} {steps ts : List (List Nat)} {slash : Bool} (h : Inv mm p steps slash ts c k) (hp : p.length ≤ 4000) (hm : mm ≤ 4) (hw : who < 3) :
    PF__law_found [wd m, sd m, .str (tx p), .int (who : Int)] = some (.lst ((finds m who (ts.reverse ++ (if slash then [[]] else [])) [1]).map plV)) ∧
    (finds m who (ts.reverse ++ (if slash then [[]] else [])) [1]).length ≤ 1000 ∧ ∀ n ∈ finds m who (ts.reverse ++ (if slash then [[]] else [])) [1], 1 ≤ n ∧ n ≤ 7 := by
  obtain ⟨d', hwh⟩ := tails_whole (a := wd m) (b := sd m) (w := .int (who : Int)) h hp hm
  have few := h.few
  have hts : ∀ t ∈ ts.reverse ++ (if slash then [[]] else []), t ∈ plTab ∨ t ∈ glTab := by
    intro t ht
    rcases List.mem_append.mp ht with ht | ht
    · exact tails_ok (h.tl.all t (by simpa using ht))
    · cases slash
      · simp at ht
      · simp at ht; rw [ht]; exact .inl (by decide)
  have hlen : (ts.reverse ++ (if slash then [[]] else [])).length ≤ 9 := by
    rw [List.length_append, List.length_reverse]
    cases slash <;> simp <;> omega
  have hpow : 2 ^ (ts.reverse ++ (if slash then [[]] else [])).length ≤ 2 ^ 9 := Nat.pow_le_pow_right (by decide) hlen
  obtain ⟨e5, e7, e8, e9, e10, e11, e, g⟩ := outer_at (m := m) (tails := (((if slash then [[]] else []) ++ ts).map fun t => .str (tx t))) hw (ts.reverse ++ (if slash then [[]] else [])) [1] (clr 6 d') .unb .unb .unb .unb .unb hts (by simp) (by rw [List.length_singleton, Nat.one_mul]; omega)
  refine ⟨?_, g⟩
  unfold PF__law_found BD__law_found; dsimp only
  refine pfun_e (ρ := [.val (wd m), .val (sd m), .val (.str (tx [47])), .val (.int (who : Int)), .own (((if slash then [[]] else []) ++ ts).map fun t => .str (tx t)), e5, .val (.lst ((finds m who (ts.reverse ++ (if slash then [[]] else [])) [1]).map plV)), e7, e8, e9, e10, e11]) rfl ?_
  refine pSeq_n (ρ1 := tS (wd m) (sd m) p (.int (who : Int)) [] .unb) rfl ?_
  refine pSeq_n hwh ?_
  refine pSeq_n (ρ1 := [.val (wd m), .val (sd m), .val (.str (tx [47])), .val (.int (who : Int)), .own (((if slash then [[]] else []) ++ ts).map fun t => .str (tx t)), clr 6 d', .val (.lst ([1].map plV)), .unb, .unb, .unb, .unb, .unb]) ?_ ?_
  · refine pSet_i (v := .lst ([1].map plV)) (by kernel_rfl) rfl
  · refine pSeq_n (bind_e (x := (ts.reverse ++ (if slash then [[]] else [])).map fun t => .str (tx t)) ?_ ((congrArg (fun B => pFor (paN 5) B (fun ρ => some (PF.next, ρ)) _ _) (by unfold oBody fBody ft1 fPlain fGlob ft3 fAll fAdd fPlace fIn fCond oPl oTr; rfl : _ = oBody)).trans e)) (pRet_e rfl)
    show (vSl (.lst (((if slash then [[]] else []) ++ ts).map fun t => .str (tx t))) none none (some (-1))).bind itemsOf = _
    unfold vSl
    have h1 : (((if slash then [[]] else []) ++ ts).map fun t => V.str (tx t)).length ≤ 4096 := by
      rw [List.length_map, List.length_append]
      rw [List.length_append, List.length_reverse] at hlen
      omega
    simp only [h1, true_and]
    rw [if_pos (by decide), pick_rev]
    show some (List.reverse _) = _
    rw [← List.map_reverse, List.reverse_append]
    congr 3
    cases slash <;> rfl
end Mine
end

section
namespace Mine
open PySem PySem.Calls PySem.Spec PySem.W PyProof.Rows
set_option maxRecDepth 100000

noncomputable abbrev nV (n : Nat) : V := .int (n : Int)
noncomputable def mdV (m : Nat → Nat) : V := .lst [nV 0, nV (m 1), nV (m 2), nV (m 3), nV (m 4), nV (m 5), nV (m 6), nV (m 7)]
noncomputable def m0 (m : Nat → Nat) (n : Nat) : Nat := if n = 0 then 0 else m n
theorem md_at (m : Nat → Nat) : ∀ n, 1 ≤ n ∧ n ≤ 7 → vIdx (mdV m) (nV n) = some (nV (m n)) :=
  to7 (by kernel_rfl) (by kernel_rfl) (by kernel_rfl) (by kernel_rfl) (by kernel_rfl) (by kernel_rfl) (by kernel_rfl)
theorem md_half (m : Nat → Nat) : ∀ n, 1 ≤ n ∧ n ≤ 7 → ((vFdiv (nV n) (.int 2)).bind fun b => vIdx (mdV m) b) = some (nV (m0 m (n / 2))) :=
  to7 (by kernel_rfl) (by kernel_rfl) (by kernel_rfl) (by kernel_rfl) (by kernel_rfl) (by kernel_rfl) (by kernel_rfl)
/-- the rights of a class -/
noncomputable abbrev rgt (a : Option V) (who : Nat) : Option V := (a.bind fun a => ((some (V.int 8)).bind fun a => ((some (V.int 2)).bind fun a => (some (nV who)).bind fun b => vBin Operator.Sub a b).bind fun b => vBin Operator.Pow a b).bind fun b => vBin Operator.FloorDiv a b).bind fun a => (some (V.int 8)).bind fun b => vBin Operator.Mod a b
theorem rgt_at (x : Nat) : ∀ who, who < 3 → rgt (some (nV x)) who = some (nV (rt who x)) := by
  have e8 : ∀ (q : Nat) (e : Int), e = (q : Int) → some (V.int (Int.fmod (Int.fdiv (x : Int) e) ((8 : Nat) : Int))) = some (nV (x / q % 8)) := fun q e he => by
    rw [he, fd, fm]
  refine to3 ?_ ?_ ?_
  · exact (show rgt (some (nV x)) 0 = some (V.int (Int.fmod (Int.fdiv (x : Int) (8 ^ 2)) ((8 : Nat) : Int))) by kernel_rfl).trans (e8 64 _ (by decide))
  · exact (show rgt (some (nV x)) 1 = some (V.int (Int.fmod (Int.fdiv (x : Int) (8 ^ 1)) ((8 : Nat) : Int))) by kernel_rfl).trans (e8 8 _ (by decide))
  · have := (show rgt (some (nV x)) 2 = some (V.int (Int.fmod (Int.fdiv (x : Int) (8 ^ 0)) ((8 : Nat) : Int))) by kernel_rfl).trans (e8 1 _ (by decide))
    rw [Nat.div_one] at this
    exact this

noncomputable def goesS (m : Nat → Nat) (who : Nat) (st : List Nat) (n : Nat) : List Nat := if dxB m who n then (if decide (st.head? ≠ some 42) || rB m who n then outS st n else []) else []
theorem goes_eq (m : Nat → Nat) (who : Nat) {t : List Nat} (ht : t ∈ plTab ∨ t ∈ glTab) (n : Nat) : goes m who t n = goesS m who (stepOf t) n := by
  have : isPl t = decide ((stepOf t).head? ≠ some 42) := by
    rcases ht with ht | ht
    · revert t; decide
    · revert t; decide
  unfold goes goesS
  rw [this]

noncomputable abbrev dS (m : Nat → Nat) (steps : V) (who : Nat) (st : List Nat) (found acc : List Nat) (n : Nat) (d7 : Slot) : List Slot :=
  [.val (mdV m), .val steps, .val (nV who), .val (.lst (found.map nV)), .val (.str (tx st)), .own (acc.map nV), .val (nV n), d7, .unb, .unb, .unb, .unb]
noncomputable def dR : List Slot → Option V := fun ρ => (((getv 0 ρ).bind fun a => (getv 6 ρ).bind fun b => vIdx a b).bind fun a => ((some (V.int 8)).bind fun a => ((some (V.int 2)).bind fun a => (getv 2 ρ).bind fun b => vBin Operator.Sub a b).bind fun b => vBin Operator.Pow a b).bind fun b => vBin Operator.FloorDiv a b).bind fun a => (some (V.int 8)).bind fun b => vBin Operator.Mod a b
noncomputable def dC : List Slot → Option Bool := fun ρ => (((((getv 0 ρ).bind fun a => (getv 6 ρ).bind fun b => vIdx a b).bind fun a => (some (V.int 4096)).bind fun b => vBin Operator.FloorDiv a b).bind fun a => (some (V.int 16)).bind fun b => vBin Operator.Mod a b).bind fun a => (some (V.int 4)).bind fun b => vCmp CmpOp.Eq a b).bind
  fun a => if a = true then (((getv 7 ρ).bind fun a => (some (V.int 2)).bind fun b => vBin Operator.Mod a b).bind fun a => (some (V.int 1)).bind fun b => vCmp CmpOp.Eq a b).bind fun a => if a = true then some true else some false else some false
noncomputable def dDot : List Slot → Option Bool := fun ρ => (getv 4 ρ).bind fun a => (some (V.str (Str.ofString "."))).bind fun b => vCmp CmpOp.Eq a b
noncomputable def dDots : List Slot → Option Bool := fun ρ => (getv 4 ρ).bind fun a => (some (V.str (Str.ofString ".."))).bind fun b => vCmp CmpOp.Eq a b
noncomputable def dUp : List Slot → Option V := fun ρ => (((getv 6 ρ).bind fun a => (some (V.int 2)).bind fun b => vBin Operator.FloorDiv a b).bind fun a => Option.map (fun x => a :: x) ((some (V.int 1)).bind fun a => Option.map (fun x => a :: x) (some []))).bind pf_max
noncomputable def dRd : List Slot → Option Bool := fun ρ => (((getv 4 ρ).bind fun a => (some (V.int 0)).bind fun b => vIdx a b).bind fun a => (some (V.str (Str.ofString "="))).bind fun b => vCmp CmpOp.Eq a b).bind
  fun a => if a = true then some true else ((getv 7 ρ).bind fun a => (some (V.int 4)).bind fun b => vCmp CmpOp.GtE a b).bind fun a => if a = true then some true else some false
noncomputable def dKids : List Slot → Option V := fun ρ => Option.map V.lst (pComp (fun ρ => ((getv 4 ρ).bind fun a => ((some (V.int 1)).bind asI).bind fun x => (some none).bind fun y => (some none).bind fun z => vSl a x y z).bind itemsW) [6]
  (fun ρ => (((some (V.int 2)).bind fun a => (getv 1 ρ).bind fun b => vBin Operator.Mult a b).bind fun a => (((getv 0 ρ).bind fun a => Option.map (fun x => a :: x) (some [])).bind pf_int).bind fun b => vBin Operator.Add a b).bind fun v => if isSc v = true then some v else none)
  (fun ρ => (getv 1 ρ).bind fun a => (some (V.int 4)).bind fun b => vCmp CmpOp.Lt a b) ρ)
noncomputable def dStep : PS := pSeq (pIf dDot (pSeq (pApp 5 (getv 6)) fun ρ => some (PF.next, ρ)) (pSeq (pIf dDots (pSeq (pApp 5 dUp) fun ρ => some (PF.next, ρ)) (pSeq (pIf dRd (pSeq (pExt 5 dKids) fun ρ => some (PF.next, ρ)) fun ρ => some (PF.next, ρ)) fun ρ => some (PF.next, ρ))) fun ρ => some (PF.next, ρ))) fun ρ => some (PF.next, ρ)
noncomputable def dBody : PS := pSeq (pSet 7 dR) (pSeq (pIf dC dStep fun ρ => some (PF.next, ρ)) fun ρ => some (PF.next, ρ))

variable {m : Nat → Nat} {steps : V} {who n : Nat} {st found acc : List Nat} {d7 : Slot}
theorem dR_at (hw : who < 3) (hn : 1 ≤ n ∧ n ≤ 7) : dR (dS m steps who st found acc n d7) = some (nV (rt who (m n))) := by
  show rgt (vIdx (mdV m) (nV n)) who = _
  rw [md_at m n hn, rgt_at _ who hw]
theorem vEq_n (a b : Nat) : vEq (nV a) (nV b) = some (decide (a = b)) := by
  rw [vEq_int]; congr 1; rw [Bool.eq_iff_iff, decide_eq_true_eq, decide_eq_true_eq]; omega
theorem dC_at (hn : 1 ≤ n ∧ n ≤ 7) : dC (dS m steps who st found acc n (.val (nV (rt who (m n))))) = some (dxB m who n) := by
  show ((((vIdx (mdV m) (nV n)).bind fun a => (some (V.int 4096)).bind fun b => vBin Operator.FloorDiv a b).bind fun a => (some (V.int 16)).bind fun b => vBin Operator.Mod a b).bind fun a => (some (V.int 4)).bind fun b => vCmp CmpOp.Eq a b).bind
    (fun a => if a = true then (((some (nV (rt who (m n)))).bind fun a => (some (V.int 2)).bind fun b => vBin Operator.Mod a b).bind fun a => (some (V.int 1)).bind fun b => vCmp CmpOp.Eq a b).bind (fun a => if a = true then some true else some false) else some false) = _
  rw [md_at m n hn]
  have e1 : (((some (nV (m n))).bind fun a => (some (V.int 4096)).bind fun b => vBin Operator.FloorDiv a b).bind fun a => (some (V.int 16)).bind fun b => vBin Operator.Mod a b) = some (nV (m n / 4096 % 16)) := by
    show some (V.int (Int.fmod (Int.fdiv (m n : Int) ((4096 : Nat) : Int)) ((16 : Nat) : Int))) = _
    rw [fd, fm]
  have e2 : ((some (nV (rt who (m n)))).bind fun a => (some (V.int 2)).bind fun b => vBin Operator.Mod a b) = some (nV (rt who (m n) % 2)) := by
    show some (V.int (Int.fmod (rt who (m n) : Int) ((2 : Nat) : Int))) = _
    rw [fm]
  rw [e1, e2, Option.bind_some, Option.bind_some]
  show (vEq (nV _) (nV 4)).bind (fun a => if a = true then (vEq (nV _) (nV 1)).bind (fun a => if a = true then some true else some false) else some false) = _
  rw [vEq_n, vEq_n, ift, Option.bind_some]
  unfold dxB
  cases decide (m n / 4096 % 16 = 4) <;> rfl

noncomputable def stTab : List (List Nat) := [[42, 48, 49], [42, 48], [42, 49], [42], [61, 48], [61, 49], [61]]
theorem stTab7 {P : List Nat → Prop} (h1 : P [42, 48, 49]) (h2 : P [42, 48]) (h3 : P [42, 49]) (h4 : P [42]) (h5 : P [61, 48]) (h6 : P [61, 49]) (h7 : P [61]) : ∀ t ∈ stTab, P t := fun t ht => by
  simp only [stTab, List.mem_cons, List.not_mem_nil, or_false] at ht
  rcases ht with rfl | rfl | rfl | rfl | rfl | rfl | rfl <;> assumption
theorem st_ok {t : List Nat} (ht : t ∈ plTab ∨ t ∈ glTab) : stepOf t = [46] ∨ stepOf t = [46, 46] ∨ stepOf t ∈ stTab := by
  rcases ht with ht | ht
  · revert t; decide
  · revert t; decide
theorem dKids_at (m : Nat → Nat) (steps : V) (who : Nat) (found acc : List Nat) (d7 : Slot) : ∀ st ∈ stTab, ∀ n, 1 ≤ n ∧ n ≤ 7 → dKids (dS m steps who st found acc n d7) = some (.lst ((outS st n).map nV)) := by
  refine stTab7 ?_ ?_ ?_ ?_ ?_ ?_ ?_ <;> refine to7 ?_ ?_ ?_ ?_ ?_ ?_ ?_ <;> kernel_rfl
theorem dDot_no : ∀ st ∈ stTab, dDot (dS m steps who st found acc n d7) = some false := by
  refine stTab7 ?_ ?_ ?_ ?_ ?_ ?_ ?_ <;> kernel_rfl
theorem dDots_no : ∀ st ∈ stTab, dDots (dS m steps who st found acc n d7) = some false := by
  refine stTab7 ?_ ?_ ?_ ?_ ?_ ?_ ?_ <;> kernel_rfl
theorem rt_lt (who x : Nat) : rt who x < 8 := by
  unfold rt; split <;> exact Nat.mod_lt _ (by decide)
theorem dRd_at : ∀ st ∈ stTab, dRd (dS m steps who st found acc n (.val (nV (rt who (m n))))) = some (decide (st.head? ≠ some 42) || rB m who n) := by
  have hr : (some (decide (((rt who (m n) : Nat) : Int) ≥ 4))).bind (fun a => if a = true then some true else some false) = some (rB m who n) := by
    rw [ift]
    have := rt_lt who (m n)
    unfold rB
    congr 1
    rw [Bool.eq_iff_iff, decide_eq_true_eq, decide_eq_true_eq]
    omega
  have h : ∀ (st : List Nat) (b : Bool), ((vIdx (.str (tx st)) (.int 0)).bind fun a => (some (V.str (Str.ofString "="))).bind fun b => vCmp CmpOp.Eq a b) = some b → dRd (dS m steps who st found acc n (.val (nV (rt who (m n))))) = some (b || rB m who n) := fun st b hb => by
    show ((vIdx (.str (tx st)) (.int 0)).bind fun a => (some (V.str (Str.ofString "="))).bind fun b => vCmp CmpOp.Eq a b).bind (fun a => if a = true then some true else (some (decide (((rt who (m n) : Nat) : Int) ≥ 4))).bind (fun a => if a = true then some true else some false)) = _
    rw [hb, hr]
    cases b <;> rfl
  refine stTab7 ?_ ?_ ?_ ?_ ?_ ?_ ?_ <;> exact h _ _ (by kernel_rfl)
end Mine
end

section
namespace Mine
open PySem PySem.Calls PySem.Spec PySem.W PyProof.Rows
set_option maxRecDepth 100000
variable {m : Nat → Nat} {steps : V} {who n : Nat} {st found acc : List Nat} {d7 : Slot}

theorem ddot_yes : dDot (dS m steps who [46] found acc n d7) = some true := by kernel_rfl
theorem ddots_yes : dDots (dS m steps who [46, 46] found acc n d7) = some true := by kernel_rfl
theorem ddot_no2 : dDot (dS m steps who [46, 46] found acc n d7) = some false := by kernel_rfl
theorem dUp_at : ∀ n, 1 ≤ n ∧ n ≤ 7 → dUp (dS m steps who st found acc n d7) = some (nV (max (n / 2) 1)) :=
  to7 (by kernel_rfl) (by kernel_rfl) (by kernel_rfl) (by kernel_rfl) (by kernel_rfl) (by kernel_rfl) (by kernel_rfl)
theorem app5 {p : List Slot → Option V} {j : Nat} (h : acc.length < 4096) (e : p (dS m steps who st found acc n d7) = some (nV j)) :
    pApp 5 p (dS m steps who st found acc n d7) = some (.next, dS m steps who st found (acc ++ [j]) n d7) := by
  rw [pApp_e (l := acc.map nV) rfl e (by simpa using h)]
  simp [dS, List.set]
theorem dStep_at (hst : st = [46] ∨ st = [46, 46] ∨ st ∈ stTab) (hn : 1 ≤ n ∧ n ≤ 7) (h : acc.length < 4000) (ho : (outS st n).length ≤ 2) :
    dStep (dS m steps who st found acc n (.val (nV (rt who (m n))))) = some (.next, dS m steps who st found (acc ++ (if decide (st.head? ≠ some 42) || rB m who n then outS st n else [])) n (.val (nV (rt who (m n))))) := by
  rcases hst with rfl | rfl | hst
  · exact pSeq_n (pIf_t ddot_yes (pSeq_n (app5 (by omega) rfl) rfl)) rfl
  · have e : dStep (dS m steps who [46, 46] found acc n (.val (nV (rt who (m n))))) = some (.next, dS m steps who [46, 46] found (acc ++ [max (n / 2) 1]) n (.val (nV (rt who (m n))))) :=
      pSeq_n (pIf_f ddot_no2 (pSeq_n (pIf_t ddots_yes (pSeq_n (app5 (by omega) (dUp_at n hn)) rfl)) rfl)) rfl
    exact e
  · have h1 := dDot_no (m := m) (steps := steps) (who := who) (n := n) (found := found) (acc := acc) (d7 := .val (nV (rt who (m n)))) st hst
    have h2 := dDots_no (m := m) (steps := steps) (who := who) (n := n) (found := found) (acc := acc) (d7 := .val (nV (rt who (m n)))) st hst
    have h3 := dRd_at (m := m) (steps := steps) (who := who) (n := n) (found := found) (acc := acc) st hst
    cases hb : decide (st.head? ≠ some 42) || rB m who n with
    | false =>
      rw [hb] at h3
      refine pSeq_n (pIf_f h1 (pSeq_n (pIf_f h2 (pSeq_n (pIf_f h3 rfl) rfl)) rfl)) ?_
      simp
    | true =>
      rw [hb] at h3
      have hk := dKids_at m steps who found acc (.val (nV (rt who (m n)))) st hst n hn
      have he := pExt_e (i := 5) (ρ := dS m steps who st found acc n (.val (nV (rt who (m n))))) (l := acc.map nV) (l2 := (outS st n).map nV) rfl hk (by simp; omega)
      refine pSeq_n (pIf_f h1 (pSeq_n (pIf_f h2 (pSeq_n (pIf_t h3 (pSeq_n he rfl)) rfl)) rfl)) ?_
      rw [← List.map_append]; rfl
theorem dBody_at (hw : who < 3) (hst : st = [46] ∨ st = [46, 46] ∨ st ∈ stTab) (hn : 1 ≤ n ∧ n ≤ 7) (h : acc.length < 4000) (ho : (outS st n).length ≤ 2) :
    dBody (dS m steps who st found acc n d7) = some (.next, dS m steps who st found (acc ++ goesS m who st n) n (.val (nV (rt who (m n))))) := by
  refine pSeq_n (ρ1 := dS m steps who st found acc n (.val (nV (rt who (m n))))) (pSet_i (dR_at hw hn) rfl) ?_
  have hc := dC_at (m := m) (steps := steps) (who := who) (st := st) (found := found) (acc := acc) hn
  unfold goesS
  cases hd : dxB m who n with
  | false =>
    rw [hd] at hc
    refine pSeq_n (pIf_f hc rfl) ?_
    simp
  | true =>
    rw [hd] at hc
    exact pSeq_n (pIf_t hc (dStep_at hst hn h ho)) rfl

noncomputable abbrev eS (m : Nat → Nat) (steps : V) (who : Nat) (d4 : Slot) (found : List Nat) (d5 d6 d7 : Slot) : List Slot :=
  [.val (mdV m), .val steps, .val (nV who), .val (.lst (found.map nV)), d4, d5, d6, d7, .unb, .unb, .unb, .unb]
theorem dInner_at {d6 : Slot} (hw : who < 3) (hst : st = [46] ∨ st = [46, 46] ∨ st ∈ stTab) (ho : ∀ n, 1 ≤ n ∧ n ≤ 7 → (outS st n).length ≤ 2) (hf : ∀ n ∈ found, 1 ≤ n ∧ n ≤ 7) (hl : found.length ≤ 1000) :
    ∃ d6' d7', pFor (paN 6) dBody (fun ρ => some (PF.next, ρ)) (found.map nV) (eS m steps who (.val (.str (tx st))) found (.own []) d6 d7)
      = some (.next, eS m steps who (.val (.str (tx st))) found (.own ((found.flatMap (goesS m who st)).map nV)) d6' d7') := by
  have hg : ∀ n, 1 ≤ n ∧ n ≤ 7 → (goesS m who st n).length ≤ 2 := fun n hn => by
    unfold goesS
    split
    · split
      · exact ho n hn
      · simp
    · simp
  obtain ⟨ρ', e, ⟨d', d'', hs⟩, _⟩ := pFor_inv (pa := paN 6) (body := dBody) nV
    (fun a ρ => ∃ d' d'', ρ = eS m steps who (.val (.str (tx st))) found (.own (a.map nV)) d' d'') (fun a j => a ++ goesS m who st j)
    (fun a bs => (∀ j ∈ bs, 1 ≤ j ∧ j ≤ 7) ∧ a.length + 2 * bs.length ≤ 2000) (by
      rintro a j bs ρ ⟨hj, hl⟩ ⟨d, d2, rfl⟩
      simp only [List.length_cons] at hl
      have hj1 := hj j (by simp)
      refine ⟨dS m steps who st found a j (clr 6 d2), _, rfl, dBody_at hw hst hj1 (by omega) (ho j hj1), ⟨_, _, rfl⟩, fun i hi => hj i (by simp [hi]), ?_⟩
      have := hg j hj1
      simp only [List.length_append]; omega)
    found [] (eS m steps who (.val (.str (tx st))) found (.own []) d6 d7) ⟨hf, by simp; omega⟩ ⟨d6, d7, rfl⟩
  refine ⟨d', d'', ?_⟩
  have hfl : ∀ (l acc : List Nat), l.foldl (fun a j => a ++ goesS m who st j) acc = acc ++ l.flatMap (goesS m who st) := by
    intro l
    induction l with
    | nil => intro acc; simp
    | cons a l ih => intro acc; rw [List.foldl_cons, ih]; simp
  rw [hfl, List.nil_append] at hs
  rw [e, hs]
noncomputable def dOuter : PS := pSeq (pNew 5 fun x => some []) (pSeq (fun ρ => ((getv 3 ρ).bind itemsOf).bind fun vs => pFor (paN 6) dBody (fun ρ => some (PF.next, ρ)) vs ρ) (pSeq (fun ρ => pSet 3 (getv 5) (frz 5 ρ)) fun ρ => some (PF.next, ρ)))
theorem dOuter_at {d5 d6 : Slot} (hw : who < 3) (hst : st = [46] ∨ st = [46, 46] ∨ st ∈ stTab) (ho : ∀ n, 1 ≤ n ∧ n ≤ 7 → (outS st n).length ≤ 2) (hf : ∀ n ∈ found, 1 ≤ n ∧ n ≤ 7) (hl : found.length ≤ 1000) :
    ∃ e5 e6 e7, dOuter (eS m steps who (.val (.str (tx st))) found d5 d6 d7) = some (.next, eS m steps who (.val (.str (tx st))) (found.flatMap (goesS m who st)) e5 e6 e7) := by
  obtain ⟨e6, e7, e⟩ := dInner_at (m := m) (steps := steps) (d6 := clr 5 d6) (d7 := clr 5 d7) hw hst ho hf hl
  refine ⟨.val (.lst ((found.flatMap (goesS m who st)).map nV)), clr 3 e6, clr 3 e7, ?_⟩
  refine pSeq_n (ρ1 := eS m steps who (.val (.str (tx st))) found (.own []) (clr 5 d6) (clr 5 d7)) rfl ?_
  exact pSeq_n e (pSeq_n rfl rfl)
theorem flat_eq {t : List Nat} (ht : t ∈ plTab ∨ t ∈ glTab) (l : List Nat) : l.flatMap (goes m who t) = l.flatMap (goesS m who (stepOf t)) := by
  have : goes m who t = goesS m who (stepOf t) := funext fun n => goes_eq m who ht n
  rw [this]
theorem dues_at (hw : who < 3) : ∀ (ts : List (List Nat)) (found : List Nat) (d4 d5 d6 d7 : Slot), (∀ t ∈ ts, t ∈ plTab ∨ t ∈ glTab) → (∀ n ∈ found, 1 ≤ n ∧ n ≤ 7) → found.length * 2 ^ ts.length ≤ 1000 →
    ∃ e4 e5 e6 e7, pFor (paN 4) dOuter (fun ρ => some (PF.next, ρ)) (ts.map fun t => .str (tx (stepOf t))) (eS m steps who d4 found d5 d6 d7) = some (.next, eS m steps who e4 (finds m who ts found) e5 e6 e7)
  | [], found, d4, d5, d6, d7, _, _, _ => ⟨d4, d5, d6, d7, rfl⟩
  | t :: ts, found, d4, d5, d6, d7, ht, hf, hl => by
    have ht1 := ht t (by simp)
    have hp : 1 ≤ 2 ^ ts.length := Nat.one_le_two_pow
    rw [List.length_cons, Nat.pow_succ, Nat.mul_comm (2 ^ ts.length) 2, ← Nat.mul_assoc] at hl
    have hl1 : found.length ≤ 1000 := by
      have : found.length * 2 * 1 ≤ found.length * 2 * 2 ^ ts.length := Nat.mul_le_mul_left _ hp
      omega
    obtain ⟨e5, e6, e7, e⟩ := dOuter_at (m := m) (steps := steps) (d5 := clr 4 d5) (d6 := clr 4 d6) (d7 := clr 4 d7) hw (st_ok ht1) (fun n hn => (outS_few t ht1 n hn).1) hf hl1
    have hff := flat_few (m := m) (who := who) ht1 found hf
    rw [← flat_eq ht1] at e
    obtain ⟨f4, f5, f6, f7, f⟩ := dues_at hw ts (found.flatMap (goes m who t)) (.val (.str (tx (stepOf t)))) e5 e6 e7 (fun t h => ht t (by simp [h])) hff.2
      (Nat.le_trans (Nat.mul_le_mul_right _ hff.1) (by rw [Nat.mul_comm 2]; exact hl))
    exact ⟨f4, f5, f6, f7, pFor_c rfl e f⟩
end Mine
end

section
namespace Mine
open PySem PySem.Calls PySem.Spec PySem.W PyProof.Rows
set_option maxRecDepth 100000

noncomputable def sgL (x : Nat) : List Nat := [kch (x / 4096 % 16), rch (x / 64 % 8), wch (x / 64 % 8), xch false (x / 64 % 8) (x / 2048), rch (x / 8 % 8), wch (x / 8 % 8), xch false (x / 8 % 8) (x / 1024), rch (x % 8), wch (x % 8), xch true (x % 8) (x / 512)]
theorem sg_tx (x : Nat) : sg x = tx (sgL x) := rfl
noncomputable def mark (m : Nat → Nat) (who n : Nat) : Bool := decide (n > 1) && (decide (rt who (m (n / 2)) / 2 % 2 = 1) && (decide (rt who (m (n / 2)) % 2 = 1) && (decide (who = 0) || decide (m (n / 2) / 512 % 2 = 0))))
noncomputable def rowL (m : Nat → Nat) (who n : Nat) : List Nat := sgL (m n) ++ [32] ++ pl n ++ (if mark m who n then [32, 45] else [])
noncomputable abbrev rowT (m : Nat → Nat) (who n : Nat) : V := .str (tx (rowL m who n))
theorem pl_len (n : Nat) : (pl n).length ≤ 6 := by
  unfold pl; split <;> decide

noncomputable def tRow : List Slot → Option V := fun ρ => (((getv 1 ρ).bind fun a => (getv 5 ρ).bind fun b => vIdx a b).bind fun a => (some (V.str (Str.ofString " "))).bind fun b => vBin Operator.Add a b).bind fun a => (getv 5 ρ).bind fun b => vBin Operator.Add a b
noncomputable def tAb : List Slot → Option V := fun ρ => (getv 1 ρ).bind fun a => (((getv 5 ρ).bind fun a => Option.map (fun x => a :: x) (some [])).bind PF_dirname).bind fun b => vIdx a b
noncomputable def tMk : List Slot → Option Bool := fun ρ => ((getv 5 ρ).bind fun a => (some (V.str (Str.ofString "/"))).bind fun b => vCmp CmpOp.NotEq a b).bind fun a => if a = true then
  (((getv 7 ρ).bind fun a => (((some (V.int 3)).bind fun a => (getv 3 ρ).bind fun b => vBin Operator.Mult a b).bind fun a => (some (V.int 2)).bind fun b => vBin Operator.Add a b).bind fun b => vIdx a b).bind fun a => (some (V.str (Str.ofString "w"))).bind fun b => vCmp CmpOp.Eq a b).bind fun a => if a = true then
    (((getv 7 ρ).bind fun a => (((some (V.int 3)).bind fun a => (getv 3 ρ).bind fun b => vBin Operator.Mult a b).bind fun a => (some (V.int 3)).bind fun b => vBin Operator.Add a b).bind fun b => vIdx a b).bind fun a => (some (V.str (Str.ofString "xst"))).bind fun b => vCmp CmpOp.In a b).bind fun a => if a = true then
      (((getv 3 ρ).bind fun a => (some (V.int 0)).bind fun b => vCmp CmpOp.Eq a b).bind fun a => if a = true then some true else (((getv 7 ρ).bind fun a => (some (V.int 9)).bind fun b => vIdx a b).bind fun a => (some (V.str (Str.ofString "tT"))).bind fun b => vCmp CmpOp.NotIn a b).bind fun a => if a = true then some true else some false).bind fun a => if a = true then some true else some false
      else some false else some false else some false
noncomputable def tBody : PS := pSeq (pSet 6 tRow) (pSeq (pSet 7 tAb) (pSeq (pIf tMk (pSeq (pAug 6 Operator.Add fun x => some (V.str (Str.ofString " -"))) fun ρ => some (PF.next, ρ)) fun ρ => some (PF.next, ρ)) (pSeq (pApp 4 (getv 6)) fun ρ => some (PF.next, ρ))))

variable {m : Nat → Nat} {who n : Nat} {pth : V} {rows : List V} {d6 d7 : Slot}
noncomputable abbrev rS (m : Nat → Nat) (pth : V) (who : Nat) (rows : List V) (n : Nat) (d6 d7 : Slot) : List Slot := [.val (wd m), .val (sd m), .val pth, .val (nV who), .own rows, .val (plV n), d6, d7]
theorem blank_tx : Str.ofString " " = tx [32] := by kernel_rfl
theorem mark_tx : Str.ofString " -" = tx [32, 45] := by kernel_rfl
theorem sgL_len (x : Nat) : (sgL x).length = 10 := rfl
theorem tRow_at (hn : 1 ≤ n ∧ n ≤ 7) : tRow (rS m pth who rows n d6 d7) = some (.str (tx (sgL (m n) ++ [32] ++ pl n))) := by
  show ((vIdx (sd m) (plV n)).bind fun a => (some (V.str (Str.ofString " "))).bind fun b => vBin Operator.Add a b).bind (fun a => vBin Operator.Add a (plV n)) = _
  have := pl_len n
  rw [sd_at m n hn, Option.bind_some, Option.bind_some, blank_tx, sg_tx]
  show (vAdd (.str (tx (sgL (m n)))) (.str (tx [32]))).bind (fun a => vAdd a (plV n)) = _
  rw [add_tx (by rw [sgL_len]; decide), Option.bind_some, add_tx (by rw [List.length_append, sgL_len]; simp; omega)]
theorem dir_at : ∀ n, 1 ≤ n ∧ n ≤ 7 → PF_dirname [plV n] = some (plV (max (n / 2) 1)) :=
  to7 (by kernel_rfl) (by kernel_rfl) (by kernel_rfl) (by kernel_rfl) (by kernel_rfl) (by kernel_rfl) (by kernel_rfl)
theorem tAb_at (hn : 1 ≤ n ∧ n ≤ 7) : tAb (rS m pth who rows n d6 d7) = some (.str (sg (m (max (n / 2) 1)))) := by
  show (PF_dirname [plV n]).bind (fun b => vIdx (sd m) b) = _
  rw [dir_at n hn, Option.bind_some, sd_at m _ (by omega)]
theorem root_at : ∀ n, 1 ≤ n ∧ n ≤ 7 → vCmp .NotEq (plV n) (.str (Str.ofString "/")) = some (decide (n > 1)) :=
  to7 (by kernel_rfl) (by kernel_rfl) (by kernel_rfl) (by kernel_rfl) (by kernel_rfl) (by kernel_rfl) (by kernel_rfl)
theorem who_0 (who : Nat) : vCmp .Eq (nV who) (.int 0) = some (decide (who = 0)) := vEq_n who 0
theorem tMk_at (hw : who < 3) (hn : 1 ≤ n ∧ n ≤ 7) : tMk (rS m pth who rows n d6 (.val (.str (sg (m (max (n / 2) 1)))))) = some (mark m who n) := by
  show (vCmp .NotEq (plV n) (.str (Str.ofString "/"))).bind (fun a => if a = true then
    (((at3 2 who).bind fun b => vIdx (.str (sg (m (max (n / 2) 1)))) b).bind fun a => vCmp CmpOp.Eq a (V.str (Str.ofString "w"))).bind fun a => if a = true then
      (((at3 3 who).bind fun b => vIdx (.str (sg (m (max (n / 2) 1)))) b).bind fun a => vCmp CmpOp.In a (V.str (Str.ofString "xst"))).bind fun a => if a = true then
        ((vCmp CmpOp.Eq (nV who) (V.int 0)).bind fun a => if a = true then some true else ((vIdx (.str (sg (m (max (n / 2) 1)))) (V.int 9)).bind fun a => vCmp CmpOp.NotIn a (V.str (Str.ofString "tT"))).bind fun a => if a = true then some true else some false).bind fun a => if a = true then some true else some false
        else some false else some false else some false) = _
  rw [root_at n hn, Option.bind_some, sg_w _ who hw, sg_x _ who hw, sg_9, Option.bind_some, Option.bind_some, Option.bind_some, w_eq, x_in, t_not, who_0, ift, ift, Option.bind_some, Option.bind_some, Option.bind_some]
  unfold mark
  by_cases h1 : n > 1
  · have e : max (n / 2) 1 = n / 2 := by omega
    rw [e, decide_eq_true h1]
    cases decide (rt who (m (n / 2)) / 2 % 2 = 1) <;> cases decide (rt who (m (n / 2)) % 2 = 1) <;> cases decide (who = 0) <;> rfl
  · rw [decide_eq_false h1]; rfl
theorem tBody_at (hw : who < 3) (hn : 1 ≤ n ∧ n ≤ 7) (h : rows.length < 4096) : ∃ d6' d7', tBody (rS m pth who rows n d6 d7) = some (.next, rS m pth who (rows ++ [rowT m who n]) n d6' d7') := by
  refine ⟨.val (rowT m who n), .val (.str (sg (m (max (n / 2) 1)))), ?_⟩
  refine pSeq_n (ρ1 := rS m pth who rows n (.val (.str (tx (sgL (m n) ++ [32] ++ pl n)))) (clr 6 d7)) (pSet_i (tRow_at hn) rfl) ?_
  refine pSeq_n (ρ1 := rS m pth who rows n (.val (.str (tx (sgL (m n) ++ [32] ++ pl n)))) (.val (.str (sg (m (max (n / 2) 1)))))) (pSet_i (tAb_at hn) rfl) ?_
  refine pSeq_n (ρ1 := rS m pth who rows n (.val (rowT m who n)) (.val (.str (sg (m (max (n / 2) 1)))))) ?_ ?_
  · have hm := tMk_at (m := m) (pth := pth) (rows := rows) (d6 := .val (.str (tx (sgL (m n) ++ [32] ++ pl n)))) hw hn
    cases hb : mark m who n with
    | false =>
      rw [hb] at hm
      refine pIf_f hm ?_
      unfold rowT rowL
      rw [hb]; simp
    | true =>
      rw [hb] at hm
      refine pIf_t hm (pSeq_n (ρ1 := rS m pth who rows n (.val (rowT m who n)) (.val (.str (sg (m (max (n / 2) 1)))))) ?_ rfl)
      have := pl_len n
      refine pAug_i (a := .str (tx (sgL (m n) ++ [32] ++ pl n))) (b := .str (tx [32, 45])) (v := .str (tx (sgL (m n) ++ [32] ++ pl n ++ [32, 45]))) rfl (by rw [mark_tx]) (add_tx (by simp [sgL_len]; omega)) ?_
      unfold rowT rowL
      rw [hb]; rfl
  · exact pSeq_n (pApp_e rfl rfl h) rfl
theorem told_v {mm k : Nat} {p c : List Nat} {steps ts : List (List Nat)} {slash : Bool} (h : Inv mm p steps slash ts c k) (hp : p.length ≤ 4000) (hm : mm ≤ 4) (hw : who < 3) :
    PF__law_told [wd m, sd m, .str (tx p), nV who] = some (.lst ((finds m who (ts.reverse ++ (if slash then [[]] else [])) [1]).map (rowT m who))) := by
  obtain ⟨hf, hl, hin⟩ := found_v (m := m) h hp hm hw
  generalize finds m who (ts.reverse ++ (if slash then [[]] else [])) [1] = fs at hf hl hin ⊢
  obtain ⟨ρ', e, ⟨d5, d6, d7, hs⟩, _⟩ := pFor_inv (pa := paN 5) (body := tBody) plV
    (fun a ρ => ∃ d5 d6 d7, ρ = [.val (wd m), .val (sd m), .val (.str (tx p)), .val (nV who), .own (a.map (rowT m who)), d5, d6, d7]) (fun a j => a ++ [j])
    (fun a bs => (∀ j ∈ bs, 1 ≤ j ∧ j ≤ 7) ∧ a.length + bs.length ≤ 2000) (by
      rintro a j bs ρ ⟨hj, hl⟩ ⟨d5, d6, d7, rfl⟩
      simp only [List.length_cons] at hl
      have hj1 := hj j (by simp)
      obtain ⟨e6, e7, e⟩ := tBody_at (m := m) (pth := .str (tx p)) (rows := a.map (rowT m who)) (d6 := clr 5 d6) (d7 := clr 5 d7) hw hj1 (by rw [List.length_map]; omega)
      refine ⟨rS m (.str (tx p)) who (a.map (rowT m who)) j (clr 5 d6) (clr 5 d7), _, rfl, e, ⟨_, e6, e7, by rw [List.map_append]; rfl⟩, fun i hi => hj i (by simp [hi]), ?_⟩
      simp only [List.length_append, List.length_singleton]; omega)
    fs [] [.val (wd m), .val (sd m), .val (.str (tx p)), .val (nV who), .own [], .unb, .unb, .unb] ⟨hin, by simp; omega⟩ ⟨_, _, _, rfl⟩
  have hfl : ∀ (l acc : List Nat), l.foldl (fun a j => a ++ [j]) acc = acc ++ l := by
    intro l
    induction l with
    | nil => intro acc; simp
    | cons a l ih => intro acc; rw [List.foldl_cons, ih]; simp
  rw [hfl, List.nil_append] at hs
  rw [hs] at e
  unfold PF__law_told BD__law_told; dsimp only
  refine pfun_e (ρ := frz 4 [.val (wd m), .val (sd m), .val (.str (tx p)), .val (nV who), .own (fs.map (rowT m who)), d5, d6, d7]) rfl ?_
  refine pSeq_n (ρ1 := [.val (wd m), .val (sd m), .val (.str (tx p)), .val (nV who), .own [], .unb, .unb, .unb]) rfl ?_
  refine pSeq_n (bind_e (x := fs.map plV) ?_ ((congrArg (fun B => pFor (paN 5) B (fun ρ => some (PF.next, ρ)) _ _) (by unfold tBody tRow tAb tMk; rfl : _ = tBody)).trans e)) ?_
  · show (PF__law_found [wd m, sd m, .str (tx p), nV who]).bind itemsOf = _
    rw [hf]; rfl
  · exact pSeq_r rfl
end Mine
end

section
namespace Mine
open PySem PySem.Calls PySem.Spec PySem.W PyProof.Rows
set_option maxRecDepth 100000

noncomputable def uPath : PS := pWhile (fun ρ => (getv 10 ρ).bind fun a => (some (V.int 1)).bind fun b => vCmp CmpOp.Gt a b)
  (pSeq (pSet 9 fun ρ => ((((some (V.str (Str.ofString "/a"))).bind fun a => Option.map (fun x => a :: x) ((some (V.str (Str.ofString "/ab"))).bind fun a => Option.map (fun x => a :: x) (some []))).bind lstV).bind fun a => ((getv 10 ρ).bind fun a => (some (V.int 2)).bind fun b => vBin Operator.Mod a b).bind fun b => vIdx a b).bind fun a => (getv 9 ρ).bind fun b => vBin Operator.Add a b)
    (pSeq (pAug 10 Operator.FloorDiv fun x => some (V.int 2)) fun ρ => some (PF.next, ρ))) (fun ρ => some (PF.next, ρ)) 64
noncomputable def uRow : List Slot → Option V := fun ρ => (((((getv 0 ρ).bind fun a => (getv 6 ρ).bind fun b => vIdx a b).bind fun a => Option.map (fun x => a :: x) (some [])).bind PF__law_signs).bind fun a => (some (V.str (Str.ofString " "))).bind fun b => vBin Operator.Add a b).bind
  fun a => (((getv 6 ρ).bind fun a => (some (V.int 1)).bind fun b => vCmp CmpOp.Gt a b).bind fun c => if c = true then getv 9 ρ else some (V.str (Str.ofString "/"))).bind fun b => vBin Operator.Add a b
noncomputable def uRt : List Slot → Option V := fun ρ => (((getv 0 ρ).bind fun a => ((getv 6 ρ).bind fun a => (some (V.int 2)).bind fun b => vBin Operator.FloorDiv a b).bind fun b => vIdx a b).bind fun a => ((some (V.int 8)).bind fun a => ((some (V.int 2)).bind fun a => (getv 2 ρ).bind fun b => vBin Operator.Sub a b).bind fun b => vBin Operator.Pow a b).bind fun b => vBin Operator.FloorDiv a b).bind fun a => (some (V.int 8)).bind fun b => vBin Operator.Mod a b
noncomputable def uMk : List Slot → Option Bool := fun ρ => ((getv 6 ρ).bind fun a => (some (V.int 1)).bind fun b => vCmp CmpOp.Gt a b).bind fun a => if a = true then
  ((getv 7 ρ).bind fun a => (((some (V.int 3)).bind fun a => Option.map (fun x => a :: x) ((some (V.int 7)).bind fun a => Option.map (fun x => a :: x) (some []))).bind lstV).bind fun b => vCmp CmpOp.In a b).bind fun a => if a = true then
    (((getv 2 ρ).bind fun a => (some (V.int 0)).bind fun b => vCmp CmpOp.Eq a b).bind fun a => if a = true then some true else
      (((((getv 0 ρ).bind fun a => ((getv 6 ρ).bind fun a => (some (V.int 2)).bind fun b => vBin Operator.FloorDiv a b).bind fun b => vIdx a b).bind fun a => (some (V.int 512)).bind fun b => vBin Operator.FloorDiv a b).bind fun a => (some (V.int 2)).bind fun b => vBin Operator.Mod a b).bind fun a => (some (V.int 0)).bind fun b => vCmp CmpOp.Eq a b).bind fun a => if a = true then some true else some false).bind fun a => if a = true then some true else some false
    else some false else some false
noncomputable def uBody : PS := pSeq (pSet 9 fun x => some (V.str (Str.ofString ""))) (pSeq (pSet 10 (getv 6)) (pSeq uPath (pSeq (pSet 11 uRow) (pSeq (pSet 7 uRt) (pSeq (pIf uMk (pSeq (pAug 11 Operator.Add fun x => some (V.str (Str.ofString " -"))) fun ρ => some (PF.next, ρ)) fun ρ => some (PF.next, ρ)) (pSeq (pApp 8 (getv 11)) fun ρ => some (PF.next, ρ)))))))

variable {m : Nat → Nat} {who n : Nat} {steps fnd : V} {rows : List V} {d4 d5 d7 d9 d10 d11 : Slot}
noncomputable abbrev uS (m : Nat → Nat) (steps : V) (who : Nat) (fnd : V) (d4 d5 : Slot) (n : Nat) (d7 : Slot) (rows : List V) (d9 d10 d11 : Slot) : List Slot :=
  [.val (mdV m), .val steps, .val (nV who), .val fnd, d4, d5, .val (nV n), d7, .own rows, d9, d10, d11]
noncomputable def cl (n : Nat) (d : Slot) : Slot := if n = 1 then d else if n < 4 then clr 10 (clr 9 d) else clr 10 (clr 9 (clr 10 (clr 9 d)))
theorem uPath_at : ∀ n, 1 ≤ n ∧ n ≤ 7 → uPath (uS m steps who fnd d4 d5 n d7 rows (.val (.str (tx []))) (.val (nV n)) d11) = some (.next, uS m steps who fnd (cl n d4) (cl n d5) n (cl n d7) rows (.val (.str (tx (if n = 1 then [] else pl n)))) (.val (nV 1)) (cl n d11)) :=
  to7 (by kernel_rfl) (by kernel_rfl) (by kernel_rfl) (by kernel_rfl) (by kernel_rfl) (by kernel_rfl) (by kernel_rfl)
theorem sl_tx1 : Str.ofString "/" = tx (pl 1) := by kernel_rfl
theorem gt_one : ∀ n, 1 ≤ n ∧ n ≤ 7 → vCmp .Gt (nV n) (.int 1) = some (decide (n > 1)) :=
  to7 (by kernel_rfl) (by kernel_rfl) (by kernel_rfl) (by kernel_rfl) (by kernel_rfl) (by kernel_rfl) (by kernel_rfl)
theorem uRow_at (hn : 1 ≤ n ∧ n ≤ 7) : uRow (uS m steps who fnd d4 d5 n d7 rows (.val (.str (tx (if n = 1 then [] else pl n)))) d10 d11) = some (.str (tx (sgL (m n) ++ [32] ++ pl n))) := by
  show ((((vIdx (mdV m) (nV n)).bind fun a => Option.map (fun x => a :: x) (some [])).bind PF__law_signs).bind fun a => (some (V.str (Str.ofString " "))).bind fun b => vBin Operator.Add a b).bind
    (fun a => ((vCmp CmpOp.Gt (nV n) (V.int 1)).bind fun c => if c = true then some (V.str (tx (if n = 1 then [] else pl n))) else some (V.str (Str.ofString "/"))).bind fun b => vBin Operator.Add a b) = _
  have hl := pl_len n
  rw [md_at m n hn, gt_one n hn, blank_tx, sl_tx1]
  show ((PF__law_signs [nV (m n)]).bind fun a => (some (V.str (tx [32]))).bind fun b => vBin Operator.Add a b).bind _ = _
  rw [signs_v, Option.bind_some, Option.bind_some, sg_tx, Option.bind_some]
  have hp : (if decide (n > 1) = true then some (V.str (tx (if n = 1 then [] else pl n))) else some (V.str (tx (pl 1)))) = some (plV n) := by
    by_cases h : n > 1
    · rw [decide_eq_true h, if_pos rfl, if_neg (by omega)]
    · have : n = 1 := by omega
      rw [this]; rfl
  rw [hp]
  show (vAdd (.str (tx (sgL (m n)))) (.str (tx [32]))).bind (fun a => vAdd a (plV n)) = _
  rw [add_tx (by rw [sgL_len]; decide), Option.bind_some, add_tx (by rw [List.length_append, sgL_len]; simp; omega)]
theorem half_idx (hn : 1 ≤ n ∧ n ≤ 7) : (((some (nV n)).bind fun a => (some (V.int 2)).bind fun b => vBin Operator.FloorDiv a b).bind fun b => vIdx (mdV m) b) = some (nV (m0 m (n / 2))) := md_half m n hn
theorem uRt_at (hw : who < 3) (hn : 1 ≤ n ∧ n ≤ 7) : uRt (uS m steps who fnd d4 d5 n d7 rows d9 d10 d11) = some (nV (rt who (m0 m (n / 2)))) := by
  show rgt (((some (nV n)).bind fun a => (some (V.int 2)).bind fun b => vBin Operator.FloorDiv a b).bind fun b => vIdx (mdV m) b) who = _
  rw [half_idx hn, rgt_at _ who hw]
theorem in_37 : ∀ r, r < 8 → vIn (nV r) (.lst [.int 3, .int 7]) = some (decide (r / 2 % 2 = 1) && decide (r % 2 = 1)) :=
  below8 (by kernel_rfl) (by kernel_rfl) (by kernel_rfl) (by kernel_rfl) (by kernel_rfl) (by kernel_rfl) (by kernel_rfl) (by kernel_rfl)
theorem uMk_at (hn : 1 ≤ n ∧ n ≤ 7) : uMk (uS m steps who fnd d4 d5 n (.val (nV (rt who (m0 m (n / 2))))) rows d9 d10 d11) = some (mark m who n) := by
  show (vCmp CmpOp.Gt (nV n) (V.int 1)).bind (fun a => if a = true then
    (vIn (nV (rt who (m0 m (n / 2)))) (.lst [.int 3, .int 7])).bind fun a => if a = true then
      ((vCmp CmpOp.Eq (nV who) (V.int 0)).bind fun a => if a = true then some true else
        ((((((some (nV n)).bind fun a => (some (V.int 2)).bind fun b => vBin Operator.FloorDiv a b).bind fun b => vIdx (mdV m) b).bind fun a => (some (V.int 512)).bind fun b => vBin Operator.FloorDiv a b).bind fun a => (some (V.int 2)).bind fun b => vBin Operator.Mod a b).bind fun a => (some (V.int 0)).bind fun b => vCmp CmpOp.Eq a b).bind fun a => if a = true then some true else some false).bind fun a => if a = true then some true else some false
      else some false else some false) = _
  rw [gt_one n hn, Option.bind_some, in_37 _ (rt_lt _ _), half_idx hn, who_0]
  have e1 : (((some (nV (m0 m (n / 2)))).bind fun a => (some (V.int 512)).bind fun b => vBin Operator.FloorDiv a b).bind fun a => (some (V.int 2)).bind fun b => vBin Operator.Mod a b) = some (nV (m0 m (n / 2) / 512 % 2)) := by
    show some (V.int (Int.fmod (Int.fdiv (m0 m (n / 2) : Int) ((512 : Nat) : Int)) ((2 : Nat) : Int))) = _
    rw [fd, fm]
  rw [e1, Option.bind_some, Option.bind_some, Option.bind_some, Option.bind_some]
  show (if decide (n > 1) = true then (if _ = true then ((if decide (who = 0) = true then some true else (vEq (nV _) (nV 0)).bind fun a => if a = true then some true else some false).bind fun a => if a = true then some true else some false) else some false) else some false) = _
  rw [vEq_n, ift, ift]
  unfold mark
  by_cases h1 : n > 1
  · have e : m0 m (n / 2) = m (n / 2) := by unfold m0; rw [if_neg (by omega)]
    rw [e, decide_eq_true h1]
    cases decide (rt who (m (n / 2)) / 2 % 2 = 1) <;> cases decide (rt who (m (n / 2)) % 2 = 1) <;> cases decide (who = 0) <;> rfl
  · rw [decide_eq_false h1]; rfl
theorem uIf_at {p9 p10 : V} (hn : 1 ≤ n ∧ n ≤ 7) : ∃ e4 e5, pIf uMk (pSeq (pAug 11 Operator.Add fun _ => some (V.str (Str.ofString " -"))) fun ρ => some (PF.next, ρ)) (fun ρ => some (PF.next, ρ))
      (uS m steps who fnd d4 d5 n (.val (nV (rt who (m0 m (n / 2))))) rows (.val p9) (.val p10) (.val (.str (tx (sgL (m n) ++ [32] ++ pl n))))) = some (.next, uS m steps who fnd e4 e5 n (.val (nV (rt who (m0 m (n / 2))))) rows (.val p9) (.val p10) (.val (rowT m who n))) := by
  have hm := uMk_at (m := m) (steps := steps) (who := who) (fnd := fnd) (d4 := d4) (d5 := d5) (rows := rows) (d9 := .val p9) (d10 := .val p10) (d11 := .val (.str (tx (sgL (m n) ++ [32] ++ pl n)))) hn
  cases hb : mark m who n with
  | false =>
    rw [hb] at hm
    refine ⟨d4, d5, pIf_f hm ?_⟩
    unfold rowT rowL
    rw [hb]; simp
  | true =>
    rw [hb] at hm
    have := pl_len n
    refine ⟨clr 11 d4, clr 11 d5, pIf_t hm (pSeq_n (ρ1 := uS m steps who fnd (clr 11 d4) (clr 11 d5) n (.val (nV (rt who (m0 m (n / 2))))) rows (.val p9) (.val p10) (.val (rowT m who n))) ?_ rfl)⟩
    refine pAug_i (a := .str (tx (sgL (m n) ++ [32] ++ pl n))) (b := .str (tx [32, 45])) (v := .str (tx (sgL (m n) ++ [32] ++ pl n ++ [32, 45]))) rfl (by rw [mark_tx]) (add_tx (by simp [sgL_len]; omega)) ?_
    unfold rowT rowL
    rw [hb]; rfl
theorem uBody_at (hw : who < 3) (hn : 1 ≤ n ∧ n ≤ 7) (h : rows.length < 4096) : ∃ e4 e5 e7 e9 e10 e11, uBody (uS m steps who fnd d4 d5 n d7 rows d9 d10 d11) = some (.next, uS m steps who fnd e4 e5 n e7 (rows ++ [rowT m who n]) e9 e10 e11) := by
  have hp := uPath_at (m := m) (steps := steps) (who := who) (fnd := fnd) (d4 := clr 10 (clr 9 d4)) (d5 := clr 10 (clr 9 d5)) (d7 := clr 10 (clr 9 d7)) (rows := rows) (d11 := clr 10 (clr 9 d11)) n hn
  generalize cl n (clr 10 (clr 9 d4)) = c4 at hp
  generalize cl n (clr 10 (clr 9 d5)) = c5 at hp
  generalize cl n (clr 10 (clr 9 d7)) = c7 at hp
  generalize cl n (clr 10 (clr 9 d11)) = c11 at hp
  have he : Str.ofString "" = tx [] := by kernel_rfl
  obtain ⟨e4, e5, hi⟩ := uIf_at (m := m) (steps := steps) (who := who) (fnd := fnd) (d4 := clr 7 (clr 11 c4)) (d5 := clr 7 (clr 11 c5)) (rows := rows) (p9 := .str (tx (if n = 1 then [] else pl n))) (p10 := nV 1) hn
  refine ⟨e4, e5, .val (nV (rt who (m0 m (n / 2)))), .val (.str (tx (if n = 1 then [] else pl n))), .val (nV 1), .val (rowT m who n), ?_⟩
  refine pSeq_n (ρ1 := uS m steps who fnd (clr 9 d4) (clr 9 d5) n (clr 9 d7) rows (.val (.str (tx []))) (clr 9 d10) (clr 9 d11)) (pSet_i (v := .str (tx [])) (by rw [he]) rfl) ?_
  refine pSeq_n (ρ1 := uS m steps who fnd (clr 10 (clr 9 d4)) (clr 10 (clr 9 d5)) n (clr 10 (clr 9 d7)) rows (.val (.str (tx []))) (.val (nV n)) (clr 10 (clr 9 d11))) rfl ?_
  refine pSeq_n hp ?_
  refine pSeq_n (ρ1 := uS m steps who fnd (clr 11 c4) (clr 11 c5) n (clr 11 c7) rows (.val (.str (tx (if n = 1 then [] else pl n)))) (.val (nV 1)) (.val (.str (tx (sgL (m n) ++ [32] ++ pl n))))) (pSet_i (uRow_at hn) rfl) ?_
  refine pSeq_n (ρ1 := uS m steps who fnd (clr 7 (clr 11 c4)) (clr 7 (clr 11 c5)) n (.val (nV (rt who (m0 m (n / 2))))) rows (.val (.str (tx (if n = 1 then [] else pl n)))) (.val (nV 1)) (.val (.str (tx (sgL (m n) ++ [32] ++ pl n))))) (pSet_i (uRt_at hw hn) rfl) ?_
  refine pSeq_n hi ?_
  exact pSeq_n (pApp_e rfl rfl h) rfl

theorem due_v {ts : List (List Nat)} (hts : ∀ t ∈ ts, t ∈ plTab ∨ t ∈ glTab) (hl : ts.length ≤ 9) (hw : who < 3) :
    PF__law_due [mdV m, .lst (ts.map fun t => .str (tx (stepOf t))), nV who] = some (.lst ((finds m who ts [1]).map (rowT m who))) := by
  have hpow : 2 ^ ts.length ≤ 2 ^ 9 := Nat.pow_le_pow_right (by decide) hl
  obtain ⟨e4, e5, e6, e7, e⟩ := dues_at (m := m) (steps := .lst (ts.map fun t => .str (tx (stepOf t)))) hw ts [1] .unb .unb .unb .unb hts (by simp) (by rw [List.length_singleton, Nat.one_mul]; omega)
  obtain ⟨_, _, _, _, _, _, _, hfl, hin⟩ := outer_at (m := m) (tails := []) hw ts [1] .unb .unb .unb .unb .unb .unb hts (by simp) (by rw [List.length_singleton, Nat.one_mul]; omega)
  generalize finds m who ts [1] = fs at e hfl hin ⊢
  obtain ⟨ρ', f, ⟨f4, f5, f6, f7, f9, f10, f11, hs⟩, _⟩ := pFor_inv (pa := paN 6) (body := uBody) nV
    (fun a ρ => ∃ d4 d5 d6 d7 d9 d10 d11, ρ = [.val (mdV m), .val (.lst (ts.map fun t => .str (tx (stepOf t)))), .val (nV who), .val (.lst (fs.map nV)), d4, d5, d6, d7, .own (a.map (rowT m who)), d9, d10, d11]) (fun a j => a ++ [j])
    (fun a bs => (∀ j ∈ bs, 1 ≤ j ∧ j ≤ 7) ∧ a.length + bs.length ≤ 2000) (by
      rintro a j bs ρ ⟨hj, hl⟩ ⟨d4, d5, d6, d7, d9, d10, d11, rfl⟩
      simp only [List.length_cons] at hl
      have hj1 := hj j (by simp)
      obtain ⟨e4, e5, e7, e9, e10, e11, e⟩ := uBody_at (m := m) (steps := .lst (ts.map fun t => .str (tx (stepOf t)))) (fnd := .lst (fs.map nV)) (rows := a.map (rowT m who)) (d4 := clr 6 d4) (d5 := clr 6 d5) (d7 := clr 6 d7) (d9 := clr 6 d9) (d10 := clr 6 d10) (d11 := clr 6 d11) hw hj1 (by rw [List.length_map]; omega)
      refine ⟨_, _, rfl, e, ⟨e4, e5, _, e7, e9, e10, e11, by rw [List.map_append]; rfl⟩, fun i hi => hj i (by simp [hi]), ?_⟩
      simp only [List.length_append, List.length_singleton]; omega)
    fs [] [.val (mdV m), .val (.lst (ts.map fun t => .str (tx (stepOf t)))), .val (nV who), .val (.lst (fs.map nV)), clr 8 e4, clr 8 e5, clr 8 e6, clr 8 e7, .own [], .unb, .unb, .unb] ⟨hin, by simp; omega⟩ ⟨_, _, _, _, _, _, _, rfl⟩
  have hfl : ∀ (l acc : List Nat), l.foldl (fun a j => a ++ [j]) acc = acc ++ l := by
    intro l
    induction l with
    | nil => intro acc; simp
    | cons a l ih => intro acc; rw [List.foldl_cons, ih]; simp
  rw [hfl, List.nil_append] at hs
  rw [hs] at f
  unfold PF__law_due BD__law_due; dsimp only
  refine pfun_e (ρ := frz 8 [.val (mdV m), .val (.lst (ts.map fun t => .str (tx (stepOf t)))), .val (nV who), .val (.lst (fs.map nV)), f4, f5, f6, f7, .own (fs.map (rowT m who)), f9, f10, f11]) rfl ?_
  refine pSeq_n (ρ1 := eS m (.lst (ts.map fun t => .str (tx (stepOf t)))) who .unb [1] .unb .unb .unb) rfl ?_
  refine pSeq_n (bind_e (x := ts.map fun t => .str (tx (stepOf t))) rfl ((congrArg (fun B => pFor (paN 4) B (fun ρ => some (PF.next, ρ)) _ _) (by unfold dOuter dBody dR dC dStep dDot dDots dUp dRd dKids; rfl : _ = dOuter)).trans e)) ?_
  refine pSeq_n (ρ1 := [.val (mdV m), .val (.lst (ts.map fun t => .str (tx (stepOf t)))), .val (nV who), .val (.lst (fs.map nV)), clr 8 e4, clr 8 e5, clr 8 e6, clr 8 e7, .own [], .unb, .unb, .unb]) rfl ?_
  refine pSeq_n (bind_e (x := fs.map nV) rfl ((congrArg (fun B => pFor (paN 6) B (fun ρ => some (PF.next, ρ)) _ _) (by unfold uBody uPath uRow uRt uMk; rfl : _ = uBody)).trans f)) ?_
  exact pSeq_r rfl
end Mine
end

section
namespace Mine
open PySem PySem.Calls PySem.Spec PySem.W PyProof.Rows
set_option maxRecDepth 100000

/-- texts as data -/
noncomputable abbrev sv (l : List Nat) : V := .str (tx l)
noncomputable def okS (a : List (List Nat)) : Prop := ∀ l ∈ a, okL l
theorem toPys_sv : ∀ a : List (List Nat), toPys (a.map sv) = some ((a.map tx).map .str)
  | [] => rfl
  | l :: a => by
    show (match toPy (sv l), toPys (a.map sv) with | some x, some xs => some (x :: xs) | _, _ => none) = _
    rw [toPys_sv a]; rfl
theorem depth_sv : ∀ a : List (List Nat), PyData.depthAll ((a.map tx).map .str) = 0
  | [] => rfl
  | l :: a => by
    show max 0 (PyData.depthAll ((a.map tx).map .str)) = 0
    rw [depth_sv a]; rfl
theorem shaped_sv {a : List (List Nat)} (h : okS a) : SeqAt.shaped (.list ((a.map tx).map .str)) = true := by
  have h1 : PyData.canLay0 (.list ((a.map tx).map .str)) = true := by
    show PyData.canLayAll0 ((a.map tx).map .str) = true
    rw [canLayAll_strs']
    rw [List.all_eq_true]
    intro x hx
    obtain ⟨l, hl, rfl⟩ := List.mem_map.mp hx
    exact strOk_tx (h l hl)
  have h2 : PyData.depth (.list ((a.map tx).map .str)) = 1 := by
    show PyData.depthAll ((a.map tx).map .str) + 1 = 1
    rw [depth_sv]
  unfold SeqAt.shaped
  rw [h1, h2]; rfl
theorem eqvAll_sv : ∀ a b : List (List Nat), PyData.eqvAll ((a.map tx).map .str) ((b.map tx).map .str) = decide (a = b)
  | [], [] => rfl
  | [], _ :: _ => rfl
  | _ :: _, [] => rfl
  | x :: a, y :: b => by
    show (decide (tx x = tx y) && PyData.eqvAll ((a.map tx).map .str) ((b.map tx).map .str)) = _
    rw [eqvAll_sv a b, Bool.eq_iff_iff, Bool.and_eq_true, decide_eq_true_eq, decide_eq_true_eq, decide_eq_true_eq, List.cons.injEq]
    exact ⟨fun ⟨h1, h2⟩ => ⟨tx_inj h1, h2⟩, fun ⟨h1, h2⟩ => ⟨by rw [h1], h2⟩⟩
theorem vEq_sv {a b : List (List Nat)} (ha : okS a) (hb : okS b) : vEq (.lst (a.map sv)) (.lst (b.map sv)) = some (decide (a = b)) := by
  have h : ∀ a : List (List Nat), toPy (.lst (a.map sv)) = some (.list ((a.map tx).map .str)) := fun a => by
    show (toPys (a.map sv)).map PyData.list = _
    rw [toPys_sv]; rfl
  unfold vEq
  rw [h, h]
  simp only [shaped_sv ha, shaped_sv hb, Bool.and_self, if_true]
  show some (PyData.eqvAll _ _) = _
  rw [eqvAll_sv]

noncomputable abbrev pV (e : List Nat × List (List Nat)) : V := .tup [sv e.1, .lst (e.2.map sv)]
noncomputable def PT : List (List Nat × List (List Nat)) := [([42], [[42, 48, 49]]), ([63], [[42, 48]]), ([97], [[61, 48]]), ([97, 98], [[61, 49]]), ([46, 46], [[46, 46]]), ([46], [[46]]), ([63, 98], [[42, 49]]), ([97, 47, 42], [[61, 48], [42, 48, 49]]), ([47, 97, 42], [[42, 48, 49]]), ([], []), ([42, 47, 47], [[42, 48, 49]]), ([91, 33, 97, 93, 63], [[42]]), ([46, 46, 47, 91, 97, 45, 99, 93, 42], [[46, 46], [42, 48, 49]]), ([99], [[61]])]
theorem partsV_eq : partsV = .lst (PT.map pV) := by kernel_rfl
theorem nm_of {n : List Nat} (h : n ∈ nameTab) : nm n := by
  refine ⟨?_, ?_, ?_, h⟩
  · revert n; decide
  · revert n; decide
  · unfold okL; revert n; decide
theorem PT14 {P : List Nat × List (List Nat) → Prop} (h : ∀ i, i < 14 → P (PT.getD i ([], []))) : ∀ e ∈ PT, P e := fun e he => by
  obtain ⟨i, hi⟩ := List.mem_iff_getElem?.mp he
  have hl : i < 14 := (List.getElem?_eq_some_iff.mp hi).1
  have := h i hl
  rw [List.getD_eq_getElem?_getD, hi] at this
  exact this
theorem below14 {P : Nat → Prop} (h0 : P 0) (h1 : P 1) (h2 : P 2) (h3 : P 3) (h4 : P 4) (h5 : P 5) (h6 : P 6) (h7 : P 7) (h8 : P 8) (h9 : P 9) (h10 : P 10) (h11 : P 11) (h12 : P 12) (h13 : P 13) : ∀ r, r < 14 → P r := fun r h => by
  have : r = 0 ∨ r = 1 ∨ r = 2 ∨ r = 3 ∨ r = 4 ∨ r = 5 ∨ r = 6 ∨ r = 7 ∨ r = 8 ∨ r = 9 ∨ r = 10 ∨ r = 11 ∨ r = 12 ∨ r = 13 := by omega
  rcases this with rfl | rfl | rfl | rfl | rfl | rfl | rfl | rfl | rfl | rfl | rfl | rfl | rfl | rfl <;> assumption
theorem PT_part : ∀ e ∈ PT, Part e.1 e.2 := by
  refine PT14 (below14 ?_ ?_ ?_ ?_ ?_ ?_ ?_ ?_ ?_ ?_ ?_ ?_ ?_ ?_)
  · exact .a (n := [42]) 0 (nm_of (by decide))
  · exact .a (n := [63]) 0 (nm_of (by decide))
  · exact .a (n := [97]) 0 (nm_of (by decide))
  · exact .a (n := [97, 98]) 0 (nm_of (by decide))
  · exact .a (n := [46, 46]) 0 (nm_of (by decide))
  · exact .a (n := [46]) 0 (nm_of (by decide))
  · exact .a (n := [63, 98]) 0 (nm_of (by decide))
  · exact .b (n1 := [97]) (n2 := [42]) (nm_of (by decide)) (nm_of (by decide))
  · exact .c (n := [97, 42]) (nm_of (by decide))
  · exact .d
  · exact .a (n := [42]) 2 (nm_of (by decide))
  · exact .a (n := [91, 33, 97, 93, 63]) 0 (nm_of (by decide))
  · exact .b (n1 := [46, 46]) (n2 := [91, 97, 45, 99, 93, 42]) (nm_of (by decide)) (nm_of (by decide))
  · exact .a (n := [99]) 0 (nm_of (by decide))
theorem PT_len : ∀ e ∈ PT, e.1.length ≤ 9 ∧ e.2.length ≤ 2 ∧ okS e.2 := by
  unfold okS okL; decide

noncomputable abbrev sS (parts : V) (steps : List (List Nat)) (slash : Bool) (d3 d4 : Slot) : List Slot := [.val parts, .val (.lst (steps.map sv)), .val (.bool slash), d3, d4]
noncomputable def sC : List Slot → Option Bool := fun ρ => ((getv 3 ρ).bind fun a => (some none).bind fun x => ((some (V.int 1)).bind asI).bind fun y => (some none).bind fun z => vSl a x y z).bind fun a => (some (V.str (Str.ofString "/"))).bind fun b => vCmp CmpOp.Eq a b
noncomputable def sL : List Slot → Option V := fun ρ => (((getv 3 ρ).bind fun a => ((some (V.int (-1))).bind asI).bind fun x => (some none).bind fun y => (some none).bind fun z => vSl a x y z).bind fun a => (some (V.str (Str.ofString "/"))).bind fun b => Option.map V.bool (vCmp CmpOp.Eq a b)).bind
  fun a => (vTruth a).bind fun c => if c = true then some a else ((getv 3 ρ).bind fun a => (some (V.str (Str.ofString ""))).bind fun b => Option.map V.bool (vCmp CmpOp.Eq a b)).bind fun a => (vTruth a).bind fun c => if c = true then (getv 1 ρ).bind fun a => ((some []).bind lstV).bind fun b => Option.map V.bool (vCmp CmpOp.NotEq a b) else some a
noncomputable def sBody : PS := pSeq (pIf sC (pSeq (pSet 1 fun ρ => (some []).bind lstV) fun ρ => some (PF.next, ρ)) fun ρ => some (PF.next, ρ)) (pSeq (pSet 1 fun ρ => (getv 1 ρ).bind fun a => (getv 4 ρ).bind fun b => vBin Operator.Add a b) (pSeq (pSet 2 sL) fun ρ => some (PF.next, ρ)))

variable {parts : V} {steps : List (List Nat)} {slash : Bool} {d3 d4 : Slot}
theorem sC_at : ∀ e ∈ PT, sC (sS parts steps slash (.val (sv e.1)) d4) = some (decide (e.1.head? = some 47)) := by
  refine PT14 (below14 ?_ ?_ ?_ ?_ ?_ ?_ ?_ ?_ ?_ ?_ ?_ ?_ ?_ ?_) <;> kernel_rfl
theorem sL_at (hk : okS steps) : ∀ e ∈ PT, sL (sS parts steps slash (.val (sv e.1)) d4) = some (.bool (decide (e.1.getLast? = some 47) || (decide (e.1 = []) && decide (steps ≠ [])))) := by
  have hn : vCmp .NotEq (.lst (steps.map sv)) (.lst []) = some (decide (steps ≠ [])) := by
    show (vEq (.lst (steps.map sv)) (.lst (([] : List (List Nat)).map sv))).map _ = _
    rw [vEq_sv hk (by intro l hl; cases hl)]
    simp
  have key : ∀ (t : List Nat) (b1 b2 : Bool), ((vSl (sv t) (some (-1)) none none).bind fun a => Option.map V.bool (vCmp CmpOp.Eq a (V.str (Str.ofString "/")))) = some (.bool b1) → Option.map V.bool (vCmp CmpOp.Eq (sv t) (V.str (Str.ofString ""))) = some (.bool b2) →
      sL (sS parts steps slash (.val (sv t)) d4) = some (.bool (b1 || (b2 && decide (steps ≠ [])))) := fun t b1 b2 h1 h2 => by
    show ((vSl (sv t) (some (-1)) none none).bind fun a => Option.map V.bool (vCmp CmpOp.Eq a (V.str (Str.ofString "/")))).bind (fun a => (vTruth a).bind fun c => if c = true then some a else
      (Option.map V.bool (vCmp CmpOp.Eq (sv t) (V.str (Str.ofString "")))).bind fun a => (vTruth a).bind fun c => if c = true then Option.map V.bool (vCmp CmpOp.NotEq (.lst (steps.map sv)) (.lst [])) else some a) = _
    rw [h1, h2, hn]
    cases b1 <;> cases b2 <;> rfl
  refine PT14 (below14 ?_ ?_ ?_ ?_ ?_ ?_ ?_ ?_ ?_ ?_ ?_ ?_ ?_ ?_) <;> exact key _ _ _ (by kernel_rfl) (by kernel_rfl)
theorem sBody_at {e : List Nat × List (List Nat)} (he : e ∈ PT) (hk : okS steps) (hl : steps.length ≤ 1000) :
    sBody (sS parts steps slash (.val (sv e.1)) (.val (.lst (e.2.map sv)))) = some (.next, sS parts (newSteps steps e.1 e.2) (newSlash steps e.1 e.2) (.val (sv e.1)) (.val (.lst (e.2.map sv)))) := by
  obtain ⟨l1, l2, k2⟩ := PT_len e he
  have hc := sC_at (parts := parts) (steps := steps) (slash := slash) (d4 := .val (.lst (e.2.map sv))) e he
  have hs : ∀ st : List (List Nat), st.length ≤ 1000 → okS st → newSteps steps e.1 e.2 = st ++ e.2 → pSeq (pSet 1 fun ρ => (getv 1 ρ).bind fun a => (getv 4 ρ).bind fun b => vBin Operator.Add a b) (pSeq (pSet 2 sL) fun ρ => some (PF.next, ρ)) (sS parts st slash (.val (sv e.1)) (.val (.lst (e.2.map sv)))) = some (.next, sS parts (newSteps steps e.1 e.2) (newSlash steps e.1 e.2) (.val (sv e.1)) (.val (.lst (e.2.map sv)))) := fun st h1 h2 h3 => by
    have hok : okS (newSteps steps e.1 e.2) := by
      rw [h3]; intro l hl
      rcases List.mem_append.mp hl with h | h
      · exact h2 l h
      · exact k2 l h
    refine pSeq_n (ρ1 := sS parts (newSteps steps e.1 e.2) slash (.val (sv e.1)) (.val (.lst (e.2.map sv)))) ?_ ?_
    · refine pSet_i (v := .lst ((newSteps steps e.1 e.2).map sv)) ?_ rfl
      show lstV (st.map sv ++ e.2.map sv) = _
      unfold lstV
      rw [if_pos (by rw [List.length_append, List.length_map, List.length_map]; omega), h3, List.map_append]
    · exact pSeq_n (pSet_i (sL_at hok e he) rfl) rfl
  unfold sBody
  by_cases h : e.1.head? = some 47
  · rw [decide_eq_true h] at hc
    refine pSeq_n (pIf_t hc (pSeq_n (ρ1 := sS parts [] slash (.val (sv e.1)) (.val (.lst (e.2.map sv)))) rfl rfl)) (hs [] (by simp) (by intro l hl; cases hl) ?_)
    unfold newSteps; rw [if_pos h]
  · rw [decide_eq_false h] at hc
    refine pSeq_n (pIf_f hc rfl) (hs steps hl hk ?_)
    unfold newSteps; rw [if_neg h]
end Mine
end

section
namespace Mine
open PySem PySem.Calls PySem.Spec PySem.W PyProof.Rows
set_option maxRecDepth 100000

noncomputable abbrev Ent := List Nat × List (List Nat)
noncomputable def stp (s : List (List Nat) × Bool) (e : Ent) : List (List Nat) × Bool := (newSteps s.1 e.1 e.2, newSlash s.1 e.1 e.2)
noncomputable def pthF (p : List Nat) (e : Ent) : List Nat := joinL p e.1
theorem inv_fold : ∀ (ps : List Ent) (mm : Nat) (p : List Nat) (s : List (List Nat) × Bool) (ts : List (List Nat)) (c : List Nat) (k : Nat), Inv mm p s.1 s.2 ts c k → (∀ e ∈ ps, e ∈ PT) →
    ∃ ts' c' k', Inv (mm + ps.length) (ps.foldl pthF p) (ps.foldl stp s).1 (ps.foldl stp s).2 ts' c' k'
  | [], mm, p, s, ts, c, k, h, _ => ⟨ts, c, k, h⟩
  | e :: ps, mm, p, s, ts, c, k, h, hp => by
    obtain ⟨ts1, c1, k1, h1⟩ := h.step (PT_part e (hp e (by simp)))
    obtain ⟨ts2, c2, k2, h2⟩ := inv_fold ps (mm + 1) (pthF p e) (stp s e) ts1 c1 k1 h1 fun e he => hp e (by simp [he])
    refine ⟨ts2, c2, k2, ?_⟩
    have e3 : mm + (e :: ps).length = mm + 1 + ps.length := by simp; omega
    rw [e3]; exact h2
theorem inv_root : Inv 0 [47] [] false [] [47] 0 := ⟨rfl, .nil, fun _ => rfl, rfl, rfl, by simp⟩

theorem newSteps_len (st : List (List Nat)) (e : Ent) (h : e.2.length ≤ 2) : (newSteps st e.1 e.2).length ≤ st.length + 2 := by
  unfold newSteps
  rw [List.length_append]
  split
  · simp; omega
  · omega
theorem newSteps_ok {st : List (List Nat)} {e : Ent} (h1 : okS st) (h2 : okS e.2) : okS (newSteps st e.1 e.2) := by
  unfold newSteps
  intro l hl
  rcases List.mem_append.mp hl with h | h
  · split at h
    · cases h
    · exact h1 l h
  · exact h2 l h

noncomputable def finS (s : List (List Nat) × Bool) : List (List Nat) := if s.2 then s.1 ++ [[46]] else s.1
theorem steps_v {ps : List Ent} (hp : ∀ e ∈ ps, e ∈ PT) (hl : ps.length ≤ 4) : PF__law_steps [.lst (ps.map pV)] = some (.lst ((finS (ps.foldl stp ([], false))).map sv)) := by
  obtain ⟨ρ', e, ⟨d3, d4, hs⟩, _, hok, hlen⟩ := pFor_inv (pa := paT 2 (plC (paN 3) (plC (paN 4) plN))) (body := sBody) pV
    (fun s ρ => ∃ d3 d4, ρ = sS (.lst (ps.map pV)) s.1 s.2 d3 d4) stp
    (fun s bs => (∀ e ∈ bs, e ∈ PT) ∧ okS s.1 ∧ s.1.length + 2 * bs.length ≤ 100) (by
      rintro s e bs ρ ⟨hj, hok, hl⟩ ⟨d3, d4, rfl⟩
      simp only [List.length_cons] at hl
      have he := hj e (by simp)
      obtain ⟨l1, l2, k2⟩ := PT_len e he
      refine ⟨sS (.lst (ps.map pV)) s.1 s.2 (.val (sv e.1)) (.val (.lst (e.2.map sv))), _, rfl, sBody_at he hok (by omega), ⟨_, _, rfl⟩, fun i hi => hj i (by simp [hi]), newSteps_ok hok k2, ?_⟩
      have := newSteps_len s.1 e l2
      show (newSteps s.1 e.1 e.2).length + _ ≤ _
      omega)
    ps ([], false) (sS (.lst (ps.map pV)) [] false .unb .unb) ⟨hp, (by intro l hl; cases hl), by simp; omega⟩ ⟨_, _, rfl⟩
  rw [hs] at e
  unfold PF__law_steps BD__law_steps; dsimp only
  refine pfun_e (ρ := sS (.lst (ps.map pV)) (ps.foldl stp ([], false)).1 (ps.foldl stp ([], false)).2 d3 d4) rfl ?_
  refine pSeq_n (ρ1 := [.val (.lst (ps.map pV)), .val (.lst []), .unb, .unb, .unb]) rfl ?_
  refine pSeq_n (ρ1 := sS (.lst (ps.map pV)) [] false .unb .unb) rfl ?_
  refine pSeq_n (bind_e (x := ps.map pV) rfl ((congrArg (fun B => pFor (paT 2 (plC (paN 3) (plC (paN 4) plN))) B (fun ρ => some (PF.next, ρ)) _ _) (by unfold sBody sC sL; rfl : _ = sBody)).trans e)) ?_
  refine pRet_e ?_
  generalize ps.foldl stp ([], false) = s at hlen ⊢
  obtain ⟨st, sl⟩ := s
  simp only [List.length_nil] at hlen
  cases sl with
  | false => rfl
  | true =>
    have hd : Str.ofString "." = tx [46] := by kernel_rfl
    show ((((some (V.str (Str.ofString "."))).bind fun a => Option.map (fun x => a :: x) (some [])).bind lstV).bind fun b => vAdd (.lst (st.map sv)) b) = _
    rw [hd]
    show lstV (st.map sv ++ [sv [46]]) = _
    unfold lstV
    rw [if_pos (by simp; omega)]
    unfold finS
    rw [if_pos rfl, List.map_append]; rfl
theorem inv_fin {mm k : Nat} {p c : List Nat} {steps ts : List (List Nat)} {slash : Bool} (h : Inv mm p steps slash ts c k) : finS (steps, slash) = (ts.reverse ++ (if slash then [[]] else [])).map stepOf := by
  unfold finS
  rw [h.steps, List.map_append]
  cases slash <;> simp [stepOf]

/-- the parts that a number tells -/
theorem part_idx : ∀ i, i < 14 → vIdx partsV (nV i) = some (pV (PT.getD i ([], []))) := by
  refine below14 ?_ ?_ ?_ ?_ ?_ ?_ ?_ ?_ ?_ ?_ ?_ ?_ ?_ ?_ <;> kernel_rfl
theorem compV_map {f : V → Option V} {g : Nat → V} : ∀ (ks : List Nat), (∀ k ∈ ks, f (nV k) = some (g k)) → compV f (fun _ => some true) (ks.map nV) = some (ks.map g)
  | [], _ => rfl
  | k :: ks, h => by
    show (if isSc (nV k) then (some true).bind fun b => if b then (f (nV k)).bind fun y => (compV f (fun _ => some true) (ks.map nV)).map (y :: ·) else compV f (fun _ => some true) (ks.map nV) else none) = _
    rw [h k (by simp), compV_map ks fun k hk => h k (by simp [hk])]
    rfl
noncomputable def prt (n k : Nat) : Ent := PT.getD (n / 4 / 14 ^ k % 14) ([], [])
theorem prt_mem (n k : Nat) : prt n k ∈ PT := by
  have h : n / 4 / 14 ^ k % 14 < PT.length := Nat.mod_lt _ (by decide)
  unfold prt
  rw [List.getD_eq_getElem?_getD, List.getElem?_eq_getElem h]
  exact List.getElem_mem h
noncomputable def prts (n : Nat) : List Ent := (List.range (1 + n % 4)).map (prt n)
theorem below4 {P : Nat → Prop} (h0 : P 0) (h1 : P 1) (h2 : P 2) (h3 : P 3) : ∀ r, r < 4 → P r := fun r h => by
  have : r = 0 ∨ r = 1 ∨ r = 2 ∨ r = 3 := by omega
  rcases this with rfl | rfl | rfl | rfl <;> assumption
theorem prt_idx (n : Nat) : ∀ k, k < 4 → (((some (nV n)).bind fun a => (some (V.int 4)).bind fun b => vBin Operator.FloorDiv a b).bind fun a => ((some (V.int 14)).bind fun a => (some (nV k)).bind fun b => vBin Operator.Pow a b).bind fun b => vBin Operator.FloorDiv a b).bind (fun a => (some (V.int 14)).bind fun b => vBin Operator.Mod a b) = some (nV (n / 4 / 14 ^ k % 14)) := by
  have e : ∀ (q : Nat) (z : Int), z = (q : Int) → some (V.int (Int.fmod (Int.fdiv (Int.fdiv (n : Int) ((4 : Nat) : Int)) z) ((14 : Nat) : Int))) = some (nV (n / 4 / q % 14)) := fun q z hz => by
    rw [hz, fd, fd, fm]
  refine below4 ?_ ?_ ?_ ?_
  · exact Eq.trans (b := some (V.int (Int.fmod (Int.fdiv (Int.fdiv (n : Int) ((4 : Nat) : Int)) (14 ^ 0)) ((14 : Nat) : Int)))) (by kernel_rfl) (e (14 ^ 0) _ (by decide))
  · exact Eq.trans (b := some (V.int (Int.fmod (Int.fdiv (Int.fdiv (n : Int) ((4 : Nat) : Int)) (14 ^ 1)) ((14 : Nat) : Int)))) (by kernel_rfl) (e (14 ^ 1) _ (by decide))
  · exact Eq.trans (b := some (V.int (Int.fmod (Int.fdiv (Int.fdiv (n : Int) ((4 : Nat) : Int)) (14 ^ 2)) ((14 : Nat) : Int)))) (by kernel_rfl) (e (14 ^ 2) _ (by decide))
  · exact Eq.trans (b := some (V.int (Int.fmod (Int.fdiv (Int.fdiv (n : Int) ((4 : Nat) : Int)) (14 ^ 3)) ((14 : Nat) : Int)))) (by kernel_rfl) (e (14 ^ 3) _ (by decide))
theorem parts_v (n : Nat) : PF__law_parts [nV n] = some (.lst ((prts n).map pV)) := by
  unfold PF__law_parts BD__law_parts; dsimp only
  refine pfun_e (ρ := [.val (nV n), .val partsV]) rfl ?_
  refine pSeq_n (ρ1 := [.val (nV n), .val partsV]) rfl ?_
  refine pRet_e ?_
  refine map_e ?_
  unfold pComp
  refine bind_e (x := (List.range (1 + n % 4)).map nV) ?_ ?_
  · have h1 : ((some (V.int 1)).bind fun a => ((some (nV n)).bind fun a => (some (V.int 4)).bind fun b => vBin Operator.Mod a b).bind fun b => vBin Operator.Add a b) = some (.int (1 + ((n % 4 : Nat) : Int))) := by
      show some (V.int (1 + Int.fmod (n : Int) ((4 : Nat) : Int))) = _
      rw [fm]
    show Option.map rngV ((((some (V.int 1)).bind fun a => ((some (nV n)).bind fun a => (some (V.int 4)).bind fun b => vBin Operator.Mod a b).bind fun b => vBin Operator.Add a b).bind fun a => Option.map (fun x => a :: x) (some [])).bind rngOf) = _
    rw [h1]
    have : ∀ j, j < 4 → Option.map rngV (((some (V.int (1 + ((j : Nat) : Int)))).bind fun a => Option.map (fun x => a :: x) (some [])).bind rngOf) = some ((List.range (1 + j)).map nV) :=
      below4 (by kernel_rfl) (by kernel_rfl) (by kernel_rfl) (by kernel_rfl)
    exact this _ (Nat.mod_lt _ (by decide))
  · refine bind_e (x := [.val partsV, .val (nV n)]) rfl ?_
    refine bind_e (x := (List.range (1 + n % 4)).map fun k => pV (prt n k)) ?_ ?_
    · refine compV_map _ fun k hk => ?_
      have hk4 : k < 4 := by
        have := List.mem_range.mp hk
        have := Nat.mod_lt n (show 4 > 0 by decide)
        omega
      show ((((some (nV n)).bind fun a => (some (V.int 4)).bind fun b => vBin Operator.FloorDiv a b).bind fun a => ((some (V.int 14)).bind fun a => (some (nV k)).bind fun b => vBin Operator.Pow a b).bind fun b => vBin Operator.FloorDiv a b).bind (fun a => (some (V.int 14)).bind fun b => vBin Operator.Mod a b)).bind (fun b => if isSc b = true then vIdx partsV b else none) = _
      rw [prt_idx n k hk4, Option.bind_some]
      exact part_idx _ (Nat.mod_lt _ (by decide))
    · rw [if_pos (by rw [List.length_map, List.length_range]; have := Nat.mod_lt n (show 4 > 0 by decide); omega)]
      unfold prts
      rw [List.map_map]; rfl
end Mine
end

section
namespace Mine
open PySem PySem.Calls PySem.Spec PySem.W PyProof.Rows
set_option maxRecDepth 100000

theorem pick_pre (l : List V) (k : Nat) : pickV l none (some (k : Int)) none = l.take k := by
  have hb : sliceBounds none (some (k : Int)) none l.length = (((0 : Nat) : Int), ((min k l.length : Nat) : Int), 1) := by
    simp [sliceBounds]
    omega
  unfold pickV
  rw [hb, sliceRange_one]
  have := StrLaws.picks l (min k l.length - 0) 0 (by omega)
  rw [this]
  simp
theorem pick_suf (l : List V) (k : Nat) (h : k ≤ l.length) : pickV l (some (k : Int)) none none = l.drop k := by
  have hb : sliceBounds (some (k : Int)) none none l.length = (((k : Nat) : Int), ((l.length : Nat) : Int), 1) := by
    simp [sliceBounds]
    omega
  unfold pickV
  rw [hb, sliceRange_one]
  have := StrLaws.picks l (l.length - k) k (by omega)
  rw [this, List.take_of_length_le (by simp)]

theorem nums_nine (xs : List V) (a b c d e f g h i : Int) : (Option.map V.lst (pComp (fun ρ => Option.map rngV (((some (V.int 9)).bind fun a => Option.map (fun x => a :: x) (some [])).bind rngOf)) [2, 1]
      (fun ρ => ((((getv 2 ρ).bind fun a => (getv 0 ρ).bind fun b => vIdx a b).bind fun a => ((some (V.int 10)).bind fun a => (some (V.int 15)).bind fun b => vBin Operator.Pow a b).bind fun b => vBin Operator.Mod a b).bind fun a => ((getv 1 ρ).bind fun a => (getv 0 ρ).bind fun b => vIdx a b).bind fun b => vBin Operator.Add a b).bind fun v => if isSc v = true then some v else none)
      (fun _ => some true) [.val (.lst xs), .val (.lst [.int a, .int b, .int c, .int d, .int e, .int f, .int g, .int h, .int i]), .val (.lst [.int 1, .int 4958, .int 31552, .int 65472, .int 29248, .int 162659, .int 69120, .int 32747, .int 20480])]))
    = some (.lst [.int (Int.fmod a (10 ^ 15) + 1), .int (Int.fmod b (10 ^ 15) + 4958), .int (Int.fmod c (10 ^ 15) + 31552), .int (Int.fmod d (10 ^ 15) + 65472), .int (Int.fmod e (10 ^ 15) + 29248), .int (Int.fmod f (10 ^ 15) + 162659), .int (Int.fmod g (10 ^ 15) + 69120), .int (Int.fmod h (10 ^ 15) + 32747), .int (Int.fmod i (10 ^ 15) + 20480)]) := by kernel_rfl
theorem nat_of (a : Int) (k : Nat) : ∃ n : Nat, Int.fmod a (10 ^ 15) + (k : Int) = (n : Int) := by
  have h : 0 ≤ Int.fmod a (10 ^ 15) := Int.fmod_nonneg_of_pos a (by decide)
  exact ⟨(Int.fmod a (10 ^ 15) + (k : Int)).toNat, by omega⟩

noncomputable abbrev l9 (f : Nat → Nat) : V := .lst [nV (f 0), nV (f 1), nV (f 2), nV (f 3), nV (f 4), nV (f 5), nV (f 6), nV (f 7), nV (f 8)]
theorem numbers_v (xs : List Int) (hl : xs.length ≤ 63) : ∃ f : Nat → Nat, PF__law_numbers [.lst (xs.map .int)] = some (l9 f) := by
  let gs : List Int := xs.take 9 ++ List.replicate (9 - (xs.take 9).length) 0
  have hg : gs.length = 9 := by
    show (xs.take 9 ++ List.replicate (9 - (xs.take 9).length) 0).length = 9
    rw [List.length_append, List.length_replicate, List.length_take]; omega
  have h1 : vSl (.lst (xs.map V.int)) none (some 9) none = some (.lst ((xs.take 9).map V.int)) := by
    unfold vSl
    have : (xs.map V.int).length ≤ 4096 := by rw [List.length_map]; omega
    simp only [this, true_and]
    rw [if_pos (by decide)]
    have := pick_pre (xs.map V.int) 9
    show some (V.lst (pickV (xs.map V.int) none (some ((9 : Nat) : Int)) none)) = _
    rw [this, ← List.map_take]
  have h2 : pf_len [.lst ((xs.take 9).map V.int)] = some (.int (((xs.take 9).length : Nat) : Int)) := by
    unfold pf_len
    dsimp only
    rw [if_pos (by rw [List.length_map, List.length_take]; omega), List.length_map]
  have h3 : vMul (.lst [.int 0]) (.int (9 - (((xs.take 9).length : Nat) : Int))) = some (.lst ((List.replicate (9 - (xs.take 9).length) (0 : Int)).map V.int)) := by
    have hle : (xs.take 9).length ≤ 9 := by rw [List.length_take]; omega
    show (if 0 ≤ (9 - (((xs.take 9).length : Nat) : Int)) ∧ (9 - (((xs.take 9).length : Nat) : Int)) ≤ 4096 then some (V.lst (List.replicate (9 - (((xs.take 9).length : Nat) : Int)).toNat (.int 0))) else none) = _
    rw [if_pos (by omega), List.map_replicate]
    congr 3
    omega
  have h4 : vAdd (.lst ((xs.take 9).map V.int)) (.lst ((List.replicate (9 - (xs.take 9).length) (0 : Int)).map V.int)) = some (.lst (gs.map V.int)) := by
    show lstV _ = _
    unfold lstV
    rw [← List.map_append]
    show (if (gs.map V.int).length ≤ 4096 then _ else _) = _
    rw [if_pos (by rw [List.length_map, hg]; decide)]
  obtain ⟨a, b, c, d, e, f, g, h, i, hgs⟩ : ∃ a b c d e f g h i : Int, gs = [a, b, c, d, e, f, g, h, i] := by
    match gs, hg with
    | [a, b, c, d, e, f, g, h, i], _ => exact ⟨a, b, c, d, e, f, g, h, i, rfl⟩
  obtain ⟨n0, e0⟩ := nat_of a 1
  obtain ⟨n1, e1⟩ := nat_of b 4958
  obtain ⟨n2, e2⟩ := nat_of c 31552
  obtain ⟨n3, e3⟩ := nat_of d 65472
  obtain ⟨n4, e4⟩ := nat_of e 29248
  obtain ⟨n5, e5⟩ := nat_of f 162659
  obtain ⟨n6, e6⟩ := nat_of g 69120
  obtain ⟨n7, e7⟩ := nat_of h 32747
  obtain ⟨n8, e8⟩ := nat_of i 20480
  refine ⟨fun k => [n0, n1, n2, n3, n4, n5, n6, n7, n8].getD k 0, ?_⟩
  unfold PF__law_numbers BD__law_numbers; dsimp only
  refine pfun_e (ρ := [.val (.lst (xs.map .int)), .val (.lst (gs.map .int)), .val (.lst [.int 1, .int 4958, .int 31552, .int 65472, .int 29248, .int 162659, .int 69120, .int 32747, .int 20480])]) rfl ?_
  refine pSeq_n (ρ1 := [.val (.lst (xs.map .int)), .val (.lst (gs.map .int)), .unb]) ?_ ?_
  · refine pSet_i (v := .lst (gs.map .int)) ?_ rfl
    show ((vSl (.lst (xs.map V.int)) none (some 9) none).bind fun a => ((((some (V.int 0)).bind fun a => Option.map (fun x => a :: x) (some [])).bind lstV).bind fun a => ((some (V.int 9)).bind fun a => (((vSl (.lst (xs.map V.int)) none (some 9) none).bind fun a => Option.map (fun x => a :: x) (some [])).bind pf_len).bind fun b => vBin Operator.Sub a b).bind fun b => vBin Operator.Mult a b).bind fun b => vBin Operator.Add a b) = _
    rw [h1, Option.bind_some]
    show (((pf_len [.lst ((xs.take 9).map V.int)]).bind fun b => vSub (.int 9) b).bind fun b => vMul (.lst [.int 0]) b).bind (fun b => vAdd (.lst ((xs.take 9).map V.int)) b) = _
    rw [h2]
    show (vMul (.lst [.int 0]) (.int (9 - (((xs.take 9).length : Nat) : Int)))).bind (fun b => vAdd (.lst ((xs.take 9).map V.int)) b) = _
    rw [h3, Option.bind_some, h4]
  refine pSeq_n (ρ1 := [.val (.lst (xs.map .int)), .val (.lst (gs.map .int)), .val (.lst [.int 1, .int 4958, .int 31552, .int 65472, .int 29248, .int 162659, .int 69120, .int 32747, .int 20480])]) rfl ?_
  refine pRet_e ?_
  rw [hgs]
  refine (nums_nine (xs.map .int) a b c d e f g h i).trans ?_
  have e0 : Int.fmod a (10 ^ 15) + 1 = (n0 : Int) := e0
  have e1 : Int.fmod b (10 ^ 15) + 4958 = (n1 : Int) := e1
  have e2 : Int.fmod c (10 ^ 15) + 31552 = (n2 : Int) := e2
  have e3 : Int.fmod d (10 ^ 15) + 65472 = (n3 : Int) := e3
  have e4 : Int.fmod e (10 ^ 15) + 29248 = (n4 : Int) := e4
  have e5 : Int.fmod f (10 ^ 15) + 162659 = (n5 : Int) := e5
  have e6 : Int.fmod g (10 ^ 15) + 69120 = (n6 : Int) := e6
  have e7 : Int.fmod h (10 ^ 15) + 32747 = (n7 : Int) := e7
  have e8 : Int.fmod i (10 ^ 15) + 20480 = (n8 : Int) := e8
  rw [e0, e1, e2, e3, e4, e5, e6, e7, e8]
  rfl

/-- the mode that a number tells -/
noncomputable def moK (n : Nat) : Nat := if n % 4 < 3 then 4 else n / 4 % 16
noncomputable def mo (n : Nat) : Nat := 65536 * (n % 5) + 4096 * moK n + n / 64 % 4096
noncomputable def mK : List Slot → Option V := fun ρ => (((getv 2 ρ).bind fun a => (some (V.int 4)).bind fun b => vBin Operator.Mod a b).bind fun a => (some (V.int 3)).bind fun b => vCmp CmpOp.Lt a b).bind
  fun c => if c = true then some (V.int 4) else ((getv 2 ρ).bind fun a => (some (V.int 4)).bind fun b => vBin Operator.FloorDiv a b).bind fun a => (some (V.int 16)).bind fun b => vBin Operator.Mod a b
noncomputable def mM : List Slot → Option V := fun ρ => (((some (V.int 65536)).bind fun a => ((getv 2 ρ).bind fun a => (some (V.int 5)).bind fun b => vBin Operator.Mod a b).bind fun b => vBin Operator.Mult a b).bind fun a => ((some (V.int 4096)).bind fun a => (getv 3 ρ).bind fun b => vBin Operator.Mult a b).bind fun b => vBin Operator.Add a b).bind
  fun a => (((getv 2 ρ).bind fun a => (some (V.int 64)).bind fun b => vBin Operator.FloorDiv a b).bind fun a => (some (V.int 4096)).bind fun b => vBin Operator.Mod a b).bind fun b => vBin Operator.Add a b
noncomputable def mBody : PS := pSeq (pSet 3 mK) (pSeq (pApp 1 mM) fun ρ => some (PF.next, ρ))
theorem mBody_at {nums : V} {acc : List Nat} {n : Nat} {d3 : Slot} (h : acc.length < 4096) : mBody [.val nums, .own (acc.map nV), .val (nV n), d3] = some (.next, [.val nums, .own ((acc ++ [mo n]).map nV), .val (nV n), .val (nV (moK n))]) := by
  refine pSeq_n (ρ1 := [.val nums, .own (acc.map nV), .val (nV n), .val (nV (moK n))]) (pSet_i (v := nV (moK n)) ?_ rfl) ?_
  · show (some (decide (Int.fmod (n : Int) ((4 : Nat) : Int) < 3))).bind (fun c => if c = true then some (V.int 4) else some (V.int (Int.fmod (Int.fdiv (n : Int) ((4 : Nat) : Int)) ((16 : Nat) : Int)))) = _
    rw [fm, fd, fm, Option.bind_some]
    unfold moK
    by_cases h : n % 4 < 3
    · rw [decide_eq_true (by omega), if_pos rfl, if_pos h]; rfl
    · rw [decide_eq_false (by omega), if_neg h]; rfl
  · have e : pApp 1 mM [.val nums, .own (acc.map nV), .val (nV n), .val (nV (moK n))] = some (.next, [.val nums, .own ((acc ++ [mo n]).map nV), .val (nV n), .val (nV (moK n))]) := by
      rw [pApp_e (l := acc.map nV) (v := nV (mo n)) rfl ?_ (by simpa using h)]
      · simp [List.set]
      · show some (V.int (65536 * Int.fmod (n : Int) ((5 : Nat) : Int) + 4096 * (moK n : Int) + Int.fmod (Int.fdiv (n : Int) ((64 : Nat) : Int)) ((4096 : Nat) : Int))) = _
        rw [fm, fd, fm]
        congr 2
    exact pSeq_n e rfl
theorem modes_v (f : Nat → Nat) : PF__law_modes [l9 f] = some (mdV fun n => mo (f (n + 1))) := by
  obtain ⟨ρ', e, ⟨d2, d3, hs⟩, _⟩ := pFor_inv (pa := paN 2) (body := mBody) nV
    (fun a ρ => ∃ d2 d3, ρ = [.val (l9 f), .own (a.map nV), d2, d3]) (fun a n => a ++ [mo n])
    (fun a bs => a.length + bs.length ≤ 100) (by
      rintro a j bs ρ hl ⟨d2, d3, rfl⟩
      simp only [List.length_cons] at hl
      exact ⟨_, _, rfl, mBody_at (by omega), ⟨_, _, rfl⟩, by simp only [List.length_append, List.length_singleton]; omega⟩)
    [f 2, f 3, f 4, f 5, f 6, f 7, f 8] [0] [.val (l9 f), .own ([0].map nV), .unb, .unb] (by simp) ⟨_, _, rfl⟩
  rw [hs] at e
  unfold PF__law_modes BD__law_modes; dsimp only
  refine pfun_e (ρ := frz 1 [.val (l9 f), .own (([f 2, f 3, f 4, f 5, f 6, f 7, f 8].foldl (fun a n => a ++ [mo n]) [0]).map nV), d2, d3]) rfl ?_
  refine pSeq_n (ρ1 := [.val (l9 f), .own ([0].map nV), .unb, .unb]) rfl ?_
  refine pSeq_n (bind_e (x := [f 2, f 3, f 4, f 5, f 6, f 7, f 8].map nV) (by kernel_rfl) ((congrArg (fun B => pFor (paN 2) B (fun ρ => some (PF.next, ρ)) _ _) (by unfold mBody mK mM; rfl : _ = mBody)).trans e)) ?_
  exact pSeq_r rfl
theorem world_v (m : Nat → Nat) : PF__law_world [mdV m] = some (wd m) := by kernel_rfl
end Mine
end

section
namespace Mine
open PySem PySem.Calls PySem.Spec PySem.W PyProof.Rows
set_option maxRecDepth 100000

theorem okL_sg (x : Nat) : okL (sgL x) := by
  have h1 : ∀ k, k < 16 → kch k < 1114112 := by decide
  have h2 : ∀ r, rch r < 1114112 := fun r => by unfold rch; split <;> decide
  have h3 : ∀ r, wch r < 1114112 := fun r => by unfold wch; split <;> decide
  have h4 : ∀ t r s, xch t r s < 1114112 := fun t r s => by
    unfold xch; split
    · split
      · split <;> decide
      · decide
    · split
      · split <;> decide
      · decide
  intro c hc
  simp only [sgL, List.mem_cons, List.not_mem_nil, or_false] at hc
  rcases hc with rfl | rfl | rfl | rfl | rfl | rfl | rfl | rfl | rfl | rfl
  · exact h1 _ (Nat.mod_lt _ (by decide))
  all_goals first | exact h2 _ | exact h3 _ | exact h4 _ _ _
theorem okL_row (m : Nat → Nat) (who n : Nat) : okL (rowL m who n) := by
  unfold rowL
  refine okL_app (okL_app (okL_app (okL_sg _) (by intro c hc; simp at hc; omega)) ?_) ?_
  · have h : ∀ l : List Nat, l ∈ [[47, 97], [47, 97, 98], [47, 97, 47, 97], [47, 97, 47, 97, 98], [47, 97, 98, 47, 97], [47, 97, 98, 47, 97, 98], [47]] → okL l := by unfold okL; decide
    apply h
    unfold pl
    split <;> decide
  · split
    · unfold okL; decide
    · intro c hc; cases hc
theorem tails_facts {mm k : Nat} {p c : List Nat} {steps ts : List (List Nat)} {slash : Bool} (h : Inv mm p steps slash ts c k) (hm : mm ≤ 4) :
    (∀ t ∈ ts.reverse ++ (if slash then [[]] else []), t ∈ plTab ∨ t ∈ glTab) ∧ (ts.reverse ++ (if slash then [[]] else [])).length ≤ 9 := by
  have few := h.few
  refine ⟨?_, ?_⟩
  · intro t ht
    rcases List.mem_append.mp ht with ht | ht
    · exact tails_ok (h.tl.all t (by simpa using ht))
    · cases slash
      · simp at ht
      · simp at ht; rw [ht]; exact .inl (by decide)
  · rw [List.length_append, List.length_reverse]
    cases slash <;> simp <;> omega

noncomputable def wC : List Slot → Option Bool := fun ρ => (((getv 3 ρ).bind fun a => Option.map (fun x => a :: x) ((getv 4 ρ).bind fun a => Option.map (fun x => a :: x) ((getv 8 ρ).bind fun a => Option.map (fun x => a :: x) ((getv 10 ρ).bind fun a => Option.map (fun x => a :: x) (some []))))).bind PF__law_told).bind
  fun a => (((getv 2 ρ).bind fun a => Option.map (fun x => a :: x) ((((getv 7 ρ).bind fun a => Option.map (fun x => a :: x) (some [])).bind PF__law_steps).bind fun a => Option.map (fun x => a :: x) ((getv 10 ρ).bind fun a => Option.map (fun x => a :: x) (some [])))).bind PF__law_due).bind fun b => vCmp CmpOp.NotEq a b
noncomputable abbrev wS (m : Nat → Nat) (a0 a1 a5 a6 : V) (q : Slot) (parts path : V) (d9 d10 : Slot) : List Slot := [.val a0, .val a1, .val (mdV m), .val (wd m), q, .val a5, .val a6, .val parts, .val path, d9, d10]
variable {m : Nat → Nat} {who : Nat} {a0 a1 a5 a6 : V} {d9 d10 : Slot}
theorem wC_at {ps : List Ent} (hp : ∀ e ∈ ps, e ∈ PT) (hl : ps.length ≤ 4) (hlen : (ps.foldl pthF [47]).length ≤ 4000) (hw : who < 3) :
    wC (wS m a0 a1 a5 a6 (.val (sd m)) (.lst (ps.map pV)) (.str (tx (ps.foldl pthF [47]))) d9 (.val (nV who))) = some false := by
  obtain ⟨ts, c, k, h⟩ := inv_fold ps 0 [47] ([], false) [] [47] 0 inv_root hp
  have hm : 0 + ps.length ≤ 4 := by omega
  have h1 := told_v (m := m) h hlen hm hw
  have h2 := steps_v hp hl
  obtain ⟨f1, f2⟩ := tails_facts h hm
  have h3 := due_v (m := m) f1 f2 hw
  have e0 : finS (ps.foldl stp ([], false)) = (ts.reverse ++ (if (ps.foldl stp ([], false)).2 then [[]] else [])).map stepOf := inv_fin h
  rw [e0, List.map_map] at h2
  generalize finds m who (ts.reverse ++ (if (ps.foldl stp ([], false)).2 then [[]] else [])) [1] = fs at h1 h3
  show ((PF__law_told [wd m, sd m, .str (tx (ps.foldl pthF [47])), nV who]).bind fun a => ((Option.map (fun x => mdV m :: x) ((PF__law_steps [.lst (ps.map pV)]).bind fun a => Option.map (fun x => a :: x) (some [nV who]))).bind PF__law_due).bind fun b => vCmp CmpOp.NotEq a b) = _
  rw [h1, h2, Option.bind_some, Option.bind_some]
  show (PF__law_due [mdV m, .lst ((ts.reverse ++ (if (ps.foldl stp ([], false)).2 then [[]] else [])).map fun t => .str (tx (stepOf t))), nV who]).bind (fun b => vCmp CmpOp.NotEq _ b) = _
  rw [h3, Option.bind_some]
  have e1 : fs.map (rowT m who) = (fs.map (rowL m who)).map sv := by rw [List.map_map]; rfl
  have ok : okS (fs.map (rowL m who)) := fun l hl => by
    obtain ⟨n, _, rfl⟩ := List.mem_map.mp hl
    exact okL_row m who n
  show (vEq (.lst (fs.map (rowT m who))) (.lst (fs.map (rowT m who)))).map _ = _
  rw [e1, vEq_sv ok ok]
  simp

noncomputable def wBody : PS := pSeq (fun ρ => pIf wC (pSeq (fun ρ => Option.map (fun v => (PF.ret v, ρ)) (some (V.bool false))) fun ρ => some (PF.next, ρ)) (fun ρ => some (PF.next, ρ)) (frz 4 ρ)) fun ρ => some (PF.next, ρ)
noncomputable def gBody : PS := pSeq (pSet 8 fun ρ => ((getv 8 ρ).bind fun a => Option.map (fun x => a :: x) (((getv 9 ρ).bind fun a => (some (V.int 0)).bind fun b => vIdx a b).bind fun a => Option.map (fun x => a :: x) (some []))).bind PF_join) fun ρ => some (PF.next, ρ)
noncomputable def nBody : PS := pSeq (pSet 7 fun ρ => ((getv 6 ρ).bind fun a => Option.map (fun x => a :: x) (some [])).bind PF__law_parts) (pSeq (pSet 8 fun _ => some (V.str (Str.ofString "/")))
  (pSeq (fun ρ => ((getv 7 ρ).bind itemsOf).bind fun vs => pFor (paN 9) gBody (fun ρ => some (PF.next, ρ)) vs ρ)
  (pSeq (fun ρ => (Option.map rngV (((some (V.int 3)).bind fun a => Option.map (fun x => a :: x) (some [])).bind rngOf)).bind fun vs => pFor (paN 10) wBody (fun ρ => some (PF.next, ρ)) vs ρ) fun ρ => some (PF.next, ρ))))

noncomputable abbrev QS (m : Nat → Nat) : Slot := .ownd [(tx (pl 1), .str (sg (m 1))), (tx (pl 2), .str (sg (m 2))), (tx (pl 3), .str (sg (m 3))), (tx (pl 4), .str (sg (m 4))), (tx (pl 5), .str (sg (m 5))), (tx (pl 6), .str (sg (m 6))), (tx (pl 7), .str (sg (m 7)))]
theorem joinL_ne {p b : List Nat} (h : p ≠ []) : joinL p b ≠ [] ∧ (joinL p b).length ≤ p.length + 1 + b.length := by
  unfold joinL
  split
  · rename_i hb
    refine ⟨fun e => ?_, by omega⟩
    rw [e] at hb; simp at hb
  · split
    · exact ⟨by simp [h], by simp only [List.length_append]; omega⟩
    · exact ⟨by simp, by simp only [List.length_append, List.length_cons]; omega⟩
theorem gBody_at {q : Slot} (hq : q = QS m ∨ q = .val (sd m)) (parts : V) {p : List Nat} {e : Ent} (hj : PF_join [.str (tx p), .str (tx e.1)] = some (.str (tx (joinL p e.1)))) :
    gBody (wS m a0 a1 a5 a6 q parts (.str (tx p)) (.val (pV e)) d10) = some (.next, wS m a0 a1 a5 a6 q parts (.str (tx (joinL p e.1))) (.val (pV e)) (clr 8 d10)) := by
  have h : ((getv 8 (wS m a0 a1 a5 a6 q parts (.str (tx p)) (.val (pV e)) d10)).bind fun a => Option.map (fun x => a :: x) (((getv 9 (wS m a0 a1 a5 a6 q parts (.str (tx p)) (.val (pV e)) d10)).bind fun a => (some (V.int 0)).bind fun b => vIdx a b).bind fun a => Option.map (fun x => a :: x) (some []))).bind PF_join = some (.str (tx (joinL p e.1))) := by
    have e1 : ((getv 8 (wS m a0 a1 a5 a6 q parts (.str (tx p)) (.val (pV e)) d10)).bind fun a => Option.map (fun x => a :: x) (((getv 9 (wS m a0 a1 a5 a6 q parts (.str (tx p)) (.val (pV e)) d10)).bind fun a => (some (V.int 0)).bind fun b => vIdx a b).bind fun a => Option.map (fun x => a :: x) (some []))) = some [.str (tx p), .str (tx e.1)] := by kernel_rfl
    rw [e1, Option.bind_some, hj]
  unfold gBody
  refine pSeq_n (ρ1 := wS m a0 a1 a5 a6 q parts (.str (tx (joinL p e.1))) (.val (pV e)) (clr 8 d10)) (pSet_i h ?_) rfl
  rcases hq with rfl | rfl <;> rfl
theorem path_loop {q : Slot} (hq : q = QS m ∨ q = .val (sd m)) (parts : V) : ∀ (ps : List Ent) (p : List Nat) (d9 d10 : Slot), (∀ e ∈ ps, e ∈ PT) → p ≠ [] → p.length + 10 * ps.length ≤ 1000 →
    (∃ e9 e10, pFor (paN 9) gBody (fun ρ => some (PF.next, ρ)) (ps.map pV) (wS m a0 a1 a5 a6 q parts (.str (tx p)) d9 d10) = some (.next, wS m a0 a1 a5 a6 q parts (.str (tx (ps.foldl pthF p))) e9 e10)) ∧ (ps.foldl pthF p).length ≤ 1000
  | [], p, d9, d10, _, _, h => ⟨⟨d9, d10, rfl⟩, by simp at h; exact h⟩
  | e :: ps, p, d9, d10, hp, hne, hl => by
    simp only [List.length_cons] at hl
    have he := hp e (by simp)
    have h9 := (PT_len e he).1
    obtain ⟨j1, j2⟩ := joinL_ne (b := e.1) hne
    obtain ⟨⟨e9, e10, ih⟩, il⟩ := path_loop hq parts ps (joinL p e.1) (.val (pV e)) (clr 8 (clr 9 d10)) (fun e he => hp e (by simp [he])) j1 (by omega)
    have hj := join_s p e.1 hne (by omega)
    refine ⟨⟨e9, e10, ?_⟩, il⟩
    rcases hq with rfl | rfl
    · exact pFor_c (ρ1 := wS m a0 a1 a5 a6 (QS m) parts (.str (tx p)) (.val (pV e)) (clr 9 d10)) rfl (gBody_at (.inl rfl) parts hj) ih
    · exact pFor_c (ρ1 := wS m a0 a1 a5 a6 (.val (sd m)) parts (.str (tx p)) (.val (pV e)) (clr 9 d10)) rfl (gBody_at (.inr rfl) parts hj) ih
theorem wBody_at {q : Slot} (hq : q = QS m ∨ q = .val (sd m)) {ps : List Ent} (hp : ∀ e ∈ ps, e ∈ PT) (hl : ps.length ≤ 4) (hlen : (ps.foldl pthF [47]).length ≤ 4000) (hw : who < 3) :
    wBody (wS m a0 a1 a5 a6 q (.lst (ps.map pV)) (.str (tx (ps.foldl pthF [47]))) d9 (.val (nV who))) = some (.next, wS m a0 a1 a5 a6 (.val (sd m)) (.lst (ps.map pV)) (.str (tx (ps.foldl pthF [47]))) d9 (.val (nV who))) := by
  have h := wC_at (m := m) (a0 := a0) (a1 := a1) (a5 := a5) (a6 := a6) (d9 := d9) hp hl hlen hw
  rcases hq with rfl | rfl
  · exact pSeq_n (pIf_f h rfl) rfl
  · exact pSeq_n (pIf_f h rfl) rfl
theorem nBody_at {q : Slot} (hq : q = QS m ∨ q = .val (sd m)) (n : Nat) (d7 d8 : Slot) : ∃ e7 e8 e9 e10,
    nBody [.val a0, .val a1, .val (mdV m), .val (wd m), q, .val a5, .val (nV n), d7, d8, d9, d10] = some (.next, [.val a0, .val a1, .val (mdV m), .val (wd m), .val (sd m), .val a5, .val (nV n), e7, e8, e9, e10]) := by
  have hp : ∀ e ∈ prts n, e ∈ PT := fun e he => by
    obtain ⟨k, _, rfl⟩ := List.mem_map.mp he
    exact prt_mem n k
  have hl : (prts n).length ≤ 4 := by
    unfold prts
    rw [List.length_map, List.length_range]
    have := Nat.mod_lt n (show 4 > 0 by decide)
    omega
  obtain ⟨⟨e9, e10, e⟩, il⟩ := path_loop (m := m) (a0 := a0) (a1 := a1) (a5 := a5) (a6 := nV n) hq (.lst ((prts n).map pV)) (prts n) [47] (clr 8 (clr 7 d9)) (clr 8 (clr 7 d10)) hp (by simp) (by simp; omega)
  have w0 := wBody_at (m := m) (a0 := a0) (a1 := a1) (a5 := a5) (a6 := nV n) (who := 0) (d9 := clr 10 e9) hq hp hl (by omega) (by decide)
  have w1 := wBody_at (m := m) (a0 := a0) (a1 := a1) (a5 := a5) (a6 := nV n) (who := 1) (d9 := clr 10 (clr 10 e9)) (.inr rfl) hp hl (by omega) (by decide)
  have w2 := wBody_at (m := m) (a0 := a0) (a1 := a1) (a5 := a5) (a6 := nV n) (who := 2) (d9 := clr 10 (clr 10 (clr 10 e9))) (.inr rfl) hp hl (by omega) (by decide)
  refine ⟨.val (.lst ((prts n).map pV)), .val (.str (tx ((prts n).foldl pthF [47]))), clr 10 (clr 10 (clr 10 e9)), .val (nV 2), ?_⟩
  have fin : pSeq (fun ρ => (Option.map rngV (((some (V.int 3)).bind fun a => Option.map (fun x => a :: x) (some [])).bind rngOf)).bind fun vs => pFor (paN 10) wBody (fun ρ => some (PF.next, ρ)) vs ρ) (fun ρ => some (PF.next, ρ))
      (wS m a0 a1 a5 (nV n) q (.lst ((prts n).map pV)) (.str (tx ((prts n).foldl pthF [47]))) e9 e10) = some (.next, wS m a0 a1 a5 (nV n) (.val (sd m)) (.lst ((prts n).map pV)) (.str (tx ((prts n).foldl pthF [47]))) (clr 10 (clr 10 (clr 10 e9))) (.val (nV 2))) := by
    refine pSeq_n (bind_e (x := [nV 0, nV 1, nV 2]) (by kernel_rfl) ?_) rfl
    rcases hq with rfl | rfl
    · exact pFor_c rfl w0 (pFor_c rfl w1 (pFor_c rfl w2 rfl))
    · exact pFor_c rfl w0 (pFor_c rfl w1 (pFor_c rfl w2 rfl))
  rcases hq with rfl | rfl
  · refine pSeq_n (ρ1 := [.val a0, .val a1, .val (mdV m), .val (wd m), QS m, .val a5, .val (nV n), .val (.lst ((prts n).map pV)), clr 7 d8, clr 7 d9, clr 7 d10]) (pSet_i (parts_v n) rfl) ?_
    refine pSeq_n (ρ1 := wS m a0 a1 a5 (nV n) (QS m) (.lst ((prts n).map pV)) (.str (tx [47])) (clr 8 (clr 7 d9)) (clr 8 (clr 7 d10))) (pSet_i (v := .str (tx [47])) (by rw [slash_tx]) rfl) ?_
    exact pSeq_n e fin
  · refine pSeq_n (ρ1 := [.val a0, .val a1, .val (mdV m), .val (wd m), .val (sd m), .val a5, .val (nV n), .val (.lst ((prts n).map pV)), clr 7 d8, clr 7 d9, clr 7 d10]) (pSet_i (parts_v n) rfl) ?_
    refine pSeq_n (ρ1 := wS m a0 a1 a5 (nV n) (.val (sd m)) (.lst ((prts n).map pV)) (.str (tx [47])) (clr 8 (clr 7 d9)) (clr 8 (clr 7 d10))) (pSet_i (v := .str (tx [47])) (by rw [slash_tx]) rfl) ?_
    exact pSeq_n e fin
end Mine
end

section
namespace Mine
open PySem PySem.Calls PySem.Spec PySem.W PyProof.Rows
set_option maxRecDepth 100000

theorem pUpd_i {i : Nat} {pk pv : List Slot → Option V} {ρ ρ' : List Slot} {l : List (PySem.Str × V)} {k : PySem.Str} {v : V} (h1 : getownd i ρ = some l) (h2 : pk ρ = some (.str k)) (h3 : pv ρ = some v) (h4 : l.length < 4096) (e : ρ.set i (.ownd (vStore l k v)) = ρ') : pUpd i pk pv ρ = some (.next, ρ') := by
  unfold pUpd
  rw [h1, h2, h3, Option.bind_some, Option.bind_some, Option.bind_some]
  dsimp only
  rw [if_pos h4, e]
noncomputable abbrev zS (a0 a1 : V) (m : Nat → Nat) (l : List (PySem.Str × V)) (d5 : Slot) : List Slot := [.val a0, .val a1, .val (mdV m), .val (wd m), .ownd l, d5, .unb, .unb, .unb, .unb, .unb]
noncomputable def zBody : PS := pSeq (pUpd 4 (getv 5) fun ρ => ((getv 3 ρ).bind fun a => (getv 5 ρ).bind fun b => vIdx a b).bind fun v => PF_filemode [v]) fun ρ => some (PF.next, ρ)
noncomputable def zL (m : Nat → Nat) (k : Nat) : List (PySem.Str × V) := (List.range k).map fun i => (tx (pl (i + 1)), .str (sg (m (i + 1))))
theorem zBody_at (a0 a1 : V) (m : Nat → Nat) (k : Nat) (hk : k < 7) (hs : vStore (zL m k) (tx (pl (k + 1))) (.str (sg (m (k + 1)))) = zL m (k + 1)) :
    zBody (zS a0 a1 m (zL m k) (.val (plV (k + 1)))) = some (.next, zS a0 a1 m (zL m (k + 1)) (.val (plV (k + 1)))) := by
  refine pSeq_n (ρ1 := zS a0 a1 m (zL m (k + 1)) (.val (plV (k + 1)))) (pUpd_i (l := zL m k) (k := tx (pl (k + 1))) (v := .str (sg (m (k + 1)))) rfl rfl ?_ ?_ ?_) rfl
  · show (vIdx (wd m) (plV (k + 1))).bind (fun v => PF_filemode [v]) = _
    rw [wd_at m _ (by omega), Option.bind_some, filemode_v]
  · unfold zL; rw [List.length_map, List.length_range]; omega
  · rw [hs]; rfl
theorem z_loop (a0 a1 : V) (m : Nat → Nat) : pFor (paN 5) zBody (fun ρ => some (PF.next, ρ)) ([1, 2, 3, 4, 5, 6, 7].map plV) (zS a0 a1 m [] .unb) = some (.next, zS a0 a1 m (zL m 7) (.val (plV 7))) := by
  refine pFor_c (ρ1 := zS a0 a1 m (zL m 0) (.val (plV 1))) rfl (zBody_at a0 a1 m 0 (by decide) (by kernel_rfl)) ?_
  refine pFor_c (ρ1 := zS a0 a1 m (zL m 1) (.val (plV 2))) rfl (zBody_at a0 a1 m 1 (by decide) (by kernel_rfl)) ?_
  refine pFor_c (ρ1 := zS a0 a1 m (zL m 2) (.val (plV 3))) rfl (zBody_at a0 a1 m 2 (by decide) (by kernel_rfl)) ?_
  refine pFor_c (ρ1 := zS a0 a1 m (zL m 3) (.val (plV 4))) rfl (zBody_at a0 a1 m 3 (by decide) (by kernel_rfl)) ?_
  refine pFor_c (ρ1 := zS a0 a1 m (zL m 4) (.val (plV 5))) rfl (zBody_at a0 a1 m 4 (by decide) (by kernel_rfl)) ?_
  refine pFor_c (ρ1 := zS a0 a1 m (zL m 5) (.val (plV 6))) rfl (zBody_at a0 a1 m 5 (by decide) (by kernel_rfl)) ?_
  refine pFor_c (ρ1 := zS a0 a1 m (zL m 6) (.val (plV 7))) rfl (zBody_at a0 a1 m 6 (by decide) (by kernel_rfl)) ?_
  rfl
theorem zQ (m : Nat → Nat) : Slot.ownd (zL m 7) = QS m := by kernel_rfl

theorem law_v (xs : List Int) (hl : xs.length ≤ 63) : PF_law [.lst (xs.map .int)] = some (.bool true) := by
  obtain ⟨f, hf⟩ := numbers_v xs hl
  have hm := modes_v f
  generalize (fun n => mo (f (n + 1))) = m at hm
  have hw := world_v m
  have hz := z_loop (.lst (xs.map .int)) (l9 f) m
  unfold zS at hz
  rw [zQ] at hz
  obtain ⟨e7, e8, e9, e10, n1⟩ := nBody_at (m := m) (a0 := .lst (xs.map .int)) (a1 := l9 f) (a5 := plV 7) (d9 := .unb) (d10 := .unb) (.inl rfl) (f 0) .unb .unb
  obtain ⟨g7, g8, g9, g10, n2⟩ := nBody_at (m := m) (a0 := .lst (xs.map .int)) (a1 := l9 f) (a5 := plV 7) (d9 := clr 6 e9) (d10 := clr 6 e10) (.inr rfl) (f 1) (clr 6 e7) (clr 6 e8)
  unfold PF_law BD_law; dsimp only
  refine pfun_e (ρ := [.val (.lst (xs.map .int)), .val (l9 f), .val (mdV m), .val (wd m), .val (sd m), .val (plV 7), .val (nV (f 1)), g7, g8, g9, g10]) rfl ?_
  refine pSeq_n (ρ1 := [.val (.lst (xs.map .int)), .val (l9 f), .unb, .unb, .unb, .unb, .unb, .unb, .unb, .unb, .unb]) (pSet_i (bind_e (x := [.lst (xs.map .int)]) rfl hf) rfl) ?_
  refine pSeq_n (ρ1 := [.val (.lst (xs.map .int)), .val (l9 f), .val (mdV m), .unb, .unb, .unb, .unb, .unb, .unb, .unb, .unb]) (pSet_i (bind_e (x := [l9 f]) rfl hm) rfl) ?_
  refine pSeq_n (ρ1 := [.val (.lst (xs.map .int)), .val (l9 f), .val (mdV m), .val (wd m), .unb, .unb, .unb, .unb, .unb, .unb, .unb]) (pSet_i (bind_e (x := [mdV m]) rfl hw) rfl) ?_
  refine pSeq_n (ρ1 := zS (.lst (xs.map .int)) (l9 f) m [] .unb) rfl ?_
  refine pSeq_n (bind_e (wd_items m) ((congrArg (fun B => pFor (paN 5) B (fun ρ => some (PF.next, ρ)) _ _) (by unfold zBody; rfl : _ = zBody)).trans hz)) ?_
  refine pSeq_n (bind_e (x := [nV (f 0), nV (f 1)]) (by kernel_rfl) ((congrArg (fun B => pFor (paN 6) B (fun ρ => some (PF.next, ρ)) _ _) (by unfold nBody gBody wBody wC; rfl : _ = nBody)).trans (pFor_c rfl n1 (pFor_c rfl n2 rfl)))) ?_
  exact pSeq_r rfl
end Mine
end

section
namespace Mine
open PySem PySem.Calls PySem.Spec PySem.W PyProof.Rows
set_option maxRecDepth 100000

theorem wellAll_ints {P : Params} {h : Heap} {w : World} {B : Pm} : ∀ (ns : List Int) (vs : List Value), WellAll P h vs (ofPys (ns.map PyData.int)) → VRs w B (ns.map V.int) vs
  | [], vs, x => by
    cases x; exact .nil
  | n :: ns, vs, x => by
    cases x with
    | cons a b =>
      cases a
      exact .cons (.int _ _) (wellAll_ints ns _ b)

theorem law_call {prog : Program} {w : World} {mg mb : Str → Option Value} {s : Shared} {a : Addr} {ns : List Int} {Q E : Value → Shared → Prop}
    (X : (KK w.params).In s.heap) (hT : s.heap.get? 111 = some (tabObj #[])) (hW : Well w.params s.heap (.ref a) (ofPy (.list (ns.map .int)))) (hl : ns.length ≤ 63)
    (hg : s.heap.Ns mainGlobals mg) (hb : s.heap.Ns builtinsNs mb) (hlim : s.heap.NoLimit) (hboot : ∀ x : Str, x ≠ "__name__" → mb x = bootBuiltins x)
    (hbm : ∃ bm ob, mg "__builtins__" = some (.ref bm) ∧ bm ≠ builtinsNs ∧ s.heap.get? bm = some ob ∧ ob.cls = .type "module" ∧ ob.dict = some builtinsNs ∧ ob.data = .plain)
    (k : ∀ s', OldK s.heap s'.heap → s'.os = s.os → (AllBare s.gens → AllBare s'.gens) → Q (.bool true) s') :
    wpAny (model prog w) callerA (call (.ref 321) [.ref a]) Q E s := by
  have tab0 : ∀ b o, s.heap.get? b = some o → o.cls ≠ .none ∨ (∃ es n, o.data = .dict es n) → b ≠ 111 := fun b o e h q => by
    rw [q, hT] at e; cases e
    rcases h with h | ⟨es, n, h⟩
    · exact h rfl
    · cases h
  let B : Pm := fun b => if b = 111 then none else s.heap.get? b
  have hB : ∀ b o, b ≠ 111 → s.heap.get? b = some o → B b = some o := fun b o h e => by
    show (if b = 111 then none else s.heap.get? b) = some o
    rw [if_neg h]; exact e
  have hBs : ∀ b o, B b = some o → b ≠ 111 ∧ s.heap.get? b = some o := fun b o e => by
    have e : (if b = 111 then none else s.heap.get? b) = some o := e
    by_cases h : b = 111
    · rw [if_pos h] at e; cases e
    · rw [if_neg h] at e; exact ⟨h, e⟩
  have inB : ∀ a o, (KK w.params).lookup a = some o → B a = some o := fun b o e => by
    refine hB b o (fun q => ?_) (X b o e)
    rw [q] at e
    have : (KK w.params).lookup 111 = none := by kernel_rfl
    rw [this] at e; cases e
  have nsUp : ∀ {h : Heap} {b : Addr} {f : Str → Option Value}, Sub B h → s.heap.Ns b f → h.Ns b f := fun {h b f} sb ⟨o, es, ep, e, hd, r⟩ => ⟨o, es, ep, sb _ _ (hB _ _ (tab0 _ _ e (.inr ⟨_, _, hd⟩)) e), hd, r⟩
  have g0 : G0 (KK w.params) mg mb B s := by
    refine ⟨fun b o e => (hBs b o e).2, ⟨fun h sb => ⟨fun b o e => sb b o (inB b o e), nsUp sb hg, nsUp sb hb, hboot, ?_, ?_⟩, inB⟩, if_pos rfl, ⟨#[], hT, True.intro⟩⟩
    · obtain ⟨mc, h1, h2⟩ := hlim
      exact ⟨mc, nsUp sb h1, h2⟩
    · obtain ⟨bm, ob, h1, h2, h3, h4, h5, h6⟩ := hbm
      have hne : bm ≠ 111 := tab0 _ _ h3 (.inl (by rw [h4]; nofun))
      exact ⟨bm, ob, h1, h2, hne, sb _ _ (hB _ _ hne h3), h4, h5, h6⟩
  have vr : VRs w B [.lst (ns.map .int)] [.ref a] := by
    refine .cons ?_ .nil
    have hW : Well w.params s.heap (.ref a) (.list (ofPys (ns.map .int))) := hW
    cases hW with
    | list e al => exact .lst (hB _ _ (tab0 _ _ e (.inl (by nofun))) e) (wellAll_ints ns _ al)
  refine FN_law prog w w.params mg mb callerA _ _ B s Q E _ ⟨rfl, by decide, by decide⟩ g0 vr (law_v ns hl) fun val s' B' g' l kp _ v => ?_
  cases v
  refine k s' ⟨fun b o e => ?_, fun b o e => ?_⟩ kp.os kp.bare
  · by_cases h : b = 111
    · subst h
      rw [hT] at e; cases e
      obtain ⟨ps, hps, _⟩ := g'.tab
      have ct : isCodeTable s.heap 111 := ((cHd s.heap X).tab hT).isCodeTable
      exact .inr (.inl ⟨ct, rfl, #[], ps, rfl, by rw [Array.empty_append]; exact hps⟩)
    · exact .inl (kp.keep b o (fun _ => h) e)
  · by_cases h : b = 111
    · subst h
      obtain ⟨ps, hps, _⟩ := g'.tab
      exact ⟨_, hps⟩
    · exact ⟨o, kp.keep b o (fun _ => h) e⟩
end Mine

set_option maxHeartbeats 8000000 in
theorem PySem.Challenge.cw_in0238_01_holds : PySem.Challenge.rw_in0238_01.Holds :=
  Mine.hd2 (by
  intro w s₀ s₁ mg mb G Y fa o pm cd doc dV kV ho hd hcd hD hmg hg args vals as hpre hlay hrd hwl hlo
  open PySem PySem.W PyProof.Rows in
  have hfa := mg_of (v := .ref 321) (n := "law") (km_in_of Y) G.T.g (by kernel_rfl)
  have hmg2 : mg "law" = some (.ref fa) := hmg
  rw [hfa] at hmg2
  cases hmg2
  clear hd hcd hD ho hmg hfa
  have T := G.T
  wrow_args hpre hlay hrd hwl hlo
  rename_i ns _ _ _ _ _ _ _ a _ _ _ _ hWell _ _ _ hlen _
  refine Mine.law_call (W.km_in_of Y) (W.km_tabs_of Y 111 (List.Mem.head _)) hWell (by omega) T.g T.b T.nolimit T.builtins T.bmain fun s' hk hos hb => ?_
  exact ⟨.inl ⟨.bool true, .bool true, [], rfl, fun _ => rfl, .bool true, (by kernel_rfl), fun _ => ⟨.nil, fun _ h => nomatch h⟩⟩, hk, hos, hb (PyProof.Rows.AllBare.of_eq hg)⟩)
end
