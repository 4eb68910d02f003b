import PyProof.Rows.All
import Wide.All
import OpenK.AllK
import Wide.FinOn
import PySem.Str
import PySem.Builtin.Sre.Common
import PyProof.TableCode
import PyProof.ListIndexNeg
import KE.KCallBy
import KE.KEqSeq
import KE.KIntText
import KE.KSetAt
import PySem.Challenge.RW_oy0446_01
set_option Elab.async false
set_option maxRecDepth 100000
set_option linter.unusedVariables false
set_option compiler.extract_closed false
namespace Mine
section
open PySem PySem.W PyProof.Rows PySem.Calls
abbrev pw : Program := PySem.Challenge.pw_oy0446_01
noncomputable def noStmt : Stmt := .Pass ⟨0, 0, 0, 0⟩
noncomputable def clsBody : Stmt → List Stmt | .ClassDef _ _ _ b .. => b | _ => []
noncomputable def atTop (i : Nat) : Stmt := pw.main.body.getD i noStmt
noncomputable def inCls (i j : Nat) : Stmt := (clsBody (atTop i)).getD j noStmt
noncomputable def fdParams : Stmt → Arguments | .FunctionDef _ a .. => a | _ => ⟨[], [], none, [], [], none, []⟩
noncomputable def fdBody : Stmt → List Stmt | .FunctionDef _ _ b .. => b | _ => []
noncomputable def fdScope : Stmt → Scope | .FunctionDef _ _ _ _ _ _ sc .. => sc | _ => { kind := .module, names := [], isGenerator := false, isCoroutine := false }
noncomputable def fnOf (st : Stmt) (name qual : Str) (g : Addr) (clo : List (Str × Addr)) (d kd doc pm : Value) (ann : Option Addr) (code ct : Value) (b : Addr) : FuncData :=
  { name := name, qualname := qual, params := fdParams st, body := .stmts (fdBody st), scope := fdScope st, globals := g, closure := clo, defaults := d, kwdefaults := kd, doc := doc, pyModule := pm, annotations := ann, code := code, closureTuple := ct, builtins := b }
noncomputable def b_0 (P : Params) : Obj := ⟨.type "dict", none, .dict #[⟨PyData.keyHash P "__name__", .str "__name__" 1, .str "builtins" 160⟩, ⟨PyData.keyHash P "__doc__", .str "__doc__" 2, .builtin "builtins.__doc__:str#opaque"⟩, ⟨PyData.keyHash P "__package__", .str "__package__" 3, .builtin "builtins.__package__:str#opaque"⟩, ⟨PyData.keyHash P "__loader__", .str "__loader__" 4, .builtin "builtins.__loader__:shared#opaque"⟩, ⟨PyData.keyHash P "__spec__", .str "__spec__" 5, .builtin "builtins.__spec__#opaque"⟩, ⟨PyData.keyHash P "__build_class__", .str "__build_class__" 6, .builtin "__build_class__"⟩, ⟨PyData.keyHash P "__import__", .str "__import__" 7, .builtin "__import__"⟩, ⟨PyData.keyHash P "abs", .str "abs" 8, .builtin "abs"⟩, ⟨PyData.keyHash P "all", .str "all" 9, .builtin "all"⟩, ⟨PyData.keyHash P "any", .str "any" 10, .builtin "any"⟩, ⟨PyData.keyHash P "ascii", .str "ascii" 11, .builtin "ascii"⟩, ⟨PyData.keyHash P "bin", .str "bin" 12, .builtin "bin"⟩, ⟨PyData.keyHash P "breakpoint", .str "breakpoint" 13, .builtin "breakpoint"⟩, ⟨PyData.keyHash P "callable", .str "callable" 14, .builtin "callable"⟩, ⟨PyData.keyHash P "chr", .str "chr" 15, .builtin "chr"⟩, ⟨PyData.keyHash P "compile", .str "compile" 16, .builtin "compile"⟩, ⟨PyData.keyHash P "delattr", .str "delattr" 17, .builtin "delattr"⟩, ⟨PyData.keyHash P "dir", .str "dir" 18, .builtin "dir"⟩, ⟨PyData.keyHash P "divmod", .str "divmod" 19, .builtin "divmod"⟩, ⟨PyData.keyHash P "eval", .str "eval" 20, .builtin "eval"⟩, ⟨PyData.keyHash P "exec", .str "exec" 21, .builtin "exec"⟩, ⟨PyData.keyHash P "format", .str "format" 22, .builtin "format"⟩, ⟨PyData.keyHash P "getattr", .str "getattr" 23, .builtin "getattr"⟩, ⟨PyData.keyHash P "globals", .str "globals" 24, .builtin "globals"⟩, ⟨PyData.keyHash P "hasattr", .str "hasattr" 25, .builtin "hasattr"⟩, ⟨PyData.keyHash P "hash", .str "hash" 26, .builtin "hash"⟩, ⟨PyData.keyHash P "hex", .str "hex" 27, .builtin "hex"⟩, ⟨PyData.keyHash P "id", .str "id" 28, .builtin "id"⟩, ⟨PyData.keyHash P "input", .str "input" 29, .builtin "input"⟩, ⟨PyData.keyHash P "isinstance", .str "isinstance" 30, .builtin "isinstance"⟩, ⟨PyData.keyHash P "issubclass", .str "issubclass" 31, .builtin "issubclass"⟩, ⟨PyData.keyHash P "iter", .str "iter" 32, .builtin "iter"⟩, ⟨PyData.keyHash P "aiter", .str "aiter" 33, .builtin "aiter"⟩, ⟨PyData.keyHash P "len", .str "len" 34, .builtin "len"⟩, ⟨PyData.keyHash P "locals", .str "locals" 35, .builtin "locals"⟩, ⟨PyData.keyHash P "max", .str "max" 36, .builtin "max"⟩, ⟨PyData.keyHash P "min", .str "min" 37, .builtin "min"⟩, ⟨PyData.keyHash P "next", .str "next" 38, .builtin "next"⟩, ⟨PyData.keyHash P "anext", .str "anext" 39, .builtin "anext"⟩, ⟨PyData.keyHash P "oct", .str "oct" 40, .builtin "oct"⟩, ⟨PyData.keyHash P "ord", .str "ord" 41, .builtin "ord"⟩, ⟨PyData.keyHash P "pow", .str "pow" 42, .builtin "pow"⟩, ⟨PyData.keyHash P "print", .str "print" 43, .builtin "print"⟩, ⟨PyData.keyHash P "repr", .str "repr" 44, .builtin "repr"⟩, ⟨PyData.keyHash P "round", .str "round" 45, .builtin "round"⟩, ⟨PyData.keyHash P "setattr", .str "setattr" 46, .builtin "setattr"⟩, ⟨PyData.keyHash P "sorted", .str "sorted" 47, .builtin "sorted"⟩, ⟨PyData.keyHash P "sum", .str "sum" 48, .builtin "sum"⟩, ⟨PyData.keyHash P "vars", .str "vars" 49, .builtin "vars"⟩, ⟨PyData.keyHash P "None", .str "None" 50, .none⟩, ⟨PyData.keyHash P "Ellipsis", .str "Ellipsis" 51, .ellipsis⟩, ⟨PyData.keyHash P "NotImplemented", .str "NotImplemented" 52, .notImplemented⟩, ⟨PyData.keyHash P "False", .str "False" 53, .bool false⟩, ⟨PyData.keyHash P "True", .str "True" 54, .bool true⟩, ⟨PyData.keyHash P "bool", .str "bool" 55, .type "bool"⟩, ⟨PyData.keyHash P "memoryview", .str "memoryview" 56, .type "memoryview"⟩, ⟨PyData.keyHash P "bytearray", .str "bytearray" 57, .type "bytearray"⟩, ⟨PyData.keyHash P "bytes", .str "bytes" 58, .type "bytes"⟩, ⟨PyData.keyHash P "classmethod", .str "classmethod" 59, .type "classmethod"⟩, ⟨PyData.keyHash P "complex", .str "complex" 60, .type "complex"⟩, ⟨PyData.keyHash P "dict", .str "dict" 61, .type "dict"⟩, ⟨PyData.keyHash P "enumerate", .str "enumerate" 62, .type "enumerate"⟩, ⟨PyData.keyHash P "filter", .str "filter" 63, .type "filter"⟩, ⟨PyData.keyHash P "float", .str "float" 64, .type "float"⟩, ⟨PyData.keyHash P "frozenset", .str "frozenset" 65, .type "frozenset"⟩, ⟨PyData.keyHash P "property", .str "property" 66, .type "property"⟩, ⟨PyData.keyHash P "int", .str "int" 67, .type "int"⟩, ⟨PyData.keyHash P "list", .str "list" 68, .type "list"⟩, ⟨PyData.keyHash P "map", .str "map" 69, .type "map"⟩, ⟨PyData.keyHash P "object", .str "object" 70, .type "object"⟩, ⟨PyData.keyHash P "range", .str "range" 71, .type "range"⟩, ⟨PyData.keyHash P "reversed", .str "reversed" 72, .type "reversed"⟩, ⟨PyData.keyHash P "set", .str "set" 73, .type "set"⟩, ⟨PyData.keyHash P "slice", .str "slice" 74, .type "slice"⟩, ⟨PyData.keyHash P "staticmethod", .str "staticmethod" 75, .type "staticmethod"⟩, ⟨PyData.keyHash P "str", .str "str" 76, .type "str"⟩, ⟨PyData.keyHash P "super", .str "super" 77, .type "super"⟩, ⟨PyData.keyHash P "tuple", .str "tuple" 78, .type "tuple"⟩, ⟨PyData.keyHash P "type", .str "type" 79, .type "type"⟩, ⟨PyData.keyHash P "zip", .str "zip" 80, .type "zip"⟩, ⟨PyData.keyHash P "__debug__", .str "__debug__" 81, .bool true⟩, ⟨PyData.keyHash P "BaseException", .str "BaseException" 82, .type "BaseException"⟩, ⟨PyData.keyHash P "BaseExceptionGroup", .str "BaseExceptionGroup" 83, .type "BaseExceptionGroup"⟩, ⟨PyData.keyHash P "Exception", .str "Exception" 84, .type "Exception"⟩, ⟨PyData.keyHash P "GeneratorExit", .str "GeneratorExit" 85, .type "GeneratorExit"⟩, ⟨PyData.keyHash P "KeyboardInterrupt", .str "KeyboardInterrupt" 86, .type "KeyboardInterrupt"⟩, ⟨PyData.keyHash P "SystemExit", .str "SystemExit" 87, .type "SystemExit"⟩, ⟨PyData.keyHash P "ArithmeticError", .str "ArithmeticError" 88, .type "ArithmeticError"⟩, ⟨PyData.keyHash P "AssertionError", .str "AssertionError" 89, .type "AssertionError"⟩, ⟨PyData.keyHash P "AttributeError", .str "AttributeError" 90, .type "AttributeError"⟩, ⟨PyData.keyHash P "BufferError", .str "BufferError" 91, .type "BufferError"⟩, ⟨PyData.keyHash P "EOFError", .str "EOFError" 92, .type "EOFError"⟩, ⟨PyData.keyHash P "ImportError", .str "ImportError" 93, .type "ImportError"⟩, ⟨PyData.keyHash P "LookupError", .str "LookupError" 94, .type "LookupError"⟩, ⟨PyData.keyHash P "MemoryError", .str "MemoryError" 95, .type "MemoryError"⟩, ⟨PyData.keyHash P "NameError", .str "NameError" 96, .type "NameError"⟩, ⟨PyData.keyHash P "OSError", .str "OSError" 97, .type "OSError"⟩, ⟨PyData.keyHash P "ReferenceError", .str "ReferenceError" 98, .type "ReferenceError"⟩, ⟨PyData.keyHash P "RuntimeError", .str "RuntimeError" 99, .type "RuntimeError"⟩, ⟨PyData.keyHash P "StopAsyncIteration", .str "StopAsyncIteration" 100, .type "StopAsyncIteration"⟩, ⟨PyData.keyHash P "StopIteration", .str "StopIteration" 101, .type "StopIteration"⟩, ⟨PyData.keyHash P "SyntaxError", .str "SyntaxError" 102, .type "SyntaxError"⟩, ⟨PyData.keyHash P "SystemError", .str "SystemError" 103, .type "SystemError"⟩, ⟨PyData.keyHash P "TypeError", .str "TypeError" 104, .type "TypeError"⟩, ⟨PyData.keyHash P "ValueError", .str "ValueError" 105, .type "ValueError"⟩, ⟨PyData.keyHash P "Warning", .str "Warning" 106, .type "Warning"⟩, ⟨PyData.keyHash P "FloatingPointError", .str "FloatingPointError" 107, .type "FloatingPointError"⟩, ⟨PyData.keyHash P "OverflowError", .str "OverflowError" 108, .type "OverflowError"⟩, ⟨PyData.keyHash P "ZeroDivisionError", .str "ZeroDivisionError" 109, .type "ZeroDivisionError"⟩, ⟨PyData.keyHash P "BytesWarning", .str "BytesWarning" 110, .type "BytesWarning"⟩, ⟨PyData.keyHash P "DeprecationWarning", .str "DeprecationWarning" 111, .type "DeprecationWarning"⟩, ⟨PyData.keyHash P "EncodingWarning", .str "EncodingWarning" 112, .type "EncodingWarning"⟩, ⟨PyData.keyHash P "FutureWarning", .str "FutureWarning" 113, .type "FutureWarning"⟩, ⟨PyData.keyHash P "ImportWarning", .str "ImportWarning" 114, .type "ImportWarning"⟩, ⟨PyData.keyHash P "PendingDeprecationWarning", .str "PendingDeprecationWarning" 115, .type "PendingDeprecationWarning"⟩, ⟨PyData.keyHash P "ResourceWarning", .str "ResourceWarning" 116, .type "ResourceWarning"⟩, ⟨PyData.keyHash P "RuntimeWarning", .str "RuntimeWarning" 117, .type "RuntimeWarning"⟩, ⟨PyData.keyHash P "SyntaxWarning", .str "SyntaxWarning" 118, .type "SyntaxWarning"⟩, ⟨PyData.keyHash P "UnicodeWarning", .str "UnicodeWarning" 119, .type "UnicodeWarning"⟩, ⟨PyData.keyHash P "UserWarning", .str "UserWarning" 120, .type "UserWarning"⟩, ⟨PyData.keyHash P "BlockingIOError", .str "BlockingIOError" 121, .type "BlockingIOError"⟩, ⟨PyData.keyHash P "ChildProcessError", .str "ChildProcessError" 122, .type "ChildProcessError"⟩, ⟨PyData.keyHash P "ConnectionError", .str "ConnectionError" 123, .type "ConnectionError"⟩, ⟨PyData.keyHash P "FileExistsError", .str "FileExistsError" 124, .type "FileExistsError"⟩, ⟨PyData.keyHash P "FileNotFoundError", .str "FileNotFoundError" 125, .type "FileNotFoundError"⟩, ⟨PyData.keyHash P "InterruptedError", .str "InterruptedError" 126, .type "InterruptedError"⟩, ⟨PyData.keyHash P "IsADirectoryError", .str "IsADirectoryError" 127, .type "IsADirectoryError"⟩, ⟨PyData.keyHash P "NotADirectoryError", .str "NotADirectoryError" 128, .type "NotADirectoryError"⟩, ⟨PyData.keyHash P "PermissionError", .str "PermissionError" 129, .type "PermissionError"⟩, ⟨PyData.keyHash P "ProcessLookupError", .str "ProcessLookupError" 130, .type "ProcessLookupError"⟩, ⟨PyData.keyHash P "TimeoutError", .str "TimeoutError" 131, .type "TimeoutError"⟩, ⟨PyData.keyHash P "IndentationError", .str "IndentationError" 132, .type "IndentationError"⟩, ⟨PyData.keyHash P "_IncompleteInputError", .str "_IncompleteInputError" 133, .type "_IncompleteInputError"⟩, ⟨PyData.keyHash P "IndexError", .str "IndexError" 134, .type "IndexError"⟩, ⟨PyData.keyHash P "KeyError", .str "KeyError" 135, .type "KeyError"⟩, ⟨PyData.keyHash P "ModuleNotFoundError", .str "ModuleNotFoundError" 136, .type "ModuleNotFoundError"⟩, ⟨PyData.keyHash P "NotImplementedError", .str "NotImplementedError" 137, .type "NotImplementedError"⟩, ⟨PyData.keyHash P "PythonFinalizationError", .str "PythonFinalizationError" 138, .type "PythonFinalizationError"⟩, ⟨PyData.keyHash P "RecursionError", .str "RecursionError" 139, .type "RecursionError"⟩, ⟨PyData.keyHash P "UnboundLocalError", .str "UnboundLocalError" 140, .type "UnboundLocalError"⟩, ⟨PyData.keyHash P "UnicodeError", .str "UnicodeError" 141, .type "UnicodeError"⟩, ⟨PyData.keyHash P "BrokenPipeError", .str "BrokenPipeError" 142, .type "BrokenPipeError"⟩, ⟨PyData.keyHash P "ConnectionAbortedError", .str "ConnectionAbortedError" 143, .type "ConnectionAbortedError"⟩, ⟨PyData.keyHash P "ConnectionRefusedError", .str "ConnectionRefusedError" 144, .type "ConnectionRefusedError"⟩, ⟨PyData.keyHash P "ConnectionResetError", .str "ConnectionResetError" 145, .type "ConnectionResetError"⟩, ⟨PyData.keyHash P "TabError", .str "TabError" 146, .type "TabError"⟩, ⟨PyData.keyHash P "UnicodeDecodeError", .str "UnicodeDecodeError" 147, .type "UnicodeDecodeError"⟩, ⟨PyData.keyHash P "UnicodeEncodeError", .str "UnicodeEncodeError" 148, .type "UnicodeEncodeError"⟩, ⟨PyData.keyHash P "UnicodeTranslateError", .str "UnicodeTranslateError" 149, .type "UnicodeTranslateError"⟩, ⟨PyData.keyHash P "ExceptionGroup", .str "ExceptionGroup" 150, .type "ExceptionGroup"⟩, ⟨PyData.keyHash P "EnvironmentError", .str "EnvironmentError" 151, .type "OSError"⟩, ⟨PyData.keyHash P "IOError", .str "IOError" 152, .type "OSError"⟩, ⟨PyData.keyHash P "open", .str "open" 153, .builtin "open"⟩, ⟨PyData.keyHash P "quit", .str "quit" 154, .builtin "builtins.quit#opaque"⟩, ⟨PyData.keyHash P "exit", .str "exit" 155, .builtin "builtins.exit#opaque"⟩, ⟨PyData.keyHash P "copyright", .str "copyright" 156, .builtin "builtins.copyright#opaque"⟩, ⟨PyData.keyHash P "credits", .str "credits" 157, .builtin "builtins.credits#opaque"⟩, ⟨PyData.keyHash P "license", .str "license" 158, .builtin "builtins.license#opaque"⟩, ⟨PyData.keyHash P "help", .str "help" 159, .builtin "builtins.help#opaque"⟩] 159, #[]⟩
noncomputable def b_1 (P : Params) : Obj := ⟨.type "dict", none, .dict #[⟨PyData.keyHash P "builtins", .str "builtins" 162, .ref 4⟩, ⟨PyData.keyHash P "__main__", .str "__main__" 163, .ref 5⟩, ⟨PyData.keyHash P "_sre", .str "_sre" 244, .ref 12⟩, ⟨PyData.keyHash P "_collections", .str "_collections" 292, .ref 30⟩] 4, #[]⟩
noncomputable def b_2 (P : Params) : Obj := ⟨.none, none, .dict #[⟨PyData.keyHash P "\x69mport.loaded._sre", .str "\x69mport.loaded._sre" 183, .bool true⟩, ⟨PyData.keyHash P "class._frozen_importlib.BuiltinImporter", .str "class._frozen_importlib.BuiltinImporter" 185, .ref 14⟩, ⟨PyData.keyHash P "watched.\x69mport", .str "watched.\x69mport" 206, .ref 18⟩, ⟨PyData.keyHash P "class._frozen_importlib.ModuleSpec", .str "class._frozen_importlib.ModuleSpec" 216, .ref 22⟩, ⟨PyData.keyHash P "sys.modules.booked-epoch", .str "sys.modules.booked-epoch" 245, .int 4 0⟩, ⟨PyData.keyHash P "\x69mport.later-laid._sre", .str "\x69mport.later-laid._sre" 270, .bool true⟩, ⟨PyData.keyHash P "watched.library", .str "watched.library" 272, .ref 27⟩, ⟨PyData.keyHash P "watched.library-objects", .str "watched.library-objects" 0, .str "\x0c\x1e" 0⟩, ⟨PyData.keyHash P "watched.library-deep._sre", .str "watched.library-deep._sre" 273, .str "\x04\x00\x00\x0b\x04\x00\x00\x0b\x04\x00\x00\x03\x04\x00\x00\x0b\x08\x04dict\x02" 0⟩, ⟨PyData.keyHash P "\x69mport.loaded._collections", .str "\x69mport.loaded._collections" 280, .bool true⟩, ⟨PyData.keyHash P "sys.modules.landed._collections", .str "sys.modules.landed._collections" 294, .bool true⟩, ⟨PyData.keyHash P "\x69mport.later-laid._collections", .str "\x69mport.later-laid._collections" 309, .bool true⟩, ⟨PyData.keyHash P "watched.library-deep._collections", .str "watched.library-deep._collections" 311, .str "\x04\x00\x00\x1d\x04\x00\x00\x1d\x04\x00\x00\x03\x04\x00\x00\x1d\x08\x04dict\x02" 0⟩] 13, #[]⟩
noncomputable def b_3 (P : Params) : Obj := ⟨.type "dict", none, .dict #[⟨PyData.keyHash P "__name__", .str "__name__" 165, .str "__main__" 164⟩, ⟨PyData.keyHash P "__doc__", .str "__doc__" 166, .none⟩, ⟨PyData.keyHash P "__package__", .str "__package__" 167, .none⟩, ⟨PyData.keyHash P "__loader__", .str "__loader__" 168, .builtin "__main__.__loader__#opaque"⟩, ⟨PyData.keyHash P "__spec__", .str "__spec__" 169, .none⟩, ⟨PyData.keyHash P "__annotations__", .str "__annotations__" 170, .ref 6⟩, ⟨PyData.keyHash P "__builtins__", .str "__builtins__" 171, .ref 4⟩, ⟨PyData.keyHash P "__file__", .str "__file__" 173, .str "/claim/cut.py" 172⟩, ⟨PyData.keyHash P "__cached__", .str "__cached__" 174, .none⟩, ⟨PyData.keyHash P "_sre", .str "_sre" 275, .ref 12⟩, ⟨PyData.keyHash P "deque", .str "deque" 317, .type "collections.deque"⟩] 11, #[]⟩
noncomputable def b_4 (P : Params) : Obj := ⟨.type "module", (some 0), .plain, #[]⟩
noncomputable def b_5 (P : Params) : Obj := ⟨.type "module", (some 3), .plain, #[]⟩
noncomputable def b_6 (P : Params) : Obj := ⟨.type "dict", none, .dict #[] 0, #[]⟩
noncomputable def b_7 (P : Params) : Obj := ⟨.type "tuple", none, .seq #[] 0, #[]⟩
noncomputable def b_8 (P : Params) : Obj := ⟨.none, none, .fields #[], #[]⟩
noncomputable def b_9 (P : Params) : Obj := ⟨.type "code", none, .fields #[.str "<module>" 176, .str "<module>" 177, .str "/claim/cut.py" 178, .int 1 0, .int 0 0, .int 0 0, .int 0 0, .int 0 0, .ref 7, .bool false, .int 175 0, .ref 8, .none, .none, .none, .none, .int 179 0, .int 1 0, .str "/claim/cut.py" 180], #[]⟩
noncomputable def b_10 (P : Params) : Obj := ⟨.type "frame", none, .plain, #[some (.ref 9), some (.ref 3), some (.ref 3), none, some (.str "__main__" 164), none, some (.ref 0)]⟩
noncomputable def b_11 (P : Params) : Obj := ⟨.type "dict", none, .dict #[⟨PyData.keyHash P "__name__", .str "__name__" 247, .str "_sre" 246⟩, ⟨PyData.keyHash P "__doc__", .str "__doc__" 248, .none⟩, ⟨PyData.keyHash P "__package__", .str "__package__" 250, .str "" 249⟩, ⟨PyData.keyHash P "__loader__", .str "__loader__" 251, .builtin "off-the-table:_sre.__loader__:shared#opaque"⟩, ⟨PyData.keyHash P "__spec__", .str "__spec__" 252, .builtin "off-the-table:_sre.__spec__:shared#opaque"⟩, ⟨PyData.keyHash P "compile", .str "compile" 253, .builtin "_sre.compile"⟩, ⟨PyData.keyHash P "template", .str "template" 254, .builtin "off-the-table:_sre.template:shared#opaque"⟩, ⟨PyData.keyHash P "getcodesize", .str "getcodesize" 255, .builtin "off-the-table:_sre.getcodesize:shared#opaque"⟩, ⟨PyData.keyHash P "ascii_iscased", .str "ascii_iscased" 256, .builtin "off-the-table:_sre.ascii_iscased:shared#opaque"⟩, ⟨PyData.keyHash P "unicode_iscased", .str "unicode_iscased" 257, .builtin "off-the-table:_sre.unicode_iscased:shared#opaque"⟩, ⟨PyData.keyHash P "ascii_tolower", .str "ascii_tolower" 258, .builtin "off-the-table:_sre.ascii_tolower:shared#opaque"⟩, ⟨PyData.keyHash P "unicode_tolower", .str "unicode_tolower" 259, .builtin "off-the-table:_sre.unicode_tolower:shared#opaque"⟩, ⟨PyData.keyHash P "MAGIC", .str "MAGIC" 261, .int 20230612 260⟩, ⟨PyData.keyHash P "CODESIZE", .str "CODESIZE" 263, .int 4 262⟩, ⟨PyData.keyHash P "MAXREPEAT", .str "MAXREPEAT" 265, .int 4294967295 264⟩, ⟨PyData.keyHash P "MAXGROUPS", .str "MAXGROUPS" 267, .int 1073741823 266⟩, ⟨PyData.keyHash P "copyright", .str "copyright" 269, .str " SRE 2.2.2 Copyright (c) 1997-2002 by Secret Labs AB " 268⟩] 17, #[]⟩
noncomputable def b_12 (P : Params) : Obj := ⟨.type "module", (some 11), .plain, #[]⟩
noncomputable def b_13 (P : Params) : Obj := ⟨.type "dict", none, .dict #[⟨PyData.keyHash P "__module__", .str "__module__" 189, .str "_frozen_importlib" 186⟩, ⟨PyData.keyHash P "__firstlineno__", .str "__firstlineno__" 190, .int 971 187⟩, ⟨PyData.keyHash P "__doc__", .str "__doc__" 191, .builtin "_frozen_importlib.BuiltinImporter.__doc__:str#opaque"⟩, ⟨PyData.keyHash P "_ORIGIN", .str "_ORIGIN" 192, .str "built-in" 188⟩, ⟨PyData.keyHash P "find_spec", .str "find_spec" 193, .builtin "_frozen_importlib.BuiltinImporter.find_spec#opaque"⟩, ⟨PyData.keyHash P "create_module", .str "create_module" 194, .builtin "_frozen_importlib.BuiltinImporter.create_module#opaque"⟩, ⟨PyData.keyHash P "exec_module", .str "exec_module" 195, .builtin "_frozen_importlib.BuiltinImporter.exec_module#opaque"⟩, ⟨PyData.keyHash P "get_code", .str "get_code" 196, .builtin "_frozen_importlib.BuiltinImporter.get_code#opaque"⟩, ⟨PyData.keyHash P "get_source", .str "get_source" 197, .builtin "_frozen_importlib.BuiltinImporter.get_source#opaque"⟩, ⟨PyData.keyHash P "is_package", .str "is_package" 198, .builtin "_frozen_importlib.BuiltinImporter.is_package#opaque"⟩, ⟨PyData.keyHash P "load_module", .str "load_module" 199, .builtin "_frozen_importlib.BuiltinImporter.load_module#opaque"⟩, ⟨PyData.keyHash P "__static_attributes__", .str "__static_attributes__" 200, .ref 15⟩, ⟨PyData.keyHash P "__dict__", .str "__dict__" 202, .ref 16⟩, ⟨PyData.keyHash P "__weakref__", .str "__weakref__" 204, .ref 17⟩] 14, #[]⟩
noncomputable def b_14 (P : Params) : Obj := ⟨.type "type", none, .cls { name := "BuiltinImporter", bases := [.type "object"], mro := [.ref 14, .type "object"], ns := 13, qualname := "BuiltinImporter", hasDict := true, slotNames := [], subclasses := [], abstract := false, collection := none, hasDel := false }, #[]⟩
noncomputable def b_15 (P : Params) : Obj := ⟨.type "getset_descriptor", none, .fields #[.str "__dict__" 201, .ref 14, .builtin "function.__dict__", .builtin "function.__dict__#set"], #[]⟩
noncomputable def b_16 (P : Params) : Obj := ⟨.type "getset_descriptor", none, .fields #[.str "__weakref__" 203, .ref 14, .builtin "ExceptionGroup.__weakref__", .none], #[]⟩
noncomputable def b_17 (P : Params) : Obj := ⟨.none, none, .seq #[.int 13 0, .str "\x06½\n__module__\x06º\x11_frozen_importlib\x06¾\x0f__firstlineno__\x04»\x00ϋ\x06¿\x07__doc__\t4_frozen_importlib.BuiltinImporter.__doc__:str#opaque\x06À\x07_ORIGIN\x06¼\x08built-in\x06Á\tfind_spec\t2_frozen_importlib.BuiltinImporter.find_spec#opaque\x06Â\x0dcreate_module\t6_frozen_importlib.BuiltinImporter.create_module#opaque\x06Ã\x0bexec_module\t4_frozen_importlib.BuiltinImporter.exec_module#opaque\x06Ä\x08get_code\t1_frozen_importlib.BuiltinImporter.get_code#opaque\x06Å\nget_source\t3_frozen_importlib.BuiltinImporter.get_source#opaque\x06Æ\nis_package\t3_frozen_importlib.BuiltinImporter.is_package#opaque\x06Ç\x0bload_module\t4_frozen_importlib.BuiltinImporter.load_module#opaque\x06È\x15__static_attributes__\x04\x00\x00\x0f\x06Ê\x08__dict__\x04\x00\x00\x10\x06Ì\x0b__weakref__\x04\x00\x00\x11" 0, .bool true, .bool true, .str "" 205, .int 21 0, .str "\x06ã\n__module__\x06Ù\x11_frozen_importlib\x06ä\x0f__firstlineno__\x04Ú\x00Ȳ\x06å\x07__doc__\t/_frozen_importlib.ModuleSpec.__doc__:str#opaque\x06æ\x08__init__\t,_frozen_importlib.ModuleSpec.__init__#opaque\x06ç\x08__repr__\t,_frozen_importlib.ModuleSpec.__repr__#opaque\x06è\x06__eq__\t*_frozen_importlib.ModuleSpec.__eq__#opaque\x06é\x06cached\t*_frozen_importlib.ModuleSpec.cached#opaque\x06ê\x06parent\t*_frozen_importlib.ModuleSpec.parent#opaque\x06ë\x0chas_location\t0_frozen_importlib.ModuleSpec.has_location#opaque\x06ì\x15__static_attributes__\x04\x00\x00\x17\x06î\x08__dict__\x04\x00\x00\x18\x06ð\x0b__weakref__\x04\x00\x00\x19\x06ñ\x08__hash__\x00" 0, .bool true, .bool true, .str "" 242] 1, #[]⟩
noncomputable def b_18 (P : Params) : Obj := ⟨.type "list", none, .seq #[] 0, #[]⟩
noncomputable def b_19 (P : Params) : Obj := ⟨.type "dict", none, .dict #[⟨PyData.keyHash P "name", .str "name" 208, .str "_sre" 207⟩, ⟨PyData.keyHash P "loader", .str "loader" 209, .ref 14⟩, ⟨PyData.keyHash P "origin", .str "origin" 210, .str "built-in" 184⟩, ⟨PyData.keyHash P "loader_state", .str "loader_state" 211, .none⟩, ⟨PyData.keyHash P "submodule_search_locations", .str "submodule_search_locations" 212, .none⟩, ⟨PyData.keyHash P "_uninitialized_submodules", .str "_uninitialized_submodules" 213, .ref 19⟩, ⟨PyData.keyHash P "_set_fileattr", .str "_set_fileattr" 214, .bool false⟩, ⟨PyData.keyHash P "_cached", .str "_cached" 215, .none⟩, ⟨PyData.keyHash P "_initializing", .str "_initializing" 243, .bool false⟩] 9, #[]⟩
noncomputable def b_20 (P : Params) : Obj := ⟨.type "dict", none, .dict #[⟨PyData.keyHash P "__module__", .str "__module__" 227, .str "_frozen_importlib" 217⟩, ⟨PyData.keyHash P "__firstlineno__", .str "__firstlineno__" 228, .int 562 218⟩, ⟨PyData.keyHash P "__doc__", .str "__doc__" 229, .builtin "_frozen_importlib.ModuleSpec.__doc__:str#opaque"⟩, ⟨PyData.keyHash P "__init__", .str "__init__" 230, .builtin "_frozen_importlib.ModuleSpec.__init__#opaque"⟩, ⟨PyData.keyHash P "__repr__", .str "__repr__" 231, .builtin "_frozen_importlib.ModuleSpec.__repr__#opaque"⟩, ⟨PyData.keyHash P "__eq__", .str "__eq__" 232, .builtin "_frozen_importlib.ModuleSpec.__eq__#opaque"⟩, ⟨PyData.keyHash P "cached", .str "cached" 233, .builtin "_frozen_importlib.ModuleSpec.cached#opaque"⟩, ⟨PyData.keyHash P "parent", .str "parent" 234, .builtin "_frozen_importlib.ModuleSpec.parent#opaque"⟩, ⟨PyData.keyHash P "has_location", .str "has_location" 235, .builtin "_frozen_importlib.ModuleSpec.has_location#opaque"⟩, ⟨PyData.keyHash P "__static_attributes__", .str "__static_attributes__" 236, .ref 23⟩, ⟨PyData.keyHash P "__dict__", .str "__dict__" 238, .ref 24⟩, ⟨PyData.keyHash P "__weakref__", .str "__weakref__" 240, .ref 25⟩, ⟨PyData.keyHash P "__hash__", .str "__hash__" 241, .none⟩] 13, #[]⟩
noncomputable def b_21 (P : Params) : Obj := ⟨.type "type", none, .cls { name := "ModuleSpec", bases := [.type "object"], mro := [.ref 22, .type "object"], ns := 21, qualname := "ModuleSpec", hasDict := true, slotNames := [], subclasses := [], abstract := false, collection := none, hasDel := false }, #[]⟩
noncomputable def b_22 (P : Params) : Obj := ⟨.type "tuple", none, .seq #[.str "_cached" 219, .str "_set_fileattr" 220, .str "_uninitialized_submodules" 221, .str "loader" 222, .str "loader_state" 223, .str "name" 224, .str "origin" 225, .str "submodule_search_locations" 226] 0, #[]⟩
noncomputable def b_23 (P : Params) : Obj := ⟨.type "getset_descriptor", none, .fields #[.str "__dict__" 237, .ref 22, .builtin "function.__dict__", .builtin "function.__dict__#set"], #[]⟩
noncomputable def b_24 (P : Params) : Obj := ⟨.type "getset_descriptor", none, .fields #[.str "__weakref__" 239, .ref 22, .builtin "ExceptionGroup.__weakref__", .none], #[]⟩
noncomputable def b_25 (P : Params) : Obj := ⟨.ref 22, (some 20), .plain, #[]⟩
noncomputable def b_26 (P : Params) : Obj := ⟨.none, none, .seq #[.int 11 0, .str (Str.mk #[6, 247, 8, 95, 95, 110, 97, 109, 101, 95, 95, 6, 246, 4, 95, 115, 114, 101, 6, 248, 7, 95, 95, 100, 111, 99, 95, 95, 0, 6, 250, 11, 95, 95, 112, 97, 99, 107, 97, 103, 101, 95, 95, 6, 249, 0, 6, 251, 10, 95, 95, 108, 111, 97, 100, 101, 114, 95, 95, 4, 0, 0, 14, 6, 252, 8, 95, 95, 115, 112, 101, 99, 95, 95, 4, 0, 0, 26, 6, 253, 7, 99, 111, 109, 112, 105, 108, 101, 9, 12, 95, 115, 114, 101, 46, 99, 111, 109, 112, 105, 108, 101, 6, 254, 8, 116, 101, 109, 112, 108, 97, 116, 101, 9, 13, 95, 115, 114, 101, 46, 116, 101, 109, 112, 108, 97, 116, 101, 6, 255, 11, 103, 101, 116, 99, 111, 100, 101, 115, 105, 122, 101, 9, 16, 95, 115, 114, 101, 46, 103, 101, 116, 99, 111, 100, 101, 115, 105, 122, 101, 6, 256, 13, 97, 115, 99, 105, 105, 95, 105, 115, 99, 97, 115, 101, 100, 9, 18, 95, 115, 114, 101, 46, 97, 115, 99, 105, 105, 95, 105, 115, 99, 97, 115, 101, 100, 6, 257, 15, 117, 110, 105, 99, 111, 100, 101, 95, 105, 115, 99, 97, 115, 101, 100, 9, 20, 95, 115, 114, 101, 46, 117, 110, 105, 99, 111, 100, 101, 95, 105, 115, 99, 97, 115, 101, 100, 6, 258, 13, 97, 115, 99, 105, 105, 95, 116, 111, 108, 111, 119, 101, 114, 9, 18, 95, 115, 114, 101, 46, 97, 115, 99, 105, 105, 95, 116, 111, 108, 111, 119, 101, 114, 6, 259, 15, 117, 110, 105, 99, 111, 100, 101, 95, 116, 111, 108, 111, 119, 101, 114, 9, 20, 95, 115, 114, 101, 46, 117, 110, 105, 99, 111, 100, 101, 95, 116, 111, 108, 111, 119, 101, 114, 6, 261, 5, 77, 65, 71, 73, 67, 4, 260, 0, 20230612, 6, 263, 8, 67, 79, 68, 69, 83, 73, 90, 69, 4, 262, 0, 4, 6, 265, 9, 77, 65, 88, 82, 69, 80, 69, 65, 84, 4, 264, 0, 4294967295, 6, 267, 9, 77, 65, 88, 71, 82, 79, 85, 80, 83, 4, 266, 0, 1073741823, 6, 269, 9, 99, 111, 112, 121, 114, 105, 103, 104, 116, 6, 268, 53, 32, 83, 82, 69, 32, 50, 46, 50, 46, 50, 32, 67, 111, 112, 121, 114, 105, 103, 104, 116, 32, 40, 99, 41, 32, 49, 57, 57, 55, 45, 50, 48, 48, 50, 32, 98, 121, 32, 83, 101, 99, 114, 101, 116, 32, 76, 97, 98, 115, 32, 65, 66, 32]) 0, .bool true, .bool false, .str "_sre" 271, .int 29 0, .str "\x06Ĩ\x08__name__\x06ħ\x0c_collections\x06ĩ\x07__doc__\t\x1f_collections.__doc__:str#opaque\x06ī\x0b__package__\x06Ī\x00\x06Ĭ\n__loader__\x04\x00\x00\x0e\x06ĭ\x08__spec__\x04\x00\x00!\x06Į\x0f_count_elements\t\x1c_collections._count_elements\x06į\x05deque\x08\x11collections.deque\x06İ\x0bdefaultdict\x08\x17collections.defaultdict\x06ı\x0f_deque_iterator\x08\x1bcollections._deque_iterator\x06Ĳ\x17_deque_reverse_iterator\x08#collections._deque_reverse_iterator\x06ĳ\x0c_tuplegetter\x08\x18collections._tuplegetter\x06Ĵ\x0bOrderedDict\x08\x17collections.OrderedDict" 0, .bool true, .bool false, .str "_collections" 310] 1, #[]⟩
noncomputable def b_27 (P : Params) : Obj := ⟨.type "tuple", none, .seq #[.str "deque" 277] 0, #[]⟩
noncomputable def b_28 (P : Params) : Obj := ⟨.type "dict", none, .dict #[⟨PyData.keyHash P "__name__", .str "__name__" 296, .str "_collections" 295⟩, ⟨PyData.keyHash P "__doc__", .str "__doc__" 297, .builtin "off-the-table:_collections.__doc__:shared#opaque"⟩, ⟨PyData.keyHash P "__package__", .str "__package__" 299, .str "" 298⟩, ⟨PyData.keyHash P "__loader__", .str "__loader__" 300, .builtin "off-the-table:_collections.__loader__:shared#opaque"⟩, ⟨PyData.keyHash P "__spec__", .str "__spec__" 301, .builtin "off-the-table:_collections.__spec__:shared#opaque"⟩, ⟨PyData.keyHash P "_count_elements", .str "_count_elements" 302, .builtin "_collections._count_elements"⟩, ⟨PyData.keyHash P "deque", .str "deque" 303, .type "collections.deque"⟩, ⟨PyData.keyHash P "defaultdict", .str "defaultdict" 304, .type "collections.defaultdict"⟩, ⟨PyData.keyHash P "_deque_iterator", .str "_deque_iterator" 305, .builtin "off-the-table:_collections._deque_iterator:shared#opaque"⟩, ⟨PyData.keyHash P "_deque_reverse_iterator", .str "_deque_reverse_iterator" 306, .builtin "off-the-table:_collections._deque_reverse_iterator:shared#opaque"⟩, ⟨PyData.keyHash P "_tuplegetter", .str "_tuplegetter" 307, .type "collections._tuplegetter"⟩, ⟨PyData.keyHash P "OrderedDict", .str "OrderedDict" 308, .type "collections.OrderedDict"⟩] 12, #[]⟩
noncomputable def b_29 (P : Params) : Obj := ⟨.type "module", (some 29), .plain, #[]⟩
noncomputable def b_30 (P : Params) : Obj := ⟨.type "dict", none, .dict #[⟨PyData.keyHash P "name", .str "name" 283, .str "_collections" 282⟩, ⟨PyData.keyHash P "loader", .str "loader" 284, .ref 14⟩, ⟨PyData.keyHash P "origin", .str "origin" 285, .str "built-in" 281⟩, ⟨PyData.keyHash P "loader_state", .str "loader_state" 286, .none⟩, ⟨PyData.keyHash P "submodule_search_locations", .str "submodule_search_locations" 287, .none⟩, ⟨PyData.keyHash P "_uninitialized_submodules", .str "_uninitialized_submodules" 288, .ref 31⟩, ⟨PyData.keyHash P "_set_fileattr", .str "_set_fileattr" 289, .bool false⟩, ⟨PyData.keyHash P "_cached", .str "_cached" 290, .none⟩, ⟨PyData.keyHash P "_initializing", .str "_initializing" 291, .bool false⟩] 9, #[]⟩
noncomputable def b_31 (P : Params) : Obj := ⟨.ref 22, (some 32), .plain, #[]⟩
noncomputable def t0 (P : Params) : BT := (.node (b_0 P) (.node (b_1 P) (.node (b_3 P) (.node (b_7 P) (.node (b_7 P) (.node (b_18 P) .nil .nil) .nil) (.node (b_22 P) .nil .nil)) (.node (b_11 P) (.node (b_18 P) .nil .nil) (.node (b_26 P) .nil .nil))) (.node (b_5 P) (.node (b_9 P) (.node (b_16 P) (.node (b_31 P) .nil .nil) .nil) (.node (b_24 P) .nil .nil)) (.node (b_13 P) (.node (b_20 P) .nil .nil) (.node (b_28 P) .nil .nil)))) (.node (b_2 P) (.node (b_4 P) (.node (b_8 P) (.node (b_15 P) (.node (b_30 P) .nil .nil) .nil) (.node (b_23 P) .nil .nil)) (.node (b_12 P) (.node (b_19 P) .nil .nil) (.node (b_27 P) .nil .nil))) (.node (b_6 P) (.node (b_10 P) (.node (b_17 P) .nil .nil) (.node (b_25 P) .nil .nil)) (.node (b_14 P) (.node (b_21 P) .nil .nil) (.node (b_29 P) .nil .nil)))))
noncomputable def t0S (w : World) (os : OsState) : SharedT := ⟨t0 w.params, 34, {}, #[], {}, 318, os⟩
noncomputable def b_32 (P : Params) : Obj := ⟨.type "code", none, .fields #[.str "<module>" 319, .str "<module>" 320, .str "/claim/cut.py" 321, .int 1 0, .int 0 0, .int 0 0, .int 0 0, .int 0 0, .ref 34, .bool false, .int 318 0, .ref 35, .none, .none, .none, .none, .int 322 0, .int 1 0, .str "/claim/cut.py" 323], #[]⟩
noncomputable def b_33 (P : Params) : Obj := ⟨.type "frame", none, .plain, #[some (.ref 36), some (.ref 3), some (.ref 3), none, some (.str "__main__" 164), none, some (.ref 0)]⟩
noncomputable def tb (P : Params) : BT := (.node (b_0 P) (.node (b_1 P) (.node (b_3 P) (.node (b_7 P) (.node (b_7 P) (.node (b_18 P) .nil .nil) .nil) (.node (b_22 P) .nil .nil)) (.node (b_11 P) (.node (b_18 P) (.node (b_8 P) .nil .nil) .nil) (.node (b_26 P) .nil .nil))) (.node (b_5 P) (.node (b_9 P) (.node (b_16 P) (.node (b_31 P) .nil .nil) .nil) (.node (b_24 P) .nil .nil)) (.node (b_13 P) (.node (b_20 P) (.node (b_33 P) .nil .nil) .nil) (.node (b_28 P) .nil .nil)))) (.node (b_2 P) (.node (b_4 P) (.node (b_8 P) (.node (b_15 P) (.node (b_30 P) .nil .nil) .nil) (.node (b_23 P) .nil .nil)) (.node (b_12 P) (.node (b_19 P) (.node (b_32 P) .nil .nil) .nil) (.node (b_27 P) .nil .nil))) (.node (b_6 P) (.node (b_10 P) (.node (b_17 P) (.node (b_7 P) .nil .nil) .nil) (.node (b_25 P) .nil .nil)) (.node (b_14 P) (.node (b_21 P) .nil .nil) (.node (b_29 P) .nil .nil)))))
noncomputable def tbS (w : World) (os : OsState) : SharedT := ⟨tb w.params, 38, {}, #[], {}, 324, os⟩
noncomputable def b_34 (P : Params) : Obj := ⟨.type "dict", none, .dict #[⟨PyData.keyHash P "__name__", .str "__name__" 165, .str "__main__" 164⟩, ⟨PyData.keyHash P "__doc__", .str "__doc__" 166, .none⟩, ⟨PyData.keyHash P "__package__", .str "__package__" 167, .none⟩, ⟨PyData.keyHash P "__loader__", .str "__loader__" 168, .builtin "__main__.__loader__#opaque"⟩, ⟨PyData.keyHash P "__spec__", .str "__spec__" 169, .none⟩, ⟨PyData.keyHash P "__annotations__", .str "__annotations__" 170, .ref 6⟩, ⟨PyData.keyHash P "__builtins__", .str "__builtins__" 171, .ref 4⟩, ⟨PyData.keyHash P "__file__", .str "__file__" 173, .str "/claim/cut.py" 172⟩, ⟨PyData.keyHash P "__cached__", .str "__cached__" 174, .none⟩, ⟨PyData.keyHash P "_sre", .str "_sre" 275, .ref 12⟩, ⟨PyData.keyHash P "deque", .str "deque" 317, .type "collections.deque"⟩, ⟨PyData.keyHash P "_wall", .str "_wall" 330, .ref 44⟩, ⟨PyData.keyHash P "CRLF", .str "CRLF" 332, .str "\x0d\n" 331⟩, ⟨PyData.keyHash P "NL", .str "NL" 334, .str "\n" 333⟩] 14, #[]⟩
noncomputable def b_35 (P : Params) : Obj := ⟨.none, none, .fields #[.int 3 0, .int 0 0, .ref 43], #[]⟩
noncomputable def b_36 (P : Params) : Obj := ⟨.type "tuple", none, .seq #[.str "k" 327] 0, #[]⟩
noncomputable def b_37 (P : Params) : Obj := ⟨.none, none, .func (fnOf (atTop 2) "_wall" "_wall" 0 [] .none .none .none .none none .none .none 0), #[]⟩
noncomputable def b_38 (P : Params) : Obj := ⟨.type "code", none, .fields #[.str "_wall" 324, .str "_wall" 325, .str "/claim/cut.py" 326, .int 3 0, .int 1 0, .int 0 0, .int 0 0, .int 3 0, .ref 38, .bool true, .int 318 0, .ref 39, .none, .ref 40, .ref 41, .ref 42, .int 328 0, .int 3 0, .str "/claim/cut.py" 329], #[]⟩
noncomputable def b_39 (P : Params) : Obj := ⟨.type "function", none, .func (fnOf (atTop 2) "_wall" "_wall" 3 [] .none .none .none (.str "__main__" 164) none (.ref 43) .none 0), #[]⟩
noncomputable def ta3 (P : Params) : BT := (.node (b_0 P) (.node (b_1 P) (.node (b_34 P) (.node (b_7 P) (.node (b_7 P) (.node (b_18 P) .nil .nil) .nil) (.node (b_22 P) (.node (b_8 P) .nil .nil) .nil)) (.node (b_11 P) (.node (b_18 P) (.node (b_35 P) .nil .nil) .nil) (.node (b_26 P) (.node (b_38 P) .nil .nil) .nil))) (.node (b_5 P) (.node (b_9 P) (.node (b_16 P) (.node (b_31 P) .nil .nil) .nil) (.node (b_24 P) (.node (b_7 P) .nil .nil) .nil)) (.node (b_13 P) (.node (b_20 P) (.node (b_33 P) .nil .nil) .nil) (.node (b_28 P) .nil .nil)))) (.node (b_2 P) (.node (b_4 P) (.node (b_8 P) (.node (b_15 P) (.node (b_30 P) .nil .nil) .nil) (.node (b_23 P) (.node (b_36 P) .nil .nil) .nil)) (.node (b_12 P) (.node (b_19 P) (.node (b_32 P) .nil .nil) .nil) (.node (b_27 P) (.node (b_39 P) .nil .nil) .nil))) (.node (b_6 P) (.node (b_10 P) (.node (b_17 P) (.node (b_7 P) .nil .nil) .nil) (.node (b_25 P) (.node (b_37 P) .nil .nil) .nil)) (.node (b_14 P) (.node (b_21 P) (.node (b_7 P) .nil .nil) .nil) (.node (b_29 P) .nil .nil)))))
noncomputable def ta3S (w : World) (os : OsState) : SharedT := ⟨ta3 w.params, 45, {}, #[], {}, 335, os⟩
noncomputable def b_40 (P : Params) : Obj := ⟨.type "dict", none, .dict #[⟨PyData.keyHash P "__name__", .str "__name__" 165, .str "__main__" 164⟩, ⟨PyData.keyHash P "__doc__", .str "__doc__" 166, .none⟩, ⟨PyData.keyHash P "__package__", .str "__package__" 167, .none⟩, ⟨PyData.keyHash P "__loader__", .str "__loader__" 168, .builtin "__main__.__loader__#opaque"⟩, ⟨PyData.keyHash P "__spec__", .str "__spec__" 169, .none⟩, ⟨PyData.keyHash P "__annotations__", .str "__annotations__" 170, .ref 6⟩, ⟨PyData.keyHash P "__builtins__", .str "__builtins__" 171, .ref 4⟩, ⟨PyData.keyHash P "__file__", .str "__file__" 173, .str "/claim/cut.py" 172⟩, ⟨PyData.keyHash P "__cached__", .str "__cached__" 174, .none⟩, ⟨PyData.keyHash P "_sre", .str "_sre" 275, .ref 12⟩, ⟨PyData.keyHash P "deque", .str "deque" 317, .type "collections.deque"⟩, ⟨PyData.keyHash P "_wall", .str "_wall" 330, .ref 44⟩, ⟨PyData.keyHash P "CRLF", .str "CRLF" 332, .str "\x0d\n" 331⟩, ⟨PyData.keyHash P "NL", .str "NL" 334, .str "\n" 333⟩, ⟨PyData.keyHash P "_QUOPRI_MAP", .str "_QUOPRI_MAP" 1362, .ref 47⟩] 15, #[]⟩
noncomputable def b_41 (P : Params) : Obj := ⟨.type "range", none, .fields #[.int 0 336, .int 256 335, .int 1 337], #[]⟩
noncomputable def b_42 (P : Params) : Obj := ⟨.type "range_iterator", none, .fields #[.int 256 0, .int 0 0, .int 1 0], #[]⟩
noncomputable def b_43 (P : Params) : Obj := ⟨.type "list", none, .seq #[.str "=00" 341, .str "=01" 345, .str "=02" 349, .str "=03" 353, .str "=04" 357, .str "=05" 361, .str "=06" 365, .str "=07" 369, .str "=08" 373, .str "=09" 377, .str "=0A" 381, .str "=0B" 385, .str "=0C" 389, .str "=0D" 393, .str "=0E" 397, .str "=0F" 401, .str "=10" 405, .str "=11" 409, .str "=12" 413, .str "=13" 417, .str "=14" 421, .str "=15" 425, .str "=16" 429, .str "=17" 433, .str "=18" 437, .str "=19" 441, .str "=1A" 445, .str "=1B" 449, .str "=1C" 453, .str "=1D" 457, .str "=1E" 461, .str "=1F" 465, .str "=20" 469, .str "=21" 473, .str "=22" 477, .str "=23" 481, .str "=24" 485, .str "=25" 489, .str "=26" 493, .str "=27" 497, .str "=28" 501, .str "=29" 505, .str "=2A" 509, .str "=2B" 513, .str "=2C" 517, .str "=2D" 521, .str "=2E" 525, .str "=2F" 529, .str "=30" 533, .str "=31" 537, .str "=32" 541, .str "=33" 545, .str "=34" 549, .str "=35" 553, .str "=36" 557, .str "=37" 561, .str "=38" 565, .str "=39" 569, .str "=3A" 573, .str "=3B" 577, .str "=3C" 581, .str "=3D" 585, .str "=3E" 589, .str "=3F" 593, .str "=40" 597, .str "=41" 601, .str "=42" 605, .str "=43" 609, .str "=44" 613, .str "=45" 617, .str "=46" 621, .str "=47" 625, .str "=48" 629, .str "=49" 633, .str "=4A" 637, .str "=4B" 641, .str "=4C" 645, .str "=4D" 649, .str "=4E" 653, .str "=4F" 657, .str "=50" 661, .str "=51" 665, .str "=52" 669, .str "=53" 673, .str "=54" 677, .str "=55" 681, .str "=56" 685, .str "=57" 689, .str "=58" 693, .str "=59" 697, .str "=5A" 701, .str "=5B" 705, .str "=5C" 709, .str "=5D" 713, .str "=5E" 717, .str "=5F" 721, .str "=60" 725, .str "=61" 729, .str "=62" 733, .str "=63" 737, .str "=64" 741, .str "=65" 745, .str "=66" 749, .str "=67" 753, .str "=68" 757, .str "=69" 761, .str "=6A" 765, .str "=6B" 769, .str "=6C" 773, .str "=6D" 777, .str "=6E" 781, .str "=6F" 785, .str "=70" 789, .str "=71" 793, .str "=72" 797, .str "=73" 801, .str "=74" 805, .str "=75" 809, .str "=76" 813, .str "=77" 817, .str "=78" 821, .str "=79" 825, .str "=7A" 829, .str "=7B" 833, .str "=7C" 837, .str "=7D" 841, .str "=7E" 845, .str "=7F" 849, .str "=80" 853, .str "=81" 857, .str "=82" 861, .str "=83" 865, .str "=84" 869, .str "=85" 873, .str "=86" 877, .str "=87" 881, .str "=88" 885, .str "=89" 889, .str "=8A" 893, .str "=8B" 897, .str "=8C" 901, .str "=8D" 905, .str "=8E" 909, .str "=8F" 913, .str "=90" 917, .str "=91" 921, .str "=92" 925, .str "=93" 929, .str "=94" 933, .str "=95" 937, .str "=96" 941, .str "=97" 945, .str "=98" 949, .str "=99" 953, .str "=9A" 957, .str "=9B" 961, .str "=9C" 965, .str "=9D" 969, .str "=9E" 973, .str "=9F" 977, .str "=A0" 981, .str "=A1" 985, .str "=A2" 989, .str "=A3" 993, .str "=A4" 997, .str "=A5" 1001, .str "=A6" 1005, .str "=A7" 1009, .str "=A8" 1013, .str "=A9" 1017, .str "=AA" 1021, .str "=AB" 1025, .str "=AC" 1029, .str "=AD" 1033, .str "=AE" 1037, .str "=AF" 1041, .str "=B0" 1045, .str "=B1" 1049, .str "=B2" 1053, .str "=B3" 1057, .str "=B4" 1061, .str "=B5" 1065, .str "=B6" 1069, .str "=B7" 1073, .str "=B8" 1077, .str "=B9" 1081, .str "=BA" 1085, .str "=BB" 1089, .str "=BC" 1093, .str "=BD" 1097, .str "=BE" 1101, .str "=BF" 1105, .str "=C0" 1109, .str "=C1" 1113, .str "=C2" 1117, .str "=C3" 1121, .str "=C4" 1125, .str "=C5" 1129, .str "=C6" 1133, .str "=C7" 1137, .str "=C8" 1141, .str "=C9" 1145, .str "=CA" 1149, .str "=CB" 1153, .str "=CC" 1157, .str "=CD" 1161, .str "=CE" 1165, .str "=CF" 1169, .str "=D0" 1173, .str "=D1" 1177, .str "=D2" 1181, .str "=D3" 1185, .str "=D4" 1189, .str "=D5" 1193, .str "=D6" 1197, .str "=D7" 1201, .str "=D8" 1205, .str "=D9" 1209, .str "=DA" 1213, .str "=DB" 1217, .str "=DC" 1221, .str "=DD" 1225, .str "=DE" 1229, .str "=DF" 1233, .str "=E0" 1237, .str "=E1" 1241, .str "=E2" 1245, .str "=E3" 1249, .str "=E4" 1253, .str "=E5" 1257, .str "=E6" 1261, .str "=E7" 1265, .str "=E8" 1269, .str "=E9" 1273, .str "=EA" 1277, .str "=EB" 1281, .str "=EC" 1285, .str "=ED" 1289, .str "=EE" 1293, .str "=EF" 1297, .str "=F0" 1301, .str "=F1" 1305, .str "=F2" 1309, .str "=F3" 1313, .str "=F4" 1317, .str "=F5" 1321, .str "=F6" 1325, .str "=F7" 1329, .str "=F8" 1333, .str "=F9" 1337, .str "=FA" 1341, .str "=FB" 1345, .str "=FC" 1349, .str "=FD" 1353, .str "=FE" 1357, .str "=FF" 1361] 256, #[]⟩
noncomputable def b_44 (P : Params) : Obj := ⟨.type "dict", none, .dict #[] 2, #[]⟩
noncomputable def b_45 (P : Params) : Obj := ⟨.type "StopIteration", none, .fields #[.ref 49, .none, .none, .none, .bool false, .none], #[]⟩
noncomputable def te3 (P : Params) : BT := (.node (b_0 P) (.node (b_1 P) (.node (b_40 P) (.node (b_7 P) (.node (b_7 P) (.node (b_18 P) .nil .nil) (.node (b_43 P) .nil .nil)) (.node (b_22 P) (.node (b_8 P) .nil .nil) .nil)) (.node (b_11 P) (.node (b_18 P) (.node (b_35 P) .nil .nil) .nil) (.node (b_26 P) (.node (b_38 P) .nil .nil) .nil))) (.node (b_5 P) (.node (b_9 P) (.node (b_16 P) (.node (b_31 P) .nil .nil) (.node (b_7 P) .nil .nil)) (.node (b_24 P) (.node (b_7 P) .nil .nil) .nil)) (.node (b_13 P) (.node (b_20 P) (.node (b_33 P) .nil .nil) .nil) (.node (b_28 P) (.node (b_41 P) .nil .nil) .nil)))) (.node (b_2 P) (.node (b_4 P) (.node (b_8 P) (.node (b_15 P) (.node (b_30 P) .nil .nil) (.node (b_44 P) .nil .nil)) (.node (b_23 P) (.node (b_36 P) .nil .nil) .nil)) (.node (b_12 P) (.node (b_19 P) (.node (b_32 P) .nil .nil) .nil) (.node (b_27 P) (.node (b_39 P) .nil .nil) .nil))) (.node (b_6 P) (.node (b_10 P) (.node (b_17 P) (.node (b_7 P) .nil .nil) (.node (b_45 P) .nil .nil)) (.node (b_25 P) (.node (b_37 P) .nil .nil) .nil)) (.node (b_14 P) (.node (b_21 P) (.node (b_7 P) .nil .nil) .nil) (.node (b_29 P) (.node (b_42 P) .nil .nil) .nil)))))
noncomputable def te3S (w : World) (os : OsState) : SharedT := ⟨te3 w.params, 51, {}, #[], {}, 1363, os⟩
noncomputable def b_46 (P : Params) : Obj := ⟨.type "range_iterator", none, .fields #[.int 0 0, .int 256 0, .int 1 0], #[]⟩
noncomputable def tl3 (P : Params) : BT := (.node (b_0 P) (.node (b_1 P) (.node (b_34 P) (.node (b_7 P) (.node (b_7 P) (.node (b_18 P) .nil .nil) (.node (b_18 P) .nil .nil)) (.node (b_22 P) (.node (b_8 P) .nil .nil) .nil)) (.node (b_11 P) (.node (b_18 P) (.node (b_35 P) .nil .nil) .nil) (.node (b_26 P) (.node (b_38 P) .nil .nil) .nil))) (.node (b_5 P) (.node (b_9 P) (.node (b_16 P) (.node (b_31 P) .nil .nil) .nil) (.node (b_24 P) (.node (b_7 P) .nil .nil) .nil)) (.node (b_13 P) (.node (b_20 P) (.node (b_33 P) .nil .nil) .nil) (.node (b_28 P) (.node (b_41 P) .nil .nil) .nil)))) (.node (b_2 P) (.node (b_4 P) (.node (b_8 P) (.node (b_15 P) (.node (b_30 P) .nil .nil) (.node (b_6 P) .nil .nil)) (.node (b_23 P) (.node (b_36 P) .nil .nil) .nil)) (.node (b_12 P) (.node (b_19 P) (.node (b_32 P) .nil .nil) .nil) (.node (b_27 P) (.node (b_39 P) .nil .nil) .nil))) (.node (b_6 P) (.node (b_10 P) (.node (b_17 P) (.node (b_7 P) .nil .nil) .nil) (.node (b_25 P) (.node (b_37 P) .nil .nil) .nil)) (.node (b_14 P) (.node (b_21 P) (.node (b_7 P) .nil .nil) .nil) (.node (b_29 P) (.node (b_46 P) .nil .nil) .nil)))))
noncomputable def tl3S (w : World) (os : OsState) : SharedT := ⟨tl3 w.params, 49, {}, #[], {}, 338, os⟩
noncomputable def b_47 (P : Params) : Obj := ⟨.type "dict", none, .dict #[⟨PyData.keyHash P "__name__", .str "__name__" 165, .str "cpy313.email.quoprimime" 1378⟩, ⟨PyData.keyHash P "__doc__", .str "__doc__" 166, .none⟩, ⟨PyData.keyHash P "__package__", .str "__package__" 167, .none⟩, ⟨PyData.keyHash P "__loader__", .str "__loader__" 168, .builtin "__main__.__loader__#opaque"⟩, ⟨PyData.keyHash P "__spec__", .str "__spec__" 169, .none⟩, ⟨PyData.keyHash P "__annotations__", .str "__annotations__" 170, .ref 6⟩, ⟨PyData.keyHash P "__builtins__", .str "__builtins__" 171, .ref 4⟩, ⟨PyData.keyHash P "__file__", .str "__file__" 173, .str "/claim/cut.py" 172⟩, ⟨PyData.keyHash P "__cached__", .str "__cached__" 174, .none⟩, ⟨PyData.keyHash P "_sre", .str "_sre" 275, .ref 12⟩, ⟨PyData.keyHash P "deque", .str "deque" 317, .type "collections.deque"⟩, ⟨PyData.keyHash P "_wall", .str "_wall" 330, .ref 44⟩, ⟨PyData.keyHash P "CRLF", .str "CRLF" 332, .str "\x0d\n" 331⟩, ⟨PyData.keyHash P "NL", .str "NL" 334, .str "\n" 333⟩, ⟨PyData.keyHash P "_QUOPRI_MAP", .str "_QUOPRI_MAP" 1362, .ref 47⟩, ⟨PyData.keyHash P "_QUOPRI_HEADER_MAP", .str "_QUOPRI_HEADER_MAP" 1363, .ref 52⟩, ⟨PyData.keyHash P "_QUOPRI_BODY_MAP", .str "_QUOPRI_BODY_MAP" 1364, .ref 54⟩, ⟨PyData.keyHash P "ascii_lowercase", .str "ascii_lowercase" 1366, .str "abcdefghijklmnopqrstuvwxyz" 1365⟩, ⟨PyData.keyHash P "ascii_uppercase", .str "ascii_uppercase" 1368, .str "ABCDEFGHIJKLMNOPQRSTUVWXYZ" 1367⟩, ⟨PyData.keyHash P "ascii_letters", .str "ascii_letters" 1370, .str "abcdefghijklmnopqrstuvwxyzABCDEFGHIJKLMNOPQRSTUVWXYZ" 1369⟩, ⟨PyData.keyHash P "digits", .str "digits" 1372, .str "0123456789" 1371⟩, ⟨PyData.keyHash P "hexdigits", .str "hexdigits" 1377, .str "0123456789abcdefABCDEF" 1376⟩] 22, #[]⟩
noncomputable def b_48 (P : Params) : Obj := ⟨.type "slice", none, .fields #[.none, .none, .none], #[]⟩
noncomputable def b_49 (P : Params) : Obj := ⟨.type "list", none, .seq #[.str "=00" 341, .str "=01" 345, .str "=02" 349, .str "=03" 353, .str "=04" 357, .str "=05" 361, .str "=06" 365, .str "=07" 369, .str "=08" 373, .str "=09" 377, .str "=0A" 381, .str "=0B" 385, .str "=0C" 389, .str "=0D" 393, .str "=0E" 397, .str "=0F" 401, .str "=10" 405, .str "=11" 409, .str "=12" 413, .str "=13" 417, .str "=14" 421, .str "=15" 425, .str "=16" 429, .str "=17" 433, .str "=18" 437, .str "=19" 441, .str "=1A" 445, .str "=1B" 449, .str "=1C" 453, .str "=1D" 457, .str "=1E" 461, .str "=1F" 465, .str "=20" 469, .str "=21" 473, .str "=22" 477, .str "=23" 481, .str "=24" 485, .str "=25" 489, .str "=26" 493, .str "=27" 497, .str "=28" 501, .str "=29" 505, .str "=2A" 509, .str "=2B" 513, .str "=2C" 517, .str "=2D" 521, .str "=2E" 525, .str "=2F" 529, .str "=30" 533, .str "=31" 537, .str "=32" 541, .str "=33" 545, .str "=34" 549, .str "=35" 553, .str "=36" 557, .str "=37" 561, .str "=38" 565, .str "=39" 569, .str "=3A" 573, .str "=3B" 577, .str "=3C" 581, .str "=3D" 585, .str "=3E" 589, .str "=3F" 593, .str "=40" 597, .str "=41" 601, .str "=42" 605, .str "=43" 609, .str "=44" 613, .str "=45" 617, .str "=46" 621, .str "=47" 625, .str "=48" 629, .str "=49" 633, .str "=4A" 637, .str "=4B" 641, .str "=4C" 645, .str "=4D" 649, .str "=4E" 653, .str "=4F" 657, .str "=50" 661, .str "=51" 665, .str "=52" 669, .str "=53" 673, .str "=54" 677, .str "=55" 681, .str "=56" 685, .str "=57" 689, .str "=58" 693, .str "=59" 697, .str "=5A" 701, .str "=5B" 705, .str "=5C" 709, .str "=5D" 713, .str "=5E" 717, .str "=5F" 721, .str "=60" 725, .str "=61" 729, .str "=62" 733, .str "=63" 737, .str "=64" 741, .str "=65" 745, .str "=66" 749, .str "=67" 753, .str "=68" 757, .str "=69" 761, .str "=6A" 765, .str "=6B" 769, .str "=6C" 773, .str "=6D" 777, .str "=6E" 781, .str "=6F" 785, .str "=70" 789, .str "=71" 793, .str "=72" 797, .str "=73" 801, .str "=74" 805, .str "=75" 809, .str "=76" 813, .str "=77" 817, .str "=78" 821, .str "=79" 825, .str "=7A" 829, .str "=7B" 833, .str "=7C" 837, .str "=7D" 841, .str "=7E" 845, .str "=7F" 849, .str "=80" 853, .str "=81" 857, .str "=82" 861, .str "=83" 865, .str "=84" 869, .str "=85" 873, .str "=86" 877, .str "=87" 881, .str "=88" 885, .str "=89" 889, .str "=8A" 893, .str "=8B" 897, .str "=8C" 901, .str "=8D" 905, .str "=8E" 909, .str "=8F" 913, .str "=90" 917, .str "=91" 921, .str "=92" 925, .str "=93" 929, .str "=94" 933, .str "=95" 937, .str "=96" 941, .str "=97" 945, .str "=98" 949, .str "=99" 953, .str "=9A" 957, .str "=9B" 961, .str "=9C" 965, .str "=9D" 969, .str "=9E" 973, .str "=9F" 977, .str "=A0" 981, .str "=A1" 985, .str "=A2" 989, .str "=A3" 993, .str "=A4" 997, .str "=A5" 1001, .str "=A6" 1005, .str "=A7" 1009, .str "=A8" 1013, .str "=A9" 1017, .str "=AA" 1021, .str "=AB" 1025, .str "=AC" 1029, .str "=AD" 1033, .str "=AE" 1037, .str "=AF" 1041, .str "=B0" 1045, .str "=B1" 1049, .str "=B2" 1053, .str "=B3" 1057, .str "=B4" 1061, .str "=B5" 1065, .str "=B6" 1069, .str "=B7" 1073, .str "=B8" 1077, .str "=B9" 1081, .str "=BA" 1085, .str "=BB" 1089, .str "=BC" 1093, .str "=BD" 1097, .str "=BE" 1101, .str "=BF" 1105, .str "=C0" 1109, .str "=C1" 1113, .str "=C2" 1117, .str "=C3" 1121, .str "=C4" 1125, .str "=C5" 1129, .str "=C6" 1133, .str "=C7" 1137, .str "=C8" 1141, .str "=C9" 1145, .str "=CA" 1149, .str "=CB" 1153, .str "=CC" 1157, .str "=CD" 1161, .str "=CE" 1165, .str "=CF" 1169, .str "=D0" 1173, .str "=D1" 1177, .str "=D2" 1181, .str "=D3" 1185, .str "=D4" 1189, .str "=D5" 1193, .str "=D6" 1197, .str "=D7" 1201, .str "=D8" 1205, .str "=D9" 1209, .str "=DA" 1213, .str "=DB" 1217, .str "=DC" 1221, .str "=DD" 1225, .str "=DE" 1229, .str "=DF" 1233, .str "=E0" 1237, .str "=E1" 1241, .str "=E2" 1245, .str "=E3" 1249, .str "=E4" 1253, .str "=E5" 1257, .str "=E6" 1261, .str "=E7" 1265, .str "=E8" 1269, .str "=E9" 1273, .str "=EA" 1277, .str "=EB" 1281, .str "=EC" 1285, .str "=ED" 1289, .str "=EE" 1293, .str "=EF" 1297, .str "=F0" 1301, .str "=F1" 1305, .str "=F2" 1309, .str "=F3" 1313, .str "=F4" 1317, .str "=F5" 1321, .str "=F6" 1325, .str "=F7" 1329, .str "=F8" 1333, .str "=F9" 1337, .str "=FA" 1341, .str "=FB" 1345, .str "=FC" 1349, .str "=FD" 1353, .str "=FE" 1357, .str "=FF" 1361] 0, #[]⟩
noncomputable def ta12 (P : Params) : BT := (.node (b_0 P) (.node (b_1 P) (.node (b_47 P) (.node (b_7 P) (.node (b_7 P) (.node (b_18 P) .nil .nil) (.node (b_43 P) .nil .nil)) (.node (b_22 P) (.node (b_8 P) .nil .nil) .nil)) (.node (b_11 P) (.node (b_18 P) (.node (b_35 P) .nil .nil) (.node (b_48 P) .nil .nil)) (.node (b_26 P) (.node (b_38 P) .nil .nil) .nil))) (.node (b_5 P) (.node (b_9 P) (.node (b_16 P) (.node (b_31 P) .nil .nil) (.node (b_7 P) .nil .nil)) (.node (b_24 P) (.node (b_7 P) .nil .nil) .nil)) (.node (b_13 P) (.node (b_20 P) (.node (b_33 P) .nil .nil) (.node (b_48 P) .nil .nil)) (.node (b_28 P) (.node (b_41 P) .nil .nil) .nil)))) (.node (b_2 P) (.node (b_4 P) (.node (b_8 P) (.node (b_15 P) (.node (b_30 P) .nil .nil) (.node (b_44 P) .nil .nil)) (.node (b_23 P) (.node (b_36 P) .nil .nil) .nil)) (.node (b_12 P) (.node (b_19 P) (.node (b_32 P) .nil .nil) (.node (b_49 P) .nil .nil)) (.node (b_27 P) (.node (b_39 P) .nil .nil) .nil))) (.node (b_6 P) (.node (b_10 P) (.node (b_17 P) (.node (b_7 P) .nil .nil) (.node (b_45 P) .nil .nil)) (.node (b_25 P) (.node (b_37 P) .nil .nil) .nil)) (.node (b_14 P) (.node (b_21 P) (.node (b_7 P) .nil .nil) (.node (b_49 P) .nil .nil)) (.node (b_29 P) (.node (b_42 P) .nil .nil) .nil)))))
noncomputable def ta12S (w : World) (os : OsState) : SharedT := ⟨ta12 w.params, 55, {}, #[], {}, 1380, os⟩
noncomputable def b_50 (P : Params) : Obj := ⟨.type "dict", none, .dict #[⟨PyData.keyHash P "__name__", .str "__name__" 165, .str "cpy313.email.quoprimime" 1378⟩, ⟨PyData.keyHash P "__doc__", .str "__doc__" 166, .none⟩, ⟨PyData.keyHash P "__package__", .str "__package__" 167, .none⟩, ⟨PyData.keyHash P "__loader__", .str "__loader__" 168, .builtin "__main__.__loader__#opaque"⟩, ⟨PyData.keyHash P "__spec__", .str "__spec__" 169, .none⟩, ⟨PyData.keyHash P "__annotations__", .str "__annotations__" 170, .ref 6⟩, ⟨PyData.keyHash P "__builtins__", .str "__builtins__" 171, .ref 4⟩, ⟨PyData.keyHash P "__file__", .str "__file__" 173, .str "/claim/cut.py" 172⟩, ⟨PyData.keyHash P "__cached__", .str "__cached__" 174, .none⟩, ⟨PyData.keyHash P "_sre", .str "_sre" 275, .ref 12⟩, ⟨PyData.keyHash P "deque", .str "deque" 317, .type "collections.deque"⟩, ⟨PyData.keyHash P "_wall", .str "_wall" 330, .ref 44⟩, ⟨PyData.keyHash P "CRLF", .str "CRLF" 332, .str "\x0d\n" 331⟩, ⟨PyData.keyHash P "NL", .str "NL" 334, .str "\n" 333⟩, ⟨PyData.keyHash P "_QUOPRI_MAP", .str "_QUOPRI_MAP" 1362, .ref 47⟩, ⟨PyData.keyHash P "_QUOPRI_HEADER_MAP", .str "_QUOPRI_HEADER_MAP" 1363, .ref 52⟩, ⟨PyData.keyHash P "_QUOPRI_BODY_MAP", .str "_QUOPRI_BODY_MAP" 1364, .ref 54⟩, ⟨PyData.keyHash P "ascii_lowercase", .str "ascii_lowercase" 1366, .str "abcdefghijklmnopqrstuvwxyz" 1365⟩, ⟨PyData.keyHash P "ascii_uppercase", .str "ascii_uppercase" 1368, .str "ABCDEFGHIJKLMNOPQRSTUVWXYZ" 1367⟩, ⟨PyData.keyHash P "ascii_letters", .str "ascii_letters" 1370, .str "abcdefghijklmnopqrstuvwxyzABCDEFGHIJKLMNOPQRSTUVWXYZ" 1369⟩, ⟨PyData.keyHash P "digits", .str "digits" 1372, .str "0123456789" 1371⟩, ⟨PyData.keyHash P "hexdigits", .str "hexdigits" 1377, .str "0123456789abcdefABCDEF" 1376⟩, ⟨PyData.keyHash P "c", .str "c" 1388, .int 57 1585⟩] 23, #[]⟩
noncomputable def b_51 (P : Params) : Obj := ⟨.type "list", none, .seq #[.str "=00" 341, .str "=01" 345, .str "=02" 349, .str "=03" 353, .str "=04" 357, .str "=05" 361, .str "=06" 365, .str "=07" 369, .str "=08" 373, .str "=09" 377, .str "=0A" 381, .str "=0B" 385, .str "=0C" 389, .str "=0D" 393, .str "=0E" 397, .str "=0F" 401, .str "=10" 405, .str "=11" 409, .str "=12" 413, .str "=13" 417, .str "=14" 421, .str "=15" 425, .str "=16" 429, .str "=17" 433, .str "=18" 437, .str "=19" 441, .str "=1A" 445, .str "=1B" 449, .str "=1C" 453, .str "=1D" 457, .str "=1E" 461, .str "=1F" 465, .str "=20" 469, .str "!" 1392, .str "=22" 477, .str "=23" 481, .str "=24" 485, .str "=25" 489, .str "=26" 493, .str "=27" 497, .str "=28" 501, .str "=29" 505, .str "*" 1395, .str "+" 1398, .str "=2C" 517, .str "-" 1389, .str "=2E" 525, .str "/" 1401, .str "0" 1560, .str "1" 1563, .str "2" 1566, .str "3" 1569, .str "4" 1572, .str "5" 1575, .str "6" 1578, .str "7" 1581, .str "8" 1584, .str "9" 1587, .str "=3A" 573, .str "=3B" 577, .str "=3C" 581, .str "=3D" 585, .str "=3E" 589, .str "=3F" 593, .str "=40" 597, .str "A" 1482, .str "B" 1485, .str "C" 1488, .str "D" 1491, .str "E" 1494, .str "F" 1497, .str "G" 1500, .str "H" 1503, .str "I" 1506, .str "J" 1509, .str "K" 1512, .str "L" 1515, .str "M" 1518, .str "N" 1521, .str "O" 1524, .str "P" 1527, .str "Q" 1530, .str "R" 1533, .str "S" 1536, .str "T" 1539, .str "U" 1542, .str "V" 1545, .str "W" 1548, .str "X" 1551, .str "Y" 1554, .str "Z" 1557, .str "=5B" 705, .str "=5C" 709, .str "=5D" 713, .str "=5E" 717, .str "=5F" 721, .str "=60" 725, .str "a" 1404, .str "b" 1407, .str "c" 1410, .str "d" 1413, .str "e" 1416, .str "f" 1419, .str "g" 1422, .str "h" 1425, .str "i" 1428, .str "j" 1431, .str "k" 1434, .str "l" 1437, .str "m" 1440, .str "n" 1443, .str "o" 1446, .str "p" 1449, .str "q" 1452, .str "r" 1455, .str "s" 1458, .str "t" 1461, .str "u" 1464, .str "v" 1467, .str "w" 1470, .str "x" 1473, .str "y" 1476, .str "z" 1479, .str "=7B" 833, .str "=7C" 837, .str "=7D" 841, .str "=7E" 845, .str "=7F" 849, .str "=80" 853, .str "=81" 857, .str "=82" 861, .str "=83" 865, .str "=84" 869, .str "=85" 873, .str "=86" 877, .str "=87" 881, .str "=88" 885, .str "=89" 889, .str "=8A" 893, .str "=8B" 897, .str "=8C" 901, .str "=8D" 905, .str "=8E" 909, .str "=8F" 913, .str "=90" 917, .str "=91" 921, .str "=92" 925, .str "=93" 929, .str "=94" 933, .str "=95" 937, .str "=96" 941, .str "=97" 945, .str "=98" 949, .str "=99" 953, .str "=9A" 957, .str "=9B" 961, .str "=9C" 965, .str "=9D" 969, .str "=9E" 973, .str "=9F" 977, .str "=A0" 981, .str "=A1" 985, .str "=A2" 989, .str "=A3" 993, .str "=A4" 997, .str "=A5" 1001, .str "=A6" 1005, .str "=A7" 1009, .str "=A8" 1013, .str "=A9" 1017, .str "=AA" 1021, .str "=AB" 1025, .str "=AC" 1029, .str "=AD" 1033, .str "=AE" 1037, .str "=AF" 1041, .str "=B0" 1045, .str "=B1" 1049, .str "=B2" 1053, .str "=B3" 1057, .str "=B4" 1061, .str "=B5" 1065, .str "=B6" 1069, .str "=B7" 1073, .str "=B8" 1077, .str "=B9" 1081, .str "=BA" 1085, .str "=BB" 1089, .str "=BC" 1093, .str "=BD" 1097, .str "=BE" 1101, .str "=BF" 1105, .str "=C0" 1109, .str "=C1" 1113, .str "=C2" 1117, .str "=C3" 1121, .str "=C4" 1125, .str "=C5" 1129, .str "=C6" 1133, .str "=C7" 1137, .str "=C8" 1141, .str "=C9" 1145, .str "=CA" 1149, .str "=CB" 1153, .str "=CC" 1157, .str "=CD" 1161, .str "=CE" 1165, .str "=CF" 1169, .str "=D0" 1173, .str "=D1" 1177, .str "=D2" 1181, .str "=D3" 1185, .str "=D4" 1189, .str "=D5" 1193, .str "=D6" 1197, .str "=D7" 1201, .str "=D8" 1205, .str "=D9" 1209, .str "=DA" 1213, .str "=DB" 1217, .str "=DC" 1221, .str "=DD" 1225, .str "=DE" 1229, .str "=DF" 1233, .str "=E0" 1237, .str "=E1" 1241, .str "=E2" 1245, .str "=E3" 1249, .str "=E4" 1253, .str "=E5" 1257, .str "=E6" 1261, .str "=E7" 1265, .str "=E8" 1269, .str "=E9" 1273, .str "=EA" 1277, .str "=EB" 1281, .str "=EC" 1285, .str "=ED" 1289, .str "=EE" 1293, .str "=EF" 1297, .str "=F0" 1301, .str "=F1" 1305, .str "=F2" 1309, .str "=F3" 1313, .str "=F4" 1317, .str "=F5" 1321, .str "=F6" 1325, .str "=F7" 1329, .str "=F8" 1333, .str "=F9" 1337, .str "=FA" 1341, .str "=FB" 1345, .str "=FC" 1349, .str "=FD" 1353, .str "=FE" 1357, .str "=FF" 1361] 0, #[]⟩
noncomputable def b_52 (P : Params) : Obj := ⟨.type "bytes_iterator", none, .fields #[.none, .int 67 0], #[]⟩
noncomputable def b_53 (P : Params) : Obj := ⟨.type "StopIteration", none, .fields #[.ref 56, .none, .none, .none, .bool false, .none], #[]⟩
noncomputable def te12 (P : Params) : BT := (.node (b_0 P) (.node (b_1 P) (.node (b_50 P) (.node (b_7 P) (.node (b_7 P) (.node (b_18 P) .nil .nil) (.node (b_43 P) .nil .nil)) (.node (b_22 P) (.node (b_8 P) .nil .nil) (.node (b_52 P) .nil .nil))) (.node (b_11 P) (.node (b_18 P) (.node (b_35 P) .nil .nil) (.node (b_48 P) .nil .nil)) (.node (b_26 P) (.node (b_38 P) .nil .nil) .nil))) (.node (b_5 P) (.node (b_9 P) (.node (b_16 P) (.node (b_31 P) .nil .nil) (.node (b_7 P) .nil .nil)) (.node (b_24 P) (.node (b_7 P) .nil .nil) (.node (b_53 P) .nil .nil))) (.node (b_13 P) (.node (b_20 P) (.node (b_33 P) .nil .nil) (.node (b_48 P) .nil .nil)) (.node (b_28 P) (.node (b_41 P) .nil .nil) .nil)))) (.node (b_2 P) (.node (b_4 P) (.node (b_8 P) (.node (b_15 P) (.node (b_30 P) .nil .nil) (.node (b_44 P) .nil .nil)) (.node (b_23 P) (.node (b_36 P) .nil .nil) (.node (b_7 P) .nil .nil))) (.node (b_12 P) (.node (b_19 P) (.node (b_32 P) .nil .nil) (.node (b_51 P) .nil .nil)) (.node (b_27 P) (.node (b_39 P) .nil .nil) .nil))) (.node (b_6 P) (.node (b_10 P) (.node (b_17 P) (.node (b_7 P) .nil .nil) (.node (b_45 P) .nil .nil)) (.node (b_25 P) (.node (b_37 P) .nil .nil) .nil)) (.node (b_14 P) (.node (b_21 P) (.node (b_7 P) .nil .nil) (.node (b_49 P) .nil .nil)) (.node (b_29 P) (.node (b_42 P) .nil .nil) .nil)))))
noncomputable def te12S (w : World) (os : OsState) : SharedT := ⟨te12 w.params, 58, {}, #[], {}, 1588, os⟩
noncomputable def b_54 (P : Params) : Obj := ⟨.type "bytes_iterator", none, .fields #[.bytes #[45, 33, 42, 43, 47, 97, 98, 99, 100, 101, 102, 103, 104, 105, 106, 107, 108, 109, 110, 111, 112, 113, 114, 115, 116, 117, 118, 119, 120, 121, 122, 65, 66, 67, 68, 69, 70, 71, 72, 73, 74, 75, 76, 77, 78, 79, 80, 81, 82, 83, 84, 85, 86, 87, 88, 89, 90, 48, 49, 50, 51, 52, 53, 54, 55, 56, 57] 1386, .int 0 0], #[]⟩
noncomputable def tl12 (P : Params) : BT := (.node (b_0 P) (.node (b_1 P) (.node (b_47 P) (.node (b_7 P) (.node (b_7 P) (.node (b_18 P) .nil .nil) (.node (b_43 P) .nil .nil)) (.node (b_22 P) (.node (b_8 P) .nil .nil) (.node (b_54 P) .nil .nil))) (.node (b_11 P) (.node (b_18 P) (.node (b_35 P) .nil .nil) (.node (b_48 P) .nil .nil)) (.node (b_26 P) (.node (b_38 P) .nil .nil) .nil))) (.node (b_5 P) (.node (b_9 P) (.node (b_16 P) (.node (b_31 P) .nil .nil) (.node (b_7 P) .nil .nil)) (.node (b_24 P) (.node (b_7 P) .nil .nil) .nil)) (.node (b_13 P) (.node (b_20 P) (.node (b_33 P) .nil .nil) (.node (b_48 P) .nil .nil)) (.node (b_28 P) (.node (b_41 P) .nil .nil) .nil)))) (.node (b_2 P) (.node (b_4 P) (.node (b_8 P) (.node (b_15 P) (.node (b_30 P) .nil .nil) (.node (b_44 P) .nil .nil)) (.node (b_23 P) (.node (b_36 P) .nil .nil) .nil)) (.node (b_12 P) (.node (b_19 P) (.node (b_32 P) .nil .nil) (.node (b_49 P) .nil .nil)) (.node (b_27 P) (.node (b_39 P) .nil .nil) .nil))) (.node (b_6 P) (.node (b_10 P) (.node (b_17 P) (.node (b_7 P) .nil .nil) (.node (b_45 P) .nil .nil)) (.node (b_25 P) (.node (b_37 P) .nil .nil) .nil)) (.node (b_14 P) (.node (b_21 P) (.node (b_7 P) .nil .nil) (.node (b_49 P) .nil .nil)) (.node (b_29 P) (.node (b_42 P) .nil .nil) .nil)))))
noncomputable def tl12S (w : World) (os : OsState) : SharedT := ⟨tl12 w.params, 56, {}, #[], {}, 1387, os⟩
noncomputable def b_55 (P : Params) : Obj := ⟨.type "list", none, .seq #[.str "=00" 341, .str "=01" 345, .str "=02" 349, .str "=03" 353, .str "=04" 357, .str "=05" 361, .str "=06" 365, .str "=07" 369, .str "=08" 373, .str "=09" 377, .str "=0A" 381, .str "=0B" 385, .str "=0C" 389, .str "=0D" 393, .str "=0E" 397, .str "=0F" 401, .str "=10" 405, .str "=11" 409, .str "=12" 413, .str "=13" 417, .str "=14" 421, .str "=15" 425, .str "=16" 429, .str "=17" 433, .str "=18" 437, .str "=19" 441, .str "=1A" 445, .str "=1B" 449, .str "=1C" 453, .str "=1D" 457, .str "=1E" 461, .str "=1F" 465, .str "_" 1588, .str "!" 1392, .str "=22" 477, .str "=23" 481, .str "=24" 485, .str "=25" 489, .str "=26" 493, .str "=27" 497, .str "=28" 501, .str "=29" 505, .str "*" 1395, .str "+" 1398, .str "=2C" 517, .str "-" 1389, .str "=2E" 525, .str "/" 1401, .str "0" 1560, .str "1" 1563, .str "2" 1566, .str "3" 1569, .str "4" 1572, .str "5" 1575, .str "6" 1578, .str "7" 1581, .str "8" 1584, .str "9" 1587, .str "=3A" 573, .str "=3B" 577, .str "=3C" 581, .str "=3D" 585, .str "=3E" 589, .str "=3F" 593, .str "=40" 597, .str "A" 1482, .str "B" 1485, .str "C" 1488, .str "D" 1491, .str "E" 1494, .str "F" 1497, .str "G" 1500, .str "H" 1503, .str "I" 1506, .str "J" 1509, .str "K" 1512, .str "L" 1515, .str "M" 1518, .str "N" 1521, .str "O" 1524, .str "P" 1527, .str "Q" 1530, .str "R" 1533, .str "S" 1536, .str "T" 1539, .str "U" 1542, .str "V" 1545, .str "W" 1548, .str "X" 1551, .str "Y" 1554, .str "Z" 1557, .str "=5B" 705, .str "=5C" 709, .str "=5D" 713, .str "=5E" 717, .str "=5F" 721, .str "=60" 725, .str "a" 1404, .str "b" 1407, .str "c" 1410, .str "d" 1413, .str "e" 1416, .str "f" 1419, .str "g" 1422, .str "h" 1425, .str "i" 1428, .str "j" 1431, .str "k" 1434, .str "l" 1437, .str "m" 1440, .str "n" 1443, .str "o" 1446, .str "p" 1449, .str "q" 1452, .str "r" 1455, .str "s" 1458, .str "t" 1461, .str "u" 1464, .str "v" 1467, .str "w" 1470, .str "x" 1473, .str "y" 1476, .str "z" 1479, .str "=7B" 833, .str "=7C" 837, .str "=7D" 841, .str "=7E" 845, .str "=7F" 849, .str "=80" 853, .str "=81" 857, .str "=82" 861, .str "=83" 865, .str "=84" 869, .str "=85" 873, .str "=86" 877, .str "=87" 881, .str "=88" 885, .str "=89" 889, .str "=8A" 893, .str "=8B" 897, .str "=8C" 901, .str "=8D" 905, .str "=8E" 909, .str "=8F" 913, .str "=90" 917, .str "=91" 921, .str "=92" 925, .str "=93" 929, .str "=94" 933, .str "=95" 937, .str "=96" 941, .str "=97" 945, .str "=98" 949, .str "=99" 953, .str "=9A" 957, .str "=9B" 961, .str "=9C" 965, .str "=9D" 969, .str "=9E" 973, .str "=9F" 977, .str "=A0" 981, .str "=A1" 985, .str "=A2" 989, .str "=A3" 993, .str "=A4" 997, .str "=A5" 1001, .str "=A6" 1005, .str "=A7" 1009, .str "=A8" 1013, .str "=A9" 1017, .str "=AA" 1021, .str "=AB" 1025, .str "=AC" 1029, .str "=AD" 1033, .str "=AE" 1037, .str "=AF" 1041, .str "=B0" 1045, .str "=B1" 1049, .str "=B2" 1053, .str "=B3" 1057, .str "=B4" 1061, .str "=B5" 1065, .str "=B6" 1069, .str "=B7" 1073, .str "=B8" 1077, .str "=B9" 1081, .str "=BA" 1085, .str "=BB" 1089, .str "=BC" 1093, .str "=BD" 1097, .str "=BE" 1101, .str "=BF" 1105, .str "=C0" 1109, .str "=C1" 1113, .str "=C2" 1117, .str "=C3" 1121, .str "=C4" 1125, .str "=C5" 1129, .str "=C6" 1133, .str "=C7" 1137, .str "=C8" 1141, .str "=C9" 1145, .str "=CA" 1149, .str "=CB" 1153, .str "=CC" 1157, .str "=CD" 1161, .str "=CE" 1165, .str "=CF" 1169, .str "=D0" 1173, .str "=D1" 1177, .str "=D2" 1181, .str "=D3" 1185, .str "=D4" 1189, .str "=D5" 1193, .str "=D6" 1197, .str "=D7" 1201, .str "=D8" 1205, .str "=D9" 1209, .str "=DA" 1213, .str "=DB" 1217, .str "=DC" 1221, .str "=DD" 1225, .str "=DE" 1229, .str "=DF" 1233, .str "=E0" 1237, .str "=E1" 1241, .str "=E2" 1245, .str "=E3" 1249, .str "=E4" 1253, .str "=E5" 1257, .str "=E6" 1261, .str "=E7" 1265, .str "=E8" 1269, .str "=E9" 1273, .str "=EA" 1277, .str "=EB" 1281, .str "=EC" 1285, .str "=ED" 1289, .str "=EE" 1293, .str "=EF" 1297, .str "=F0" 1301, .str "=F1" 1305, .str "=F2" 1309, .str "=F3" 1313, .str "=F4" 1317, .str "=F5" 1321, .str "=F6" 1325, .str "=F7" 1329, .str "=F8" 1333, .str "=F9" 1337, .str "=FA" 1341, .str "=FB" 1345, .str "=FC" 1349, .str "=FD" 1353, .str "=FE" 1357, .str "=FF" 1361] 0, #[]⟩
noncomputable def ta14 (P : Params) : BT := (.node (b_0 P) (.node (b_1 P) (.node (b_50 P) (.node (b_7 P) (.node (b_7 P) (.node (b_18 P) .nil .nil) (.node (b_43 P) .nil .nil)) (.node (b_22 P) (.node (b_8 P) .nil .nil) (.node (b_52 P) .nil .nil))) (.node (b_11 P) (.node (b_18 P) (.node (b_35 P) .nil .nil) (.node (b_48 P) .nil .nil)) (.node (b_26 P) (.node (b_38 P) .nil .nil) .nil))) (.node (b_5 P) (.node (b_9 P) (.node (b_16 P) (.node (b_31 P) .nil .nil) (.node (b_7 P) .nil .nil)) (.node (b_24 P) (.node (b_7 P) .nil .nil) (.node (b_53 P) .nil .nil))) (.node (b_13 P) (.node (b_20 P) (.node (b_33 P) .nil .nil) (.node (b_48 P) .nil .nil)) (.node (b_28 P) (.node (b_41 P) .nil .nil) .nil)))) (.node (b_2 P) (.node (b_4 P) (.node (b_8 P) (.node (b_15 P) (.node (b_30 P) .nil .nil) (.node (b_44 P) .nil .nil)) (.node (b_23 P) (.node (b_36 P) .nil .nil) (.node (b_7 P) .nil .nil))) (.node (b_12 P) (.node (b_19 P) (.node (b_32 P) .nil .nil) (.node (b_55 P) .nil .nil)) (.node (b_27 P) (.node (b_39 P) .nil .nil) .nil))) (.node (b_6 P) (.node (b_10 P) (.node (b_17 P) (.node (b_7 P) .nil .nil) (.node (b_45 P) .nil .nil)) (.node (b_25 P) (.node (b_37 P) .nil .nil) .nil)) (.node (b_14 P) (.node (b_21 P) (.node (b_7 P) .nil .nil) (.node (b_49 P) .nil .nil)) (.node (b_29 P) (.node (b_42 P) .nil .nil) .nil)))))
noncomputable def ta14S (w : World) (os : OsState) : SharedT := ⟨ta14 w.params, 58, {}, #[], {}, 1591, os⟩
noncomputable def b_56 (P : Params) : Obj := ⟨.type "dict", none, .dict #[⟨PyData.keyHash P "__name__", .str "__name__" 165, .str "cpy313.email.quoprimime" 1378⟩, ⟨PyData.keyHash P "__doc__", .str "__doc__" 166, .none⟩, ⟨PyData.keyHash P "__package__", .str "__package__" 167, .none⟩, ⟨PyData.keyHash P "__loader__", .str "__loader__" 168, .builtin "__main__.__loader__#opaque"⟩, ⟨PyData.keyHash P "__spec__", .str "__spec__" 169, .none⟩, ⟨PyData.keyHash P "__annotations__", .str "__annotations__" 170, .ref 6⟩, ⟨PyData.keyHash P "__builtins__", .str "__builtins__" 171, .ref 4⟩, ⟨PyData.keyHash P "__file__", .str "__file__" 173, .str "/claim/cut.py" 172⟩, ⟨PyData.keyHash P "__cached__", .str "__cached__" 174, .none⟩, ⟨PyData.keyHash P "_sre", .str "_sre" 275, .ref 12⟩, ⟨PyData.keyHash P "deque", .str "deque" 317, .type "collections.deque"⟩, ⟨PyData.keyHash P "_wall", .str "_wall" 330, .ref 44⟩, ⟨PyData.keyHash P "CRLF", .str "CRLF" 332, .str "\x0d\n" 331⟩, ⟨PyData.keyHash P "NL", .str "NL" 334, .str "\n" 333⟩, ⟨PyData.keyHash P "_QUOPRI_MAP", .str "_QUOPRI_MAP" 1362, .ref 47⟩, ⟨PyData.keyHash P "_QUOPRI_HEADER_MAP", .str "_QUOPRI_HEADER_MAP" 1363, .ref 52⟩, ⟨PyData.keyHash P "_QUOPRI_BODY_MAP", .str "_QUOPRI_BODY_MAP" 1364, .ref 54⟩, ⟨PyData.keyHash P "ascii_lowercase", .str "ascii_lowercase" 1366, .str "abcdefghijklmnopqrstuvwxyz" 1365⟩, ⟨PyData.keyHash P "ascii_uppercase", .str "ascii_uppercase" 1368, .str "ABCDEFGHIJKLMNOPQRSTUVWXYZ" 1367⟩, ⟨PyData.keyHash P "ascii_letters", .str "ascii_letters" 1370, .str "abcdefghijklmnopqrstuvwxyzABCDEFGHIJKLMNOPQRSTUVWXYZ" 1369⟩, ⟨PyData.keyHash P "digits", .str "digits" 1372, .str "0123456789" 1371⟩, ⟨PyData.keyHash P "hexdigits", .str "hexdigits" 1377, .str "0123456789abcdefABCDEF" 1376⟩, ⟨PyData.keyHash P "c", .str "c" 1388, .int 9 1874⟩] 23, #[]⟩
noncomputable def b_57 (P : Params) : Obj := ⟨.type "list", none, .seq #[.str "=00" 341, .str "=01" 345, .str "=02" 349, .str "=03" 353, .str "=04" 357, .str "=05" 361, .str "=06" 365, .str "=07" 369, .str "=08" 373, .str "\t" 1876, .str "=0A" 381, .str "=0B" 385, .str "=0C" 389, .str "=0D" 393, .str "=0E" 397, .str "=0F" 401, .str "=10" 405, .str "=11" 409, .str "=12" 413, .str "=13" 417, .str "=14" 421, .str "=15" 425, .str "=16" 429, .str "=17" 433, .str "=18" 437, .str "=19" 441, .str "=1A" 445, .str "=1B" 449, .str "=1C" 453, .str "=1D" 457, .str "=1E" 461, .str "=1F" 465, .str " " 1594, .str "!" 1597, .str "\"" 1600, .str "#" 1603, .str "$" 1606, .str "%" 1609, .str "&" 1612, .str "'" 1615, .str "(" 1618, .str ")" 1621, .str "*" 1624, .str "+" 1627, .str "," 1630, .str "-" 1633, .str "." 1636, .str "/" 1639, .str "0" 1642, .str "1" 1645, .str "2" 1648, .str "3" 1651, .str "4" 1654, .str "5" 1657, .str "6" 1660, .str "7" 1663, .str "8" 1666, .str "9" 1669, .str ":" 1672, .str ";" 1675, .str "<" 1678, .str "=3D" 585, .str ">" 1681, .str "?" 1684, .str "@" 1687, .str "A" 1690, .str "B" 1693, .str "C" 1696, .str "D" 1699, .str "E" 1702, .str "F" 1705, .str "G" 1708, .str "H" 1711, .str "I" 1714, .str "J" 1717, .str "K" 1720, .str "L" 1723, .str "M" 1726, .str "N" 1729, .str "O" 1732, .str "P" 1735, .str "Q" 1738, .str "R" 1741, .str "S" 1744, .str "T" 1747, .str "U" 1750, .str "V" 1753, .str "W" 1756, .str "X" 1759, .str "Y" 1762, .str "Z" 1765, .str "[" 1768, .str "\\" 1771, .str "]" 1774, .str "^" 1777, .str "_" 1780, .str "`" 1783, .str "a" 1786, .str "b" 1789, .str "c" 1792, .str "d" 1795, .str "e" 1798, .str "f" 1801, .str "g" 1804, .str "h" 1807, .str "i" 1810, .str "j" 1813, .str "k" 1816, .str "l" 1819, .str "m" 1822, .str "n" 1825, .str "o" 1828, .str "p" 1831, .str "q" 1834, .str "r" 1837, .str "s" 1840, .str "t" 1843, .str "u" 1846, .str "v" 1849, .str "w" 1852, .str "x" 1855, .str "y" 1858, .str "z" 1861, .str "{" 1864, .str "|" 1867, .str "}" 1870, .str "~" 1873, .str "=7F" 849, .str "=80" 853, .str "=81" 857, .str "=82" 861, .str "=83" 865, .str "=84" 869, .str "=85" 873, .str "=86" 877, .str "=87" 881, .str "=88" 885, .str "=89" 889, .str "=8A" 893, .str "=8B" 897, .str "=8C" 901, .str "=8D" 905, .str "=8E" 909, .str "=8F" 913, .str "=90" 917, .str "=91" 921, .str "=92" 925, .str "=93" 929, .str "=94" 933, .str "=95" 937, .str "=96" 941, .str "=97" 945, .str "=98" 949, .str "=99" 953, .str "=9A" 957, .str "=9B" 961, .str "=9C" 965, .str "=9D" 969, .str "=9E" 973, .str "=9F" 977, .str "=A0" 981, .str "=A1" 985, .str "=A2" 989, .str "=A3" 993, .str "=A4" 997, .str "=A5" 1001, .str "=A6" 1005, .str "=A7" 1009, .str "=A8" 1013, .str "=A9" 1017, .str "=AA" 1021, .str "=AB" 1025, .str "=AC" 1029, .str "=AD" 1033, .str "=AE" 1037, .str "=AF" 1041, .str "=B0" 1045, .str "=B1" 1049, .str "=B2" 1053, .str "=B3" 1057, .str "=B4" 1061, .str "=B5" 1065, .str "=B6" 1069, .str "=B7" 1073, .str "=B8" 1077, .str "=B9" 1081, .str "=BA" 1085, .str "=BB" 1089, .str "=BC" 1093, .str "=BD" 1097, .str "=BE" 1101, .str "=BF" 1105, .str "=C0" 1109, .str "=C1" 1113, .str "=C2" 1117, .str "=C3" 1121, .str "=C4" 1125, .str "=C5" 1129, .str "=C6" 1133, .str "=C7" 1137, .str "=C8" 1141, .str "=C9" 1145, .str "=CA" 1149, .str "=CB" 1153, .str "=CC" 1157, .str "=CD" 1161, .str "=CE" 1165, .str "=CF" 1169, .str "=D0" 1173, .str "=D1" 1177, .str "=D2" 1181, .str "=D3" 1185, .str "=D4" 1189, .str "=D5" 1193, .str "=D6" 1197, .str "=D7" 1201, .str "=D8" 1205, .str "=D9" 1209, .str "=DA" 1213, .str "=DB" 1217, .str "=DC" 1221, .str "=DD" 1225, .str "=DE" 1229, .str "=DF" 1233, .str "=E0" 1237, .str "=E1" 1241, .str "=E2" 1245, .str "=E3" 1249, .str "=E4" 1253, .str "=E5" 1257, .str "=E6" 1261, .str "=E7" 1265, .str "=E8" 1269, .str "=E9" 1273, .str "=EA" 1277, .str "=EB" 1281, .str "=EC" 1285, .str "=ED" 1289, .str "=EE" 1293, .str "=EF" 1297, .str "=F0" 1301, .str "=F1" 1305, .str "=F2" 1309, .str "=F3" 1313, .str "=F4" 1317, .str "=F5" 1321, .str "=F6" 1325, .str "=F7" 1329, .str "=F8" 1333, .str "=F9" 1337, .str "=FA" 1341, .str "=FB" 1345, .str "=FC" 1349, .str "=FD" 1353, .str "=FE" 1357, .str "=FF" 1361] 0, #[]⟩
noncomputable def b_58 (P : Params) : Obj := ⟨.type "bytes_iterator", none, .fields #[.none, .int 95 0], #[]⟩
noncomputable def b_59 (P : Params) : Obj := ⟨.type "StopIteration", none, .fields #[.ref 59, .none, .none, .none, .bool false, .none], #[]⟩
noncomputable def te14 (P : Params) : BT := (.node (b_0 P) (.node (b_1 P) (.node (b_56 P) (.node (b_7 P) (.node (b_7 P) (.node (b_18 P) .nil .nil) (.node (b_43 P) .nil .nil)) (.node (b_22 P) (.node (b_8 P) .nil .nil) (.node (b_52 P) .nil .nil))) (.node (b_11 P) (.node (b_18 P) (.node (b_35 P) .nil .nil) (.node (b_48 P) .nil .nil)) (.node (b_26 P) (.node (b_38 P) .nil .nil) (.node (b_7 P) .nil .nil)))) (.node (b_5 P) (.node (b_9 P) (.node (b_16 P) (.node (b_31 P) .nil .nil) (.node (b_7 P) .nil .nil)) (.node (b_24 P) (.node (b_7 P) .nil .nil) (.node (b_53 P) .nil .nil))) (.node (b_13 P) (.node (b_20 P) (.node (b_33 P) .nil .nil) (.node (b_48 P) .nil .nil)) (.node (b_28 P) (.node (b_41 P) .nil .nil) .nil)))) (.node (b_2 P) (.node (b_4 P) (.node (b_8 P) (.node (b_15 P) (.node (b_30 P) .nil .nil) (.node (b_44 P) .nil .nil)) (.node (b_23 P) (.node (b_36 P) .nil .nil) (.node (b_7 P) .nil .nil))) (.node (b_12 P) (.node (b_19 P) (.node (b_32 P) .nil .nil) (.node (b_55 P) .nil .nil)) (.node (b_27 P) (.node (b_39 P) .nil .nil) (.node (b_59 P) .nil .nil)))) (.node (b_6 P) (.node (b_10 P) (.node (b_17 P) (.node (b_7 P) .nil .nil) (.node (b_45 P) .nil .nil)) (.node (b_25 P) (.node (b_37 P) .nil .nil) (.node (b_58 P) .nil .nil))) (.node (b_14 P) (.node (b_21 P) (.node (b_7 P) .nil .nil) (.node (b_57 P) .nil .nil)) (.node (b_29 P) (.node (b_42 P) .nil .nil) .nil)))))
noncomputable def te14S (w : World) (os : OsState) : SharedT := ⟨te14 w.params, 61, {}, #[], {}, 1877, os⟩
noncomputable def b_60 (P : Params) : Obj := ⟨.type "bytes_iterator", none, .fields #[.bytes #[32, 33, 34, 35, 36, 37, 38, 39, 40, 41, 42, 43, 44, 45, 46, 47, 48, 49, 50, 51, 52, 53, 54, 55, 56, 57, 58, 59, 60, 62, 63, 64, 65, 66, 67, 68, 69, 70, 71, 72, 73, 74, 75, 76, 77, 78, 79, 80, 81, 82, 83, 84, 85, 86, 87, 88, 89, 90, 91, 92, 93, 94, 95, 96, 97, 98, 99, 100, 101, 102, 103, 104, 105, 106, 107, 108, 109, 110, 111, 112, 113, 114, 115, 116, 117, 118, 119, 120, 121, 122, 123, 124, 125, 126, 9] 1591, .int 0 0], #[]⟩
noncomputable def tl14 (P : Params) : BT := (.node (b_0 P) (.node (b_1 P) (.node (b_50 P) (.node (b_7 P) (.node (b_7 P) (.node (b_18 P) .nil .nil) (.node (b_43 P) .nil .nil)) (.node (b_22 P) (.node (b_8 P) .nil .nil) (.node (b_52 P) .nil .nil))) (.node (b_11 P) (.node (b_18 P) (.node (b_35 P) .nil .nil) (.node (b_48 P) .nil .nil)) (.node (b_26 P) (.node (b_38 P) .nil .nil) .nil))) (.node (b_5 P) (.node (b_9 P) (.node (b_16 P) (.node (b_31 P) .nil .nil) (.node (b_7 P) .nil .nil)) (.node (b_24 P) (.node (b_7 P) .nil .nil) (.node (b_53 P) .nil .nil))) (.node (b_13 P) (.node (b_20 P) (.node (b_33 P) .nil .nil) (.node (b_48 P) .nil .nil)) (.node (b_28 P) (.node (b_41 P) .nil .nil) .nil)))) (.node (b_2 P) (.node (b_4 P) (.node (b_8 P) (.node (b_15 P) (.node (b_30 P) .nil .nil) (.node (b_44 P) .nil .nil)) (.node (b_23 P) (.node (b_36 P) .nil .nil) (.node (b_7 P) .nil .nil))) (.node (b_12 P) (.node (b_19 P) (.node (b_32 P) .nil .nil) (.node (b_55 P) .nil .nil)) (.node (b_27 P) (.node (b_39 P) .nil .nil) .nil))) (.node (b_6 P) (.node (b_10 P) (.node (b_17 P) (.node (b_7 P) .nil .nil) (.node (b_45 P) .nil .nil)) (.node (b_25 P) (.node (b_37 P) .nil .nil) (.node (b_60 P) .nil .nil))) (.node (b_14 P) (.node (b_21 P) (.node (b_7 P) .nil .nil) (.node (b_49 P) .nil .nil)) (.node (b_29 P) (.node (b_42 P) .nil .nil) .nil)))))
noncomputable def tl14S (w : World) (os : OsState) : SharedT := ⟨tl14 w.params, 59, {}, #[], {}, 1592, os⟩
noncomputable def b_61 (P : Params) : Obj := ⟨.type "dict", none, .dict #[⟨PyData.keyHash P "__name__", .str "__name__" 165, .str "cpy313.email.quoprimime" 1378⟩, ⟨PyData.keyHash P "__doc__", .str "__doc__" 166, .none⟩, ⟨PyData.keyHash P "__package__", .str "__package__" 167, .none⟩, ⟨PyData.keyHash P "__loader__", .str "__loader__" 168, .builtin "__main__.__loader__#opaque"⟩, ⟨PyData.keyHash P "__spec__", .str "__spec__" 169, .none⟩, ⟨PyData.keyHash P "__annotations__", .str "__annotations__" 170, .ref 6⟩, ⟨PyData.keyHash P "__builtins__", .str "__builtins__" 171, .ref 4⟩, ⟨PyData.keyHash P "__file__", .str "__file__" 173, .str "/claim/cut.py" 172⟩, ⟨PyData.keyHash P "__cached__", .str "__cached__" 174, .none⟩, ⟨PyData.keyHash P "_sre", .str "_sre" 275, .ref 12⟩, ⟨PyData.keyHash P "deque", .str "deque" 317, .type "collections.deque"⟩, ⟨PyData.keyHash P "_wall", .str "_wall" 330, .ref 44⟩, ⟨PyData.keyHash P "CRLF", .str "CRLF" 332, .str "\x0d\n" 331⟩, ⟨PyData.keyHash P "NL", .str "NL" 334, .str "\n" 333⟩, ⟨PyData.keyHash P "_QUOPRI_MAP", .str "_QUOPRI_MAP" 1362, .ref 47⟩, ⟨PyData.keyHash P "_QUOPRI_HEADER_MAP", .str "_QUOPRI_HEADER_MAP" 1363, .ref 52⟩, ⟨PyData.keyHash P "_QUOPRI_BODY_MAP", .str "_QUOPRI_BODY_MAP" 1364, .ref 54⟩, ⟨PyData.keyHash P "ascii_lowercase", .str "ascii_lowercase" 1366, .str "abcdefghijklmnopqrstuvwxyz" 1365⟩, ⟨PyData.keyHash P "ascii_uppercase", .str "ascii_uppercase" 1368, .str "ABCDEFGHIJKLMNOPQRSTUVWXYZ" 1367⟩, ⟨PyData.keyHash P "ascii_letters", .str "ascii_letters" 1370, .str "abcdefghijklmnopqrstuvwxyzABCDEFGHIJKLMNOPQRSTUVWXYZ" 1369⟩, ⟨PyData.keyHash P "digits", .str "digits" 1372, .str "0123456789" 1371⟩, ⟨PyData.keyHash P "hexdigits", .str "hexdigits" 1377, .str "0123456789abcdefABCDEF" 1376⟩, ⟨PyData.keyHash P "c", .str "c" 1388, .int 9 1874⟩, ⟨PyData.keyHash P "unquote", .str "unquote" 1883, .ref 67⟩, ⟨PyData.keyHash P "quote", .str "quote" 1890, .ref 74⟩, ⟨PyData.keyHash P "quote_quoprimime", .str "quote_quoprimime" 1891, .ref 74⟩, ⟨PyData.keyHash P "_QUOPRI_BODY_ENCODE_MAP", .str "_QUOPRI_BODY_ENCODE_MAP" 1892, .ref 76⟩] 27, #[]⟩
noncomputable def b_62 (P : Params) : Obj := ⟨.none, none, .fields #[.int 3 0, .int 0 0, .ref 43, .int 22 0, .int 0 0, .ref 66, .int 24 0, .int 0 0, .ref 73], #[]⟩
noncomputable def b_63 (P : Params) : Obj := ⟨.type "tuple", none, .seq #[.str "s" 1880] 0, #[]⟩
noncomputable def b_64 (P : Params) : Obj := ⟨.none, none, .func (fnOf (atTop 17) "unquote" "unquote" 0 [] .none .none .none .none none .none .none 0), #[]⟩
noncomputable def b_65 (P : Params) : Obj := ⟨.type "code", none, .fields #[.str "unquote" 1877, .str "unquote" 1878, .str "/claim/cut.py" 1879, .int 22 0, .int 1 0, .int 0 0, .int 0 0, .int 3 0, .ref 61, .bool true, .int 318 0, .ref 62, .none, .ref 63, .ref 64, .ref 65, .int 1881 0, .int 22 0, .str "/claim/cut.py" 1882], #[]⟩
noncomputable def b_66 (P : Params) : Obj := ⟨.type "function", none, .func (fnOf (atTop 17) "unquote" "unquote" 3 [] .none .none .none (.str "cpy313.email.quoprimime" 1378) none (.ref 66) .none 0), #[]⟩
noncomputable def b_67 (P : Params) : Obj := ⟨.type "tuple", none, .seq #[.str "c" 1887] 0, #[]⟩
noncomputable def b_68 (P : Params) : Obj := ⟨.none, none, .func (fnOf (atTop 18) "quote" "quote" 0 [] .none .none .none .none none .none .none 0), #[]⟩
noncomputable def b_69 (P : Params) : Obj := ⟨.type "code", none, .fields #[.str "quote" 1884, .str "quote" 1885, .str "/claim/cut.py" 1886, .int 24 0, .int 1 0, .int 0 0, .int 0 0, .int 3 0, .ref 68, .bool true, .int 318 0, .ref 69, .none, .ref 70, .ref 71, .ref 72, .int 1888 0, .int 24 0, .str "/claim/cut.py" 1889], #[]⟩
noncomputable def b_70 (P : Params) : Obj := ⟨.type "function", none, .func (fnOf (atTop 18) "quote" "quote" 3 [] .none .none .none (.str "cpy313.email.quoprimime" 1378) none (.ref 73) .none 0), #[]⟩
noncomputable def ta19 (P : Params) : BT := (.node (b_0 P) (.node (b_1 P) (.node (b_61 P) (.node (b_7 P) (.node (b_7 P) (.node (b_18 P) (.node (b_63 P) .nil .nil) .nil) (.node (b_43 P) .nil .nil)) (.node (b_22 P) (.node (b_8 P) (.node (b_7 P) .nil .nil) .nil) (.node (b_52 P) .nil .nil))) (.node (b_11 P) (.node (b_18 P) (.node (b_62 P) (.node (b_66 P) .nil .nil) .nil) (.node (b_48 P) .nil .nil)) (.node (b_26 P) (.node (b_38 P) (.node (b_48 P) .nil .nil) .nil) (.node (b_7 P) .nil .nil)))) (.node (b_5 P) (.node (b_9 P) (.node (b_16 P) (.node (b_31 P) (.node (b_64 P) .nil .nil) .nil) (.node (b_7 P) .nil .nil)) (.node (b_24 P) (.node (b_7 P) (.node (b_69 P) .nil .nil) .nil) (.node (b_53 P) .nil .nil))) (.node (b_13 P) (.node (b_20 P) (.node (b_33 P) (.node (b_8 P) .nil .nil) .nil) (.node (b_48 P) .nil .nil)) (.node (b_28 P) (.node (b_41 P) .nil .nil) (.node (b_7 P) .nil .nil))))) (.node (b_2 P) (.node (b_4 P) (.node (b_8 P) (.node (b_15 P) (.node (b_30 P) (.node (b_7 P) .nil .nil) .nil) (.node (b_44 P) .nil .nil)) (.node (b_23 P) (.node (b_36 P) (.node (b_68 P) .nil .nil) .nil) (.node (b_7 P) .nil .nil))) (.node (b_12 P) (.node (b_19 P) (.node (b_32 P) (.node (b_7 P) .nil .nil) .nil) (.node (b_55 P) .nil .nil)) (.node (b_27 P) (.node (b_39 P) (.node (b_57 P) .nil .nil) .nil) (.node (b_59 P) .nil .nil)))) (.node (b_6 P) (.node (b_10 P) (.node (b_17 P) (.node (b_7 P) (.node (b_65 P) .nil .nil) .nil) (.node (b_45 P) .nil .nil)) (.node (b_25 P) (.node (b_37 P) (.node (b_70 P) .nil .nil) .nil) (.node (b_58 P) .nil .nil))) (.node (b_14 P) (.node (b_21 P) (.node (b_7 P) (.node (b_67 P) .nil .nil) .nil) (.node (b_57 P) .nil .nil)) (.node (b_29 P) (.node (b_42 P) .nil .nil) (.node (b_8 P) .nil .nil))))))
noncomputable def ta19S (w : World) (os : OsState) : SharedT := ⟨ta19 w.params, 77, {}, #[], {}, 1893, os⟩
noncomputable def b_71 (P : Params) : Obj := ⟨.type "dict", none, .dict #[⟨PyData.keyHash P "__name__", .str "__name__" 165, .str "cpy313.email.quoprimime" 1378⟩, ⟨PyData.keyHash P "__doc__", .str "__doc__" 166, .none⟩, ⟨PyData.keyHash P "__package__", .str "__package__" 167, .none⟩, ⟨PyData.keyHash P "__loader__", .str "__loader__" 168, .builtin "__main__.__loader__#opaque"⟩, ⟨PyData.keyHash P "__spec__", .str "__spec__" 169, .none⟩, ⟨PyData.keyHash P "__annotations__", .str "__annotations__" 170, .ref 6⟩, ⟨PyData.keyHash P "__builtins__", .str "__builtins__" 171, .ref 4⟩, ⟨PyData.keyHash P "__file__", .str "__file__" 173, .str "/claim/cut.py" 172⟩, ⟨PyData.keyHash P "__cached__", .str "__cached__" 174, .none⟩, ⟨PyData.keyHash P "_sre", .str "_sre" 275, .ref 12⟩, ⟨PyData.keyHash P "deque", .str "deque" 317, .type "collections.deque"⟩, ⟨PyData.keyHash P "_wall", .str "_wall" 330, .ref 44⟩, ⟨PyData.keyHash P "CRLF", .str "CRLF" 332, .str "\x0d\n" 331⟩, ⟨PyData.keyHash P "NL", .str "NL" 334, .str "\n" 333⟩, ⟨PyData.keyHash P "_QUOPRI_MAP", .str "_QUOPRI_MAP" 1362, .ref 47⟩, ⟨PyData.keyHash P "_QUOPRI_HEADER_MAP", .str "_QUOPRI_HEADER_MAP" 1363, .ref 52⟩, ⟨PyData.keyHash P "_QUOPRI_BODY_MAP", .str "_QUOPRI_BODY_MAP" 1364, .ref 54⟩, ⟨PyData.keyHash P "ascii_lowercase", .str "ascii_lowercase" 1366, .str "abcdefghijklmnopqrstuvwxyz" 1365⟩, ⟨PyData.keyHash P "ascii_uppercase", .str "ascii_uppercase" 1368, .str "ABCDEFGHIJKLMNOPQRSTUVWXYZ" 1367⟩, ⟨PyData.keyHash P "ascii_letters", .str "ascii_letters" 1370, .str "abcdefghijklmnopqrstuvwxyzABCDEFGHIJKLMNOPQRSTUVWXYZ" 1369⟩, ⟨PyData.keyHash P "digits", .str "digits" 1372, .str "0123456789" 1371⟩, ⟨PyData.keyHash P "hexdigits", .str "hexdigits" 1377, .str "0123456789abcdefABCDEF" 1376⟩, ⟨PyData.keyHash P "c", .str "c" 1388, .int 10 1897⟩, ⟨PyData.keyHash P "unquote", .str "unquote" 1883, .ref 67⟩, ⟨PyData.keyHash P "quote", .str "quote" 1890, .ref 74⟩, ⟨PyData.keyHash P "quote_quoprimime", .str "quote_quoprimime" 1891, .ref 74⟩, ⟨PyData.keyHash P "_QUOPRI_BODY_ENCODE_MAP", .str "_QUOPRI_BODY_ENCODE_MAP" 1892, .ref 76⟩] 27, #[]⟩
noncomputable def b_72 (P : Params) : Obj := ⟨.type "list", none, .seq #[.str "=00" 341, .str "=01" 345, .str "=02" 349, .str "=03" 353, .str "=04" 357, .str "=05" 361, .str "=06" 365, .str "=07" 369, .str "=08" 373, .str "\t" 1876, .str "\n" 1899, .str "=0B" 385, .str "=0C" 389, .str "\x0d" 1896, .str "=0E" 397, .str "=0F" 401, .str "=10" 405, .str "=11" 409, .str "=12" 413, .str "=13" 417, .str "=14" 421, .str "=15" 425, .str "=16" 429, .str "=17" 433, .str "=18" 437, .str "=19" 441, .str "=1A" 445, .str "=1B" 449, .str "=1C" 453, .str "=1D" 457, .str "=1E" 461, .str "=1F" 465, .str " " 1594, .str "!" 1597, .str "\"" 1600, .str "#" 1603, .str "$" 1606, .str "%" 1609, .str "&" 1612, .str "'" 1615, .str "(" 1618, .str ")" 1621, .str "*" 1624, .str "+" 1627, .str "," 1630, .str "-" 1633, .str "." 1636, .str "/" 1639, .str "0" 1642, .str "1" 1645, .str "2" 1648, .str "3" 1651, .str "4" 1654, .str "5" 1657, .str "6" 1660, .str "7" 1663, .str "8" 1666, .str "9" 1669, .str ":" 1672, .str ";" 1675, .str "<" 1678, .str "=3D" 585, .str ">" 1681, .str "?" 1684, .str "@" 1687, .str "A" 1690, .str "B" 1693, .str "C" 1696, .str "D" 1699, .str "E" 1702, .str "F" 1705, .str "G" 1708, .str "H" 1711, .str "I" 1714, .str "J" 1717, .str "K" 1720, .str "L" 1723, .str "M" 1726, .str "N" 1729, .str "O" 1732, .str "P" 1735, .str "Q" 1738, .str "R" 1741, .str "S" 1744, .str "T" 1747, .str "U" 1750, .str "V" 1753, .str "W" 1756, .str "X" 1759, .str "Y" 1762, .str "Z" 1765, .str "[" 1768, .str "\\" 1771, .str "]" 1774, .str "^" 1777, .str "_" 1780, .str "`" 1783, .str "a" 1786, .str "b" 1789, .str "c" 1792, .str "d" 1795, .str "e" 1798, .str "f" 1801, .str "g" 1804, .str "h" 1807, .str "i" 1810, .str "j" 1813, .str "k" 1816, .str "l" 1819, .str "m" 1822, .str "n" 1825, .str "o" 1828, .str "p" 1831, .str "q" 1834, .str "r" 1837, .str "s" 1840, .str "t" 1843, .str "u" 1846, .str "v" 1849, .str "w" 1852, .str "x" 1855, .str "y" 1858, .str "z" 1861, .str "{" 1864, .str "|" 1867, .str "}" 1870, .str "~" 1873, .str "=7F" 849, .str "=80" 853, .str "=81" 857, .str "=82" 861, .str "=83" 865, .str "=84" 869, .str "=85" 873, .str "=86" 877, .str "=87" 881, .str "=88" 885, .str "=89" 889, .str "=8A" 893, .str "=8B" 897, .str "=8C" 901, .str "=8D" 905, .str "=8E" 909, .str "=8F" 913, .str "=90" 917, .str "=91" 921, .str "=92" 925, .str "=93" 929, .str "=94" 933, .str "=95" 937, .str "=96" 941, .str "=97" 945, .str "=98" 949, .str "=99" 953, .str "=9A" 957, .str "=9B" 961, .str "=9C" 965, .str "=9D" 969, .str "=9E" 973, .str "=9F" 977, .str "=A0" 981, .str "=A1" 985, .str "=A2" 989, .str "=A3" 993, .str "=A4" 997, .str "=A5" 1001, .str "=A6" 1005, .str "=A7" 1009, .str "=A8" 1013, .str "=A9" 1017, .str "=AA" 1021, .str "=AB" 1025, .str "=AC" 1029, .str "=AD" 1033, .str "=AE" 1037, .str "=AF" 1041, .str "=B0" 1045, .str "=B1" 1049, .str "=B2" 1053, .str "=B3" 1057, .str "=B4" 1061, .str "=B5" 1065, .str "=B6" 1069, .str "=B7" 1073, .str "=B8" 1077, .str "=B9" 1081, .str "=BA" 1085, .str "=BB" 1089, .str "=BC" 1093, .str "=BD" 1097, .str "=BE" 1101, .str "=BF" 1105, .str "=C0" 1109, .str "=C1" 1113, .str "=C2" 1117, .str "=C3" 1121, .str "=C4" 1125, .str "=C5" 1129, .str "=C6" 1133, .str "=C7" 1137, .str "=C8" 1141, .str "=C9" 1145, .str "=CA" 1149, .str "=CB" 1153, .str "=CC" 1157, .str "=CD" 1161, .str "=CE" 1165, .str "=CF" 1169, .str "=D0" 1173, .str "=D1" 1177, .str "=D2" 1181, .str "=D3" 1185, .str "=D4" 1189, .str "=D5" 1193, .str "=D6" 1197, .str "=D7" 1201, .str "=D8" 1205, .str "=D9" 1209, .str "=DA" 1213, .str "=DB" 1217, .str "=DC" 1221, .str "=DD" 1225, .str "=DE" 1229, .str "=DF" 1233, .str "=E0" 1237, .str "=E1" 1241, .str "=E2" 1245, .str "=E3" 1249, .str "=E4" 1253, .str "=E5" 1257, .str "=E6" 1261, .str "=E7" 1265, .str "=E8" 1269, .str "=E9" 1273, .str "=EA" 1277, .str "=EB" 1281, .str "=EC" 1285, .str "=ED" 1289, .str "=EE" 1293, .str "=EF" 1297, .str "=F0" 1301, .str "=F1" 1305, .str "=F2" 1309, .str "=F3" 1313, .str "=F4" 1317, .str "=F5" 1321, .str "=F6" 1325, .str "=F7" 1329, .str "=F8" 1333, .str "=F9" 1337, .str "=FA" 1341, .str "=FB" 1345, .str "=FC" 1349, .str "=FD" 1353, .str "=FE" 1357, .str "=FF" 1361] 0, #[]⟩
noncomputable def b_73 (P : Params) : Obj := ⟨.type "bytes_iterator", none, .fields #[.none, .int 2 0], #[]⟩
noncomputable def b_74 (P : Params) : Obj := ⟨.type "StopIteration", none, .fields #[.ref 78, .none, .none, .none, .bool false, .none], #[]⟩
noncomputable def te19 (P : Params) : BT := (.node (b_0 P) (.node (b_1 P) (.node (b_71 P) (.node (b_7 P) (.node (b_7 P) (.node (b_18 P) (.node (b_63 P) .nil .nil) .nil) (.node (b_43 P) (.node (b_74 P) .nil .nil) .nil)) (.node (b_22 P) (.node (b_8 P) (.node (b_7 P) .nil .nil) .nil) (.node (b_52 P) .nil .nil))) (.node (b_11 P) (.node (b_18 P) (.node (b_62 P) (.node (b_66 P) .nil .nil) .nil) (.node (b_48 P) .nil .nil)) (.node (b_26 P) (.node (b_38 P) (.node (b_48 P) .nil .nil) .nil) (.node (b_7 P) .nil .nil)))) (.node (b_5 P) (.node (b_9 P) (.node (b_16 P) (.node (b_31 P) (.node (b_64 P) .nil .nil) .nil) (.node (b_7 P) .nil .nil)) (.node (b_24 P) (.node (b_7 P) (.node (b_69 P) .nil .nil) .nil) (.node (b_53 P) .nil .nil))) (.node (b_13 P) (.node (b_20 P) (.node (b_33 P) (.node (b_8 P) .nil .nil) .nil) (.node (b_48 P) .nil .nil)) (.node (b_28 P) (.node (b_41 P) (.node (b_73 P) .nil .nil) .nil) (.node (b_7 P) .nil .nil))))) (.node (b_2 P) (.node (b_4 P) (.node (b_8 P) (.node (b_15 P) (.node (b_30 P) (.node (b_7 P) .nil .nil) .nil) (.node (b_44 P) .nil .nil)) (.node (b_23 P) (.node (b_36 P) (.node (b_68 P) .nil .nil) .nil) (.node (b_7 P) .nil .nil))) (.node (b_12 P) (.node (b_19 P) (.node (b_32 P) (.node (b_7 P) .nil .nil) .nil) (.node (b_55 P) .nil .nil)) (.node (b_27 P) (.node (b_39 P) (.node (b_72 P) .nil .nil) .nil) (.node (b_59 P) .nil .nil)))) (.node (b_6 P) (.node (b_10 P) (.node (b_17 P) (.node (b_7 P) (.node (b_65 P) .nil .nil) .nil) (.node (b_45 P) .nil .nil)) (.node (b_25 P) (.node (b_37 P) (.node (b_70 P) .nil .nil) .nil) (.node (b_58 P) .nil .nil))) (.node (b_14 P) (.node (b_21 P) (.node (b_7 P) (.node (b_67 P) .nil .nil) .nil) (.node (b_57 P) .nil .nil)) (.node (b_29 P) (.node (b_42 P) (.node (b_7 P) .nil .nil) .nil) (.node (b_8 P) .nil .nil))))))
noncomputable def te19S (w : World) (os : OsState) : SharedT := ⟨te19 w.params, 80, {}, #[], {}, 1900, os⟩
noncomputable def k_2 (P : Params) : Obj := ⟨.none, none, .dict #[⟨PyData.keyHash P "\x69mport.loaded._sre", .str "\x69mport.loaded._sre" 183, .bool true⟩, ⟨PyData.keyHash P "class._frozen_importlib.BuiltinImporter", .str "class._frozen_importlib.BuiltinImporter" 185, .ref 14⟩, ⟨PyData.keyHash P "watched.\x69mport", .str "watched.\x69mport" 206, .ref 18⟩, ⟨PyData.keyHash P "class._frozen_importlib.ModuleSpec", .str "class._frozen_importlib.ModuleSpec" 216, .ref 22⟩, ⟨PyData.keyHash P "sys.modules.booked-epoch", .str "sys.modules.booked-epoch" 245, .int 4 0⟩, ⟨PyData.keyHash P "\x69mport.later-laid._sre", .str "\x69mport.later-laid._sre" 270, .bool true⟩, ⟨PyData.keyHash P "watched.library", .str "watched.library" 272, .ref 27⟩, ⟨PyData.keyHash P "watched.library-objects", .str "watched.library-objects" 0, .str "\x0c\x1e" 0⟩, ⟨PyData.keyHash P "watched.library-deep._sre", .str "watched.library-deep._sre" 273, .str "\x04\x00\x00\x0b\x04\x00\x00\x0b\x04\x00\x00\x03\x04\x00\x00\x0b\x08\x04dict\x02" 0⟩, ⟨PyData.keyHash P "\x69mport.loaded._collections", .str "\x69mport.loaded._collections" 280, .bool true⟩, ⟨PyData.keyHash P "sys.modules.landed._collections", .str "sys.modules.landed._collections" 294, .bool true⟩, ⟨PyData.keyHash P "\x69mport.later-laid._collections", .str "\x69mport.later-laid._collections" 309, .bool true⟩, ⟨PyData.keyHash P "watched.library-deep._collections", .str "watched.library-deep._collections" 311, .str "\x04\x00\x00\x1d\x04\x00\x00\x1d\x04\x00\x00\x03\x04\x00\x00\x1d\x08\x04dict\x02" 0⟩, ⟨PyData.keyHash P "type.__subclasses__.OSError.0", .str "type.__subclasses__.OSError.0" 2009, .int 124 0⟩, ⟨PyData.keyHash P "type.__subclasses__.OSError.n", .str "type.__subclasses__.OSError.n" 2010, .int 1 0⟩] 15, #[]⟩
noncomputable def k_3 (P : Params) : Obj := ⟨.type "dict", none, .dict #[⟨PyData.keyHash P "__name__", .str "__name__" 165, .str "law_oy0446_01" 2858⟩, ⟨PyData.keyHash P "__doc__", .str "__doc__" 166, .none⟩, ⟨PyData.keyHash P "__package__", .str "__package__" 167, .none⟩, ⟨PyData.keyHash P "__loader__", .str "__loader__" 168, .builtin "__main__.__loader__#opaque"⟩, ⟨PyData.keyHash P "__spec__", .str "__spec__" 169, .none⟩, ⟨PyData.keyHash P "__annotations__", .str "__annotations__" 170, .ref 6⟩, ⟨PyData.keyHash P "__builtins__", .str "__builtins__" 171, .ref 4⟩, ⟨PyData.keyHash P "__file__", .str "__file__" 173, .str "/claim/cut.py" 172⟩, ⟨PyData.keyHash P "__cached__", .str "__cached__" 174, .none⟩, ⟨PyData.keyHash P "_sre", .str "_sre" 275, .ref 12⟩, ⟨PyData.keyHash P "deque", .str "deque" 317, .type "collections.deque"⟩, ⟨PyData.keyHash P "_wall", .str "_wall" 330, .ref 44⟩, ⟨PyData.keyHash P "CRLF", .str "CRLF" 332, .str "\x0d\n" 331⟩, ⟨PyData.keyHash P "NL", .str "NL" 334, .str "\n" 333⟩, ⟨PyData.keyHash P "_QUOPRI_MAP", .str "_QUOPRI_MAP" 1362, .ref 47⟩, ⟨PyData.keyHash P "_QUOPRI_HEADER_MAP", .str "_QUOPRI_HEADER_MAP" 1363, .ref 52⟩, ⟨PyData.keyHash P "_QUOPRI_BODY_MAP", .str "_QUOPRI_BODY_MAP" 1364, .ref 54⟩, ⟨PyData.keyHash P "ascii_lowercase", .str "ascii_lowercase" 1366, .str "abcdefghijklmnopqrstuvwxyz" 1365⟩, ⟨PyData.keyHash P "ascii_uppercase", .str "ascii_uppercase" 1368, .str "ABCDEFGHIJKLMNOPQRSTUVWXYZ" 1367⟩, ⟨PyData.keyHash P "ascii_letters", .str "ascii_letters" 1370, .str "abcdefghijklmnopqrstuvwxyzABCDEFGHIJKLMNOPQRSTUVWXYZ" 1369⟩, ⟨PyData.keyHash P "digits", .str "digits" 1372, .str "0123456789" 1371⟩, ⟨PyData.keyHash P "hexdigits", .str "hexdigits" 1377, .str "0123456789abcdefABCDEF" 1376⟩, ⟨PyData.keyHash P "unquote", .str "unquote" 1883, .ref 67⟩, ⟨PyData.keyHash P "quote", .str "quote" 1890, .ref 810⟩, ⟨PyData.keyHash P "quote_quoprimime", .str "quote_quoprimime" 1891, .ref 74⟩, ⟨PyData.keyHash P "_QUOPRI_BODY_ENCODE_MAP", .str "_QUOPRI_BODY_ENCODE_MAP" 1892, .ref 76⟩, ⟨PyData.keyHash P "body_encode", .str "body_encode" 1919, .ref 87⟩, ⟨PyData.keyHash P "decode", .str "decode" 1932, .ref 95⟩, ⟨PyData.keyHash P "_twin_re_1", .str "_twin_re_1" 1972, .ref 100⟩, ⟨PyData.keyHash P "_whence", .str "_whence" 1982, .ref 107⟩, ⟨PyData.keyHash P "_index", .str "_index" 1990, .ref 114⟩, ⟨PyData.keyHash P "UnsupportedOperation", .str "UnsupportedOperation" 2012, .ref 124⟩, ⟨PyData.keyHash P "IOBase", .str "IOBase" 2044, .ref 144⟩, ⟨PyData.keyHash P "BufferedIOBase", .str "BufferedIOBase" 2062, .ref 159⟩, ⟨PyData.keyHash P "TextIOBase", .str "TextIOBase" 2080, .ref 171⟩, ⟨PyData.keyHash P "BytesIO", .str "BytesIO" 2342, .ref 401⟩, ⟨PyData.keyHash P "StringIO", .str "StringIO" 2629, .ref 648⟩, ⟨PyData.keyHash P "_kind", .str "_kind" 2640, .ref 657⟩, ⟨PyData.keyHash P "_fspath", .str "_fspath" 2649, .ref 664⟩, ⟨PyData.keyHash P "_check_arg_types", .str "_check_arg_types" 2659, .ref 671⟩, ⟨PyData.keyHash P "isabs", .str "isabs" 2666, .ref 678⟩, ⟨PyData.keyHash P "join", .str "join" 2677, .ref 802⟩, ⟨PyData.keyHash P "join_path", .str "join_path" 2678, .ref 685⟩, ⟨PyData.keyHash P "dirname", .str "dirname" 2688, .ref 692⟩, ⟨PyData.keyHash P "shlex", .str "shlex" 2829, .ref 783⟩, ⟨PyData.keyHash P "split", .str "split" 2839, .ref 795⟩, ⟨PyData.keyHash P "join_shlex", .str "join_shlex" 2847, .ref 802⟩, ⟨PyData.keyHash P "_find_unsafe", .str "_find_unsafe" 2849, .ref 803⟩, ⟨PyData.keyHash P "quote_shlex", .str "quote_shlex" 2857, .ref 810⟩, ⟨PyData.keyHash P "_law_words", .str "_law_words" 2865, .ref 815⟩, ⟨PyData.keyHash P "_law_laid", .str "_law_laid" 2871, .ref 820⟩, ⟨PyData.keyHash P "_law_taken", .str "_law_taken" 2877, .ref 825⟩, ⟨PyData.keyHash P "law", .str "law" 2883, .ref 830⟩] 55, #[]⟩
noncomputable def k_47 (P : Params) : Obj := ⟨.type "list", none, .seq #[.str "=00" 341, .str "=01" 345, .str "=02" 349, .str "=03" 353, .str "=04" 357, .str "=05" 361, .str "=06" 365, .str "=07" 369, .str "=08" 373, .str "=09" 377, .str "=0A" 381, .str "=0B" 385, .str "=0C" 389, .str "=0D" 393, .str "=0E" 397, .str "=0F" 401, .str "=10" 405, .str "=11" 409, .str "=12" 413, .str "=13" 417, .str "=14" 421, .str "=15" 425, .str "=16" 429, .str "=17" 433, .str "=18" 437, .str "=19" 441, .str "=1A" 445, .str "=1B" 449, .str "=1C" 453, .str "=1D" 457, .str "=1E" 461, .str "=1F" 465, .str "=20" 469, .str "=21" 473, .str "=22" 477, .str "=23" 481, .str "=24" 485, .str "=25" 489, .str "=26" 493, .str "=27" 497, .str "=28" 501, .str "=29" 505, .str "=2A" 509, .str "=2B" 513, .str "=2C" 517, .str "=2D" 521, .str "=2E" 525, .str "=2F" 529, .str "=30" 533, .str "=31" 537, .str "=32" 541, .str "=33" 545, .str "=34" 549, .str "=35" 553, .str "=36" 557, .str "=37" 561, .str "=38" 565, .str "=39" 569, .str "=3A" 573, .str "=3B" 577, .str "=3C" 581, .str "=3D" 585, .str "=3E" 589, .str "=3F" 593, .str "=40" 597, .str "=41" 601, .str "=42" 605, .str "=43" 609, .str "=44" 613, .str "=45" 617, .str "=46" 621, .str "=47" 625, .str "=48" 629, .str "=49" 633, .str "=4A" 637, .str "=4B" 641, .str "=4C" 645, .str "=4D" 649, .str "=4E" 653, .str "=4F" 657, .str "=50" 661, .str "=51" 665, .str "=52" 669, .str "=53" 673, .str "=54" 677, .str "=55" 681, .str "=56" 685, .str "=57" 689, .str "=58" 693, .str "=59" 697, .str "=5A" 701, .str "=5B" 705, .str "=5C" 709, .str "=5D" 713, .str "=5E" 717, .str "=5F" 721, .str "=60" 725, .str "=61" 729, .str "=62" 733, .str "=63" 737, .str "=64" 741, .str "=65" 745, .str "=66" 749, .str "=67" 753, .str "=68" 757, .str "=69" 761, .str "=6A" 765, .str "=6B" 769, .str "=6C" 773, .str "=6D" 777, .str "=6E" 781, .str "=6F" 785, .str "=70" 789, .str "=71" 793, .str "=72" 797, .str "=73" 801, .str "=74" 805, .str "=75" 809, .str "=76" 813, .str "=77" 817, .str "=78" 821, .str "=79" 825, .str "=7A" 829, .str "=7B" 833, .str "=7C" 837, .str "=7D" 841, .str "=7E" 845, .str "=7F" 849, .str "=80" 853, .str "=81" 857, .str "=82" 861, .str "=83" 865, .str "=84" 869, .str "=85" 873, .str "=86" 877, .str "=87" 881, .str "=88" 885, .str "=89" 889, .str "=8A" 893, .str "=8B" 897, .str "=8C" 901, .str "=8D" 905, .str "=8E" 909, .str "=8F" 913, .str "=90" 917, .str "=91" 921, .str "=92" 925, .str "=93" 929, .str "=94" 933, .str "=95" 937, .str "=96" 941, .str "=97" 945, .str "=98" 949, .str "=99" 953, .str "=9A" 957, .str "=9B" 961, .str "=9C" 965, .str "=9D" 969, .str "=9E" 973, .str "=9F" 977, .str "=A0" 981, .str "=A1" 985, .str "=A2" 989, .str "=A3" 993, .str "=A4" 997, .str "=A5" 1001, .str "=A6" 1005, .str "=A7" 1009, .str "=A8" 1013, .str "=A9" 1017, .str "=AA" 1021, .str "=AB" 1025, .str "=AC" 1029, .str "=AD" 1033, .str "=AE" 1037, .str "=AF" 1041, .str "=B0" 1045, .str "=B1" 1049, .str "=B2" 1053, .str "=B3" 1057, .str "=B4" 1061, .str "=B5" 1065, .str "=B6" 1069, .str "=B7" 1073, .str "=B8" 1077, .str "=B9" 1081, .str "=BA" 1085, .str "=BB" 1089, .str "=BC" 1093, .str "=BD" 1097, .str "=BE" 1101, .str "=BF" 1105, .str "=C0" 1109, .str "=C1" 1113, .str "=C2" 1117, .str "=C3" 1121, .str "=C4" 1125, .str "=C5" 1129, .str "=C6" 1133, .str "=C7" 1137, .str "=C8" 1141, .str "=C9" 1145, .str "=CA" 1149, .str "=CB" 1153, .str "=CC" 1157, .str "=CD" 1161, .str "=CE" 1165, .str "=CF" 1169, .str "=D0" 1173, .str "=D1" 1177, .str "=D2" 1181, .str "=D3" 1185, .str "=D4" 1189, .str "=D5" 1193, .str "=D6" 1197, .str "=D7" 1201, .str "=D8" 1205, .str "=D9" 1209, .str "=DA" 1213, .str "=DB" 1217, .str "=DC" 1221, .str "=DD" 1225, .str "=DE" 1229, .str "=DF" 1233, .str "=E0" 1237, .str "=E1" 1241, .str "=E2" 1245, .str "=E3" 1249, .str "=E4" 1253, .str "=E5" 1257, .str "=E6" 1261, .str "=E7" 1265, .str "=E8" 1269, .str "=E9" 1273, .str "=EA" 1277, .str "=EB" 1281, .str "=EC" 1285, .str "=ED" 1289, .str "=EE" 1293, .str "=EF" 1297, .str "=F0" 1301, .str "=F1" 1305, .str "=F2" 1309, .str "=F3" 1313, .str "=F4" 1317, .str "=F5" 1321, .str "=F6" 1325, .str "=F7" 1329, .str "=F8" 1333, .str "=F9" 1337, .str "=FA" 1341, .str "=FB" 1345, .str "=FC" 1349, .str "=FD" 1353, .str "=FE" 1357, .str "=FF" 1361] 256, #[]⟩
noncomputable def k_61 (P : Params) : Obj := ⟨.type "tuple", none, .seq #[] 0, #[]⟩
noncomputable def k_62 (P : Params) : Obj := ⟨.none, none, .fields #[], #[]⟩
noncomputable def k_63 (P : Params) : Obj := ⟨.type "tuple", none, .seq #[.str "s" 1880] 0, #[]⟩
noncomputable def k_64 (P : Params) : Obj := ⟨.type "tuple", none, .seq #[] 0, #[]⟩
noncomputable def k_65 (P : Params) : Obj := ⟨.none, none, .func (fnOf (atTop 17) "unquote" "unquote" 0 [] .none .none .none .none none .none .none 0), #[]⟩
noncomputable def k_66 (P : Params) : Obj := ⟨.type "code", none, .fields #[.str "unquote" 1877, .str "unquote" 1878, .str "/claim/cut.py" 1879, .int 22 0, .int 1 0, .int 0 0, .int 0 0, .int 3 0, .ref 61, .bool true, .int 318 0, .ref 62, .none, .ref 63, .ref 64, .ref 65, .int 1881 0, .int 22 0, .str "/claim/cut.py" 1882], #[]⟩
noncomputable def k_67 (P : Params) : Obj := ⟨.type "function", none, .func (fnOf (atTop 17) "unquote" "unquote" 3 [] .none .none .none (.str "cpy313.email.quoprimime" 1378) none (.ref 66) .none 0), #[]⟩
noncomputable def k_68 (P : Params) : Obj := ⟨.type "tuple", none, .seq #[] 0, #[]⟩
noncomputable def k_69 (P : Params) : Obj := ⟨.none, none, .fields #[], #[]⟩
noncomputable def k_70 (P : Params) : Obj := ⟨.type "tuple", none, .seq #[.str "c" 1887] 0, #[]⟩
noncomputable def k_71 (P : Params) : Obj := ⟨.type "tuple", none, .seq #[] 0, #[]⟩
noncomputable def k_72 (P : Params) : Obj := ⟨.none, none, .func (fnOf (atTop 18) "quote" "quote" 0 [] .none .none .none .none none .none .none 0), #[]⟩
noncomputable def k_73 (P : Params) : Obj := ⟨.type "code", none, .fields #[.str "quote" 1884, .str "quote" 1885, .str "/claim/cut.py" 1886, .int 24 0, .int 1 0, .int 0 0, .int 0 0, .int 3 0, .ref 68, .bool true, .int 318 0, .ref 69, .none, .ref 70, .ref 71, .ref 72, .int 1888 0, .int 24 0, .str "/claim/cut.py" 1889], #[]⟩
noncomputable def k_74 (P : Params) : Obj := ⟨.type "function", none, .func (fnOf (atTop 18) "quote" "quote" 3 [] .none .none .none (.str "cpy313.email.quoprimime" 1378) none (.ref 73) .none 0), #[]⟩
noncomputable def k_76 (P : Params) : Obj := ⟨.type "list", none, .seq #[.str "=00" 341, .str "=01" 345, .str "=02" 349, .str "=03" 353, .str "=04" 357, .str "=05" 361, .str "=06" 365, .str "=07" 369, .str "=08" 373, .str "\t" 1876, .str "\n" 1899, .str "=0B" 385, .str "=0C" 389, .str "\x0d" 1896, .str "=0E" 397, .str "=0F" 401, .str "=10" 405, .str "=11" 409, .str "=12" 413, .str "=13" 417, .str "=14" 421, .str "=15" 425, .str "=16" 429, .str "=17" 433, .str "=18" 437, .str "=19" 441, .str "=1A" 445, .str "=1B" 449, .str "=1C" 453, .str "=1D" 457, .str "=1E" 461, .str "=1F" 465, .str " " 1594, .str "!" 1597, .str "\"" 1600, .str "#" 1603, .str "$" 1606, .str "%" 1609, .str "&" 1612, .str "'" 1615, .str "(" 1618, .str ")" 1621, .str "*" 1624, .str "+" 1627, .str "," 1630, .str "-" 1633, .str "." 1636, .str "/" 1639, .str "0" 1642, .str "1" 1645, .str "2" 1648, .str "3" 1651, .str "4" 1654, .str "5" 1657, .str "6" 1660, .str "7" 1663, .str "8" 1666, .str "9" 1669, .str ":" 1672, .str ";" 1675, .str "<" 1678, .str "=3D" 585, .str ">" 1681, .str "?" 1684, .str "@" 1687, .str "A" 1690, .str "B" 1693, .str "C" 1696, .str "D" 1699, .str "E" 1702, .str "F" 1705, .str "G" 1708, .str "H" 1711, .str "I" 1714, .str "J" 1717, .str "K" 1720, .str "L" 1723, .str "M" 1726, .str "N" 1729, .str "O" 1732, .str "P" 1735, .str "Q" 1738, .str "R" 1741, .str "S" 1744, .str "T" 1747, .str "U" 1750, .str "V" 1753, .str "W" 1756, .str "X" 1759, .str "Y" 1762, .str "Z" 1765, .str "[" 1768, .str "\\" 1771, .str "]" 1774, .str "^" 1777, .str "_" 1780, .str "`" 1783, .str "a" 1786, .str "b" 1789, .str "c" 1792, .str "d" 1795, .str "e" 1798, .str "f" 1801, .str "g" 1804, .str "h" 1807, .str "i" 1810, .str "j" 1813, .str "k" 1816, .str "l" 1819, .str "m" 1822, .str "n" 1825, .str "o" 1828, .str "p" 1831, .str "q" 1834, .str "r" 1837, .str "s" 1840, .str "t" 1843, .str "u" 1846, .str "v" 1849, .str "w" 1852, .str "x" 1855, .str "y" 1858, .str "z" 1861, .str "{" 1864, .str "|" 1867, .str "}" 1870, .str "~" 1873, .str "=7F" 849, .str "=80" 853, .str "=81" 857, .str "=82" 861, .str "=83" 865, .str "=84" 869, .str "=85" 873, .str "=86" 877, .str "=87" 881, .str "=88" 885, .str "=89" 889, .str "=8A" 893, .str "=8B" 897, .str "=8C" 901, .str "=8D" 905, .str "=8E" 909, .str "=8F" 913, .str "=90" 917, .str "=91" 921, .str "=92" 925, .str "=93" 929, .str "=94" 933, .str "=95" 937, .str "=96" 941, .str "=97" 945, .str "=98" 949, .str "=99" 953, .str "=9A" 957, .str "=9B" 961, .str "=9C" 965, .str "=9D" 969, .str "=9E" 973, .str "=9F" 977, .str "=A0" 981, .str "=A1" 985, .str "=A2" 989, .str "=A3" 993, .str "=A4" 997, .str "=A5" 1001, .str "=A6" 1005, .str "=A7" 1009, .str "=A8" 1013, .str "=A9" 1017, .str "=AA" 1021, .str "=AB" 1025, .str "=AC" 1029, .str "=AD" 1033, .str "=AE" 1037, .str "=AF" 1041, .str "=B0" 1045, .str "=B1" 1049, .str "=B2" 1053, .str "=B3" 1057, .str "=B4" 1061, .str "=B5" 1065, .str "=B6" 1069, .str "=B7" 1073, .str "=B8" 1077, .str "=B9" 1081, .str "=BA" 1085, .str "=BB" 1089, .str "=BC" 1093, .str "=BD" 1097, .str "=BE" 1101, .str "=BF" 1105, .str "=C0" 1109, .str "=C1" 1113, .str "=C2" 1117, .str "=C3" 1121, .str "=C4" 1125, .str "=C5" 1129, .str "=C6" 1133, .str "=C7" 1137, .str "=C8" 1141, .str "=C9" 1145, .str "=CA" 1149, .str "=CB" 1153, .str "=CC" 1157, .str "=CD" 1161, .str "=CE" 1165, .str "=CF" 1169, .str "=D0" 1173, .str "=D1" 1177, .str "=D2" 1181, .str "=D3" 1185, .str "=D4" 1189, .str "=D5" 1193, .str "=D6" 1197, .str "=D7" 1201, .str "=D8" 1205, .str "=D9" 1209, .str "=DA" 1213, .str "=DB" 1217, .str "=DC" 1221, .str "=DD" 1225, .str "=DE" 1229, .str "=DF" 1233, .str "=E0" 1237, .str "=E1" 1241, .str "=E2" 1245, .str "=E3" 1249, .str "=E4" 1253, .str "=E5" 1257, .str "=E6" 1261, .str "=E7" 1265, .str "=E8" 1269, .str "=E9" 1273, .str "=EA" 1277, .str "=EB" 1281, .str "=EC" 1285, .str "=ED" 1289, .str "=EE" 1293, .str "=EF" 1297, .str "=F0" 1301, .str "=F1" 1305, .str "=F2" 1309, .str "=F3" 1313, .str "=F4" 1317, .str "=F5" 1321, .str "=F6" 1325, .str "=F7" 1329, .str "=F8" 1333, .str "=F9" 1337, .str "=FA" 1341, .str "=FB" 1345, .str "=FC" 1349, .str "=FD" 1353, .str "=FE" 1357, .str "=FF" 1361] 0, #[]⟩
noncomputable def k_80 (P : Params) : Obj := ⟨.type "tuple", none, .seq #[.int 76 1900, .str "\n" 333] 0, #[]⟩
noncomputable def k_81 (P : Params) : Obj := ⟨.type "tuple", none, .seq #[] 0, #[]⟩
noncomputable def k_82 (P : Params) : Obj := ⟨.none, none, .fields #[], #[]⟩
noncomputable def k_83 (P : Params) : Obj := ⟨.type "tuple", none, .seq #[.str "body" 1904, .str "maxlinelen" 1905, .str "eol" 1906, .str "soft_break" 1907, .str "maxlinelen1" 1908, .str "encoded_body" 1909, .str "append" 1910, .str "line" 1911, .str "start" 1912, .str "laststart" 1913, .str "stop" 1914, .str "room" 1915, .str "q" 1916] 0, #[]⟩
noncomputable def k_84 (P : Params) : Obj := ⟨.type "tuple", none, .seq #[] 0, #[]⟩
noncomputable def k_85 (P : Params) : Obj := ⟨.none, none, .func (fnOf (atTop 23) "body_encode" "body_encode" 0 [] .none .none .none .none none .none .none 0), #[]⟩
noncomputable def k_86 (P : Params) : Obj := ⟨.type "code", none, .fields #[.str "body_encode" 1901, .str "body_encode" 1902, .str "/claim/cut.py" 1903, .int 31 0, .int 3 0, .int 0 0, .int 0 0, .int 3 0, .ref 81, .bool true, .int 318 0, .ref 82, .none, .ref 83, .ref 84, .ref 85, .int 1917 0, .int 31 0, .str "/claim/cut.py" 1918], #[]⟩
noncomputable def k_87 (P : Params) : Obj := ⟨.type "function", none, .func (fnOf (atTop 23) "body_encode" "body_encode" 3 [] (.ref 80) .none .none (.str "cpy313.email.quoprimime" 1378) none (.ref 86) .none 0), #[]⟩
noncomputable def k_88 (P : Params) : Obj := ⟨.type "tuple", none, .seq #[.str "\n" 333] 0, #[]⟩
noncomputable def k_89 (P : Params) : Obj := ⟨.type "tuple", none, .seq #[] 0, #[]⟩
noncomputable def k_90 (P : Params) : Obj := ⟨.none, none, .fields #[], #[]⟩
noncomputable def k_91 (P : Params) : Obj := ⟨.type "tuple", none, .seq #[.str "encoded" 1923, .str "eol" 1924, .str "decoded" 1925, .str "line" 1926, .str "i" 1927, .str "n" 1928, .str "c" 1929] 0, #[]⟩
noncomputable def k_92 (P : Params) : Obj := ⟨.type "tuple", none, .seq #[] 0, #[]⟩
noncomputable def k_93 (P : Params) : Obj := ⟨.none, none, .func (fnOf (atTop 24) "decode" "decode" 0 [] .none .none .none .none none .none .none 0), #[]⟩
noncomputable def k_94 (P : Params) : Obj := ⟨.type "code", none, .fields #[.str "decode" 1920, .str "decode" 1921, .str "/claim/cut.py" 1922, .int 69 0, .int 2 0, .int 0 0, .int 0 0, .int 3 0, .ref 89, .bool true, .int 318 0, .ref 90, .none, .ref 91, .ref 92, .ref 93, .int 1930 0, .int 69 0, .str "/claim/cut.py" 1931], #[]⟩
noncomputable def k_95 (P : Params) : Obj := ⟨.type "function", none, .func (fnOf (atTop 24) "decode" "decode" 3 [] (.ref 88) .none .none (.str "cpy313.email.quoprimime" 1378) none (.ref 94) .none 0), #[]⟩
noncomputable def k_99 (P : Params) : Obj := ⟨.type "tuple", none, .seq #[.int 14 0, .int 17 0, .int 4 0, .int 1 0, .int 1 0, .int 21 0, .int 9 0, .int 0 0, .int 604043296 0, .int 1 0, .int 0 0, .int 0 0, .int 0 0, .int 0 0, .int 0 0, .int 8 0, .int 4 0, .int 0 0, .int 13 0, .int 14 0, .int 21 0, .int 9 0, .int 0 0, .int 604043296 0, .int 1 0, .int 0 0, .int 0 0, .int 0 0, .int 0 0, .int 0 0, .int 8 0, .int 4 0, .int 0 0, .int 1 0] 0, #[]⟩
noncomputable def k_100 (P : Params) : Obj := ⟨.type "re.Pattern", none, .fields #[.str "[^\\w@%+=:,./-]" 1934, .int 256 1971, .int 0 0, .none, .none, .ref 99, .int 0 0], #[]⟩
noncomputable def k_108 (P : Params) : Obj := ⟨.type "tuple", none, .seq #[] 0, #[]⟩
noncomputable def k_109 (P : Params) : Obj := ⟨.none, none, .fields #[], #[]⟩
noncomputable def k_110 (P : Params) : Obj := ⟨.type "tuple", none, .seq #[.str "n" 1986, .str "what" 1987] 0, #[]⟩
noncomputable def k_111 (P : Params) : Obj := ⟨.type "tuple", none, .seq #[] 0, #[]⟩
noncomputable def k_112 (P : Params) : Obj := ⟨.none, none, .func (fnOf (atTop 28) "_index" "_index" 0 [] .none .none .none .none none .none .none 0), #[]⟩
noncomputable def k_113 (P : Params) : Obj := ⟨.type "code", none, .fields #[.str "_index" 1983, .str "_index" 1984, .str "/claim/cut.py" 1985, .int 106 0, .int 2 0, .int 0 0, .int 0 0, .int 3 0, .ref 108, .bool true, .int 318 0, .ref 109, .none, .ref 110, .ref 111, .ref 112, .int 1988 0, .int 106 0, .str "/claim/cut.py" 1989], #[]⟩
noncomputable def k_114 (P : Params) : Obj := ⟨.type "function", none, .func (fnOf (atTop 28) "_index" "_index" 3 [] .none .none .none (.str "io" 1973) none (.ref 113) .none 0), #[]⟩
noncomputable def k_135 (P : Params) : Obj := ⟨.type "tuple", none, .seq #[] 0, #[]⟩
noncomputable def k_136 (P : Params) : Obj := ⟨.none, none, .fields #[], #[]⟩
noncomputable def k_137 (P : Params) : Obj := ⟨.type "tuple", none, .seq #[.str "cls" 2030, .str "args" 2031, .str "kwargs" 2032] 0, #[]⟩
noncomputable def k_138 (P : Params) : Obj := ⟨.type "tuple", none, .seq #[] 0, #[]⟩
noncomputable def k_139 (P : Params) : Obj := ⟨.none, none, .func (fnOf (inCls 30 1) "__new__" "IOBase.__new__" 0 [] .none .none .none .none none .none .none 0), #[]⟩
noncomputable def k_140 (P : Params) : Obj := ⟨.type "code", none, .fields #[.str "__new__" 2027, .str "IOBase.__new__" 2028, .str "/claim/cut.py" 2029, .int 118 0, .int 1 0, .int 1 0, .int 0 0, .int 15 0, .ref 135, .bool true, .int 318 0, .ref 136, .none, .ref 137, .ref 138, .ref 139, .int 2033 0, .int 118 0, .str "/claim/cut.py" 2034], #[]⟩
noncomputable def k_141 (P : Params) : Obj := ⟨.type "function", none, .func (fnOf (inCls 30 1) "__new__" "IOBase.__new__" 3 [] .none .none .none (.str "io" 1973) none (.ref 140) .none 0), #[]⟩
noncomputable def k_143 (P : Params) : Obj := ⟨.type "dict", none, .dict #[⟨PyData.keyHash P "__module__", .str "__module__" 2020, .str "io" 2025⟩, ⟨PyData.keyHash P "__firstlineno__", .str "__firstlineno__" 2024, .int 115 2023⟩, ⟨PyData.keyHash P "__new__", .str "__new__" 2035, .ref 145⟩, ⟨PyData.keyHash P "__static_attributes__", .str "__static_attributes__" 2036, .ref 142⟩, ⟨PyData.keyHash P "__dict__", .str "__dict__" 2039, .ref 146⟩, ⟨PyData.keyHash P "__weakref__", .str "__weakref__" 2041, .ref 147⟩, ⟨PyData.keyHash P "__doc__", .str "__doc__" 2042, .none⟩] 4, #[]⟩
noncomputable def k_144 (P : Params) : Obj := ⟨.type "type", none, .cls { name := "IOBase", bases := [.type "object"], mro := [.ref 144, .type "object"], ns := 143, qualname := "IOBase", hasDict := true, slotNames := [], subclasses := [.ref 159, .ref 171], abstract := false, collection := none, hasDel := false }, #[none, none, some (.str "IOBase" 2013), some (.str "IOBase" 2021), some .none, some (.bool true)]⟩
noncomputable def k_145 (P : Params) : Obj := ⟨.type "staticmethod", none, .fields #[.ref 141], #[]⟩
noncomputable def k_158 (P : Params) : Obj := ⟨.type "dict", none, .dict #[⟨PyData.keyHash P "__module__", .str "__module__" 2052, .str "io" 2057⟩, ⟨PyData.keyHash P "__firstlineno__", .str "__firstlineno__" 2056, .int 122 2055⟩, ⟨PyData.keyHash P "__static_attributes__", .str "__static_attributes__" 2059, .ref 157⟩, ⟨PyData.keyHash P "__doc__", .str "__doc__" 2060, .none⟩] 2, #[]⟩
noncomputable def k_159 (P : Params) : Obj := ⟨.type "type", none, .cls { name := "BufferedIOBase", bases := [.ref 144], mro := [.ref 159, .ref 144, .type "object"], ns := 158, qualname := "BufferedIOBase", hasDict := true, slotNames := [], subclasses := [.ref 401], abstract := false, collection := none, hasDel := false }, #[some (.ref 150), none, some (.str "BufferedIOBase" 2045), some (.str "BufferedIOBase" 2053), some .none, some (.bool true)]⟩
noncomputable def k_170 (P : Params) : Obj := ⟨.type "dict", none, .dict #[⟨PyData.keyHash P "__module__", .str "__module__" 2070, .str "io" 2075⟩, ⟨PyData.keyHash P "__firstlineno__", .str "__firstlineno__" 2074, .int 124 2073⟩, ⟨PyData.keyHash P "__static_attributes__", .str "__static_attributes__" 2077, .ref 169⟩, ⟨PyData.keyHash P "__doc__", .str "__doc__" 2078, .none⟩] 2, #[]⟩
noncomputable def k_171 (P : Params) : Obj := ⟨.type "type", none, .cls { name := "TextIOBase", bases := [.ref 144], mro := [.ref 171, .ref 144, .type "object"], ns := 170, qualname := "TextIOBase", hasDict := true, slotNames := [], subclasses := [.ref 648], abstract := false, collection := none, hasDel := false }, #[some (.ref 162), none, some (.str "TextIOBase" 2063), some (.str "TextIOBase" 2071), some .none, some (.bool true)]⟩
noncomputable def k_400 (P : Params) : Obj := ⟨.type "dict", none, .dict #[⟨PyData.keyHash P "__module__", .str "__module__" 2088, .str "_io" 2093⟩, ⟨PyData.keyHash P "__firstlineno__", .str "__firstlineno__" 2092, .int 126 2091⟩, ⟨PyData.keyHash P "__init__", .str "__init__" 2102, .ref 188⟩, ⟨PyData.keyHash P "_BytesIO__check", .str "_BytesIO__check" 2109, .ref 195⟩, ⟨PyData.keyHash P "_BytesIO__line", .str "_BytesIO__line" 2120, .ref 202⟩, ⟨PyData.keyHash P "closed", .str "closed" 2128, .ref 210⟩, ⟨PyData.keyHash P "close", .str "close" 2135, .ref 217⟩, ⟨PyData.keyHash P "__enter__", .str "__enter__" 2142, .ref 224⟩, ⟨PyData.keyHash P "__exit__", .str "__exit__" 2150, .ref 231⟩, ⟨PyData.keyHash P "readable", .str "readable" 2157, .ref 238⟩, ⟨PyData.keyHash P "writable", .str "writable" 2164, .ref 245⟩, ⟨PyData.keyHash P "seekable", .str "seekable" 2171, .ref 252⟩, ⟨PyData.keyHash P "isatty", .str "isatty" 2178, .ref 259⟩, ⟨PyData.keyHash P "flush", .str "flush" 2185, .ref 266⟩, ⟨PyData.keyHash P "fileno", .str "fileno" 2192, .ref 273⟩, ⟨PyData.keyHash P "detach", .str "detach" 2199, .ref 280⟩, ⟨PyData.keyHash P "getvalue", .str "getvalue" 2206, .ref 287⟩, ⟨PyData.keyHash P "getbuffer", .str "getbuffer" 2213, .ref 294⟩, ⟨PyData.keyHash P "tell", .str "tell" 2220, .ref 301⟩, ⟨PyData.keyHash P "seek", .str "seek" 2230, .ref 309⟩, ⟨PyData.keyHash P "truncate", .str "truncate" 2238, .ref 317⟩, ⟨PyData.keyHash P "read", .str "read" 2250, .ref 325⟩, ⟨PyData.keyHash P "read1", .str "read1" 2260, .ref 333⟩, ⟨PyData.keyHash P "readinto", .str "readinto" 2270, .ref 340⟩, ⟨PyData.keyHash P "readinto1", .str "readinto1" 2278, .ref 347⟩, ⟨PyData.keyHash P "readline", .str "readline" 2288, .ref 355⟩, ⟨PyData.keyHash P "readlines", .str "readlines" 2296, .ref 363⟩, ⟨PyData.keyHash P "__iter__", .str "__iter__" 2303, .ref 370⟩, ⟨PyData.keyHash P "__next__", .str "__next__" 2311, .ref 377⟩, ⟨PyData.keyHash P "write", .str "write" 2321, .ref 384⟩, ⟨PyData.keyHash P "writelines", .str "writelines" 2329, .ref 391⟩, ⟨PyData.keyHash P "__repr__", .str "__repr__" 2336, .ref 398⟩, ⟨PyData.keyHash P "__static_attributes__", .str "__static_attributes__" 2339, .ref 399⟩, ⟨PyData.keyHash P "__doc__", .str "__doc__" 2340, .none⟩] 2, #[]⟩
noncomputable def k_401 (P : Params) : Obj := ⟨.type "type", none, .cls { name := "BytesIO", bases := [.ref 159], mro := [.ref 401, .ref 159, .ref 144, .type "object"], ns := 400, qualname := "BytesIO", hasDict := true, slotNames := [], subclasses := [], abstract := false, collection := none, hasDel := false }, #[some (.ref 174), none, some (.str "BytesIO" 2081), some (.str "BytesIO" 2089), some .none, some (.bool true)]⟩
noncomputable def k_411 (P : Params) : Obj := ⟨.type "tuple", none, .seq #[.str "" 2357, .str "\n" 2358] 0, #[]⟩
noncomputable def k_412 (P : Params) : Obj := ⟨.type "tuple", none, .seq #[] 0, #[]⟩
noncomputable def k_413 (P : Params) : Obj := ⟨.none, none, .fields #[], #[]⟩
noncomputable def k_414 (P : Params) : Obj := ⟨.type "tuple", none, .seq #[.str "self" 2362, .str "initial_value" 2363, .str "newline" 2364] 0, #[]⟩
noncomputable def k_415 (P : Params) : Obj := ⟨.type "tuple", none, .seq #[] 0, #[]⟩
noncomputable def k_416 (P : Params) : Obj := ⟨.none, none, .func (fnOf (inCls 34 1) "__init__" "StringIO.__init__" 0 [] .none .none .none .none none .none .none 0), #[]⟩
noncomputable def k_417 (P : Params) : Obj := ⟨.type "code", none, .fields #[.str "__init__" 2359, .str "StringIO.__init__" 2360, .str "/claim/cut.py" 2361, .int 299 0, .int 3 0, .int 0 0, .int 0 0, .int 3 0, .ref 412, .bool true, .int 318 0, .ref 413, .none, .ref 414, .ref 415, .ref 416, .int 2365 0, .int 299 0, .str "/claim/cut.py" 2366], #[]⟩
noncomputable def k_418 (P : Params) : Obj := ⟨.type "function", none, .func (fnOf (inCls 34 1) "__init__" "StringIO.__init__" 3 [] (.ref 411) .none .none (.str "io" 1973) none (.ref 417) .none 0), #[]⟩
noncomputable def k_419 (P : Params) : Obj := ⟨.type "tuple", none, .seq #[] 0, #[]⟩
noncomputable def k_420 (P : Params) : Obj := ⟨.none, none, .fields #[], #[]⟩
noncomputable def k_421 (P : Params) : Obj := ⟨.type "tuple", none, .seq #[.str "self" 2371, .str "s" 2372, .str "newline" 2373] 0, #[]⟩
noncomputable def k_422 (P : Params) : Obj := ⟨.type "tuple", none, .seq #[] 0, #[]⟩
noncomputable def k_423 (P : Params) : Obj := ⟨.none, none, .func (fnOf (inCls 34 2) "__translated" "StringIO.__translated" 0 [] .none .none .none .none none .none .none 0), #[]⟩
noncomputable def k_424 (P : Params) : Obj := ⟨.type "code", none, .fields #[.str "__translated" 2368, .str "StringIO.__translated" 2369, .str "/claim/cut.py" 2370, .int 312 0, .int 2 0, .int 0 0, .int 0 0, .int 3 0, .ref 419, .bool true, .int 318 0, .ref 420, .none, .ref 421, .ref 422, .ref 423, .int 2374 0, .int 312 0, .str "/claim/cut.py" 2375], #[]⟩
noncomputable def k_425 (P : Params) : Obj := ⟨.type "function", none, .func (fnOf (inCls 34 2) "__translated" "StringIO.__translated" 3 [] .none .none .none (.str "io" 1973) none (.ref 424) .none 0), #[]⟩
noncomputable def k_426 (P : Params) : Obj := ⟨.type "tuple", none, .seq #[] 0, #[]⟩
noncomputable def k_427 (P : Params) : Obj := ⟨.none, none, .fields #[], #[]⟩
noncomputable def k_428 (P : Params) : Obj := ⟨.type "tuple", none, .seq #[.str "self" 2380] 0, #[]⟩
noncomputable def k_429 (P : Params) : Obj := ⟨.type "tuple", none, .seq #[] 0, #[]⟩
noncomputable def k_430 (P : Params) : Obj := ⟨.none, none, .func (fnOf (inCls 34 3) "__check" "StringIO.__check" 0 [] .none .none .none .none none .none .none 0), #[]⟩
noncomputable def k_431 (P : Params) : Obj := ⟨.type "code", none, .fields #[.str "__check" 2377, .str "StringIO.__check" 2378, .str "/claim/cut.py" 2379, .int 320 0, .int 1 0, .int 0 0, .int 0 0, .int 3 0, .ref 426, .bool true, .int 318 0, .ref 427, .none, .ref 428, .ref 429, .ref 430, .int 2381 0, .int 320 0, .str "/claim/cut.py" 2382], #[]⟩
noncomputable def k_432 (P : Params) : Obj := ⟨.type "function", none, .func (fnOf (inCls 34 3) "__check" "StringIO.__check" 3 [] .none .none .none (.str "io" 1973) none (.ref 431) .none 0), #[]⟩
noncomputable def k_587 (P : Params) : Obj := ⟨.type "tuple", none, .seq #[.int (-1) 2550] 0, #[]⟩
noncomputable def k_588 (P : Params) : Obj := ⟨.type "tuple", none, .seq #[] 0, #[]⟩
noncomputable def k_589 (P : Params) : Obj := ⟨.none, none, .fields #[], #[]⟩
noncomputable def k_590 (P : Params) : Obj := ⟨.type "tuple", none, .seq #[.str "self" 2554, .str "size" 2555, .str "start" 2556, .str "stop" 2557] 0, #[]⟩
noncomputable def k_591 (P : Params) : Obj := ⟨.type "tuple", none, .seq #[] 0, #[]⟩
noncomputable def k_592 (P : Params) : Obj := ⟨.none, none, .func (fnOf (inCls 34 25) "read" "StringIO.read" 0 [] .none .none .none .none none .none .none 0), #[]⟩
noncomputable def k_593 (P : Params) : Obj := ⟨.type "code", none, .fields #[.str "read" 2551, .str "StringIO.read" 2552, .str "/claim/cut.py" 2553, .int 442 0, .int 2 0, .int 2 0, .int 0 0, .int 3 0, .ref 588, .bool true, .int 318 0, .ref 589, .none, .ref 590, .ref 591, .ref 592, .int 2558 0, .int 442 0, .str "/claim/cut.py" 2559], #[]⟩
noncomputable def k_594 (P : Params) : Obj := ⟨.type "function", none, .func (fnOf (inCls 34 25) "read" "StringIO.read" 3 [] (.ref 587) .none .none (.str "io" 1973) none (.ref 593) .none 0), #[]⟩
noncomputable def k_647 (P : Params) : Obj := ⟨.type "dict", none, .dict #[⟨PyData.keyHash P "__module__", .str "__module__" 2350, .str "_io" 2355⟩, ⟨PyData.keyHash P "__firstlineno__", .str "__firstlineno__" 2354, .int 296 2353⟩, ⟨PyData.keyHash P "__init__", .str "__init__" 2367, .ref 418⟩, ⟨PyData.keyHash P "_StringIO__translated", .str "_StringIO__translated" 2376, .ref 425⟩, ⟨PyData.keyHash P "_StringIO__check", .str "_StringIO__check" 2383, .ref 432⟩, ⟨PyData.keyHash P "_StringIO__check_dot", .str "_StringIO__check_dot" 2390, .ref 439⟩, ⟨PyData.keyHash P "_StringIO__line", .str "_StringIO__line" 2405, .ref 446⟩, ⟨PyData.keyHash P "closed", .str "closed" 2413, .ref 454⟩, ⟨PyData.keyHash P "line_buffering", .str "line_buffering" 2421, .ref 462⟩, ⟨PyData.keyHash P "newlines", .str "newlines" 2429, .ref 470⟩, ⟨PyData.keyHash P "encoding", .str "encoding" 2437, .ref 478⟩, ⟨PyData.keyHash P "errors", .str "errors" 2445, .ref 486⟩, ⟨PyData.keyHash P "close", .str "close" 2452, .ref 493⟩, ⟨PyData.keyHash P "__enter__", .str "__enter__" 2459, .ref 500⟩, ⟨PyData.keyHash P "__exit__", .str "__exit__" 2467, .ref 507⟩, ⟨PyData.keyHash P "readable", .str "readable" 2474, .ref 514⟩, ⟨PyData.keyHash P "writable", .str "writable" 2481, .ref 521⟩, ⟨PyData.keyHash P "seekable", .str "seekable" 2488, .ref 528⟩, ⟨PyData.keyHash P "isatty", .str "isatty" 2495, .ref 535⟩, ⟨PyData.keyHash P "flush", .str "flush" 2502, .ref 542⟩, ⟨PyData.keyHash P "fileno", .str "fileno" 2509, .ref 549⟩, ⟨PyData.keyHash P "detach", .str "detach" 2516, .ref 556⟩, ⟨PyData.keyHash P "getvalue", .str "getvalue" 2523, .ref 563⟩, ⟨PyData.keyHash P "tell", .str "tell" 2530, .ref 570⟩, ⟨PyData.keyHash P "seek", .str "seek" 2540, .ref 578⟩, ⟨PyData.keyHash P "truncate", .str "truncate" 2548, .ref 586⟩, ⟨PyData.keyHash P "read", .str "read" 2560, .ref 594⟩, ⟨PyData.keyHash P "readline", .str "readline" 2570, .ref 602⟩, ⟨PyData.keyHash P "readlines", .str "readlines" 2580, .ref 610⟩, ⟨PyData.keyHash P "__iter__", .str "__iter__" 2587, .ref 617⟩, ⟨PyData.keyHash P "__next__", .str "__next__" 2595, .ref 624⟩, ⟨PyData.keyHash P "write", .str "write" 2607, .ref 631⟩, ⟨PyData.keyHash P "writelines", .str "writelines" 2615, .ref 638⟩, ⟨PyData.keyHash P "__repr__", .str "__repr__" 2622, .ref 645⟩, ⟨PyData.keyHash P "__static_attributes__", .str "__static_attributes__" 2626, .ref 646⟩, ⟨PyData.keyHash P "__doc__", .str "__doc__" 2627, .none⟩] 2, #[]⟩
noncomputable def k_648 (P : Params) : Obj := ⟨.type "type", none, .cls { name := "StringIO", bases := [.ref 171], mro := [.ref 648, .ref 171, .ref 144, .type "object"], ns := 647, qualname := "StringIO", hasDict := true, slotNames := [], subclasses := [], abstract := false, collection := none, hasDel := false }, #[some (.ref 404), none, some (.str "StringIO" 2343), some (.str "StringIO" 2351), some .none, some (.bool true)]⟩
noncomputable def k_700 (P : Params) : Obj := ⟨.type "tuple", none, .seq #[.none, .none, .bool false, .bool false] 0, #[]⟩
noncomputable def k_701 (P : Params) : Obj := ⟨.type "tuple", none, .seq #[] 0, #[]⟩
noncomputable def k_702 (P : Params) : Obj := ⟨.none, none, .fields #[], #[]⟩
noncomputable def k_703 (P : Params) : Obj := ⟨.type "tuple", none, .seq #[.str "self" 2706, .str "instream" 2707, .str "infile" 2708, .str "posix" 2709, .str "punctuation_chars" 2710, .str "t" 2711] 0, #[]⟩
noncomputable def k_704 (P : Params) : Obj := ⟨.type "tuple", none, .seq #[] 0, #[]⟩
noncomputable def k_705 (P : Params) : Obj := ⟨.none, none, .func (fnOf (inCls 44 0) "__init__" "shlex.__init__" 0 [] .none .none .none .none none .none .none 0), #[]⟩
noncomputable def k_706 (P : Params) : Obj := ⟨.type "code", none, .fields #[.str "__init__" 2703, .str "shlex.__init__" 2704, .str "/claim/cut.py" 2705, .int 568 0, .int 5 0, .int 0 0, .int 0 0, .int 3 0, .ref 701, .bool true, .int 318 0, .ref 702, .none, .ref 703, .ref 704, .ref 705, .int 2712 0, .int 568 0, .str "/claim/cut.py" 2713], #[]⟩
noncomputable def k_707 (P : Params) : Obj := ⟨.type "function", none, .func (fnOf (inCls 44 0) "__init__" "shlex.__init__" 3 [] (.ref 700) .none .none (.str "cpy313.shlex" 2689) none (.ref 706) .none 0), #[]⟩
noncomputable def k_708 (P : Params) : Obj := ⟨.type "tuple", none, .seq #[] 0, #[]⟩
noncomputable def k_709 (P : Params) : Obj := ⟨.none, none, .fields #[], #[]⟩
noncomputable def k_710 (P : Params) : Obj := ⟨.type "tuple", none, .seq #[.str "self" 2718] 0, #[]⟩
noncomputable def k_711 (P : Params) : Obj := ⟨.type "tuple", none, .seq #[] 0, #[]⟩
noncomputable def k_712 (P : Params) : Obj := ⟨.none, none, .func (fnOf (inCls 44 1) "punctuation_chars" "shlex.punctuation_chars" 0 [] .none .none .none .none none .none .none 0), #[]⟩
noncomputable def k_713 (P : Params) : Obj := ⟨.type "code", none, .fields #[.str "punctuation_chars" 2715, .str "shlex.punctuation_chars" 2716, .str "/claim/cut.py" 2717, .int 609 0, .int 1 0, .int 0 0, .int 0 0, .int 3 0, .ref 708, .bool true, .int 318 0, .ref 709, .none, .ref 710, .ref 711, .ref 712, .int 2719 0, .int 609 0, .str "/claim/cut.py" 2720], #[]⟩
noncomputable def k_714 (P : Params) : Obj := ⟨.type "function", none, .func (fnOf (inCls 44 1) "punctuation_chars" "shlex.punctuation_chars" 3 [] .none .none .none (.str "cpy313.shlex" 2689) none (.ref 713) .none 0), #[]⟩
noncomputable def k_715 (P : Params) : Obj := ⟨.type "property", none, .fields #[.ref 714, .none, .none, .none, .str "punctuation_chars" 2722, .bool false], #[]⟩
noncomputable def k_738 (P : Params) : Obj := ⟨.type "tuple", none, .seq #[] 0, #[]⟩
noncomputable def k_739 (P : Params) : Obj := ⟨.none, none, .fields #[], #[]⟩
noncomputable def k_740 (P : Params) : Obj := ⟨.type "tuple", none, .seq #[.str "self" 2750, .str "tok" 2751, .str "raw" 2752, .str "spec" 2753, .str "newfile" 2754, .str "newstream" 2755] 0, #[]⟩
noncomputable def k_741 (P : Params) : Obj := ⟨.type "tuple", none, .seq #[] 0, #[]⟩
noncomputable def k_742 (P : Params) : Obj := ⟨.none, none, .func (fnOf (inCls 44 5) "get_token" "shlex.get_token" 0 [] .none .none .none .none none .none .none 0), #[]⟩
noncomputable def k_743 (P : Params) : Obj := ⟨.type "code", none, .fields #[.str "get_token" 2747, .str "shlex.get_token" 2748, .str "/claim/cut.py" 2749, .int 636 0, .int 1 0, .int 0 0, .int 0 0, .int 3 0, .ref 738, .bool true, .int 318 0, .ref 739, .none, .ref 740, .ref 741, .ref 742, .int 2756 0, .int 636 0, .str "/claim/cut.py" 2757], #[]⟩
noncomputable def k_744 (P : Params) : Obj := ⟨.type "function", none, .func (fnOf (inCls 44 5) "get_token" "shlex.get_token" 3 [] .none .none .none (.str "cpy313.shlex" 2689) none (.ref 743) .none 0), #[]⟩
noncomputable def k_745 (P : Params) : Obj := ⟨.type "tuple", none, .seq #[] 0, #[]⟩
noncomputable def k_746 (P : Params) : Obj := ⟨.none, none, .fields #[], #[]⟩
noncomputable def k_747 (P : Params) : Obj := ⟨.type "tuple", none, .seq #[.str "self" 2762, .str "quoted" 2763, .str "escapedstate" 2764, .str "nextchar" 2765, .str "result" 2766] 0, #[]⟩
noncomputable def k_748 (P : Params) : Obj := ⟨.type "tuple", none, .seq #[] 0, #[]⟩
noncomputable def k_749 (P : Params) : Obj := ⟨.none, none, .func (fnOf (inCls 44 6) "read_token" "shlex.read_token" 0 [] .none .none .none .none none .none .none 0), #[]⟩
noncomputable def k_750 (P : Params) : Obj := ⟨.type "code", none, .fields #[.str "read_token" 2759, .str "shlex.read_token" 2760, .str "/claim/cut.py" 2761, .int 663 0, .int 1 0, .int 0 0, .int 0 0, .int 3 0, .ref 745, .bool true, .int 318 0, .ref 746, .none, .ref 747, .ref 748, .ref 749, .int 2767 0, .int 663 0, .str "/claim/cut.py" 2768], #[]⟩
noncomputable def k_751 (P : Params) : Obj := ⟨.type "function", none, .func (fnOf (inCls 44 6) "read_token" "shlex.read_token" 3 [] .none .none .none (.str "cpy313.shlex" 2689) none (.ref 750) .none 0), #[]⟩
noncomputable def k_767 (P : Params) : Obj := ⟨.type "tuple", none, .seq #[] 0, #[]⟩
noncomputable def k_768 (P : Params) : Obj := ⟨.none, none, .fields #[], #[]⟩
noncomputable def k_769 (P : Params) : Obj := ⟨.type "tuple", none, .seq #[.str "self" 2790] 0, #[]⟩
noncomputable def k_770 (P : Params) : Obj := ⟨.type "tuple", none, .seq #[] 0, #[]⟩
noncomputable def k_771 (P : Params) : Obj := ⟨.none, none, .func (fnOf (inCls 44 9) "__iter__" "shlex.__iter__" 0 [] .none .none .none .none none .none .none 0), #[]⟩
noncomputable def k_772 (P : Params) : Obj := ⟨.type "code", none, .fields #[.str "__iter__" 2787, .str "shlex.__iter__" 2788, .str "/claim/cut.py" 2789, .int 810 0, .int 1 0, .int 0 0, .int 0 0, .int 3 0, .ref 767, .bool true, .int 318 0, .ref 768, .none, .ref 769, .ref 770, .ref 771, .int 2791 0, .int 810 0, .str "/claim/cut.py" 2792], #[]⟩
noncomputable def k_773 (P : Params) : Obj := ⟨.type "function", none, .func (fnOf (inCls 44 9) "__iter__" "shlex.__iter__" 3 [] .none .none .none (.str "cpy313.shlex" 2689) none (.ref 772) .none 0), #[]⟩
noncomputable def k_774 (P : Params) : Obj := ⟨.type "tuple", none, .seq #[] 0, #[]⟩
noncomputable def k_775 (P : Params) : Obj := ⟨.none, none, .fields #[], #[]⟩
noncomputable def k_776 (P : Params) : Obj := ⟨.type "tuple", none, .seq #[.str "self" 2797, .str "token" 2798] 0, #[]⟩
noncomputable def k_777 (P : Params) : Obj := ⟨.type "tuple", none, .seq #[] 0, #[]⟩
noncomputable def k_778 (P : Params) : Obj := ⟨.none, none, .func (fnOf (inCls 44 10) "__next__" "shlex.__next__" 0 [] .none .none .none .none none .none .none 0), #[]⟩
noncomputable def k_779 (P : Params) : Obj := ⟨.type "code", none, .fields #[.str "__next__" 2794, .str "shlex.__next__" 2795, .str "/claim/cut.py" 2796, .int 813 0, .int 1 0, .int 0 0, .int 0 0, .int 3 0, .ref 774, .bool true, .int 318 0, .ref 775, .none, .ref 776, .ref 777, .ref 778, .int 2799 0, .int 813 0, .str "/claim/cut.py" 2800], #[]⟩
noncomputable def k_780 (P : Params) : Obj := ⟨.type "function", none, .func (fnOf (inCls 44 10) "__next__" "shlex.__next__" 3 [] .none .none .none (.str "cpy313.shlex" 2689) none (.ref 779) .none 0), #[]⟩
noncomputable def k_782 (P : Params) : Obj := ⟨.type "dict", none, .dict #[⟨PyData.keyHash P "__module__", .str "__module__" 2698, .str "cpy313.shlex" 2689⟩, ⟨PyData.keyHash P "__firstlineno__", .str "__firstlineno__" 2702, .int 566 2701⟩, ⟨PyData.keyHash P "__init__", .str "__init__" 2714, .ref 707⟩, ⟨PyData.keyHash P "punctuation_chars", .str "punctuation_chars" 2722, .ref 715⟩, ⟨PyData.keyHash P "push_token", .str "push_token" 2730, .ref 722⟩, ⟨PyData.keyHash P "push_source", .str "push_source" 2739, .ref 730⟩, ⟨PyData.keyHash P "pop_source", .str "pop_source" 2746, .ref 737⟩, ⟨PyData.keyHash P "get_token", .str "get_token" 2758, .ref 744⟩, ⟨PyData.keyHash P "read_token", .str "read_token" 2769, .ref 751⟩, ⟨PyData.keyHash P "sourcehook", .str "sourcehook" 2777, .ref 758⟩, ⟨PyData.keyHash P "error_leader", .str "error_leader" 2786, .ref 766⟩, ⟨PyData.keyHash P "__iter__", .str "__iter__" 2793, .ref 773⟩, ⟨PyData.keyHash P "__next__", .str "__next__" 2801, .ref 780⟩, ⟨PyData.keyHash P "__static_attributes__", .str "__static_attributes__" 2822, .ref 781⟩, ⟨PyData.keyHash P "__dict__", .str "__dict__" 2824, .ref 784⟩, ⟨PyData.keyHash P "__weakref__", .str "__weakref__" 2826, .ref 785⟩, ⟨PyData.keyHash P "__doc__", .str "__doc__" 2827, .none⟩] 4, #[]⟩
noncomputable def k_783 (P : Params) : Obj := ⟨.type "type", none, .cls { name := "shlex", bases := [.type "object"], mro := [.ref 783, .type "object"], ns := 782, qualname := "shlex", hasDict := true, slotNames := [], subclasses := [], abstract := false, collection := none, hasDel := false }, #[none, none, some (.str "shlex" 2691), some (.str "shlex" 2699), some (.builtin "object.__new__"), some (.bool true)]⟩
noncomputable def k_788 (P : Params) : Obj := ⟨.type "tuple", none, .seq #[.bool false, .bool true] 0, #[]⟩
noncomputable def k_789 (P : Params) : Obj := ⟨.type "tuple", none, .seq #[] 0, #[]⟩
noncomputable def k_790 (P : Params) : Obj := ⟨.none, none, .fields #[], #[]⟩
noncomputable def k_791 (P : Params) : Obj := ⟨.type "tuple", none, .seq #[.str "s" 2833, .str "comments" 2834, .str "posix" 2835, .str "lex" 2836] 0, #[]⟩
noncomputable def k_792 (P : Params) : Obj := ⟨.type "tuple", none, .seq #[] 0, #[]⟩
noncomputable def k_793 (P : Params) : Obj := ⟨.none, none, .func (fnOf (atTop 45) "split" "split" 0 [] .none .none .none .none none .none .none 0), #[]⟩
noncomputable def k_794 (P : Params) : Obj := ⟨.type "code", none, .fields #[.str "split" 2830, .str "split" 2831, .str "/claim/cut.py" 2832, .int 818 0, .int 3 0, .int 0 0, .int 0 0, .int 3 0, .ref 789, .bool true, .int 318 0, .ref 790, .none, .ref 791, .ref 792, .ref 793, .int 2837 0, .int 818 0, .str "/claim/cut.py" 2838], #[]⟩
noncomputable def k_795 (P : Params) : Obj := ⟨.type "function", none, .func (fnOf (atTop 45) "split" "split" 3 [] (.ref 788) .none .none (.str "cpy313.shlex" 2689) none (.ref 794) .none 0), #[]⟩
noncomputable def k_796 (P : Params) : Obj := ⟨.type "tuple", none, .seq #[] 0, #[]⟩
noncomputable def k_798 (P : Params) : Obj := ⟨.type "tuple", none, .seq #[.str "split_command" 2843] 0, #[]⟩
noncomputable def k_799 (P : Params) : Obj := ⟨.type "tuple", none, .seq #[] 0, #[]⟩
noncomputable def k_800 (P : Params) : Obj := ⟨.none, none, .func (fnOf (atTop 46) "join" "join" 0 [] .none .none .none .none none .none .none 0), #[]⟩
noncomputable def k_801 (P : Params) : Obj := ⟨.type "code", none, .fields #[.str "join" 2840, .str "join" 2841, .str "/claim/cut.py" 2842, .int 826 0, .int 1 0, .int 0 0, .int 0 0, .int 3 0, .ref 796, .bool true, .int 318 0, .ref 797, .none, .ref 798, .ref 799, .ref 800, .int 2844 0, .int 826 0, .str "/claim/cut.py" 2845], #[]⟩
noncomputable def k_802 (P : Params) : Obj := ⟨.type "function", none, .func (fnOf (atTop 46) "join" "join" 3 [] .none .none .none (.str "cpy313.shlex" 2689) none (.ref 801) .none 0), #[]⟩
noncomputable def k_803 (P : Params) : Obj := ⟨.type "builtin_function_or_method", none, .fields #[.builtin "re.Pattern.search", .ref 100], #[]⟩
noncomputable def k_804 (P : Params) : Obj := ⟨.type "tuple", none, .seq #[] 0, #[]⟩
noncomputable def k_805 (P : Params) : Obj := ⟨.none, none, .fields #[], #[]⟩
noncomputable def k_806 (P : Params) : Obj := ⟨.type "tuple", none, .seq #[.str "s" 2853] 0, #[]⟩
noncomputable def k_807 (P : Params) : Obj := ⟨.type "tuple", none, .seq #[] 0, #[]⟩
noncomputable def k_808 (P : Params) : Obj := ⟨.none, none, .func (fnOf (atTop 49) "quote" "quote" 0 [] .none .none .none .none none .none .none 0), #[]⟩
noncomputable def k_809 (P : Params) : Obj := ⟨.type "code", none, .fields #[.str "quote" 2850, .str "quote" 2851, .str "/claim/cut.py" 2852, .int 830 0, .int 1 0, .int 0 0, .int 0 0, .int 3 0, .ref 804, .bool true, .int 318 0, .ref 805, .none, .ref 806, .ref 807, .ref 808, .int 2854 0, .int 830 0, .str "/claim/cut.py" 2855], #[]⟩
noncomputable def k_810 (P : Params) : Obj := ⟨.type "function", none, .func (fnOf (atTop 49) "quote" "quote" 3 [] .none .none .none (.str "cpy313.shlex" 2689) none (.ref 809) .none 0), #[]⟩
noncomputable def k_811 (P : Params) : Obj := ⟨.type "tuple", none, .seq #[] 0, #[]⟩
noncomputable def k_812 (P : Params) : Obj := ⟨.none, none, .fields #[], #[]⟩
noncomputable def k_813 (P : Params) : Obj := ⟨.none, none, .func (fnOf (atTop 52) "_law_words" "_law_words" 0 [] .none .none .none .none none .none .none 0), #[]⟩
noncomputable def k_814 (P : Params) : Obj := ⟨.type "code", none, .fields #[.str "_law_words" 2860, .str "_law_words" 2861, .str "/claim/cut.py" 2862, .int 838 0, .int 2 0, .int 0 0, .int 0 0, .int 3 0, .ref 811, .bool true, .int 318 0, .ref 812, .none, .none, .none, .ref 813, .int 2863 0, .int 838 0, .str "/claim/cut.py" 2864], #[]⟩
noncomputable def k_815 (P : Params) : Obj := ⟨.type "function", none, .func (fnOf (atTop 52) "_law_words" "_law_words" 3 [] .none .none .none (.str "law_oy0446_01" 2858) none (.ref 814) .none 0), #[]⟩
noncomputable def k_816 (P : Params) : Obj := ⟨.type "tuple", none, .seq #[] 0, #[]⟩
noncomputable def k_817 (P : Params) : Obj := ⟨.none, none, .fields #[], #[]⟩
noncomputable def k_818 (P : Params) : Obj := ⟨.none, none, .func (fnOf (atTop 53) "_law_laid" "_law_laid" 0 [] .none .none .none .none none .none .none 0), #[]⟩
noncomputable def k_819 (P : Params) : Obj := ⟨.type "code", none, .fields #[.str "_law_laid" 2866, .str "_law_laid" 2867, .str "/claim/cut.py" 2868, .int 850 0, .int 4 0, .int 0 0, .int 0 0, .int 3 0, .ref 816, .bool true, .int 318 0, .ref 817, .none, .none, .none, .ref 818, .int 2869 0, .int 850 0, .str "/claim/cut.py" 2870], #[]⟩
noncomputable def k_820 (P : Params) : Obj := ⟨.type "function", none, .func (fnOf (atTop 53) "_law_laid" "_law_laid" 3 [] .none .none .none (.str "law_oy0446_01" 2858) none (.ref 819) .none 0), #[]⟩
noncomputable def k_821 (P : Params) : Obj := ⟨.type "tuple", none, .seq #[] 0, #[]⟩
noncomputable def k_822 (P : Params) : Obj := ⟨.none, none, .fields #[], #[]⟩
noncomputable def k_823 (P : Params) : Obj := ⟨.none, none, .func (fnOf (atTop 54) "_law_taken" "_law_taken" 0 [] .none .none .none .none none .none .none 0), #[]⟩
noncomputable def k_824 (P : Params) : Obj := ⟨.type "code", none, .fields #[.str "_law_taken" 2872, .str "_law_taken" 2873, .str "/claim/cut.py" 2874, .int 854 0, .int 2 0, .int 0 0, .int 0 0, .int 3 0, .ref 821, .bool true, .int 318 0, .ref 822, .none, .none, .none, .ref 823, .int 2875 0, .int 854 0, .str "/claim/cut.py" 2876], #[]⟩
noncomputable def k_825 (P : Params) : Obj := ⟨.type "function", none, .func (fnOf (atTop 54) "_law_taken" "_law_taken" 3 [] .none .none .none (.str "law_oy0446_01" 2858) none (.ref 824) .none 0), #[]⟩
noncomputable def k_826 (P : Params) : Obj := ⟨.type "tuple", none, .seq #[] 0, #[]⟩
noncomputable def k_827 (P : Params) : Obj := ⟨.none, none, .fields #[], #[]⟩
noncomputable def k_828 (P : Params) : Obj := ⟨.none, none, .func (fnOf (atTop 55) "law" "law" 0 [] .none .none .none .none none .none .none 0), #[]⟩
noncomputable def k_829 (P : Params) : Obj := ⟨.type "code", none, .fields #[.str "law" 2878, .str "law" 2879, .str "/claim/cut.py" 2880, .int 858 0, .int 1 0, .int 0 0, .int 0 0, .int 3 0, .ref 826, .bool true, .int 318 0, .ref 827, .none, .none, .none, .ref 828, .int 2881 0, .int 858 0, .str "/claim/cut.py" 2882], #[]⟩
noncomputable def k_830 (P : Params) : Obj := ⟨.type "function", none, .func (fnOf (atTop 55) "law" "law" 3 [] .none .none .none (.str "law_oy0446_01" 2858) none (.ref 829) .none 0), #[]⟩
noncomputable def KF : Params → Frag := fun P => (nat_lit 2, k_2 P) :: (nat_lit 3, k_3 P) :: (nat_lit 47, k_47 P) :: (nat_lit 61, k_61 P) :: (nat_lit 62, k_62 P) :: (nat_lit 63, k_63 P) :: (nat_lit 64, k_64 P) :: (nat_lit 65, k_65 P) :: (nat_lit 66, k_66 P) :: (nat_lit 67, k_67 P) :: (nat_lit 68, k_68 P) :: (nat_lit 69, k_69 P) :: (nat_lit 70, k_70 P) :: (nat_lit 71, k_71 P) :: (nat_lit 72, k_72 P) :: (nat_lit 73, k_73 P) :: (nat_lit 74, k_74 P) :: (nat_lit 76, k_76 P) :: (nat_lit 80, k_80 P) :: (nat_lit 81, k_81 P) :: (nat_lit 82, k_82 P) :: (nat_lit 83, k_83 P) :: (nat_lit 84, k_84 P) :: (nat_lit 85, k_85 P) :: (nat_lit 86, k_86 P) :: (nat_lit 87, k_87 P) :: (nat_lit 88, k_88 P) :: (nat_lit 89, k_89 P) :: (nat_lit 90, k_90 P) :: (nat_lit 91, k_91 P) :: (nat_lit 92, k_92 P) :: (nat_lit 93, k_93 P) :: (nat_lit 94, k_94 P) :: (nat_lit 95, k_95 P) :: (nat_lit 99, k_99 P) :: (nat_lit 100, k_100 P) :: (nat_lit 108, k_108 P) :: (nat_lit 109, k_109 P) :: (nat_lit 110, k_110 P) :: (nat_lit 111, k_111 P) :: (nat_lit 112, k_112 P) :: (nat_lit 113, k_113 P) :: (nat_lit 114, k_114 P) :: (nat_lit 135, k_135 P) :: (nat_lit 136, k_136 P) :: (nat_lit 137, k_137 P) :: (nat_lit 138, k_138 P) :: (nat_lit 139, k_139 P) :: (nat_lit 140, k_140 P) :: (nat_lit 141, k_141 P) :: (nat_lit 143, k_143 P) :: (nat_lit 144, k_144 P) :: (nat_lit 145, k_145 P) :: (nat_lit 158, k_158 P) :: (nat_lit 159, k_159 P) :: (nat_lit 170, k_170 P) :: (nat_lit 171, k_171 P) :: (nat_lit 400, k_400 P) :: (nat_lit 401, k_401 P) :: (nat_lit 411, k_411 P) :: (nat_lit 412, k_412 P) :: (nat_lit 413, k_413 P) :: (nat_lit 414, k_414 P) :: (nat_lit 415, k_415 P) :: (nat_lit 416, k_416 P) :: (nat_lit 417, k_417 P) :: (nat_lit 418, k_418 P) :: (nat_lit 419, k_419 P) :: (nat_lit 420, k_420 P) :: (nat_lit 421, k_421 P) :: (nat_lit 422, k_422 P) :: (nat_lit 423, k_423 P) :: (nat_lit 424, k_424 P) :: (nat_lit 425, k_425 P) :: (nat_lit 426, k_426 P) :: (nat_lit 427, k_427 P) :: (nat_lit 428, k_428 P) :: (nat_lit 429, k_429 P) :: (nat_lit 430, k_430 P) :: (nat_lit 431, k_431 P) :: (nat_lit 432, k_432 P) :: (nat_lit 587, k_587 P) :: (nat_lit 588, k_588 P) :: (nat_lit 589, k_589 P) :: (nat_lit 590, k_590 P) :: (nat_lit 591, k_591 P) :: (nat_lit 592, k_592 P) :: (nat_lit 593, k_593 P) :: (nat_lit 594, k_594 P) :: (nat_lit 647, k_647 P) :: (nat_lit 648, k_648 P) :: (nat_lit 700, k_700 P) :: (nat_lit 701, k_701 P) :: (nat_lit 702, k_702 P) :: (nat_lit 703, k_703 P) :: (nat_lit 704, k_704 P) :: (nat_lit 705, k_705 P) :: (nat_lit 706, k_706 P) :: (nat_lit 707, k_707 P) :: (nat_lit 708, k_708 P) :: (nat_lit 709, k_709 P) :: (nat_lit 710, k_710 P) :: (nat_lit 711, k_711 P) :: (nat_lit 712, k_712 P) :: (nat_lit 713, k_713 P) :: (nat_lit 714, k_714 P) :: (nat_lit 715, k_715 P) :: (nat_lit 738, k_738 P) :: (nat_lit 739, k_739 P) :: (nat_lit 740, k_740 P) :: (nat_lit 741, k_741 P) :: (nat_lit 742, k_742 P) :: (nat_lit 743, k_743 P) :: (nat_lit 744, k_744 P) :: (nat_lit 745, k_745 P) :: (nat_lit 746, k_746 P) :: (nat_lit 747, k_747 P) :: (nat_lit 748, k_748 P) :: (nat_lit 749, k_749 P) :: (nat_lit 750, k_750 P) :: (nat_lit 751, k_751 P) :: (nat_lit 767, k_767 P) :: (nat_lit 768, k_768 P) :: (nat_lit 769, k_769 P) :: (nat_lit 770, k_770 P) :: (nat_lit 771, k_771 P) :: (nat_lit 772, k_772 P) :: (nat_lit 773, k_773 P) :: (nat_lit 774, k_774 P) :: (nat_lit 775, k_775 P) :: (nat_lit 776, k_776 P) :: (nat_lit 777, k_777 P) :: (nat_lit 778, k_778 P) :: (nat_lit 779, k_779 P) :: (nat_lit 780, k_780 P) :: (nat_lit 782, k_782 P) :: (nat_lit 783, k_783 P) :: (nat_lit 788, k_788 P) :: (nat_lit 789, k_789 P) :: (nat_lit 790, k_790 P) :: (nat_lit 791, k_791 P) :: (nat_lit 792, k_792 P) :: (nat_lit 793, k_793 P) :: (nat_lit 794, k_794 P) :: (nat_lit 795, k_795 P) :: (nat_lit 796, k_796 P) :: (nat_lit 798, k_798 P) :: (nat_lit 799, k_799 P) :: (nat_lit 800, k_800 P) :: (nat_lit 801, k_801 P) :: (nat_lit 802, k_802 P) :: (nat_lit 803, k_803 P) :: (nat_lit 804, k_804 P) :: (nat_lit 805, k_805 P) :: (nat_lit 806, k_806 P) :: (nat_lit 807, k_807 P) :: (nat_lit 808, k_808 P) :: (nat_lit 809, k_809 P) :: (nat_lit 810, k_810 P) :: (nat_lit 811, k_811 P) :: (nat_lit 812, k_812 P) :: (nat_lit 813, k_813 P) :: (nat_lit 814, k_814 P) :: (nat_lit 815, k_815 P) :: (nat_lit 816, k_816 P) :: (nat_lit 817, k_817 P) :: (nat_lit 818, k_818 P) :: (nat_lit 819, k_819 P) :: (nat_lit 820, k_820 P) :: (nat_lit 821, k_821 P) :: (nat_lit 822, k_822 P) :: (nat_lit 823, k_823 P) :: (nat_lit 824, k_824 P) :: (nat_lit 825, k_825 P) :: (nat_lit 826, k_826 P) :: (nat_lit 827, k_827 P) :: (nat_lit 828, k_828 P) :: (nat_lit 829, k_829 P) :: (nat_lit 830, k_830 P) :: []
noncomputable def KA : List Addr := [2, 3, 47, 61, 62, 63, 64, 65, 66, 67, 68, 69, 70, 71, 72, 73, 74, 76, 80, 81, 82, 83, 84, 85, 86, 87, 88, 89, 90, 91, 92, 93, 94, 95, 99, 100, 108, 109, 110, 111, 112, 113, 114, 135, 136, 137, 138, 139, 140, 141, 143, 144, 145, 158, 159, 170, 171, 400, 401, 411, 412, 413, 414, 415, 416, 417, 418, 419, 420, 421, 422, 423, 424, 425, 426, 427, 428, 429, 430, 431, 432, 587, 588, 589, 590, 591, 592, 593, 594, 647, 648, 700, 701, 702, 703, 704, 705, 706, 707, 708, 709, 710, 711, 712, 713, 714, 715, 738, 739, 740, 741, 742, 743, 744, 745, 746, 747, 748, 749, 750, 751, 767, 768, 769, 770, 771, 772, 773, 774, 775, 776, 777, 778, 779, 780, 782, 783, 788, 789, 790, 791, 792, 793, 794, 795, 796, 798, 799, 800, 801, 802, 803, 804, 805, 806, 807, 808, 809, 810, 811, 812, 813, 814, 815, 816, 817, 818, 819, 820, 821, 822, 823, 824, 825, 826, 827, 828, 829, 830]
noncomputable def looseN : List Str := [Str.ofString "_sre", Str.ofString "deque", Str.ofString "_wall", Str.ofString "CRLF", Str.ofString "NL", Str.ofString "_QUOPRI_MAP", Str.ofString "_QUOPRI_HEADER_MAP", Str.ofString "_QUOPRI_BODY_MAP", Str.ofString "ascii_lowercase", Str.ofString "ascii_uppercase", Str.ofString "ascii_letters", Str.ofString "digits", Str.ofString "hexdigits", Str.ofString "c", Str.ofString "unquote", Str.ofString "quote", Str.ofString "quote_quoprimime", Str.ofString "_QUOPRI_BODY_ENCODE_MAP", Str.ofString "body_encode", Str.ofString "decode", Str.ofString "_twin_re_1", Str.ofString "_whence", Str.ofString "_index", Str.ofString "UnsupportedOperation", Str.ofString "IOBase", Str.ofString "BufferedIOBase", Str.ofString "TextIOBase", Str.ofString "BytesIO", Str.ofString "StringIO", Str.ofString "_kind", Str.ofString "_fspath", Str.ofString "_check_arg_types", Str.ofString "isabs", Str.ofString "join", Str.ofString "join_path", Str.ofString "dirname", Str.ofString "shlex", Str.ofString "split", Str.ofString "join_shlex", Str.ofString "_find_unsafe", Str.ofString "quote_shlex", Str.ofString "_law_words", Str.ofString "_law_laid", Str.ofString "_law_taken"]
end
section
open PySem PySem.W PyProof.Rows PySem.Calls
noncomputable def env0 : Env := { scope := pw.main.scope, locals := mainNs, globals := mainNs, cells := [], code := .ref 36, frame := some 37 }
noncomputable def p0 : Pos := ⟨0, 0, 0, 0⟩
abbrev ann0 : Option Value := some (.ref 6)
noncomputable def bodyB : List Stmt := behindTheImports pw
noncomputable def slB (i j : Nat) : List Stmt := (bodyB.drop i).take (j - i)
noncomputable abbrev cE : Code := Code.body bodyB env0
noncomputable abbrev thB (i j : Nat) (p : Pos) : Thread := piecesOf (slB i j) env0 cE p [topFrame p0]
abbrev SegEq (n : Nat) (S : World → OsState → SharedT) (t : World → OsState → Thread) (S' : World → OsState → SharedT) (p' : Pos) (w : World) : Prop :=
  (fun os => segRunT treeTable pw w 34 ann0 1 n (S w os) (t w os)) = fun os => some (Flow.next, S' w os, cE, p')
abbrev GoEq (n : Nat) (S : World → OsState → SharedT) (t : World → OsState → Thread) (S' : World → OsState → SharedT) (t' : World → OsState → Thread) (w : World) : Prop :=
  (fun os => segGoT treeTable pw w 34 ann0 1 n (S w os) (t w os)) = fun os => some (S' w os, t' w os)
noncomputable def toThr (n : Nat) (S : World → OsState → SharedT) (t : World → OsState → Thread) (w : World) (os : OsState) : Thread :=
  match PySem.W.Fast.tw10295753902157049106 PySem.W.Fast.tw14364793385576792824 pw ((w.withFollow "special-get-raises" false).withFollow "comprehension-iter-twice" false) 34 ann0 1 n (S w os) (t w os) with
  | some x => x.2
  | none => topStub pw
noncomputable abbrev th3 : World → OsState → Thread := fun _ _ => thB 3 4 ⟨7, 0, 7, 2⟩
noncomputable abbrev th12 : World → OsState → Thread := fun _ _ => thB 12 13 ⟨16, 0, 16, 8⟩
noncomputable abbrev th14 : World → OsState → Thread := fun _ _ => thB 14 15 ⟨19, 0, 19, 28⟩
noncomputable def tc3 : World → OsState → Thread := toThr 52 ta3S th3
noncomputable def tc12 : World → OsState → Thread := toThr 44 ta12S th12
noncomputable def tc14 : World → OsState → Thread := toThr 10 ta14S th14
theorem open_0 (w : World) : (fencedOpening treeTable pw w 45000).map (fun s => (s.heap, s.gens, s.drawn, s.toks)) = some (absHeap (t0 w.params) 34 {}, #[], {}, 318) := by
  unfold fencedOpening
  rw [PySem.W.Fast.te10274390034422433532, PySem.W.Fast.te14289696077712309145, PySem.W.Fast.te1435165496053646825, PySem.W.Fast.te14364793385576792824]; kernel_rfl
theorem size_0 (w : World) : ((absHeap (t0 w.params) 34 {}).isNs mainGlobals && (#[] : Array GenState).size == 0, (absHeap (t0 w.params) 34 {}).objs.size, (absHeap (t0 w.params) 34 {}).nsMap mainGlobals "__annotations__") = (true, 34, ann0) := by
  rw [PySem.W.Fast.te8920871248978507458]; kernel_rfl
theorem pre_0 (w : World) : (fun os => topGo treeTable pw w 34 ann0 12 ⟨absHeap (t0 w.params) 34 {}, #[], {}, 318, os⟩ (topStub pw)) = fun os => some ((tbS w os).abs, ⟨denote treeTable cE, cE, p0, [topFrame p0]⟩) := by
  rw [PySem.W.Fast.te15667345088766844465, PySem.W.Fast.te14364793385576792824, PySem.W.Fast.te11892475500146522536]; kernel_rfl
theorem block_0 (w : World) : (fun os => segRun treeTable pw w 34 ann0 1 1 (tbS w os).abs (blockOf bodyB env0 cE p0 [topFrame p0])) = fun os => some (Flow.next, (tbS w os).abs, cE, p0) := by
  rw [PySem.W.Fast.te14374325043358763698, PySem.W.Fast.te14364793385576792824]; kernel_rfl
theorem seg_0 (w : World) : SegEq 48 tbS (fun _ _ => thB 0 3 ⟨0, 0, 0, 0⟩) ta3S ⟨7, 0, 7, 2⟩ w := by
  unfold SegEq; rw [PySem.W.Fast.te10110043849684766642, PySem.W.Fast.te14364793385576792824]; kernel_rfl
theorem seg_4 (w : World) : SegEq 133 te3S (fun _ _ => thB 4 12 ⟨8, 0, 8, 11⟩) ta12S ⟨16, 0, 16, 8⟩ w := by
  unfold SegEq; rw [PySem.W.Fast.te10110043849684766642, PySem.W.Fast.te14364793385576792824]; kernel_rfl
theorem seg_13 (w : World) : SegEq 25 te12S (fun _ _ => thB 13 14 ⟨17, 9, 17, 74⟩) ta14S ⟨19, 0, 19, 28⟩ w := by
  unfold SegEq; rw [PySem.W.Fast.te10110043849684766642, PySem.W.Fast.te14364793385576792824]; kernel_rfl
theorem seg_15 (w : World) : SegEq 97 te14S (fun _ _ => thB 15 19 ⟨20, 9, 20, 110⟩) ta19S ⟨27, 0, 27, 23⟩ w := by
  unfold SegEq; rw [PySem.W.Fast.te10110043849684766642, PySem.W.Fast.te14364793385576792824]; kernel_rfl
theorem seg_19 (w : World) : SegEq 118 ta19S (fun _ _ => thB 19 20 ⟨27, 0, 27, 23⟩) te19S ⟨28, 9, 28, 16⟩ w := by
  refine byRow2 "special-get-raises" (P := SegEq 118 ta19S (fun _ _ => thB 19 20 ⟨27, 0, 27, 23⟩) te19S ⟨28, 9, 28, 16⟩) (fun w => ?_) (fun w => ?_) w <;>
    (unfold SegEq; rw [PySem.W.Fast.te10110043849684766642, PySem.W.Fast.te14364793385576792824]; kernel_rfl)
theorem go_12 (w : World) : GoEq 44 ta12S th12 tl12S tc12 w := by
  refine byRow2 "special-get-raises" (P := GoEq 44 ta12S th12 tl12S tc12) (fun w => ?_) (fun w => ?_) w <;>
    (unfold GoEq; rw [PySem.W.Fast.te10295753902157049106, PySem.W.Fast.te14364793385576792824]; kernel_rfl)
theorem go_14 (w : World) : GoEq 10 ta14S th14 tl14S tc14 w := by
  refine byRow2 "special-get-raises" (P := GoEq 10 ta14S th14 tl14S tc14) (fun w => ?_) (fun w => ?_) w <;>
    (unfold GoEq; rw [PySem.W.Fast.te10295753902157049106, PySem.W.Fast.te14364793385576792824]; kernel_rfl)
theorem go_3 (w : World) : GoEq 52 ta3S th3 tl3S tc3 w ∨ GoEq 42 ta3S th3 tl3S tc3 w := by
  refine byRow2 "special-get-raises" (P := fun w => GoEq 52 ta3S th3 tl3S tc3 w ∨ GoEq 42 ta3S th3 tl3S tc3 w) (fun w => ?_) (fun w => ?_) w <;>
    refine byRow2 "comprehension-iter-twice" (P := fun w => GoEq 52 ta3S th3 tl3S tc3 (w.withFollow _ _) ∨ GoEq 42 ta3S th3 tl3S tc3 (w.withFollow _ _)) (fun w => ?_) (fun w => ?_) w
  · left; unfold GoEq; rw [PySem.W.Fast.te10295753902157049106, PySem.W.Fast.te14364793385576792824]; kernel_rfl
  · right; unfold GoEq; rw [PySem.W.Fast.te10295753902157049106, PySem.W.Fast.te14364793385576792824]; kernel_rfl
  · left; unfold GoEq; rw [PySem.W.Fast.te10295753902157049106, PySem.W.Fast.te14364793385576792824]; kernel_rfl
  · right; unfold GoEq; rw [PySem.W.Fast.te10295753902157049106, PySem.W.Fast.te14364793385576792824]; kernel_rfl
end
section
open PySem PySem.W PyProof.Rows PySem.Calls
@[reducible] noncomputable def fa_67 : {x : Arguments // x = fdParams (atTop 17)} := by
  refine ⟨?s, ?h⟩
  rotate_left
  conv => rhs; whnf
@[reducible] noncomputable def fb_67 : {x : List Stmt // x = fdBody (atTop 17)} := by
  refine ⟨?s, ?h⟩
  rotate_left
  conv => rhs; whnf
@[reducible] noncomputable def fs_67 : {x : Scope // x = fdScope (atTop 17)} := by
  refine ⟨?s, ?h⟩
  rotate_left
  conv => rhs; whnf
theorem lk_67 (P : Params) : (KF P).lookup 67 = some ⟨.type "function", none, .func (PySem.W.fnOf "unquote" "unquote" fa_67.1 fb_67.1 fs_67.1 .none .none .none (.str "cpy313.email.quoprimime" 1378) none (.ref 66) .none), #[]⟩ := by kernel_rfl
@[reducible] noncomputable def fa_74 : {x : Arguments // x = fdParams (atTop 18)} := by
  refine ⟨?s, ?h⟩
  rotate_left
  conv => rhs; whnf
@[reducible] noncomputable def fb_74 : {x : List Stmt // x = fdBody (atTop 18)} := by
  refine ⟨?s, ?h⟩
  rotate_left
  conv => rhs; whnf
@[reducible] noncomputable def fs_74 : {x : Scope // x = fdScope (atTop 18)} := by
  refine ⟨?s, ?h⟩
  rotate_left
  conv => rhs; whnf
theorem lk_74 (P : Params) : (KF P).lookup 74 = some ⟨.type "function", none, .func (PySem.W.fnOf "quote" "quote" fa_74.1 fb_74.1 fs_74.1 .none .none .none (.str "cpy313.email.quoprimime" 1378) none (.ref 73) .none), #[]⟩ := by kernel_rfl
@[reducible] noncomputable def fa_87 : {x : Arguments // x = fdParams (atTop 23)} := by
  refine ⟨?s, ?h⟩
  rotate_left
  conv => rhs; whnf
@[reducible] noncomputable def fb_87 : {x : List Stmt // x = fdBody (atTop 23)} := by
  refine ⟨?s, ?h⟩
  rotate_left
  conv => rhs; whnf
@[reducible] noncomputable def fs_87 : {x : Scope // x = fdScope (atTop 23)} := by
  refine ⟨?s, ?h⟩
  rotate_left
  conv => rhs; whnf
theorem lk_87 (P : Params) : (KF P).lookup 87 = some ⟨.type "function", none, .func (PySem.W.fnOf "body_encode" "body_encode" fa_87.1 fb_87.1 fs_87.1 (.ref 80) .none .none (.str "cpy313.email.quoprimime" 1378) none (.ref 86) .none), #[]⟩ := by kernel_rfl
@[reducible] noncomputable def fa_95 : {x : Arguments // x = fdParams (atTop 24)} := by
  refine ⟨?s, ?h⟩
  rotate_left
  conv => rhs; whnf
@[reducible] noncomputable def fb_95 : {x : List Stmt // x = fdBody (atTop 24)} := by
  refine ⟨?s, ?h⟩
  rotate_left
  conv => rhs; whnf
@[reducible] noncomputable def fs_95 : {x : Scope // x = fdScope (atTop 24)} := by
  refine ⟨?s, ?h⟩
  rotate_left
  conv => rhs; whnf
theorem lk_95 (P : Params) : (KF P).lookup 95 = some ⟨.type "function", none, .func (PySem.W.fnOf "decode" "decode" fa_95.1 fb_95.1 fs_95.1 (.ref 88) .none .none (.str "cpy313.email.quoprimime" 1378) none (.ref 94) .none), #[]⟩ := by kernel_rfl
@[reducible] noncomputable def fa_141 : {x : Arguments // x = fdParams (inCls 30 1)} := by
  refine ⟨?s, ?h⟩
  rotate_left
  conv => rhs; whnf
@[reducible] noncomputable def fb_141 : {x : List Stmt // x = fdBody (inCls 30 1)} := by
  refine ⟨?s, ?h⟩
  rotate_left
  conv => rhs; whnf
@[reducible] noncomputable def fs_141 : {x : Scope // x = fdScope (inCls 30 1)} := by
  refine ⟨?s, ?h⟩
  rotate_left
  conv => rhs; whnf
theorem lk_141 (P : Params) : (KF P).lookup 141 = some ⟨.type "function", none, .func (PySem.W.fnOf "__new__" "IOBase.__new__" fa_141.1 fb_141.1 fs_141.1 .none .none .none (.str "io" 1973) none (.ref 140) .none), #[]⟩ := by kernel_rfl
@[reducible] noncomputable def fa_418 : {x : Arguments // x = fdParams (inCls 34 1)} := by
  refine ⟨?s, ?h⟩
  rotate_left
  conv => rhs; whnf
@[reducible] noncomputable def fb_418 : {x : List Stmt // x = fdBody (inCls 34 1)} := by
  refine ⟨?s, ?h⟩
  rotate_left
  conv => rhs; whnf
@[reducible] noncomputable def fs_418 : {x : Scope // x = fdScope (inCls 34 1)} := by
  refine ⟨?s, ?h⟩
  rotate_left
  conv => rhs; whnf
theorem lk_418 (P : Params) : (KF P).lookup 418 = some ⟨.type "function", none, .func (PySem.W.fnOf "__init__" "StringIO.__init__" fa_418.1 fb_418.1 fs_418.1 (.ref 411) .none .none (.str "io" 1973) none (.ref 417) .none), #[]⟩ := by kernel_rfl
@[reducible] noncomputable def fa_594 : {x : Arguments // x = fdParams (inCls 34 25)} := by
  refine ⟨?s, ?h⟩
  rotate_left
  conv => rhs; whnf
@[reducible] noncomputable def fb_594 : {x : List Stmt // x = fdBody (inCls 34 25)} := by
  refine ⟨?s, ?h⟩
  rotate_left
  conv => rhs; whnf
@[reducible] noncomputable def fs_594 : {x : Scope // x = fdScope (inCls 34 25)} := by
  refine ⟨?s, ?h⟩
  rotate_left
  conv => rhs; whnf
theorem lk_594 (P : Params) : (KF P).lookup 594 = some ⟨.type "function", none, .func (PySem.W.fnOf "read" "StringIO.read" fa_594.1 fb_594.1 fs_594.1 (.ref 587) .none .none (.str "io" 1973) none (.ref 593) .none), #[]⟩ := by kernel_rfl
@[reducible] noncomputable def fa_744 : {x : Arguments // x = fdParams (inCls 44 5)} := by
  refine ⟨?s, ?h⟩
  rotate_left
  conv => rhs; whnf
@[reducible] noncomputable def fb_744 : {x : List Stmt // x = fdBody (inCls 44 5)} := by
  refine ⟨?s, ?h⟩
  rotate_left
  conv => rhs; whnf
@[reducible] noncomputable def fs_744 : {x : Scope // x = fdScope (inCls 44 5)} := by
  refine ⟨?s, ?h⟩
  rotate_left
  conv => rhs; whnf
theorem lk_744 (P : Params) : (KF P).lookup 744 = some ⟨.type "function", none, .func (PySem.W.fnOf "get_token" "shlex.get_token" fa_744.1 fb_744.1 fs_744.1 .none .none .none (.str "cpy313.shlex" 2689) none (.ref 743) .none), #[]⟩ := by kernel_rfl
@[reducible] noncomputable def fa_751 : {x : Arguments // x = fdParams (inCls 44 6)} := by
  refine ⟨?s, ?h⟩
  rotate_left
  conv => rhs; whnf
@[reducible] noncomputable def fb_751 : {x : List Stmt // x = fdBody (inCls 44 6)} := by
  refine ⟨?s, ?h⟩
  rotate_left
  conv => rhs; whnf
@[reducible] noncomputable def fs_751 : {x : Scope // x = fdScope (inCls 44 6)} := by
  refine ⟨?s, ?h⟩
  rotate_left
  conv => rhs; whnf
theorem lk_751 (P : Params) : (KF P).lookup 751 = some ⟨.type "function", none, .func (PySem.W.fnOf "read_token" "shlex.read_token" fa_751.1 fb_751.1 fs_751.1 .none .none .none (.str "cpy313.shlex" 2689) none (.ref 750) .none), #[]⟩ := by kernel_rfl
@[reducible] noncomputable def fa_773 : {x : Arguments // x = fdParams (inCls 44 9)} := by
  refine ⟨?s, ?h⟩
  rotate_left
  conv => rhs; whnf
@[reducible] noncomputable def fb_773 : {x : List Stmt // x = fdBody (inCls 44 9)} := by
  refine ⟨?s, ?h⟩
  rotate_left
  conv => rhs; whnf
@[reducible] noncomputable def fs_773 : {x : Scope // x = fdScope (inCls 44 9)} := by
  refine ⟨?s, ?h⟩
  rotate_left
  conv => rhs; whnf
theorem lk_773 (P : Params) : (KF P).lookup 773 = some ⟨.type "function", none, .func (PySem.W.fnOf "__iter__" "shlex.__iter__" fa_773.1 fb_773.1 fs_773.1 .none .none .none (.str "cpy313.shlex" 2689) none (.ref 772) .none), #[]⟩ := by kernel_rfl
@[reducible] noncomputable def fa_780 : {x : Arguments // x = fdParams (inCls 44 10)} := by
  refine ⟨?s, ?h⟩
  rotate_left
  conv => rhs; whnf
@[reducible] noncomputable def fb_780 : {x : List Stmt // x = fdBody (inCls 44 10)} := by
  refine ⟨?s, ?h⟩
  rotate_left
  conv => rhs; whnf
@[reducible] noncomputable def fs_780 : {x : Scope // x = fdScope (inCls 44 10)} := by
  refine ⟨?s, ?h⟩
  rotate_left
  conv => rhs; whnf
theorem lk_780 (P : Params) : (KF P).lookup 780 = some ⟨.type "function", none, .func (PySem.W.fnOf "__next__" "shlex.__next__" fa_780.1 fb_780.1 fs_780.1 .none .none .none (.str "cpy313.shlex" 2689) none (.ref 779) .none), #[]⟩ := by kernel_rfl
@[reducible] noncomputable def fa_795 : {x : Arguments // x = fdParams (atTop 45)} := by
  refine ⟨?s, ?h⟩
  rotate_left
  conv => rhs; whnf
@[reducible] noncomputable def fb_795 : {x : List Stmt // x = fdBody (atTop 45)} := by
  refine ⟨?s, ?h⟩
  rotate_left
  conv => rhs; whnf
@[reducible] noncomputable def fs_795 : {x : Scope // x = fdScope (atTop 45)} := by
  refine ⟨?s, ?h⟩
  rotate_left
  conv => rhs; whnf
theorem lk_795 (P : Params) : (KF P).lookup 795 = some ⟨.type "function", none, .func (PySem.W.fnOf "split" "split" fa_795.1 fb_795.1 fs_795.1 (.ref 788) .none .none (.str "cpy313.shlex" 2689) none (.ref 794) .none), #[]⟩ := by kernel_rfl
@[reducible] noncomputable def fa_802 : {x : Arguments // x = fdParams (atTop 46)} := by
  refine ⟨?s, ?h⟩
  rotate_left
  conv => rhs; whnf
@[reducible] noncomputable def fb_802 : {x : List Stmt // x = fdBody (atTop 46)} := by
  refine ⟨?s, ?h⟩
  rotate_left
  conv => rhs; whnf
@[reducible] noncomputable def fs_802 : {x : Scope // x = fdScope (atTop 46)} := by
  refine ⟨?s, ?h⟩
  rotate_left
  conv => rhs; whnf
theorem lk_802 (P : Params) : (KF P).lookup 802 = some ⟨.type "function", none, .func (PySem.W.fnOf "join" "join" fa_802.1 fb_802.1 fs_802.1 .none .none .none (.str "cpy313.shlex" 2689) none (.ref 801) .none), #[]⟩ := by kernel_rfl
@[reducible] noncomputable def fa_810 : {x : Arguments // x = fdParams (atTop 49)} := by
  refine ⟨?s, ?h⟩
  rotate_left
  conv => rhs; whnf
@[reducible] noncomputable def fb_810 : {x : List Stmt // x = fdBody (atTop 49)} := by
  refine ⟨?s, ?h⟩
  rotate_left
  conv => rhs; whnf
@[reducible] noncomputable def fs_810 : {x : Scope // x = fdScope (atTop 49)} := by
  refine ⟨?s, ?h⟩
  rotate_left
  conv => rhs; whnf
theorem lk_810 (P : Params) : (KF P).lookup 810 = some ⟨.type "function", none, .func (PySem.W.fnOf "quote" "quote" fa_810.1 fb_810.1 fs_810.1 .none .none .none (.str "cpy313.shlex" 2689) none (.ref 809) .none), #[]⟩ := by kernel_rfl
@[reducible] noncomputable def fa_815 : {x : Arguments // x = fdParams (atTop 52)} := by
  refine ⟨?s, ?h⟩
  rotate_left
  conv => rhs; whnf
@[reducible] noncomputable def fb_815 : {x : List Stmt // x = fdBody (atTop 52)} := by
  refine ⟨?s, ?h⟩
  rotate_left
  conv => rhs; whnf
@[reducible] noncomputable def fs_815 : {x : Scope // x = fdScope (atTop 52)} := by
  refine ⟨?s, ?h⟩
  rotate_left
  conv => rhs; whnf
theorem lk_815 (P : Params) : (KF P).lookup 815 = some ⟨.type "function", none, .func (PySem.W.fnOf "_law_words" "_law_words" fa_815.1 fb_815.1 fs_815.1 .none .none .none (.str "law_oy0446_01" 2858) none (.ref 814) .none), #[]⟩ := by kernel_rfl
@[reducible] noncomputable def fa_820 : {x : Arguments // x = fdParams (atTop 53)} := by
  refine ⟨?s, ?h⟩
  rotate_left
  conv => rhs; whnf
@[reducible] noncomputable def fb_820 : {x : List Stmt // x = fdBody (atTop 53)} := by
  refine ⟨?s, ?h⟩
  rotate_left
  conv => rhs; whnf
@[reducible] noncomputable def fs_820 : {x : Scope // x = fdScope (atTop 53)} := by
  refine ⟨?s, ?h⟩
  rotate_left
  conv => rhs; whnf
theorem lk_820 (P : Params) : (KF P).lookup 820 = some ⟨.type "function", none, .func (PySem.W.fnOf "_law_laid" "_law_laid" fa_820.1 fb_820.1 fs_820.1 .none .none .none (.str "law_oy0446_01" 2858) none (.ref 819) .none), #[]⟩ := by kernel_rfl
@[reducible] noncomputable def fa_825 : {x : Arguments // x = fdParams (atTop 54)} := by
  refine ⟨?s, ?h⟩
  rotate_left
  conv => rhs; whnf
@[reducible] noncomputable def fb_825 : {x : List Stmt // x = fdBody (atTop 54)} := by
  refine ⟨?s, ?h⟩
  rotate_left
  conv => rhs; whnf
@[reducible] noncomputable def fs_825 : {x : Scope // x = fdScope (atTop 54)} := by
  refine ⟨?s, ?h⟩
  rotate_left
  conv => rhs; whnf
theorem lk_825 (P : Params) : (KF P).lookup 825 = some ⟨.type "function", none, .func (PySem.W.fnOf "_law_taken" "_law_taken" fa_825.1 fb_825.1 fs_825.1 .none .none .none (.str "law_oy0446_01" 2858) none (.ref 824) .none), #[]⟩ := by kernel_rfl
@[reducible] noncomputable def fa_830 : {x : Arguments // x = fdParams (atTop 55)} := by
  refine ⟨?s, ?h⟩
  rotate_left
  conv => rhs; whnf
@[reducible] noncomputable def fb_830 : {x : List Stmt // x = fdBody (atTop 55)} := by
  refine ⟨?s, ?h⟩
  rotate_left
  conv => rhs; whnf
@[reducible] noncomputable def fs_830 : {x : Scope // x = fdScope (atTop 55)} := by
  refine ⟨?s, ?h⟩
  rotate_left
  conv => rhs; whnf
theorem lk_830 (P : Params) : (KF P).lookup 830 = some ⟨.type "function", none, .func (PySem.W.fnOf "law" "law" fa_830.1 fb_830.1 fs_830.1 .none .none .none (.str "law_oy0446_01" 2858) none (.ref 829) .none), #[]⟩ := by kernel_rfl
end
section
open PySem PySem.W PyProof.Rows PySem.Calls
theorem said : PySem.Challenge.rw_oy0446_01.wellSaid = true := by
  rw [PySem.W.Fast.te9446332074065402090]; kernel_rfl
end
section
open PySem PySem.W PyProof.Rows PySem.Calls
theorem loop_3 (w : World) : SegEq 9500 tl3S tc3 te3S ⟨8, 0, 8, 11⟩ w := by
  unfold SegEq; rw [PySem.W.Fast.te10110043849684766642, PySem.W.Fast.te14364793385576792824]; kernel_rfl
theorem loop_12 (w : World) : SegEq 3033 tl12S tc12 te12S ⟨17, 9, 17, 74⟩ w := by
  unfold SegEq; rw [PySem.W.Fast.te10110043849684766642, PySem.W.Fast.te14364793385576792824]; kernel_rfl
theorem loop_14 (w : World) : SegEq 4293 tl14S tc14 te14S ⟨20, 9, 20, 110⟩ w := by
  unfold SegEq; rw [PySem.W.Fast.te10110043849684766642, PySem.W.Fast.te14364793385576792824]; kernel_rfl
end
section
open PySem PySem.W PyProof.Rows PySem.Calls
noncomputable def lawS : {s : Stmt // s = atTop 55} := by
  refine ⟨?s, ?h⟩
  rotate_left
  conv => rhs; whnf
noncomputable def viewQ : Program := { pw with main := { pw.main with body := [lawS.1] } }
noncomputable def XtQ : Shared → Bool := fun s => xlAt viewQ [] s && recOk (RowW.records (OpenRow.toRowW (OpenLaw.row PySem.Challenge.rw_oy0446_01))) s
noncomputable def restTh : Thread := piecesOf (bodyB.drop 20) env0 cE ⟨28, 9, 28, 16⟩ [topFrame p0]
noncomputable def topOk (w : World) (s : Shared) : Bool := staticsOk (importedModules pw.main.body) (absHeap (t0 w.params) 34 {}) s.heap && namesBound pw s.heap && gensDone s && laidKept (absHeap (t0 w.params) 34 {}) s.heap
end
section
open PySem PySem.W PyProof.Rows PySem.Calls
noncomputable def KG : Params → Frag := fun P => (nat_lit 797, ⟨.none, none, .fields #[], #[]⟩) :: KF P
noncomputable def KB : List Addr := nat_lit 797 :: KA
theorem rest_20b (w : World) : (fun os => (segRunT treeTable pw w 34 ann0 1 5088 (te19S w os) restTh).map fun x => (x.1, x.2.2.1, x.2.2.2, topOk w x.2.1.abs, openSeen viewQ looseN (importedModules pw.main.body) XtQ true x.2.1.abs, KB.map x.2.1.abs.heap.get?)) =
    fun os => some (Flow.next, cE, ⟨858, 0, 873, 25⟩, true, openGood viewQ looseN, (KG w.params).map fun p => some p.2) := by
  unfold topOk
  rw [PySem.W.Fast.te10110043849684766642, PySem.W.Fast.te14364793385576792824, PySem.W.Fast.te4187177175401517315, PySem.W.Fast.te5923862056798008813]; kernel_rfl
end
section
open PySem PySem.W PyProof.Rows PySem.Calls
section
variable {w : World} {os : OsState} {r : Shared}
def RunsTo (w : World) (k : Nat) (s : Shared) (t : Thread) (r : Shared) : Prop := ∃ M, M ≤ k ∧ topRun treeTable pw w 34 ann0 M s t = some r
theorem drop_cut {i j : Nat} (h : i ≤ j) : bodyB.drop i = slB i j ++ bodyB.drop j := by
  have e : bodyB.drop j = (bodyB.drop i).drop (j - i) := by rw [List.drop_drop]; congr 1; omega
  rw [e, slB, List.take_append_drop]
theorem RunsTo.cut {n k i j : Nat} {s s' : Shared} {p p' : Pos} (hij : i ≤ j)
    (h : ∃ m, m ≤ n ∧ segRun treeTable pw w 34 ann0 1 m s (thB i j p) = some (Flow.next, s', cE, p'))
    (c : RunsTo w k s' (restOf (bodyB.drop j) env0 cE p' [topFrame p0]) r) : RunsTo w (n + k) s (restOf (bodyB.drop i) env0 cE p [topFrame p0]) r := by
  obtain ⟨m, hm, h⟩ := h
  obtain ⟨M, hM, c⟩ := c
  refine ⟨m + M, by omega, ?_⟩
  rw [drop_cut hij]
  exact piece_app h c
theorem seg_abs {n : Nat} {S S' : World → OsState → SharedT} {t : World → OsState → Thread} {p' : Pos} (h : SegEq n S t S' p' w) (os : OsState) :
    segRun treeTable pw w 34 ann0 1 n (S w os).abs (t w os) = some (Flow.next, (S' w os).abs, cE, p') := segRun_of (congrFun h os)
theorem go_abs {n : Nat} {S S' : World → OsState → SharedT} {t t' : World → OsState → Thread} (h : GoEq n S t S' t' w) (os : OsState) :
    segGo treeTable pw w 34 ann0 1 n (S w os).abs (t w os) = some ((S' w os).abs, t' w os) := segGo_of (congrFun h os)
theorem fin_run (w : World) (s : Shared) (p : Pos) : topRun treeTable pw w 34 ann0 3 s ⟨doneF .next, cE, p, [topFrame p0]⟩ = some s := by
  obtain ⟨h, g, d, k, o⟩ := s
  rfl
end
end
section
open PySem PySem.W PyProof.Rows PySem.Calls
section
variable {w : World} {os : OsState} {r : Shared}
theorem rest_run2 (w : World) (os : OsState) : ∃ s, RunsTo w 5091 (te19S w os).abs (restOf (bodyB.drop 20) env0 cE ⟨28, 9, 28, 16⟩ [topFrame p0]) s ∧ topOk w s = true ∧ openSeen viewQ looseN (importedModules pw.main.body) XtQ true s = openGood viewQ looseN ∧ KB.map s.heap.get? = (KG w.params).map fun p => some p.2 := by
  have h := congrFun (rest_20b w) os
  obtain ⟨⟨f, S, c, p⟩, h1, h2⟩ := Option.map_eq_some_iff.mp h
  simp only [Prod.mk.injEq] at h2
  obtain ⟨rfl, rfl, rfl, h3, h4, h5⟩ := h2
  refine ⟨S.abs, ⟨5088 + 3, by omega, ?_⟩, h3, h4, h5⟩
  have e : bodyB.drop 20 = bodyB.drop 20 ++ [] := (List.append_nil _).symm
  rw [e]
  exact piece_app (segRun_of h1) (piece_nil (fin_run w S.abs _))
theorem top_run2 (w : World) (os : OsState) : ∃ s, RunsTo w 22500 ⟨absHeap (t0 w.params) 34 {}, #[], {}, 318, os⟩ (topStub pw) s ∧ topOk w s = true ∧ openSeen viewQ looseN (importedModules pw.main.body) XtQ true s = openGood viewQ looseN ∧ KB.map s.heap.get? = (KG w.params).map fun p => some p.2 := by
  obtain ⟨s, hr, a, b, c⟩ := rest_run2 w os
  refine ⟨s, ?_, a, b, c⟩
  have r19 := RunsTo.cut (i := 19) (j := 20) (by decide) ⟨118, Nat.le_refl _, seg_abs (seg_19 w) os⟩ hr
  have r15 := RunsTo.cut (i := 15) (j := 19) (by decide) ⟨97, Nat.le_refl _, seg_abs (seg_15 w) os⟩ r19
  have r14 := RunsTo.cut (i := 14) (j := 15) (by decide) ⟨10 + 4293, Nat.le_refl _, seg_go (go_abs (go_14 w) os) (seg_abs (loop_14 w) os)⟩ r15
  have r13 := RunsTo.cut (i := 13) (j := 14) (by decide) ⟨25, Nat.le_refl _, seg_abs (seg_13 w) os⟩ r14
  have r12 := RunsTo.cut (i := 12) (j := 13) (by decide) ⟨44 + 3033, Nat.le_refl _, seg_go (go_abs (go_12 w) os) (seg_abs (loop_12 w) os)⟩ r13
  have r4 := RunsTo.cut (i := 4) (j := 12) (by decide) ⟨133, Nat.le_refl _, seg_abs (seg_4 w) os⟩ r12
  have h3 : ∃ m, m ≤ 9552 ∧ segRun treeTable pw w 34 ann0 1 m (ta3S w os).abs (thB 3 4 ⟨7, 0, 7, 2⟩) = some (Flow.next, (te3S w os).abs, cE, ⟨8, 0, 8, 11⟩) := by
    rcases go_3 w with g | g
    · exact ⟨52 + 9500, by decide, seg_go (go_abs g os) (seg_abs (loop_3 w) os)⟩
    · exact ⟨42 + 9500, by decide, seg_go (go_abs g os) (seg_abs (loop_3 w) os)⟩
  have r3 := RunsTo.cut (i := 3) (j := 4) (by decide) h3 r4
  have r0 := RunsTo.cut (i := 0) (j := 3) (by decide) ⟨48, Nat.le_refl _, seg_abs (seg_0 w) os⟩ r3
  obtain ⟨M, hM, h⟩ := r0
  exact ⟨12 + (1 + M), by omega, go_top (congrFun (pre_0 w) os) (piece_block (congrFun (block_0 w) os) h)⟩
end
end
section
open PySem PySem.W PyProof.Rows PySem.Calls
noncomputable abbrev HK2 : Hook := kHook KG KB (fun _ => by kernel_rfl)
theorem left2 : LeftO pw viewQ looseN XtQ (Hook.obs HK2) (Hook.val HK2) 45000 := fun w => by
  obtain ⟨⟨h, gs, d, k, os⟩, e, e'⟩ := Option.map_eq_some_iff.mp (open_0 w)
  obtain ⟨rfl, rfl, rfl, rfl⟩ : h = absHeap (t0 w.params) 34 {} ∧ gs = #[] ∧ d = {} ∧ k = 318 := by simpa using e'
  obtain ⟨z1, z2, z3⟩ : _ ∧ _ ∧ _ := by simpa only [Prod.mk.injEq] using size_0 w
  obtain ⟨s, ⟨M, hM, hr⟩, l1, l2, l3⟩ := top_run2 w os
  have r := topRun_mono (45000 - M) _ _ _ _ hr
  rw [show M + (45000 - M) = 45000 by omega] at r
  have t : topFrom treeTable pw w 45000 ⟨absHeap (t0 w.params) 34 {}, #[], {}, 318, os⟩ = some s := by
    unfold topFrom
    dsimp only
    rw [z1, z2, z3, r]
    show (match topOk w s with | true => some s | false => none) = some s
    rw [l1]
  unfold openEnds
  rw [e]
  show (topFrom treeTable pw w 45000 _).map _ = _
  rw [t]
  exact congrArg some (Prod.ext l2 l3)
end
section
abbrev Tx := List Nat

noncomputable def isEnd (c : Nat) : Bool := c == 11 || c == 12 || c == 28 || c == 133
noncomputable def isBlank (c : Nat) : Bool := c == 32 || c == 9 || c == 13 || c == 10
noncomputable def isShell (c : Nat) : Bool := isBlank c || c == 39 || c == 34 || c == 92
noncomputable def isPlain (c : Nat) : Bool := (32 ≤ c && c ≤ 126 && c != 61) || c == 9
noncomputable def hexd (n : Nat) : Nat := if n < 10 then 48 + n else 55 + n

inductive Rep (b : Bool) : Tx → Tx → Prop
  | nil : Rep b [] []
  | lit {c : Nat} {t u : Tx} : isPlain c = true → Rep b t u → Rep b (c :: t) (c :: u)
  | esc {c : Nat} {t u : Tx} : c < 256 → (b = true ∨ isShell c = false) → Rep b t u → Rep b (61 :: hexd (c / 16) :: hexd (c % 16) :: t) (c :: u)
  | soft {e : Nat} {t u : Tx} : isEnd e = true → Rep b t u → Rep b (61 :: e :: t) u

theorem Rep.append {b : Bool} {t u t' u' : Tx} (h : Rep b t u) (h' : Rep b t' u') : Rep b (t ++ t') (u ++ u') := by
  induction h with
  | nil => exact h'
  | lit h1 _ ih => exact .lit h1 ih
  | esc h1 h2 _ ih => exact .esc h1 h2 ih
  | soft h1 _ ih => exact .soft h1 ih
theorem Rep.one {b : Bool} {c : Nat} (h : isPlain c = true) : Rep b [c] [c] := .lit h .nil
theorem Rep.mono {b : Bool} {t u : Tx} (h : Rep false t u) : Rep b t u := by
  induction h with
  | nil => exact .nil
  | lit h1 _ ih => exact .lit h1 ih
  | esc h1 h2 _ ih => exact .esc h1 (h2.elim (fun h => nomatch h) .inr) ih
  | soft h1 _ ih => exact .soft h1 ih

inductive St | start | word | sq | dq
  deriving DecidableEq

noncomputable def lexF : St → Tx → Tx → Option (List Tx)
  | .start, _, [] => none
  | .start, _, c :: t => if isBlank c then none else if c == 39 then lexF .sq [] t else if c == 34 then lexF .dq [] t else if c == 92 then none else lexF .word [c] t
  | .word, k, [] => some [k]
  | .word, k, c :: t => if isBlank c then (lexF .start [] t).map (k :: ·) else if c == 39 then lexF .sq k t else if c == 34 then lexF .dq k t else if c == 92 then none else lexF .word (k ++ [c]) t
  | .sq, _, [] => none
  | .sq, k, c :: t => if c == 39 then lexF .word k t else lexF .sq (k ++ [c]) t
  | .dq, _, [] => none
  | .dq, k, c :: t => if c == 34 then lexF .word k t else if c == 92 then none else lexF .dq (k ++ [c]) t

abbrev Lex (T : Tx) (ws : List Tx) : Prop := lexF .start [] T = some ws

inductive All2 (R : Tx → Tx → Prop) : List Tx → List Tx → Prop
  | nil : All2 R [] []
  | cons {x y : Tx} {xs ys : List Tx} : R x y → All2 R xs ys → All2 R (x :: xs) (y :: ys)

inductive Sync : St → Tx → St → Tx → Prop
  | start : Sync .start [] .start []
  | same {s : St} {k l : Tx} : s ≠ .start → Rep false k l → Sync s k s l
  | ahead {k : Tx} : Rep false k [] → Sync .word k .start []

theorem plain_ne_eq {c : Nat} (h : isPlain c = true) : c ≠ 61 := by
  intro e; subst e; revert h; decide
theorem hexd_shell {n : Nat} (h : n < 16) : isShell (hexd n) = false ∧ hexd n ≠ 39 ∧ hexd n ≠ 34 ∧ hexd n ≠ 92 := by
  revert n; decide
theorem end_shell {e : Nat} (h : isEnd e = true) : isShell e = false := by
  unfold isEnd at h
  simp only [Bool.or_eq_true, beq_iff_eq] at h
  rcases h with ((rfl | rfl) | rfl) | rfl <;> decide

theorem shell_no {c : Nat} (h : isShell c = false) : isBlank c = false ∧ (c == 39) = false ∧ (c == 34) = false ∧ (c == 92) = false := by
  unfold isShell at h
  simpa only [Bool.or_eq_false_iff, and_assoc] using h

theorem lex_quiet {c : Nat} (h : isShell c = false) {s : St} (hs : s ≠ .start) (k t : Tx) : lexF s k (c :: t) = lexF s (k ++ [c]) t := by
  obtain ⟨h1, h2, h3, h4⟩ := shell_no h
  cases s with
  | start => exact absurd rfl hs
  | word => simp only [lexF, h1, h2, h3, h4, Bool.false_eq_true, if_false]
  | sq => simp only [lexF, h2, Bool.false_eq_true, if_false]
  | dq => simp only [lexF, h3, h4, Bool.false_eq_true, if_false]
theorem lex_quiet0 {c : Nat} (h : isShell c = false) (k t : Tx) : lexF .start k (c :: t) = lexF .word [c] t := by
  obtain ⟨h1, h2, h3, h4⟩ := shell_no h
  simp only [lexF, h1, h2, h3, h4, Bool.false_eq_true, if_false]

theorem Sync.soft {s s' : St} {k l : Tx} (h : Sync s k s' l) {e : Nat} (he : isEnd e = true) (t : Tx) :
    ∃ s₂ k₂, lexF s k (61 :: e :: t) = lexF s₂ k₂ t ∧ Sync s₂ k₂ s' l := by
  have h1 := end_shell he
  have h0 : isShell 61 = false := by decide
  cases h with
  | start => exact ⟨.word, [61, e], by rw [lex_quiet0 h0, lex_quiet h1 (by decide)]; rfl, .ahead (.soft he .nil)⟩
  | same hs hk => exact ⟨_, k ++ [61, e], by rw [lex_quiet h0 hs, lex_quiet h1 hs, List.append_assoc]; rfl, .same hs (by simpa using hk.append (.soft he .nil))⟩
  | ahead hk => exact ⟨.word, k ++ [61, e], by rw [lex_quiet h0 (by decide), lex_quiet h1 (by decide), List.append_assoc]; rfl, .ahead (by simpa using hk.append (.soft he .nil))⟩

theorem lex_rep {X Y : Tx} (h : Rep false X Y) : ∀ {s s' : St} {k l : Tx} {ys : List Tx}, Sync s k s' l → lexF s' l Y = some ys → ∃ xs, lexF s k X = some xs ∧ All2 (Rep false) xs ys := by
  induction h with
  | nil =>
    intro s s' k l ys hs hy
    cases hs with
    | start => cases hy
    | ahead => cases hy
    | same h0 hk =>
      cases s with
      | start => exact absurd rfl h0
      | word => cases hy; exact ⟨[k], rfl, .cons hk .nil⟩
      | sq => cases hy
      | dq => cases hy
  | soft he _ ih =>
    intro s s' k l ys hs hy
    obtain ⟨s₂, k₂, e, h2⟩ := hs.soft he _
    rw [e]
    exact ih h2 hy
  | @esc c t u hc hn _ ih =>
    intro s s' k l ys hs hy
    have hn : isShell c = false := hn.elim (fun h => nomatch h) id
    have q0 : isShell 61 = false := by decide
    have q1 := (hexd_shell (n := c / 16) (by omega)).1
    have q2 := (hexd_shell (n := c % 16) (by omega)).1
    have r : Rep false [61, hexd (c / 16), hexd (c % 16)] [c] := .esc hc (.inr hn) .nil
    cases hs with
    | start =>
      rw [lex_quiet0 hn] at hy
      rw [lex_quiet0 q0, lex_quiet q1 (by decide), lex_quiet q2 (by decide)]
      exact ih (.same (by decide) r) hy
    | same h0 hk =>
      rw [lex_quiet hn h0] at hy
      rw [lex_quiet q0 h0, lex_quiet q1 h0, lex_quiet q2 h0]
      exact ih (.same h0 (by simpa using hk.append r)) hy
    | ahead hk =>
      rw [lex_quiet0 hn] at hy
      rw [lex_quiet q0 (by decide), lex_quiet q1 (by decide), lex_quiet q2 (by decide)]
      exact ih (.same (by decide) (by simpa using hk.append r)) hy
  | @lit c t u hc _ ih =>
    intro s s' k l ys hs hy
    have r : Rep false [c] [c] := .one hc
    cases hs with
    | start =>
      simp only [lexF] at hy ⊢
      by_cases h1 : isBlank c = true
      · simp [h1] at hy
      · by_cases h2 : c = 39
        · subst h2
          have e : isBlank 39 = false := by decide
          simp only [e, Bool.false_eq_true, if_false, beq_self_eq_true, if_true] at hy ⊢
          exact ih (.same (by decide) .nil) hy
        · by_cases h3 : c = 34
          · subst h3
            have e : isBlank 34 = false := by decide
            simp only [e, Bool.false_eq_true, if_false, beq_self_eq_true, if_true, show ((34 : Nat) == 39) = false from rfl] at hy ⊢
            exact ih (.same (by decide) .nil) hy
          · by_cases h4 : c = 92
            · subst h4; simp at hy
            · simp only [h1, beq_eq_false_iff_ne.mpr h2, beq_eq_false_iff_ne.mpr h3, beq_eq_false_iff_ne.mpr h4, Bool.false_eq_true, if_false] at hy ⊢
              exact ih (.same (by decide) r) hy
    | ahead hk =>
      simp only [lexF] at hy ⊢
      by_cases h1 : isBlank c = true
      · simp [h1] at hy
      · by_cases h2 : c = 39
        · subst h2
          have e : isBlank 39 = false := by decide
          simp only [e, Bool.false_eq_true, if_false, beq_self_eq_true, if_true] at hy ⊢
          exact ih (.same (by decide) hk) hy
        · by_cases h3 : c = 34
          · subst h3
            have e : isBlank 34 = false := by decide
            simp only [e, Bool.false_eq_true, if_false, beq_self_eq_true, if_true, show ((34 : Nat) == 39) = false from rfl] at hy ⊢
            exact ih (.same (by decide) hk) hy
          · by_cases h4 : c = 92
            · subst h4; simp at hy
            · simp only [h1, beq_eq_false_iff_ne.mpr h2, beq_eq_false_iff_ne.mpr h3, beq_eq_false_iff_ne.mpr h4, Bool.false_eq_true, if_false] at hy ⊢
              exact ih (.same (by decide) (by simpa using hk.append r)) hy
    | same h0 hk =>
      have ra := hk.append r
      cases s with
      | start => exact absurd rfl h0
      | word =>
        simp only [lexF] at hy ⊢
        by_cases h1 : isBlank c = true
        · simp only [h1, if_true] at hy ⊢
          cases hm : lexF .start [] u with
          | none => rw [hm] at hy; cases hy
          | some zs =>
            rw [hm] at hy
            obtain rfl := Option.some.inj hy
            obtain ⟨xs, e, ha⟩ := ih .start hm
            exact ⟨k :: xs, by rw [e]; rfl, .cons hk ha⟩
        · by_cases h2 : c = 39
          · subst h2
            have e : isBlank 39 = false := by decide
            simp only [e, Bool.false_eq_true, if_false, beq_self_eq_true, if_true] at hy ⊢
            exact ih (.same (by decide) hk) hy
          · by_cases h3 : c = 34
            · subst h3
              have e : isBlank 34 = false := by decide
              simp only [e, Bool.false_eq_true, if_false, beq_self_eq_true, if_true, show ((34 : Nat) == 39) = false from rfl] at hy ⊢
              exact ih (.same (by decide) hk) hy
            · by_cases h4 : c = 92
              · subst h4; simp [h1] at hy
              · simp only [h1, beq_eq_false_iff_ne.mpr h2, beq_eq_false_iff_ne.mpr h3, beq_eq_false_iff_ne.mpr h4, Bool.false_eq_true, if_false] at hy ⊢
                exact ih (.same (by decide) ra) hy
      | sq =>
        simp only [lexF] at hy ⊢
        by_cases h2 : c = 39
        · subst h2
          simp only [beq_self_eq_true, if_true] at hy ⊢
          exact ih (.same (by decide) hk) hy
        · simp only [beq_eq_false_iff_ne.mpr h2, Bool.false_eq_true, if_false] at hy ⊢
          exact ih (.same (by decide) ra) hy
      | dq =>
        simp only [lexF] at hy ⊢
        by_cases h3 : c = 34
        · subst h3
          simp only [beq_self_eq_true, if_true] at hy ⊢
          exact ih (.same (by decide) hk) hy
        · by_cases h4 : c = 92
          · subst h4; simp at hy
          · simp only [beq_eq_false_iff_ne.mpr h3, beq_eq_false_iff_ne.mpr h4, Bool.false_eq_true, if_false] at hy ⊢
            exact ih (.same (by decide) ra) hy

theorem lex_of_rep {X Y : Tx} {ys : List Tx} (h : Rep false X Y) (hy : Lex Y ys) : ∃ xs, Lex X xs ∧ All2 (Rep false) xs ys := lex_rep h .start hy
end
section
noncomputable def escq : Tx → Tx
  | [] => []
  | c :: t => (if c == 39 then [39, 34, 39, 34, 39] else [c]) ++ escq t
inductive Piece : Tx → Tx → Prop
  | raw {t : Tx} : t ≠ [] → (∀ c ∈ t, isShell c = false) → Piece t t
  | quoted {t : Tx} : Piece (39 :: (escq t ++ [39])) t
inductive Wrap : Tx → List Tx → Prop
  | one {p t : Tx} : Piece p t → Wrap p [t]
  | cons {p t T : Tx} {ts : List Tx} : Piece p t → Wrap T ts → Wrap (p ++ 32 :: T) (t :: ts)

theorem lex_raw : ∀ (t k r : Tx), (∀ c ∈ t, isShell c = false) → lexF .word k (t ++ r) = lexF .word (k ++ t) r
  | [], k, r, _ => by simp
  | c :: t, k, r, h => by
    rw [List.cons_append, lex_quiet (h c (.head _)) (by decide), lex_raw t _ r fun d hd => h d (.tail _ hd)]
    simp
theorem lex_escq : ∀ (t k r : Tx), lexF .sq k (escq t ++ 39 :: r) = lexF .word (k ++ t) r
  | [], k, r => by simp [escq, lexF]
  | c :: t, k, r => by
    by_cases h : c = 39
    · subst h
      have e : isBlank 34 = false := by decide
      have e' : isBlank 39 = false := by decide
      have := lex_escq t (k ++ [39]) r
      simp only [List.append_assoc, List.singleton_append] at this
      simp [escq, lexF, e, e', this]
    · have := lex_escq t (k ++ [c]) r
      simp only [List.append_assoc, List.singleton_append] at this
      simp [escq, lexF, h, this]
theorem Piece.lex {p t : Tx} (h : Piece p t) (r : Tx) : lexF .start [] (p ++ r) = lexF .word t r := by
  cases h with
  | raw h1 h2 =>
    cases p with
    | nil => exact absurd rfl h1
    | cons c t =>
      rw [List.cons_append, lex_quiet0 (h2 c (.head _)), lex_raw t _ r fun d hd => h2 d (.tail _ hd)]
      rfl
  | quoted =>
    have e' : isBlank 39 = false := by decide
    have := lex_escq t [] r
    simp only [List.nil_append] at this
    simp [lexF, e', this]
theorem Wrap.lex {T : Tx} {ts : List Tx} (h : Wrap T ts) : Lex T ts := by
  induction h with
  | one hp => have := hp.lex []; rw [List.append_nil] at this; rw [Lex, this]; rfl
  | @cons p t T ts hp _ ih =>
    rw [Lex, hp.lex, lexF, ih]
    rfl
theorem Wrap.ne {T : Tx} {ts : List Tx} (h : Wrap T ts) : T ≠ [] := by
  intro e; subst e; have := h.lex; cases this

theorem escq_append (t u : Tx) : escq (t ++ u) = escq t ++ escq u := by
  induction t with
  | nil => rfl
  | cons c t ih => simp [escq, ih]
theorem hexd_escq {n : Nat} (h : n < 16) : (hexd n == 39) = false := by revert n; decide
theorem end_escq {e : Nat} (h : isEnd e = true) : (e == 39) = false := (shell_no (end_shell h)).2.1
theorem Rep.escq {X Y : Tx} (h : Rep false X Y) : Rep false (escq X) (escq Y) := by
  induction h with
  | nil => exact .nil
  | @lit c t u hc _ ih =>
    by_cases e : c = 39
    · subst e
      have a : isPlain 39 = true := by decide
      have b : isPlain 34 = true := by decide
      simpa [Mine.escq] using Rep.lit a (.lit b (.lit a (.lit b (.lit a ih))))
    · simpa [Mine.escq, e] using Rep.lit hc ih
  | @esc c t u hc hn _ ih =>
    have h1 := hexd_escq (n := c / 16) (by omega)
    have h2 := hexd_escq (n := c % 16) (by omega)
    have h3 : (c == 39) = false := (shell_no (hn.elim (fun h => nomatch h) id)).2.1
    have h4 : ((61 : Nat) == 39) = false := rfl
    simp only [Mine.escq, h1, h2, h3, h4, Bool.false_eq_true, if_false, List.singleton_append]
    exact .esc hc hn ih
  | @soft e t u he _ ih =>
    have h4 : ((61 : Nat) == 39) = false := rfl
    simp only [Mine.escq, end_escq he, h4, Bool.false_eq_true, if_false, List.singleton_append]
    exact .soft he ih
theorem Rep.quiet {X Y : Tx} (h : Rep false X Y) : (∀ c ∈ X, isShell c = false) → ∀ c ∈ Y, isShell c = false := by
  induction h with
  | nil => exact fun _ => (fun _ h => nomatch h)
  | lit _ _ ih =>
    intro h d hd
    cases hd with
    | head => exact h _ (.head _)
    | tail _ hd => exact ih (fun x hx => h x (.tail _ hx)) d hd
  | esc _ hn _ ih =>
    intro h d hd
    cases hd with
    | head => exact hn.elim (fun h => nomatch h) id
    | tail _ hd => exact ih (fun x hx => h x (.tail _ (.tail _ (.tail _ hx)))) d hd
  | soft _ _ ih => exact fun h => ih fun x hx => h x (.tail _ (.tail _ hx))
def RepP (t u : Tx) : Prop := Rep false t u ∧ (t ≠ [] → u ≠ [])
theorem Piece.rep {p t u : Tx} (h : Piece p t) (r : RepP t u) : ∃ q, Rep false p q ∧ Piece q u := by
  cases h with
  | raw h1 h2 => exact ⟨u, r.1, .raw (r.2 h1) (r.1.quiet h2)⟩
  | quoted =>
    have a : isPlain 39 = true := by decide
    exact ⟨_, .lit a (r.1.escq.append (.one a)), .quoted⟩
theorem Wrap.rep {T : Tx} {ts : List Tx} (h : Wrap T ts) : ∀ {us : List Tx}, All2 RepP ts us → ∃ U, Rep false T U ∧ Wrap U us := by
  induction h with
  | one hp =>
    intro us r
    cases r with
    | cons r1 r2 =>
      cases r2
      obtain ⟨q, h1, h2⟩ := hp.rep r1
      exact ⟨q, h1, .one h2⟩
  | cons hp _ ih =>
    intro us r
    cases r with
    | cons r1 r2 =>
      obtain ⟨q, h1, h2⟩ := hp.rep r1
      obtain ⟨U, h3, h4⟩ := ih r2
      exact ⟨_, h1.append (.lit (by decide) h3), .cons h2 h4⟩

inductive Good : Nat → Nat → List Tx → List Tx → Prop
  | nil {ws : List Tx} : Good 0 0 ws ws
  | q {k : Nat} {ts us ws : List Tx} : All2 (Rep false) ts us → Good k 0 us ws → Good (k + 1) 0 ts ws
  | s {j : Nat} {T : Tx} {xs ws : List Tx} : Lex T xs → Good 0 j xs ws → Good 0 (j + 1) [T] ws
  | qs {k j : Nat} {T : Tx} {us xs ws : List Tx} : All2 (Rep false) [T] us → Lex T xs → Good k (j + 1) us ws → Good (k + 1) j xs ws → Good (k + 1) (j + 1) [T] ws
noncomputable def ChainP : Nat → List Tx → List Tx → Prop
  | 0, ts, ws => ts = ws
  | k + 1, ts, ws => ∃ us, All2 RepP ts us ∧ ChainP k us ws

theorem All2.mono {R S : Tx → Tx → Prop} (hRS : ∀ x y, R x y → S x y) {xs ys : List Tx} (h : All2 R xs ys) : All2 S xs ys := by
  induction h with
  | nil => exact .nil
  | cons a _ ih => exact .cons (hRS _ _ a) ih
theorem chain_good : ∀ {k : Nat} {ts ws : List Tx}, ChainP k ts ws → Good k 0 ts ws
  | 0, _, _, h => by cases h; exact .nil
  | _ + 1, _, _, ⟨_, a, h⟩ => .q (a.mono fun _ _ h => h.1) (chain_good h)

theorem Good.lexed {k j : Nat} {ts ws : List Tx} (h : Good k (j + 1) ts ws) : ∃ T xs, ts = [T] ∧ Lex T xs ∧ Good k j xs ws := by
  cases h with
  | s a b => exact ⟨_, _, rfl, a, b⟩
  | qs _ a _ b => exact ⟨_, _, rfl, a, b⟩
theorem Good.repped {k j : Nat} {ts ws : List Tx} (h : Good (k + 1) j ts ws) : ∃ us, All2 (Rep false) ts us ∧ Good k j us ws := by
  cases h with
  | q a b => exact ⟨_, a, b⟩
  | qs a _ b _ => exact ⟨_, a, b⟩
theorem Good.done {ts ws : List Tx} (h : Good 0 0 ts ws) : ts = ws := by cases h; rfl
theorem lex_ne {T : Tx} {xs : List Tx} (h : Lex T xs) : T ≠ [] := by intro e; subst e; cases h

theorem Good.layQ {k : Nat} : ∀ {j : Nat} {ts us ws : List Tx}, All2 (Rep false) ts us → Good k j us ws → Good (k + 1) j ts ws
  | 0, _, _, _, a, h => .q a h
  | j + 1, ts, us, ws, a, h => by
    obtain ⟨T, ys, rfl, hl, hg⟩ := h.lexed
    cases a with
    | cons r a' =>
      cases a'
      obtain ⟨xs, hx, ha⟩ := lex_of_rep r hl
      exact .qs (.cons r .nil) hx h (Good.layQ ha hg)
theorem ChainP.layS : ∀ {k : Nat} {T : Tx} {ts ws : List Tx}, Wrap T ts → ChainP k ts ws → Good k 1 [T] ws
  | 0, T, ts, _, hw, h => .s hw.lex (chain_good h)
  | k + 1, T, ts, ws, hw, ⟨us, a, h⟩ => by
    obtain ⟨U, hr, hu⟩ := hw.rep a
    exact .qs (.cons hr .nil) hw.lex (ChainP.layS hu h) (chain_good ⟨us, a, h⟩)
theorem Good.layS : ∀ {k j : Nat} {T : Tx} {ts ws : List Tx}, Wrap T ts → Good k (j + 1) ts ws → Good k (j + 2) [T] ws
  | 0, j, T, ts, _, hw, h => .s hw.lex h
  | k + 1, j, T, ts, ws, hw, h => by
    obtain ⟨us, a, h'⟩ := h.repped
    have a' : All2 RepP ts us := by
      obtain ⟨T', _, rfl, _, _⟩ := h.lexed
      obtain ⟨U', _, rfl, hl, _⟩ := h'.lexed
      cases a with
      | cons r _ => exact .cons ⟨r, fun _ => lex_ne hl⟩ .nil
    obtain ⟨U, hr, hu⟩ := hw.rep a'
    exact .qs (.cons hr .nil) hw.lex (Good.layS hu h') h

noncomputable def isSafe (c : Nat) : Bool := (48 ≤ c && c ≤ 57) || (65 ≤ c && c ≤ 90) || (97 ≤ c && c ≤ 122) || c == 95 || c == 64 || c == 37 || c == 43 || c == 61 || c == 58 || c == 44 || c == 46 || c == 47 || c == 45
noncomputable def quoteT (t : Tx) : Tx := if t.isEmpty then [39, 39] else if t.all isSafe then t else 39 :: (escq t ++ [39])
noncomputable def joinT : List Tx → Tx
  | [] => []
  | [t] => quoteT t
  | t :: ts => quoteT t ++ 32 :: joinT ts
theorem safe_quiet {c : Nat} (h : isSafe c = true) : isShell c = false := by
  by_cases hc : c < 128
  · revert h; revert c; decide
  · cases e : isShell c with
    | false => rfl
    | true =>
      simp only [isShell, isBlank, Bool.or_eq_true, beq_iff_eq] at e
      omega
theorem quoteT_piece (t : Tx) : Piece (quoteT t) t := by
  unfold quoteT
  cases t with
  | nil => exact .quoted (t := [])
  | cons c t =>
    simp only [List.isEmpty_cons, Bool.false_eq_true, if_false]
    split
    · rename_i h
      exact .raw (by simp) fun d hd => safe_quiet (List.all_eq_true.mp h d hd)
    · exact .quoted
theorem joinT_wrap : ∀ {ts : List Tx}, ts ≠ [] → Wrap (joinT ts) ts
  | [], h => absurd rfl h
  | [t], _ => .one (quoteT_piece t)
  | t :: u :: ts, _ => .cons (quoteT_piece t) (joinT_wrap (by simp))
end
section
noncomputable def enc1 (c : Nat) : Tx := if isPlain c then [c] else [61, hexd (c / 16), hexd (c % 16)]
noncomputable def encT (u : Tx) : Tx := u.flatMap enc1
theorem encT_cons (c : Nat) (u : Tx) : encT (c :: u) = enc1 c ++ encT u := rfl
theorem encT_append (u v : Tx) : encT (u ++ v) = encT u ++ encT v := by simp [encT]
noncomputable def isSign (c : Nat) : Bool := c < 256 && c != 10 && c != 13
noncomputable def isSp (c : Nat) : Bool := c == 32 || c == 9

theorem hexd_ne {n : Nat} (h : n < 16) : hexd n ≠ 61 := by revert n; decide
theorem enc_cut : ∀ (u : Tx) (p : Nat), p ≤ (encT u).length → (∀ i, i < p → p ≤ i + 2 → (encT u)[i]? ≠ some 61) → ∃ v w, u = v ++ w ∧ (encT v).length = p
  | u, 0, _, _ => ⟨[], u, rfl, rfl⟩
  | [], p + 1, h, _ => by simp [encT] at h
  | c :: u, p + 1, h, hn => by
    rw [encT_cons] at h hn
    unfold enc1 at h hn
    by_cases hc : isPlain c = true
    · rw [if_pos hc] at h hn
      obtain ⟨v, w, rfl, hl⟩ := enc_cut u p (by simpa using h) fun i h1 h2 => by simpa using hn (i + 1) (by omega) (by omega)
      exact ⟨c :: v, w, rfl, by rw [encT_cons, enc1, if_pos hc]; simp [hl]⟩
    · rw [if_neg hc] at h hn
      match p, h, hn with
      | 0, h, hn => exact absurd (by simp) (hn 0 (by omega) (by omega))
      | 1, h, hn => exact absurd (by simp) (hn 0 (by omega) (by omega))
      | p + 2, h, hn =>
        obtain ⟨v, w, rfl, hl⟩ := enc_cut u p (by simpa using h) fun i h1 h2 => by simpa using hn (i + 3) (by omega) (by omega)
        exact ⟨c :: v, w, rfl, by rw [encT_cons, enc1, if_neg hc]; simp [hl]⟩
theorem enc_at : ∀ (u : Tx) (p : Nat), (∀ c ∈ u, c < 256) → (encT u)[p]? = some 61 → ∃ v w, u = v ++ w ∧ (encT v).length = p
  | u, 0, _, _ => ⟨[], u, rfl, rfl⟩
  | [], p + 1, _, h => by simp [encT] at h
  | c :: u, p + 1, hu, h => by
    rw [encT_cons] at h
    unfold enc1 at h
    by_cases hc : isPlain c = true
    · rw [if_pos hc] at h
      obtain ⟨v, w, rfl, hl⟩ := enc_at u p (fun d hd => hu d (.tail _ hd)) (by simpa using h)
      exact ⟨c :: v, w, rfl, by rw [encT_cons, enc1, if_pos hc]; simp [hl]⟩
    · rw [if_neg hc] at h
      have h256 := hu c (.head _)
      match p, h with
      | 0, h => exact absurd (by simpa using h) (hexd_ne (n := c / 16) (by omega))
      | 1, h => exact absurd (by simpa using h) (hexd_ne (n := c % 16) (by omega))
      | p + 2, h =>
        obtain ⟨v, w, rfl, hl⟩ := enc_at u p (fun d hd => hu d (.tail _ hd)) (by simpa using h)
        exact ⟨c :: v, w, rfl, by rw [encT_cons, enc1, if_neg hc]; simp [hl]⟩

noncomputable def cutAt (X : Tx) (p : Nat) : Nat := if X[p - 2]? = some 61 then p - 2 else if X[p - 1]? = some 61 then p - 1 else p
theorem cut_at {u : Tx} (hu : ∀ c ∈ u, c < 256) {p : Nat} (h2 : 2 ≤ p) (hp : p ≤ (encT u).length) : ∃ v w, u = v ++ w ∧ (encT v).length = cutAt (encT u) p := by
  unfold cutAt
  by_cases h : (encT u)[p - 2]? = some 61
  · rw [if_pos h]; exact enc_at u _ hu h
  · rw [if_neg h]
    by_cases h' : (encT u)[p - 1]? = some 61
    · rw [if_pos h']; exact enc_at u _ hu h'
    · rw [if_neg h']
      refine enc_cut u p hp fun i h1 h3 => ?_
      by_cases hi : i = p - 2
      · subst hi; exact h
      · have : i = p - 1 := by omega
        subst this; exact h'

theorem encT_rep (b : Bool) : ∀ (u : Tx), (∀ c ∈ u, isSign c = true) → Rep b (encT u) u
  | [], _ => .nil
  | c :: u, h => by
    have h1 := h c (.head _)
    have ih := encT_rep b u fun d hd => h d (.tail _ hd)
    simp only [isSign, Bool.and_eq_true, decide_eq_true_eq, bne_iff_ne] at h1
    rw [encT_cons, enc1]
    by_cases hc : isPlain c = true
    · rw [if_pos hc]; exact .lit hc ih
    · rw [if_neg hc]
      refine .esc h1.1.1 (.inr ?_) ih
      have hc' := Bool.eq_false_iff.mpr hc
      simp only [isPlain, Bool.or_eq_false_iff, Bool.and_eq_false_iff, decide_eq_false_iff_not, bne_eq_false_iff_eq, beq_eq_false_iff_ne] at hc'
      simp only [isShell, isBlank, Bool.or_eq_false_iff, beq_eq_false_iff_ne]
      omega

structure RowsAre (u : Tx) (e : Nat) (rows : List Tx) (start : Nat) : Prop where
  said : ∃ v w, u = v ++ w ∧ (encT v).length = start ∧ Rep false (rows.flatMap (· ++ [e])) v
  len : (rows.flatMap (· ++ [e])).length + 0 ≤ 2 * start
theorem RowsAre.nil {u : Tx} {e : Nat} : RowsAre u e [] 0 := ⟨⟨[], u, rfl, rfl, .nil⟩, by simp⟩
theorem cut_shift {X Y : Tx} {a p : Nat} (e : ∀ i, X[a + i]? = Y[i]?) (h : a + 2 ≤ p) : cutAt X p = a + cutAt Y (p - a) := by
  obtain ⟨q, rfl⟩ : ∃ q, p = a + (q + 2) := ⟨p - a - 2, by omega⟩
  rw [Nat.add_sub_cancel_left]
  have e2 : a + (q + 2) - 2 = a + q := rfl
  have e3 : a + (q + 2) - 1 = a + (q + 1) := rfl
  have e4 : q + 2 - 2 = q := rfl
  have e5 : q + 2 - 1 = q + 1 := rfl
  unfold cutAt
  rw [e2, e3, e4, e5, e q, e (q + 1)]
  split
  · rfl
  · split <;> rfl
theorem cut_ge (Y : Tx) (p : Nat) : p - 2 ≤ cutAt Y p := by
  unfold cutAt
  split
  · exact Nat.le_refl _
  · split
    · exact Nat.sub_le_sub_left (by decide) p
    · exact Nat.sub_le ..
theorem row_ar {A L c a : Nat} (h : A + 0 ≤ 2 * a) (h1 : L ≤ c - a) (h2 : a + 2 ≤ c) : A + (L + 1 + 1) + 0 ≤ 2 * c := by omega
theorem row_ar2 {a p c : Nat} (h : a + 4 ≤ p) (h1 : p - a - 2 ≤ c) : a + 2 ≤ a + c := by omega
theorem row_ar3 {a p v w : Nat} (h : p ≤ v + w) (hv : v = a) : p - a ≤ w := by omega
theorem rows_more {u : Tx} {e : Nat} {rows : List Tx} {start : Nat} (he : isEnd e = true) (hu : ∀ c ∈ u, isSign c = true) (h : RowsAre u e rows start) {stop : Nat} (h1 : start + 4 ≤ stop) (h2 : stop ≤ (encT u).length) :
    start + 2 ≤ cutAt (encT u) stop ∧ RowsAre u e (rows ++ [(((encT u).take (cutAt (encT u) stop)).drop start) ++ [61]]) (cutAt (encT u) stop) := by
  obtain ⟨⟨v, w, hvw, hv, hr⟩, hlen⟩ := h
  have hsign : ∀ c ∈ w, isSign c = true := fun c hc => hu c (by rw [hvw]; exact List.mem_append_right _ hc)
  have h256 : ∀ c ∈ w, c < 256 := fun c hc => by have := hsign c hc; simp only [isSign, Bool.and_eq_true, decide_eq_true_eq] at this; exact this.1.1
  have e1 : encT u = encT v ++ encT w := by rw [hvw, encT_append]
  have e3 : ∀ i, (encT u)[start + i]? = (encT w)[i]? := fun i => by rw [e1, ← hv, List.getElem?_append_right (Nat.le_add_right _ _), Nat.add_sub_cancel_left]
  have e2 : cutAt (encT u) stop = start + cutAt (encT w) (stop - start) := cut_shift e3 (Nat.le_trans (Nat.add_le_add_left (by decide) _) h1)
  have hlw : stop - start ≤ (encT w).length := row_ar3 (by rw [e1, List.length_append] at h2; exact h2) hv
  obtain ⟨x, y, hxy, hx⟩ := cut_at h256 (p := stop - start) (Nat.le_trans (by decide) (Nat.le_sub_of_add_le' h1)) hlw
  have hge := row_ar2 h1 (cut_ge (encT w) (stop - start))
  rw [← e2] at hge
  refine ⟨hge, ⟨v ++ x, y, by rw [hvw, hxy, List.append_assoc], by rw [encT_append, List.length_append, hv, hx, e2], ?_⟩, ?_⟩
  · have e4 : ((encT u).take (cutAt (encT u) stop)).drop start = encT x := by
      rw [e2, ← hx, e1, hxy, encT_append, ← hv, ← List.append_assoc, ← List.length_append, List.take_left' rfl, List.drop_left' rfl]
    rw [e4, List.flatMap_append]
    refine hr.append ?_
    have : Rep false (encT x ++ [61, e]) (x ++ []) := (encT_rep false x fun c hc => hsign c (by rw [hxy]; exact List.mem_append_left _ hc)).append (.soft he .nil)
    rwa [List.append_nil, show encT x ++ [61, e] = [encT x ++ [61]].flatMap (· ++ [e]) from (List.append_assoc (encT x) [61] [e]).symm.trans (List.append_nil _).symm] at this
  · have e4 : (((encT u).take (cutAt (encT u) stop)).drop start).length ≤ cutAt (encT u) stop - start := by
      rw [List.length_drop]
      exact Nat.sub_le_sub_right (List.length_take_le _ _) _
    rw [List.flatMap_append, List.length_append]
    have := row_ar hlen e4 hge
    rwa [show ([((encT u).take (cutAt (encT u) stop)).drop start ++ [61]].flatMap (· ++ [e])).length = (((encT u).take (cutAt (encT u) stop)).drop start).length + 1 + 1 by rw [List.flatMap_cons, List.flatMap_nil, List.append_nil, List.length_append, List.length_append]; rfl]
end
section
open PySem PySem.Builtin PySem.Builtin.Str PyProof.Rows PySem.StrLaws
noncomputable def linesGo (cur : List Nat) : List Nat → List (List Nat)
  | [] => if cur.isEmpty then [] else [cur]
  | c :: t => if Unicode.isLineBreak c then cur :: linesGo [] t else linesGo (cur ++ [c]) t
noncomputable def spans : List Nat → Nat → Nat → List (Nat × Nat × Nat) × Nat
  | [], st, _ => ([], st)
  | c :: t, st, i => if Unicode.isLineBreak c then ((st, i, i + 1) :: (spans t (i + 1) (i + 1)).1, (spans t (i + 1) (i + 1)).2) else spans t st (i + 1)
theorem run_spans (x : Str) : ∀ (l : List Nat) (cur st : Nat) (acc : Array (Nat × Nat × Nat)), x.cps.toList.drop cur = l → (∀ c ∈ l, c ≠ 13) → st ≤ cur →
    Id.run (forIn (m := Id) (List.range' cur l.length) ((acc, st) : LsSt) (lsBody x)) = (acc ++ (spans l st cur).1.toArray, (spans l st cur).2)
  | [], cur, st, acc, _, _, _ => by simp [spans]
  | c :: t, cur, st, acc, h, h13, hst => by
    have hc : x.cps.getD cur 0 = c := by
      have : (x.cps.toList.drop cur)[0]? = some c := by rw [h]; rfl
      rw [List.getElem?_drop] at this
      rw [Array.getD_eq_getD_getElem?, ← Array.getElem?_toList]
      simp only [Nat.add_zero] at this
      rw [this]; rfl
    have ht : x.cps.toList.drop (cur + 1) = t := by
      have : (x.cps.toList.drop cur).drop 1 = t := by rw [h]; rfl
      rw [List.drop_drop] at this
      rw [← this]
    rw [List.length_cons, List.range'_succ, List.forIn_cons]
    unfold lsBody
    by_cases hb : Unicode.isLineBreak c = true
    · have hn : lsNext x cur = cur + 1 := by
        unfold lsNext
        rw [hc, if_neg]
        have := h13 c (.head _)
        simp [this]
      have hcond : (decide (st ≤ cur) && Unicode.isLineBreak (x.cps.getD cur 0)) = true := by rw [hc, hb]; simp [hst]
      simp only [hcond, if_true]
      rw [hn]
      refine (run_spans x t (cur + 1) (cur + 1) (acc.push (st, cur, cur + 1)) ht (fun d hd => h13 d (.tail _ hd)) (Nat.le_refl _)).trans ?_
      simp [spans, hb]
    · have hcond : (decide (st ≤ cur) && Unicode.isLineBreak (x.cps.getD cur 0)) = false := by rw [hc]; simp [hb]
      simp only [hcond, Bool.false_eq_true, if_false]
      refine (run_spans x t (cur + 1) st acc ht (fun d hd => h13 d (.tail _ hd)) (by omega)).trans ?_
      simp [spans, hb]
theorem spans_lines (x : Str) : ∀ (l : List Nat) (st cur : Nat), x.cps.toList.drop cur = l → st ≤ cur → cur + l.length = x.cps.size →
    ((spans l st cur).1.map fun p => (strSub x p.1 p.2.1).cps.toList) ++ (if (spans l st cur).2 < x.cps.size then [(strSub x (spans l st cur).2 x.cps.size).cps.toList] else []) = linesGo (strSub x st cur).cps.toList l
  | [], st, cur, h, hst, hlen => by
    have e : cur = x.cps.size := by simpa using hlen
    subst e
    have hl : (strSub x st x.cps.size).cps.toList.length = x.cps.size - st := by simp [strSub]
    by_cases hlt : st < x.cps.size
    · have hne : (strSub x st x.cps.size).cps.toList.isEmpty = false := by
        cases hq : (strSub x st x.cps.size).cps.toList with
        | nil => rw [hq] at hl; simp at hl; omega
        | cons a b => rfl
      simp only [spans, linesGo, hlt, hne, List.map_nil, List.nil_append, if_true, Bool.false_eq_true, if_false]
    · have hne : (strSub x st x.cps.size).cps.toList.isEmpty = true := by
        cases hq : (strSub x st x.cps.size).cps.toList with
        | nil => rfl
        | cons a b => rw [hq] at hl; simp at hl; omega
      simp only [spans, linesGo, hlt, hne, List.map_nil, List.nil_append, if_true, if_false]
  | c :: t, st, cur, h, hst, hlen => by
    have ht : x.cps.toList.drop (cur + 1) = t := by
      have : (x.cps.toList.drop cur).drop 1 = t := by rw [h]; rfl
      rw [List.drop_drop] at this
      rw [← this]
    have hc : x.cps.toList[cur]? = some c := by
      have : (x.cps.toList.drop cur)[0]? = some c := by rw [h]; rfl
      rw [List.getElem?_drop] at this
      simpa using this
    rw [linesGo]
    by_cases hb : Unicode.isLineBreak c = true
    · have ih := spans_lines x t (cur + 1) (cur + 1) ht (Nat.le_refl _) (by simp at hlen; omega)
      have e0 : (strSub x (cur + 1) (cur + 1)).cps.toList = [] := by simp [strSub]
      rw [e0] at ih
      simp only [spans, hb, if_true, List.map_cons, List.cons_append]
      rw [ih]
    · have ih := spans_lines x t st (cur + 1) ht (by omega) (by simp at hlen; omega)
      have e1 : (strSub x st (cur + 1)).cps.toList = (strSub x st cur).cps.toList ++ [c] := by
        simp only [strSub, Array.toList_extract]
        rw [List.extract_eq_take_drop, List.extract_eq_take_drop, show cur + 1 - st = (cur - st) + 1 by omega, List.take_add_one, List.getElem?_drop, show st + (cur - st) = cur by omega, hc]
        rfl
      rw [e1] at ih
      simp only [spans, hb, if_false, Bool.false_eq_true]
      exact ih
theorem lines_are (x : Str) (h13 : ∀ c ∈ x.cps.toList, c ≠ 13) : (Txt.lines x).map (fun y => y.cps.toList) = linesGo [] x.cps.toList := by
  have h1 := run_spans x x.cps.toList 0 0 #[] (by simp) h13 (Nat.le_refl _)
  have h2 := spans_lines x x.cps.toList 0 0 (by simp) (Nat.le_refl _) (by simp)
  have e0 : (strSub x 0 0).cps.toList = [] := by simp [strSub]
  rw [e0] at h2
  have e3 : lineSpans x = (spans x.cps.toList 0 0).1 ++ (if (spans x.cps.toList 0 0).2 < x.cps.size then [((spans x.cps.toList 0 0).2, x.cps.size, x.cps.size)] else []) := by
    rw [ls_eq]
    have hlen : x.cps.toList.length = x.length := by simp [Str.length]
    rw [hlen] at h1
    rw [h1]
    unfold lsEnd
    by_cases hq : (spans x.cps.toList 0 0).2 < x.cps.size
    · have hq' : (spans x.cps.toList 0 0).2 < x.length := hq
      simp [hq, hq', Str.length]
    · have hq' : ¬ (spans x.cps.toList 0 0).2 < x.length := hq
      simp [hq, hq']
  have e4 : (linesOf x).map (fun y => y.cps.toList) = linesGo [] x.cps.toList := by
    rw [← h2]
    unfold linesOf lineCuts
    rw [e3, List.map_map, List.map_map, List.map_append]
    congr 1
    · by_cases hq : (spans x.cps.toList 0 0).2 < x.cps.size
      · simp [hq]
      · simp [hq]
  unfold Txt.lines
  split
  · rename_i hq
    rw [← e4]
    unfold linesOf
    rw [beq_iff_eq.mp hq]
    simp [strSub, Str.length]
  · exact e4
end
section
noncomputable def endsSp (u : Tx) : Bool := u.getLast?.any isSp
theorem endsSp_snoc (u : Tx) (c : Nat) : endsSp (u ++ [c]) = isSp c := by simp [endsSp]
structure QRow (u y : Tx) : Prop where
  rep : Rep (endsSp u) y u
  signs : ∀ c ∈ y, isSign c = true
  ends : endsSp y = false
  ne : u ≠ [] → y ≠ []
  nil : u = [] → y = []
  len : y.length ≤ 6 * u.length + 5
theorem QRow.empty : QRow [] [] := ⟨.nil, fun _ h => (nomatch h), rfl, fun h => absurd rfl h, fun _ => rfl, by simp⟩
theorem sp_plain {b : Nat} (h : isSp b = true) : isPlain b = true := by
  simp only [isSp, Bool.or_eq_true, beq_iff_eq] at h
  rcases h with rfl | rfl <;> decide
theorem sp_sign {b : Nat} (h : isSp b = true) : isSign b = true := by
  simp only [isSp, Bool.or_eq_true, beq_iff_eq] at h
  rcases h with rfl | rfl <;> decide
theorem plain_sign {b : Nat} (h : isPlain b = true) : isSign b = true := by
  simp only [isPlain, Bool.or_eq_true, Bool.and_eq_true, decide_eq_true_eq, bne_iff_ne, beq_iff_eq] at h
  simp only [isSign, Bool.and_eq_true, decide_eq_true_eq, bne_iff_ne]
  omega
theorem end_sign {e : Nat} (h : isEnd e = true) : isSign e = true ∧ isSp e = false := by
  simp only [isEnd, Bool.or_eq_true, beq_iff_eq] at h
  rcases h with ((rfl | rfl) | rfl) | rfl <;> decide
theorem hexd_sign {n : Nat} (h : n < 16) : isSign (hexd n) = true ∧ isSp (hexd n) = false := by revert n; decide
theorem eq_sign : isSign 61 = true ∧ isSp 61 = false := by decide
theorem enc_sp {u : Tx} {X : Tx} {b : Nat} (hu : ∀ c ∈ u, isSign c = true) (h : encT u = X ++ [b]) (hb : isSp b = true) : ∃ v, u = v ++ [b] ∧ encT v = X := by
  rcases List.eq_nil_or_concat u with rfl | ⟨v, c, rfl⟩
  · simp [encT] at h
  · have hc : isSign c = true := hu c (by simp)
    simp only [isSign, Bool.and_eq_true, decide_eq_true_eq] at hc
    rw [List.concat_eq_append] at h ⊢
    rw [encT_append] at h
    have e1 : encT [c] = enc1 c := by simp [encT]
    rw [e1] at h
    unfold enc1 at h
    by_cases hp : isPlain c = true
    · rw [if_pos hp] at h
      obtain ⟨h1, h2⟩ := List.append_inj' h rfl
      have : c = b := by simpa using h2
      subst this
      exact ⟨v, rfl, h1⟩
    · rw [if_neg hp, show [61, hexd (c / 16), hexd (c % 16)] = [61, hexd (c / 16)] ++ [hexd (c % 16)] from rfl, ← List.append_assoc] at h
      obtain ⟨h1, h2⟩ := List.append_inj' h rfl
      have : hexd (c % 16) = b := by simpa using h2
      have := (hexd_sign (n := c % 16) (by omega)).2
      simp_all
theorem enc_endsSp {u : Tx} (hu : ∀ c ∈ u, isSign c = true) : endsSp (encT u) = endsSp u := by
  rcases List.eq_nil_or_concat u with rfl | ⟨v, c, rfl⟩
  · rfl
  · have hc : isSign c = true := hu c (by simp)
    simp only [isSign, Bool.and_eq_true, decide_eq_true_eq] at hc
    rw [List.concat_eq_append, encT_append, endsSp_snoc]
    have e1 : encT [c] = enc1 c := by simp [encT]
    rw [e1]
    unfold enc1
    by_cases hp : isPlain c = true
    · rw [if_pos hp, endsSp_snoc]
    · rw [if_neg hp, show [61, hexd (c / 16), hexd (c % 16)] = [61, hexd (c / 16)] ++ [hexd (c % 16)] from rfl, ← List.append_assoc, endsSp_snoc, (hexd_sign (n := c % 16) (by omega)).2]
      cases e : isSp c with
      | false => rfl
      | true => exact absurd (sp_plain e) hp
theorem enc_signs {u : Tx} (hu : ∀ c ∈ u, isSign c = true) : ∀ c ∈ encT u, isSign c = true := by
  intro d hd
  obtain ⟨c, hc, hd⟩ := List.mem_flatMap.mp hd
  have hc := hu c hc
  have h2 := hc
  simp only [isSign, Bool.and_eq_true, decide_eq_true_eq] at h2
  unfold enc1 at hd
  split at hd
  · simp at hd; subst hd; exact hc
  · simp at hd
    rcases hd with rfl | rfl | rfl
    · decide
    · exact (hexd_sign (by omega)).1
    · exact (hexd_sign (by omega)).1
theorem enc_len (u : Tx) : (encT u).length ≤ 3 * u.length ∧ u.length ≤ (encT u).length := by
  induction u with
  | nil => simp [encT]
  | cons c u ih =>
    rw [encT_cons, List.length_append, List.length_cons]
    unfold enc1
    split <;> simp <;> omega
theorem rep_signs {b : Bool} {t u : Tx} (h : Rep b t u) : ∀ c ∈ t, isSign c = true := by
  induction h with
  | nil => exact fun _ h => nomatch h
  | lit h1 _ ih => intro d hd; cases hd with
    | head => exact plain_sign h1
    | tail _ hd => exact ih d hd
  | @esc c t u hc hn _ ih =>
    intro d hd
    simp only [List.mem_cons] at hd
    rcases hd with rfl | rfl | rfl | hd
    · decide
    · exact (hexd_sign (by omega)).1
    · exact (hexd_sign (by omega)).1
    · exact ih d hd
  | @soft e t u he _ ih =>
    intro d hd
    simp only [List.mem_cons] at hd
    rcases hd with rfl | rfl | hd
    · decide
    · exact (end_sign he).1
    · exact ih d hd
inductive Last (u : Tx) (e s : Nat) : Tx → Prop
  | plain : endsSp (encT u) = false → Last u e s ((encT u).drop s)
  | esc {X : Tx} {b : Nat} : encT u = X ++ [b] → isSp b = true → Last u e s (((encT u).take ((encT u).length - 1)).drop s ++ [61, hexd (b / 16), hexd (b % 16)])
  | soft {X : Tx} {b : Nat} : encT u = X ++ [b] → isSp b = true → Last u e s (((encT u).take ((encT u).length - 1)).drop s ++ ([b] ++ [61, e]))
  | both {X : Tx} {b : Nat} : encT u = X ++ [b] → isSp b = true → Last u e s (((encT u).take ((encT u).length - 1)).drop s ++ ([61, e] ++ [61, hexd (b / 16), hexd (b % 16)]))
theorem last_split {u v w X : Tx} {s b : Nat} (hu : ∀ c ∈ u, isSign c = true) (hvw : u = v ++ w) (hv : (encT v).length = s) (hs : s < (encT u).length) (hX : encT u = X ++ [b]) (hb : isSp b = true) :
    ∃ x, w = x ++ [b] ∧ ((encT u).take ((encT u).length - 1)).drop s = encT x := by
  have e1 : encT u = encT v ++ encT w := by rw [hvw, encT_append]
  have hw : ∀ c ∈ w, isSign c = true := fun c hc => hu c (by rw [hvw]; simp [hc])
  have hne : encT w ≠ [] := by intro h; rw [e1, h, List.append_nil] at hs; omega
  obtain ⟨Y, c, hY⟩ : ∃ Y c, encT w = Y ++ [c] := ⟨(encT w).dropLast, (encT w).getLast hne, (List.dropLast_concat_getLast hne).symm⟩
  have : c = b := by
    have h := hX
    rw [e1, hY, ← List.append_assoc] at h
    have := (List.append_inj' h rfl).2
    simpa using this
  subst this
  obtain ⟨x, hx, hxY⟩ := enc_sp hw hY hb
  refine ⟨x, hx, ?_⟩
  have : (encT u).take ((encT u).length - 1) = encT v ++ encT x := by
    rw [e1, hY, hxY, ← List.append_assoc, List.length_append (bs := [c]), List.length_singleton, Nat.add_sub_cancel, List.take_left' rfl]
  rw [this, ← hv, List.drop_left' rfl]
theorem rep_endsSp_ne {y : Tx} {c : Nat} (h : isSp c = false) : endsSp (y ++ [c]) = false := by rw [endsSp_snoc, h]
theorem last_row {u : Tx} {e s : Nat} {rows : List Tx} {p : Tx} (he : isEnd e = true) (hu : ∀ c ∈ u, isSign c = true) (h : RowsAre u e rows s) (hs : s < (encT u).length) (hp : Last u e s p) : QRow u (rows.flatMap (· ++ [e]) ++ p) := by
  obtain ⟨⟨v, w, hvw, hv, hr⟩, hlen⟩ := h
  have e1 : encT u = encT v ++ encT w := by rw [hvw, encT_append]
  have hw : ∀ c ∈ w, isSign c = true := fun c hc => hu c (by rw [hvw]; simp [hc])
  have hel := enc_len u
  have key : ∀ (b : Bool) (q : Tx), Rep b q w → (b = true → endsSp u = true) → endsSp (rows.flatMap (· ++ [e]) ++ q) = false → q ≠ [] → q.length ≤ (encT u).length - s + 5 → QRow u (rows.flatMap (· ++ [e]) ++ q) := by
    intro b q h1 h2 h3 h4 h5
    have h6 : Rep b (rows.flatMap (· ++ [e]) ++ q) u := by
      rw [hvw]
      exact (hr.mono).append h1
    refine ⟨?_, rep_signs h6, h3, fun _ h => h4 (List.append_eq_nil_iff.mp h).2, fun h => by subst h; exact absurd hs (by simp [encT]), ?_⟩
    · cases b with
      | false => exact h6.mono
      | true => rw [h2 rfl]; exact h6
    · rw [List.length_append]; omega
  have hws : endsSp u = endsSp (encT u) := (enc_endsSp hu).symm
  have hx20 : ∀ {b : Nat}, isSp b = true → b < 256 := by
    intro b hb
    have := sp_sign hb
    simp only [isSign, Bool.and_eq_true, decide_eq_true_eq] at this
    exact this.1.1
  have hdrop : (encT u).drop s = encT w := by rw [e1, ← hv, List.drop_left' rfl]
  cases hp with
  | plain h0 =>
    rw [hdrop]
    have hne : encT w ≠ [] := by intro h; rw [e1, h, List.append_nil] at hs; omega
    refine key false _ (encT_rep false w hw) (fun h => nomatch h) ?_ hne ?_
    · obtain ⟨Y, c, hY⟩ : ∃ Y c, encT w = Y ++ [c] := ⟨(encT w).dropLast, (encT w).getLast hne, (List.dropLast_concat_getLast hne).symm⟩
      rw [hY, ← List.append_assoc]
      rw [e1, hY, ← List.append_assoc, endsSp_snoc] at h0
      rw [endsSp_snoc, h0]
    · rw [← hdrop, List.length_drop]; omega
  | @esc X b hX hb =>
    obtain ⟨x, hx, hd⟩ := last_split hu hvw hv hs hX hb
    have hxs : ∀ c ∈ x, isSign c = true := fun c hc => hw c (by rw [hx]; simp [hc])
    have h256 := hx20 hb
    have hlx : ((encT u).take ((encT u).length - 1)).drop s = encT x := hd
    have hl : (encT x).length ≤ (encT u).length - s := by rw [← hlx]; simp; omega
    rw [hd]
    refine key true _ ?_ (fun _ => ?_) ?_ (by simp) ?_
    · rw [hx]; exact (encT_rep true x hxs).append (.esc h256 (.inl rfl) .nil)
    · rw [hws, hX, endsSp_snoc, hb]
    · have : rows.flatMap (· ++ [e]) ++ (encT x ++ [61, hexd (b / 16), hexd (b % 16)]) = (rows.flatMap (· ++ [e]) ++ (encT x ++ [61, hexd (b / 16)])) ++ [hexd (b % 16)] := by simp
      rw [this]; exact rep_endsSp_ne (hexd_sign (by omega)).2
    · simp; omega
  | @soft X b hX hb =>
    obtain ⟨x, hx, hd⟩ := last_split hu hvw hv hs hX hb
    have hxs : ∀ c ∈ x, isSign c = true := fun c hc => hw c (by rw [hx]; simp [hc])
    have hlx : ((encT u).take ((encT u).length - 1)).drop s = encT x := hd
    have hl : (encT x).length ≤ (encT u).length - s := by rw [← hlx]; simp; omega
    rw [hd]
    refine key false _ ?_ (fun h => nomatch h) ?_ (by simp) ?_
    · rw [hx]; exact (encT_rep false x hxs).append (.lit (sp_plain hb) (.soft he .nil))
    · have : rows.flatMap (· ++ [e]) ++ (encT x ++ ([b] ++ [61, e])) = (rows.flatMap (· ++ [e]) ++ (encT x ++ [b, 61])) ++ [e] := by simp
      rw [this]; exact rep_endsSp_ne (end_sign he).2
    · simp; omega
  | @both X b hX hb =>
    obtain ⟨x, hx, hd⟩ := last_split hu hvw hv hs hX hb
    have hxs : ∀ c ∈ x, isSign c = true := fun c hc => hw c (by rw [hx]; simp [hc])
    have h256 := hx20 hb
    have hlx : ((encT u).take ((encT u).length - 1)).drop s = encT x := hd
    have hl : (encT x).length ≤ (encT u).length - s := by rw [← hlx]; simp; omega
    rw [hd]
    refine key true _ ?_ (fun _ => ?_) ?_ (by simp) ?_
    · rw [hx]; exact (encT_rep true x hxs).append (.soft he (.esc h256 (.inl rfl) .nil))
    · rw [hws, hX, endsSp_snoc, hb]
    · have : rows.flatMap (· ++ [e]) ++ (encT x ++ ([61, e] ++ [61, hexd (b / 16), hexd (b % 16)])) = (rows.flatMap (· ++ [e]) ++ (encT x ++ [61, e] ++ [61, hexd (b / 16)])) ++ [hexd (b % 16)] := by simp
      rw [this]; exact rep_endsSp_ne (hexd_sign (by omega)).2
    · simp; omega

inductive DL : Tx → Tx → Prop
  | soft : DL [61] []
  | dot : DL [46] [46, 10]
  | lit {c : Nat} {t d : Tx} : isPlain c = true → DL t d → DL (c :: t) (c :: d)
  | esc {c : Nat} {t d : Tx} : c < 256 → DL t d → DL (61 :: hexd (c / 16) :: hexd (c % 16) :: t) (c :: d)
theorem break_plain {c : Nat} (h : isPlain c = true) : PySem.Unicode.isLineBreak c = false := by
  have hc : c < 127 := by
    simp only [isPlain, Bool.or_eq_true, Bool.and_eq_true, decide_eq_true_eq, beq_iff_eq] at h
    omega
  revert h; revert c; decide +kernel
theorem break_hex {n : Nat} (h : n < 16) : PySem.Unicode.isLineBreak (hexd n) = false := by revert n; decide +kernel
theorem break_eq : PySem.Unicode.isLineBreak 61 = false := by decide +kernel
theorem break_dot : PySem.Unicode.isLineBreak 46 = false := by decide +kernel
theorem break_end {e : Nat} (h : isEnd e = true) : PySem.Unicode.isLineBreak e = true := by
  simp only [isEnd, Bool.or_eq_true, beq_iff_eq] at h
  rcases h with ((rfl | rfl) | rfl) | rfl <;> decide +kernel
theorem dec_lines {x u : Tx} (h : Rep true x u) : ∀ (acc a : Tx), (∀ t d, DL t d → DL (acc ++ t) (a ++ d)) → ∃ ds, All2 DL (linesGo acc (x ++ [46])) ds ∧ ds.flatten = a ++ u ++ [46, 10] := by
  induction h with
  | nil =>
    intro acc a h
    refine ⟨[a ++ [46, 10]], ?_, by simp⟩
    have e : linesGo acc ([] ++ [46]) = [acc ++ [46]] := by simp [linesGo, break_dot]
    rw [e]
    exact .cons (h _ _ .dot) .nil
  | @lit c t u hc _ ih =>
    intro acc a h
    have e : linesGo acc (c :: t ++ [46]) = linesGo (acc ++ [c]) (t ++ [46]) := by rw [List.cons_append, linesGo, break_plain hc]; rfl
    rw [e]
    obtain ⟨ds, h1, h2⟩ := ih (acc ++ [c]) (a ++ [c]) fun t d hd => by simpa using h _ _ (.lit hc hd)
    exact ⟨ds, h1, by simpa using h2⟩
  | @esc c t u hc _ _ ih =>
    intro acc a h
    have e : linesGo acc (61 :: hexd (c / 16) :: hexd (c % 16) :: t ++ [46]) = linesGo (acc ++ [61, hexd (c / 16), hexd (c % 16)]) (t ++ [46]) := by
      rw [List.cons_append, List.cons_append, List.cons_append, linesGo, break_eq, if_neg (by decide), linesGo, break_hex (by omega), if_neg (by decide), linesGo, break_hex (by omega), if_neg (by decide)]
      simp
    rw [e]
    obtain ⟨ds, h1, h2⟩ := ih (acc ++ [61, hexd (c / 16), hexd (c % 16)]) (a ++ [c]) fun t d hd => by simpa using h _ _ (.esc hc hd)
    exact ⟨ds, h1, by simpa using h2⟩
  | @soft e t u he _ ih =>
    intro acc a h
    have e' : linesGo acc (61 :: e :: t ++ [46]) = (acc ++ [61]) :: linesGo [] (t ++ [46]) := by
      rw [List.cons_append, List.cons_append, linesGo, break_eq, if_neg (by decide), linesGo, break_end he, if_pos rfl]
    rw [e']
    obtain ⟨ds, h1, h2⟩ := ih [] [] fun t d hd => by simpa using hd
    refine ⟨(a ++ []) :: ds, .cons (h _ _ .soft) h1, ?_⟩
    simp [h2]
theorem DL.last {t d : Tx} (h : DL t d) : ∃ v c, t = v ++ [c] ∧ (c = 61 ∨ c = 46) := by
  induction h with
  | soft => exact ⟨[], 61, rfl, .inl rfl⟩
  | dot => exact ⟨[], 46, rfl, .inr rfl⟩
  | @lit c t d _ _ ih => obtain ⟨v, x, rfl, h⟩ := ih; exact ⟨c :: v, x, rfl, h⟩
  | @esc c t d _ _ ih => obtain ⟨v, x, rfl, h⟩ := ih; exact ⟨61 :: hexd (c / 16) :: hexd (c % 16) :: v, x, rfl, h⟩

noncomputable def Undo : List Nat → List Tx → List Tx → Prop
  | [], ts, ws => ts = ws
  | c :: rem, ts, ws => if c = 83 then ∃ T xs, ts = [T] ∧ Lex T xs ∧ Undo rem xs ws else ∃ us, All2 (Rep true) ts us ∧ Undo rem us ws
def LayOne (c : Nat) (ts us : List Tx) : Prop := if c = 83 then us = [joinT ts] else All2 QRow ts us
inductive LayAll : List Nat → List Tx → List Tx → Prop
  | nil {ts : List Tx} : LayAll [] ts ts
  | snoc {cs : List Nat} {c : Nat} {ws ts us : List Tx} : LayAll cs ws ts → LayOne c ts us → LayAll (cs ++ [c]) ws us
theorem quoteT_snoc (t : Tx) : ∃ v c, quoteT t = v ++ [c] ∧ isSp c = false := by
  unfold quoteT
  by_cases h0 : t.isEmpty = true
  · rw [if_pos h0]; exact ⟨[39], 39, rfl, by decide⟩
  · rw [if_neg h0]
    by_cases h1 : t.all isSafe = true
    · rw [if_pos h1]
      have hne : t ≠ [] := by intro h; subst h; exact h0 rfl
      refine ⟨t.dropLast, t.getLast hne, (List.dropLast_concat_getLast hne).symm, ?_⟩
      have := safe_quiet (List.all_eq_true.mp h1 _ (List.getLast_mem hne))
      simp only [isShell, isBlank, Bool.or_eq_false_iff] at this
      simp [isSp, this]
    · rw [if_neg h1]; exact ⟨39 :: escq t, 39, rfl, by decide⟩
theorem joinT_ends : ∀ {ts : List Tx}, endsSp (joinT ts) = false
  | [] => rfl
  | [t] => by obtain ⟨v, c, h, hc⟩ := quoteT_snoc t; show endsSp (quoteT t) = false; rw [h, endsSp_snoc, hc]
  | t :: u :: ts => by
    have ih := joinT_ends (ts := u :: ts)
    show endsSp (quoteT t ++ 32 :: joinT (u :: ts)) = false
    have hne := (joinT_wrap (ts := u :: ts) (by simp)).ne
    rw [(List.dropLast_concat_getLast hne).symm] at ih ⊢
    rw [show quoteT t ++ 32 :: ((joinT (u :: ts)).dropLast ++ [(joinT (u :: ts)).getLast hne]) = (quoteT t ++ 32 :: (joinT (u :: ts)).dropLast) ++ [(joinT (u :: ts)).getLast hne] by simp]
    rw [endsSp_snoc] at ih ⊢
    exact ih
def Fine (ts : List Tx) : Prop := ts ≠ [] ∧ ∀ t ∈ ts, endsSp t = false
def LayP (k j : Nat) (ts ws : List Tx) : Prop := if j = 0 then ChainP k ts ws else Good k j ts ws
theorem all2_rows {ts us : List Tx} (h : All2 QRow ts us) : (∀ t ∈ ts, endsSp t = false) → All2 RepP us ts ∧ (∀ u ∈ us, endsSp u = false) := by
  induction h with
  | nil => exact fun _ => ⟨.nil, fun _ h => nomatch h⟩
  | @cons x y xs ys h _ ih =>
    intro hf
    have ih := ih fun x hx => hf x (.tail _ hx)
    have h1 := h.rep
    rw [hf _ (.head _)] at h1
    refine ⟨.cons ⟨h1, fun h2 h3 => h2 (h.nil h3)⟩ ih.1, fun u hu => ?_⟩
    cases hu with
    | head => exact h.ends
    | tail _ hu => exact ih.2 u hu
theorem all2_true {ts us : List Tx} (h : All2 QRow ts us) : All2 (Rep true) us ts ∧ (∀ u ∈ us, endsSp u = false) := by
  induction h with
  | nil => exact ⟨.nil, fun _ h => nomatch h⟩
  | @cons x y xs ys h _ ih =>
    have h1 := h.rep
    refine ⟨.cons ?_ ih.1, fun u hu => ?_⟩
    · cases e : endsSp x with
      | false => rw [e] at h1; exact h1.mono
      | true => rw [e] at h1; exact h1
    · cases hu with
      | head => exact h.ends
      | tail _ hu => exact ih.2 u hu
theorem All2.ne {R : Tx → Tx → Prop} {ts us : List Tx} (h : All2 R ts us) (hn : ts ≠ []) : us ≠ [] := by
  cases h with
  | nil => exact absurd rfl hn
  | cons _ _ => simp
theorem LayP.one {k j c : Nat} {ts us ws : List Tx} (h : LayP k j ts ws) (hf : Fine ts) (hl : LayOne c ts us) : LayP (if c = 83 then k else k + 1) (if c = 83 then j + 1 else j) us ws ∧ Fine us := by
  unfold LayOne at hl
  by_cases hc : c = 83
  · rw [if_pos hc] at hl ⊢
    rw [if_pos hc]
    subst hl
    refine ⟨?_, by simp, fun t ht => by rw [List.mem_singleton.mp ht]; exact joinT_ends⟩
    have hw := joinT_wrap hf.1
    unfold LayP at h ⊢
    rw [if_neg (by omega)]
    cases j with
    | zero => rw [if_pos rfl] at h; exact ChainP.layS hw h
    | succ j => rw [if_neg (by omega)] at h; exact Good.layS hw h
  · rw [if_neg hc] at hl ⊢
    rw [if_neg hc]
    have ha := all2_rows hl hf.2
    refine ⟨?_, hl.ne hf.1, ha.2⟩
    unfold LayP at h ⊢
    cases j with
    | zero => rw [if_pos rfl] at h ⊢; exact ⟨_, ha.1, h⟩
    | succ j => rw [if_neg (by omega)] at h ⊢; exact Good.layQ (ha.1.mono fun _ _ h => h.1) h
theorem LayAll.inil {ws us : List Tx} (h : LayAll [] ws us) : us = ws := by
  generalize hl : ([] : List Nat) = l at h
  cases h with
  | nil => rfl
  | snoc => simp at hl
theorem LayAll.cons : ∀ {cs : List Nat} {c : Nat} {ws ts : List Tx}, LayAll (c :: cs) ws ts → ∃ us, LayOne c ws us ∧ LayAll cs us ts := by
  intro cs c ws ts h
  generalize hl : c :: cs = l at h
  induction h generalizing cs with
  | nil => cases hl
  | @snoc cs' c' ws ts us h1 h2 ih =>
    cases cs' with
    | nil =>
      have : c = c' ∧ cs = [] := by simpa using hl
      obtain ⟨rfl, rfl⟩ := this
      have e := h1.inil
      subst e
      exact ⟨us, h2, .nil⟩
    | cons c0 cs' =>
      simp only [List.cons_append, List.cons.injEq] at hl
      obtain ⟨rfl, rfl⟩ := hl
      obtain ⟨us', h3, h4⟩ := ih rfl
      exact ⟨us', h3, h4.snoc h2⟩
theorem LayP.all {ws : List Tx} : ∀ {cs : List Nat} {k j : Nat} {ts us : List Tx}, LayP k j ts ws → Fine ts → LayAll cs ts us → LayP (k + (cs.length - cs.count 83)) (j + cs.count 83) us ws
  | [], k, j, ts, us, h, _, hl => by
    have e := hl.inil
    subst e
    exact h
  | c :: cs, k, j, ts, us, h, hf, hl => by
    obtain ⟨xs, h1, h2⟩ := hl.cons
    have h3 := h.one hf h1
    have h4 := LayP.all h3.1 h3.2 h2
    have hle : cs.count 83 ≤ cs.length := List.count_le_length
    by_cases hc : c = 83
    · subst hc
      rw [if_pos rfl, if_pos rfl] at h4
      rw [List.count_cons_self, List.length_cons]
      have e1 : k + (cs.length + 1 - (cs.count 83 + 1)) = k + (cs.length - cs.count 83) := by omega
      have e2 : j + (cs.count 83 + 1) = j + 1 + cs.count 83 := by omega
      rw [e1, e2]; exact h4
    · rw [if_neg hc, if_neg hc] at h4
      rw [List.count_cons_of_ne (fun h => hc (by simpa using h)), List.length_cons]
      have e1 : k + (cs.length + 1 - cs.count 83) = k + 1 + (cs.length - cs.count 83) := by omega
      rw [e1]; exact h4
theorem LayP.good {k j : Nat} {ts ws : List Tx} (h : LayP k j ts ws) : Good k j ts ws := by
  unfold LayP at h
  cases j with
  | zero => rw [if_pos rfl] at h; exact chain_good h
  | succ j => rw [if_neg (by omega)] at h; exact h
end
section
def Signs (ts : List Tx) : Prop := ∀ t ∈ ts, ∀ d ∈ t, isSign d = true
noncomputable def UndoS : List Nat → List Tx → List Tx → Prop
  | [], ts, ws => ts = ws
  | c :: rem, ts, ws => if c = 83 then ∃ T xs, ts = [T] ∧ Lex T xs ∧ UndoS rem xs ws else ∃ us, All2 (Rep true) ts us ∧ Signs us ∧ UndoS rem us ws
theorem rep_says {X Y : Tx} (h : Rep false X Y) : ∀ c ∈ Y, isSign c = true := by
  induction h with
  | nil => exact fun _ h => nomatch h
  | lit h1 _ ih => intro d hd; cases hd with
    | head => exact plain_sign h1
    | tail _ hd => exact ih d hd
  | @esc c t u hc hn _ ih =>
    intro d hd
    cases hd with
    | head =>
      have hn : isShell c = false := hn.elim (fun h => nomatch h) id
      simp only [isShell, isBlank, Bool.or_eq_false_iff, beq_eq_false_iff_ne] at hn
      simp only [isSign, Bool.and_eq_true, decide_eq_true_eq, bne_iff_ne]
      omega
    | tail _ hd => exact ih d hd
  | soft _ _ ih => exact ih
theorem all2_says {xs ys : List Tx} (h : All2 (Rep false) xs ys) : Signs ys := by
  induction h with
  | nil => exact fun _ h => nomatch h
  | cons r _ ih =>
    intro t ht
    cases ht with
    | head => exact rep_says r
    | tail _ ht => exact ih t ht
theorem good_undoS : ∀ {rem : List Nat} {k j : Nat} {ts ws : List Tx}, Good k j ts ws → rem.count 83 = j → rem.length = j + k → UndoS rem ts ws
  | [], k, j, ts, ws, h, h1, h2 => by
    simp at h1 h2
    obtain ⟨rfl, rfl⟩ : j = 0 ∧ k = 0 := by omega
    exact h.done
  | c :: rem, k, j, ts, ws, h, h1, h2 => by
    unfold UndoS
    by_cases hc : c = 83
    · rw [if_pos hc]
      subst hc
      rw [List.count_cons_self] at h1
      subst h1
      obtain ⟨T, xs, rfl, h3, h4⟩ := h.lexed
      exact ⟨T, xs, rfl, h3, good_undoS h4 rfl (by simp at h2; omega)⟩
    · rw [if_neg hc]
      rw [List.count_cons_of_ne (fun h => hc (by simpa using h))] at h1
      have : rem.count 83 ≤ rem.length := List.count_le_length
      obtain ⟨k', rfl⟩ : ∃ k', k = k' + 1 := ⟨k - 1, by simp at h2; omega⟩
      obtain ⟨us, h3, h4⟩ := h.repped
      exact ⟨us, h3.mono fun _ _ h => h.mono, all2_says h3, good_undoS h4 h1 (by simp at h2; omega)⟩
theorem undo_snocS : ∀ {rem : List Nat} {ts us ws : List Tx}, UndoS rem ts us → All2 (Rep true) us ws → Signs ws → UndoS (rem ++ [81]) ts ws
  | [], _, _, _, h, a, hs => by
    cases h
    show UndoS [81] _ _
    unfold UndoS
    rw [if_neg (by decide)]
    exact ⟨_, a, hs, rfl⟩
  | c :: rem, ts, us, ws, h, a, hs => by
    rw [List.cons_append]
    unfold UndoS at h ⊢
    by_cases hc : c = 83
    · rw [if_pos hc] at h ⊢
      obtain ⟨T, xs, h1, h2, h3⟩ := h
      exact ⟨T, xs, h1, h2, undo_snocS h3 a hs⟩
    · rw [if_neg hc] at h ⊢
      obtain ⟨us', h1, h2, h3⟩ := h
      exact ⟨us', h1, h2, undo_snocS h3 a hs⟩
theorem ordersS {laid undone : List Nat} {ws ts : List Tx} (h1 : laid.count 83 = 2) (h2 : laid.length = 4) (h3 : undone.count 83 = 2) (h4 : undone.length = 4) (hw : ws ≠ []) (hsg : Signs ws)
    (hd : laid.head? ≠ some 83 → undone.getLast? = some 83 → ∀ w ∈ ws, endsSp w = false) (hq : undone.getLast? = some 83 ∨ undone.getLast? = some 81) (h : LayAll laid ws ts) : UndoS undone ts ws := by
  cases laid with
  | nil => cases h2
  | cons c cs =>
    have hle : cs.count 83 ≤ cs.length := List.count_le_length
    simp only [List.length_cons] at h2
    obtain ⟨us, h5, h6⟩ := h.cons
    have start : LayP 0 0 ws ws := rfl
    by_cases hc : c = 83
    · subst hc
      rw [List.count_cons_self] at h1
      have e : us = [joinT ws] := by simpa [LayOne] using h5
      subst e
      have p : LayP 0 1 [joinT ws] ws := by
        show Good 0 1 _ _
        exact .s (joinT_wrap hw).lex .nil
      have h7 := (p.all ⟨by simp, fun t ht => by rw [List.mem_singleton.mp ht]; exact joinT_ends⟩ h6).good
      exact good_undoS h7 (by omega) (by omega)
    · rw [List.count_cons_of_ne (fun h => hc (by simpa using h))] at h1
      rcases hq with hq | hq
      · have hf : Fine ws := ⟨hw, hd (by simpa using hc) hq⟩
        have h7 := (start.all hf h).good
        rw [List.count_cons_of_ne (fun h => hc (by simpa using h)), List.length_cons] at h7
        exact good_undoS h7 (by omega) (by omega)
      · obtain ⟨rem, rfl⟩ : ∃ rem, undone = rem ++ [81] := by
          rcases List.eq_nil_or_concat undone with rfl | ⟨v, d, rfl⟩
          · cases h4
          · refine ⟨v, ?_⟩
            rw [List.concat_eq_append] at hq ⊢
            simp at hq; rw [hq]
        have h5' : All2 QRow ws us := by simpa [LayOne, hc] using h5
        have ht := all2_true h5'
        have p : LayP 0 0 us us := rfl
        have h7 := (p.all ⟨h5'.ne hw, ht.2⟩ h6).good
        refine undo_snocS (good_undoS h7 ?_ ?_) ht.1 hsg
        · rw [List.count_append] at h3; simp at h3; omega
        · simp at h4; omega
noncomputable def sumL (ts : List Tx) : Nat := (ts.map (·.length)).sum
theorem sumL_cons (t : Tx) (ts : List Tx) : sumL (t :: ts) = t.length + sumL ts := by simp [sumL]
theorem len_sumL : ∀ {ts : List Tx} {x : Tx}, x ∈ ts → x.length ≤ sumL ts
  | t :: ts, x, h => by
    rw [sumL_cons]
    cases h with
    | head => omega
    | tail _ h => have := len_sumL h; omega
theorem escq_len (t : Tx) : (escq t).length ≤ 5 * t.length := by
  induction t with
  | nil => simp [escq]
  | cons c t ih => rw [escq, List.length_append, List.length_cons]; split <;> simp <;> omega
theorem quoteT_len (t : Tx) : (quoteT t).length ≤ 5 * t.length + 2 := by
  have := escq_len t
  unfold quoteT
  split
  · simp
  · split
    · omega
    · simp; omega
theorem quoteT_sum : ∀ ts : List Tx, (ts.map fun x => (quoteT x).length).sum ≤ 5 * sumL ts + 2 * ts.length
  | [] => by simp
  | t :: ts => by
    have := quoteT_sum ts
    have := quoteT_len t
    rw [sumL_cons]
    simp only [List.map_cons, List.sum_cons, List.length_cons]
    omega
theorem joinT_len : ∀ ts : List Tx, (joinT ts).length ≤ 5 * sumL ts + 3 * ts.length
  | [] => by simp [joinT]
  | [t] => by have := quoteT_len t; rw [sumL_cons]; show (quoteT t).length ≤ _; simp only [List.length_cons, List.length_nil]; omega
  | t :: u :: ts => by
    have ih := joinT_len (u :: ts)
    have := quoteT_len t
    rw [sumL_cons]
    show (quoteT t ++ 32 :: joinT (u :: ts)).length ≤ _
    simp only [List.length_append, List.length_cons] at ih ⊢
    omega
theorem escq_sign {t : Tx} (h : ∀ c ∈ t, isSign c = true) : ∀ c ∈ escq t, isSign c = true := by
  induction t with
  | nil => exact fun _ h => nomatch h
  | cons a t ih =>
    intro c hc
    rw [escq] at hc
    rcases List.mem_append.mp hc with hc | hc
    · split at hc
      · simp only [List.mem_cons, List.not_mem_nil, or_false] at hc; rcases hc with rfl | rfl | rfl | rfl | rfl <;> decide
      · simp at hc; subst hc; exact h _ (.head _)
    · exact ih (fun d hd => h d (.tail _ hd)) c hc
theorem quoteT_sign {t : Tx} (h : ∀ c ∈ t, isSign c = true) : ∀ c ∈ quoteT t, isSign c = true := by
  unfold quoteT
  split
  · intro c hc; simp at hc; subst hc; decide
  · split
    · exact h
    · intro c hc
      simp only [List.mem_cons, List.mem_append, List.not_mem_nil, or_false] at hc
      rcases hc with rfl | hc | rfl
      · decide
      · exact escq_sign h c hc
      · decide
theorem joinT_sign : ∀ {ts : List Tx}, Signs ts → ∀ c ∈ joinT ts, isSign c = true
  | [], _, _, h => nomatch h
  | [t], hs, c, h => quoteT_sign (hs t (.head _)) c h
  | t :: u :: ts, hs, c, h => by
    have h' : c ∈ quoteT t ++ 32 :: joinT (u :: ts) := h
    simp only [List.mem_append, List.mem_cons] at h'
    rcases h' with h' | rfl | h'
    · exact quoteT_sign (hs t (.head _)) c h'
    · decide
    · exact joinT_sign (fun x hx => hs x (.tail _ hx)) c h'
structure TOk (b : Nat) (ts : List Tx) : Prop where
  signs : Signs ts
  len : ts.length ≤ 9
  sum : sumL ts ≤ b
theorem rows_sum {ts us : List Tx} (h : All2 QRow ts us) : sumL us ≤ 6 * sumL ts + 5 * ts.length ∧ us.length = ts.length ∧ Signs us := by
  induction h with
  | nil => exact ⟨by simp [sumL], rfl, fun _ h => nomatch h⟩
  | cons r _ ih =>
    obtain ⟨a, b, c⟩ := ih
    refine ⟨?_, by simp [b], fun t ht => ?_⟩
    · rw [sumL_cons, sumL_cons, List.length_cons]; have := r.len; omega
    · cases ht with
      | head => exact r.signs
      | tail _ ht => exact c t ht
theorem TOk.step {b c : Nat} {ts us : List Tx} (h : TOk b ts) (hl : LayOne c ts us) : TOk (6 * b + 45) us := by
  unfold LayOne at hl
  split at hl
  · subst hl
    have := joinT_len ts
    have := h.len
    have := h.sum
    refine ⟨fun t ht => by rw [List.mem_singleton.mp ht]; exact joinT_sign h.signs, by simp, ?_⟩
    rw [sumL_cons]; show _ + 0 ≤ _; omega
  · obtain ⟨a, b', c'⟩ := rows_sum hl
    have := h.len
    have := h.sum
    exact ⟨c', by omega, by omega⟩
theorem lex_says (P : Nat → Prop) : ∀ (T : Tx) (st : St) (k : Tx) (ws : List Tx), lexF st k T = some ws → (∀ c ∈ k, P c) → (∀ c ∈ T, P c) → ∀ w ∈ ws, ∀ c ∈ w, P c
  | [], st, k, ws, h, hk, _ => by
    cases st with
    | word => cases h; intro w hw; rw [List.mem_singleton.mp hw]; exact hk
    | start => cases h
    | sq => cases h
    | dq => cases h
  | c :: T, st, k, ws, h, hk, hT => by
    have hT' : ∀ d ∈ T, P d := fun d hd => hT d (.tail _ hd)
    have hc : P c := hT c (.head _)
    have hn : ∀ d ∈ ([] : Tx), P d := fun _ h => nomatch h
    have hkc : ∀ d ∈ k ++ [c], P d := fun d hd => (List.mem_append.mp hd).elim (hk d) fun hd => by rw [List.mem_singleton.mp hd]; exact hc
    have h1 : ∀ d ∈ [c], P d := fun d hd => by rw [List.mem_singleton.mp hd]; exact hc
    cases st with
    | start =>
      simp only [lexF] at h
      split at h
      · cases h
      · split at h
        · exact lex_says P T _ _ _ h hn hT'
        · split at h
          · exact lex_says P T _ _ _ h hn hT'
          · split at h
            · cases h
            · exact lex_says P T _ _ _ h h1 hT'
    | word =>
      simp only [lexF] at h
      split at h
      · cases hm : lexF .start [] T with
        | none => rw [hm] at h; cases h
        | some zs =>
          rw [hm] at h
          obtain rfl := Option.some.inj h
          intro w hw
          cases hw with
          | head => exact hk
          | tail _ hw => exact lex_says P T _ _ _ hm hn hT' w hw
      · split at h
        · exact lex_says P T _ _ _ h hk hT'
        · split at h
          · exact lex_says P T _ _ _ h hk hT'
          · split at h
            · cases h
            · exact lex_says P T _ _ _ h hkc hT'
    | sq =>
      simp only [lexF] at h
      split at h
      · exact lex_says P T _ _ _ h hk hT'
      · exact lex_says P T _ _ _ h hkc hT'
    | dq =>
      simp only [lexF] at h
      split at h
      · exact lex_says P T _ _ _ h hk hT'
      · split at h
        · cases h
        · exact lex_says P T _ _ _ h hkc hT'
theorem lex_size : ∀ (T : Tx) (st : St) (k : Tx) (ws : List Tx), lexF st k T = some ws → sumL ws ≤ k.length + T.length ∧ ws.length ≤ T.length + 1
  | [], st, k, ws, h => by
    cases st with
    | word => cases h; simp [sumL]
    | start => cases h
    | sq => cases h
    | dq => cases h
  | c :: T, st, k, ws, h => by
    have go : ∀ {st k'}, k'.length ≤ k.length + 1 → lexF st k' T = some ws → sumL ws ≤ k.length + (c :: T).length ∧ ws.length ≤ (c :: T).length + 1 := fun hl h => by
      have := lex_size T _ _ _ h
      simp only [List.length_cons]
      omega
    cases st with
    | start =>
      simp only [lexF] at h
      split at h
      · cases h
      · split at h
        · exact go (by simp) h
        · split at h
          · exact go (by simp) h
          · split at h
            · cases h
            · exact go (by simp) h
    | word =>
      simp only [lexF] at h
      split at h
      · cases hm : lexF .start [] T with
        | none => rw [hm] at h; cases h
        | some zs =>
          rw [hm] at h
          obtain rfl := Option.some.inj h
          have := lex_size T _ _ _ hm
          rw [sumL_cons]
          simp only [List.length_cons, List.length_nil] at this ⊢
          omega
      · split at h
        · exact go (by simp) h
        · split at h
          · exact go (by simp) h
          · split at h
            · cases h
            · exact go (by simp) h
    | sq =>
      simp only [lexF] at h
      split at h
      · exact go (by simp) h
      · exact go (by simp) h
    | dq =>
      simp only [lexF] at h
      split at h
      · exact go (by simp) h
      · split at h
        · cases h
        · exact go (by simp) h
theorem rep_len {b : Bool} {t u : Tx} (h : Rep b t u) : u.length ≤ t.length := by
  induction h with
  | nil => simp
  | lit _ _ ih => simp; omega
  | esc _ _ _ ih => simp; omega
  | soft _ _ ih => simp; omega
theorem reps_sum {b : Bool} {ts us : List Tx} (h : All2 (Rep b) ts us) : sumL us ≤ sumL ts ∧ us.length = ts.length := by
  induction h with
  | nil => simp
  | cons r _ ih => rw [sumL_cons, sumL_cons]; have := rep_len r; simp; omega
structure UOk (ts : List Tx) : Prop where
  signs : Signs ts
  len : ts.length ≤ 40000
  sum : sumL ts ≤ 39999
theorem UOk.q {ts us : List Tx} (h : UOk ts) (hr : All2 (Rep true) ts us) (hs : Signs us) : UOk us := by
  have := reps_sum hr
  exact ⟨hs, by have := h.len; omega, by have := h.sum; omega⟩
theorem UOk.s {T : Tx} {xs : List Tx} (h : UOk [T]) (hx : Lex T xs) : UOk xs := by
  have := lex_size T _ _ _ hx
  have h2 := h.sum
  rw [sumL_cons] at h2
  simp only [List.length_nil] at this
  exact ⟨lex_says (fun c => isSign c = true) T _ _ _ hx (fun _ h => nomatch h) (h.signs T (.head _)), by omega, by omega⟩
end
section
open PySem PySem.Sre
noncomputable def reCode : Array Nat := #[14, 17, 4, 1, 1, 21, 9, 0, 604043296, 1, 0, 0, 0, 0, 0, 8, 4, 0, 13, 14, 21, 9, 0, 604043296, 1, 0, 0, 0, 0, 0, 8, 4, 0, 1]
theorem safe_small : ∀ c, c < 256 → (((reCode.getD (7 + c / 32) 0).testBit (c % 32)) || Sre.isWord c) = isSafe c := by decide +kernel
theorem safe_cut {c : Nat} : (decide (c < 256) && (reCode.getD (7 + c / 32) 0).testBit (c % 32) || Sre.isWord c) = isSafe c := by
  by_cases h : c < 256
  · rw [decide_eq_true h, Bool.true_and, safe_small c h]
  · rw [decide_eq_false h, Bool.false_and, Bool.false_or]
    unfold Sre.isWord Sre.isDigit isSafe
    have h1 : decide (c ≤ 57) = false := decide_eq_false (by omega)
    have h2 : decide (c ≤ 90) = false := decide_eq_false (by omega)
    have h3 : decide (c ≤ 122) = false := decide_eq_false (by omega)
    have e : ∀ k, k < 256 → (c == k) = false := fun k hk => beq_eq_false_iff_ne.mpr (by omega)
    simp only [h1, h2, h3, Bool.and_false, Bool.false_or]
    simp [e]
theorem inSet_5 (f c : Nat) (seen : Seen) : inSet reCode c (f + 4) 5 true seen = if (decide (c < 256) && (reCode.getD (5 + 1 + (1 + c / 32)) 0).testBit (c % 32)) = true then .ok (false, (seen.add 21).add 9) else
        (if (Sre.isWord c != false) = true then .ok (false, (((seen.add 21).add 9).add 8).add 59) else .ok (true, ((((seen.add 21).add 9).add 8).add 59).add 0)) := by kernel_rfl
theorem inSet_20 (f c : Nat) (seen : Seen) : inSet reCode c (f + 4) 20 true seen = if (decide (c < 256) && (reCode.getD (20 + 1 + (1 + c / 32)) 0).testBit (c % 32)) = true then .ok (false, (seen.add 21).add 9) else
        (if (Sre.isWord c != false) = true then .ok (false, (((seen.add 21).add 9).add 8).add 59) else .ok (true, ((((seen.add 21).add 9).add 8).add 59).add 0)) := by kernel_rfl
theorem code_20 : ∀ k, k < 8 → reCode.getD (20 + 1 + (1 + k)) 0 = reCode.getD (5 + 1 + (1 + k)) 0 := by decide
theorem inSet_any {c : Nat} {s1 s2 s3 : Seen} (b w : Bool) (h : (b || w) = isSafe c) :
    ∃ seen', (if b = true then (.ok (false, s1) : Except String (Bool × Seen)) else if (w != false) = true then .ok (false, s2) else .ok (true, s3)) = .ok (!isSafe c, seen') := by
  rw [← h]
  cases b <;> cases w <;> exact ⟨_, rfl⟩
theorem inSet_at (i : Nat) (hi : i = 5 ∨ i = 20) (f c : Nat) (seen : Seen) : ∃ seen', inSet reCode c (f + 4) i true seen = .ok (!isSafe c, seen') := by
  rcases hi with rfl | rfl
  · rw [inSet_5]
    refine inSet_any _ _ ?_
    rw [← safe_cut (c := c), show 5 + 1 + (1 + c / 32) = 7 + c / 32 by omega]
  · rw [inSet_20]
    refine inSet_any _ _ ?_
    rw [← safe_cut (c := c)]
    by_cases h : c < 256
    · rw [code_20 _ (by omega), show 5 + 1 + (1 + c / 32) = 7 + c / 32 by omega]
    · rw [decide_eq_false h, Bool.false_and, Bool.false_and]
theorem admitted_at (m : M) (hc : m.code = reCode) : ∀ (fuel s : Nat) (seen : Seen), m.lim ≤ s + fuel → (∃ seen', M.admitted m fuel s seen = .ok (none, seen') ∧ ∀ i, s ≤ i → i < m.lim → isSafe (m.text.getD i 0) = true) ∨
    (∃ i seen', s ≤ i ∧ i < m.lim ∧ M.admitted m fuel s seen = .ok (some i, seen') ∧ isSafe (m.text.getD i 0) = false)
  | 0, s, seen, h => .inl ⟨seen, rfl, fun i h1 h2 => by omega⟩
  | fuel + 1, s, seen, h => by
    unfold M.admitted
    by_cases hs : s ≥ m.lim
    · rw [if_pos hs]
      exact .inl ⟨seen, rfl, fun i h1 h2 => by omega⟩
    · rw [if_neg hs, hc]
      obtain ⟨seen', e⟩ := inSet_at 5 (.inl rfl) 30 (m.text.getD s 0) seen
      rw [show inSet reCode (m.text.getD s 0) reCode.size 5 true seen = .ok (!isSafe (m.text.getD s 0), seen') from e]
      cases hq : isSafe (m.text.getD s 0) with
      | false => exact .inr ⟨s, seen', Nat.le_refl _, by omega, rfl, hq⟩
      | true =>
        rcases admitted_at m hc fuel (s + 1) seen' (by omega) with ⟨s2, e2, h2⟩ | ⟨i, s2, h1, h2, e2, h3⟩
        · refine .inl ⟨s2, e2, fun i a b => ?_⟩
          by_cases hi : i = s
          · rw [hi]; exact hq
          · exact h2 i (by omega) b
        · exact .inr ⟨i, s2, by omega, h2, e2, h3⟩
abbrev sd0 : Seen := ({} : Seen).add 14
noncomputable def mOf (x : Array Nat) (seen : Seen) : M := { code := reCode, text := x, lim := x.size, start := 0, pc := 18, pos := 0, handed := 0, marks := #[], lastStart := x.size, seen }
noncomputable def mAt (x : Array Nat) (s pc pos : Nat) (seen : Seen) : M := { code := reCode, text := x, lim := x.size, start := s, pc, pos, handed := s, marks := #[], lastStart := x.size, seen, frames := [{ wait := .nextStart, pc := 18, pos := s, outermost := true }], weight := 1 }
theorem search_eq (x : Array Nat) : forSearch reCode x 0 0 x.size false = if (decide (0 > x.size) || decide (x.size - 0 < 1)) = true then { mOf x sd0 with lastStart := 0 }.say false else (mOf x sd0).attemptFrom 0 true := by kernel_rfl
theorem from_eq (x : Array Nat) (sd : Seen) : (mOf x sd).attemptFrom 0 true = match M.admitted (mOf x sd) (x.size + 1 - 0) 0 sd with
  | .ok (some s, seen) => mAt x s 18 s seen
  | .ok (none, seen) => (mOf x seen).say false
  | .error why => (mOf x sd).stick why := by kernel_rfl
theorem step_none (x : Array Nat) (sd : Seen) : (((mOf x sd).say false).runFor 4).outcome = some .failed := by kernel_rfl
theorem step_1 (x : Array Nat) (s : Nat) (sd : Seen) : (mAt x s 18 s sd).runFor 4 = (if s ≥ x.size then ({ mAt x s 18 s (sd.add 13) with answer := some false } : M) else match inSet reCode (x.getD s 0) (30 + 4) 20 true (sd.add 13) with
  | .error why => { mAt x s 18 s (sd.add 13) with outcome := some (.stuck why) }
  | .ok (false, seen) => { mAt x s 18 s seen with answer := some false }
  | .ok (true, seen) => mAt x s 33 (s + 1) seen).runFor 3 := by kernel_rfl
theorem step_3 (x : Array Nat) (s : Nat) (sd : Seen) : ((mAt x s 33 (s + 1) sd).runFor 3).outcome = some .matched := by kernel_rfl
theorem search_safe {x : Array Nat} (hx : ∀ c ∈ x, isSafe c = true) (h1 : 1 ≤ x.size) : ((forSearch reCode x 0 0 x.size false).runFor 4).outcome = some .failed := by
  rw [search_eq, if_neg (by rw [Bool.or_eq_true, decide_eq_true_eq, decide_eq_true_eq]; omega), from_eq]
  rcases admitted_at (mOf x sd0) rfl (x.size + 1 - 0) 0 sd0 (by show x.size ≤ _; omega) with ⟨sn, e, _⟩ | ⟨i, sn, _, hi, _, h⟩
  · rw [e]; exact step_none x sn
  · have : i < x.size := hi
    have e : (mOf x sd0).text.getD i 0 = x[i] := by show x.getD i 0 = _; simp [Array.getD, this]
    rw [e, hx _ (by simp)] at h
    cases h
theorem search_unsafe {x : Array Nat} {c : Nat} (hc : c ∈ x) (hs : isSafe c = false) : ((forSearch reCode x 0 0 x.size false).runFor 4).outcome = some .matched := by
  obtain ⟨k, hk, rfl⟩ := Array.mem_iff_getElem.mp hc
  rw [search_eq, if_neg (by rw [Bool.or_eq_true, decide_eq_true_eq, decide_eq_true_eq]; omega), from_eq]
  rcases admitted_at (mOf x sd0) rfl (x.size + 1 - 0) 0 sd0 (by show x.size ≤ _; omega) with ⟨sn, e, h⟩ | ⟨i, sn, _, hi, e, h⟩
  · have e : (mOf x sd0).text.getD k 0 = x[k] := by show x.getD k 0 = _; simp [Array.getD, hk]
    have := h k (Nat.zero_le _) hk
    rw [e, hs] at this
    cases this
  · rw [e]
    have hi : i < x.size := hi
    show ((mAt x i 18 i sn).runFor 4).outcome = _
    obtain ⟨s2, e2⟩ := inSet_at 20 (.inr rfl) 30 (x.getD i 0) (sn.add 13)
    have h : isSafe (x.getD i 0) = false := h
    rw [step_1, if_neg (by omega), e2, h]
    exact step_3 x i s2
end
section
open PySem PySem.Builtin PyProof.Rows
open Sem (wp)
abbrev boundObj (id : String) (a : Addr) : Obj := { cls := .type "builtin_function_or_method", data := .fields #[.builtin id, .ref a] }
theorem look_append : typeLookup (.type "list") "append" = pure (some (.builtin "list.append")) := by rw [typeLookup_type, builtinLookup_eq_fast]; kernel_rfl
theorem look_get : typeLookup (.type "method_descriptor") "__get__" = pure (some (.builtin "method_descriptor.__get__")) := by rw [typeLookup_type, builtinLookup_eq_fast]; kernel_rfl
theorem look_set : typeLookup (.type "method_descriptor") "__set__" = pure none := by rw [typeLookup_type, builtinLookup_eq_fast]; kernel_rfl
theorem look_del : typeLookup (.type "method_descriptor") "__delete__" = pure none := by rw [typeLookup_type, builtinLookup_eq_fast]; kernel_rfl
theorem slot_md : Slot "method_descriptor" "__get__" "method_descriptor.__get__" :=
  .of (owner := "method_descriptor") (n := "__get__") look_get (by decide +kernel) (by decide +kernel) (by decide +kernel) (.inl (by decide +kernel)) (by rw [isSubtype_type]; kernel_rfl)
theorem entry_md : entryFor table "method_descriptor.__get__" = some Builtin.«method_descriptor.__get__» := entryFor_of_tree (by kernel_rfl)
theorem args_md (a b c : Value) : argsOk "method_descriptor.__get__" ⟨[a, b, c], []⟩ := by unfold argsOk; kernel_rfl
theorem md_get {prog : Program} {w : World} {A : Around} {R : Result → Shared → Prop} {s : Shared} {a : Addr} {o : Obj} (hx : s.heap.get? a = some o) (hc : o.cls = .type "list")
    (h : R (.ok (.ret (.ref s.heap.objs.size))) { s with heap := s.heap.push (boundObj "list.append" a) }) : codeAny (model prog w) A (.call (.builtin "method_descriptor.__get__") ⟨[.builtin "list.append", .ref a, .type "list"], []⟩) R s := by
  obtain ⟨hp, g, d, tk, os⟩ := s
  have hT : (⟨hp, g, d, tk, os⟩ : Shared).TypeIs (.ref a) "list" := ⟨_, hx, hc⟩
  refine codeAny_call_builtin slot_md.plain entry_md (slot_md.check _ _ _ _ _ _ _ _ F.type_list_append (args_md _ _ _) ?_)
  unfold Builtin.«method_descriptor.__get__»
  repeat (any_goals (first | assumption | wp_step))
  rw [show isSubtype (.type "list") (.type (".".intercalate ("list.append".cutAt '.').dropLast)) = pure true from by rw [isSubtype_type]; kernel_rfl]
  refine wpAny_pure ?_
  simp only [Bool.not_true, Bool.false_eq_true, if_false]
  refine wpAny_pure ?_
  refine wpAny_bind (wpAny_bind (wpAny_alloc ?_))
  exact wpAny_pure (wpAny_pure h)
theorem meets_ga_append (a : Addr) (xs : Array Value) (k : Nat) (sl : Array (Option Value)) (u : Tok) :
    Meets (Builtin.«object.__getattribute__» ⟨[.ref a, .str "append" u], []⟩) (fun A R s => s.heap.get? a = some { cls := .type "list", dict := none, data := .seq xs k, slots := sl } ∧ R (.ok (.ret (.ref s.heap.objs.size))) { s with heap := s.heap.push (boundObj "list.append" a) }) :=
  Meets.of_wp fun prog w A R s hs => by
    obtain ⟨hp, g, d, tk, os⟩ := s
    obtain ⟨hx, hs⟩ := hs
    have hT : (⟨hp, g, d, tk, os⟩ : Shared).TypeIs (.ref a) "list" := ⟨_, hx, rfl⟩
    have f1 := look_append
    have f2 := F.type_list_append
    have f3 := look_get
    have f4 := look_set
    have f5 := look_del
    unfold Builtin.«object.__getattribute__»
    repeat (any_goals (first | assumption | wp_step))
    exact md_get hx rfl (wpAny_pure ⟨_, rfl, hs⟩)
theorem getAttr_append {prog : Program} {w : World} {A : Around} {E : Value → Shared → Prop} {s : Shared} {a : Addr} {xs : Array Value} {k : Nat} {sl : Array (Option Value)} {expr : Bool} {Q : Value → Shared → Prop}
    (hx : s.heap.get? a = some { cls := .type "list", data := .seq xs k, slots := sl }) (h : ∀ tk, Q (.ref s.heap.objs.size) { s with heap := s.heap.push (boundObj "list.append" a), toks := tk }) : wpAny (model prog w) A (getAttr (.ref a) "append" expr) Q E s := by
  obtain ⟨hp, g, d, tk, os⟩ := s
  have hT : ∀ tk', (⟨hp, g, d, tk', os⟩ : Shared).TypeIs (.ref a) "list" := fun _ => ⟨_, hx, rfl⟩
  have f3 := F.slot_list_getattribute.lookup
  have f4 := F.slot_list_getattribute.bind (.ref a)
  have f5 := am_list_getattr_none
  unfold getAttr getAttrBy
  cases expr <;>
    repeat (any_goals (first | assumption | exact hT _ | ((with_reducible show wpAny _ _ (call (Value.builtin "list.__getattribute__") _ _) _ _ _); refine call_meets F.slot_list_getattribute (hT _) am_entry_list_getattribute (F.args_list_getattribute_2 _ _) (meets_ga_append a xs k sl _) ⟨hx, ?_⟩) | wp_step))
  all_goals exact wpAny_pure (h _)
theorem call_bound {prog : Program} {w : World} {A : Around} {E : Value → Shared → Prop} {s : Shared} {b l : Addr} {xs : Array Value} {k : Nat} {sl : Array (Option Value)} {v : Value} {S : PySem.Spec} {Q : Value → Shared → Prop}
    (hb : s.heap.get? b = some (boundObj "list.append" l)) (hx : s.heap.get? l = some { cls := .type "list", data := .seq xs k, slots := sl })
    (g : Meets (Builtin.«list.append» ⟨[.ref l, v], []⟩) S) (h : S A (wants Q E) s) : wpAny (model prog w) A (call (.ref b) [v]) Q E s := by
  refine wpAny_call (codeAny_of_tree ?_)
  obtain ⟨hp, gg, d, tk, os⟩ := s
  have hT : (⟨hp, gg, d, tk, os⟩ : Shared).TypeIs (.ref l) "list" := ⟨_, hx, rfl⟩
  show wpAny _ A.in1 (callAny (.ref b) ⟨[v], []⟩) _ _ _
  unfold callAny
  refine wpAny_bind (wpAny_load hb ?_)
  show wpAny _ A.in1 (do checkBoundCall "list.append" ⟨[.ref l, v], []⟩; again (.builtin "list.append" ⟨[.ref l, v], []⟩)) _ _ _
  have hq : plainId "list.append" = true := by decide +kernel
  refine wpAny_bind (wpAny_mono (Q := fun _ s₁ => s₁ = ⟨hp, gg, d, tk, os⟩) (E := fun _ _ => False) ?_ ?_ ?_)
  · have e1 : Manifest.signature? "list.append" = some ⟨.oneArg, "list.append", "append", .self, [⟨"object", .posOnly, true⟩]⟩ := by kernel_rfl
    have e2 : builtinKind "list.append" = some .method := by decide +kernel
    have e3 : Manifest.varargsMethods.contains "list.append" = false := by decide +kernel
    have e4 : isSubtype (.type "list") (.type "module") = pure false := by rw [isSubtype_type]; kernel_rfl
    have e5 : isSubtype (.type "list") (.type "type") = pure false := by rw [isSubtype_type]; kernel_rfl
    unfold checkBoundCall
    rw [e1, e2]
    dsimp only
    rw [if_neg (by decide)]
    refine wpAny_bind (wpAny_isInstance hT e4 ?_)
    rw [e3]
    simp only [Bool.or_self, Bool.false_eq_true, if_false]
    refine wpAny_bind (wpAny_bind ?_)
    refine wpAny_bind (wpAny_load hx ?_)
    refine wpAny_pure (wpAny_pure ?_)
    rw [if_neg (fun h => nomatch h)]
    refine wpAny_bind (wpAny_typeOf hT ?_)
    exact wpAny_of_eq (a := ()) (by kernel_rfl) rfl
  · rintro _ s₁ rfl
    refine wpAny_pure (And.intro (plainId_quiet hq _) (codeAny_builtin F.entry_list_append ?_))
    rw [Around.under_plainId hq]
    exact wpAny_mono (g prog w A (wants Q E) _ h) (fun _ _ x => x) fun _ _ x => x
  · exact fun _ _ x => x.elim
section
variable {prog : Program} {w : World} {A : Around} {E : Value → Shared → Prop} {s : Shared} {h₀ : Heap} {L a b : Addr} {m : Str → Option Value} {news news' : List (Addr × Obj)} {its : Array Value} {n : Nat} {v : Value} {expr : Bool} {Q : Value → Shared → Prop}
theorem getAttr_append_N (F : Fr h₀ L s.heap m) (N : News h₀ L s.heap news) (hm : (a, ({ cls := .type "list", data := .seq its n } : Obj)) ∈ news)
    (h : ∀ q h' tk, Fr h₀ L h' m → News h₀ L h' ((q, boundObj "list.append" a) :: news) → (∀ p ∈ news, p.1 < q) → Q (.ref q) { s with heap := h', toks := tk }) : wpAny (model prog w) A (getAttr (.ref a) "append" expr) Q E s :=
  getAttr_append (N _ hm).1 fun tk => h s.heap.objs.size _ tk (F.push _) (N.push F _) fun p hp => Heap.lt_size (N p hp).1
theorem meets_append : Meets (Builtin.«list.append» ⟨[.ref a, v], []⟩) (fun A R s => ∃ its n, s.heap.get? a = some { cls := .type "list", data := .seq its n } ∧ its.size ≤ sizeLine ∧
    ∀ h', Heap.SameBut a s.heap h' → h'.get? a = some { cls := .type "list", data := .seq (its.push v) (n + 1) } → R (.ok (.ret .none)) { s with heap := h' }) := by
  refine .of_wp fun prog w A R s h => ?_
  obtain ⟨its, n, ho, hsz, h⟩ := h
  show wpAny _ _ (updateSeq a (·.push v) >>= fun _ => ret .none) _ _ s
  refine wpAny_bind ?_
  refine wpAny_updateSeq ho rfl (wpAny_pure ⟨.none, rfl, h _ (Heap.SameBut.update ..) ?_⟩)
  rw [Heap.get?_update_self _ ho (by rw [mapSeq_push]; rfl), mapSeq_push]
end
end
section
open PySem PySem.Builtin PySem.Builtin.Str PyProof.Rows
section
variable {M : Model} {A : Around} {E : Value → Shared → Prop}
theorem wp_forIn_list {α σ : Type} {f : α → σ → Sem (ForInStep σ)} {Q : σ → Shared → Prop} (I : List α → σ → Shared → Prop) : ∀ (post pre : List α) (b : σ) (s : Shared),
    (∀ pre' a post' b s, pre ++ post = pre' ++ a :: post' → I pre' b s → wpAny M A (f a b) (fun r s' => ∃ b', r = .yield b' ∧ I (pre' ++ [a]) b' s') E s) →
    I pre b s → (∀ b s, I (pre ++ post) b s → Q b s) → wpAny M A (forIn post b f) Q E s
  | [], pre, b, s, _, h0, hq => by
    rw [List.forIn_nil]
    exact wpAny_pure (hq b s (by simpa using h0))
  | a :: post, pre, b, s, step, h0, hq => by
    rw [List.forIn_cons]
    refine wpAny_bind (wpAny_mono (step pre a post b s rfl h0) ?_ fun _ _ x => x)
    rintro r s' ⟨b', rfl, h1⟩
    refine wp_forIn_list I post (pre ++ [a]) b' s' (fun pre' a' post' b s e => step pre' a' post' b s (by rw [← e]; simp)) h1 fun b s h => hq b s (by simpa using h)
end
theorem tableLookup_wp {prog : Program} {w : World} {A : Around} {E : Value → Shared → Prop} {s : Shared} {l : Addr} {items : Array Value} {c : Nat} {y : Str} {tk : Tok} {Q : Mapped → Shared → Prop}
    (hl : s.heap.IsList l items) (hc : c < 1114112) (hx : items[c]? = some (.str y tk)) (h : Q (.text y) { s with toks := s.toks + 1 }) : wpAny (model prog w) A (tableLookup (.ref l) c) Q E s := by
  unfold tableLookup
  refine wpAny_bind (wpAny_attempt ?_)
  refine wpAny_bind (wpAny_mkInt ?_)
  refine wpAny_getItem_list (s := { s with toks := s.toks + 1 }) hl (by omega) (by omega) (by simpa using hx) ?_
  exact wpAny_pure h
def Table (items : Array Value) : Prop := ∀ c, isSign c = true → ∃ tk, items[c]? = some (.str ⟨(enc1 c).toArray⟩ tk)
structure TrInv (s₀ : Shared) (pre : List Nat) (σ : List Str × Nat × Bool × List (Nat × Option Nat) × Bool) (s : Shared) : Prop where
  st : ∃ tk, s = { s₀ with toks := tk }
  pieces : (σ.1.reverse.map fun p => p.cps.toList).flatten = encT pre
  total : σ.2.1 ≤ 3 * pre.length
  known : ∀ c a, List.lookup c σ.2.2.2.1 = some a → isPlain c = true ∧ a = some c
  drop : σ.2.2.2.2 = false
theorem enc1_length (c : Nat) : (enc1 c).length ≤ 3 := by unfold enc1; split <;> simp
theorem encT_one (pre : List Nat) (c : Nat) : encT (pre ++ [c]) = encT pre ++ enc1 c := by rw [encT_append]; simp [encT]
theorem TrInv.push {s₀ s : Shared} {pre : List Nat} {σ : List Str × Nat × Bool × List (Nat × Option Nat) × Bool} (I : TrInv s₀ pre σ s) {c : Nat} {tk : Tok} {fast : Bool} {known : List (Nat × Option Nat)} {p : Str} {n : Nat} (hp : p.cps.toList = enc1 c) (hn : n ≤ 3)
    (hk : ∀ c a, List.lookup c known = some a → isPlain c = true ∧ a = some c) : TrInv s₀ (pre ++ [c]) (p :: σ.1, σ.2.1 + n, fast, known, false) { s with toks := tk } := by
  obtain ⟨tk', rfl⟩ := I.st
  refine ⟨⟨tk, rfl⟩, ?_, ?_, hk, rfl⟩
  · show (((p :: σ.1).reverse.map fun p => p.cps.toList).flatten) = _
    rw [List.reverse_cons, List.map_append, List.flatten_append, I.pieces, encT_one]
    simp [hp]
  · have := I.total
    simp only [List.length_append, List.length_cons, List.length_nil]
    omega
theorem foldl_cps (ps : List Str) : ∀ acc : Array Nat, (ps.foldl (fun acc p => acc ++ p.cps) acc).toList = acc.toList ++ (ps.map fun p => p.cps.toList).flatten := by
  induction ps with
  | nil => intro acc; simp
  | cons p ps ih => intro acc; rw [List.foldl_cons, ih]; simp
theorem meets_translate {x : Str} {t : Tok} {l : Addr} {items : Array Value} (hx : ∀ c ∈ x.cps.toList, isSign c = true) (hT : Table items) (hsz : 3 * x.cps.size ≤ sizeLine) :
    Meets (Builtin.«str.translate» ⟨[.str x t, .ref l], []⟩) (fun A R s => s.heap.IsList l items ∧ ∀ tk k, R (.ok (.ret (.str ⟨(encT x.cps.toList).toArray⟩ tk))) { s with toks := k }) := by
  refine .of_wp fun prog w A R s hs => ?_
  obtain ⟨hl, hR⟩ := hs
  unfold Builtin.«str.translate»
  refine wpAny_bind ?_
  refine wpAny_bind (wpAny_pure ?_)
  refine wpAny_bind (wpAny_bind (wpAny_pure ?_))
  refine wpAny_pure (wpAny_pure ?_)
  dsimp only
  by_cases he : x.length = 0
  · have e0 : x.cps.toList = [] := by
      have : x.cps.toList.length = 0 := by simpa [Str.length] using he
      exact List.eq_nil_of_length_eq_zero this
    rw [if_pos (by simpa using he)]
    refine wpAny_bind (wpAny_rule ?_)
    have hr : R (.ok (.ret (.str x t))) s := by
      have := hR t s.toks
      rw [e0] at this
      have ex : x = ⟨(encT []).toArray⟩ := by
        obtain ⟨⟨l⟩⟩ := x
        cases l with
        | nil => rfl
        | cons a b => cases e0
      rw [← ex] at this
      exact this
    exact wpAny_bind (wpAny_pure (wpAny_pure ⟨_, rfl, hr⟩))
  · rw [if_neg (by simpa using he)]
    refine wpAny_bind ?_
    rw [← Array.forIn_toList]
    refine wp_forIn_list (fun pre σ s' => TrInv s pre σ s') x.cps.toList [] _ s ?_ ⟨⟨s.toks, rfl⟩, rfl, by simp, fun c a h => by simp at h, rfl⟩ ?_
    · rintro pre c post ⟨pieces, total, fast, known, drop⟩ s' hsplit I
      have hcm : c ∈ x.cps.toList := by rw [← List.nil_append x.cps.toList, hsplit]; simp
      have hc := hx c hcm
      have hlen : pre.length + 1 ≤ x.cps.size := by
        have := congrArg List.length hsplit
        simp at this
        omega
      obtain ⟨tkc, htab⟩ := hT c hc
      have hc256 : c < 256 := by simp only [isSign, Bool.and_eq_true, decide_eq_true_eq] at hc; exact hc.1.1
      obtain ⟨tk', rfl⟩ := I.st
      have hdrop : drop = false := I.drop
      subst hdrop
      have htot : tooLong total = false := by
        have := I.total
        simp only [tooLong, decide_eq_false_iff_not]
        dsimp only at this
        omega
      have look : ∀ {Q : Mapped → Shared → Prop} {E' : Value → Shared → Prop} {k : Nat}, Q (.text ⟨(enc1 c).toArray⟩) { s with toks := k + 1 } → wpAny (model prog w) A.in1 (tableLookup (.ref l) c) Q E' { s with toks := k } := fun h => tableLookup_wp hl (by omega) htab h
      dsimp only
      rw [if_neg (by simp [htot])]
      have slow : ∀ (k : Nat) (known' : List (Nat × Option Nat)) (hk : ∀ c a, List.lookup c known' = some a → isPlain c = true ∧ a = some c),
          wpAny (model prog w) A.in1 (do
            let m ← tableLookup (.ref l) c
            match m with
              | .keep => pure (ForInStep.yield (({ cps := #[c] } :: pieces : List Str), total + 1, false, known', false))
              | .drop => pure (ForInStep.yield (pieces, total, false, known', true))
              | .char d => pure (ForInStep.yield ({ cps := #[d] } :: pieces, total + 1, false, known', false))
              | .text t => pure (ForInStep.yield (t :: pieces, total + t.length, false, known', false)))
            (fun r s' => ∃ b', r = .yield b' ∧ TrInv s (pre ++ [c]) b' s') (fun e s' => R (.error e) s') { s with toks := k } := fun k known' hk => by
        refine wpAny_bind (look ?_)
        have hn : (⟨(enc1 c).toArray⟩ : Str).length ≤ 3 := by simpa [Str.length] using enc1_length c
        exact wpAny_pure ⟨_, rfl, I.push rfl hn hk⟩
      have hknown := I.known
      dsimp only at hknown
      cases fast with
      | false => exact slow _ _ hknown
      | true =>
        simp only [if_true]
        cases hlk : List.lookup c known with
        | some a =>
          obtain ⟨hp, rfl⟩ := hknown c a hlk
          refine wpAny_bind (wpAny_pure ?_)
          exact wpAny_pure ⟨_, rfl, I.push (n := 1) (by simp [enc1, hp]) (by omega) hknown⟩
        | none =>
          refine wpAny_bind (look ?_)
          by_cases hp : isPlain c = true
          · have hc128 : c < 128 := by
              simp only [isPlain, Bool.or_eq_true, Bool.and_eq_true, decide_eq_true_eq, beq_iff_eq] at hp
              omega
            have e1 : enc1 c = [c] := by simp [enc1, hp]
            have q : ((⟨(enc1 c).toArray⟩ : Str).length == 1 && ((enc1 c).toArray.all fun x => decide (x < 128))) = true := by simp [e1, Str.length, hc128]
            have q0 : (enc1 c).toArray[0]? = some c := by simp [e1]
            simp only [q, if_true, q0]
            refine wpAny_bind (wpAny_pure ?_)
            refine wpAny_pure ⟨_, rfl, I.push (n := 1) (by simp [enc1, hp]) (by omega) ?_⟩
            intro d a h
            by_cases hd : d = c
            · subst hd
              rw [List.lookup_cons_self] at h
              exact ⟨hp, (Option.some.inj h).symm⟩
            · rw [List.lookup_cons, show (d == c) = false from by simpa using hd] at h
              exact hknown d a h
          · have e1 : enc1 c = [61, hexd (c / 16), hexd (c % 16)] := by simp [enc1, hp]
            simp only [e1, Str.length, List.size_toArray, List.length_cons, List.length_nil, Nat.reduceAdd, Nat.reduceBEq, Bool.false_and, Bool.false_eq_true, if_false]
            refine wpAny_bind (wpAny_pure ?_)
            refine wpAny_bind (wpAny_rule ?_)
            exact slow _ _ hknown
    · rintro ⟨pieces, total, fast, known, drop⟩ s' I
      obtain ⟨tk', rfl⟩ := I.st
      have htot := I.total
      dsimp only at htot ⊢
      rw [if_neg (by simp only [tooLong, decide_eq_true_eq]; simp at htot; omega)]
      refine wpAny_bind (wpAny_mkStr ?_ ?_)
      · refine wpAny_pure ⟨_, rfl, ?_⟩
        have : (pieces.reverse.foldl (fun acc p => acc ++ p.cps) #[]) = (encT x.cps.toList).toArray := by
          apply Array.toList_inj.mp
          rw [foldl_cps]
          simpa using I.pieces
        rw [this]
        exact hR _ _
      · have : (pieces.reverse.foldl (fun acc p => acc ++ p.cps) #[]) = (encT x.cps.toList).toArray := by
          apply Array.toList_inj.mp
          rw [foldl_cps]
          simpa using I.pieces
        rw [this]
        have hle : ∀ u : Tx, (encT u).length ≤ 3 * u.length := by
          intro u
          induction u with
          | nil => simp [encT]
          | cons c u ih => rw [encT_cons, List.length_append, List.length_cons]; have := enc1_length c; omega
        have := hle x.cps.toList
        simp only [Str.length, List.size_toArray]
        simp at this
        omega
theorem call_translate {prog : Program} {w : World} {A : Around} {E : Value → Shared → Prop} {s : Shared} {x : Str} {t : Tok} {l : Addr} {items : Array Value} {Q : Value → Shared → Prop} (hl : s.heap.IsList l items) (hx : ∀ c ∈ x.cps.toList, isSign c = true) (hT : Table items) (hsz : 3 * x.cps.size ≤ sizeLine)
    (h : ∀ tk k, Q (.str ⟨(encT x.cps.toList).toArray⟩ tk) { s with toks := k }) : wpAny (model prog w) A (call (.builtin "str.translate") [.str x t, .ref l]) Q E s :=
  call_meets F.slot_str_translate (typeIs_str _ _ _) F.entry_str_translate (F.args_str_translate_2 _ _) (meets_translate hx hT hsz) ⟨hl, fun tk k => h tk k⟩
end
open PySem PySem.W PyProof.Rows PySem.Spec PySem.Calls
abbrev ClmP (w : World) (mean : ExcName → Option Value) (mg mb : Str → Option Value) (rm : Nat) (f : Addr) (news : List (Addr × Obj)) (vs : List Value) (R : Value → Heap → Prop) : Prop :=
  ∀ (dp un : Nat) (gd : Option (List Code)) (cn : Str) (cs : Scope) (a : Addr) (ccd : Value) (cl : List (Str × Addr)) (outer : List Env) (A₀ : Around) (base h₀ : Heap) (L : Addr) (m : Str → Option Value) (s : Shared) (Q E : Value → Shared → Prop),
    Below A₀ base outer h₀ → Fr h₀ L s.heap m → (KF w.params).In h₀ → News h₀ L s.heap news → Top viewQ (looseW viewQ looseN) mean mg mb h₀ → cs.kind = .function →
    dp + rm < recursionLimit → (∀ (v : Value) (h' : Heap) (tk' : Nat), R v h' → (∀ b o, s.heap.get? b = some o → h'.get? b = some o) → Q v { s with heap := h', toks := tk' }) →
      wpAny (model PySem.Challenge.rw_oy0446_01.row.prog w) (ktrTop dp un gd cn cs L a ccd cl outer) (call (.ref f) vs) Q E s
abbrev ClmM (w : World) (mean : ExcName → Option Value) (mg mb : Str → Option Value) (rm : Nat) (f : Addr) (news : List (Addr × Obj)) (mt : List Addr) (vs : List Value) (R : Value → Heap → Prop) : Prop :=
  ∀ (dp un : Nat) (gd : Option (List Code)) (cn : Str) (cs : Scope) (a : Addr) (ccd : Value) (cl : List (Str × Addr)) (outer : List Env) (A₀ : Around) (base h₀ : Heap) (L : Addr) (m : Str → Option Value) (s : Shared) (Q E : Value → Shared → Prop),
    Below A₀ base outer h₀ → Fr h₀ L s.heap m → (KF w.params).In h₀ → News h₀ L s.heap news → Top viewQ (looseW viewQ looseN) mean mg mb h₀ → cs.kind = .function →
    dp + rm < recursionLimit → (∀ (v : Value) (h' : Heap) (tk' : Nat), R v h' → (∀ b o, s.heap.get? b = some o → b ∉ mt → h'.get? b = some o) → Q v { s with heap := h', toks := tk' }) →
      wpAny (model PySem.Challenge.rw_oy0446_01.row.prog w) (ktrTop dp un gd cn cs L a ccd cl outer) (call (.ref f) vs) Q E s
abbrev ClmN (w : World) (mean : ExcName → Option Value) (mg mb : Str → Option Value) (rm : Nat) (f : Addr) (news : List (Addr × Obj)) (mt : List Addr) (vs : List Value) (R : Heap → Value → Heap → Prop) : Prop :=
  ∀ (dp un : Nat) (gd : Option (List Code)) (cn : Str) (cs : Scope) (a : Addr) (ccd : Value) (cl : List (Str × Addr)) (outer : List Env) (A₀ : Around) (base h₀ : Heap) (L : Addr) (m : Str → Option Value) (s : Shared) (Q E : Value → Shared → Prop),
    Below A₀ base outer h₀ → Fr h₀ L s.heap m → (KF w.params).In h₀ → News h₀ L s.heap news → Top viewQ (looseW viewQ looseN) mean mg mb h₀ → cs.kind = .function →
    dp + rm < recursionLimit → (∀ (v : Value) (h' : Heap) (tk' : Nat), R s.heap v h' → (∀ b o, s.heap.get? b = some o → b ∉ mt → h'.get? b = some o) → Q v { s with heap := h', toks := tk' }) →
      wpAny (model PySem.Challenge.rw_oy0446_01.row.prog w) (ktrTop dp un gd cn cs L a ccd cl outer) (call (.ref f) vs) Q E s
theorem Fr.but {h₀ h h' : Heap} {L : Addr} {m : Str → Option Value} {news : List (Addr × Obj)} {mt : List Addr} (F : Fr h₀ L h m) (N : News h₀ L h news) (hm : ∀ a ∈ mt, ∃ o, (a, o) ∈ news) (k : ∀ b o, h.get? b = some o → b ∉ mt → h'.get? b = some o) : Fr h₀ L h' m := by
  have nL : L ∉ mt := fun e => by obtain ⟨o, ho⟩ := hm L e; exact (N _ ho).2.1 rfl
  obtain ⟨oL, es, ep, hL, r⟩ := F.ns
  refine ⟨⟨oL, es, ep, k _ _ hL nL, r⟩, fun b o e => k b o (F.keep b o e) fun hb => ?_, F.above⟩
  obtain ⟨o', ho⟩ := hm b hb
  have := (N _ ho).2.2
  rw [e] at this; cases this
theorem use_P {w : World} {mean : ExcName → Option Value} {mg mb : Str → Option Value} {rm : Nat} {f : Addr} {nw news : List (Addr × Obj)} {vs : List Value} {R : Value → Heap → Prop} {A A₀ : Around} {cn : Str} {cs : Scope} {a L : Addr} {ccd : Value} {cl : List (Str × Addr)} {outer : List Env} {base h₀ : Heap} {m : Str → Option Value} {s : Shared} {Q E : Value → Shared → Prop}
    (C : ClmP w mean mg mb rm f nw vs R) (B : Below A₀ base outer h₀) (F : Fr h₀ L s.heap m) (X : (KF w.params).In h₀) (N : News h₀ L s.heap news) (T : Top viewQ (looseW viewQ looseN) mean mg mb h₀) (hs : ∀ p ∈ nw, p ∈ news) (hA : A.frames = some (envX cn cs L a ccd cl :: outer)) (hh : A.handled = none) (hk : cs.kind = .function)
    (hd : A.depth + rm < recursionLimit) (h : ∀ (v : Value) (h' : Heap) (tk' : Nat), R v h' → (∀ b o, s.heap.get? b = some o → h'.get? b = some o) → Fr h₀ L h' m → News h₀ L h' news → Q v { s with heap := h', toks := tk' }) :
    wpAny (model PySem.Challenge.rw_oy0446_01.row.prog w) A (call (.ref f) vs) Q E s := by
  have e : A = ktrTop A.depth A.units A.guards cn cs L a ccd cl outer := by
    obtain ⟨x1, x2, x3, x4, x5⟩ := A
    simp only at hA hh
    subst hA hh
    rfl
  rw [e]
  exact C _ _ _ _ _ _ _ _ _ _ _ _ _ _ s Q E B F X (fun p hp => N p (hs p hp)) T hk hd fun v h' tk' hR k => h v h' tk' hR k (F.keeps k) (N.grown k)
theorem use_M {w : World} {mean : ExcName → Option Value} {mg mb : Str → Option Value} {rm : Nat} {f : Addr} {nw news : List (Addr × Obj)} {mt : List Addr} {vs : List Value} {R : Value → Heap → Prop} {A A₀ : Around} {cn : Str} {cs : Scope} {a L : Addr} {ccd : Value} {cl : List (Str × Addr)} {outer : List Env} {base h₀ : Heap} {m : Str → Option Value} {s : Shared} {Q E : Value → Shared → Prop}
    (C : ClmM w mean mg mb rm f nw mt vs R) (B : Below A₀ base outer h₀) (F : Fr h₀ L s.heap m) (X : (KF w.params).In h₀) (N : News h₀ L s.heap news) (T : Top viewQ (looseW viewQ looseN) mean mg mb h₀) (hs : ∀ p ∈ nw, p ∈ news) (hA : A.frames = some (envX cn cs L a ccd cl :: outer)) (hh : A.handled = none) (hk : cs.kind = .function)
    (hd : A.depth + rm < recursionLimit) (hm : ∀ a ∈ mt, ∃ o, (a, o) ∈ news)
    (h : ∀ (v : Value) (h' : Heap) (tk' : Nat), R v h' → (∀ b o, s.heap.get? b = some o → b ∉ mt → h'.get? b = some o) → Fr h₀ L h' m → (∀ p ∈ news, p.1 ∉ mt → h'.get? p.1 = some p.2 ∧ p.1 ≠ L ∧ h₀.get? p.1 = none) → Q v { s with heap := h', toks := tk' }) :
    wpAny (model PySem.Challenge.rw_oy0446_01.row.prog w) A (call (.ref f) vs) Q E s := by
  have e : A = ktrTop A.depth A.units A.guards cn cs L a ccd cl outer := by
    obtain ⟨x1, x2, x3, x4, x5⟩ := A
    simp only at hA hh
    subst hA hh
    rfl
  rw [e]
  exact C _ _ _ _ _ _ _ _ _ _ _ _ _ _ s Q E B F X (fun p hp => N p (hs p hp)) T hk hd fun v h' tk' hR k => h v h' tk' hR k (Fr.but F N hm k) fun p hp hn => ⟨k _ _ (N p hp).1 hn, (N p hp).2⟩
theorem keeps_end {s₂ g H' h₀ : Heap} {L L' : Addr} {m' : Str → Option Value} {news news' : List (Addr × Obj)} (G : GSub s₂ g (news.map (·.1))) (N : News h₀ L s₂ news) (F' : Fr g L' H' m') (N' : News g L' H' news') (hs : ∀ p ∈ news, p ∈ news') :
    ∀ b o, s₂.get? b = some o → H'.get? b = some o := elt_after (InElt.start _) G N F' N' hs
theorem keeps_mut {s₂ g H' h₀ : Heap} {L L' : Addr} {m' : Str → Option Value} {news news' : List (Addr × Obj)} {mt : List Addr} (G : GSub s₂ g (news.map (·.1))) (N : News h₀ L s₂ news) (F' : Fr g L' H' m') (N' : News g L' H' news') (hs : ∀ p ∈ news, p.1 ∉ mt → p ∈ news') :
    ∀ b o, s₂.get? b = some o → b ∉ mt → H'.get? b = some o := fun b o e hn => by
  by_cases hb : b ∈ news.map (·.1)
  · obtain ⟨p, hp, rfl⟩ := List.mem_map.mp hb
    have h1 := (N p hp).1
    rw [e] at h1
    cases h1
    exact (N' p (hs p hp hn)).1
  · exact F'.keep b o (G b o e hb)
abbrev ClmQ (w : World) (mean : ExcName → Option Value) (mg mb : Str → Option Value) (rm : Nat) (f : Addr) (vs : List Value) (R : Value → Heap → Prop) : Prop :=
  ∀ (A : Around) (s : Shared) (Q E : Value → Shared → Prop), A.handled = none → A.depth + rm < recursionLimit → (KF w.params).In s.heap → Top viewQ (looseW viewQ looseN) mean mg mb s.heap →
    (∀ (v : Value) (h' : Heap) (tk' : Nat), R v h' → (∀ b o, s.heap.get? b = some o → h'.get? b = some o) → Q v { s with heap := h', toks := tk' }) →
      wpAny (model PySem.Challenge.rw_oy0446_01.row.prog w) A (call (.ref f) vs) Q E s
theorem enter_free {prog : Program} {w : World} {A : Around} {s : Shared} {K : Frag} {mg mb : Str → Option Value} {p : Program} {loose : List Str} {mean : ExcName → Option Value} {R : Result → Shared → Prop} {name qual : Str} {params : Arguments} {body : List Stmt} {scope : Scope} {dV kV doc pm cdv ct oc : Value} {an od : Option Addr} {osl : Array (Option Value)} {f : Addr} {args : Args} {binds : List (Str × Value)}
    (X₀ : K.In s.heap) (T : Top p loose mean mg mb s.heap) (ho : K.lookup f = some ⟨oc, od, .func (PySem.W.fnOf name qual params body scope dV kV doc pm an cdv ct), osl⟩) (hcd : codeIn K cdv qual = true) (hroom : A.depth < recursionLimit)
    (hbind : BindsTo s (PySem.W.fnOf name qual params body scope dV kV doc pm an cdv ct) args binds) (hloc : ∀ y ∈ binds, scope.names.lookup y.1 = some .local)
    (h : ∀ L' h₁, Fr s.heap L' h₁ (fun y => binds.reverse.lookup y) → News s.heap L' h₁ [] →
      wpAny (model prog w) (A.deeper (envOf qual scope L' f cdv)) (execs body (envOf qual scope L' f cdv))
        (fun fl s' => R (.ok (.ret (match fl with | .ret v => v | _ => .none))) s')
        (fun e s' => wpAny (model prog w) (A.deeper (envOf qual scope L' f cdv)) (leaving (envOf qual scope L' f cdv) e) (fun _ s'' => R (.error e) s'') (fun e' s'' => R (.error e') s'') s')
        { s with heap := h₁, toks := s.toks + binds.length })
    (hco : scope.isCoroutine = false) (hgen : scope.isGenerator = false) (hk : scope.kind = .function)
    (hcell : ∀ x ∈ scope.names, x.2 ≠ .cell) : codeAny (model prog w) A (.call (.ref f) args) R s :=
  codeAny_call_def (fd := fnX name qual params body scope [] dV kV doc pm an cdv ct) (body := body) (binds := binds) hroom (X₀ _ _ ho) rfl T.nolimit (codeRec_of X₀ hcd) rfl hbind hcell hloc (fun h₁ hns hk₁ => h _ h₁ ⟨hns, hk₁, Nat.le_refl _⟩ News.nil) hco hgen hk
theorem use_Q {w : World} {mean : ExcName → Option Value} {mg mb : Str → Option Value} {rm : Nat} {f : Addr} {news : List (Addr × Obj)} {vs : List Value} {R : Value → Heap → Prop} {A : Around} {L : Addr} {h₀ : Heap} {m : Str → Option Value} {s : Shared} {Q E : Value → Shared → Prop}
    (C : ClmQ w mean mg mb rm f vs R) (F : Fr h₀ L s.heap m) (X : (KF w.params).In h₀) (N : News h₀ L s.heap news) (T : Top viewQ (looseW viewQ looseN) mean mg mb h₀) (hh : A.handled = none)
    (hd : A.depth + rm < recursionLimit) (h : ∀ (v : Value) (h' : Heap) (tk' : Nat), R v h' → (∀ b o, s.heap.get? b = some o → h'.get? b = some o) → Fr h₀ L h' m → News h₀ L h' news → Q v { s with heap := h', toks := tk' }) :
    wpAny (model PySem.Challenge.rw_oy0446_01.row.prog w) A (call (.ref f) vs) Q E s :=
  C A s Q E hh hd (X.keeps F.keep) (T.keeps F.keep) fun v h' tk' hR k => h v h' tk' hR k (F.keeps k) (N.grown k)
open PySem PySem.W PyProof.Rows PySem.Spec PySem.Calls
theorem execs_one {M : Model} {A : Around} {st : Stmt} {env : Env} {Q : Flow → Shared → Prop} {E : Value → Shared → Prop} {s : Shared} (h : wpAny M A (exec st env) Q E s) : wpAny M A (execs [st] env) Q E s :=
  wpAny_execs_cons (wpAny_mono h (fun f s' h => by cases f <;> first | exact wpAny_execs_nil h | exact h) fun _ _ h => h)
local macro_rules | `(tactic| k_room) => `(tactic| ktr_room)
local macro_rules | `(tactic| walk_at $s:str) => `(tactic| k_extra $s)
section
open PySem PySem.W PyProof.Rows PySem.Spec PySem.Calls PySem.NumText
section
variable {prog : Program} {w : World} {A : Around} {E : Value → Shared → Prop} {s : Shared} {value slice : PySem.Expr} {l : Addr} {vs : Array Value} {k : Int} {u : Tok} {v : Value} {Q : Value → Shared → Prop}
theorem item_of_list (hl : s.heap.IsList l vs) (h0 : 0 ≤ k) (hhi : k < 2 ^ 63) (hx : vs[k.toNat]? = some v) (h : Q v s)
    (hs : subscripted slice false (.ref l) (.int k u) = operate [.ref l, .int k u] (getItem (.ref l) (.int k u)) := by with_unfolding_all rfl) :
    wpAny (model prog w) A (subscriptTail value slice (.ref l) (.int k u)) Q E s :=
  tail_any hl.typeIs F.slot_list_getitem.lookup (wpAny_getItem_list hl h0 hhi hx h) hs
end
theorem wp_text16 {M : Model} {A : Around} {E : Value → Shared → Prop} {s : Shared} {Q : Value → Shared → Prop} {v : Value} {text : List Nat} {n : Int}
    (hs : (text.takeWhile (· != 0)).length ≤ 640) (hr : (int_private% "readNumeral") 0 16 (text.takeWhile (· != 0)) = (int_private% "Numeral.value") n)
    (ha : ((text.takeWhile (· != 0)).length == text.length) = true) (h : Q (.int n s.toks) { s with toks := s.toks + 1 }) :
    wpAny M A ((int_private% "intFromText") v text 16) Q E s := by
  obtain ⟨hp, g, d, tk, os⟩ := s
  repeat (any_goals (first
    | assumption
    | (with_reducible refine wpAny_ite_true (decide_eq_true hs) ?_)
    | (with_reducible refine wpAny_ite_true (decide_eq_true ha) ?_)
    | wp_step))
  all_goals (try rw [hr])
  all_goals (try dsimp only)
  repeat (any_goals (first
    | assumption
    | (with_reducible refine wpAny_ite_true (decide_eq_true hs) ?_)
    | (with_reducible refine wpAny_ite_true (decide_eq_true ha) ?_)
    | wp_step))
structure Hid (p : Prop) : Prop where
  out : p
set_option maxHeartbeats 4000000 in
theorem gives_text16 {x : PySem.Str} {u k : Tok} {n : Int} (hs : (numSeenOf x).length ≤ 640) (hr : (int_private% "readNumeral") 0 16 (numSeenOf x) = (int_private% "Numeral.value") n ∧ ((numSeenOf x).length == (numTextOf x).length) = true) :
    Gives (Builtin.«int.__new__» ⟨[.type "int", .str x u, .int 16 k], []⟩) (.int n) :=
  .of_wp fun M A E s Q h => by
    obtain ⟨hp, g, d, tk, os⟩ := s
    have f1 := F.conv_sub_int
    have f2 := F.madeHere_int
    have f3 := KIN.str_int
    have f4 := KIN.str_idx
    have f5 := KIN.str_trunc
    have f6 : typeOf (.str x u) = pure (.type "str") := rfl
    have hk := Hid.mk (And.intro hs hr)
    clear hs hr
    repeat (any_goals (first
      | assumption
      | ((with_reducible show wpAny _ _ ((int_private% "intFromText") _ _ _) _ _ _); refine wp_text16 hk.out.1 hk.out.2.1 hk.out.2.2 ?_)
      | wp_step))
    all_goals first | exact ⟨_, rfl, h⟩ | skip
theorem typeCall_int_2 (a b : Value) : checkTypeCall "int" ⟨[a, b], []⟩ = pure () := by kernel_rfl
theorem newCall_int_2 (a b : Value) : checkBuiltinCall "int.__new__" ⟨[.type "int", a, b], []⟩ = pure () := by kernel_rfl
theorem args_object_init_3 (a b c : Value) : argsOk "object.__init__" ⟨[a, b, c], []⟩ := by
  unfold argsOk; rw [signature?_of (id := "object.__init__") (n := ['_', '_', 't', 'i', 'n', 'i', '_', '_']) (o := ['t', 'c', 'e', 'j', 'b', 'o']) (by kernel_rfl) F.owner_object]; kernel_rfl
theorem hexd_facts : ∀ n, n < 16 → blank (hexd n) = false ∧ hexd n ≠ 45 ∧ hexd n ≠ 43 ∧ hexd n ≠ 120 ∧ hexd n ≠ 88 := by decide
theorem digits16 : ∀ c, c < 256 → digits? 16 [hexd (c / 16), hexd (c % 16)] = some #[c / 16, c % 16] := by decide +kernel
theorem read16 (c : Nat) (hc : c < 256) : ((int_private% "readNumeral") 0 16 [hexd (c / 16), hexd (c % 16)] = (int_private% "Numeral.value") c) := by
  have h1 := hexd_facts (c / 16) (by omega)
  have h2 := hexd_facts (c % 16) (by omega)
  refine (readNumeral_eq 0 16 _).trans ?_
  have e1 : ([hexd (c / 16), hexd (c % 16)]).dropWhile blank = [hexd (c / 16), hexd (c % 16)] := by rw [List.dropWhile_cons_of_neg (by simp [h1.1])]
  have e2 : sign [hexd (c / 16), hexd (c % 16)] = (false, [hexd (c / 16), hexd (c % 16)]) := by
    unfold sign
    split
    · rename_i h; injection h with h; exact absurd h h1.2.1
    · rename_i h; injection h with h; exact absurd h h1.2.2.1
    · rfl
  have e3 : based 16 [hexd (c / 16), hexd (c % 16)] = (16, false, [hexd (c / 16), hexd (c % 16)]) := by
    unfold based
    have : prefix? [hexd (c / 16), hexd (c % 16)] = none ∨ ∃ q, prefix? [hexd (c / 16), hexd (c % 16)] = some q ∧ q ≠ 16 := by
      unfold prefix?
      split
      · rename_i h
        injection h with _ h
        injection h with h _
        subst h
        rw [if_neg (by simp [h2.2.2.2.1, h2.2.2.2.2])]
        split
        · exact .inr ⟨8, rfl, by decide⟩
        · split
          · exact .inr ⟨2, rfl, by decide⟩
          · exact .inl rfl
      · exact .inl rfl
    rcases this with h | ⟨q, h, hq⟩
    · rw [h]; rfl
    · rw [h]
      dsimp only
      rw [if_neg (by simp; omega)]
  have e4 : ([hexd (c / 16), hexd (c % 16)].reverse.dropWhile blank).reverse = [hexd (c / 16), hexd (c % 16)] := by
    show ([hexd (c % 16), hexd (c / 16)].dropWhile blank).reverse = _
    rw [List.dropWhile_cons_of_neg (by simp [h2.1])]; rfl
  rw [e1, e2]
  dsimp only
  rw [e3]
  dsimp only
  rw [e4, digits16 c hc]
  unfold judge
  dsimp only
  rw [if_neg (by simp), if_neg (by simp), if_neg (by simp)]
  congr 1
  simp
  omega
theorem hex_ascii : ∀ n, n < 16 → hexd n < 128 ∧ hexd n ≠ 0 := by decide
theorem seen16 {c : Nat} (hc : c < 256) : numTextOf ⟨#[hexd (c / 16), hexd (c % 16)]⟩ = [hexd (c / 16), hexd (c % 16)] ∧ numSeenOf ⟨#[hexd (c / 16), hexd (c % 16)]⟩ = [hexd (c / 16), hexd (c % 16)] := by
  have h1 := hex_ascii (c / 16) (by omega)
  have h2 := hex_ascii (c % 16) (by omega)
  have e : numTextOf ⟨#[hexd (c / 16), hexd (c % 16)]⟩ = [hexd (c / 16), hexd (c % 16)] := by
    unfold numTextOf
    rw [if_pos (by simp [h1.1, h2.1])]
  refine ⟨e, ?_⟩
  unfold numSeenOf
  rw [e]
  simp [h1.2, h2.2]
section
variable {prog : Program} {w : World} {A : Around} {E : Value → Shared → Prop} {s : Shared} {x : PySem.Str} {t k : Tok} {Q : Value → Shared → Prop}
theorem call_int16 {c : Nat} (hc : c < 256) (hx : x = ⟨#[hexd (c / 16), hexd (c % 16)]⟩) (h : Q (.int c s.toks) { s with toks := s.toks + 1 }) : wpAny (model prog w) A (call (.type "int") [.str x t, .int 16 k]) Q E s := by
  subst hx
  refine callType_new F.called_int F.newNe_int (typeCall_int_2 _ _) (newCall_int_2 _ _) (fun obj => F.args_object_init_3 obj _ _) F.entry_int_new (gives_text16 (n := c) ?_ ?_).meets (show (Made.int c).post _ s from ⟨rfl, h⟩)
  · rw [(seen16 hc).2]; simp
  · rw [(seen16 hc).2, (seen16 hc).1]; exact ⟨read16 c hc, by simp⟩
end
end
section
open PySem PySem.W PyProof.Rows PySem.Spec PySem.Calls PySem.Builtin PySem.Builtin.Re
section
variable {M : Model} {A : Around} {E : Value → Shared → Prop} {s : Shared}
theorem wp_says (l : List Nat) (p : Nat → Bool) (f : Nat → String) {Q : PUnit → Shared → Prop} (h : Q ⟨⟩ s) :
    wpAny M A (forIn l PUnit.unit fun i _ => if p i = true then (do
                                                rule (f i)
                                                pure (ForInStep.yield PUnit.unit)) else pure (ForInStep.yield PUnit.unit)) Q E s := by
  refine wp_forIn_list (fun _ _ s' => s' = s) l [] _ s ?_ rfl fun _ s' e => by subst e; exact h
  rintro pre' a post' b s' _ rfl
  by_cases hp : p a = true
  · rw [if_pos hp]
    exact wpAny_bind (wpAny_rule (wpAny_pure ⟨_, rfl, rfl⟩))
  · rw [if_neg hp]
    exact wpAny_pure ⟨_, rfl, rfl⟩
theorem drive_eq (n : Nat) (m : Sre.M) : reDrive (n + 1) m = if (m.runFor 4).outcome.isSome = true then pure (m.runFor 4) else (rule "sre.turn" >>= fun _ => reDrive n (m.runFor 4)) := rfl
theorem wp_runs {m : Sre.M} {Q : Option Sre.M → Shared → Prop} (hf : (m.runFor 4).outcome = some .failed ∧ Q none s ∨ (m.runFor 4).outcome = some .matched ∧ Q (some (m.runFor 4)) s) : wpAny M A (reRunToEnd m) Q E s := by
  unfold reRunToEnd
  refine wpAny_bind ?_
  rw [show 2 ^ 64 = (2 ^ 64 - 1) + 1 from rfl, drive_eq]
  have h : (m.runFor 4).outcome.isSome = true := by rcases hf with ⟨h, _⟩ | ⟨h, _⟩ <;> rw [h] <;> rfl
  rw [if_pos h]
  refine wpAny_pure ?_
  refine wpAny_bind (wp_says _ _ _ ?_)
  rcases hf with ⟨h, q⟩ | ⟨h, q⟩
  · rw [h]; exact wpAny_pure q
  · rw [h]; exact wpAny_pure q
end
noncomputable def codeOf (o : Obj) : Array Nat := match o.data with | .seq xs _ => (xs.map reRawOf).map fun (i : Int) => i.toNat | _ => #[]
theorem raw_items (P : Params) : codeOf (k_99 P) = reCode := by kernel_rfl
section
variable {M : Model} {A : Around} {E : Value → Shared → Prop} {s : Shared} {x : PySem.Str} {Q : Option Sre.M → Shared → Prop} {m : Sre.M}
theorem wp_search_no (hm : m = Sre.forSearch reCode x.cps 0 0 x.cps.size false) (h1 : 1 ≤ x.cps.size) (hx : ∀ c ∈ x.cps, isSafe c = true) (h : Q none s) : wpAny M A (reRunToEnd m) Q E s := by
  subst hm
  exact wp_runs (.inl ⟨search_safe hx h1, h⟩)
theorem wp_search_yes (hm : m = Sre.forSearch reCode x.cps 0 0 x.cps.size false) (hx : ∃ c ∈ x.cps, isSafe c = false) (h : ∀ m', Q (some m') s) : wpAny M A (reRunToEnd m) Q E s := by
  subst hm
  obtain ⟨c, hc, hs⟩ := hx
  exact wp_runs (.inr ⟨search_unsafe hc hs, h _⟩)
end
theorem obj100 {P : Params} {h : Heap} (X : (KF P).In h) : h.get? 100 = some (k_100 P) := X 100 (k_100 P) (by kernel_rfl)
theorem obj99 {P : Params} {h : Heap} (X : (KF P).In h) : h.get? 99 = some (k_99 P) := X 99 (k_99 P) (by kernel_rfl)
theorem min_big {n : Nat} (h : n ≤ 10000000) : (fun (i : Int) => Min.min i.toNat n) (2 ^ 63 - 1) = n := by
  show Min.min ((2 : Int) ^ 63 - 1).toNat n = n
  have : ((2 : Int) ^ 63 - 1).toNat = 9223372036854775807 := by decide
  rw [this]
  omega
theorem wp_search {M : Model} {A : Around} {E : Value → Shared → Prop} {s : Shared} {x : PySem.Str} {Q : Option Sre.M → Shared → Prop} {m : Sre.M} (hm : m = Sre.forSearch reCode x.cps 0 0 x.cps.size false) (h1 : 1 ≤ x.cps.size) (h : (∀ c ∈ x.cps, isSafe c = true) → Q none s)
    (h' : (∃ c ∈ x.cps, isSafe c = false) → ∀ m', Q (some m') s) : wpAny M A (reRunToEnd m) Q E s := by
  by_cases hx : ∀ c ∈ x.cps, isSafe c = true
  · exact wp_search_no hm h1 hx (h hx)
  · have hx' : ∃ c ∈ x.cps, isSafe c = false := by
      simp only [Classical.not_forall] at hx
      obtain ⟨c, hc, hn⟩ := hx
      exact ⟨c, hc, Bool.eq_false_iff.mpr hn⟩
    exact wp_search_yes hm hx' (h' hx')
set_option maxHeartbeats 1000000 in
theorem meets_search {P : Params} {x : PySem.Str} {t : Tok} : Meets (Builtin.«re.Pattern.search» ⟨[.ref 100, .str x t], []⟩) (fun A R s => (KF P).In s.heap ∧ 1 ≤ x.cps.size ∧ x.cps.size ≤ 10000000 ∧
    ((∀ c ∈ x.cps, isSafe c = true) → R (.ok (.ret .none)) s) ∧ ((∃ c ∈ x.cps, isSafe c = false) → ∀ o1 o2, o1.isFreed = false → o2.isFreed = false → R (.ok (.ret (.ref (s.heap.objs.size + 1)))) { s with heap := (s.heap.push o1).push o2 })) := by
  refine .of_wp fun prog w A R s hs => ?_
  obtain ⟨hp, g, d, tk, os⟩ := s
  obtain ⟨X, h1, h2, hN, hY⟩ := hs
  have e1 := obj100 X
  have e2 := obj99 X
  have e3 := raw_items P
  have e4 := min_big h2
  unfold Builtin.«re.Pattern.search» reTarget
  repeat (any_goals (first | assumption | ((with_reducible show wpAny _ _ (reRunToEnd _) _ _ _); refine wp_search (x := x) ?k1 h1 (fun hx => ?_) (fun hx m' => ?_)) | wp_step))
  case k1 =>
    have e5 : Min.min (Int.toNat 0) x.cps.size = 0 := by simp
    have e6 : Sre.forSearch (codeOf (k_99 P)) x.cps 0 (Min.min (Int.toNat 0) x.cps.size) ((fun (i : Int) => Min.min i.toNat x.cps.size) (2 ^ 63 - 1)) false = Sre.forSearch reCode x.cps 0 0 x.cps.size false := by rw [e3, e4, e5]
    exact Eq.trans (by kernel_rfl) e6
  · exact ⟨_, rfl, hN hx⟩
  · refine ⟨_, rfl, ?_⟩
    have e7 : ∀ o, (hp.push o).objs.size = hp.objs.size + 1 := fun o => Heap.size_push ..
    rw [e7]
    exact hY hx _ _ rfl rfl
theorem entry_search : entryFor table "re.Pattern.search" = some Builtin.«re.Pattern.search» := entryFor_of_tree (by kernel_rfl)
theorem call_bound_search {prog : Program} {w : World} {A : Around} {E : Value → Shared → Prop} {s : Shared} {b l : Addr} {vs : Array Value} {v : Value} {S : PySem.Spec} {Q : Value → Shared → Prop}
    (hb : s.heap.get? b = some (boundObj "re.Pattern.search" l)) (hx : s.heap.get? l = some { cls := .type "re.Pattern", data := .fields vs })
    (g : Meets (Builtin.«re.Pattern.search» ⟨[.ref l, v], []⟩) S) (h : S A (wants Q E) s) : wpAny (model prog w) A (call (.ref b) [v]) Q E s := by
  refine wpAny_call (codeAny_of_tree ?_)
  obtain ⟨hp, gg, d, tk, os⟩ := s
  have hT : (⟨hp, gg, d, tk, os⟩ : Shared).TypeIs (.ref l) "re.Pattern" := ⟨_, hx, rfl⟩
  show wpAny _ A.in1 (callAny (.ref b) ⟨[v], []⟩) _ _ _
  unfold callAny
  refine wpAny_bind (wpAny_load hb ?_)
  show wpAny _ A.in1 (do checkBoundCall "re.Pattern.search" ⟨[.ref l, v], []⟩; again (.builtin "re.Pattern.search" ⟨[.ref l, v], []⟩)) _ _ _
  have hq : plainId "re.Pattern.search" = true := by decide +kernel
  refine wpAny_bind (wpAny_mono (Q := fun _ s₁ => s₁ = ⟨hp, gg, d, tk, os⟩) (E := fun _ _ => False) ?_ ?_ ?_)
  · have e1 : Manifest.signature? "re.Pattern.search" = some ⟨.keywords, "Pattern.search", "search", .self, [⟨"string", .posOrKw, true⟩, ⟨"pos", .posOrKw, false⟩, ⟨"endpos", .posOrKw, false⟩]⟩ := by kernel_rfl
    have e2 : builtinKind "re.Pattern.search" = some .method := by decide +kernel
    have e3 : Manifest.varargsMethods.contains "re.Pattern.search" = false := by decide +kernel
    have e4 : isSubtype (.type "re.Pattern") (.type "module") = pure false := by rw [isSubtype_type]; kernel_rfl
    have e5 : isSubtype (.type "re.Pattern") (.type "type") = pure false := by rw [isSubtype_type]; kernel_rfl
    unfold checkBoundCall
    rw [e1, e2]
    dsimp only
    rw [if_neg (by decide)]
    refine wpAny_bind (wpAny_isInstance hT e4 ?_)
    rw [e3]
    simp only [Bool.or_self, Bool.false_eq_true, if_false]
    refine wpAny_bind (wpAny_bind ?_)
    refine wpAny_bind (wpAny_load hx ?_)
    refine wpAny_pure (wpAny_pure ?_)
    rw [if_neg (fun h => nomatch h)]
    refine wpAny_bind (wpAny_typeOf hT ?_)
    exact wpAny_of_eq (a := ()) (by kernel_rfl) rfl
  · rintro _ s₁ rfl
    refine wpAny_pure (And.intro (plainId_quiet hq _) (codeAny_builtin entry_search ?_))
    rw [Around.under_plainId hq]
    exact wpAny_mono (g prog w A (wants Q E) _ h) (fun _ _ x => x) fun _ _ x => x
  · exact fun _ _ x => x.elim
theorem bound803 {P : Params} {h : Heap} (X : (KF P).In h) : h.get? 803 = some (boundObj "re.Pattern.search" 100) := X 803 (boundObj "re.Pattern.search" 100) (by kernel_rfl)
theorem obj100' {P : Params} {h : Heap} (X : (KF P).In h) : ∃ vs, h.get? 100 = some { cls := .type "re.Pattern", data := .fields vs } := ⟨_, X 100 (k_100 P) (by kernel_rfl)⟩
theorem push_two {h₀ h : Heap} {L : Addr} {m : Str → Option Value} {news : List (Addr × Obj)} (F : Fr h₀ L h m) (N : News h₀ L h news) (o1 o2 : Obj) : Fr h₀ L ((h.push o1).push o2) m ∧ News h₀ L ((h.push o1).push o2) news := by
  have F1 := F.push o1
  refine ⟨F1.push o2, fun p hp => ?_⟩
  exact ⟨Heap.get?_push_of_some _ (Heap.get?_push_of_some _ (N p hp).1), (N p hp).2⟩
theorem call_803 {prog : Program} {w : World} {A : Around} {E : Value → Shared → Prop} {s : Shared} {P : Params} {h₀ : Heap} {L : Addr} {m : Str → Option Value} {news : List (Addr × Obj)} {x : PySem.Str} {t : Tok} {Q : Value → Shared → Prop}
    (X : (KF P).In s.heap) (F : Fr h₀ L s.heap m) (N : News h₀ L s.heap news) (h1 : 1 ≤ x.length) (h2 : x.length ≤ 10000000)
    (hN : (∀ c ∈ x.cps, isSafe c = true) → Q .none s) (hY : (∃ c ∈ x.cps, isSafe c = false) → ∀ q h', Fr h₀ L h' m → News h₀ L h' news → Q (.ref q) { s with heap := h' }) : wpAny (model prog w) A (call (.ref 803) [.str x t]) Q E s := by
  obtain ⟨vs, e⟩ := obj100' X
  refine call_bound_search (bound803 X) e (meets_search (P := P)) ⟨X, h1, h2, fun hx => hN hx, fun hx o1 o2 _ _ => ?_⟩
  have := push_two F N o1 o2
  exact hY hx _ _ this.1 this.2
end
section
open PySem PySem.W PyProof.Rows PySem.Spec PySem.Calls
abbrev Clm (w : World) (mean : ExcName → Option Value) (mg mb : Str → Option Value) (f : Addr) (news : List (Addr × Obj)) (vs : List Value) (R : Tok → Value) : Prop :=
  CbClaim PySem.Challenge.rw_oy0446_01.row.prog w (KF w.params) viewQ (looseW viewQ looseN) mean mg mb f news [] True vs R
noncomputable def items76 : Array Value := match (k_76 (aWorld 1).params).data with | .seq xs _ => xs | _ => #[]
theorem in76 {P : Params} {h : Heap} (X : (KF P).In h) : h.IsList 76 items76 := ⟨_, X 76 (k_76 P) (by kernel_rfl), rfl, 0, by kernel_rfl⟩
theorem table76 : Table items76 := by
  have h : ∀ c, c < 256 → isSign c = true → (match items76[c]? with | some (.str y _) => decide (y = ⟨(enc1 c).toArray⟩) | _ => false) = true := by decide +kernel
  intro c hc
  have h256 : c < 256 := by simp only [isSign, Bool.and_eq_true, decide_eq_true_eq] at hc; exact hc.1.1
  have := h c h256 hc
  split at this
  · rename_i y tk e
    exact ⟨tk, by rw [e, of_decide_eq_true this]⟩
  · cases this
section
variable {prog : Program} {w : World} {A : Around} {E : Value → Shared → Prop} {s : Shared} {h₀ : Heap} {L b D : Addr} {m : Str → Option Value} {news news' : List (Addr × Obj)} {its : Array Value} {n : Nat} {x : Value} {Q : Value → Shared → Prop}
theorem call_bound_K (F : Fr h₀ L s.heap m) (N : News h₀ L s.heap news) (hb : (b, boundObj "list.append" D) ∈ news) (U : Upd D (listOf its n) (listOf (its.push x) (n + 1)) news news')
    (h : ∀ h', Fr h₀ L h' m → News h₀ L h' news' → Q .none { s with heap := h' }) (hsz : its.size ≤ sizeLine := by size_fits) : wpAny (model prog w) A (call (.ref b) [x]) Q E s := by
  obtain ⟨pre, post, rfl, rfl, a, c⟩ := U.split
  have z := N (D, listOf its n) (List.mem_append.mpr (.inr (.head _)))
  exact call_bound (N _ hb).1 z.1 meets_append ⟨its, n, z.1, hsz, fun h' hs ho' => h h' (F.change hs z.2.1 z.2.2) (news_set N a c hs ho')⟩
end
theorem linesGo_quiet : ∀ (l cur : List Nat), (∀ c ∈ l, Unicode.isLineBreak c = false) → linesGo cur l = if (cur ++ l).isEmpty then [] else [cur ++ l]
  | [], cur, _ => by simp [linesGo]
  | c :: l, cur, h => by
    rw [linesGo, h c (.head _), if_neg (by decide), linesGo_quiet l (cur ++ [c]) fun d hd => h d (.tail _ hd)]
    simp
theorem quiet_small : ∀ c, c < 128 → (isPlain c = true ∨ c = 61 ∨ (48 ≤ c ∧ c ≤ 70)) → Unicode.isLineBreak c = false := by decide +kernel
theorem encT_signs : ∀ (u : Tx), (∀ c ∈ u, isSign c = true) → ∀ d ∈ encT u, d < 128 ∧ (isPlain d = true ∨ d = 61 ∨ (48 ≤ d ∧ d ≤ 70))
  | [], _, d, hd => by simp [encT] at hd
  | c :: u, h, d, hd => by
    rw [encT_cons, List.mem_append] at hd
    rcases hd with hd | hd
    · have hs := h c (.head _)
      have h256 : c < 256 := by simp only [isSign, Bool.and_eq_true, decide_eq_true_eq] at hs; exact hs.1.1
      unfold enc1 at hd
      by_cases hp : isPlain c = true
      · rw [if_pos hp] at hd
        obtain rfl := List.mem_singleton.mp hd
        refine ⟨?_, .inl hp⟩
        simp only [isPlain, Bool.or_eq_true, Bool.and_eq_true, decide_eq_true_eq, beq_iff_eq] at hp
        omega
      · rw [if_neg hp] at hd
        have hx : ∀ n, n < 16 → hexd n < 128 ∧ 48 ≤ hexd n ∧ hexd n ≤ 70 := by decide
        simp only [List.mem_cons, List.not_mem_nil, or_false] at hd
        rcases hd with rfl | rfl | rfl
        · exact ⟨by omega, .inr (.inl rfl)⟩
        · have := hx (c / 16) (by omega); exact ⟨this.1, .inr (.inr this.2)⟩
        · have := hx (c % 16) (by omega); exact ⟨this.1, .inr (.inr this.2)⟩
    · exact encT_signs u (fun e he => h e (.tail _ he)) d hd
theorem lines_enc {u : Tx} (hu : ∀ c ∈ u, isSign c = true) (hne : u ≠ []) : Txt.lines ⟨(encT u).toArray⟩ = [⟨(encT u).toArray⟩] := by
  have hq : ∀ d ∈ encT u, Unicode.isLineBreak d = false := fun d hd => quiet_small d (encT_signs u hu d hd).1 (encT_signs u hu d hd).2
  have h13 : ∀ c ∈ (⟨(encT u).toArray⟩ : Str).cps.toList, c ≠ 13 := fun c hc e => by subst e; have := hq 13 (by simpa using hc); revert this; decide
  have h := lines_are ⟨(encT u).toArray⟩ h13
  have hcons : (encT u).isEmpty = false := by
    cases u with
    | nil => exact absurd rfl hne
    | cons c u => rw [encT_cons]; unfold enc1; split <;> rfl
  rw [show (⟨(encT u).toArray⟩ : Str).cps.toList = encT u from rfl, linesGo_quiet _ _ hq, List.nil_append, hcons] at h
  simp only [Bool.false_eq_true, if_false] at h
  cases hl : Txt.lines ⟨(encT u).toArray⟩ with
  | nil => rw [hl] at h; simp at h
  | cons a r =>
    rw [hl] at h
    cases r with
    | cons b r => simp at h
    | nil =>
      simp at h
      obtain ⟨⟨a⟩⟩ := a
      simp at h
      rw [h]
section
variable {prog : Program} {w : World} {A : Around} {E : Value → Shared → Prop} {s : Shared} {h₀ : Heap} {L : Addr} {m : Str → Option Value} {news : List (Addr × Obj)} {u : Tx} {t : Tok} {Q : Value → Shared → Prop}
theorem splitlines_one (F : Fr h₀ L s.heap m) (N : News h₀ L s.heap news) (hu : ∀ c ∈ u, isSign c = true) (hne : u ≠ []) (hsz : (⟨(encT u).toArray⟩ : Str).length + 1 ≤ sizeLine)
    (h : ∀ q tk h' k, Fr h₀ L h' m → News h₀ L h' ((q, listOf #[.str ⟨(encT u).toArray⟩ tk] 0) :: news) → (∀ p ∈ news, p.1 < q) → Q (.ref q) { s with heap := h', toks := k }) :
    wpAny (model prog w) A (call (.builtin "str.splitlines") [.str ⟨(encT u).toArray⟩ t]) Q E s := by
  refine splitlinesN F N (fun l h' k e F' N' => ?_) (by omega) (Nat.le_trans (lineCuts_le _) hsz)
  rw [lines_enc hu hne] at e
  cases l with
  | nil => cases e
  | cons a l =>
    cases l with
    | cons b l => simp at e
    | nil =>
      obtain ⟨y, tk⟩ := a
      simp only [List.map_cons, List.map_nil, List.cons.injEq, and_true] at e
      subst e
      exact h _ tk h' k F' N' fun p hp => Heap.lt_size (N p hp).1
end
theorem call_translate_u {prog : Program} {w : World} {A : Around} {E : Value → Shared → Prop} {s : Shared} {u : Tx} {t : Tok} {Q : Value → Shared → Prop} {P : Params} (X : (KF P).In s.heap) (hx : ∀ c ∈ u, isSign c = true) (hsz : 3 * u.length ≤ 10000000)
    (h : ∀ tk k, Q (.str ⟨(encT u).toArray⟩ tk) { s with toks := k }) : wpAny (model prog w) A (call (.builtin "str.translate") [.str ⟨u.toArray⟩ t, .ref 76]) Q E s :=
  call_translate (in76 X) hx table76 (by simp; have : sizeLine = 16777216 := by decide
                                         omega) h
end
section
open PySem PySem.W PyProof.Rows PySem.Spec PySem.Calls
section
variable {M : Model} {A : Around} {E : Value → Shared → Prop} {s : Shared} {h₀ : Heap} {L : Addr} {news : List (Addr × Obj)} {id : String} {l : Addr}
def BoundAt (id : String) (l : Addr) (x : Addr) (h : Heap) : Prop := h.get? x = some (boundObj id l)
theorem bound_fields {pos : Pos} {u : Addr} {first : List Value} {args : List (Bool × Sem Value)} {Q : Value → Shared → Prop} (hplain : args.any (·.1) = false)
    (h : wpAny M A (evalArgs (.ref u) true args []) (fun x s₁ => BoundAt id l u s₁.heap ∧ wpAny M A (call (.ref u) (first ++ x.pos) x.kw) Q E s₁) E s) : wpAny M A (callWith pos (.ref u) first args []) Q E s := by
  unfold callWith
  refine wpAny_bind (wpAny_holding (wpAny_mono h (fun x s₁ h₁ => wpAny_bind (wpAny_standAt ?_)) fun _ _ x => x))
  obtain ⟨ho, hcall⟩ := h₁
  simp only [hplain, List.any_nil, Bool.or_false]
  refine wpAny_bind (m := keeperOf (.ref u)) ?_
  unfold keeperOf
  refine wpAny_bind (wpAny_load ho ?_)
  simp only [show (Value.type "builtin_function_or_method" != Value.type "method") = true by decide, show (Value.type "builtin_function_or_method" == Value.type "builtin_function_or_method" || Value.type "builtin_function_or_method" == Value.type "method-wrapper") = true by decide, if_true]
  refine wpAny_pure ?_
  exact wpAny_bind (wpAny_mono hcall (fun r s₂ hr => wpAny_bind (wpAny_holding (wpAny_point (wpAny_pure hr)))) fun _ _ x => x)
theorem callWith_bo {pos : Pos} {u : Addr} {first : List Value} {env : Env} {e : Expr} {rest : List Expr} {Q : Value → Shared → Prop} (_N : News h₀ L s.heap news) (_hm : (u, boundObj id l) ∈ news)
    (h : wpAny M A (spliced (backTo pos (starEach (e :: rest) env))) (fun vs s₁ => BoundAt id l u s₁.heap ∧ wpAny M A (call (.ref u) (first ++ vs)) Q E s₁) E s)
    (he : starEach (e :: rest) env = (false, eval e env) :: starEach rest env := by rfl) (hplain : (backTo pos (starEach rest env)).any (·.1) = false := by rfl) :
    wpAny M A (callWith pos (.ref u) first (backTo pos (starEach (e :: rest) env)) []) Q E s := by
  rw [he] at h ⊢
  refine bound_fields (id := id) (l := l) (by show (false || (backTo pos (starEach rest env)).any (·.1)) = false; rw [hplain]; rfl) ?_
  exact evalArgs_plain h
end
end
section
open PySem PySem.W PyProof.Rows PySem.Spec PySem.Calls
def RowsInv (u : Tx) (e : Nat) (items : Array Value) (start : Nat) : Prop := ∃ ys, StrsAre items.toList ys ∧ RowsAre u e (ys.map (·.cps.toList)) start
theorem strs_snoc {y : Str} {t : Tok} {l : List Value} {ys : List Str} (h : StrsAre l ys) : StrsAre (l ++ [.str y t]) (ys ++ [y]) := by
  induction h with
  | nil => exact .cons _ _ .nil
  | cons z tz _ ih => exact .cons z tz ih
theorem Str_eq {x y : Str} (h : x.cps.toList = y.cps.toList) : x = y := by
  obtain ⟨⟨a⟩⟩ := x
  obtain ⟨⟨b⟩⟩ := y
  simp at h
  rw [h]
theorem RowsInv.more {u : Tx} {e : Nat} {items : Array Value} {start stop : Nat} {y : Str} {tk : Tok} (he : isEnd e = true) (hu : ∀ c ∈ u, isSign c = true) (h : RowsInv u e items start) (h1 : start + 4 ≤ stop) (h2 : stop ≤ (encT u).length)
    (hy : y.cps.toList = (((encT u).take (cutAt (encT u) stop)).drop start) ++ [61]) : start + 2 ≤ cutAt (encT u) stop ∧ RowsInv u e (items.push (.str y tk)) (cutAt (encT u) stop) := by
  obtain ⟨ys, hs, hr⟩ := h
  have := rows_more he hu hr h1 h2
  refine ⟨this.1, ys ++ [y], ?_, ?_⟩
  · rw [Array.toList_push]; exact strs_snoc hs
  · rw [List.map_append, List.map_cons, List.map_nil, hy]; exact this.2
theorem item_at {X : Tx} {i : Int} {k : Nat} (hk : i = (k : Int)) (hl : k < X.length) : (Txt.item ⟨X.toArray⟩ i == Str.ofString "=") = decide (X[k]? = some 61) := by
  have h : Txt.item ⟨X.toArray⟩ i = ⟨#[X[k]]⟩ := item_meets (by omega) (by subst hk; simp [List.getElem?_eq_getElem hl])
  have e : Str.ofString "=" = ⟨#[61]⟩ := by decide
  rw [h, e, List.getElem?_eq_getElem hl]
  by_cases hx : X[k] = 61
  · rw [hx]; simp
  · have : (⟨#[X[k]]⟩ : Str) ≠ ⟨#[61]⟩ := by intro hc; apply hx; simpa using hc
    rw [decide_eq_false (by simpa using hx)]
    exact beq_false_of_ne this
theorem slice_at {X : Tx} {i j : Int} {a b : Nat} (hi : i = (a : Int)) (hj : j = (b : Int)) (hab : a ≤ b) (hb : b ≤ X.length) : (Txt.slice ⟨X.toArray⟩ (some i) (some j)).cps.toList = (X.take b).drop a := by
  have h := eq_of_beq (slice_closes (x := ⟨X.toArray⟩) (i := i) (j := j) ⟨by omega, by omega, by show j ≤ (X.length : Int); omega⟩)
  rw [h]
  show (X.drop i.toNat).take (j - i).toNat = _
  have e1 : i.toNat = a := by omega
  have e2 : (j - i).toNat = b - a := by omega
  rw [e1, e2, List.drop_take]
theorem slice_from {X : Tx} {i : Int} {a : Nat} (hi : i = (a : Int)) (ha : a ≤ X.length) : (Txt.slice ⟨X.toArray⟩ (some i) none).cps.toList = X.drop a := by
  have h := slice_from_eq (x := ⟨X.toArray⟩) (i := i) (b := (X.length : Int)) (by omega) (by show i ≤ (X.length : Int); omega) rfl
  rw [h]
  show (X.drop i.toNat).take ((X.length : Int) - i).toNat = _
  have e1 : i.toNat = a := by omega
  rw [e1, List.take_of_length_le]
  simp; omega
theorem slice_butlast {X : Tx} {i : Int} {a : Nat} (hi : i = (a : Int)) (ha : a + 1 ≤ X.length) : (Txt.slice ⟨X.toArray⟩ (some i) (some (-1))).cps.toList = (X.take (X.length - 1)).drop a := by
  rw [← slice_at hi (j := (X.length : Int) - 1) (b := X.length - 1) (by omega) (by omega) (by omega)]
  have e : Builtin.Str.strSliceIndices (some i) (some (-1)) 1 X.length = Builtin.Str.strSliceIndices (some i) (some ((X.length : Int) - 1)) 1 X.length := by
    unfold Builtin.Str.strSliceIndices
    have h1 : ¬ ((X.length : Int) - 1 < 0) := by omega
    have h2 : (-1 : Int) + X.length = X.length - 1 := by omega
    simp only [h1, h2, if_false, show (-1 : Int) < 0 by decide, if_true]
  have hl : (⟨X.toArray⟩ : Str).length = X.length := by simp [Str.length]
  unfold Txt.slice
  rw [hl, e]
theorem item_last {X : Tx} {v : Tx} {c : Nat} (h : X = v ++ [c]) : Txt.item ⟨X.toArray⟩ (-1) = ⟨#[c]⟩ := by
  subst h
  have := item_last_right ⟨#[]⟩ v c
  rwa [show (⟨#[]⟩ ++ ⟨(v ++ [c]).toArray⟩ : Str) = ⟨(v ++ [c]).toArray⟩ from Str_eq (by simp [Str.cps_append])] at this
section
variable {u : Tx} {e start : Nat} {items : Array Value} {M v : Int} {tk : Tok} (he : isEnd e = true) (hu : ∀ c ∈ u, isSign c = true) (hM : 10 ≤ M) (hM2 : M ≤ 18) (hinv : RowsInv u e items start) (h : (start : Int) ≤ ((⟨(encT u).toArray⟩ : Str).length : Int) - 1 - M)
include he hu hM hM2 hinv h
theorem turn_a (h1 : (Txt.item ⟨(encT u).toArray⟩ (start + (M - 1) - 2) == Str.ofString "=") = true) :
    ∃ st : Nat, (start + (M - 1) - 2 : Int) = (st : Int) ∧ RowsInv u e (items.push (.str (Txt.slice ⟨(encT u).toArray⟩ (some (start : Int)) (some (start + (M - 1) - 1))) tk)) st ∧ st < (encT u).length ∧ start < st := by
  have hl : (⟨(encT u).toArray⟩ : Str).length = (encT u).length := by simp [Str.length]
  rw [hl] at h
  obtain ⟨stop, hs, hA, hB⟩ : ∃ stop : Nat, (start + (M - 1) : Int) = (stop : Int) ∧ start + 9 ≤ stop ∧ stop + 2 ≤ (encT u).length := ⟨(start + (M - 1)).toNat, by omega, by omega, by omega⟩
  rw [hs] at h1 ⊢
  clear hs h hM hM2 hl
  rw [item_at (k := stop - 2) (by omega) (by omega), decide_eq_true_eq] at h1
  have hc : cutAt (encT u) stop = stop - 2 := by unfold cutAt; rw [if_pos h1]
  have m := hinv.more (stop := stop) (y := Txt.slice ⟨(encT u).toArray⟩ (some (start : Int)) (some ((stop : Int) - 1))) (tk := tk) he hu (by omega) (by omega) (by
    rw [slice_at (a := start) (b := stop - 1) rfl (by omega) (by omega) (by omega), hc]
    have : stop - 1 = (stop - 2) + 1 := by omega
    rw [this, List.take_add_one, h1, List.drop_append_of_le_length (by simp; omega)]
    rfl)
  rw [hc] at m
  exact ⟨stop - 2, by omega, m.2, by omega, by omega⟩
theorem turn_b (h0 : (Txt.item ⟨(encT u).toArray⟩ (start + (M - 1) - 2) == Str.ofString "=") = false) (h1 : (Txt.item ⟨(encT u).toArray⟩ (start + (M - 1) - 1) == Str.ofString "=") = true) :
    ∃ st : Nat, (start + (M - 1) - 1 : Int) = (st : Int) ∧ RowsInv u e (items.push (.str (Txt.slice ⟨(encT u).toArray⟩ (some (start : Int)) (some (start + (M - 1)))) tk)) st ∧ st < (encT u).length ∧ start < st := by
  have hl : (⟨(encT u).toArray⟩ : Str).length = (encT u).length := by simp [Str.length]
  rw [hl] at h
  obtain ⟨stop, hs, hA, hB⟩ : ∃ stop : Nat, (start + (M - 1) : Int) = (stop : Int) ∧ start + 9 ≤ stop ∧ stop + 2 ≤ (encT u).length := ⟨(start + (M - 1)).toNat, by omega, by omega, by omega⟩
  rw [hs] at h0 h1 ⊢
  clear hs h hM hM2 hl
  rw [item_at (k := stop - 2) (by omega) (by omega), decide_eq_false_iff_not] at h0
  rw [item_at (k := stop - 1) (by omega) (by omega), decide_eq_true_eq] at h1
  have hc : cutAt (encT u) stop = stop - 1 := by unfold cutAt; rw [if_neg h0, if_pos h1]
  have m := hinv.more (stop := stop) (y := Txt.slice ⟨(encT u).toArray⟩ (some (start : Int)) (some (stop : Int))) (tk := tk) he hu (by omega) (by omega) (by
    rw [slice_at (a := start) (b := stop) rfl (by omega) (by omega) (by omega), hc]
    have : stop = (stop - 1) + 1 := by omega
    conv => lhs; rw [this]
    rw [List.take_add_one, h1, List.drop_append_of_le_length (by simp; omega)]
    rfl)
  rw [hc] at m
  exact ⟨stop - 1, by omega, m.2, by omega, by omega⟩
theorem turn_c (h0 : (Txt.item ⟨(encT u).toArray⟩ (start + (M - 1) - 2) == Str.ofString "=") = false) (h1 : (Txt.item ⟨(encT u).toArray⟩ (start + (M - 1) - 1) == Str.ofString "=") = false) :
    ∃ st : Nat, (start + (M - 1) : Int) = (st : Int) ∧ RowsInv u e (items.push (.str (Txt.slice ⟨(encT u).toArray⟩ (some (start : Int)) (some (start + (M - 1))) ++ Str.ofString "=") tk)) st ∧ st < (encT u).length ∧ start < st := by
  have hl : (⟨(encT u).toArray⟩ : Str).length = (encT u).length := by simp [Str.length]
  rw [hl] at h
  obtain ⟨stop, hs, hA, hB⟩ : ∃ stop : Nat, (start + (M - 1) : Int) = (stop : Int) ∧ start + 9 ≤ stop ∧ stop + 2 ≤ (encT u).length := ⟨(start + (M - 1)).toNat, by omega, by omega, by omega⟩
  rw [hs] at h0 h1 ⊢
  clear hs h hM hM2 hl
  rw [item_at (k := stop - 2) (by omega) (by omega), decide_eq_false_iff_not] at h0
  rw [item_at (k := stop - 1) (by omega) (by omega), decide_eq_false_iff_not] at h1
  have hc : cutAt (encT u) stop = stop := by unfold cutAt; rw [if_neg h0, if_neg h1]
  have m := hinv.more (stop := stop) (y := Txt.slice ⟨(encT u).toArray⟩ (some (start : Int)) (some (stop : Int)) ++ Str.ofString "=") (tk := tk) he hu (by omega) (by omega) (by
    rw [Str.cps_append, Array.toList_append, slice_at (a := start) (b := stop) rfl (by omega) (by omega) (by omega), hc]
    rfl)
  rw [hc] at m
  exact ⟨stop, rfl, m.2, by omega, by omega⟩
end
end
section
open PySem PySem.W PyProof.Rows PySem.Spec PySem.Calls
theorem callWith_803 {M : Model} {A : Around} {E : Value → Shared → Prop} {s : Shared} {pos : Pos} {first : List Value} {env : Env} {e : PySem.Expr} {rest : List PySem.Expr} {Q : Value → Shared → Prop}
    (h : wpAny M A (spliced (backTo pos (starEach (e :: rest) env))) (fun vs s₁ => BoundAt "re.Pattern.search" 100 803 s₁.heap ∧ wpAny M A (call (.ref 803) (first ++ vs)) Q E s₁) E s)
    (he : starEach (e :: rest) env = (false, eval e env) :: starEach rest env := by rfl) (hplain : (backTo pos (starEach rest env)).any (·.1) = false := by rfl) :
    wpAny M A (callWith pos (.ref 803) first (backTo pos (starEach (e :: rest) env)) []) Q E s := by
  rw [he] at h ⊢
  refine bound_fields (id := "re.Pattern.search") (l := 100) (by show (false || (backTo pos (starEach rest env)).any (·.1)) = false; rw [hplain]; rfl) ?_
  exact evalArgs_plain h
theorem escq_free : ∀ l : Tx, 39 ∉ l → escq l = l
  | [], _ => rfl
  | k :: r, h => by
    have h1 : (k == 39) = false := beq_eq_false_iff_ne.mpr fun e => h (e ▸ List.mem_cons_self ..)
    rw [escq, h1, escq_free r fun m => h (List.mem_cons_of_mem _ m)]
    rfl
theorem escq_join : ∀ parts : List Str, (∀ p ∈ parts, 39 ∉ p.cps.toList) → escq (Str.join ⟨#[39]⟩ parts).cps.toList = (Str.join ⟨#[39, 34, 39, 34, 39]⟩ parts).cps.toList
  | [], _ => rfl
  | [p], h => escq_free _ (h p (List.mem_singleton.mpr rfl))
  | p :: q :: r, h => by
    have ih := escq_join (q :: r) fun a ha => h a (List.mem_cons_of_mem _ ha)
    show escq (p ++ ⟨#[39]⟩ ++ Str.join ⟨#[39]⟩ (q :: r)).cps.toList = (p ++ ⟨#[39, 34, 39, 34, 39]⟩ ++ Str.join ⟨#[39, 34, 39, 34, 39]⟩ (q :: r)).cps.toList
    simp only [Str.cps_append, Array.toList_append]
    rw [escq_append, escq_append, ih, escq_free _ (h p (List.mem_cons_self ..))]
    rfl
theorem Str_eq' {x y : Str} (h : x.cps.toList = y.cps.toList) : x = y := by
  obtain ⟨⟨a⟩⟩ := x
  obtain ⟨⟨b⟩⟩ := y
  simp at h
  rw [h]
theorem replace_escq (x : Tx) : Txt.replace ⟨x.toArray⟩ (Str.ofString "'") (Str.ofString "'\"'\"'") = ⟨(escq x).toArray⟩ := by
  have e1 : Str.ofString "'" = ⟨#[39]⟩ := by decide
  have e2 : Str.ofString "'\"'\"'" = ⟨#[39, 34, 39, 34, 39]⟩ := by decide
  rw [e1, e2]
  refine Str_eq' ?_
  rw [StrLaws.replace_one, ← escq_join _ (StrLaws.split_free _ 39), StrLaws.join_split]
theorem escq_length (x : Tx) : (escq x).length ≤ 5 * x.length := by
  induction x with
  | nil => simp [escq]
  | cons c x ih =>
    rw [escq, List.length_append, List.length_cons]
    split <;> simp <;> omega
theorem quoteT_safe {x : Tx} (h0 : x ≠ []) (h : ∀ c ∈ (⟨x.toArray⟩ : Str).cps, isSafe c = true) : quoteT x = x := by
  unfold quoteT
  rw [if_neg (by simpa using h0), if_pos (by rw [List.all_eq_true]; intro c hc; exact h c (by simpa using hc))]
theorem quoteT_unsafe {x : Tx} (h : ∃ c ∈ (⟨x.toArray⟩ : Str).cps, isSafe c = false) : quoteT x = 39 :: (escq x ++ [39]) := by
  obtain ⟨c, hc, hs⟩ := h
  have hc : c ∈ x := by simpa using hc
  unfold quoteT
  rw [if_neg (by intro e; rw [List.isEmpty_iff] at e; subst e; cases hc), if_neg (by rw [List.all_eq_true]; intro h; rw [h c hc] at hs; cases hs)]
theorem quote_glued (x : Tx) : Str.ofString "'" ++ ⟨x.toArray⟩ ++ Str.ofString "'" = ⟨(39 :: (x ++ [39])).toArray⟩ := by
  have e1 : Str.ofString "'" = ⟨#[39]⟩ := by decide
  refine Str_eq' ?_
  rw [e1, Str.cps_append, Str.cps_append]
  simp
section
set_option maxHeartbeats 4000000 in
theorem sq_claim {w : World} {mean : ExcName → Option Value} {mg mb : Str → Option Value} (x : Tx) (t : Tok) (hl : x.length ≤ 1000000) :
    ClmQ w mean mg mb 3 810 [.str ⟨x.toArray⟩ t] (fun v _ => ∃ tk, v = .str ⟨(quoteT x).toArray⟩ tk) := by
  k_with_none
  k_with "callWith ref" => (k_here; (with_reducible show wpAny _ _ (callWith _ (Value.ref 803) _ _ _) _ _ _); (refine' callWith_803 ?_))
  k_with "And" => ((with_reducible show BoundAt _ _ 803 _ ∧ _); k_dflt (refine ⟨bound803 (P := World.params w) (by k_in), ?_⟩); (try dsimp only [List.nil_append, List.cons_append]))
  k_with "call ref" => (k_here; (with_reducible show wpAny _ _ (call (Value.ref 803) _) _ _ _); k_dflt (refine' call_803 (P := World.params w) ?k1 ?k2 ?k3 ?k4 ?k5 ?_ ?_; (case k1 => k_in); (case k2 => k_asm); (case k3 => k_asm); (case k4 => omega); (case k5 => omega); k_whole)) <;> (first | (intro hsafe q' h' F' N'; try k_fold) | (intro hsafe; try k_fold))
  k_with "binaryOp Add str str" => (k_here; (try rw [hrep]); k_dflt (refine' SBL.add ?_ ?hsz; (case hsz => omega); k_whole); intro t' k' hk')
  have hl2 : (⟨x.toArray⟩ : Str).length = x.length := by simp [Str.length]
  have hrep := replace_escq x
  have hel : (⟨(escq x).toArray⟩ : Str).length ≤ 5000000 := by have := escq_length x; simp [Str.length]; omega
  have hq1 : (Str.ofString "'").length = 1 := rfl
  have hsl : sizeLine = 16777216 := rfl
  dsimp only [ClmQ]
  k_fill
  intros
  rename_i hret
  have lk := lk_810 w.params
  dsimp only [fa_810, fb_810, fs_810] at lk
  refine wpAny_call ?_
  (refine' enter_free ?k3 ?k5 ?lk ?k7 ?k8 ?k9 ?kB ?_ ?c2 ?c3 ?c4 ?c5; (case k3 => assumption); (case k5 => assumption); (case lk => assumption); (case k7 => k_is); (case k8 => ktr_room); (case k9 => first | exact BindsTo.of_eq rfl | exact binds_K (by k_in) rfl (by k_is) rfl rfl rfl); (case c5 => decide); (case kB => exact locs rfl); (case c2 => exact rfl); (case c3 => exact rfl); (case c4 => exact rfl); k_whole; intro _ _ _ _; (try dsimp only); (try k_fold))
  clear lk
  k_steps
  · have h0 : x.length ≠ 0 := by omega
    have hx : x ≠ [] := fun e => h0 (by rw [e]; rfl)
    exact hret _ _ _ ⟨_, by rw [quoteT_safe hx hsafe]⟩ (Fr.keep (by k_asm))
  · exact hret _ _ _ ⟨_, by rw [quoteT_unsafe hsafe, quote_glued]⟩ (Fr.keep (by k_asm))
  · have hx : x = [] := List.length_eq_zero_iff.mp (by omega)
    exact hret _ _ _ ⟨_, by rw [hx]; rfl⟩ (Fr.keep (by k_asm))
end
end
section
open PySem PySem.W PyProof.Rows PySem.Spec PySem.Calls
noncomputable def items47 : Array Value := match (k_47 (aWorld 1).params).data with | .seq xs _ => xs | _ => #[]
theorem in47 {P : Params} {h : Heap} (X : (KF P).In h) : h.IsList 47 items47 := ⟨_, X 47 (k_47 P) (by kernel_rfl), rfl, 256, by kernel_rfl⟩
theorem items47_at {c : Nat} (hc : c < 256) : ∃ tk, items47[c]? = some (.str ⟨#[61, hexd (c / 16), hexd (c % 16)]⟩ tk) := by
  have h : ∀ c, c < 256 → (match items47[c]? with | some (Value.str y _) => decide (y = ⟨#[61, hexd (c / 16), hexd (c % 16)]⟩) | _ => false) = true := by decide +kernel
  have := h c hc
  split at this
  · rename_i y tk e
    exact ⟨tk, by rw [e, of_decide_eq_true this]⟩
  · cases this
theorem item47 {prog : Program} {w : World} {A : Around} {E : Value → Shared → Prop} {s : Shared} {value slice : PySem.Expr} {c : Nat} {u : Tok} {Q : Value → Shared → Prop} {P : Params} (X : (KF P).In s.heap) (hc : c < 256)
    (h : ∀ tk, Q (.str ⟨#[61, hexd (c / 16), hexd (c % 16)]⟩ tk) s)
    (hs : subscripted slice false (.ref 47) (.int c u) = operate [.ref 47, .int c u] (getItem (.ref 47) (.int c u)) := by with_unfolding_all rfl) : wpAny (model prog w) A (subscriptTail value slice (.ref 47) (.int c u)) Q E s := by
  obtain ⟨tk, e⟩ := items47_at hc
  exact item_of_list (in47 X) (by omega) (by omega) (by simpa using e) (h tk) hs
section
end
theorem unq_slice {a b c : Nat} : Txt.slice ⟨#[a, b, c]⟩ (some 1) (some 3) = ⟨#[b, c]⟩ := rfl
section
end
end
section
open PySem PySem.W PyProof.Rows PySem.Spec PySem.Calls
def SioDict (b : Tx) (p : Nat) (o : Obj) : Prop := ∃ (g1 g2 g3 : Int) (k1 k2 k3 t1 t2 t3 : Tok), o = dictOf [⟨g1, .str (Str.ofString "_StringIO__newline") k1, .str (Str.ofString "\n") t1⟩, ⟨g2, .str (Str.ofString "_StringIO__buf") k2, .str ⟨b.toArray⟩ t2⟩, ⟨g3, .str (Str.ofString "_StringIO__pos") k3, .int (p : Int) t3⟩] 3
theorem sio_mk {b : Tx} {p : Nat} {i : Int} {g1 g2 g3 : Int} {k1 k2 k3 t1 t2 t3 : Tok} (hi : i = (p : Int)) : SioDict b p (dictOf [⟨g1, .str (Str.ofString "_StringIO__newline") k1, .str (Str.ofString "\n") t1⟩, ⟨g2, .str (Str.ofString "_StringIO__buf") k2, .str ⟨b.toArray⟩ t2⟩, ⟨g3, .str (Str.ofString "_StringIO__pos") k3, .int i t3⟩] 3) := by subst hi; exact ⟨_, _, _, _, _, _, _, _, _, rfl⟩
theorem slice_sign {b : Tx} {p : Nat} {j : Int} {c : Nat} (hc : b[p]? = some c) (hj : j = (p : Int) + 1) : Txt.slice ⟨b.toArray⟩ (some (p : Int)) (some j) = ⟨#[c]⟩ := by
  obtain ⟨hl, hb⟩ := List.getElem?_eq_some_iff.mp hc
  have h := eq_of_beq (slice_closes (x := ⟨b.toArray⟩) (i := (p : Int)) (j := j) ⟨by omega, by omega, by show j ≤ (b.length : Int); omega⟩)
  rw [h]
  show (⟨((b.drop (p : Int).toNat).take (j - p).toNat).toArray⟩ : Str) = _
  have e1 : (p : Int).toNat = p := by omega
  have e2 : (j - p).toNat = 1 := by omega
  rw [e1, e2, List.drop_eq_getElem_cons hl, hb]
  rfl
section
set_option maxHeartbeats 4000000 in
theorem sioInit_claim {w : World} {mean : ExcName → Option Value} {mg mb : Str → Option Value} (x dx : Addr) (hdx : @LT.lt Nat _ dx x) (b : Tx) (t : Tok) (hl : b.length ≤ 1000000) :
    ClmM w mean mg mb 4 418 [(x, instObj 648 dx), (dx, dictOf [] 0)] [dx] [.ref x, .str ⟨b.toArray⟩ t] (fun v h' => v = .none ∧ ∃ o, h'.get? dx = some o ∧ SioDict b 0 o) := by
  k_with_none
  have hl2 : (⟨b.toArray⟩ : Str).length = b.length := by simp [Str.length]
  dsimp only [ClmM]
  k_fill
  intros
  rename_i hret
  have lk := lk_418 w.params
  dsimp only [fa_418, fb_418, fs_418] at lk
  refine wpAny_call ?_
  (refine' code_defG ?k1 ?k2 ?k3 ?k4 ?k5 ?kA ?kF ?kK ?lk ?k7 ?k8 ?k9 ?kB ?_ ?c2 ?c3 ?c4 ?c5; (case kA => exact rfl); (case kF => exact rfl); (case kK => assumption); (case k1 => k_asm); (case k2 => k_asm); (case k3 => k_asm); (case k4 => k_asm); (case k5 => k_asm); (case lk => assumption); (case k7 => k_is); (case k8 => ktr_room); (case k9 => first | exact BindsTo.of_eq rfl | exact binds_K (by k_in) rfl (by k_is) rfl rfl rfl); (case c5 => decide); (case kB => exact locs rfl); (case c2 => exact rfl); (case c3 => exact rfl); (case c4 => exact rfl); k_whole; intro _ _ _ _ _ _ _ _ _ _; (try dsimp only); (try k_fold))
  clear lk
  k_steps
  refine hret _ _ _ ⟨rfl, _, News.get (by k_asm) (by k_mem), ⟨_, _, _, _, _, _, _, _, _, rfl⟩⟩ (keeps_mut (by assumption) (by assumption) (by assumption) (by assumption) ?_)
  intro p hp hn
  rcases List.mem_cons.mp hp with rfl | hp
  · exact .head _
  · rcases List.mem_cons.mp hp with rfl | hp
    · exact absurd (List.mem_singleton.mpr rfl) hn
    · cases hp
set_option maxHeartbeats 4000000 in
theorem sioRead_claim {w : World} {mean : ExcName → Option Value} {mg mb : Str → Option Value} (x dx : Addr) (hdx : @LT.lt Nat _ dx x) (b : Tx) (p : Nat) (od : Obj) (hod : SioDict b p od) (t : Tok) (hp : p ≤ 1000000) (hl : b.length ≤ 1000000) :
    ClmM w mean mg mb 4 594 [(x, instObj 648 dx), (dx, od)] [dx] [.ref x, .int 1 t]
      (fun v h' => (∃ c tk o, b[p]? = some c ∧ v = .str ⟨#[c]⟩ tk ∧ h'.get? dx = some o ∧ SioDict b (p + 1) o) ∨ (b.length ≤ p ∧ ∃ tk o, v = .str ⟨#[]⟩ tk ∧ h'.get? dx = some o ∧ SioDict b p o)) := by
  k_with_none
  obtain ⟨g1, g2, g3, k1, k2, k3, t1, t2, t3, rfl⟩ := hod
  have hl2 : (⟨b.toArray⟩ : Str).length = b.length := by simp [Str.length]
  dsimp only [ClmM]
  k_fill
  intros
  rename_i hret
  have lk := lk_594 w.params
  dsimp only [fa_594, fb_594, fs_594] at lk
  refine wpAny_call ?_
  (refine' code_defG ?k1 ?k2 ?k3 ?k4 ?k5 ?kA ?kF ?kK ?lk ?k7 ?k8 ?k9 ?kB ?_ ?c2 ?c3 ?c4 ?c5; (case kA => exact rfl); (case kF => exact rfl); (case kK => assumption); (case k1 => k_asm); (case k2 => k_asm); (case k3 => k_asm); (case k4 => k_asm); (case k5 => k_asm); (case lk => assumption); (case k7 => k_is); (case k8 => ktr_room); (case k9 => first | exact BindsTo.of_eq rfl | exact binds_K (by k_in) rfl (by k_is) rfl rfl rfl); (case c5 => decide); (case kB => exact locs rfl); (case c2 => exact rfl); (case c3 => exact rfl); (case c4 => exact rfl); k_whole; intro _ _ _ _ _ _ _ _ _ _; (try dsimp only); (try k_fold))
  clear lk
  k_steps
  · refine hret _ _ _ (.inr ⟨by omega, _, _, rfl, News.get (by k_asm) (by k_mem), ⟨_, _, _, _, _, _, _, _, _, rfl⟩⟩) (keeps_mut (by assumption) (by assumption) (by assumption) (by assumption) ?_)
    exact fun p hp _ => hp
  · have hlt : p < b.length := by omega
    have hc := List.getElem?_eq_getElem hlt
    refine hret _ _ _ (.inl ⟨_, _, _, hc, by rw [slice_sign hc (by omega)], News.get (by k_asm) (by k_mem), ⟨_, _, _, _, _, _, _, _, _, rfl⟩⟩) (keeps_mut (by assumption) (by assumption) (by assumption) (by assumption) ?_)
    intro p hp hn
    rcases List.mem_cons.mp hp with rfl | hp
    · exact .head _
    · rcases List.mem_cons.mp hp with rfl | hp
      · exact absurd (List.mem_singleton.mpr rfl) hn
      · cases hp
  · have hlt : p < b.length := by omega
    have hc := List.getElem?_eq_getElem hlt
    have he : ((⟨b.toArray⟩ : Str).length : Int) = (p : Int) + 1 := by omega
    rw [he]
    refine hret _ _ _ (.inl ⟨_, _, _, hc, by rw [slice_sign hc (by omega)], News.get (by k_asm) (by k_mem), sio_mk (by omega)⟩) (keeps_mut (by assumption) (by assumption) (by assumption) (by assumption) ?_)
    intro p hp hn
    rcases List.mem_cons.mp hp with rfl | hp
    · exact .head _
    · rcases List.mem_cons.mp hp with rfl | hp
      · exact absurd (List.mem_singleton.mpr rfl) hn
      · cases hp
end
end
section
open PySem PySem.W PyProof.Rows PySem.Calls Builtin Builtin.ObjectAttr Builtin.Getset_descriptor
section
variable {prog : Program} {w : World} {A : Around} {K : Frag} {C : Addr} {R : Result → Shared → Prop} {h : Heap} {g : Array GenState} {d : Drawn} {t : Nat} {os : OsState}
theorem make_own {rest : List Value} {kw : List (Str × Value)} {oc : Value} {od : Option Addr} {cd : ClassData} {sl : Array (Option Value)} (hC : h.get? C = some ⟨oc, od, .cls cd, sl⟩) (e4 : cd.mro.isEmpty = false)
    (made : Looks (model prog w) h (Bind.madeBy (.ref C)) none) (call : Looks (model prog w) h (specialOf (.ref C) "__call__") (some (.builtin "type.__call__"))) (typ : Looks (model prog w) h (isInstance (.ref C) (.type "type")) true)
    (hq : wpAny (model prog w) (A.under (.builtin "type.__call__" ⟨.ref C :: rest, kw⟩)) (getAttr (.ref C) "__new__") (fun nv s₁ => wpAny (model prog w) (A.under (.builtin "type.__call__" ⟨.ref C :: rest, kw⟩)) (PySem.call nv (.ref C :: rest) kw)
      (fun obj s₂ => Looks (model prog w) s₂.heap (isInstance obj (.ref C)) true ∧ wpAny (model prog w) (A.under (.builtin "type.__call__" ⟨.ref C :: rest, kw⟩)) (callSpecial? obj "__init__" rest kw) (fun r s₃ => r = some .none ∧ R (.ok (.ret obj)) s₃) (fun e s' => R (.error e) s') s₂)
      (fun e s' => R (.error e) s') s₁) (fun e s' => R (.error e) s') ⟨h, g, d, t, os⟩) :
    codeAny (model prog w) A (.call (.ref C) ⟨rest, kw⟩) R ⟨h, g, d, t, os⟩ := by
  refine codeAny_of_tree ?_
  show wpAny _ _ (callAny (.ref C) _) _ _ _
  refine nd_load hC ?_
  show wpAny _ _ (callAny.viaDunder (.ref C) _) _ _ _
  unfold callAny.viaDunder
  refine wpAny_bind (call.at ?_)
  dsimp only
  rw [tc_bind]
  refine wpAny_bind (wpAny_pure (wpAny_bind (wpAny_pure ?_)))
  refine wpAny_pure (a := Fin.again (.call (.builtin "type.__call__") ⟨.ref C :: rest, kw⟩)) (And.intro rfl ?_)
  refine codeAny_call_builtin_at (Code.quiet_builtin _ (by decide +kernel)) entry_typeCall (check_slot tc_kind tc_split typ (tc_args _ _ _) ?_)
  unfold Builtin.«type.__call__»
  have hm : Looks (model prog w) h (mroOf (.ref C)) cd.mro := ((Looks.ld (part := none) hC).andThen .now).andThen .now
  dsimp only
  generalize hga : getAttr (.ref C) ("__new__" : Str) = ga at hq ⊢
  repeat (first | simp only [e4, Bool.false_eq_true, if_false] | lk)
  refine wpAny_mono hq (fun nv s₁ h₁ => wpAny_bind (wpAny_holding (wpAny_mono h₁ (fun obj s₂ h₂ => ?_) fun _ _ z => z))) fun _ _ z => z
  obtain ⟨hi, h3⟩ := h₂
  refine wpAny_bind (hi.here ?_)
  simp only [Bool.not_true, Bool.false_eq_true, if_false]
  refine wpAny_bind (wpAny_holding (wpAny_mono h3 (fun r s₃ hr => ?_) fun _ _ z => z))
  obtain ⟨rfl, z⟩ := hr
  exact wpAny_pure z
end
end
section
open PySem PySem.Builtin PySem.W PyProof.Rows PySem.Spec
abbrev dqObj : Obj := { cls := .type "collections.deque", data := .fields #[.none, rawInt 0] }
theorem dq_mro : mroOf (.type "collections.deque") = pure [.type "collections.deque", .type "object"] := by rw [mroOf_type]; kernel_rfl
theorem dq_new : typeLookup (.type "collections.deque") "__new__" = pure (some (.builtin "collections.deque.__new__")) := by rw [typeLookup_type, builtinLookup_eq_fast]; kernel_rfl
theorem dq_sub : isSubtype (.type "collections.deque") (.type "collections.deque") = pure true := by rw [isSubtype_type]; kernel_rfl
theorem dq_slot : Slot "collections.deque" "__init__" "collections.deque.__init__" :=
  .of (owner := "collections.deque") (n := "__init__") (by rw [typeLookup_type, builtinLookup_eq_fast]; kernel_rfl) (by decide +kernel) (by decide +kernel) (by decide +kernel)
    (by first | exact .inl (by decide +kernel) | exact .inr (by decide +kernel)) (by rw [isSubtype_type]; kernel_rfl)
theorem dq_len : Slot "collections.deque" "__len__" "collections.deque.__len__" :=
  .of (owner := "collections.deque") (n := "__len__") (by rw [typeLookup_type, builtinLookup_eq_fast]; kernel_rfl) (by decide +kernel) (by decide +kernel) (by decide +kernel)
    (by first | exact .inl (by decide +kernel) | exact .inr (by decide +kernel)) (by rw [isSubtype_type]; kernel_rfl)
theorem dq_bool : typeLookup (.type "collections.deque") "__bool__" = pure none := by rw [typeLookup_type, builtinLookup_eq_fast]; kernel_rfl
theorem dq_called : TypeCalled "collections.deque" "collections.deque.__new__" "collections.deque.__init__" :=
  ⟨by decide +kernel, by decide +kernel, ⟨_, _, dq_mro⟩, madeBy_type dq_mro dq_new (by decide +kernel), by decide +kernel, dq_sub, dq_slot⟩
theorem dq_tc : checkTypeCall "collections.deque" ⟨[], []⟩ = pure () := by kernel_rfl
theorem dq_nc : checkBuiltinCall "collections.deque.__new__" ⟨[.type "collections.deque"], []⟩ = pure () := by kernel_rfl
theorem dq_en : entryFor table "collections.deque.__new__" = some Builtin.«collections.deque.__new__» := entryFor_of_tree (by kernel_rfl)
theorem dq_ei : entryFor table "collections.deque.__init__" = some Builtin.«collections.deque.__init__» := entryFor_of_tree (by kernel_rfl)
theorem dq_el : entryFor table "collections.deque.__len__" = some Builtin.«collections.deque.__len__» := entryFor_of_tree (by kernel_rfl)
theorem dq_ai (a : Value) : argsOk "collections.deque.__init__" ⟨[a], []⟩ := by unfold argsOk; kernel_rfl
theorem dq_al (a : Value) : argsOk "collections.deque.__len__" ⟨[a], []⟩ := by unfold argsOk; kernel_rfl
theorem dq_hasDict : typeHasDict (.type "collections.deque") = false := by kernel_rfl
set_option maxHeartbeats 2000000 in
theorem dq_meets_new : Meets (Builtin.«collections.deque.__new__» ⟨[.type "collections.deque"], []⟩) (fun A R s => R (.ok (.ret (.ref s.heap.objs.size))) { s with heap := s.heap.push dqObj }) := by
  refine .of_wp fun prog w A R s hs => ?_
  obtain ⟨hp, g, d, tk, os⟩ := s
  have f1 : isSubtype (.type "collections.deque") (.type Deque.ty) = pure true := dq_sub
  have f2 := dq_hasDict
  repeat (any_goals (first | assumption | wp_step))
  exact ⟨_, rfl, hs⟩
theorem dq_same {hp : Heap} {a : Addr} (hx : hp.get? a = some dqObj) : (hp.update a (Obj.mapFields fun x => x.setIfInBounds 0 Value.none)).get? a = some dqObj := Heap.get?_update_self (Obj.mapFields fun x => x.setIfInBounds 0 Value.none) hx rfl
theorem dq_meets_init {a : Addr} : Meets (Builtin.«collections.deque.__init__» ⟨[.ref a], []⟩) (fun A R s => s.heap.get? a = some dqObj ∧ ∀ h', Heap.SameBut a s.heap h' → h'.get? a = some dqObj → R (.ok (.ret .none)) { s with heap := h' }) := by
  refine .of_wp fun prog w A R s hs => ?_
  obtain ⟨hp, g, d, tk, os⟩ := s
  obtain ⟨hx, hs⟩ := hs
  repeat (any_goals (first | assumption | wp_step))
  exact ⟨_, rfl, hs _ (Heap.SameBut.update ..) (dq_same hx)⟩
theorem dq_meets_len {a : Addr} : Meets (Builtin.«collections.deque.__len__» ⟨[.ref a], []⟩) (fun A R s => s.heap.get? a = some dqObj ∧ ∀ tk, R (.ok (.ret (.int 0 tk))) { s with toks := s.toks + 1 }) := by
  refine .of_wp fun prog w A R s hs => ?_
  obtain ⟨hp, g, d, tk, os⟩ := s
  obtain ⟨hx, hs⟩ := hs
  repeat (any_goals (first | assumption | wp_step))
  exact ⟨_, rfl, hs _⟩
theorem dq_truthy {prog : Program} {w : World} {A : Around} {E : Value → Shared → Prop} {s : Shared} {a : Addr} {Q : Bool → Shared → Prop} (hx : s.heap.get? a = some dqObj) (h : ∀ tk, Q false { s with toks := tk }) : wpAny (model prog w) A (PySem.truthy (.ref a)) Q E s := by
  obtain ⟨hp, g, d, tk, os⟩ := s
  have hT : ∀ tk', (⟨hp, g, d, tk', os⟩ : Shared).TypeIs (.ref a) "collections.deque" := fun _ => ⟨_, hx, rfl⟩
  have f1 := dq_bool
  have f2 := dq_len.lookup
  have f3 := dq_len.bind (.ref a)
  unfold PySem.truthy
  repeat (any_goals (first | assumption | exact hT _ | wp_step))
  refine codeAny_builtin PySem.entry_len ?_
  repeat (any_goals (first | assumption | exact hT _ | ((with_reducible show wpAny _ _ (PySem.call (Value.builtin "collections.deque.__len__") _ _) _ _ _); refine call_meets dq_len (hT _) dq_el (dq_al _) dq_meets_len ⟨hx, fun tk => ?_⟩) | wp_step))
  exact h _
section
variable {prog : Program} {w : World} {A : Around} {E : Value → Shared → Prop} {s : Shared} {h₀ : Heap} {L a : Addr} {m : Str → Option Value} {news : List (Addr × Obj)}
theorem dq_call {Q : Value → Shared → Prop} (F : Fr h₀ L s.heap m) (N : News h₀ L s.heap news) (h : ∀ q h', Fr h₀ L h' m → News h₀ L h' ((q, dqObj) :: news) → (∀ p ∈ news, p.1 < q) → Q (.ref q) { s with heap := h' }) : wpAny (model prog w) A (call (.type "collections.deque") []) Q E s := by
  have F' := F.push dqObj
  have N' := N.push F dqObj
  refine callType_meets (Q₁ := fun v s₁ => v = .ref s.heap.objs.size ∧ s₁ = { s with heap := s.heap.push dqObj }) dq_called dq_tc dq_nc dq_en dq_ei dq_meets_new ⟨rfl, rfl⟩ ?_
  rintro obj s₁ ⟨rfl, rfl⟩
  have hx : (s.heap.push dqObj).get? s.heap.objs.size = some dqObj := Heap.get?_push_size _ rfl
  refine ⟨⟨_, hx, rfl⟩, dq_ai _, _, dq_meets_init, hx, fun h' hs ho => ⟨rfl, ?_⟩⟩
  have z := N' _ (.head _)
  refine h s.heap.objs.size h' (F'.change hs z.2.1 z.2.2) ?_ fun p hp => Heap.lt_size (N p hp).1
  exact news_set (pre := []) (post := news) N' (fun _ hp => nomatch hp) (fun p hp => Nat.ne_of_lt (Heap.lt_size (N p hp).1)) hs ho
theorem dq_truthyN {Q : Bool → Shared → Prop} (N : News h₀ L s.heap news) (hm : (a, dqObj) ∈ news) (h : ∀ tk, Q false { s with toks := tk }) : wpAny (model prog w) A (PySem.truthy (.ref a)) Q E s := dq_truthy (N _ hm).1 h
end
end
section
open PySem PySem.W PyProof.Rows PySem.Spec PySem.Calls
theorem cls648 {P : Params} {h : Heap} (X : (KF P).In h) : h.get? 648 = some (k_648 P) := X 648 (k_648 P) (by kernel_rfl)
theorem made648 {prog : Program} {w : World} {h : Heap} (X : (KF w.params).In h) : Looks (model prog w) h (Bind.madeBy (.ref 648)) none := Looks.of_peek X (by kernel_rfl)
theorem new648 {prog : Program} {w : World} {A : Around} {s : Shared} {R : Result → Shared → Prop} (X : (KF w.params).In s.heap)
    (hq : R (.ok (.ret (.ref (s.heap.objs.size + 1)))) { s with heap := (s.heap.push emptyDict).push (instObj 648 s.heap.objs.size) }) : codeAny (model prog w) A (.call (.builtin "object.__new__") ⟨[.ref 648], []⟩) R s := by
  obtain ⟨h, g, d, t, os⟩ := s
  have F := PySem.F.objNew
  refine codeAny_call_builtin_code (Code.quiet_builtin _ F.quiet) ?_
  have l1 : Looks (model prog w) h (checkBuiltinCall "object.__new__" ⟨[.ref 648], []⟩) () := Looks.of_peek X (by kernel_rfl)
  refine l1.here ?_
  refine codeAny_builtin F.entry ?_
  unfold Builtin.«object.__new__»
  have l2 : Looks (model prog w) h (isType (.ref 648)) true := Looks.of_peek X (by kernel_rfl)
  have l3 : Looks (model prog w) h (Bind.madeHere "object.__new__" (.ref 648)) () := Looks.of_peek X (by kernel_rfl)
  have l4 : Looks (model prog w) h (classData 648) { name := "StringIO", bases := [.ref 171], mro := [.ref 648, .ref 171, .ref 144, .type "object"], ns := 647, qualname := "StringIO", hasDict := true, slotNames := [], subclasses := [], abstract := false, collection := none, hasDel := false } := Looks.of_peek X (by kernel_rfl)
  have hC := cls648 X
  repeat (first | simp only [Bool.not_true, Bool.false_eq_true, if_false, List.isEmpty_nil, Bool.or_self] | lk)
  refine nd_load (Heap.get?_push_of_some _ (Heap.get?_push_of_some _ hC)) ?_
  refine wpAny_pure (wpAny_pure (wpAny_pure ?_))
  refine wpAny_pure ?_
  show R _ _
  rw [Heap.size_push]
  exact hq
theorem call_new648 {prog : Program} {w : World} {A : Around} {E : Value → Shared → Prop} {s : Shared} {h₀ : Heap} {L : Addr} {m : Str → Option Value} {news : List (Addr × Obj)} {Q : Value → Shared → Prop} (F : Fr h₀ L s.heap m) (N : News h₀ L s.heap news) (X : (KF w.params).In s.heap)
    (h : ∀ x dx h', Fr h₀ L h' m → News h₀ L h' ((x, instObj 648 dx) :: (dx, dictOf [] 0) :: news) → (∀ p ∈ news, p.1 < dx) → dx < x → Q (.ref x) { s with heap := h' }) : wpAny (model prog w) A (call (.builtin "object.__new__") [.ref 648]) Q E s := by
  refine wpAny_call (new648 X (h _ s.heap.objs.size _ ((F.push _).push _) ?_ (fun p hp => Heap.lt_size (N p hp).1) (Nat.lt_succ_self _)))
  have := (N.push F emptyDict).push (F.push _) (instObj 648 s.heap.objs.size)
  rwa [Heap.size_push] at this
section
set_option maxHeartbeats 4000000 in
theorem sio_call {w : World} {mean : ExcName → Option Value} {mg mb : Str → Option Value} {A A₀ : Around} {cn : Str} {cs : Scope} {a L : Addr} {ccd : Value} {cl : List (Str × Addr)} {outer : List Env} {base h₀ : Heap} {m : Str → Option Value} {s : Shared} {news : List (Addr × Obj)} {Q E : Value → Shared → Prop} {b : Tx} {t : Tok} (hl : b.length ≤ 1000000)
    (B : Below A₀ base outer h₀) (F : Fr h₀ L s.heap m) (X : (KF w.params).In h₀) (N : News h₀ L s.heap news) (T : Top viewQ (looseW viewQ looseN) mean mg mb h₀) (hA : A.frames = some (envX cn cs L a ccd cl :: outer)) (hh : A.handled = none) (hk : cs.kind = .function)
    (hd : A.depth + 8 < recursionLimit)
    (hret : ∀ x dx o h' tk, SioDict b 0 o → Fr h₀ L h' m → News h₀ L h' ((x, instObj 648 dx) :: (dx, o) :: news) → (∀ p ∈ news, p.1 < dx) → dx < x → Q (.ref x) { s with heap := h', toks := tk }) :
    wpAny (model PySem.Challenge.rw_oy0446_01.row.prog w) A (call (.ref 648) [.str ⟨b.toArray⟩ t]) Q E s := by
  k_with_none
  k_with "call builtin:object.__new__" => (k_here; k_dflt (refine' call_new648 ?k1 ?k2 ?k3 ?_; (case k1 => k_asm); (case k2 => k_asm); (case k3 => k_in); k_whole); intro xN dN hN FN NN lN1 lN2; (try k_sweep))
  have e : A = ktrTop A.depth A.units A.guards cn cs L a ccd cl outer := by
    obtain ⟨x1, x2, x3, x4, x5⟩ := A
    simp only at hA hh
    subst hA hh
    rfl
  generalize A.depth = dp at e hd
  generalize A.units = un at e
  generalize A.guards = gd at e
  subst e
  clear hA hh
  revert X
  k_fill
  intro X
  have hl2 : (⟨b.toArray⟩ : Str).length = b.length := by simp [Str.length]
  refine wpAny_call ?_
  obtain ⟨hp, gg, d, tk, os⟩ := s
  refine make_own (cls648 (X.keeps F.keep)) rfl (made648 (X.keeps F.keep)) ?call ?typ ?hq
  case call => exact looks_specialIn (X.keeps F.keep) (by k_is)
  case typ => exact looks_instIn (X.keeps F.keep) (by k_is)
  refine' cls_sm (s := ⟨hp, gg, d, tk, os⟩) F X ?m1 ?m2 ?m3 ?m4 ?m5 ?_
  (case m1 => k_is)
  (case m2 => k_is)
  (case m3 => k_is)
  (case m4 => k_is)
  (case m5 => k_handed)
  refine wpAny_call ?_
  ((refine' kp_both ?k1 ?k2 ?k3 ?k4 ?k5 ?kA ?kF ?kK ?k6 ?k7 ?k8 ?kV ?kX ?kQ ?kM ?kN ?kD ?kR ?kP ?kS ?kT ?kB ?_ ?c2 ?c3 ?c4 ?c5; (case kA => exact rfl); (case kF => exact rfl); (case kK => assumption); (case k1 => k_asm); (case k2 => k_asm); (case k3 => k_asm); (case k4 => k_asm); (case k5 => k_asm); (case k6 => exact lk_141 w.params); (case k7 => k_is); (case k8 => k_room); (case kV => kp_lit); (case kX => kp_lit); (case kQ => exact rfl); (case kM => exact rfl); (case kN => exact rfl); (case kD => kp_flats); (case kR => exact rfl); (case kP => exact rfl); (case kS => exact fun _ => rfl); (case kT => exact fun _ _ => rfl); (case kB => exact fun _ _ => locs rfl); (case c5 => decide); (case c2 => exact rfl); (case c3 => exact rfl); (case c4 => exact rfl); k_whole; intro C' D' o' g' L' h' tk' l1 l2 lo' hs' fs' FG' F' N' B' X' T'; (try dsimp only); (try k_fold)))
  k_steps
  · exact (InstAt.type (InstAt.of_news (by k_asm) (by k_mem) (by k_mem))).andThen (looks_subIn (K := KF w.params) (by k_in) (t := .ref 648) (by kernel_rfl))
  · refine special_fn (K := KF w.params) (C := 648) (f := 418) (by k_in) (InstAt.of_news (by k_asm) (by k_mem) (by k_mem)) (by kernel_rfl) (by kernel_rfl) ?_
    have lD : ∀ p ∈ news, p.1 < dN := fun p hp => lN1 p (.tail _ (.tail _ hp))
    refine use_M (nw := [(xN, instObj 648 dN), (dN, dictOf [] 0)]) (sioInit_claim xN dN lN2 b t hl) B (by assumption) X (by assumption) T ?hs rfl rfl hk ?hd ?hm ?_
    case hs =>
      intro p hp
      rcases List.mem_cons.mp hp with rfl | hp
      · exact .head _
      · rcases List.mem_cons.mp hp with rfl | hp
        · exact .tail _ (.head _)
        · cases hp
    case hd => ktr_room
    case hm => intro a ha; cases List.mem_singleton.mp ha; exact ⟨_, .tail _ (.head _)⟩
    rintro v h' tk' ⟨rfl, o, ho, hS⟩ k F' N'
    refine ⟨rfl, hret xN dN o h' tk' hS F' ?_ lD lN2⟩
    intro p hp
    rcases List.mem_cons.mp hp with rfl | hp
    · exact N' _ (.head _) (by rw [List.mem_singleton]; exact Nat.ne_of_gt lN2)
    · rcases List.mem_cons.mp hp with rfl | hp
      · have nN : News h₀ L hN ((xN, instObj 648 dN) :: (dN, dictOf [] 0) :: (D', o') :: (C', { cls := Value.type "tuple", data := Data.seq #[Value.str { cps := List.toArray b } t] }) :: news) := by assumption
        exact ⟨ho, (nN _ (.tail _ (.head _))).2⟩
      · exact N' _ (.tail _ (.tail _ (.tail _ (.tail _ hp)))) (by rw [List.mem_singleton]; exact Nat.ne_of_lt (lD p hp))
end
end
section
open PySem PySem.W PyProof.Rows PySem.Spec PySem.Calls
section
set_option maxHeartbeats 4000000 in
theorem qp_claimQ {w : World} {mean : ExcName → Option Value} {mg mb : Str → Option Value} (c : Nat) (t : Tok) (hc : c < 256) :
    ClmQ w mean mg mb 3 74 [.str ⟨#[c]⟩ t] (fun v _ => ∃ tk, v = .str ⟨#[61, hexd (c / 16), hexd (c % 16)]⟩ tk) := by
  k_with_none
  k_with "execs cons" => k_fold
  k_with "subscriptTail" => (k_here; (refine' item47 (P := World.params _) ?k1w0 ?k2w0 ?_ ?k3w0; (case k1w0 => k_in); (case k2w0 => assumption); (case k3w0 => with_unfolding_all rfl)); intro tk9)
  dsimp only [ClmQ]
  k_fill
  intros
  rename_i hret
  have lk := lk_74 w.params
  dsimp only [fa_74, fb_74, fs_74] at lk
  refine wpAny_call ?_
  (refine' enter_free ?k3 ?k5 ?lk ?k7 ?k8 ?k9 ?kB ?_ ?c2 ?c3 ?c4 ?c5; (case k3 => assumption); (case k5 => assumption); (case lk => assumption); (case k7 => k_is); (case k8 => ktr_room); (case k9 => first | exact BindsTo.of_eq rfl | exact binds_K (by k_in) rfl (by k_is) rfl rfl rfl); (case c5 => decide); (case kB => exact locs rfl); (case c2 => exact rfl); (case c3 => exact rfl); (case c4 => exact rfl); k_whole; intro _ _ _ _; (try dsimp only); (try k_fold))
  clear lk
  k_steps
  all_goals exact hret _ _ _ ⟨_, rfl⟩ (Fr.keep (by k_asm))
end
theorem RowsInv.size {u : Tx} {e : Nat} {items : Array Value} {start : Nat} (h : RowsInv u e items start) : items.size ≤ 2 * start := by
  obtain ⟨ys, hs, hr⟩ := h
  have h1 := hr.len
  have h2 : items.size = ys.length := by rw [← Array.length_toList]; exact hs.len_eq
  have h3 : ∀ l : List Tx, l.length ≤ (l.flatMap (· ++ [e])).length := by
    intro l
    induction l with
    | nil => simp
    | cons a l ih => rw [List.flatMap_cons, List.length_append, List.length_append, List.length_cons, List.length_cons, List.length_nil]; omega
  have h4 := h3 (ys.map (·.cps.toList))
  rw [List.length_map] at h4
  omega
section
variable {prog : Program} {w : World} {A : Around} {E : Value → Shared → Prop} {Q : Flow → Shared → Prop} {s : Shared} {env : Env} {h₀ : Heap} {L I q b l : Addr} {it lo : Obj} {news : List (Addr × Obj)} {m₀ : Str → Option Value}
theorem rows_while {test : Expr} {body : List Stmt} {pos : Pos} (u : Tx) (e : Nat) (t₀ : Tok)
    (hne : 0 < (encT u).length) (F : Fr h₀ L s.heap m₀) (N : News h₀ L s.heap ((I, it) :: (q, lo) :: (b, boundObj "list.append" l) :: (l, listOf #[] 0) :: news)) (hs : m₀ (Str.ofString "start") = some (.int 0 t₀))
    (turn : ∀ (items : Array Value) (n start : Nat) (t : Tok) (U : Str → Option Value) h tk, RowsInv u e items start → start < (encT u).length → items.size ≤ 2 * start →
      Fr h₀ L h (kstB (fun z => if [Str.ofString "stop"].contains z then U z else m₀ z) [(Str.ofString "start", .int (start : Int) t)]) →
      News h₀ L h ((I, it) :: (q, lo) :: (b, boundObj "list.append" l) :: (l, listOf items n) :: news) →
      wpAny (model prog w) A (isTrue test env (eval test env)) (fun b' s₂ =>
        if b' = true then wpAny (model prog w) A (execs body env) (fun f s₃ => KswPost h₀ L s (fun c : Array Value × Nat × Nat × Tok => (I, it) :: (q, lo) :: (b, boundObj "list.append" l) :: (l, listOf c.1 c.2.1) :: news)
          (fun c => [(Str.ofString "start", .int (c.2.2.1 : Int) c.2.2.2)]) (fun _ => True) [Str.ofString "stop"] m₀ (fun c => RowsInv u e c.1 c.2.2.1 ∧ c.2.2.1 < (encT u).length) (fun c => (encT u).length - c.2.2.1) Q (items, n, start, t) f s₃) E s₂ else Q .next s₂) E { s with heap := h, toks := tk })
    (hE : PassesOwn (model prog w) A env E := by passes_own) :
    wpAny (model prog w) A (exec (.While test body [] pos) env) Q E s := by
  refine ksw_while (σ := Array Value × Nat × Nat × Tok) (fun c => (I, it) :: (q, lo) :: (b, boundObj "list.append" l) :: (l, listOf c.1 c.2.1) :: news)
          (fun c => [(Str.ofString "start", .int (c.2.2.1 : Int) c.2.2.2)]) (fun _ => True) [Str.ofString "stop"] (fun c => RowsInv u e c.1 c.2.2.1 ∧ c.2.2.1 < (encT u).length) (fun c => (encT u).length - c.2.2.1) (#[], 0, 0, t₀) F N trivial ?_ ⟨⟨[], StrsAre.nil, RowsAre.nil⟩, hne⟩ ?_ hE
  · intro p hp
    rw [List.mem_singleton.mp hp]
    exact hs
  · rintro ⟨items, n, start, t⟩ U h tk _ hp F' N'
    exact turn items n start t U h tk hp.1 hp.2 hp.1.size F' N'
theorem rows_next {u : Tx} {e : Nat} {items items' : Array Value} {n start : Nat} {t t' : Tok} {n' : Nat} {v' : Int} {h' : Heap} {tk : Nat} {m' : Str → Option Value}
    (F : Fr h₀ L h' m') (N : News h₀ L h' ((I, it) :: (q, lo) :: (b, boundObj "list.append" l) :: (l, listOf items' n') :: news))
    (hk : m' (Str.ofString "start") = some (.int v' t')) (hr : ∀ z, z ≠ Str.ofString "start" → z ≠ Str.ofString "stop" → m' z = m₀ z)
    (hx : ∃ st : Nat, v' = (st : Int) ∧ RowsInv u e items' st ∧ st < (encT u).length ∧ start < st) :
    KswEnd h₀ L s (fun c : Array Value × Nat × Nat × Tok => (I, it) :: (q, lo) :: (b, boundObj "list.append" l) :: (l, listOf c.1 c.2.1) :: news)
          (fun c => [(Str.ofString "start", .int (c.2.2.1 : Int) c.2.2.2)]) (fun _ => True) [Str.ofString "stop"] m₀ (fun c => RowsInv u e c.1 c.2.2.1 ∧ c.2.2.1 < (encT u).length) (fun c => (encT u).length - c.2.2.1) (items, n, start, t) { s with heap := h', toks := tk } := by
  obtain ⟨st, e1, hp, hl, hm⟩ := hx
  subst e1
  refine ksw_end (items', n', st, t') F N (fun p hp => hp) trivial ?_ ?_ ⟨hp, hl⟩ ?_
  · intro p hp
    rw [List.mem_singleton.mp hp]
    exact hk
  · intro z h1 h2
    refine hr z (h1 _ (.head _)) ?_
    simpa using h2
  · show (encT u).length - st < (encT u).length - start
    omega
theorem same_z {m₀ U : Str → Option Value} {v1 v2 : Option Value} {v3 : Value} : ∀ z, z ≠ Str.ofString "start" → z ≠ Str.ofString "stop" →
    (fun y => if y = Str.ofString "start" then v1 else if y = Str.ofString "stop" then v2 else kstB (fun z => if [Str.ofString "stop"].contains z = true then U z else m₀ z) [(Str.ofString "start", v3)] y) z = m₀ z := by
  intro z h1 h2
  show (if z = Str.ofString "start" then v1 else if z = Str.ofString "stop" then v2 else if z = Str.ofString "start" then some v3 else if [Str.ofString "stop"].contains z = true then U z else m₀ z) = m₀ z
  rw [if_neg h1, if_neg h2, if_neg h1, if_neg (by simpa using h2)]
end

section
variable {prog : Program} {w : World} {A : Around} {E : Value → Shared → Prop} {s : Shared} {h₀ : Heap} {L : Addr} {m : Str → Option Value} {news : List (Addr × Obj)} {x : Str} {t : Tok} {value slice : Expr} {Q : Value → Shared → Prop}
theorem slice_sn_N {i : Int} {ui : Tok} (F : Fr h₀ L s.heap m) (N : News h₀ L s.heap news) (h : ∀ h' t' k, Fr h₀ L h' m → News h₀ L h' news → Q (.str (Txt.slice x (some i) none) t') { s with heap := h', toks := k })
    (hs : subscripted slice false (.str x t) (.ref s.heap.objs.size) = operate [.ref s.heap.objs.size, .str x t] (getItem (.str x t) (.ref s.heap.objs.size)) := by with_unfolding_all rfl)
    (ht : ∀ r, letTemporaryGo value (.str x t) r = pure () := by intro _; with_unfolding_all rfl) (hsz : x.length ≤ sizeLine := by size_fits) :
    wpAny (model prog w) A (subscriptTail value slice (.str x t) (.ref s.heap.objs.size)) Q E { s with heap := s.heap.push { cls := .type "slice", data := .fields #[.int i ui, .none, .none] } } :=
  tail_of_ItemOn (SBH.sliceItem_sn (P := fun h => Fr h₀ L h m ∧ News h₀ L h news) keptFrN ⟨F, N⟩ (fun h' t' k hp => h h' t' k hp.1 hp.2) hsz) hs ht
end
theorem fr_toks {g h : Heap} {L : Addr} {n1 n2 n3 n4 n5 n6 : Str} {i1 i2 i6 : Int} {t1 t2 t6 : Tok} {v3 v4 v5 : Value} {m : Str → Option Value} (F : Fr g L h (fun y => if y = n1 then some (.int i1 t1) else if y = n2 then some (.int i2 t2) else if y = n3 then some v3 else if y = n4 then some v4 else if y = n5 then some v5 else if y = n6 then some (.int i6 t6) else m y)) :
    ∃ ta tb tc : Tok, Fr g L h (fun y => if y = n1 then some (.int i1 ta) else if y = n2 then some (.int i2 tb) else if y = n3 then some v3 else if y = n4 then some v4 else if y = n5 then some v5 else if y = n6 then some (.int i6 tc) else m y) := ⟨_, _, _, F⟩
theorem in_sign1 {prog : Program} {w : World} {A : Around} {E : Value → Shared → Prop} {s : Shared} {x : Str} {t u : Tok} {c : Nat} {b : Bool} {Q : Value → Shared → Prop} (e : decide (c ∈ x.cps.toList) = b) (h : Q (.bool b) s) : wpAny (model prog w) A (compareOp .In (.str ⟨#[c]⟩ u) (.str x t)) Q E s := PyProof.Rows.in_str (by rw [StrLaws.found_one, e]; exact h)
theorem mem_sp (c : Nat) : decide (c ∈ (Str.ofString " \t").cps.toList) = isSp c := by
  have e : (Str.ofString " \t").cps.toList = [32, 9] := by decide +kernel
  rw [e, Bool.eq_iff_iff]; simp [isSp]
theorem mem_cr {c : Nat} (h : isSign c = true) : decide (c ∈ (Str.ofString "\r\n").cps.toList) = false := by
  have e : (Str.ofString "\r\n").cps.toList = [13, 10] := by decide +kernel
  simp only [isSign, Bool.and_eq_true, decide_eq_true_eq, bne_iff_ne] at h
  rw [e]; simp [h]
theorem glued_rows (e : Nat) (x : Str) : ∀ ys : List Str, (Str.join ⟨#[e]⟩ (ys ++ [x])).cps.toList = (ys.map (·.cps.toList)).flatMap (· ++ [e]) ++ x.cps.toList
  | [] => rfl
  | [y] => by
    show ((y ++ ⟨#[e]⟩) ++ x).cps.toList = _
    simp [Str.cps_append]
  | y :: z :: ys => by
    have ih := glued_rows e x (z :: ys)
    show ((y ++ ⟨#[e]⟩) ++ Str.join ⟨#[e]⟩ (z :: ys ++ [x])).cps.toList = _
    rw [Str.cps_append, Array.toList_append, ih]
    simp [Str.cps_append]
theorem Last.size {u : Tx} {e s : Nat} {p : Tx} (h : Last u e s p) : p.length ≤ (encT u).length + 5 := by
  cases h <;> simp <;> omega
theorem flat_len (e : Nat) : ∀ ys : List Str, ((ys.map (·.cps.toList)).flatMap (· ++ [e])).length = (ys.map (·.length)).sum + ys.length
  | [] => rfl
  | y :: ys => by
    have ih := flat_len e ys
    simp only [List.map_cons, List.flatMap_cons, List.length_append, List.length_cons, List.length_nil, List.sum_cons, Array.length_toList]
    rw [ih]
    show y.cps.size + 1 + _ = y.cps.size + _ + _
    omega
theorem last_plain {u X : Tx} {e s c : Nat} (hv : encT u = X ++ [c]) (hs : s < (encT u).length) (h : isSp c = false) : Last u e s (Txt.slice ⟨(encT u).toArray⟩ (some (s : Int)) none).cps.toList := by
  rw [slice_from rfl (by omega)]
  exact .plain (by rw [hv, endsSp_snoc, h])
theorem last_esc {u X : Tx} {e s c : Nat} (hv : encT u = X ++ [c]) (hs : s < (encT u).length) (h : isSp c = true) : Last u e s (Txt.slice ⟨(encT u).toArray⟩ (some (s : Int)) (some (-1)) ++ ⟨#[61, hexd (c / 16), hexd (c % 16)]⟩).cps.toList := by
  rw [Str.cps_append, Array.toList_append, slice_butlast rfl (by omega)]
  exact .esc hv h
theorem last_soft {u X : Tx} {e s c : Nat} (hv : encT u = X ++ [c]) (hs : s < (encT u).length) (h : isSp c = true) : Last u e s (Txt.slice ⟨(encT u).toArray⟩ (some (s : Int)) (some (-1)) ++ (⟨#[c]⟩ ++ (Str.ofString "=" ++ ⟨#[e]⟩))).cps.toList := by
  rw [Str.cps_append, Array.toList_append, slice_butlast rfl (by omega)]
  exact .soft hv h
theorem last_soft' {u X : Tx} {e s c : Nat} (hv : encT u = X ++ [c]) (hs : s < (encT u).length) (h : isSp c = true) : Last u e s (Txt.slice ⟨(encT u).toArray⟩ (some (s : Int)) (some (-1)) ++ (Txt.item ⟨(encT u).toArray⟩ (-1) ++ (Str.ofString "=" ++ ⟨#[e]⟩))).cps.toList := by
  rw [item_last hv]; exact last_soft hv hs h
theorem last_both {u X : Tx} {e s c : Nat} (hv : encT u = X ++ [c]) (hs : s < (encT u).length) (h : isSp c = true) : Last u e s (Txt.slice ⟨(encT u).toArray⟩ (some (s : Int)) (some (-1)) ++ (Str.ofString "=" ++ ⟨#[e]⟩ ++ ⟨#[61, hexd (c / 16), hexd (c % 16)]⟩)).cps.toList := by
  rw [Str.cps_append, Array.toList_append, slice_butlast rfl (by omega)]
  exact .both hv h
theorem join_rows {prog : Program} {w : World} {A : Around} {E : Value → Shared → Prop} {s : Shared} {h₀ : Heap} {L l : Addr} {news : List (Addr × Obj)} {items : Array Value} {n e start : Nat} {u : Tx} {x : Str} {t tx : Tok} {Q : Value → Shared → Prop}
    (he : isEnd e = true) (hu : ∀ c ∈ u, isSign c = true) (hul : u.length ≤ 100000) (N : News h₀ L s.heap news) (hm : (l, listOf (items.push (.str x tx)) n) ∈ news) (hinv : RowsInv u e items start) (hst : start < (encT u).length) (hl : Last u e start x.cps.toList)
    (h : ∀ y t' k, QRow u y → Q (.str ⟨y.toArray⟩ t') { s with toks := k }) : wpAny (model prog w) A (call (.builtin "str.join") [.str ⟨#[e]⟩ t, .ref l]) Q E s := by
  obtain ⟨ys, hs, hr⟩ := hinv
  have hel := enc_len u
  have h1 := hl.size
  have h2 := hr.len
  rw [flat_len] at h2
  rw [Array.length_toList] at h1
  have h1' : x.length ≤ (encT u).length + 5 := h1
  refine join_list (N.isList hm) (ys := ys ++ [x]) (by rw [Array.toList_push]; exact strs_snoc hs) ?_ fun t' k => ?_
  · rw [List.map_append, List.sum_append, List.length_append]
    simp only [List.map_cons, List.map_nil, List.sum_cons, List.sum_nil, List.length_cons, List.length_nil]
    show _ + _ * (1 : Nat) ≤ _
    omega
  · have hq := last_row he hu hr hst hl
    have ej : Txt.join ⟨#[e]⟩ (ys ++ [x]) = ⟨((ys.map (·.cps.toList)).flatMap (· ++ [e]) ++ x.cps.toList).toArray⟩ := by
      rw [show Txt.join ⟨#[e]⟩ (ys ++ [x]) = _ from StrLaws.glued_eq_join _ _]
      exact Str_eq (by rw [glued_rows])
    rw [ej]
    exact h _ _ _ hq
abbrev BeR (u : Tx) (v : Value) (_ : Heap) : Prop := ∃ y t, v = .str ⟨y.toArray⟩ t ∧ QRow u y
set_option maxHeartbeats 4000000 in
theorem be_claim {w : World} {mean : ExcName → Option Value} {mg mb : Str → Option Value} (u : Tx) (e : Nat) (M : Int) (t1 t2 t3 : Tok) (hM : 10 ≤ M) (hM2 : M ≤ 18) (he : isEnd e = true) (hx : u.length ≤ 100000) (hx0 : (⟨u.toArray⟩ : Str).length ≤ 100000) (hxs : ∀ c ∈ u, isSign c = true) (hx6 : sizeLine = 16777216) (hx3 : (⟨(encT u).toArray⟩ : Str).length + 1 ≤ sizeLine) (hx4 : (⟨(encT u).toArray⟩ : Str).length ≤ 300000) (hx5 : (⟨(encT u).toArray⟩ : Str).length = (encT u).length) (v : Tx) (c : Nat) (hv : encT u = v ++ [c]) (hc : c < 256) (hcs : isSign c = true) :
    ClmQ w mean mg mb 10 87 [.str ⟨u.toArray⟩ t1, .int M t2, .str ⟨#[e]⟩ t3] (BeR u) := by
  k_with_none
  k_with "execs cons" => k_fold
  k_with "getMethod str" => (with_reducible refine GM.of (name := "translate") _ (typeIs_str _ _ _) F.slot_str_translate F.type_str_translate GM.noRef ?_)
  k_with "call builtin:str.translate" => (k_here; (refine call_translate_u (P := World.params _) (by k_in) (by assumption) (by omega) ?_); intro tk9 k9)
  k_with "call builtin:str.splitlines" => (k_here; k_dflt (refine' splitlines_one ?k1w3 ?k2w3 ?k3w3 ?k4w3 ?k5w3 ?_; (case k1w3 => k_asm); (case k2w3 => k_asm); (case k3w3 => assumption); (case k4w3 => (intro h0; subst h0; simp_all [Str.length])); (case k5w3 => assumption); k_whole); intro q' tk' h' k' F' N' l1; (try k_lt l1); (try k_sweep))
  k_with "getAttr ref" => (k_here; k_dflt (refine' getAttr_append_N ?k1w4 ?k2w4 ?k3w4 ?_; (case k1w4 => k_asm); (case k2w4 => k_asm); (case k3w4 => k_mem); k_whole); intro q' h' tk' F' N' l1; (try k_lt l1); (try k_sweep))
  k_with "call ref" => (k_here; k_dflt (refine' call_bound_K ?k1w5 ?k2w5 ?k3w5 ?k4w5 ?_ ?zw5; (case k1w5 => k_asm); (case k2w5 => k_asm); (case k3w5 => k_mem); (case k4w5 => k_upd); (case zw5 => first | size_fits | (have hsl : sizeLine = 16777216 := by decide); omega); k_whole); intro h' F' N'; (try k_sweep))
  k_with "compareOp In str str" => (k_here; rw [hlast]; k_dflt (first | (refine' in_sign1 (b := false) ?e9w6 ?_; (case e9w6 => exact hCR); k_whole) | (refine' in_sign1 (b := isSp c) ?e9w6 ?_; (case e9w6 => exact hSP); k_whole)))
  k_with "call builtin:str.join" => (k_here; k_dflt (refine' join_rows he hxs hx ?jk1w7 ?jk2w7 hinv hst ?jk3w7 ?_; (case jk1w7 => k_asm); (case jk2w7 => k_mem); (case jk3w7 => with_reducible first | exact last_plain hv hst (by assumption) | exact last_esc hv hst (by assumption) | exact last_soft hv hst (by assumption) | exact last_soft' hv hst (by assumption) | exact last_both hv hst (by assumption)); k_whole); intro y9 tk9 kk9 hQ9)
  k_with "call ref" => (k_here; (with_reducible show wpAny _ _ (call (Value.ref 74) _) _ _ _); rw [hlast]; k_dflt (refine' use_Q (qp_claimQ c _ hc) ?qk2w8 ?qk3w8 ?qk4w8 ?qk5w8 ?qk9w8 ?qk10w8 ?_; (case qk2w8 => k_asm); (case qk3w8 => k_asm); (case qk4w8 => k_asm); (case qk5w8 => k_asm); (case qk9w8 => exact rfl); (case qk10w8 => ktr_room); k_whole); rintro vq hq tkq ⟨tq, rfl⟩ kkq Fq Nq; clear kkq)
  k_with "exec If" => first | (k_fold; refine wpAny_If ?_) | refine wpAny_If ?_
  k_with "callWith ref" => (k_here; k_dflt (refine' callWith_bo ?kfbNw10 ?kfbMw10 ?_; (case kfbNw10 => k_asm); (case kfbMw10 => k_mem); k_whole))
  k_with "And" => ((with_reducible show BoundAt _ _ _ _ ∧ _); k_dflt (refine ⟨News.get (by k_asm) (by k_mem), ?_⟩); (try dsimp only [List.nil_append, List.cons_append]))
  k_with "KswEnd" => (refine' rows_next ?rFw12 ?rNw12 ?rkw12 ?rsw12 ?rxw12; (case rFw12 => assumption); (case rNw12 => assumption); (case rkw12 => first | exact rfl | k_is | with_unfolding_all exact rfl); (case rsw12 => exact same_z); (case rxw12 => first | exact turn_a (by assumption) (by assumption) (by assumption) (by assumption) (by assumption) (by assumption) (by assumption) | exact turn_b (by assumption) (by assumption) (by assumption) (by assumption) (by assumption) (by assumption) (by assumption) (by assumption) | exact turn_c (by assumption) (by assumption) (by assumption) (by assumption) (by assumption) (by assumption) (by assumption) (by assumption)))
  k_with "subscriptTail Name Slice str ref" => (k_here; (with_reducible show wpAny _ _ (subscriptTail _ (PySem.Expr.Slice (some _) none none _) _ _) _ _ _); (refine' slice_sn_N (hsz := ?hszw13) (s := ⟨_, _, _, _, _⟩) ?kFw13 ?kNw13 ?_; (case kFw13 => k_asm); (case kNw13 => k_asm); (case hszw13 => omega)); intro _ _ _ _ _; (try k_sweep))
  k_with "last exec While" => (k_here; (rename Fr _ _ _ _ => lF'); (rename News _ _ _ _ => lN'); (obtain ⟨ta, tb, tc, lG'⟩ := fr_toks lF'); clear lF'; (with_unfolding_all refine' rows_while u e _ hne lG' lN' ?k1w14 ?k2w14); (case k1w14 => first | exact rfl | k_is | with_unfolding_all exact rfl); clear lG' lN'; intro items n start t U h tk hinv hst hsz FX NX)
  have hlast := item_last hv
  have hne : 0 < (encT u).length := by rw [hv]; simp
  have hCR := mem_cr hcs
  have hSP := mem_sp c
  dsimp only [ClmQ]
  k_fill
  intro A s Q E hh hroom X T hret
  obtain ⟨y1, y2, y3, y4, y5⟩ := A
  simp only at hh
  subst hh
  have lk := lk_87 w.params
  dsimp only [fa_87, fb_87, fs_87] at lk
  refine wpAny_call ?_
  (refine' enter_free ?k3 ?k5 ?lk ?k7 ?k8 ?k9 ?kB ?_ ?c2 ?c3 ?c4 ?c5; (case k3 => assumption); (case k5 => assumption); (case lk => assumption); (case k7 => k_is); (case k8 => ktr_room); (case k9 => first | exact BindsTo.of_eq rfl | exact binds_K (by k_in) rfl (by k_is) rfl rfl rfl); (case c5 => decide); (case kB => exact locs rfl); (case c2 => exact rfl); (case c3 => exact rfl); (case c4 => exact rfl); k_whole; intro _ _ _ _; (try dsimp only); (try k_fold))
  clear lk
  k_steps
  all_goals try (exact hret _ _ _ ⟨_, _, rfl, by assumption⟩ (Fr.keep (by k_asm)))
  all_goals first
    | (exfalso
       have h0 : (⟨u.toArray⟩ : Str).length = 0 := by omega
       have h1 : u.length = 0 := h0
       have h2 : u = [] := List.eq_nil_of_length_eq_zero h1
       rw [h2] at hne
       exact absurd hne (by decide))
theorem be_nil {w : World} {mean : ExcName → Option Value} {mg mb : Str → Option Value} (e : Nat) (M : Int) (t1 t2 t3 : Tok) (hM : 10 ≤ M) (hM2 : M ≤ 18) :
    ClmQ w mean mg mb 10 87 [.str ⟨#[]⟩ t1, .int M t2, .str ⟨#[e]⟩ t3] (BeR []) := by
  k_with_none
  k_with "execs cons" => k_fold
  k_with "getMethod str" => (with_reducible refine GM.of (name := "translate") _ (typeIs_str _ _ _) F.slot_str_translate F.type_str_translate GM.noRef ?_)
  k_with "call builtin:str.translate" => (k_here; (refine call_translate_u (P := World.params _) (by k_in) (by assumption) (by omega) ?_); intro tk9 k9)
  k_with "call builtin:str.splitlines" => (k_here; k_dflt (refine' splitlines_one ?k1w3 ?k2w3 ?k3w3 ?k4w3 ?k5w3 ?_; (case k1w3 => k_asm); (case k2w3 => k_asm); (case k3w3 => assumption); (case k4w3 => (intro h0; subst h0; simp_all [Str.length])); (case k5w3 => assumption); k_whole); intro q' tk' h' k' F' N' l1; (try k_lt l1); (try k_sweep))
  k_with "getAttr ref" => (k_here; k_dflt (refine' getAttr_append_N ?k1w4 ?k2w4 ?k3w4 ?_; (case k1w4 => k_asm); (case k2w4 => k_asm); (case k3w4 => k_mem); k_whole); intro q' h' tk' F' N' l1; (try k_lt l1); (try k_sweep))
  k_with "call ref" => (k_here; k_dflt (refine' call_bound_K ?k1w5 ?k2w5 ?k3w5 ?k4w5 ?_ ?zw5; (case k1w5 => k_asm); (case k2w5 => k_asm); (case k3w5 => k_mem); (case k4w5 => k_upd); (case zw5 => first | size_fits | (have hsl : sizeLine = 16777216 := by decide); omega); k_whole); intro h' F' N'; (try k_sweep))
  k_with "compareOp In str str" => (k_here; rw [hlast]; k_dflt (first | (refine' in_sign1 (b := false) ?e9w6 ?_; (case e9w6 => exact hCR); k_whole) | (refine' in_sign1 (b := isSp c) ?e9w6 ?_; (case e9w6 => exact hSP); k_whole)))
  k_with "call builtin:str.join" => (k_here; k_dflt (refine' join_rows he hxs hx ?jk1w7 ?jk2w7 hinv hst ?jk3w7 ?_; (case jk1w7 => k_asm); (case jk2w7 => k_mem); (case jk3w7 => with_reducible first | exact last_plain hv hst (by assumption) | exact last_esc hv hst (by assumption) | exact last_soft hv hst (by assumption) | exact last_soft' hv hst (by assumption) | exact last_both hv hst (by assumption)); k_whole); intro y9 tk9 kk9 hQ9)
  k_with "call ref" => (k_here; (with_reducible show wpAny _ _ (call (Value.ref 74) _) _ _ _); rw [hlast]; k_dflt (refine' use_Q (qp_claimQ c _ hc) ?qk2w8 ?qk3w8 ?qk4w8 ?qk5w8 ?qk9w8 ?qk10w8 ?_; (case qk2w8 => k_asm); (case qk3w8 => k_asm); (case qk4w8 => k_asm); (case qk5w8 => k_asm); (case qk9w8 => exact rfl); (case qk10w8 => ktr_room); k_whole); rintro vq hq tkq ⟨tq, rfl⟩ kkq Fq Nq; clear kkq)
  k_with "exec If" => first | (k_fold; refine wpAny_If ?_) | refine wpAny_If ?_
  k_with "callWith ref" => (k_here; k_dflt (refine' callWith_bo ?kfbNw10 ?kfbMw10 ?_; (case kfbNw10 => k_asm); (case kfbMw10 => k_mem); k_whole))
  k_with "And" => ((with_reducible show BoundAt _ _ _ _ ∧ _); k_dflt (refine ⟨News.get (by k_asm) (by k_mem), ?_⟩); (try dsimp only [List.nil_append, List.cons_append]))
  k_with "KswEnd" => (refine' rows_next ?rFw12 ?rNw12 ?rkw12 ?rsw12 ?rxw12; (case rFw12 => assumption); (case rNw12 => assumption); (case rkw12 => first | exact rfl | k_is | with_unfolding_all exact rfl); (case rsw12 => exact same_z); (case rxw12 => first | exact turn_a (by assumption) (by assumption) (by assumption) (by assumption) (by assumption) (by assumption) (by assumption) | exact turn_b (by assumption) (by assumption) (by assumption) (by assumption) (by assumption) (by assumption) (by assumption) (by assumption) | exact turn_c (by assumption) (by assumption) (by assumption) (by assumption) (by assumption) (by assumption) (by assumption) (by assumption)))
  k_with "subscriptTail Name Slice str ref" => (k_here; (with_reducible show wpAny _ _ (subscriptTail _ (PySem.Expr.Slice (some _) none none _) _ _) _ _ _); (refine' slice_sn_N (hsz := ?hszw13) (s := ⟨_, _, _, _, _⟩) ?kFw13 ?kNw13 ?_; (case kFw13 => k_asm); (case kNw13 => k_asm); (case hszw13 => omega)); intro _ _ _ _ _; (try k_sweep))
  k_with "last exec While" => (k_here; (rename Fr _ _ _ _ => lF'); (rename News _ _ _ _ => lN'); (obtain ⟨ta, tb, tc, lG'⟩ := fr_toks lF'); clear lF'; (with_unfolding_all refine' rows_while u e _ hne lG' lN' ?k1w14 ?k2w14); (case k1w14 => first | exact rfl | k_is | with_unfolding_all exact rfl); clear lG' lN'; intro items n start t U h tk hinv hst hsz FX NX)
  dsimp only [ClmQ]
  k_fill
  intro A s Q E hh hroom X T hret
  obtain ⟨y1, y2, y3, y4, y5⟩ := A
  simp only at hh
  subst hh
  have lk := lk_87 w.params
  dsimp only [fa_87, fb_87, fs_87] at lk
  refine wpAny_call ?_
  (refine' enter_free ?k3 ?k5 ?lk ?k7 ?k8 ?k9 ?kB ?_ ?c2 ?c3 ?c4 ?c5; (case k3 => assumption); (case k5 => assumption); (case lk => assumption); (case k7 => k_is); (case k8 => ktr_room); (case k9 => first | exact BindsTo.of_eq rfl | exact binds_K (by k_in) rfl (by k_is) rfl rfl rfl); (case c5 => decide); (case kB => exact locs rfl); (case c2 => exact rfl); (case c3 => exact rfl); (case c4 => exact rfl); k_whole; intro _ _ _ _; (try dsimp only); (try k_fold))
  clear lk
  k_steps
  all_goals exact hret _ _ _ ⟨[], _, rfl, QRow.empty⟩ (Fr.keep (by k_asm))
theorem be_any {w : World} {mean : ExcName → Option Value} {mg mb : Str → Option Value} (u : Tx) (e : Nat) (M : Int) (t1 t2 t3 : Tok) (hM : 10 ≤ M) (hM2 : M ≤ 18) (he : isEnd e = true) (hx : u.length ≤ 100000) (hxs : ∀ c ∈ u, isSign c = true) :
    ClmQ w mean mg mb 10 87 [.str ⟨u.toArray⟩ t1, .int M t2, .str ⟨#[e]⟩ t3] (BeR u) := by
  cases u with
  | nil => exact be_nil e M t1 t2 t3 hM hM2
  | cons a u =>
    have hl := enc_len (a :: u)
    have hne : encT (a :: u) ≠ [] := by intro h; rw [h] at hl; simp at hl
    have hs : sizeLine = 16777216 := by decide
    have hlen : (⟨(encT (a :: u)).toArray⟩ : Str).length = (encT (a :: u)).length := by simp [Str.length]
    have hlast := List.dropLast_concat_getLast hne
    have hcs := enc_signs hxs _ (List.getLast_mem hne)
    have h256 : (encT (a :: u)).getLast hne < 256 := by
      have := hcs
      simp only [isSign, Bool.and_eq_true, decide_eq_true_eq] at this
      exact this.1.1
    exact be_claim (a :: u) e M t1 t2 t3 hM hM2 he hx (by simpa [Str.length] using hx) hxs hs (by omega) (by omega) hlen _ _ hlast.symm h256 hcs
end
section
open PySem PyProof.Rows
section
variable {prog : Program} {w : World} {A : Around} {E : Value → Shared → Prop} {s : Shared} {h₁ h₀ : Heap} {c P L : Addr} {ps : Array Value} {m mg : Str → Option Value} {bm : Addr} {ob : Obj}
theorem genexp_list_hit {env : Env} {elt iter : Expr} {x : Str} {px : Pos} {ifs : List Expr} {scope : Scope} {cl : List (Str × Addr)} {pos : Pos} {Q : Value → Shared → Prop} {c' : Value}
    (hC : h₀.IsCode c P ps) (M : BMod h₀ env.globals mg bm ob) (hcode : env.code = .ref c) (hf : codeAmong pos ps.toList = some c')
    (hh : A.handled = none) (hco : scope.isCoroutine = false) (hclos : closureFor scope env = pure cl) (hcell : ∀ y ∈ scope.names, y.2 ≠ .cell) (h0 : scope.names.lookup (".0" : Str) = some NameKind.local)
    (hx : scope.names.lookup x = some .local) (hkind : scope.kind = .function) (hroom : A.depth < recursionLimit)
    (h : wpAny (model prog w) A (eval iter env) (fun xv s₁ => ∃ l items, xv = .ref l ∧ s₁.heap.IsList l items ∧ Fr h₀ L s₁.heap m ∧ AllBare s₁.gens ∧ s₁.heap.NoLimit ∧ ∃ K, ∃ (pz : Nat → Bool) (F : Nat → Value → Prop), L ≤ K ∧ K < s₁.heap.objs.size ∧
        (∀ (C : Addr) (A' : Around) E' i v (t : Shared) m₂, A'.handled = none → A'.depth ≤ A.depth + 1 → A'.units ≤ A.units + 8 → items[i]? = some v → Fr h₀ C t.heap m₂ → m₂ x = some v → L < C →
          (∀ b o, s₁.heap.get? b = some o → t.heap.get? b = some o) →
          wpAny (model prog w) A' (forIn ifs true fun c r => if r = true then do let ok ← isTrue c (genEnv scope cl C c' builtinsNs env) (eval c (genEnv scope cl C c' builtinsNs env)); pure (ForInStep.yield ok) else pure (ForInStep.yield r))
            (fun ok s₃ => ok = pz i ∧ Keeps t s₃) E' t) ∧
        (∀ (C : Addr) (A' : Around) E' i v (t : Shared) m₂, A'.handled = none → A'.depth ≤ A.depth + 1 → A'.units ≤ A.units + 8 → items[i]? = some v → pz i = true → Fr h₀ C t.heap m₂ → m₂ x = some v → L < C →
          (∀ b o, s₁.heap.get? b = some o → t.heap.get? b = some o) →
          wpAny (model prog w) A' (eval elt (genEnv scope cl C c' builtinsNs env)) (fun y s₃ => F i y ∧ Keeps t s₃) E' t) ∧
        (∀ (a : Addr) (s₅ : Shared), Fr h₀ L s₅.heap m → AllBare s₅.gens → s₅.os = s₁.os → (∀ b o, s₁.heap.get? b = some o → s₅.heap.get? b = some o) →
          Gen prog w A K a (passing pz items.size 0).length (fun j y => ∃ i, (passing pz items.size 0)[j]? = some i ∧ F i y) s₅ → Q (.ref a) s₅)) E s)
    (hs : ∀ x, genFold iter env x = pure x) :
    wpAny (model prog w) A (eval (.GeneratorExp elt [⟨.Name x px, iter, ifs, 0⟩] scope pos) env) Q E s := by
  refine wpAny_GeneratorExp_walksQD hh hco hclos hcell h0 hx hkind hroom (wpAny_mono h (fun xv s₁ h₁' => ?_) fun _ _ e => e) hs
  obtain ⟨l, items, rfl, hl, F₁, G₁, hlim, K, pz, F, hLK, hK, hq1, hq2, hQ⟩ := h₁'
  have hlt : l < s₁.heap.objs.size := by obtain ⟨_, e, _⟩ := hl; exact Heap.lt_size e
  have up : ∀ b o, s₁.heap.get? b = some o → (s₁.heap.push { cls := .type "list_iterator", data := .fields #[.ref l, .int 0 0] }).get? b = some o := fun b o e => Heap.get?_push_of_some _ e
  have F₂ : Fr h₀ L (s₁.heap.push { cls := .type "list_iterator", data := .fields #[.ref l, .int 0 0] }) m := F₁.keeps up
  refine wpAny_pyIter_list hl ⟨hlim.push _, wpAny_genexprCode_hit hcode (hC.keeps F₂.keep) hf ?_⟩
  have M₃ : BMod (s₁.heap.push { cls := .type "list_iterator", data := .fields #[.ref l, .int 0 0] }) env.globals mg bm ob := M.keeps F₂.keep
  have hl₃ := hlim.push { cls := .type "list_iterator", data := .fields #[.ref l, .int 0 0] }
  have hcw : cStatics ∉ [s₁.heap.objs.size] := fun hm => by
    obtain ⟨_, hns, _⟩ := hlim
    rw [List.mem_singleton] at hm
    exact absurd hns.lt (by rw [hm]; exact Nat.lt_irrefl _)
  refine wpAny_builtinsFor M₃.ns M₃.name M₃.ne M₃.obj M₃.cls M₃.dict M₃.data ?_
  have hLlt : L < s₁.heap.objs.size := F₁.ns.lt
  refine ⟨s₁.heap.objs.size, [s₁.heap.objs.size, l], [s₁.heap.objs.size], items.size, _, _, pz, F, rfl, (fun A' hA => Walks.list hA _ _ (Nat.ne_of_lt hlt) items), ⟨⟨_, Heap.get?_push_size _ rfl, rfl, rfl⟩, hl.push _⟩, ?_, hl₃, hcw, (fun href hhref => ?_), fun a h₅ tk gs hgb hag hsz₅ hk₅ W hat => ?_⟩
  · intro b hb
    show b < (s₁.heap.push _).objs.size
    rw [Heap.size_push]
    rcases List.mem_cons.mp hb with rfl | hb
    · exact Nat.lt_succ_self _
    · rcases List.mem_cons.mp hb with rfl | hb
      · exact Nat.lt_succ_of_lt hlt
      · cases hb
  · have hsz : (s₁.heap.push { cls := .type "list_iterator", data := .fields #[.ref l, .int 0 0] }).objs.size = s₁.heap.objs.size + 1 := Heap.size_push ..
    have hLC : L < (s₁.heap.push { cls := .type "list_iterator", data := .fields #[.ref l, .int 0 0] }).objs.size := by rw [hsz]; exact Nat.lt_succ_of_lt hLlt
    have inB : ∀ (t : Shared) m₂, t.heap.Ns (s₁.heap.push { cls := .type "list_iterator", data := .fields #[.ref l, .int 0 0] }).objs.size m₂ → (∀ b ∈ List.range (s₁.heap.push { cls := .type "list_iterator", data := .fields #[.ref l, .int 0 0] }).objs.size, b ∉ [s₁.heap.objs.size] → ∀ o, href.get? b = some o → t.heap.get? b = some o) →
        Fr h₀ (s₁.heap.push { cls := .type "list_iterator", data := .fields #[.ref l, .int 0 0] }).objs.size t.heap m₂ ∧ ∀ b o, s₁.heap.get? b = some o → t.heap.get? b = some o := fun t m₂ hn hkp =>
      have kk : ∀ b o, s₁.heap.get? b = some o → t.heap.get? b = some o := fun b o e => hkp b (List.mem_range.mpr (by rw [hsz]; exact Nat.lt_succ_of_lt (Heap.lt_size e))) (fun hm => by rw [List.mem_singleton] at hm; exact absurd (Heap.lt_size e) (by rw [hm]; exact Nat.lt_irrefl _)) o (hhref b o (up b o e))
      ⟨⟨hn, fun b o e => kk b o (F₁.keep b o e), Nat.le_trans F₁.above (Nat.le_of_lt hLC)⟩, kk⟩
    exact ⟨fun A' E' i v t m₂ hA hD hU hP hn hm hkp => hq1 _ A' E' i v t m₂ hA hD hU hP (inB t m₂ hn hkp).1 hm hLC (inB t m₂ hn hkp).2,
      fun A' E' i v t m₂ hA hD hU hP hp hn hm hkp => hq2 _ A' E' i v t m₂ hA hD hU hP hp (inB t m₂ hn hkp).1 hm hLC (inB t m₂ hn hkp).2⟩
  have hsz : (s₁.heap.push { cls := .type "list_iterator", data := .fields #[.ref l, .int 0 0] }).objs.size = s₁.heap.objs.size + 1 := Heap.size_push ..
  refine hQ a _ (F₂.keeps hk₅) (G₁.push hgb) rfl (fun b o e => hk₅ b o (up b o e)) ⟨_, _, _, _, W, hat, (fun i s' st => st.1.typeIs), List.mem_cons_self, ?_, ?_⟩
  · intro b hb
    show b < h₅.objs.size
    rw [hsz₅]
    rcases List.mem_cons.mp hb with rfl | hb
    · exact Nat.lt_succ_self _
    · rcases List.mem_cons.mp hb with rfl | hb
      · exact Nat.lt_succ_of_lt hag
      · exact Nat.lt_succ_of_lt (Nat.lt_trans (List.mem_range.mp hb) hag)
  · intro b hb
    rcases List.mem_cons.mp hb with rfl | hb
    · exact Nat.lt_of_lt_of_le hK (by rw [hsz]; exact Nat.le_succ _)
    · rw [List.mem_singleton] at hb
      rw [hb]; exact hK
end
end
section
open PySem PySem.W PyProof.Rows PySem.Spec PySem.Calls
abbrev wordCs : Str := Str.ofString "abcdfeghijklmnopqrstuvwxyzABCDEFGHIJKLMNOPQRSTUVWXYZ0123456789_ßàáâãäåæçèéêëìíîïðñòóôõöøùúûüýþÿÀÁÂÃÄÅÆÇÈÉÊËÌÍÎÏÐÑÒÓÔÕÖØÙÚÛÜÝÞ"
noncomputable def lexEs (g : Nat → Int) (k t : Nat → Tok) (xS q1 q2 : Addr) (st : Value) (token : Str) : List DictEntry := [
  ⟨g 0, .str (Str.ofString "instream") (k 0), .ref xS⟩, ⟨g 1, .str (Str.ofString "infile") (k 1), .none⟩, ⟨g 2, .str (Str.ofString "posix") (k 2), .bool true⟩, ⟨g 3, .str (Str.ofString "eof") (k 3), .none⟩,
  ⟨g 4, .str (Str.ofString "commenters") (k 4), .str (Str.ofString "") (t 0)⟩, ⟨g 5, .str (Str.ofString "wordchars") (k 5), .str wordCs (t 1)⟩, ⟨g 6, .str (Str.ofString "whitespace") (k 6), .str (Str.ofString " \t\r\n") (t 2)⟩,
  ⟨g 7, .str (Str.ofString "whitespace_split") (k 7), .bool true⟩, ⟨g 8, .str (Str.ofString "quotes") (k 8), .str (Str.ofString "'\"") (t 3)⟩, ⟨g 9, .str (Str.ofString "escape") (k 9), .str (Str.ofString "\\") (t 4)⟩,
  ⟨g 10, .str (Str.ofString "escapedquotes") (k 10), .str (Str.ofString "\"") (t 5)⟩, ⟨g 11, .str (Str.ofString "state") (k 11), st⟩, ⟨g 12, .str (Str.ofString "pushback") (k 12), .ref q1⟩, ⟨g 13, .str (Str.ofString "lineno") (k 13), .int 1 (t 6)⟩,
  ⟨g 14, .str (Str.ofString "debug") (k 14), .int 0 (t 7)⟩, ⟨g 15, .str (Str.ofString "token") (k 15), .str token (t 8)⟩, ⟨g 16, .str (Str.ofString "filestack") (k 16), .ref q2⟩, ⟨g 17, .str (Str.ofString "source") (k 17), .none⟩,
  ⟨g 18, .str (Str.ofString "_punctuation_chars") (k 18), .str (Str.ofString "") (t 9)⟩]
def LexDict (xS q1 q2 : Addr) (st : Value) (token : Str) (o : Obj) : Prop := ∃ g k t, o = dictOf (lexEs g k t xS q1 q2 st token) 19
noncomputable def stStr : St → Str
  | .start => Str.ofString " "
  | .word => Str.ofString "a"
  | .sq => Str.ofString "'"
  | .dq => Str.ofString "\""
structure LexAt where
  od : Obj
  oS : Obj
  st : St
  tk : Tok
  k : Tx
  qd : Bool
  p : Nat
def LexInv (b : Tx) (xS q1 q2 : Addr) (ws : List Tx) (c : LexAt) : Prop :=
  ∃ sv kv, sv = stStr c.st ∧ kv = ⟨c.k.toArray⟩ ∧ LexDict xS q1 q2 (.str sv c.tk) kv c.od ∧ SioDict b c.p c.oS ∧ c.p ≤ b.length ∧ lexF c.st c.k (b.drop c.p) = some ws ∧ (c.st = .start → c.k = [] ∧ c.qd = false) ∧ (c.st = .word → c.qd = true ∨ c.k ≠ []) ∧ (c.st = .sq ∨ c.st = .dq → c.qd = true ∨ c.qd = false) ∧ c.k.length ≤ c.p
section
variable {prog : Program} {w : World} {A : Around} {E : Value → Shared → Prop} {s : Shared} {x y : Str} {t u : Tok} {Q : Value → Shared → Prop} {b : Bool} {c : Nat}
theorem in_sign (e : decide (c ∈ x.cps.toList) = b) (h : Q (.bool b) s) : wpAny (model prog w) A (compareOp .In (.str ⟨#[c]⟩ u) (.str x t)) Q E s := PyProof.Rows.in_str (by rw [StrLaws.found_one, e]; exact h)
theorem notIn_sign (e : decide (c ∈ x.cps.toList) = b) (h : Q (.bool !b) s) : wpAny (model prog w) A (compareOp .NotIn (.str ⟨#[c]⟩ u) (.str x t)) Q E s := PyProof.Rows.notIn_str (by rw [StrLaws.found_one, e]; exact h)
theorem in_text (e : (!(Builtin.Str.occurrences x y 0 x.length 1).isEmpty) = b) (h : Q (.bool b) s) : wpAny (model prog w) A (compareOp .In (.str y u) (.str x t)) Q E s := PyProof.Rows.in_str (by rw [e]; exact h)
theorem eq_text (e : (x == y) = b) (h : Q (.bool b) s) : wpAny (model prog w) A (compareOp .Eq (.str x t) (.str y u)) Q E s := PyProof.Rows.eq_str (by rw [e]; exact h)
end
theorem sign_ne {c d : Nat} {x : Str} (h : c ≠ d) (hx : x = ⟨#[d]⟩) : ((⟨#[c]⟩ : Str) == x) = false := by
  subst hx
  refine beq_false_of_ne fun e => h ?_
  simpa using e
theorem drop_cons {b : Tx} {p ch : Nat} {rest : Tx} (h : b.drop p = ch :: rest) : b[p]? = some ch ∧ b.drop (p + 1) = rest ∧ p < b.length := by
  have hl : p < b.length := by
    cases Nat.lt_or_ge p b.length with
    | inl h => exact h
    | inr hg => rw [List.drop_of_length_le hg] at h; cases h
  rw [List.drop_eq_getElem_cons hl] at h
  injection h with h1 h2
  exact ⟨by rw [List.getElem?_eq_getElem hl, h1], h2, hl⟩
theorem drop_nil {b : Tx} {p : Nat} (h : b.drop p = []) : b[p]? = none ∧ b.length ≤ p := by
  have := List.drop_eq_nil_iff.mp h
  exact ⟨List.getElem?_eq_none this, this⟩
theorem Str_eqL {x y : Str} (h : x.cps.toList = y.cps.toList) : x = y := by
  obtain ⟨⟨a⟩⟩ := x
  obtain ⟨⟨b⟩⟩ := y
  simp at h
  rw [h]
theorem lexd_of {g : Nat → Int} {k t : Nat → Tok} {a : Tok} {xS q1 q2 : Addr} {st : Value} {token : Str} : LexDict xS q1 q2 st token (dictOf [⟨g 0, .str (Str.ofString "instream") (k 0), .ref xS⟩, ⟨g 1, .str (Str.ofString "infile") (k 1), .none⟩, ⟨g 2, .str (Str.ofString "posix") (k 2), .bool true⟩, ⟨g 3, .str (Str.ofString "eof") (k 3), .none⟩, ⟨g 4, .str (Str.ofString "commenters") (k 4), .str (Str.ofString "") (t 0)⟩, ⟨g 5, .str (Str.ofString "wordchars") (k 5), .str wordCs (t 1)⟩, ⟨g 6, .str (Str.ofString "whitespace") (k 6), .str (Str.ofString " \t\r\n") (t 2)⟩, ⟨g 7, .str (Str.ofString "whitespace_split") (k 7), .bool true⟩, ⟨g 8, .str (Str.ofString "quotes") (k 8), .str (Str.ofString "'\"") (t 3)⟩, ⟨g 9, .str (Str.ofString "escape") (k 9), .str (Str.ofString "\\") (t 4)⟩, ⟨g 10, .str (Str.ofString "escapedquotes") (k 10), .str (Str.ofString "\"") (t 5)⟩, ⟨g 11, .str (Str.ofString "state") (k 11), st⟩, ⟨g 12, .str (Str.ofString "pushback") (k 12), .ref q1⟩, ⟨g 13, .str (Str.ofString "lineno") (k 13), .int 1 (t 6)⟩, ⟨g 14, .str (Str.ofString "debug") (k 14), .int 0 (t 7)⟩, ⟨g 15, .str (Str.ofString "token") (k 15), .str token a⟩, ⟨g 16, .str (Str.ofString "filestack") (k 16), .ref q2⟩, ⟨g 17, .str (Str.ofString "source") (k 17), .none⟩, ⟨g 18, .str (Str.ofString "_punctuation_chars") (k 18), .str (Str.ofString "") (t 9)⟩] 19) := ⟨g, k, fun i => if i = 8 then a else t i, rfl⟩

theorem cls_b {ch : Nat} : ch ∈ (Str.ofString " \t\r\n").cps.toList ↔ isBlank ch = true := by
  show ch ∈ [32, 9, 13, 10] ↔ _
  simp [isBlank, or_assoc]
theorem cls_q {ch : Nat} : ch ∈ (Str.ofString "'\"").cps.toList ↔ ch = 39 ∨ ch = 34 := by
  show ch ∈ [39, 34] ↔ _
  simp
theorem cls_e {ch : Nat} : ch ∈ (Str.ofString "\\").cps.toList ↔ ch = 92 := by
  show ch ∈ [92] ↔ _
  simp
theorem cls_w : ∀ ch ∈ wordCs.cps.toList, ch ≠ 39 ∧ ch ≠ 34 := by decide +kernel
theorem sign_is {c d : Nat} {x : Str} (hx : x = ⟨#[d]⟩) : ((⟨#[c]⟩ : Str) == x) = true ↔ c = d := by
  subst hx
  rw [beq_iff_eq]
  constructor
  · intro e; simpa using e
  · rintro rfl; rfl
theorem tw_b {ch : Nat} {k r : Tx} {ws : List Tx} (hb : ch ∈ (Str.ofString " \t\r\n").cps.toList) (h : lexF .word k (ch :: r) = some ws) : ∃ ws', ws = k :: ws' ∧ lexF .start [] r = some ws' := by
  rw [cls_b] at hb
  simp only [lexF, hb, if_true] at h
  cases hm : lexF .start [] r with
  | none => rw [hm] at h; cases h
  | some zs => rw [hm] at h; exact ⟨zs, (Option.some.inj h).symm, rfl⟩
theorem no_b {ch : Nat} (hb : ch ∉ (Str.ofString " \t\r\n").cps.toList) : isBlank ch = false := by rw [cls_b] at hb; exact Bool.eq_false_iff.mpr hb
theorem b39 : isBlank 39 = false := rfl
theorem b34 : isBlank 34 = false := rfl
theorem b92 : isBlank 92 = false := rfl
theorem tw_q {ch : Nat} {k r : Tx} {ws : List Tx} (hq : ch ∈ (Str.ofString "'\"").cps.toList) (h : lexF .word k (ch :: r) = some ws) : (ch = 39 ∧ lexF .sq k r = some ws) ∨ (ch = 34 ∧ lexF .dq k r = some ws) := by
  rw [cls_q] at hq
  rcases hq with rfl | rfl
  · exact .inl ⟨rfl, by simpa [lexF, b39] using h⟩
  · exact .inr ⟨rfl, by simpa [lexF, b34] using h⟩
theorem tw_e {ch : Nat} {k r : Tx} {ws : List Tx} (he : ch ∈ (Str.ofString "\\").cps.toList) (h : lexF .word k (ch :: r) = some ws) : False := by
  rw [cls_e] at he
  subst he
  simp [lexF, b92] at h
theorem tw_o {ch : Nat} {k r : Tx} {ws : List Tx} (hb : ch ∉ (Str.ofString " \t\r\n").cps.toList) (hq : ch ∉ (Str.ofString "'\"").cps.toList) (he : ch ∉ (Str.ofString "\\").cps.toList) (h : lexF .word k (ch :: r) = some ws) : lexF .word (k ++ [ch]) r = some ws := by
  rw [cls_q, not_or] at hq
  rw [cls_e] at he
  simpa [lexF, no_b hb, hq.1, hq.2, he] using h
theorem ts_b {ch : Nat} {k r : Tx} {ws : List Tx} (hb : ch ∈ (Str.ofString " \t\r\n").cps.toList) (h : lexF .start k (ch :: r) = some ws) : False := by
  rw [cls_b] at hb
  simp [lexF, hb] at h
theorem ts_e {ch : Nat} {k r : Tx} {ws : List Tx} (he : ch ∈ (Str.ofString "\\").cps.toList) (h : lexF .start k (ch :: r) = some ws) : False := by
  rw [cls_e] at he
  subst he
  simp [lexF, b92] at h
theorem ts_q {ch : Nat} {k r : Tx} {ws : List Tx} (hq : ch ∈ (Str.ofString "'\"").cps.toList) (h : lexF .start k (ch :: r) = some ws) : (ch = 39 ∧ lexF .sq [] r = some ws) ∨ (ch = 34 ∧ lexF .dq [] r = some ws) := by
  rw [cls_q] at hq
  rcases hq with rfl | rfl
  · exact .inl ⟨rfl, by simpa [lexF, b39] using h⟩
  · exact .inr ⟨rfl, by simpa [lexF, b34] using h⟩
theorem ts_o {ch : Nat} {k r : Tx} {ws : List Tx} (hb : ch ∉ (Str.ofString " \t\r\n").cps.toList) (hq : ch ∉ (Str.ofString "'\"").cps.toList) (he : ch ∉ (Str.ofString "\\").cps.toList) (h : lexF .start k (ch :: r) = some ws) : lexF .word [ch] r = some ws := by
  rw [cls_q, not_or] at hq
  rw [cls_e] at he
  simpa [lexF, no_b hb, hq.1, hq.2, he] using h
theorem ts_w {ch : Nat} {k r : Tx} {ws : List Tx} (hb : ch ∉ (Str.ofString " \t\r\n").cps.toList) (hw : ch ∈ wordCs.cps.toList) (he : ch ∉ (Str.ofString "\\").cps.toList) (h : lexF .start k (ch :: r) = some ws) : lexF .word [ch] r = some ws :=
  ts_o hb (by rw [cls_q, not_or]; exact cls_w ch hw) he h
theorem tq_y {ch : Nat} {k r : Tx} {ws : List Tx} (h1 : ((⟨#[ch]⟩ : Str) == Str.ofString "'") = true) (h : lexF .sq k (ch :: r) = some ws) : lexF .word k r = some ws := by
  have := (sign_is (c := ch) (d := 39) (by decide)).mp h1
  subst this
  simpa [lexF] using h
theorem tq_n {ch : Nat} {k r : Tx} {ws : List Tx} (h1 : ((⟨#[ch]⟩ : Str) == Str.ofString "'") = false) (h : lexF .sq k (ch :: r) = some ws) : lexF .sq (k ++ [ch]) r = some ws := by
  have : ch ≠ 39 := fun e => by rw [(sign_is (c := ch) (d := 39) (by decide)).mpr e] at h1; cases h1
  simpa [lexF, this] using h
theorem td_y {ch : Nat} {k r : Tx} {ws : List Tx} (h1 : ((⟨#[ch]⟩ : Str) == Str.ofString "\"") = true) (h : lexF .dq k (ch :: r) = some ws) : lexF .word k r = some ws := by
  have := (sign_is (c := ch) (d := 34) (by decide)).mp h1
  subst this
  simpa [lexF] using h
theorem td_e {ch : Nat} {k r : Tx} {ws : List Tx} (he : ch ∈ (Str.ofString "\\").cps.toList) (h : lexF .dq k (ch :: r) = some ws) : False := by
  rw [cls_e] at he
  subst he
  simp [lexF] at h
theorem td_n {ch : Nat} {k r : Tx} {ws : List Tx} (h1 : ((⟨#[ch]⟩ : Str) == Str.ofString "\"") = false) (he : ch ∉ (Str.ofString "\\").cps.toList) (h : lexF .dq k (ch :: r) = some ws) : lexF .dq (k ++ [ch]) r = some ws := by
  have : ch ≠ 34 := fun e => by rw [(sign_is (c := ch) (d := 34) (by decide)).mpr e] at h1; cases h1
  rw [cls_e] at he
  simpa [lexF, this, he] using h
theorem glue_sign (k : Tx) (ch : Nat) : (⟨k.toArray⟩ ++ ⟨#[ch]⟩ : Str) = ⟨(k ++ [ch]).toArray⟩ := Str_eqL (by rw [Str.cps_append]; simp)
theorem News.tl {h₀ h : Heap} {L : Addr} {p : Addr × Obj} {l : List (Addr × Obj)} (N : News h₀ L h (p :: l)) : News h₀ L h l := fun q hq => N q (.tail _ hq)
theorem empty_tok {k : Tx} (h : ((⟨k.toArray⟩ : Str) == Str.ofString "") = true) : k = [] := by
  have e := eq_of_beq h
  have e2 : Str.ofString "" = ⟨([] : Tx).toArray⟩ := by decide
  rw [e2] at e
  simpa using e
theorem len_zero {k : Tx} (h : ((⟨k.toArray⟩ : Str).length : Int) = 0) : k = [] := by
  simp [Str.length] at h
  exact h
theorem rt_same2 {m₀ uU : Str → Option Value} {v1 v4 : Option Value} {v2 : Value} : ∀ z, z ≠ Str.ofString "quoted" → [Str.ofString "nextchar", Str.ofString "escapedstate"].contains z = false →
    (fun y => if y = Str.ofString "quoted" then v4 else if y = Str.ofString "nextchar" then v1 else kstB (fun z => if [Str.ofString "nextchar", Str.ofString "escapedstate"].contains z = true then uU z else m₀ z) [(Str.ofString "quoted", v2)] y) z = m₀ z := by
  intro z h1 h2
  have h3 : z ≠ Str.ofString "nextchar" := by
    intro e; subst e; simp at h2
  show (if z = Str.ofString "quoted" then v4 else if z = Str.ofString "nextchar" then v1 else if z = Str.ofString "quoted" then some v2 else if [Str.ofString "nextchar", Str.ofString "escapedstate"].contains z = true then uU z else m₀ z) = m₀ z
  rw [if_neg h1, if_neg h3, if_neg h1, if_neg (by rw [h2]; decide)]
theorem led_sub {x dx xS dS q1 q2 : Addr} {a o1 b' o2 c d o1' o2' : Obj} : ∀ p ∈ [(x, a), (dx, o1), (xS, b'), (dS, o2), (q1, c), (q2, d)], p.1 ∉ [dx, dS] → p ∈ [(x, a), (dx, o1'), (xS, b'), (dS, o2'), (q1, c), (q2, d)] := by
  intro p hp hn
  simp only [List.mem_cons, List.not_mem_nil, or_false] at hp hn ⊢
  rcases hp with rfl | rfl | rfl | rfl | rfl | rfl
  · exact .inl rfl
  · exact absurd (.inl rfl) hn
  · exact .inr (.inr (.inl rfl))
  · exact absurd (.inr rfl) hn
  · exact .inr (.inr (.inr (.inr (.inl rfl))))
  · exact .inr (.inr (.inr (.inr (.inr rfl))))
theorem rt_end {b rest : Tx} {ws : List Tx} {x dx xS dS q1 q2 : Addr} {h₀ : Heap} {L : Addr} {s : Shared} {m₀ m' : Str → Option Value} {h' : Heap} {tkH : Nat} {c : LexAt} {od' oS' : Obj} {tkS : Tok} {sv kv : Str} {p' : Nat} (st' : St) (k'' : Tx) (qd' : Bool)
    (F : Fr h₀ L h' m') (N : News h₀ L h' [(x, instObj 783 dx), (dx, od'), (xS, instObj 648 dS), (dS, oS'), (q1, dqObj), (q2, dqObj)])
    (hod : LexDict xS q1 q2 (.str sv tkS) kv od') (hsv : sv = stStr st') (hkv : kv = ⟨k''.toArray⟩) (hS : SioDict b (p' + 1) oS') (hdr' : b.drop (p' + 1) = rest) (hlt : p' < b.length) (hlex : lexF st' k'' rest = some ws)
    (hq : m' (Str.ofString "quoted") = some (.bool qd')) (hr : ∀ z, z ≠ Str.ofString "quoted" → [Str.ofString "nextchar", Str.ofString "escapedstate"].contains z = false → m' z = m₀ z)
    (i1 : st' ≠ .start) (i2 : st' = .word → qd' = true ∨ k'' ≠ []) (i4 : k''.length ≤ p' + 1) (hcp : c.p = p') :
    KswEnd h₀ L s (fun c => [(x, instObj 783 dx), (dx, c.od), (xS, instObj 648 dS), (dS, c.oS), (q1, dqObj), (q2, dqObj)]) (fun c => [(Str.ofString "quoted", .bool c.qd)]) (fun _ => True) [Str.ofString "nextchar", Str.ofString "escapedstate"] m₀ (LexInv b xS q1 q2 ws) (fun c => b.length - c.p) c { s with heap := h', toks := tkH } := by
  refine ksw_end ⟨od', oS', st', tkS, k'', qd', p' + 1⟩ F N (fun p hp => hp) trivial ?_ ?_ ?_ ?_
  · intro p hp
    rw [List.mem_singleton.mp hp]
    exact hq
  · exact fun z h1 h2 => hr z (h1 _ (.head _)) h2
  · exact ⟨sv, kv, hsv, hkv, hod, hS, hlt, by show lexF st' k'' (b.drop (p' + 1)) = _; rw [hdr']; exact hlex, fun h => absurd h i1, i2, fun _ => by cases qd' <;> simp, i4⟩
  · show b.length - (p' + 1) < b.length - c.p
    rw [hcp]; omega
theorem rt_same {m₀ uU : Str → Option Value} {v1 : Option Value} {v2 : Value} : ∀ z, z ≠ Str.ofString "quoted" → [Str.ofString "nextchar", Str.ofString "escapedstate"].contains z = false →
    (fun y => if y = Str.ofString "nextchar" then v1 else kstB (fun z => if [Str.ofString "nextchar", Str.ofString "escapedstate"].contains z = true then uU z else m₀ z) [(Str.ofString "quoted", v2)] y) z = m₀ z := by
  intro z h1 h2
  have h3 : z ≠ Str.ofString "nextchar" := by
    intro e; subst e; simp at h2
  show (if z = Str.ofString "nextchar" then v1 else if z = Str.ofString "quoted" then some v2 else if [Str.ofString "nextchar", Str.ofString "escapedstate"].contains z = true then uU z else m₀ z) = m₀ z
  rw [if_neg h3, if_neg h1, if_neg (by rw [h2]; decide)]
def Hold (P : Prop) : Prop := P
theorem Hold.out {P : Prop} (h : Hold P) : P := h
theorem news_upd {h₀ h h' : Heap} {L d : Addr} {o o' : Obj} {news news' : List (Addr × Obj)} (N : News h₀ L h news) (hN : ∀ p ∈ news, p.1 ∉ [d] → h'.get? p.1 = some p.2 ∧ p.1 ≠ L ∧ h₀.get? p.1 = none) (U : Upd d o o' news news') (ho : h'.get? d = some o') : News h₀ L h' news' := by
  obtain ⟨pre, post, rfl, rfl, a, c⟩ := U.split
  intro p hp
  rcases List.mem_append.mp hp with hp | hp
  · exact hN p (List.mem_append.mpr (.inl hp)) (by rw [List.mem_singleton]; exact a p hp)
  · rcases List.mem_cons.mp hp with rfl | hp
    · exact ⟨ho, (N (d, o) (List.mem_append.mpr (.inr (.head _)))).2⟩
    · exact hN p (List.mem_append.mpr (.inr (.tail _ hp))) (by rw [List.mem_singleton]; exact c p hp)
theorem use_read {w : World} {mean : ExcName → Option Value} {mg mb : Str → Option Value} {A A₀ : Around} {cn : Str} {cs : Scope} {a L xS dS : Addr} {ccd : Value} {cl : List (Str × Addr)} {outer : List Env} {base h₀ : Heap} {m : Str → Option Value} {s : Shared} {Q E : Value → Shared → Prop} {news : List (Addr × Obj)} {nw' : Obj → List (Addr × Obj)} {od : Obj} {b : Tx} {p : Nat} {t : Tok}
    (hd : @LT.lt Nat _ dS xS) (hod : SioDict b p od) (hp : p ≤ 1000000) (hl : b.length ≤ 1000000) (B : Below A₀ base outer h₀) (F : Fr h₀ L s.heap m) (X : (KF w.params).In h₀) (N : News h₀ L s.heap news) (T : Top viewQ (looseW viewQ looseN) mean mg mb h₀) (hx : (xS, instObj 648 dS) ∈ news) (hdm : (dS, od) ∈ news) (U : ∀ o', Upd dS od o' news (nw' o'))
    (hA : A.frames = some (envX cn cs L a ccd cl :: outer)) (hh : A.handled = none) (hk : cs.kind = .function) (hroom : A.depth + 4 < recursionLimit)
    (hc : ∀ c tk o' h' tk', b[p]? = some c → SioDict b (p + 1) o' → Fr h₀ L h' m → News h₀ L h' (nw' o') → Q (.str ⟨#[c]⟩ tk) { s with heap := h', toks := tk' })
    (he : b.length ≤ p → ∀ tk o' h' tk', SioDict b p o' → Fr h₀ L h' m → News h₀ L h' (nw' o') → Q (.str ⟨#[]⟩ tk) { s with heap := h', toks := tk' }) :
    wpAny (model PySem.Challenge.rw_oy0446_01.row.prog w) A (call (.ref 594) [.ref xS, .int 1 t]) Q E s := by
  refine use_M (nw := [(xS, instObj 648 dS), (dS, od)]) (sioRead_claim xS dS hd b p od hod t hp hl) B F X N T ?hs hA hh hk hroom ?hm ?_
  case hs =>
    intro q hq
    rcases List.mem_cons.mp hq with rfl | hq
    · exact hx
    · rw [List.mem_singleton.mp hq]; exact hdm
  case hm => intro q hq; cases List.mem_singleton.mp hq; exact ⟨_, hdm⟩
  rintro v h' tk' (⟨c, tk, o', e, rfl, ho, hS⟩ | ⟨hlen, tk, o', rfl, ho, hS⟩) kk F' hN'
  · exact hc c tk o' h' tk' e hS F' (news_upd N hN' (U o') ho)
  · exact he hlen tk o' h' tk' hS F' (news_upd N hN' (U o') ho)
section
set_option maxHeartbeats 8000000 in
theorem rt_claim {w : World} {mean : ExcName → Option Value} {mg mb : Str → Option Value} (x dx xS dS q1 q2 : Addr) (h1 : @LT.lt Nat _ dx x) (h2 : @LT.lt Nat _ x dS) (h3 : @LT.lt Nat _ dS xS) (h4 : @LT.lt Nat _ xS q1) (h5 : @LT.lt Nat _ q1 q2) (b : Tx) (hl : b.length ≤ 1000000) (hn : ∀ c ∈ b, c ≠ 10)
    (g : Nat → Int) (k t : Nat → Tok) (tk0 : Tok) (p : Nat) (hp : p ≤ b.length) (oS : Obj) (hS : SioDict b p oS) (ws : List Tx) (hw : lexF .start [] (b.drop p) = some ws) :
    ClmM w mean mg mb 12 751 [(x, instObj 783 dx), (dx, dictOf (lexEs g k t xS q1 q2 (.str (Str.ofString " ") tk0) (Str.ofString "")) 19), (xS, instObj 648 dS), (dS, oS), (q1, dqObj), (q2, dqObj)] [dx, dS] [.ref x] (fun v h' => ∃ w tk, v = .str ⟨w.toArray⟩ tk ∧ ∃ od oS p', h'.get? dx = some od ∧ h'.get? dS = some oS ∧ SioDict b p' oS ∧ p' ≤ b.length ∧
      ((ws = [w] ∧ LexDict xS q1 q2 .none (Str.ofString "") od) ∨ (∃ ws' tk', ws = w :: ws' ∧ lexF .start [] (b.drop p') = some ws' ∧ LexDict xS q1 q2 (.str (Str.ofString " ") tk') (Str.ofString "") od))) := by
  k_with_none
  k_with "execs cons" => k_fold
  k_with "exec If" => first | (k_fold; refine wpAny_If ?_) | refine wpAny_If ?_
  k_with "exec While" => (k_here; (rename Fr _ _ _ _ => lF'); (rename News _ _ _ _ => lN'); k_dflt (with_unfolding_all refine' ksw_while (σ := LexAt) (fun c => [(x, instObj 783 dx), (dx, c.od), (xS, instObj 648 dS), (dS, c.oS), (q1, dqObj), (q2, dqObj)]) (fun c => [(Str.ofString "quoted", .bool c.qd)]) (fun _ => True) [Str.ofString "nextchar", Str.ofString "escapedstate"] (LexInv b xS q1 q2 ws) (fun c => b.length - c.p) ⟨_, oS, .start, tk0, [], false, p⟩ lF' lN' trivial ?wk1 ?wk2 ?wk3); clear lF' lN'; (case' wk3 => (intro c uU hU tkU hfU hpU FX NX; refine Hold.out ?_)))
  k_with "call ref" => (k_here; (with_reducible show wpAny _ _ (call (Value.ref 594) _) _ _ _); k_dflt (refine' use_read ?a1 ?a2 ?a3 ?a4 ?k1 ?k2 ?k3 ?k4 ?k5 ?k6 ?k7 ?k8 rfl rfl ?k9 ?k10 ?_ ?_; (case a1 => assumption); (case a2 => assumption); (case a3 => omega); (case a4 => assumption); (case k1 => k_asm); (case k2 => k_asm); (case k3 => k_asm); (case k4 => k_asm); (case k5 => k_asm); (case k6 => k_mem); (case k7 => k_mem); (case k8 => (intro o'; k_upd)); (case k9 => exact rfl); (case k10 => ktr_room); k_whole) <;> (first | (intro cR tkR oR hR tkQ hce hSn FR NR; obtain rfl : _ = cR := Option.some.inj (hch.symm.trans hce)) | (intro hle tkR oR hR tkQ hSn FR NR; exfalso; omega) | (intro cR tkR oR hR tkQ hce; exfalso; rw [hend] at hce; cases hce) | (intro hle tkR oR hR tkQ hSn FR NR)))
  k_with "compareOp In str str" => (k_here; k_dflt (refine' in_sign (c := ch) rfl ?_; k_whole))
  k_with "compareOp In str str" => (k_here; k_dflt (first | (refine' in_sign (b := _) ?e9 ?_; (case e9 => assumption); k_whole) | (refine' in_text (b := true) ?e9 ?_; (case e9 => decide +kernel); k_whole) | (refine' in_text (b := false) ?e9 ?_; (case e9 => decide +kernel); k_whole)))
  k_with "truthy str" => (k_here; (with_reducible show wpAny _ _ (PySem.truthy (Value.str ⟨#[_]⟩ _)) _ _ _); k_dflt (refine' KXt.truthy (b := true) rfl (Nat.le_of_ble_eq_true rfl) ?_; k_whole); intro tkT)
  k_with "truthy str" => (k_here; (with_reducible show wpAny _ _ (PySem.truthy (Value.str ⟨#[]⟩ _)) _ _ _); k_dflt (refine' KXt.truthy (b := false) rfl (Nat.le_of_ble_eq_true rfl) ?_; k_whole); intro tkT)
  k_with "compareOp NotIn str str" => (k_here; k_dflt (refine' notIn_sign (b := _) ?e9 ?_; (case e9 => assumption); k_whole))
  k_with "compareOp Eq str str" => (k_here; k_dflt (first | (refine' eq_text (b := _) ?e9 ?_; (case e9 => assumption); k_whole) | (refine' eq_text (b := true) ?e9 ?_; (case e9 => decide +kernel); k_whole) | (refine' eq_text (b := false) ?e9 ?_; (case e9 => decide +kernel); k_whole)))
  dsimp only [ClmM, lexEs]
  k_fill
  intros
  rename_i hret
  have lk := lk_751 w.params
  dsimp only [fa_751, fb_751, fs_751] at lk
  refine wpAny_call ?_
  (refine' code_defG ?k1 ?k2 ?k3 ?k4 ?k5 ?kA ?kF ?kK ?lk ?k7 ?k8 ?k9 ?kB ?_ ?c2 ?c3 ?c4 ?c5; (case kA => exact rfl); (case kF => exact rfl); (case kK => assumption); (case k1 => k_asm); (case k2 => k_asm); (case k3 => k_asm); (case k4 => k_asm); (case k5 => k_asm); (case lk => assumption); (case k7 => k_is); (case k8 => ktr_room); (case k9 => first | exact BindsTo.of_eq rfl | exact binds_K (by k_in) rfl (by k_is) rfl rfl rfl); (case c5 => decide); (case kB => exact locs rfl); (case c2 => exact rfl); (case c3 => exact rfl); (case c4 => exact rfl); k_whole; intro _ _ _ _ _ _ _ _ _ _; (try dsimp only); (try k_fold))
  clear lk
  k_steps

  · rcases c with ⟨od, oS', st, tkS, k', qd, p'⟩
    dsimp only [LexInv] at hpU FX NX
    obtain ⟨sv, kv, rfl, rfl, ⟨g', kk', t', rfl⟩, hS', hp', hlex, i1, i2, i3, i4⟩ := hpU
    obtain ⟨g1, g2, g3, n1, n2, n3, u1, u2, u3, rfl⟩ := id hS'
    dsimp only [lexEs] at NX
    cases hdr : b.drop p' with
    | nil =>
      obtain ⟨hend, hle0⟩ := drop_nil hdr
      rw [hdr] at hlex
      cases st with
      | start => cases hlex
      | sq => cases hlex
      | dq => cases hlex
      | word =>
        dsimp only [stStr] at NX
        unfold Hold
        have j := i2 rfl
        clear i1 i2 i3
        k_steps
        · refine hret _ _ _ ⟨k', _, rfl, _, _, p', News.get (by k_asm) (by k_mem), News.get (by k_asm) (by k_mem), hSn, hp', .inl ⟨(Option.some.inj hlex).symm, lexd_of⟩⟩ (keeps_mut (by assumption) (by assumption) (by assumption) (by first | assumption | exact News.tl (by assumption)) led_sub)
        · rcases j with h | h
          · exact absurd (by assumption : qd = false) (by rw [h]; decide)
          · exact absurd (empty_tok (by assumption)) h
        · refine hret _ _ _ ⟨k', _, rfl, _, _, p', News.get (by k_asm) (by k_mem), News.get (by k_asm) (by k_mem), hSn, hp', .inl ⟨(Option.some.inj hlex).symm, lexd_of⟩⟩ (keeps_mut (by assumption) (by assumption) (by assumption) (by first | assumption | exact News.tl (by assumption)) led_sub)
    | cons ch rest =>
      obtain ⟨hch, hdr', hlt⟩ := drop_cons hdr
      have hne10 : ch ≠ 10 := hn ch (List.mem_of_getElem? hch)
      have n10 : ((⟨#[ch]⟩ : Str) == Str.ofString "\n") = false := sign_ne hne10 (by decide)
      have f0 : decide (ch ∈ (Str.ofString "").cps.toList) = false := rfl
      rw [hdr] at hlex
      cases st with
      | start =>
        dsimp only [stStr] at NX
        unfold Hold
        obtain ⟨rfl, rfl⟩ := i1 rfl
        clear i1 i2 i3
        k_steps
        all_goals first
          | exact (ts_b (by assumption) hlex).elim
          | exact (ts_e (by assumption) hlex).elim
          | exact rt_end .word [ch] false (by assumption) (by first | assumption | exact News.tl (by assumption)) lexd_of rfl rfl hSn hdr' hlt (ts_w (by assumption) (by assumption) (by assumption) hlex) rfl rt_same (by decide) (fun _ => .inr (by simp)) (by simp) rfl
          | exact rt_end .word [ch] false (by assumption) (by first | assumption | exact News.tl (by assumption)) lexd_of rfl rfl hSn hdr' hlt (ts_o (by assumption) (by assumption) (by assumption) hlex) rfl rt_same (by decide) (fun _ => .inr (by simp)) (by simp) rfl
          | (rcases ts_q (by assumption) hlex with ⟨e, hx⟩ | ⟨e, hx⟩
             · exact rt_end .sq [] false (by assumption) (by first | assumption | exact News.tl (by assumption)) lexd_of (by rw [e]; decide) rfl hSn hdr' hlt hx rfl rt_same (by decide) (fun h => nomatch h) (by simp) rfl
             · exact rt_end .dq [] false (by assumption) (by first | assumption | exact News.tl (by assumption)) lexd_of (by rw [e]; decide) rfl hSn hdr' hlt hx rfl rt_same (by decide) (fun h => nomatch h) (by simp) rfl)
      | word =>
        dsimp only [stStr] at NX
        unfold Hold
        have j := i2 rfl
        clear i1 i2 i3
        k_steps
        · obtain ⟨ws', hws, hlx⟩ := tw_b (by assumption) hlex
          refine hret _ _ _ ⟨k', _, rfl, _, _, p' + 1, News.get (by k_asm) (by k_mem), News.get (by k_asm) (by k_mem), hSn, hlt, .inr ⟨ws', _, hws, by rw [hdr']; exact hlx, lexd_of⟩⟩ (keeps_mut (by assumption) (by assumption) (by assumption) (by first | assumption | exact News.tl (by assumption)) led_sub)
        · rcases j with h | h
          · exact absurd (by assumption : qd = false) (by rw [h]; decide)
          · exact absurd (empty_tok (by assumption)) h
        · obtain ⟨ws', hws, hlx⟩ := tw_b (by assumption) hlex
          refine hret _ _ _ ⟨k', _, rfl, _, _, p' + 1, News.get (by k_asm) (by k_mem), News.get (by k_asm) (by k_mem), hSn, hlt, .inr ⟨ws', _, hws, by rw [hdr']; exact hlx, lexd_of⟩⟩ (keeps_mut (by assumption) (by assumption) (by assumption) (by first | assumption | exact News.tl (by assumption)) led_sub)
        · obtain ⟨ws', hws, hlx⟩ := tw_b (by assumption) hlex
          refine hret _ _ _ ⟨k', _, rfl, _, _, p' + 1, News.get (by k_asm) (by k_mem), News.get (by k_asm) (by k_mem), hSn, hlt, .inr ⟨ws', _, hws, by rw [hdr']; exact hlx, lexd_of⟩⟩ (keeps_mut (by assumption) (by assumption) (by assumption) (by first | assumption | exact News.tl (by assumption)) led_sub)
        · rcases j with h | h
          · exact absurd (by assumption : qd = false) (by rw [h]; decide)
          · exact absurd (len_zero (by assumption)) h
        · rcases tw_q (by assumption) hlex with ⟨e, hx⟩ | ⟨e, hx⟩
          · exact rt_end .sq k' qd (by assumption) (by first | assumption | exact News.tl (by assumption)) lexd_of (by rw [e]; decide) rfl hSn hdr' hlt hx rfl rt_same (by decide) (fun h => nomatch h) (by omega) rfl
          · exact rt_end .dq k' qd (by assumption) (by first | assumption | exact News.tl (by assumption)) lexd_of (by rw [e]; decide) rfl hSn hdr' hlt hx rfl rt_same (by decide) (fun h => nomatch h) (by omega) rfl
        · exact (tw_e (by assumption) hlex).elim
        · exact rt_end .word (k' ++ [ch]) qd (by assumption) (by first | assumption | exact News.tl (by assumption)) lexd_of rfl (glue_sign k' ch) hSn hdr' hlt (tw_o (by assumption) (by assumption) (by assumption) hlex) rfl rt_same (by decide) (fun _ => .inr (by simp)) (by simp; omega) rfl
        · exact rt_end .word (k' ++ [ch]) qd (by assumption) (by first | assumption | exact News.tl (by assumption)) lexd_of rfl (glue_sign k' ch) hSn hdr' hlt (tw_o (by assumption) (by assumption) (by assumption) hlex) rfl rt_same (by decide) (fun _ => .inr (by simp)) (by simp; omega) rfl
      | sq =>
        dsimp only [stStr] at NX
        unfold Hold
        clear i1 i2 i3
        k_steps
        · exact rt_end .word k' true (by assumption) (by first | assumption | exact News.tl (by assumption)) lexd_of rfl rfl hSn hdr' hlt (tq_y (by assumption) hlex) rfl rt_same2 (by decide) (fun _ => .inl rfl) (by omega) rfl
        · exact rt_end .sq (k' ++ [ch]) true (by assumption) (by first | assumption | exact News.tl (by assumption)) lexd_of rfl (glue_sign k' ch) hSn hdr' hlt (tq_n (by assumption) hlex) rfl rt_same2 (by decide) (fun h => nomatch h) (by simp; omega) rfl
        · exact rt_end .sq (k' ++ [ch]) true (by assumption) (by first | assumption | exact News.tl (by assumption)) lexd_of rfl (glue_sign k' ch) hSn hdr' hlt (tq_n (by assumption) hlex) rfl rt_same2 (by decide) (fun h => nomatch h) (by simp; omega) rfl
      | dq =>
        dsimp only [stStr] at NX
        unfold Hold
        clear i1 i2 i3
        k_steps
        · exact rt_end .word k' true (by assumption) (by first | assumption | exact News.tl (by assumption)) lexd_of rfl rfl hSn hdr' hlt (td_y (by assumption) hlex) rfl rt_same2 (by decide) (fun _ => .inl rfl) (by omega) rfl
        · exact (td_e (by assumption) hlex).elim
        · exact rt_end .dq (k' ++ [ch]) true (by assumption) (by first | assumption | exact News.tl (by assumption)) lexd_of rfl (glue_sign k' ch) hSn hdr' hlt (td_n (by assumption) (by assumption) hlex) rfl rt_same2 (by decide) (fun h => nomatch h) (by simp; omega) rfl
  · rename_i pp hpp
    rw [List.mem_singleton.mp hpp]; rfl
  · exact ⟨_, Str.ofString "", rfl, (by show Str.ofString "" = ⟨#[]⟩; decide), ⟨g, k, t, rfl⟩, hS, hp, hw, fun _ => ⟨rfl, rfl⟩, (fun h => by cases h), (fun _ => Or.inr rfl), Nat.zero_le _⟩
end
end
section
open PySem PySem.W PyProof.Rows PySem.Spec PySem.Calls
section
set_option maxHeartbeats 8000000 in
theorem rtn_claim {w : World} {mean : ExcName → Option Value} {mg mb : Str → Option Value} (x dx xS dS q1 q2 : Addr) (h1 : @LT.lt Nat _ dx x) (h2 : @LT.lt Nat _ x dS) (h3 : @LT.lt Nat _ dS xS) (h4 : @LT.lt Nat _ xS q1) (h5 : @LT.lt Nat _ q1 q2) (b : Tx) (hl : b.length ≤ 1000000)
    (g : Nat → Int) (k t : Nat → Tok) (p : Nat) (hp : p ≤ b.length) (oS : Obj) (hS : SioDict b p oS) (hend' : ∀ c, b[p]? = some c → ((⟨#[c]⟩ : Str) == Str.ofString "\n") = false) :
    ClmM w mean mg mb 12 751 [(x, instObj 783 dx), (dx, dictOf (lexEs g k t xS q1 q2 .none (Str.ofString "")) 19), (xS, instObj 648 dS), (dS, oS), (q1, dqObj), (q2, dqObj)] [dx, dS] [.ref x]
      (fun v h' => v = .none ∧ ∃ od oS, h'.get? dx = some od ∧ h'.get? dS = some oS ∧ (∃ p', SioDict b p' oS ∧ p' ≤ b.length) ∧ LexDict xS q1 q2 .none (Str.ofString "") od) := by
  k_with_none
  k_with "exec If" => first | (k_fold; refine wpAny_If ?_) | refine wpAny_If ?_
  k_with "call ref" => (k_here; (with_reducible show wpAny _ _ (call (Value.ref 594) _) _ _ _); k_dflt (refine' use_read ?a1 ?a2 ?a3 ?a4 ?k1 ?k2 ?k3 ?k4 ?k5 ?k6 ?k7 ?k8 rfl rfl ?k9 ?k10 ?_ ?_; (case a1 => assumption); (case a2 => assumption); (case a3 => omega); (case a4 => assumption); (case k1 => k_asm); (case k2 => k_asm); (case k3 => k_asm); (case k4 => k_asm); (case k5 => k_asm); (case k6 => k_mem); (case k7 => k_mem); (case k8 => (intro o'; k_upd)); (case k9 => exact rfl); (case k10 => ktr_room); k_whole) <;> (first | (intro cR tkR oR hR tkQ hce hSn FR NR; obtain rfl : _ = cR := Option.some.inj (hch.symm.trans hce)) | (intro hle tkR oR hR tkQ hSn FR NR; exfalso; omega) | (intro cR tkR oR hR tkQ hce hSn FR NR; have hnl := hend' _ hce; have hltn := (List.getElem?_eq_some_iff.mp hce).1) | (intro hle tkR oR hR tkQ hSn FR NR)))
  k_with "compareOp In str str" => (k_here; k_dflt (refine' in_sign (c := ch) rfl ?_; k_whole))
  k_with "compareOp In str str" => (k_here; k_dflt (first | (refine' in_sign (b := _) ?e9 ?_; (case e9 => assumption); k_whole) | (refine' in_text (b := true) ?e9 ?_; (case e9 => decide +kernel); k_whole) | (refine' in_text (b := false) ?e9 ?_; (case e9 => decide +kernel); k_whole)))
  k_with "truthy str" => (k_here; (with_reducible show wpAny _ _ (PySem.truthy (Value.str ⟨#[_]⟩ _)) _ _ _); k_dflt (refine' KXt.truthy (b := true) rfl (Nat.le_of_ble_eq_true rfl) ?_; k_whole); intro tkT)
  k_with "truthy str" => (k_here; (with_reducible show wpAny _ _ (PySem.truthy (Value.str ⟨#[]⟩ _)) _ _ _); k_dflt (refine' KXt.truthy (b := false) rfl (Nat.le_of_ble_eq_true rfl) ?_; k_whole); intro tkT)
  k_with "compareOp NotIn str str" => (k_here; k_dflt (refine' notIn_sign (b := _) ?e9 ?_; (case e9 => assumption); k_whole))
  k_with "compareOp Eq str str" => (k_here; k_dflt (first | (refine' eq_text (b := _) ?e9 ?_; (case e9 => assumption); k_whole) | (refine' eq_text (b := true) ?e9 ?_; (case e9 => decide +kernel); k_whole) | (refine' eq_text (b := false) ?e9 ?_; (case e9 => decide +kernel); k_whole)))
  obtain ⟨g1, g2, g3, n1, n2, n3, u1, u2, u3, rfl⟩ := id hS
  dsimp only [ClmM, lexEs]
  k_fill
  intros
  rename_i hret
  have lk := lk_751 w.params
  dsimp only [fa_751, fb_751, fs_751] at lk
  refine wpAny_call ?_
  (refine' code_defG ?k1 ?k2 ?k3 ?k4 ?k5 ?kA ?kF ?kK ?lk ?k7 ?k8 ?k9 ?kB ?_ ?c2 ?c3 ?c4 ?c5; (case kA => exact rfl); (case kF => exact rfl); (case kK => assumption); (case k1 => k_asm); (case k2 => k_asm); (case k3 => k_asm); (case k4 => k_asm); (case k5 => k_asm); (case lk => assumption); (case k7 => k_is); (case k8 => ktr_room); (case k9 => first | exact BindsTo.of_eq rfl | exact binds_K (by k_in) rfl (by k_is) rfl rfl rfl); (case c5 => decide); (case kB => exact locs rfl); (case c2 => exact rfl); (case c3 => exact rfl); (case c4 => exact rfl); k_whole; intro _ _ _ _ _ _ _ _ _ _; (try dsimp only); (try k_fold))
  clear lk
  k_steps
  all_goals refine hret _ _ _ ⟨rfl, _, _, News.get (by k_asm) (by k_mem), News.get (by k_asm) (by k_mem), ⟨_, hSn, by omega⟩, lexd_of⟩ (keeps_mut (by assumption) (by assumption) (by assumption) (by first | assumption | exact News.tl (by assumption)) led_sub)
end
end
section
open PySem PySem.W PyProof.Rows PySem.Spec PySem.Calls
def LexSt (b : Tx) (p : Nat) (st : Value) (ws : List Tx) : Prop := (st = .none ∧ ws = []) ∨ (∃ tk, st = .str (Str.ofString " ") tk ∧ lexF .start [] (b.drop p) = some ws)
def LexNext (b : Tx) (xS q1 q2 dx dS : Addr) (ws : List Tx) (v : Value) (h' : Heap) : Prop :=
  ∃ od oS p' st', h'.get? dx = some od ∧ h'.get? dS = some oS ∧ SioDict b p' oS ∧ p' ≤ b.length ∧ LexDict xS q1 q2 st' (Str.ofString "") od ∧
    match ws with
    | [] => v = .none ∧ LexSt b p' st' []
    | w :: ws' => (∃ tk, v = .str ⟨w.toArray⟩ tk) ∧ LexSt b p' st' ws'
theorem rx_claim {w : World} {mean : ExcName → Option Value} {mg mb : Str → Option Value} (x dx xS dS q1 q2 : Addr) (h1 : @LT.lt Nat _ dx x) (h2 : @LT.lt Nat _ x dS) (h3 : @LT.lt Nat _ dS xS) (h4 : @LT.lt Nat _ xS q1) (h5 : @LT.lt Nat _ q1 q2) (b : Tx) (hl : b.length ≤ 1000000) (hn : ∀ c ∈ b, c ≠ 10)
    (g : Nat → Int) (k t : Nat → Tok) (p : Nat) (hp : p ≤ b.length) (oS : Obj) (hS : SioDict b p oS) (st : Value) (ws : List Tx) (hw : LexSt b p st ws) :
    ClmM w mean mg mb 12 751 [(x, instObj 783 dx), (dx, dictOf (lexEs g k t xS q1 q2 st (Str.ofString "")) 19), (xS, instObj 648 dS), (dS, oS), (q1, dqObj), (q2, dqObj)] [dx, dS] [.ref x] (LexNext b xS q1 q2 dx dS ws) := by
  rcases hw with ⟨rfl, rfl⟩ | ⟨tk0, rfl, hw⟩
  · have := rtn_claim (w := w) (mean := mean) (mg := mg) (mb := mb) x dx xS dS q1 q2 h1 h2 h3 h4 h5 b hl g k t p hp oS hS (fun c hc => by
      have : c ≠ 10 := hn c (List.mem_of_getElem? hc)
      cases hb : (⟨#[c]⟩ : Str) == Str.ofString "\n" with
      | false => rfl
      | true =>
        have e := congrArg (fun z : Str => z.cps.toList) (eq_of_beq hb)
        have e' : [c] = [10] := e
        exact absurd (List.cons.inj e').1 this)
    intro dp un gd cn cs a ccd cl outer A₀ base h₀ L m s Q E B F X N T hk hd hret
    refine this dp un gd cn cs a ccd cl outer A₀ base h₀ L m s Q E B F X N T hk hd fun v h' tk' hR kk => ?_
    obtain ⟨rfl, od, oS', e1, e2, ⟨p', e3, e4⟩, e5⟩ := hR
    exact hret _ _ _ ⟨od, oS', p', .none, e1, e2, e3, e4, e5, rfl, .inl ⟨rfl, rfl⟩⟩ kk
  · have := rt_claim (w := w) (mean := mean) (mg := mg) (mb := mb) x dx xS dS q1 q2 h1 h2 h3 h4 h5 b hl hn g k t tk0 p hp oS hS ws hw
    intro dp un gd cn cs a ccd cl outer A₀ base h₀ L m s Q E B F X N T hk hd hret
    refine this dp un gd cn cs a ccd cl outer A₀ base h₀ L m s Q E B F X N T hk hd fun v h' tk' hR kk => ?_
    obtain ⟨w₁, tk, rfl, od, oS', p', e1, e2, e3, e4, ⟨rfl, e5⟩ | ⟨ws', tk', rfl, e5, e6⟩⟩ := hR
    · exact hret _ _ _ ⟨od, oS', p', .none, e1, e2, e3, e4, e5, ⟨_, rfl⟩, .inl ⟨rfl, rfl⟩⟩ kk
    · exact hret _ _ _ ⟨od, oS', p', _, e1, e2, e3, e4, e6, ⟨_, rfl⟩, .inr ⟨_, rfl, e5⟩⟩ kk
theorem use_turn {w : World} {mean : ExcName → Option Value} {mg mb : Str → Option Value} {A A₀ : Around} {cn : Str} {cs : Scope} {a L f x dx xS dS q1 q2 : Addr} {ccd : Value} {cl : List (Str × Addr)} {outer : List Env} {base h₀ : Heap} {m : Str → Option Value} {s : Shared} {Q E : Value → Shared → Prop} {news : List (Addr × Obj)} {nw₁ : Obj → List (Addr × Obj)} {nw₂ : Obj → Obj → List (Addr × Obj)} {b : Tx} {ws : List Tx} {od oS : Obj} {rm : Nat}
    (C : ClmM w mean mg mb rm f [(x, instObj 783 dx), (dx, od), (xS, instObj 648 dS), (dS, oS), (q1, dqObj), (q2, dqObj)] [dx, dS] [.ref x] (LexNext b xS q1 q2 dx dS ws))
    (B : Below A₀ base outer h₀) (F : Fr h₀ L s.heap m) (X : (KF w.params).In h₀) (N : News h₀ L s.heap news) (T : Top viewQ (looseW viewQ looseN) mean mg mb h₀) (hm : ∀ q ∈ [(x, instObj 783 dx), (dx, od), (xS, instObj 648 dS), (dS, oS), (q1, dqObj), (q2, dqObj)], q ∈ news)
    (U₁ : ∀ o', Upd dx od o' news (nw₁ o')) (U₂ : ∀ o' o'', Upd dS oS o'' (nw₁ o') (nw₂ o' o'')) (ne : dx ≠ dS)
    (hA : A.frames = some (envX cn cs L a ccd cl :: outer)) (hh : A.handled = none) (hk : cs.kind = .function) (hroom : A.depth + rm < recursionLimit)
    (h : ∀ v st' p' g k t o'' h' tk', (match ws with | [] => v = .none ∧ LexSt b p' st' [] | w :: ws' => (∃ tk, v = .str ⟨w.toArray⟩ tk) ∧ LexSt b p' st' ws') → SioDict b p' o'' → p' ≤ b.length → Fr h₀ L h' m → News h₀ L h' (nw₂ (dictOf (lexEs g k t xS q1 q2 st' (Str.ofString "")) 19) o'') → (∀ b o, s.heap.get? b = some o → b ∉ [dx, dS] → h'.get? b = some o) → Q v { s with heap := h', toks := tk' }) :
    wpAny (model PySem.Challenge.rw_oy0446_01.row.prog w) A (call (.ref f) [.ref x]) Q E s := by
  refine use_M C B F X N T hm hA hh hk hroom ?hm ?_
  case hm =>
    intro q hq
    rcases List.mem_cons.mp hq with rfl | hq
    · exact ⟨_, hm _ (.tail _ (.head _))⟩
    · cases List.mem_singleton.mp hq; exact ⟨_, hm _ (.tail _ (.tail _ (.tail _ (.head _))))⟩
  rintro v h' tk' ⟨od', oS', p', st', g1, g2, hS, hp, ⟨g, k, t, rfl⟩, hv⟩ kk F' hN'
  refine h v st' p' g k t oS' h' tk' hv hS hp F' ?_ kk
  -- both objects in one step, by way of the places
  intro q hq
  obtain ⟨pre₂, post₂, e₁, e₂, a₂, c₂⟩ := (U₂ (dictOf (lexEs g k t xS q1 q2 st' (Str.ofString "")) 19) oS').split
  obtain ⟨pre₁, post₁, e₃, e₄, a₁, c₁⟩ := (U₁ (dictOf (lexEs g k t xS q1 q2 st' (Str.ofString "")) 19)).split
  have nd := N _ (hm (dx, od) (.tail _ (.head _)))
  have nS := N _ (hm (dS, oS) (.tail _ (.tail _ (.tail _ (.head _)))))
  by_cases hqS : q.1 = dS
  · have : q = (dS, oS') := by
      rw [e₂] at hq
      rcases List.mem_append.mp hq with hq | hq
      · exact absurd hqS (a₂ _ hq)
      · rcases List.mem_cons.mp hq with rfl | hq
        · rfl
        · exact absurd hqS (c₂ _ hq)
    subst this
    exact ⟨g2, nS.2.1, nS.2.2⟩
  · have hq₁ : q ∈ nw₁ (dictOf (lexEs g k t xS q1 q2 st' (Str.ofString "")) 19) := by
      rw [e₂] at hq; rw [e₁]
      rcases List.mem_append.mp hq with hq | hq
      · exact List.mem_append.mpr (.inl hq)
      · rcases List.mem_cons.mp hq with rfl | hq
        · exact absurd rfl hqS
        · exact List.mem_append.mpr (.inr (.tail _ hq))
    by_cases hqd : q.1 = dx
    · have : q = (dx, dictOf (lexEs g k t xS q1 q2 st' (Str.ofString "")) 19) := by
        rw [e₄] at hq₁
        rcases List.mem_append.mp hq₁ with hq | hq
        · exact absurd hqd (a₁ _ hq)
        · rcases List.mem_cons.mp hq with rfl | hq
          · rfl
          · exact absurd hqd (c₁ _ hq)
      subst this
      exact ⟨g1, nd.2.1, nd.2.2⟩
    · refine hN' q ?_ ?_
      · rw [e₄] at hq₁; rw [e₃]
        rcases List.mem_append.mp hq₁ with hq | hq
        · exact List.mem_append.mpr (.inl hq)
        · rcases List.mem_cons.mp hq with rfl | hq
          · exact absurd rfl hqd
          · exact List.mem_append.mpr (.inr (.tail _ hq))
      · intro hmem
        rcases List.mem_cons.mp hmem with e | hmem
        · exact hqd e
        · exact hqS (List.mem_singleton.mp hmem)
section
set_option maxHeartbeats 8000000 in
theorem gt_claim {w : World} {mean : ExcName → Option Value} {mg mb : Str → Option Value} (x dx xS dS q1 q2 : Addr) (h1 : @LT.lt Nat _ dx x) (h2 : @LT.lt Nat _ x dS) (h3 : @LT.lt Nat _ dS xS) (h4 : @LT.lt Nat _ xS q1) (h5 : @LT.lt Nat _ q1 q2) (b : Tx) (hl : b.length ≤ 1000000) (hn : ∀ c ∈ b, c ≠ 10)
    (g : Nat → Int) (k t : Nat → Tok) (p : Nat) (hp : p ≤ b.length) (oS : Obj) (hS : SioDict b p oS) (st : Value) (ws : List Tx) (hw : LexSt b p st ws) :
    ClmM w mean mg mb 14 744 [(x, instObj 783 dx), (dx, dictOf (lexEs g k t xS q1 q2 st (Str.ofString "")) 19), (xS, instObj 648 dS), (dS, oS), (q1, dqObj), (q2, dqObj)] [dx, dS] [.ref x] (LexNext b xS q1 q2 dx dS ws) := by
  k_with_none
  k_with "exec If" => first | (k_fold; refine wpAny_If ?_) | refine wpAny_If ?_
  k_with "truthy ref" => (k_here; k_dflt (refine' dq_truthyN ?kN ?km ?_; (case kN => k_asm); (case km => k_mem); k_whole); intro tkD)
  k_with "call ref" => (k_here; (with_reducible show wpAny _ _ (call (Value.ref 751) _) _ _ _); k_dflt (refine' use_turn (rx_claim x dx xS dS q1 q2 h1 h2 h3 h4 h5 b hl hn g k t p hp oS hS st _ hw) ?k1 ?k2 ?k3 ?k4 ?k5 ?k6 ?k7 ?k8 ?ne rfl rfl ?k9 ?k10 ?_; (case k1 => k_asm); (case k2 => k_asm); (case k3 => k_asm); (case k4 => k_asm); (case k5 => k_asm); (case k6 => exact fun q hq => hq); (case k7 => (intro o'; k_upd)); (case k8 => (intro o' o''; k_upd)); (case ne => exact Nat.ne_of_lt (Nat.lt_trans h1 h2)); (case k9 => exact rfl); (case k10 => ktr_room); k_whole); intro vR stR pR gR kR tR oR hR tkR hv hSR hpR FR NR kkR; clear kkR; dsimp only [lexEs] at NR; dsimp only at hv; (first | (obtain ⟨⟨tkv, rfl⟩, hstR⟩ := hv) | (obtain ⟨rfl, hstR⟩ := hv)))
  dsimp only [ClmM, lexEs]
  k_fill
  intros
  rename_i hret
  have lk := lk_744 w.params
  dsimp only [fa_744, fb_744, fs_744] at lk
  refine wpAny_call ?_
  (refine' code_defG ?k1 ?k2 ?k3 ?k4 ?k5 ?kA ?kF ?kK ?lk ?k7 ?k8 ?k9 ?kB ?_ ?c2 ?c3 ?c4 ?c5; (case kA => exact rfl); (case kF => exact rfl); (case kK => assumption); (case k1 => k_asm); (case k2 => k_asm); (case k3 => k_asm); (case k4 => k_asm); (case k5 => k_asm); (case lk => assumption); (case k7 => k_is); (case k8 => ktr_room); (case k9 => first | exact BindsTo.of_eq rfl | exact binds_K (by k_in) rfl (by k_is) rfl rfl rfl); (case c5 => decide); (case kB => exact locs rfl); (case c2 => exact rfl); (case c3 => exact rfl); (case c4 => exact rfl); k_whole; intro _ _ _ _ _ _ _ _ _ _; (try dsimp only); (try k_fold))
  clear lk
  cases ws
  all_goals k_steps
  all_goals refine hret _ _ _ ⟨_, _, _, _, News.get (by k_asm) (by k_mem), News.get (by k_asm) (by k_mem), hSR, hpR, ⟨gR, kR, tR, rfl⟩, ?_⟩ (keeps_mut (by assumption) (by assumption) (by assumption) (by first | assumption | exact News.tl (by assumption)) led_sub)
  · exact ⟨rfl, hstR⟩
  · exact ⟨⟨_, rfl⟩, hstR⟩
end
end
section
open PySem PySem.W PyProof.Rows PySem.Spec PySem.Calls
abbrev frsOf (l : List Env) : List Addr := l.filterMap (·.frame)
theorem leave_raiseY {M : Model} {A : Around} {E : Value → Shared → Prop} {s' : Shared} {base g h : Heap} {outer : List Env} {L a e : Addr} {m : Str → Option Value} {name : Str} {scope : Scope} {cd : Value} {Q : Unit → Shared → Prop} {cls : Value} {vs : List Value}
    (K : Below A base outer g) (hx : Heap.MadeExcOf h s'.heap e cls vs) (F : Fr g L h m)
    (hQ : ∀ h', (∃ ob, h'.get? e = some ob ∧ ob.cls = cls) → (∀ b o, h.get? b = some o → b ∉ frsOf (envOf name scope L a cd :: outer) → h'.get? b = some o) → h.UpToSlots h' → Q () { s' with heap := h' }) (hk : scope.kind = .function := by rfl) :
    wpAny M (A.deeper (envOf name scope L a cd)) (leaving (envOf name scope L a cd) (.ref e)) Q E s' := by
  have K' := K.push (name := name) (a := a) (cd := cd) F hk
  have hin : ∀ env ∈ (envOf name scope L a cd :: outer), ∀ b, env.frame = some b → b ∈ (envOf name scope L a cd :: outer).filterMap (·.frame) := fun env he b hb => List.mem_filterMap.mpr ⟨env, he, hb⟩
  refine wpAny_leaves_madeW K'.stack rfl (fun b o q => of_hideAll _ q) (funFrames_hide K'.frames hin) hx fun h' t x1 x2 x3 x4 => hQ h' x1.there (fun b o e hb => x1.1 b o (hideAll_get _ e hb)) ((Heap.UpToSlots.of_keeps hx.keeps).trans x4)
theorem not_new {s₂ g H' : Heap} {L' : Addr} {m' : Str → Option Value} {news news' : List (Addr × Obj)} (G : GSub s₂ g (news.map (·.1))) (F' : Fr g L' H' m') (N' : News g L' H' news') (hs : ∀ p ∈ news, ∃ p' ∈ news', p'.1 = p.1) {b : Addr} {o : Obj} (e : s₂.get? b = some o) : b ≠ L' := by
  rintro rfl
  by_cases hb : b ∈ news.map (·.1)
  · obtain ⟨p, hp, rfl⟩ := List.mem_map.mp hb
    obtain ⟨p', hp', e'⟩ := hs p hp
    exact (N' p' hp').2.1 e'
  · exact Nat.lt_irrefl _ (Nat.lt_of_lt_of_le (Heap.lt_size (G b o e hb)) F'.above)
section
set_option maxHeartbeats 8000000 in
theorem nx_claim {w : World} {mean : ExcName → Option Value} {mg mb : Str → Option Value} (x dx xS dS q1 q2 : Addr) (h1 : @LT.lt Nat _ dx x) (h2 : @LT.lt Nat _ x dS) (h3 : @LT.lt Nat _ dS xS) (h4 : @LT.lt Nat _ xS q1) (h5 : @LT.lt Nat _ q1 q2) (b : Tx) (hl : b.length ≤ 1000000) (hn : ∀ c ∈ b, c ≠ 10)
    (g : Nat → Int) (k t : Nat → Tok) (p : Nat) (hp : p ≤ b.length) (oS : Obj) (hS : SioDict b p oS) (st : Value) (ws : List Tx) (hne : ws ≠ []) (hw : LexSt b p st ws) :
    ClmM w mean mg mb 16 780 [(x, instObj 783 dx), (dx, dictOf (lexEs g k t xS q1 q2 st (Str.ofString "")) 19), (xS, instObj 648 dS), (dS, oS), (q1, dqObj), (q2, dqObj)] [dx, dS] [.ref x] (LexNext b xS q1 q2 dx dS ws) := by
  k_with_none
  k_with "exec If" => first | (k_fold; refine wpAny_If ?_) | refine wpAny_If ?_
  k_with "call ref" => (k_here; (with_reducible show wpAny _ _ (call (Value.ref 744) _) _ _ _); k_dflt (refine' use_turn (gt_claim x dx xS dS q1 q2 h1 h2 h3 h4 h5 b hl hn g k t p hp oS hS st _ hw) ?k1 ?k2 ?k3 ?k4 ?k5 ?k6 ?k7 ?k8 ?ne rfl rfl ?k9 ?k10 ?_; (case k1 => k_asm); (case k2 => k_asm); (case k3 => k_asm); (case k4 => k_asm); (case k5 => k_asm); (case k6 => exact fun q hq => hq); (case k7 => (intro o'; k_upd)); (case k8 => (intro o' o''; k_upd)); (case ne => exact Nat.ne_of_lt (Nat.lt_trans h1 h2)); (case k9 => exact rfl); (case k10 => ktr_room); k_whole); intro vR stR pR gR kR tR oR hR tkR hv hSR hpR FR NR kkR; clear kkR; dsimp only [lexEs] at NR; dsimp only at hv; (first | (obtain ⟨⟨tkv, rfl⟩, hstR⟩ := hv) | (obtain ⟨rfl, hstR⟩ := hv)))
  dsimp only [ClmM, lexEs]
  k_fill
  intros
  rename_i hret
  have lk := lk_780 w.params
  dsimp only [fa_780, fb_780, fs_780] at lk
  refine wpAny_call ?_
  (refine' code_defG ?k1 ?k2 ?k3 ?k4 ?k5 ?kA ?kF ?kK ?lk ?k7 ?k8 ?k9 ?kB ?_ ?c2 ?c3 ?c4 ?c5; (case kA => exact rfl); (case kF => exact rfl); (case kK => assumption); (case k1 => k_asm); (case k2 => k_asm); (case k3 => k_asm); (case k4 => k_asm); (case k5 => k_asm); (case lk => assumption); (case k7 => k_is); (case k8 => ktr_room); (case k9 => first | exact BindsTo.of_eq rfl | exact binds_K (by k_in) rfl (by k_is) rfl rfl rfl); (case c5 => decide); (case kB => exact locs rfl); (case c2 => exact rfl); (case c3 => exact rfl); (case c4 => exact rfl); k_whole; intro _ _ _ _ _ _ _ _ _ _; (try dsimp only); (try k_fold))
  clear lk
  cases ws
  case nil => exact absurd rfl hne
  k_steps
  refine hret _ _ _ ⟨_, _, _, _, News.get (by k_asm) (by k_mem), News.get (by k_asm) (by k_mem), hSR, hpR, ⟨gR, kR, tR, rfl⟩, ?_⟩ (keeps_mut (by assumption) (by assumption) (by assumption) (by first | assumption | exact News.tl (by assumption)) led_sub)
  exact ⟨⟨_, rfl⟩, hstR⟩
set_option maxHeartbeats 8000000 in
theorem nx_stop {w : World} {mean : ExcName → Option Value} {mg mb : Str → Option Value} (x dx xS dS q1 q2 : Addr) (h1 : @LT.lt Nat _ dx x) (h2 : @LT.lt Nat _ x dS) (h3 : @LT.lt Nat _ dS xS) (h4 : @LT.lt Nat _ xS q1) (h5 : @LT.lt Nat _ q1 q2) (b : Tx) (hl : b.length ≤ 1000000) (hn : ∀ c ∈ b, c ≠ 10)
    (g : Nat → Int) (k t : Nat → Tok) (p : Nat) (hp : p ≤ b.length) (oS : Obj) (hS : SioDict b p oS) (st : Value) (hw : LexSt b p st []) :
    ∀ (dp un : Nat) (gd : Option (List Code)) (cn : Str) (cs : Scope) (a : Addr) (ccd : Value) (cl : List (Str × Addr)) (outer : List Env) (A₀ : Around) (base h₀ : Heap) (L : Addr) (m : Str → Option Value) (s : Shared) (Q E : Value → Shared → Prop),
    Below A₀ base outer h₀ → Fr h₀ L s.heap m → (KF w.params).In h₀ → News h₀ L s.heap [(x, instObj 783 dx), (dx, dictOf (lexEs g k t xS q1 q2 st (Str.ofString "")) 19), (xS, instObj 648 dS), (dS, oS), (q1, dqObj), (q2, dqObj)] → Top viewQ (looseW viewQ looseN) mean mg mb h₀ → cs.kind = .function →
    dp + 16 < recursionLimit → (∀ (e : Addr) (h' : Heap) (tk' : Nat), (∃ ob, h'.get? e = some ob ∧ ob.cls = .type "StopIteration") → (∀ b o, s.heap.get? b = some o → b ∉ [dx, dS] → b ∉ frsOf (envX cn cs L a ccd cl :: outer) → h'.get? b = some o) →
      (∀ b o, s.heap.get? b = some o → b ∉ [dx, dS] → (∀ vs, o.data ≠ .fields vs) → ∃ sl, h'.get? b = some { o with slots := sl }) → E (.ref e) { s with heap := h', toks := tk' }) →
      wpAny (model PySem.Challenge.rw_oy0446_01.row.prog w) (ktrTop dp un gd cn cs L a ccd cl outer) (call (.ref 780) [.ref x]) Q E s := by
  k_with_none
  k_with "exec If" => first | (k_fold; refine wpAny_If ?_) | refine wpAny_If ?_
  k_with "call ref" => (k_here; (with_reducible show wpAny _ _ (call (Value.ref 744) _) _ _ _); k_dflt (refine' use_turn (gt_claim x dx xS dS q1 q2 h1 h2 h3 h4 h5 b hl hn g k t p hp oS hS st _ hw) ?k1 ?k2 ?k3 ?k4 ?k5 ?k6 ?k7 ?k8 ?ne rfl rfl ?k9 ?k10 ?_; (case k1 => k_asm); (case k2 => k_asm); (case k3 => k_asm); (case k4 => k_asm); (case k5 => k_asm); (case k6 => exact fun q hq => hq); (case k7 => (intro o'; k_upd)); (case k8 => (intro o' o''; k_upd)); (case ne => exact Nat.ne_of_lt (Nat.lt_trans h1 h2)); (case k9 => exact rfl); (case k10 => ktr_room); k_whole); intro vR stR pR gR kR tR oR hR tkR hv hSR hpR FR NR kkR; clear kkR; dsimp only [lexEs] at NR; dsimp only at hv; (first | (obtain ⟨⟨tkv, rfl⟩, hstR⟩ := hv) | (obtain ⟨rfl, hstR⟩ := hv)))
  k_with "leaving ref" => (k_here; k_dflt (refine' leave_raiseY ?k1 (Heap.MadeExc.of (by assumption)) ?k2 ?_; (case k1 => assumption); (case k2 => assumption); k_whole); intro hX eX kX uX)
  dsimp only [lexEs]
  k_fill
  intros
  rename_i hret
  have lk := lk_780 w.params
  dsimp only [fa_780, fb_780, fs_780] at lk
  refine wpAny_call ?_
  (refine' code_defG ?k1 ?k2 ?k3 ?k4 ?k5 ?kA ?kF ?kK ?lk ?k7 ?k8 ?k9 ?kB ?_ ?c2 ?c3 ?c4 ?c5; (case kA => exact rfl); (case kF => exact rfl); (case kK => assumption); (case k1 => k_asm); (case k2 => k_asm); (case k3 => k_asm); (case k4 => k_asm); (case k5 => k_asm); (case lk => assumption); (case k7 => k_is); (case k8 => ktr_room); (case k9 => first | exact BindsTo.of_eq rfl | exact binds_K (by k_in) rfl (by k_is) rfl rfl rfl); (case c5 => decide); (case kB => exact locs rfl); (case c2 => exact rfl); (case c3 => exact rfl); (case c4 => exact rfl); k_whole; intro _ _ _ _ _ _ _ _ _ _; (try dsimp only); (try k_fold))
  clear lk
  k_steps
  have kk := keeps_mut (mt := [dx, dS]) (by assumption) (by assumption) (by assumption) (by first | assumption | exact News.tl (by assumption)) led_sub
  refine hret _ _ _ eX (fun b o eb h1 h2 => kX b o (kk b o eb h1) ?_) (fun b o eb h1 h2 => uX b o (kk b o eb h1) h2)
  intro hm
  obtain ⟨env, he, hf⟩ := List.mem_filterMap.mp hm
  rcases List.mem_cons.mp he with rfl | he
  · refine not_new (by assumption) (by assumption) (by first | assumption | exact News.tl (by assumption)) ?_ eb (Option.some.inj hf).symm
    intro q hq
    simp only [List.mem_cons, List.not_mem_nil, or_false] at hq
    rcases hq with rfl | rfl | rfl | rfl | rfl | rfl
    · exact ⟨_, .head _, rfl⟩
    · exact ⟨_, .tail _ (.head _), rfl⟩
    · exact ⟨_, .tail _ (.tail _ (.head _)), rfl⟩
    · exact ⟨_, .tail _ (.tail _ (.tail _ (.head _))), rfl⟩
    · exact ⟨_, .tail _ (.tail _ (.tail _ (.tail _ (.head _)))), rfl⟩
    · exact ⟨_, .tail _ (.tail _ (.tail _ (.tail _ (.tail _ (.head _))))), rfl⟩
  · exact h2 (List.mem_filterMap.mpr ⟨env, he, hf⟩)
end
end
section
open PySem PySem.W PyProof.Rows PySem.Spec PySem.Calls
abbrev mkS (w : Tx) : Str := ⟨w.toArray⟩
noncomputable abbrev lexNews (x dx xS dS q1 q2 : Addr) (g : Nat → Int) (k t : Nat → Tok) (st : Value) (oS : Obj) : List (Addr × Obj) :=
  [(x, instObj 783 dx), (dx, dictOf (lexEs g k t xS q1 q2 st (Str.ofString "")) 19), (xS, instObj 648 dS), (dS, oS), (q1, dqObj), (q2, dqObj)]
theorem nx_stopA {w : World} {mean : ExcName → Option Value} {mg mb : Str → Option Value} (x dx xS dS q1 q2 : Addr) (h1 : @LT.lt Nat _ dx x) (h2 : @LT.lt Nat _ x dS) (h3 : @LT.lt Nat _ dS xS) (h4 : @LT.lt Nat _ xS q1) (h5 : @LT.lt Nat _ q1 q2) (b : Tx) (hl : b.length ≤ 1000000) (hn : ∀ c ∈ b, c ≠ 10)
    (g : Nat → Int) (k t : Nat → Tok) (p : Nat) (hp : p ≤ b.length) (oS : Obj) (hS : SioDict b p oS) (st : Value) (hw : LexSt b p st [])
    {A A₀ : Around} {cn : Str} {cs : Scope} {a L : Addr} {ccd : Value} {cl : List (Str × Addr)} {outer : List Env} {base h₀ : Heap} {m : Str → Option Value} {s : Shared} {Q E : Value → Shared → Prop}
    (B : Below A₀ base outer h₀) (F : Fr h₀ L s.heap m) (X : (KF w.params).In h₀) (N : News h₀ L s.heap (lexNews x dx xS dS q1 q2 g k t st oS)) (T : Top viewQ (looseW viewQ looseN) mean mg mb h₀) (hA : A.frames = some (envX cn cs L a ccd cl :: outer)) (hh : A.handled = none) (hk : cs.kind = .function)
    (hroom : A.depth + 16 < recursionLimit) (h : ∀ (e : Addr) (h' : Heap) (tk' : Nat), (∃ ob, h'.get? e = some ob ∧ ob.cls = .type "StopIteration") → (∀ b o, s.heap.get? b = some o → b ∉ [dx, dS] → b ∉ frsOf (envX cn cs L a ccd cl :: outer) → h'.get? b = some o) →
      (∀ b o, s.heap.get? b = some o → b ∉ [dx, dS] → (∀ vs, o.data ≠ .fields vs) → ∃ sl, h'.get? b = some { o with slots := sl }) → E (.ref e) { s with heap := h', toks := tk' }) :
    wpAny (model PySem.Challenge.rw_oy0446_01.row.prog w) A (call (.ref 780) [.ref x]) Q E s := by
  obtain ⟨y1, y2, y3, y4, y5⟩ := A
  simp only at hA hh
  subst hA hh
  exact nx_stop x dx xS dS q1 q2 h1 h2 h3 h4 h5 b hl hn g k t p hp oS hS st hw _ _ _ cn cs a ccd cl outer A₀ base h₀ L m s Q E B F X N T hk hroom h
theorem news_not_frs {A₀ : Around} {cn : Str} {cs : Scope} {a L : Addr} {ccd : Value} {cl : List (Str × Addr)} {outer : List Env} {base h₀ h : Heap} {news : List (Addr × Obj)} {q : Addr × Obj} (B : Below A₀ base outer h₀) (N : News h₀ L h news) (hq : q ∈ news) : q.1 ∉ frsOf (envX cn cs L a ccd cl :: outer) := by
  intro hm
  obtain ⟨env, he, hf⟩ := List.mem_filterMap.mp hm
  rcases List.mem_cons.mp he with rfl | he
  · exact (N _ hq).2.1 (Option.some.inj hf).symm
  · obtain ⟨o, ho, _⟩ := (B.frames.mem (List.mem_filterMap.mpr ⟨env, he, hf⟩)).2
    rw [(N _ hq).2.2] at ho; cases ho
theorem lex_lt {x dx xS dS q1 q2 S : Addr} {g : Nat → Int} {k t : Nat → Tok} {st : Value} {oS : Obj} (h1 : @LT.lt Nat _ dx x) (h2 : @LT.lt Nat _ x dS) (h3 : @LT.lt Nat _ dS xS) (h4 : @LT.lt Nat _ xS q1) (h5 : @LT.lt Nat _ q1 q2) (h6 : @LT.lt Nat _ q2 S) : ∀ p ∈ lexNews x dx xS dS q1 q2 g k t st oS, p.1 ≠ S := by
  intro p hp
  have a5 := Nat.lt_trans h5 h6
  have a4 := Nat.lt_trans h4 a5
  have a3 := Nat.lt_trans h3 a4
  have a2 := Nat.lt_trans h2 a3
  have a1 := Nat.lt_trans h1 a2
  simp only [List.mem_cons, List.not_mem_nil, or_false] at hp
  rcases hp with rfl | rfl | rfl | rfl | rfl | rfl
  · exact Nat.ne_of_lt a2
  · exact Nat.ne_of_lt a1
  · exact Nat.ne_of_lt a4
  · exact Nat.ne_of_lt a3
  · exact Nat.ne_of_lt a5
  · exact Nat.ne_of_lt h6
set_option maxHeartbeats 4000000 in
theorem lex_loop {w : World} {mean : ExcName → Option Value} {mg mb : Str → Option Value} {A A₀ : Around} {cn : Str} {cs : Scope} {a L : Addr} {ccd : Value} {cl : List (Str × Addr)} {outer : List Env} {base h₀ : Heap} {m : Str → Option Value} (x dx xS dS q1 q2 S : Addr) (h1 : @LT.lt Nat _ dx x) (h2 : @LT.lt Nat _ x dS) (h3 : @LT.lt Nat _ dS xS) (h4 : @LT.lt Nat _ xS q1) (h5 : @LT.lt Nat _ q1 q2) (h6 : @LT.lt Nat _ q2 S) (b : Tx) (hl : b.length ≤ 1000000) (hn : ∀ c ∈ b, c ≠ 10)
    (B : Below A₀ base outer h₀) (X : (KF w.params).In h₀) (T : Top viewQ (looseW viewQ looseN) mean mg mb h₀) (hA : A.frames = some (envX cn cs L a ccd cl :: outer)) (hh : A.handled = none) (hk : cs.kind = .function) (hroom : A.depth + 16 < recursionLimit) (R : Result → Shared → Prop) (res : Value) :
    ∀ (ws : List Tx) (s : Shared) (vs : Array Value) (c : Nat) (g : Nat → Int) (k t : Nat → Tok) (p : Nat) (oS : Obj) (st : Value), SioDict b p oS → p ≤ b.length → LexSt b p st ws → Fr h₀ L s.heap m →
      News h₀ L s.heap ((S, listOf vs c) :: lexNews x dx xS dS q1 q2 g k t st oS) → vs.size + ws.length ≤ 1000000 →
      (∀ h' tk' us c', StrsAre us (ws.map mkS) → h'.get? S = some (listOf (vs ++ us.toArray) c') → (∀ b o, s.heap.get? b = some o → b ∉ [S, dx, dS] → b ∉ frsOf (envX cn cs L a ccd cl :: outer) → h'.get? b = some o) →
        (∀ b o, s.heap.get? b = some o → b ∉ [S, dx, dS] → (∀ vs, o.data ≠ .fields vs) → ∃ sl, h'.get? b = some { o with slots := sl }) → R (.ok (.ret res)) { s with heap := h', toks := tk' }) →
      codeAny (model PySem.Challenge.rw_oy0446_01.row.prog w) A (.builtin "list.extend.loop" ⟨[.ref S, .ref x, res], []⟩) R s := by
  have hs780 : findIn (KF w.params) (.ref 783) "__next__" = some (some (.ref 780)) := by kernel_rfl
  have hSne : S ∉ [dx, dS] := by
    intro hm
    have a4 := Nat.lt_trans h3 (Nat.lt_trans h4 (Nat.lt_trans h5 h6))
    rcases List.mem_cons.mp hm with e | hm
    · exact Nat.ne_of_lt (Nat.lt_trans h1 (Nat.lt_trans h2 a4)) e.symm
    · exact Nat.ne_of_lt a4 (List.mem_singleton.mp hm).symm
  have hf780 : isFn (KF w.params) (.ref 780) = true := by kernel_rfl
  intro ws
  induction ws with
  | nil =>
    intro s vs c g k t p oS st hS hp hst F N hz hR
    have I : InstAt s.heap x (instObj 783 dx) 783 (some (dictOf (lexEs g k t xS q1 q2 st (Str.ofString "")) 19)) := InstAt.of_news N (.tail _ (.head _)) (.tail _ (.tail _ (.head _)))
    refine codeAny_builtin PySem.F.entry_extend_loop ?_
    rw [Around.under_plainId PySem.F.plain_extend_loop _]
    show wpAny _ A.in1 (pyNext (.ref x) >>= _) _ _ s
    refine wpAny_bind (owit_next F X I hs780 hf780 ?_)
    refine nx_stopA x dx xS dS q1 q2 h1 h2 h3 h4 h5 b hl hn g k t p hp oS hS st hst B F X (News.tl N) T hA hh hk hroom fun e h' tk' hcls hk1 hk2 => ?_
    obtain ⟨ob, e1, e2⟩ := hcls
    unfold OwitStop
    refine wpAny_isInstance (show ∃ o, h'.get? e = some o ∧ o.cls = .type "StopIteration" from ⟨ob, e1, e2⟩) owsi_facts.sub ?_
    rw [if_pos rfl]
    refine wpAny_pure ?_
    refine hR h' tk' [] c .nil ?_ (fun b o eb hb hf => hk1 b o eb (fun hm => hb (.tail _ hm)) hf) (fun b o eb hb hf => hk2 b o eb (fun hm => hb (.tail _ hm)) hf)
    have NS := N _ (.head _)
    rw [hk1 S _ NS.1 hSne (news_not_frs B N (.head _))]
    simp
  | cons w₁ ws ih =>
    intro s vs c g k t p oS st hS hp hst F N hz hR
    have I : InstAt s.heap x (instObj 783 dx) 783 (some (dictOf (lexEs g k t xS q1 q2 st (Str.ofString "")) 19)) := InstAt.of_news N (.tail _ (.head _)) (.tail _ (.tail _ (.head _)))
    refine codeAny_builtin PySem.F.entry_extend_loop ?_
    rw [Around.under_plainId PySem.F.plain_extend_loop _]
    show wpAny _ A.in1 (pyNext (.ref x) >>= _) _ _ s
    refine wpAny_bind (owit_next F X I hs780 hf780 ?_)
    refine use_turn (nw₁ := fun o' => (S, listOf vs c) :: [(x, instObj 783 dx), (dx, o'), (xS, instObj 648 dS), (dS, oS), (q1, dqObj), (q2, dqObj)]) (nw₂ := fun o' o'' => (S, listOf vs c) :: [(x, instObj 783 dx), (dx, o'), (xS, instObj 648 dS), (dS, o''), (q1, dqObj), (q2, dqObj)])
      (nx_claim x dx xS dS q1 q2 h1 h2 h3 h4 h5 b hl hn g k t p hp oS hS st (w₁ :: ws) (by simp) hst) B F X N T (fun q hq => .tail _ hq) (fun o' => by k_upd) (fun o' o'' => by k_upd) (Nat.ne_of_lt (Nat.lt_trans h1 h2)) hA hh hk hroom
      fun v st' p' g' k' t' o'' h' tk' hv hS' hp' F' N' kk => ?_
    obtain ⟨⟨tkv, rfl⟩, hst'⟩ := hv
    have NS := N' _ (.head _)
    show wpAny _ A.in1 (updateSeq S (·.push (.str (mkS w₁) tkv)) >>= _) _ _ _
    refine wpAny_bind ?_
    have hlen : vs.size + (ws.length + 1) ≤ 1000000 := hz
    refine wpAny_updateSeq NS.1 rfl (wpAny_pure ⟨plainId_quiet PySem.F.plain_extend_loop _, ih _ (vs.push (.str (mkS w₁) tkv)) _ g' k' t' p' o'' st' hS' hp' hst' (F'.change (Heap.SameBut.update ..) NS.2.1 NS.2.2) (news_set (pre := []) (post := lexNews x dx xS dS q1 q2 g' k' t' st' o'') N' (fun _ hp => nomatch hp) ?_ (Heap.SameBut.update ..) (Heap.get?_update_self _ NS.1 rfl)) (by rw [Array.size_push]; omega) fun h'' tk'' us c'' hus hg hk1 hk2 => ?_⟩) (by show vs.size ≤ 2 ^ 24; omega) (by show (vs.push _).size ≤ 2 ^ 24 + 1; rw [Array.size_push]; omega)
    · exact lex_lt h1 h2 h3 h4 h5 h6
    · have hg2 : h''.get? S = some (listOf (vs ++ (Value.str (mkS w₁) tkv :: us).toArray) c'') := by
        rw [hg]; simp
      have up : ∀ b o, s.heap.get? b = some o → b ∉ [S, dx, dS] → (h'.update S (Obj.mapSeq (·.push (.str (mkS w₁) tkv)))).get? b = some o := fun b o eb hb =>
        (Heap.get?_update_other _ _ (fun e : S = b => hb (by rw [e]; exact .head _))).trans (kk b o eb (fun hm => hb (.tail _ hm)))
      exact hR h'' tk'' (.str (mkS w₁) tkv :: us) c'' (.cons _ _ hus) hg2 (fun b o eb hb hf => hk1 b o (up b o eb hb) hb hf) (fun b o eb hb hf => hk2 b o (up b o eb hb) hb hf)
section
set_option maxHeartbeats 4000000 in
theorem it_claim {w : World} {mean : ExcName → Option Value} {mg mb : Str → Option Value} (x : Addr) : ClmP w mean mg mb 2 773 [] [.ref x] (fun v _ => v = .ref x) := by
  k_with_none
  dsimp only [ClmP]
  k_fill
  intros
  rename_i hret
  have lk := lk_773 w.params
  dsimp only [fa_773, fb_773, fs_773] at lk
  refine wpAny_call ?_
  (refine' code_defG ?k1 ?k2 ?k3 ?k4 ?k5 ?kA ?kF ?kK ?lk ?k7 ?k8 ?k9 ?kB ?_ ?c2 ?c3 ?c4 ?c5; (case kA => exact rfl); (case kF => exact rfl); (case kK => assumption); (case k1 => k_asm); (case k2 => k_asm); (case k3 => k_asm); (case k4 => k_asm); (case k5 => k_asm); (case lk => assumption); (case k7 => k_is); (case k8 => ktr_room); (case k9 => first | exact BindsTo.of_eq rfl | exact binds_K (by k_in) rfl (by k_is) rfl rfl rfl); (case c5 => decide); (case kB => exact locs rfl); (case c2 => exact rfl); (case c3 => exact rfl); (case c4 => exact rfl); k_whole; intro _ _ _ _ _ _ _ _ _ _; (try dsimp only); (try k_fold))
  clear lk
  k_steps
  exact hret _ _ _ rfl (keeps_end (by assumption) (by assumption) (by assumption) (by assumption) (by first | exact List.forall_mem_nil _ | (intro p hp; assumption) | k_sub))
end
set_option maxHeartbeats 4000000 in
theorem list_lex {w : World} {mean : ExcName → Option Value} {mg mb : Str → Option Value} {A A₀ : Around} {cn : Str} {cs : Scope} {a L : Addr} {ccd : Value} {cl : List (Str × Addr)} {outer : List Env} {base h₀ : Heap} {m : Str → Option Value} {s : Shared} {Q E : Value → Shared → Prop} {news : List (Addr × Obj)} (x dx xS dS q1 q2 : Addr) (h1 : @LT.lt Nat _ dx x) (h2 : @LT.lt Nat _ x dS) (h3 : @LT.lt Nat _ dS xS) (h4 : @LT.lt Nat _ xS q1) (h5 : @LT.lt Nat _ q1 q2) (b : Tx) (hl : b.length ≤ 1000000) (hn : ∀ c ∈ b, c ≠ 10)
    (B : Below A₀ base outer h₀) (F : Fr h₀ L s.heap m) (X : (KF w.params).In h₀) (N : News h₀ L s.heap news) (T : Top viewQ (looseW viewQ looseN) mean mg mb h₀) (hA : A.frames = some (envX cn cs L a ccd cl :: outer)) (hh : A.handled = none) (hk : cs.kind = .function) (hroom : A.depth + 18 < recursionLimit)
    (ws : List Tx) (g : Nat → Int) (k t : Nat → Tok) (p : Nat) (oS : Obj) (st : Value) (hS : SioDict b p oS) (hp : p ≤ b.length) (hst : LexSt b p st ws) (hz : ws.length ≤ 1000000) (hs : ∀ q ∈ lexNews x dx xS dS q1 q2 g k t st oS, q ∈ news)
    (hR : ∀ S h' tk' us c', StrsAre us (ws.map mkS) → h'.get? S = some (listOf us.toArray c') → s.heap.get? S = none → (∀ b o, s.heap.get? b = some o → b ∉ [dx, dS] → b ∉ frsOf (envX cn cs L a ccd cl :: outer) → h'.get? b = some o) →
        (∀ b o, s.heap.get? b = some o → b ∉ [dx, dS] → (∀ vs, o.data ≠ .fields vs) → ∃ sl, h'.get? b = some { o with slots := sl }) → Q (.ref S) { s with heap := h', toks := tk' }) :
    wpAny (model PySem.Challenge.rw_oy0446_01.row.prog w) A (call (.type "list") [.ref x]) Q E s := by
  have hit : findIn (KF w.params) (.ref 783) "__iter__" = some (some (.ref 773)) := by kernel_rfl
  have hitf : isFn (KF w.params) (.ref 773) = true := by kernel_rfl
  have hnx : findIn (KF w.params) (.ref 783) "__next__" = some (some (.ref 780)) := by kernel_rfl
  have hlen : findIn (KF w.params) (.ref 783) "__len__" = some none := by kernel_rfl
  have hhint : findIn (KF w.params) (.ref 783) "__length_hint__" = some none := by kernel_rfl
  have N₁ := N.push F { cls := .type "list", data := .seq #[] }
  have F₁ := F.push { cls := .type "list", data := .seq #[] }
  have hlt : @LT.lt Nat _ q2 s.heap.objs.size := Heap.lt_size (N _ (hs (q2, dqObj) (by simp))).1
  have hS0 : (s.heap.push { cls := .type "list", data := .seq #[] }).get? s.heap.objs.size = some { cls := .type "list", data := .seq #[] } := Heap.get?_push_size _ rfl
  refine callType_codes (Q₁ := fun obj s₁ => obj = .ref s.heap.objs.size ∧ s₁ = { s with heap := s.heap.push { cls := .type "list", data := .seq #[] } }) PySem.F.called_list (PySem.F.typeCall_list_1 _) PySem.F.entry_list_init
    (code_list_new _ ⟨rfl, rfl⟩) fun obj s₁ h₁ => ?_
  obtain ⟨rfl, rfl⟩ := h₁
  refine ⟨⟨_, hS0, rfl⟩, PySem.F.args_list_init_2 _ _, ?_⟩
  show wpAny _ A.in1.in1 (do let old ← Builtin.List.listItems (.ref s.heap.objs.size); Builtin.List.listUpdate (.ref s.heap.objs.size) (fun _ => #[]); letGo old.toList.reverse; Builtin.List.listExtendWith (.ref s.heap.objs.size) (.ref x) .none) _ _ _
  refine wpAny_bind ?_
  unfold Builtin.List.listItems
  refine wpAny_bind (wpAny_seqItems hS0 rfl (wpAny_pure ?_))
  show wpAny _ A.in1.in1 (updateSeq s.heap.objs.size (fun _ => #[]) >>= fun _ => letGo (#[] : Array Value).toList.reverse >>= fun _ => Builtin.List.listExtendWith (.ref s.heap.objs.size) (.ref x) .none) _ _ _
  refine wpAny_bind (wpAny_updateSeq hS0 rfl ?_)
  have z := N₁ _ (.head _)
  have lts : ∀ q ∈ news, q.1 ≠ s.heap.objs.size := fun q hq => Nat.ne_of_lt (Heap.lt_size (N q hq).1)
  have F₂ := F₁.change (Heap.SameBut.update (a := s.heap.objs.size) (f := Obj.mapSeq (fun _ => (#[] : Array Value))) ..) z.2.1 z.2.2
  have N₂ := news_set (pre := []) (post := news) N₁ (fun _ hp => nomatch hp) lts (Heap.SameBut.update ..) (Heap.get?_update_self (Obj.mapSeq (fun _ => (#[] : Array Value))) hS0 rfl)
  have k₂ : ∀ b o, s.heap.get? b = some o → ((s.heap.push { cls := .type "list", data := .seq #[] }).update s.heap.objs.size (Obj.mapSeq (fun _ => (#[] : Array Value)))).get? b = some o := fun b o e =>
    (Heap.get?_update_other _ _ (Nat.ne_of_gt (Heap.lt_size e))).trans (Heap.get?_push_of_some _ e)
  refine wpAny_bind (wpAny_letGo ?_)
  generalize hh₂ : (s.heap.push { cls := .type "list", data := .seq #[] }).update s.heap.objs.size (Obj.mapSeq (fun _ => (#[] : Array Value))) = h₂ at F₂ N₂ k₂ ⊢
  have I₂ : InstAt h₂ x (instObj 783 dx) 783 (some (dictOf (lexEs g k t xS q1 q2 st (Str.ofString "")) 19)) := InstAt.of_news N₂ (.tail _ (hs _ (.head _))) (.tail _ (hs _ (.tail _ (.head _))))
  unfold Builtin.List.listExtendWith
  refine wpAny_bind (I₂.type.here ?_)
  have hxS : s.heap.objs.size ≠ x := fun e => lts _ (hs _ (.head _)) e.symm
  have e1 : Builtin.List.listSameRef (.ref s.heap.objs.size) (.ref x) = false := by simp [Builtin.List.listSameRef, hxS]
  have e2 : (Value.ref 783 == Value.type "list") = false := by decide
  have e3 : (Value.ref 783 == Value.type "tuple") = false := by decide
  simp only [e1, e2, e3, Bool.or_false, Bool.false_eq_true, if_false]
  refine wpAny_bind (owit_iter F₂ X I₂ hit hitf ?_)
  refine use_P (it_claim x) B F₂ X N₂ T (fun q hq => nomatch hq) hA hh hk (by show A.depth + 2 < _; omega) fun v h₃ tk₃ hv k₃ F₃ N₃ => ?_
  subst hv
  have I₃ : InstAt h₃ x (instObj 783 dx) 783 (some (dictOf (lexEs g k t xS q1 q2 st (Str.ofString "")) 19)) := InstAt.of_news N₃ (.tail _ (hs _ (.head _))) (.tail _ (hs _ (.tail _ (.head _))))
  refine owit_it F₃ X I₃ hnx ?_
  refine wpAny_bind (wpAny_holding ?_)
  unfold Builtin.List.listLengthHint
  refine wpAny_bind (wpAny_bind (I₃.type.here ((looks_findIn (X.keeps F₃.keep) hlen).here ?_)))
  show wpAny _ A.in1.in1 (specialOf (Value.ref x) (Str.ofString "__length_hint__") >>= _) _ _ _
  refine wpAny_bind (wpAny_bind (I₃.type.here ((looks_findIn (X.keeps F₃.keep) hhint).here ?_)))
  refine wpAny_pure ?_
  show wpAny _ A.in1.in1 (rule "list.extend.makes-room" >>= fun _ => Builtin.List.listTouch (.ref s.heap.objs.size) >>= fun _ =>
    again (.builtin "list.extend.loop" ⟨[.ref s.heap.objs.size, .ref x, .none], []⟩)) _ _ _
  refine wpAny_bind (wpAny_rule ?_)
  refine wpAny_bind ?_
  show wpAny _ A.in1.in1 (updateSeq s.heap.objs.size (·.push .none) >>= fun _ => updateSeq s.heap.objs.size (·.pop)) _ _ _
  obtain ⟨c₃, z₃⟩ : ∃ c, h₃.get? s.heap.objs.size = some (listOf #[] c) := ⟨_, (N₃ _ (.head _)).1⟩
  have zn : s.heap.objs.size ≠ L ∧ h₀.get? s.heap.objs.size = none := (N₃ _ (.head _)).2
  refine wpAny_bind (wpAny_updateSeq z₃ rfl ?_)
  have hS₄ := Heap.get?_update_self (Obj.mapSeq (·.push Value.none)) z₃ rfl
  refine wpAny_updateSeq (hz := by seq_fits) hS₄ rfl ?_
  obtain ⟨c₅, hS₅⟩ : ∃ c, ((h₃.update s.heap.objs.size (Obj.mapSeq (·.push Value.none))).update s.heap.objs.size (Obj.mapSeq (·.pop))).get? s.heap.objs.size = some (listOf #[] c) := ⟨_, Heap.get?_update_self (Obj.mapSeq (·.pop)) hS₄ rfl⟩
  have F₅ := (F₃.change (Heap.SameBut.update (a := s.heap.objs.size) (f := Obj.mapSeq (·.push Value.none)) ..) zn.1 zn.2).change (Heap.SameBut.update (a := s.heap.objs.size) (f := Obj.mapSeq (·.pop)) ..) zn.1 zn.2
  have N₅ : News h₀ L ((h₃.update s.heap.objs.size (Obj.mapSeq (·.push Value.none))).update s.heap.objs.size (Obj.mapSeq (·.pop))) ((s.heap.objs.size, listOf #[] c₅) :: lexNews x dx xS dS q1 q2 g k t st oS) := by
    intro q hq
    rcases List.mem_cons.mp hq with rfl | hq
    · exact ⟨hS₅, zn⟩
    · have y := N₃ q (.tail _ (hs q hq))
      have ne := lts q (hs q hq)
      exact ⟨(Heap.get?_update_other _ _ (Ne.symm ne)).trans ((Heap.get?_update_other _ _ (Ne.symm ne)).trans y.1), y.2⟩
  have k₅ : ∀ b o, s.heap.get? b = some o → ((h₃.update s.heap.objs.size (Obj.mapSeq (·.push Value.none))).update s.heap.objs.size (Obj.mapSeq (·.pop))).get? b = some o := fun b o e => by
    have ne := Nat.ne_of_gt (Heap.lt_size e)
    exact (Heap.get?_update_other _ _ ne).trans ((Heap.get?_update_other _ _ ne).trans (k₃ b o (k₂ b o e)))
  refine wpAny_pure ⟨plainId_quiet PySem.F.plain_extend_loop _, lex_loop (A := A.in1) x dx xS dS q1 q2 s.heap.objs.size h1 h2 h3 h4 h5 hlt b hl hn B X T hA hh hk (by show A.depth + 16 < _; omega) _ .none ws _ #[] _ g k t p oS st hS hp hst F₅ N₅ (by simpa using hz) fun h' tk' us c' hus hg hk1 hk2 => ?_⟩
  refine ⟨rfl, hR s.heap.objs.size h' tk' us c' hus (by rw [hg]; simp) (Heap.get?_none_of_le (Nat.le_refl _)) (fun b o e hb hf => hk1 b o (k₅ b o e) ?_ hf) (fun b o e hb hf => hk2 b o (k₅ b o e) ?_ hf)⟩
  · intro hm
    rcases List.mem_cons.mp hm with e' | hm
    · exact Nat.lt_irrefl _ (e' ▸ Heap.lt_size e)
    · exact hb hm
  · intro hm
    rcases List.mem_cons.mp hm with e' | hm
    · exact Nat.lt_irrefl _ (e' ▸ Heap.lt_size e)
    · exact hb hm
end
section
open PySem PySem.W PyProof.Rows PySem.Spec PySem.Calls
abbrev ClmS (w : World) (mean : ExcName → Option Value) (mg mb : Str → Option Value) (rm : Nat) (f : Addr) (vs : List Value) (R : Value → Heap → Prop) : Prop :=
  ∀ (dp un : Nat) (gd : Option (List Code)) (cn : Str) (cs : Scope) (a : Addr) (ccd : Value) (cl : List (Str × Addr)) (outer : List Env) (A₀ : Around) (base : Heap) (L : Addr) (s : Shared) (Q E : Value → Shared → Prop),
    Below A₀ base (envX cn cs L a ccd cl :: outer) s.heap → (KF w.params).In s.heap → Top viewQ (looseW viewQ looseN) mean mg mb s.heap →
    dp + rm < recursionLimit → (∀ (v : Value) (h' : Heap) (tk' : Nat), R v h' → (∀ b o, s.heap.get? b = some o → b ∉ frsOf (envX cn cs L a ccd cl :: outer) → h'.get? b = some o) →
      (∀ b o, s.heap.get? b = some o → (∀ vs, o.data ≠ .fields vs) → ∃ sl, h'.get? b = some { o with slots := sl }) → Q v { s with heap := h', toks := tk' }) →
      wpAny (model PySem.Challenge.rw_oy0446_01.row.prog w) (ktrTop dp un gd cn cs L a ccd cl outer) (call (.ref f) vs) Q E s
theorem lexd_mk {h0 h1 h2 h3 h4 h5 h6 h7 h8 h9 h10 h11 h12 h13 h14 h15 h16 h17 h18 : Int} {k0 k1 k2 k3 k4 k5 k6 k7 k8 k9 k10 k11 k12 k13 k14 k15 k16 k17 k18 t0 t1 t2 t3 t4 t5 t6 t7 t8 t9 : Tok} {xS q1 q2 : Addr} {st : Value} {token wc : Str} (hw : wc = wordCs) : LexDict xS q1 q2 st token (dictOf [⟨h0, .str (Str.ofString "instream") k0, .ref xS⟩, ⟨h1, .str (Str.ofString "infile") k1, .none⟩, ⟨h2, .str (Str.ofString "posix") k2, .bool true⟩, ⟨h3, .str (Str.ofString "eof") k3, .none⟩, ⟨h4, .str (Str.ofString "commenters") k4, .str (Str.ofString "") t0⟩, ⟨h5, .str (Str.ofString "wordchars") k5, .str wc t1⟩, ⟨h6, .str (Str.ofString "whitespace") k6, .str (Str.ofString " \t\r\n") t2⟩, ⟨h7, .str (Str.ofString "whitespace_split") k7, .bool true⟩, ⟨h8, .str (Str.ofString "quotes") k8, .str (Str.ofString "'\"") t3⟩, ⟨h9, .str (Str.ofString "escape") k9, .str (Str.ofString "\\") t4⟩, ⟨h10, .str (Str.ofString "escapedquotes") k10, .str (Str.ofString "\"") t5⟩, ⟨h11, .str (Str.ofString "state") k11, st⟩, ⟨h12, .str (Str.ofString "pushback") k12, .ref q1⟩, ⟨h13, .str (Str.ofString "lineno") k13, .int 1 t6⟩, ⟨h14, .str (Str.ofString "debug") k14, .int 0 t7⟩, ⟨h15, .str (Str.ofString "token") k15, .str token t8⟩, ⟨h16, .str (Str.ofString "filestack") k16, .ref q2⟩, ⟨h17, .str (Str.ofString "source") k17, .none⟩, ⟨h18, .str (Str.ofString "_punctuation_chars") k18, .str (Str.ofString "") t9⟩] 19) := by
  subst hw
  exact ⟨fun i => match i with | 0 => h0 | 1 => h1 | 2 => h2 | 3 => h3 | 4 => h4 | 5 => h5 | 6 => h6 | 7 => h7 | 8 => h8 | 9 => h9 | 10 => h10 | 11 => h11 | 12 => h12 | 13 => h13 | 14 => h14 | 15 => h15 | 16 => h16 | 17 => h17 | 18 => h18 | _ => h0, fun i => match i with | 0 => k0 | 1 => k1 | 2 => k2 | 3 => k3 | 4 => k4 | 5 => k5 | 6 => k6 | 7 => k7 | 8 => k8 | 9 => k9 | 10 => k10 | 11 => k11 | 12 => k12 | 13 => k13 | 14 => k14 | 15 => k15 | 16 => k16 | 17 => k17 | 18 => k18 | _ => k0, fun i => match i with | 0 => t0 | 1 => t1 | 2 => t2 | 3 => t3 | 4 => t4 | 5 => t5 | 6 => t6 | 7 => t7 | 8 => t8 | 9 => t9 | _ => t0, rfl⟩
theorem list_lexD {w : World} {mean : ExcName → Option Value} {mg mb : Str → Option Value} {A A₀ : Around} {cn : Str} {cs : Scope} {a L : Addr} {ccd : Value} {cl : List (Str × Addr)} {outer : List Env} {base h₀ : Heap} {m : Str → Option Value} {s : Shared} {Q E : Value → Shared → Prop} {news : List (Addr × Obj)} {x dx xS dS q1 q2 : Addr} (b : Tx) (hl : b.length ≤ 1000000) (hn : ∀ c ∈ b, c ≠ 10)
    (ws : List Tx) {p : Nat} {oS od : Obj} {st : Value} (hS : SioDict b p oS) (hp : p ≤ b.length) (hst : LexSt b p st ws) (hz : ws.length ≤ 1000000) (hA : A.frames = some (envX cn cs L a ccd cl :: outer)) (hh : A.handled = none) (hk : cs.kind = .function) (hroom : A.depth + 18 < recursionLimit)
    (B : Below A₀ base outer h₀) (F : Fr h₀ L s.heap m) (X : (KF w.params).In h₀) (N : News h₀ L s.heap news) (T : Top viewQ (looseW viewQ looseN) mean mg mb h₀)
    (mx : (x, instObj 783 dx) ∈ news) (md : (dx, od) ∈ news) (hd : LexDict xS q1 q2 st (Str.ofString "") od) (mS : (xS, instObj 648 dS) ∈ news) (mo : (dS, oS) ∈ news) (m1 : (q1, dqObj) ∈ news) (m2 : (q2, dqObj) ∈ news)
    (h1 : @LT.lt Nat _ dx x) (h2 : @LT.lt Nat _ x dS) (h3 : @LT.lt Nat _ dS xS) (h4 : @LT.lt Nat _ xS q1) (h5 : @LT.lt Nat _ q1 q2)
    (hR : ∀ S h' tk' us c', StrsAre us (ws.map mkS) → h'.get? S = some (listOf us.toArray c') → (∀ b o, s.heap.get? b = some o → b ∉ [dx, dS] → b ∉ frsOf (envX cn cs L a ccd cl :: outer) → h'.get? b = some o) →
        (∀ b o, s.heap.get? b = some o → b ∉ [dx, dS] → (∀ vs, o.data ≠ .fields vs) → ∃ sl, h'.get? b = some { o with slots := sl }) → Q (.ref S) { s with heap := h', toks := tk' }) :
    wpAny (model PySem.Challenge.rw_oy0446_01.row.prog w) A (call (.type "list") [.ref x]) Q E s := by
  obtain ⟨g, k, t, rfl⟩ := hd
  refine list_lex x dx xS dS q1 q2 h1 h2 h3 h4 h5 b hl hn B F X N T hA hh hk hroom ws g k t p oS st hS hp hst hz (fun q hq => ?_) fun S h' tk' us c' e1 e2 _ e3 e4 => hR S h' tk' us c' e1 e2 e3 e4
  simp only [List.mem_cons, List.not_mem_nil, or_false] at hq
  rcases hq with rfl | rfl | rfl | rfl | rfl | rfl <;> assumption
theorem split_old {h₀ h : Heap} {L dx dS : Addr} {od oS : Obj} {news : List (Addr × Obj)} (N : News h₀ L h news) (md : (dx, od) ∈ news) (mS : (dS, oS) ∈ news) {b : Addr} {o : Obj} (e : h₀.get? b = some o) : b ∉ [dx, dS] := by
  intro hm
  rcases List.mem_cons.mp hm with rfl | hm
  · rw [(N _ md).2.2] at e; cases e
  · cases List.mem_singleton.mp hm
    rw [(N _ mS).2.2] at e; cases e
theorem split_keep {h₀ h hR : Heap} {L dx dS : Addr} {od oS : Obj} {m : Str → Option Value} {news : List (Addr × Obj)} {env : Env} {outer : List Env} (k1 : ∀ b o, h.get? b = some o → b ∉ [dx, dS] → b ∉ frsOf (env :: outer) → hR.get? b = some o) (hf : env.frame = some L) (F : Fr h₀ L h m) (N : News h₀ L h news) (md : (dx, od) ∈ news) (mS : (dS, oS) ∈ news) :
    ∀ b o, h₀.get? b = some o → b ∉ frsOf outer → hR.get? b = some o := by
  intro b o e hb
  refine k1 b o (F.keep b o e) (split_old N md mS e) fun hm => ?_
  obtain ⟨env', he, hf'⟩ := List.mem_filterMap.mp hm
  rcases List.mem_cons.mp he with rfl | he
  · rw [hf] at hf'
    cases Option.some.inj hf'
    exact Nat.lt_irrefl _ (Nat.lt_of_lt_of_le (Heap.lt_size e) F.above)
  · exact hb (List.mem_filterMap.mpr ⟨env', he, hf'⟩)
section
set_option maxHeartbeats 4000000 in
theorem split_claim {w : World} {mean : ExcName → Option Value} {mg mb : Str → Option Value} (ws : List Tx) (b : Tx) (t : Tok) (hr : Lex b ws) (hl : b.length ≤ 1000000) (hn : ∀ c ∈ b, c ≠ 10) (hz : ws.length ≤ 1000000) :
    ClmS w mean mg mb 40 795 [.str ⟨b.toArray⟩ t] (fun v h' => ∃ S us c, v = .ref S ∧ StrsAre us (ws.map mkS) ∧ h'.get? S = some (listOf us.toArray c)) := by
  k_with_none
  k_with "call type:list" => (k_here; k_dflt (refine' list_lexD b hl hn ws hSio (Nat.zero_le _) (.inr ⟨_, rfl, hr⟩) hz rfl rfl rfl ?wroom ?wB ?wF ?wX ?wN ?wT ?w1 ?w2 ?w3 ?w4 ?w5 ?w6 ?w7 ?o1 ?o2 ?o3 ?o4 ?o5 ?_; (case wroom => ktr_room); (case wB => assumption); (case wF => k_asm); (case wX => k_asm); (case wN => k_asm); (case wT => k_asm); (case w1 => k_mem); (case w2 => k_mem); (case w4 => k_mem); (case w5 => k_mem); (case w3 => (refine lexd_mk ?_; decide +kernel)); (case w6 => k_mem); (case w7 => k_mem); (case o1 => omega); (case o2 => omega); (case o3 => omega); (case o4 => omega); (case o5 => omega); k_whole); intro SR hR tkR usR cR husR hgR hk1R hk2R)
  k_with "call ref" => (k_here; (with_reducible show wpAny _ _ (call (Value.ref 648) _) _ _ _); k_dflt (refine' sio_call ?hl ?k1 ?k2 ?k3 ?k4 ?k5 rfl rfl ?k6 ?k7 ?_; (case hl => assumption); (case k1 => k_asm); (case k2 => k_asm); (case k3 => k_asm); (case k4 => k_asm); (case k5 => k_asm); (case k6 => exact rfl); (case k7 => ktr_room); k_whole); intro xS dS oS hS tkS hSio FS NS lS1 lS2; (try k_lt lS1); (try k_lt2 lS2); (try k_sweep))
  k_with "call type:collections.deque" => (k_here; k_dflt (refine' dq_call ?k1 ?k2 ?_; (case k1 => k_asm); (case k2 => k_asm); k_whole); intro q' h' F' N' l1; (try k_lt l1); (try k_sweep))
  have hl2 : (⟨b.toArray⟩ : Str).length = b.length := by simp [Str.length]
  dsimp only [ClmS]
  k_fill
  intros
  rename_i hret
  have lk := lk_795 w.params
  dsimp only [fa_795, fb_795, fs_795] at lk
  refine wpAny_call ?_
  (refine' enter_free ?k3 ?k5 ?lk ?k7 ?k8 ?k9 ?kB ?_ ?c2 ?c3 ?c4 ?c5; (case k3 => assumption); (case k5 => assumption); (case lk => assumption); (case k7 => k_is); (case k8 => ktr_room); (case k9 => first | exact BindsTo.of_eq rfl | exact binds_K (by k_in) rfl (by k_is) rfl rfl rfl); (case c5 => decide); (case kB => exact locs rfl); (case c2 => exact rfl); (case c3 => exact rfl); (case c4 => exact rfl); k_whole; intro _ _ _ _; (try dsimp only); (try k_fold))
  clear lk
  k_steps
  refine hret _ _ _ ⟨_, _, _, rfl, husR, hgR⟩ ?_ ?_
  · k_dflt (refine' split_keep hk1R rfl ?wF ?wN ?w2 ?w5; (case wF => k_asm); (case wN => k_asm); (case w2 => k_mem); (case w5 => k_mem))
  · intro b o e hf
    k_dflt (refine' hk2R b o (Fr.keep ?wF b o e) (split_old ?wN ?w2 ?w5 e) hf; (case wF => k_asm); (case wN => k_asm); (case w2 => k_mem); (case w5 => k_mem))
end
end
section
open PySem PySem.W PyProof.Rows PySem.Spec PySem.Calls
theorem law_ns (P : Params) : nsIn (KF P) mainGlobals "law" = some (some (.ref 830)) := by kernel_rfl
theorem law_names : (recsOf viewQ).map (·.name) = [("law" : Str)] := by kernel_rfl
theorem no_own : ownsOf viewQ = [] := by kernel_rfl
theorem lookup797 (P : Params) : (KF P).lookup 797 = none := by kernel_rfl
theorem look829 (P : Params) : (KF P).lookup 829 = some (k_829 P) := by kernel_rfl
theorem law_tab {w : World} {mg : Str → Option Value} {h : Heap} (X : (KF w.params).In h) (G : h.Ns mainGlobals mg) {a c P : Addr} {o : Obj} {fd : FuncData} (hm : mg "law" = some (.ref a)) (ho : h.get? a = some o) (hd : o.data = .func fd) (hc : fd.code = .ref c) (ht : h.TableAt c P #[]) : P ≠ 797 := by
  have ha := mg_of X G (law_ns w.params)
  rw [hm] at ha
  obtain rfl : a = 830 := by injection ha with ha; injection ha
  have h830 := X _ _ (lk_830 w.params)
  rw [ho] at h830
  injection h830 with h830
  subst h830
  have hd' := hd
  injection hd' with hd'
  have hc829 : fd.code = .ref 829 := by rw [← hd']
  rw [hc] at hc829
  obtain rfl : c = 829 := by injection hc829
  obtain ⟨⟨o, vs, h1, _, h2, h3⟩, _⟩ := ht
  have := X _ _ (look829 w.params)
  rw [h1] at this
  injection this with this
  subst this
  have hv : vs = #[.str "law" 2878, .str "law" 2879, .str "/claim/cut.py" 2880, .int 858 0, .int 1 0, .int 0 0, .int 0 0, .int 3 0, .ref 826, .bool true, .int 318 0, .ref 827, .none, .none, .none, .ref 828, .int 2881 0, .int 858 0, .str "/claim/cut.py" 2882] := by
    have e : (k_829 w.params).data = .fields vs := h2
    injection e with e
    exact e.symm
  subst hv
  have e : some (Value.ref 827) = some (Value.ref P) := h3
  injection e with e
  injection e with e
  subst e
  decide
theorem top_but {w : World} {mean : ExcName → Option Value} {mg mb : Str → Option Value} {h h' : Heap} {ps : Array Value} (T : Top viewQ (looseW viewQ looseN) mean mg mb h) (X : (KF w.params).In h) (ht : h.get? 797 = some { cls := .none, data := .fields ps }) (k : ∀ b o, h.get? b = some o → b ≠ 797 → h'.get? b = some o) : Top viewQ (looseW viewQ looseN) mean mg mb h' := by
  have nd : ∀ b o, h.get? b = some o → (∀ vs, o.data ≠ .fields vs) → h'.get? b = some o := fun b o e hn => k b o e (by rintro rfl; rw [ht] at e; cases e; exact hn _ rfl)
  have nc : ∀ b o, h.get? b = some o → o.cls ≠ .none → h'.get? b = some o := fun b o e hn => k b o e (by rintro rfl; rw [ht] at e; cases e; exact hn rfl)
  have nns : ∀ a m, h.Ns a m → h'.Ns a m := fun a m ⟨o, es, ep, e, hd, r⟩ => ⟨o, es, ep, nd a o e (fun vs q => by rw [hd] at q; cases q), hd, r⟩
  have ntab : ∀ c P ps', P ≠ 797 → h.TableAt c P ps' → h'.TableAt c P ps' := fun c P ps' hP ⟨⟨o, vs, e, hc, r⟩, e'⟩ => ⟨⟨o, vs, nc c o e (by rw [hc]; exact fun q => by cases q), hc, r⟩, k _ _ e' hP⟩
  refine { g := nns _ _ T.g, b := nns _ _ T.b, nolimit := ?_, nodigits := ?_, fn := ?_, own := ?_, const := T.const, free := T.free, builtins := T.builtins, tab := ?_, bmain := ?_, seer := ?_ }
  · obtain ⟨mc, e, r⟩ := T.nolimit; exact ⟨mc, nns _ _ e, r⟩
  · obtain ⟨mc, e, r⟩ := T.nodigits; exact ⟨mc, nns _ _ e, r⟩
  · intro d hd
    obtain ⟨a, o, pm, code, doc, h1, h2, h3, h4⟩ := T.fn d hd
    refine ⟨a, o, pm, code, doc, h1, nd a o h2 (fun vs q => by rw [h3] at q; cases q), h3, ?_⟩
    obtain ⟨a', o', fd, c, P, g1, g2, g3, g4, g5, g6⟩ := T.tab d hd
    rw [h1] at g1; injection g1 with g1; injection g1 with g1; subst g1
    rw [h2] at g2; injection g2 with g2; subst g2
    rw [h3] at g3; injection g3 with g3; subst g3
    obtain ⟨c', oc, vs, t, e1, e2, e3, e4⟩ := h4
    obtain rfl : c' = c := by rw [e1] at g4; injection g4
    obtain ⟨⟨oc', vs', f1, f2, f3⟩, _⟩ := g6
    rw [e2] at f1; injection f1 with f1; subst f1
    exact ⟨c', oc, vs, t, e1, nc _ _ e2 (by rw [f2]; exact fun q => by cases q), e3, e4⟩
  · intro o ho; rw [no_own] at ho; cases ho
  · intro d hd
    obtain ⟨a, o, fd, c, P, h1, h2, h3, h4, h5, h6⟩ := T.tab d hd
    have hn : d.name = ("law" : Str) := by
      have := List.mem_map_of_mem (f := (·.name)) hd
      rw [law_names] at this
      exact List.mem_singleton.mp this
    have hP := law_tab X T.g (hn ▸ h1) h2 h3 h4 h6
    have h6' := ntab c P _ hP h6
    refine ⟨a, o, fd, c, P, h1, nd a o h2 (fun vs q => by rw [h3] at q; cases q), h3, h4, ?_, h6'⟩
    obtain ⟨⟨oc', vs', f1, f2, f3⟩, _⟩ := h6
    obtain ⟨oc, vs, file, tf, flags, tg, inF, text, tt, op, e1, r1, r2, r3, r4, r5, r6, e2, r⟩ := h5
    exact ⟨oc, vs, file, tf, flags, tg, inF, text, tt, op, nc _ _ e1 (by rw [e1] at f1; injection f1 with f1; subst f1; rw [f2]; exact fun q => by cases q), r1, r2, r3, r4, r5, r6, k _ _ e2 hP, r⟩
  · obtain ⟨bm, ob, h1, h2, h3, h4, r⟩ := T.bmain
    exact ⟨bm, ob, h1, h2, nc _ _ h3 (by rw [h4]; exact fun q => by cases q), h4, r⟩
  · intro hi
    have S := T.seer hi
    obtain ⟨mc, a1, b1⟩ := S.statics
    obtain ⟨mm, a2, b2⟩ := S.mods
    obtain ⟨m3, a3, b3⟩ := S.imp
    obtain ⟨m4, bm, ob, a4, b4, c4, d4, e4⟩ := S.main
    exact ⟨⟨mc, nns _ _ a1, b1⟩, ⟨mm, nns _ _ a2, b2⟩, ⟨m3, nns _ _ a3, b3⟩, ⟨m4, bm, ob, nns _ _ a4, b4, nc _ _ c4 (by rw [d4]; exact fun q => by cases q), d4, e4⟩⟩
theorem in_but {w : World} {h h' : Heap} (X : (KF w.params).In h) (k : ∀ b o, h.get? b = some o → b ≠ 797 → h'.get? b = some o) : (KF w.params).In h' := fun a o e => k a o (X a o e) (by rintro rfl; rw [lookup797] at e; cases e)
end
section
open PySem PySem.W PyProof.Rows PySem.Spec PySem.Calls
abbrev ClmG (w : World) (mean : ExcName → Option Value) (mg mb : Str → Option Value) (rm : Nat) (f P : Addr) (vs : List Value) (pre : Heap → Prop) (R : Value → Heap → Prop) : Prop :=
  ∀ (A : Around) (s : Shared) (Q E : Value → Shared → Prop), A.handled = none → A.depth + rm < recursionLimit → (KF w.params).In s.heap → Top viewQ (looseW viewQ looseN) mean mg mb s.heap → AllBare s.gens → pre s.heap →
    (∀ (v : Value) (s' : Shared), R v s'.heap → (∀ b o, s.heap.get? b = some o → b ≠ P → s'.heap.get? b = some o) → AllBare s'.gens → s'.os = s.os → Q v s') →
      wpAny (model PySem.Challenge.rw_oy0446_01.row.prog w) A (call (.ref f) vs) Q E s
theorem strs_get {vs : List Value} {ts : List Tx} (h : StrsAre vs (ts.map mkS)) {i : Nat} {v : Value} (e : vs[i]? = some v) : ∃ x t, ts[i]? = some x ∧ v = .str (mkS x) t := by
  generalize hy : ts.map mkS = ys at h
  induction h generalizing ts i with
  | nil => simp at e
  | cons y t h ih =>
    cases ts with
    | nil => simp at hy
    | cons x xs =>
      simp only [List.map_cons, List.cons.injEq] at hy
      cases i with
      | zero => simp at e; exact ⟨x, t, rfl, by rw [← e, hy.1]⟩
      | succ i => simp at e; obtain ⟨x', t', h1, h2⟩ := ih e hy.2; exact ⟨x', t', by simpa using h1, h2⟩
def JT (h : Heap) : Prop := ∃ ps, h.IsCode 801 797 ps ∧ h.TableAt 801 797 ps ∧ (ps = #[] ∨ ∃ c' : Addr, ps = #[rawInt 827, rawInt 20, .ref c'])
theorem passing_all (n : Nat) : passing (fun _ => true) n 0 = List.range n := by
  simp [passing]
theorem strs_length {vs : List Value} {ys : List Str} (h : StrsAre vs ys) : vs.length = ys.length := by
  induction h with
  | nil => rfl
  | cons y t h ih => simp [ih]
theorem range_get {α β : Type} (l : List α) (f : Nat → β) (g : α → β) (h : ∀ i x, l[i]? = some x → f i = g x) : (List.range l.length).map f = l.map g := by
  apply List.ext_getElem?
  intro i
  by_cases hi : i < l.length
  · simp [hi, h i l[i] (List.getElem?_eq_getElem hi)]
  · simp [hi]
theorem join_mk : ∀ ts : List Tx, Str.join (Str.ofString " ") (ts.map fun x => mkS (quoteT x)) = mkS (joinT ts)
  | [] => rfl
  | [x] => rfl
  | x :: y :: ts => by
    have ih := join_mk (y :: ts)
    simp only [List.map_cons] at ih ⊢
    show (mkS (quoteT x) ++ Str.ofString " ") ++ Str.join _ _ = _
    rw [ih]
    show (⟨_⟩ : Str) = ⟨_⟩
    congr 1
    show ((quoteT x).toArray ++ #[32]) ++ (joinT (y :: ts)).toArray = (quoteT x ++ 32 :: joinT (y :: ts)).toArray
    simp
section
set_option maxHeartbeats 4000000 in
theorem join_first {w : World} {mean : ExcName → Option Value} {mg mb : Str → Option Value} (q : Addr) (its : Array Value) (n : Nat) (ts : List Tx) (hts : StrsAre its.toList (ts.map mkS)) (htl : ∀ x ∈ ts, x.length ≤ 1000000) (htw : (ts.map fun x => (quoteT x).length).sum + ts.length ≤ 1000000) :
    ClmG w mean mg mb 20 802 797 [.ref q] (fun h => h.get? q = some (listOf its n) ∧ h.IsCode 801 797 #[] ∧ h.TableAt 801 797 #[]) (fun v h' => (∃ tk, v = .str (mkS (joinT ts)) tk) ∧ JT h') := by
  k_with_none
  dsimp only [ClmG]
  k_fill
  intro A s Q E hh hroom X T hG hpre hret
  obtain ⟨hq, hIC, hTab⟩ := id hpre
  have lk := lk_802 w.params
  dsimp only [fa_802, fb_802, fs_802] at lk
  refine wpAny_call ?_
  (refine' enter_free ?k3 ?k5 ?lk ?k7 ?k8 ?k9 ?kB ?_ ?c2 ?c3 ?c4 ?c5; (case k3 => assumption); (case k5 => assumption); (case lk => assumption); (case k7 => k_is); (case k8 => ktr_room); (case k9 => first | exact BindsTo.of_eq rfl | exact binds_K (by k_in) rfl (by k_is) rfl rfl rfl); (case c5 => decide); (case kB => exact locs rfl); (case c2 => exact rfl); (case c3 => exact rfl); (case c4 => exact rfl); k_whole; intro _ _ _ _; (try dsimp only); (try k_fold))
  clear lk
  k_steps
  obtain ⟨bm, ob, M⟩ := bmod_of_top T
  rename Fr _ _ _ _ => lF
  refine' GeneratorExp_list_rowsF (Based.start hIC hTab (by decide)) M rfl rfl (by exact hh) rfl rfl (by decide) rfl rfl rfl ?room ?hb (fun _ => rfl)
  case room => ktr_room
  case hb =>
    refine ld lF rfl ?_
    refine ⟨q, its, rfl, ⟨_, lF.keep _ _ hq, rfl, n, rfl⟩, lF, hG, T.nolimit.keeps lF.keep, _, fun _ => true, fun i y => ∃ x tk, ts[i]? = some x ∧ y = .str (mkS (quoteT x)) tk, Nat.le_refl _, lF.ns.lt, ?_, ?_, ?_⟩
    · intro c' C A' E' i v t m₂ hA' hD hU hi hF hm hLC hk
      exact wpAny_pure ⟨rfl, _, _, rfl, fun _ _ e => e⟩
    · intro c' C A' E' i v t m₂ hA' hD hU hi _ hF hm hLC hk
      obtain ⟨x, tkx, hx, rfl⟩ := strs_get hts (i := i) (by simpa using hi)
      have kk : ∀ b o, s.heap.get? b = some o → b ≠ 797 → t.heap.get? b = some o := fun b o e hb => hk b o hb (lF.keep b o e)
      have Xt := in_but X kk
      have Tt := top_but T X hTab.2 kk
      clear hk hret hpre lF
      refine Call_Name rfl (Name_function_global rfl rfl (loadGlobal_global Tt.g (mg_of Xt Tt.g (v := .ref 810) (by kernel_rfl)) ?_) (by decide))
      refine callWith_K Xt (by kernel_rfl) ?_
      refine spliced_cons ?_
      show wpAny _ A' (eval (.Name "arg" _) _) _ _ _
      refine wpAny_Name (wpAny_loadName_local rfl rfl hF.ns hm ?_) (by decide)
      show wpAny _ A' (spliced []) _ _ _
      refine spliced_nil ⟨Xt, ?_⟩
      show wpAny _ A' (call (.ref 810) [.str (mkS x) tkx]) _ _ _
      have hD' : A'.depth ≤ A.depth + 1 + 1 := hD
      refine sq_claim x tkx (htl x (List.mem_of_getElem? hx)) A' t _ _ hA' (by omega) Xt Tt fun v h' tk' hR hk' => ?_
      obtain ⟨tk, rfl⟩ := hR
      exact ⟨⟨x, tk, hx, rfl⟩, h', tk', rfl, hk'⟩
    · intro c' ga s₅ B₅ F₅ G₅ hos hk X₅
      show wpAny _ _ (spliced []) _ _ _
      refine spliced_nil ?_
      show wpAny _ _ (call (.builtin "str.join") [.str (Str.ofString " ") _, .ref ga]) _ _ _
      have hn : (passing (fun _ => true) its.size 0).length = ts.length := by
        rw [passing_all, List.length_range]
        have := strs_length hts
        simpa using this
      have hmap : (List.range ts.length).map (fun j => match ts[j]? with | some x => mkS (quoteT x) | none => mkS []) = ts.map fun x => mkS (quoteT x) := range_get ts _ _ fun i x hx => by simp only [hx]
      refine join_rowsK F₅ G₅ X₅ (Nat.le_refl _) (fun j => match ts[j]? with | some x => mkS (quoteT x) | none => mkS []) ?_ ?_ (fun s' t' F' G' os' hk' => ?_) ?_
      · rintro j v ⟨i, hi, x, tkx, hx, rfl⟩
        rw [passing_all] at hi
        obtain rfl : j = i := by
          obtain ⟨hlt, e⟩ := List.getElem?_eq_some_iff.mp hi
          simpa using e
        exact ⟨tkx, by simp only [hx]⟩
      · rw [hn, hmap]
        refine joinOk_of_weight ?_ (by decide)
        have e : (ts.map fun x => mkS (quoteT x)).map (·.length) = ts.map fun x => (quoteT x).length := by
          simp [mkS, Str.length]
        rw [e, List.length_map]
        omega
      · rw [hn, hmap, show Txt.join _ _ = _ from (StrLaws.glued_eq_join _ _).trans (join_mk ts)]
        refine hret _ s' ⟨⟨_, rfl⟩, _, B₅.codeAt F', B₅.tabAt F', .inr ⟨_, rfl⟩⟩ (fun b o e hb => hk' b o (Nat.le_trans (Nat.le_of_lt (Heap.lt_size e)) lF.above) (hk b o hb (lF.keep b o e))) G' (os'.trans hos)
      · rw [hn]
        show ts.length ≤ 2 ^ 24
        omega
set_option maxHeartbeats 4000000 in
theorem join_later {w : World} {mean : ExcName → Option Value} {mg mb : Str → Option Value} (c₀ q : Addr) (its : Array Value) (n : Nat) (ts : List Tx) (hts : StrsAre its.toList (ts.map mkS)) (htl : ∀ x ∈ ts, x.length ≤ 1000000) (htw : (ts.map fun x => (quoteT x).length).sum + ts.length ≤ 1000000) :
    ClmG w mean mg mb 20 802 797 [.ref q] (fun h => h.get? q = some (listOf its n) ∧ h.IsCode 801 797 #[rawInt 827, rawInt 20, .ref c₀] ∧ h.TableAt 801 797 #[rawInt 827, rawInt 20, .ref c₀]) (fun v h' => (∃ tk, v = .str (mkS (joinT ts)) tk) ∧ JT h') := by
  k_with_none
  dsimp only [ClmG]
  k_fill
  intro A s Q E hh hroom X T hG hpre hret
  obtain ⟨hq, hIC, hTab⟩ := id hpre
  have lk := lk_802 w.params
  dsimp only [fa_802, fb_802, fs_802] at lk
  refine wpAny_call ?_
  (refine' enter_free ?k3 ?k5 ?lk ?k7 ?k8 ?k9 ?kB ?_ ?c2 ?c3 ?c4 ?c5; (case k3 => assumption); (case k5 => assumption); (case lk => assumption); (case k7 => k_is); (case k8 => ktr_room); (case k9 => first | exact BindsTo.of_eq rfl | exact binds_K (by k_in) rfl (by k_is) rfl rfl rfl); (case c5 => decide); (case kB => exact locs rfl); (case c2 => exact rfl); (case c3 => exact rfl); (case c4 => exact rfl); k_whole; intro _ _ _ _; (try dsimp only); (try k_fold))
  clear lk
  k_steps
  obtain ⟨bm, ob, M⟩ := bmod_of_top T
  rename Fr _ _ _ _ => lF
  refine' genexp_list_hit hIC M rfl (c' := .ref c₀) rfl (by exact hh) rfl rfl (by decide) rfl rfl rfl ?room ?hb (fun _ => rfl)
  case room => ktr_room
  case hb =>
    refine ld lF rfl ?_
    refine ⟨q, its, rfl, ⟨_, lF.keep _ _ hq, rfl, n, rfl⟩, lF, hG, T.nolimit.keeps lF.keep, _, fun _ => true, fun i y => ∃ x tk, ts[i]? = some x ∧ y = .str (mkS (quoteT x)) tk, Nat.le_refl _, lF.ns.lt, ?_, ?_, ?_⟩
    · intro C A' E' i v t m₂ hA' hD hU hi hF hm hLC hk
      exact wpAny_pure ⟨rfl, _, _, rfl, fun _ _ e => e⟩
    · intro C A' E' i v t m₂ hA' hD hU hi _ hF hm hLC hk
      obtain ⟨x, tkx, hx, rfl⟩ := strs_get hts (i := i) (by simpa using hi)
      have kk : ∀ b o, s.heap.get? b = some o → b ≠ 797 → t.heap.get? b = some o := fun b o e hb => hk b o (lF.keep b o e)
      have Xt := in_but X kk
      have Tt := top_but T X hTab.2 kk
      clear hk hret hpre lF
      refine Call_Name rfl (Name_function_global rfl rfl (loadGlobal_global Tt.g (mg_of Xt Tt.g (v := .ref 810) (by kernel_rfl)) ?_) (by decide))
      refine callWith_K Xt (by kernel_rfl) ?_
      refine spliced_cons ?_
      show wpAny _ A' (eval (.Name "arg" _) _) _ _ _
      refine wpAny_Name (wpAny_loadName_local rfl rfl hF.ns hm ?_) (by decide)
      show wpAny _ A' (spliced []) _ _ _
      refine spliced_nil ⟨Xt, ?_⟩
      show wpAny _ A' (call (.ref 810) [.str (mkS x) tkx]) _ _ _
      have hD' : A'.depth ≤ A.depth + 1 + 1 := hD
      refine sq_claim x tkx (htl x (List.mem_of_getElem? hx)) A' t _ _ hA' (by omega) Xt Tt fun v h' tk' hR hk' => ?_
      obtain ⟨tk, rfl⟩ := hR
      exact ⟨⟨x, tk, hx, rfl⟩, h', tk', rfl, hk'⟩
    · intro ga s₅ F₅ G₅ hos hk X₅
      show wpAny _ _ (spliced []) _ _ _
      refine spliced_nil ?_
      show wpAny _ _ (call (.builtin "str.join") [.str (Str.ofString " ") _, .ref ga]) _ _ _
      have hn : (passing (fun _ => true) its.size 0).length = ts.length := by
        rw [passing_all, List.length_range]
        have := strs_length hts
        simpa using this
      have hmap : (List.range ts.length).map (fun j => match ts[j]? with | some x => mkS (quoteT x) | none => mkS []) = ts.map fun x => mkS (quoteT x) := range_get ts _ _ fun i x hx => by simp only [hx]
      refine join_rowsK F₅ G₅ X₅ (Nat.le_refl _) (fun j => match ts[j]? with | some x => mkS (quoteT x) | none => mkS []) ?_ ?_ (fun s' t' F' G' os' hk' => ?_) ?_
      · rintro j v ⟨i, hi, x, tkx, hx, rfl⟩
        rw [passing_all] at hi
        obtain rfl : j = i := by
          obtain ⟨hlt, e⟩ := List.getElem?_eq_some_iff.mp hi
          simpa using e
        exact ⟨tkx, by simp only [hx]⟩
      · rw [hn, hmap]
        refine joinOk_of_weight ?_ (by decide)
        have e : (ts.map fun x => mkS (quoteT x)).map (·.length) = ts.map fun x => (quoteT x).length := by
          simp [mkS, Str.length]
        rw [e, List.length_map]
        omega
      · rw [hn, hmap, show Txt.join _ _ = _ from (StrLaws.glued_eq_join _ _).trans (join_mk ts)]
        refine hret _ s' ⟨⟨_, rfl⟩, _, hIC.keeps F'.keep, hTab.keeps F'.keep, .inr ⟨_, rfl⟩⟩ (fun b o e hb => hk' b o (Nat.le_trans (Nat.le_of_lt (Heap.lt_size e)) lF.above) (hk b o (lF.keep b o e))) G' (os'.trans hos)
      · rw [hn]
        show ts.length ≤ 2 ^ 24
        omega
end
theorem join_claim {w : World} {mean : ExcName → Option Value} {mg mb : Str → Option Value} (q : Addr) (its : Array Value) (n : Nat) (ts : List Tx) (hts : StrsAre its.toList (ts.map mkS)) (htl : ∀ x ∈ ts, x.length ≤ 1000000) (htw : (ts.map fun x => (quoteT x).length).sum + ts.length ≤ 1000000) :
    ClmG w mean mg mb 20 802 797 [.ref q] (fun h => h.get? q = some (listOf its n) ∧ JT h) (fun v h' => (∃ tk, v = .str (mkS (joinT ts)) tk) ∧ JT h') := by
  intro A s Q E hh hroom X T hG hpre hret
  obtain ⟨hq, ps, hIC, hTab, rfl | ⟨c', rfl⟩⟩ := hpre
  · exact join_first q its n ts hts htl htw A s Q E hh hroom X T hG ⟨hq, hIC, hTab⟩ hret
  · exact join_later c' q its n ts hts htl htw A s Q E hh hroom X T hG ⟨hq, hIC, hTab⟩ hret
end
section
open PySem PySem.W PyProof.Rows PySem.Spec PySem.Calls
theorem mkS_len (x : Tx) : (mkS x).length = x.length := by simp [mkS, Str.length]
theorem mkS_add (a b : Tx) : mkS a ++ mkS b = mkS (a ++ b) := Str_eq (by simp [Str.cps_append])
section
variable {prog : Program} {w : World} {A : Around} {E : Value → Shared → Prop} {s : Shared} {t u : Tok} {Q : Value → Shared → Prop}
theorem add_mk {a b : Tx} (hl : a.length + b.length ≤ 16777216) (h : ∀ t' k, Q (.str (mkS (a ++ b)) t') { s with toks := k }) : wpAny (model prog w) A (binaryOp .Add (.str (mkS a) t) (.str (mkS b) u)) Q E s := by
  refine SBL.add (fun t' k _ => ?_) ?_
  · rw [mkS_add]; exact h t' k
  · rw [mkS_len, mkS_len]; exact hl
theorem iadd_mk {a b : Tx} (hl : a.length + b.length ≤ 16777216) (h : ∀ t' k, Q (.str (mkS (a ++ b)) t') { s with toks := k }) : wpAny (model prog w) A (inplaceOp .Add (.str (mkS a) t) (.str (mkS b) u)) Q E s := by
  refine SBL.iadd (fun t' k _ => ?_) ?_
  · rw [mkS_add]; exact h t' k
  · rw [mkS_len, mkS_len]; exact hl
theorem item_mk {ℓ : Tx} {j : Int} {k c : Nat} {value slice : Expr} (hj : j = (k : Int)) (hc : ℓ[k]? = some c) (hl : ℓ.length ≤ 16777216) (h : ∀ t' k', Q (.str (mkS [c]) t') { s with toks := k' })
    (hs : subscripted slice false (.str (mkS ℓ) t) (.int j u) = operate [.str (mkS ℓ) t, .int j u] (getItem (.str (mkS ℓ) t) (.int j u)) := by with_unfolding_all rfl)
    (ht : ∀ r, letTemporaryGo value (.str (mkS ℓ) t) r = pure () := by intro _; with_unfolding_all rfl) : wpAny (model prog w) A (subscriptTail value slice (.str (mkS ℓ) t) (.int j u)) Q E s := by
  obtain ⟨hk, e⟩ := List.getElem?_eq_some_iff.mp hc
  have hlen := mkS_len ℓ
  refine item_str (fitsSsize_of (N := 9223372036854775808) (by omega) (by omega) (Int.le_refl _)) (by omega) (by omega) (fun _ => ?_) hs ht
  have e1 : Txt.item (mkS ℓ) j = mkS [c] := by
    subst hj
    exact item_meets (x := mkS ℓ) (by omega) (by simpa using hc)
  rw [e1]
  exact h _ _
theorem item_mk_last {v ℓ : Tx} {c : Nat} {value slice : Expr} (hℓ : ℓ = v ++ [c]) (hl : ℓ.length ≤ 16777216) (h : ∀ t' k', Q (.str (mkS [c]) t') { s with toks := k' })
    (hs : subscripted slice false (.str (mkS ℓ) t) (.int (-1) u) = operate [.str (mkS ℓ) t, .int (-1) u] (getItem (.str (mkS ℓ) t) (.int (-1) u)) := by with_unfolding_all rfl)
    (ht : ∀ r, letTemporaryGo value (.str (mkS ℓ) t) r = pure () := by intro _; with_unfolding_all rfl) : wpAny (model prog w) A (subscriptTail value slice (.str (mkS ℓ) t) (.int (-1) u)) Q E s := by
  have hlen := mkS_len ℓ
  have hp : 1 ≤ ℓ.length := by rw [hℓ]; simp
  refine item_str (by decide) (by omega) (by omega) (fun _ => ?_) hs ht
  rw [item_last hℓ]
  exact h _ _
theorem ne_sign {x y : Str} {b : Bool} (e : (x == y) = b) (h : Q (.bool !b) s) : wpAny (model prog w) A (compareOp .NotEq (.str x t) (.str y u)) Q E s := PyProof.Rows.ne_str (by rw [bne, e]; exact h)
theorem in_sign2 {x : Str} {c : Nat} {b : Bool} (e : decide (c ∈ x.cps.toList) = b) (h : Q (.bool b) s) : wpAny (model prog w) A (compareOp .In (.str (mkS [c]) u) (.str x t)) Q E s := PyProof.Rows.in_str (by rw [show (mkS [c] : Str) = ⟨#[c]⟩ from rfl, StrLaws.found_one, e]; exact h)
theorem notIn_sign2 {x : Str} {c : Nat} {b : Bool} (e : decide (c ∈ x.cps.toList) = b) (h : Q (.bool !b) s) : wpAny (model prog w) A (compareOp .NotIn (.str (mkS [c]) u) (.str x t)) Q E s := PyProof.Rows.notIn_str (by rw [show (mkS [c] : Str) = ⟨#[c]⟩ from rfl, StrLaws.found_one, e]; exact h)
theorem notIn_true {x : Str} {c : Nat} (e : decide (c ∈ x.cps.toList) = false) (h : Q (.bool true) s) : wpAny (model prog w) A (compareOp .NotIn (.str (mkS [c]) u) (.str x t)) Q E s := notIn_sign2 e h
theorem ne_true {x y : Str} (e : (x == y) = false) (h : Q (.bool true) s) : wpAny (model prog w) A (compareOp .NotEq (.str x t) (.str y u)) Q E s := ne_sign e h
theorem ne_false {x y : Str} (e : (x == y) = true) (h : Q (.bool false) s) : wpAny (model prog w) A (compareOp .NotEq (.str x t) (.str y u)) Q E s := ne_sign e h
theorem ascii_dl {ℓ d : Tx} (h : DL ℓ d) : ∀ c ∈ ℓ, c < 128 := by
  induction h with
  | soft => simp
  | dot => simp
  | lit hp _ ih =>
    intro c hc
    cases hc with
    | head =>
      simp only [isPlain, Bool.or_eq_true, Bool.and_eq_true, decide_eq_true_eq, beq_iff_eq] at hp
      omega
    | tail _ hc => exact ih c hc
  | @esc c t d h256 _ ih =>
    intro x hx
    simp only [List.mem_cons] at hx
    rcases hx with rfl | rfl | rfl | hx
    · decide
    · exact (hex_ascii _ (by omega)).1
    · exact (hex_ascii _ (by omega)).1
    · exact ih x hx
theorem sp_no : spS ⟨#[61]⟩ = false ∧ spS ⟨#[46]⟩ = false := by decide +kernel
theorem rstrip_dl {ℓ d : Tx} (h : DL ℓ d) : Txt.rstrip (mkS ℓ) = mkS ℓ := by
  obtain ⟨hi, h1, h2, h3, _⟩ := rstrip_cut (x := mkS ℓ) (fun c hc => ascii_dl h c (by simpa using hc))
  obtain ⟨v, c, hv, hc⟩ := h.last
  have hlen := mkS_len ℓ
  have hp : ℓ.length = v.length + 1 := by rw [hv]; simp
  have : hi = (mkS ℓ).length := by
    by_cases e : hi = (mkS ℓ).length
    · exact e
    · have := h3 v.length (by omega) (by omega)
      have e2 : (mkS ℓ).cps.getD v.length 0 = c := by subst hv; simp
      rw [e2] at this
      rcases hc with rfl | rfl
      · rw [sp_no.1] at this; cases this
      · rw [sp_no.2] at this; cases this
  rw [h2, this]
  exact Str_eq (by simp [Builtin.Str.strSub, Str.length])
theorem rstrip_mk {ℓ d : Tx} (hd : DL ℓ d) (hl : ℓ.length ≤ 16777216) (h : ∀ t' k, Q (.str (mkS ℓ) t') { s with toks := k }) : wpAny (model prog w) A (call (.builtin "str.rstrip") [.str (mkS ℓ) t]) Q E s := by
  refine SCL.rstrip (fun t' k _ => ?_) (by rw [mkS_len]; exact hl)
  rw [rstrip_dl hd]; exact h t' k
theorem ends_nl (w : Tx) : Txt.endswith (mkS (w ++ [10])) (Str.ofString "\n") = true := by
  have e : Str.ofString "\n" = mkS [10] := by decide
  rw [e, Txt.endswith, mkS_len, mkS_len]
  simp [Builtin.Str.subAt, mkS, Str.length]
theorem slice_last (v : Tx) (c : Nat) : Txt.slice (mkS (v ++ [c])) none (some (-1)) = mkS v := by
  have hl : (mkS (v ++ [c])).length = v.length + 1 := by rw [mkS_len]; simp
  have em : max 0 (((mkS (v ++ [c])).length : Int) + -1) = (v.length : Int) := by rw [hl]; omega
  rw [slice_to_neg (by decide), em]
  have h := eq_of_beq (slice_to_min_closes (x := mkS (v ++ [c])) (n := (v.length : Int)) (m := (v.length : Int)) (by omega) (by rw [hl, if_neg (by omega)]))
  rw [h]
  exact Str_eq (by simp)
end
section
variable {prog : Program} {w : World} {A : Around} {E : Value → Shared → Prop} {s : Shared} {env : Env} {h₀ : Heap} {x : Str} {body : List Stmt} {Q : Flow → Shared → Prop}
theorem iter_txs {l : Addr} {us : List Value} {ls : List Tx} {nn : Nat} {m₀ : Str → Option Value} (J : Nat → (Str → Option Value) → Prop)
    (hh : A.handled = none) (hl : s.heap.get? l = some (listOf us.toArray nn)) (hlL : l ≠ env.locals) (hi : StrsAre us (ls.map mkS)) (F : Fr h₀ env.locals s.heap m₀) (hj : J 0 m₀)
    (turn : ∀ i ℓ t m₁ h tk own, ls[i]? = some ℓ → J i m₁ → Fr h₀ env.locals h (fun y => if y = x then some (.str (mkS ℓ) t) else m₁ y) → News h₀ env.locals h own →
      wpAny (model prog w) A (execs body env) (InvPostN h₀ env.locals (fun m' nx => nx = [] ∧ J (i + 1) m') own [] { s with heap := h, toks := tk } Q) E { s with heap := h, toks := tk })
    (done : ∀ m₁ h tk, J ls.length m₁ → Fr h₀ env.locals h m₁ → Q .next { s with heap := h, toks := tk }) :
    wpAny (model prog w) A (pyIter (.ref l)) (fun it s₂ => LoopAtV prog w A h₀ env x body Q E it s₂) E s := by
  have hls : s.heap.IsList l us.toArray := ⟨_, hl, rfl, nn, rfl⟩
  have hne : l ≠ s.heap.objs.size := Nat.ne_of_lt (Heap.lt_size hl)
  have hlen : us.toArray.size = ls.length := by have := strs_length hi; simpa using this
  refine wpAny_pyIter_list hls ?_
  have W := Walks.list (prog := prog) (w := w) hh s.heap.objs.size l hne us.toArray
  rw [hlen] at W
  refine loop_invN (news := []) (fun i m nx => nx = [] ∧ J i m) W ?_ ?_ (fun _ h => nomatch h) (fun _ h => nomatch h) ⟨⟨_, Heap.get?_push_size _ rfl, rfl, rfl⟩, hls.at fun o e => Heap.get?_push_of_some _ e⟩ (F.push _) (fun _ h => nomatch h) ⟨rfl, hj⟩ ?_ ?_
  · intro hm
    rcases List.mem_cons.mp hm with e | hm
    · exact absurd F.ns.lt (e ▸ Nat.lt_irrefl _)
    · exact hlL (List.mem_singleton.mp hm).symm
  · intro b hb
    rw [List.mem_singleton.mp hb]
    exact next_is_new F
  · rintro i v m₁ news₁ h tk own hin hP _ _ ⟨rfl, hJ⟩ F₁ N₁
    have hP' : us[i]? = some v := by simpa using hP
    obtain ⟨ℓ, t, h1, rfl⟩ := strs_get hi hP'
    exact turn i ℓ t m₁ h tk own h1 hJ F₁ (by simpa using N₁)
  · rintro m₁ news₁ h tk ⟨rfl, hJ⟩ F₁ _
    exact done m₁ h tk hJ F₁
theorem all2_at {R : Tx → Tx → Prop} : ∀ {xs ys : List Tx}, All2 R xs ys → ∀ {i : Nat} {x : Tx}, xs[i]? = some x → ∃ y, ys[i]? = some y ∧ R x y := by
  intro xs ys h
  induction h with
  | nil => intro i x h; simp at h
  | @cons a b xs ys r _ ih =>
    intro i x h
    cases i with
    | zero =>
      have : a = x := by simpa using h
      subst this
      exact ⟨b, rfl, r⟩
    | succ i =>
      obtain ⟨y, h1, h2⟩ := ih (i := i) (x := x) (by simpa using h)
      exact ⟨y, by simpa using h1, h2⟩
theorem all2_len {R : Tx → Tx → Prop} {xs ys : List Tx} (h : All2 R xs ys) : xs.length = ys.length := by
  induction h with
  | nil => rfl
  | cons _ _ ih => simp [ih]
def DecJ (ds : List Tx) (x : Str) (stored : List Str) (m₀ : Str → Option Value) (i : Nat) (m : Str → Option Value) : Prop :=
  (∃ t, m (Str.ofString "decoded") = some (.str (mkS (ds.take i).flatten) t)) ∧ ∀ z, z ≠ x → z ≠ Str.ofString "decoded" → stored.contains z = false → m z = m₀ z
def DecEnd (d : Tx) (x : Str) (stored : List Str) (m₀ m : Str → Option Value) : Prop :=
  (∃ t, m (Str.ofString "decoded") = some (.str (mkS d) t)) ∧ ∀ z, z ≠ x → z ≠ Str.ofString "decoded" → stored.contains z = false → m z = m₀ z
theorem iter_dec {l : Addr} {us : List Value} {ls ds : List Tx} {nn : Nat} {m₀ : Str → Option Value} {t₀ : Tok} (stored : List Str) (hh : A.handled = none) (hl : s.heap.get? l = some (listOf us.toArray nn)) (hlL : l ≠ env.locals) (hi : StrsAre us (ls.map mkS)) (ha : All2 DL ls ds)
    (F : Fr h₀ env.locals s.heap m₀) (hd : m₀ (Str.ofString "decoded") = some (.str (mkS []) t₀)) (hx : x ≠ Str.ofString "decoded")
    (turn : ∀ d ℓ dℓ post t td (u : Str → Option Value) h tk own, DL ℓ dℓ → ℓ ∈ ls → d ++ dℓ ++ post = ds.flatten →
      Fr h₀ env.locals h (fun y => if y = x then some (.str (mkS ℓ) t) else if y = Str.ofString "decoded" then some (.str (mkS d) td) else if stored.contains y then u y else m₀ y) → News h₀ env.locals h own →
      wpAny (model prog w) A (execs body env) (InvPostN h₀ env.locals (fun m' nx => nx = [] ∧ DecEnd (d ++ dℓ) x stored m₀ m') own [] { s with heap := h, toks := tk } Q) E { s with heap := h, toks := tk })
    (done : ∀ t (u : Str → Option Value) h tk, Fr h₀ env.locals h (fun y => if y = Str.ofString "decoded" then some (.str (mkS ds.flatten) t) else if (x :: stored).contains y then u y else m₀ y) → News h₀ env.locals h [] → Q .next { s with heap := h, toks := tk }) :
    wpAny (model prog w) A (pyIter (.ref l)) (fun it s₂ => LoopAtV prog w A h₀ env x body Q E it s₂) E s := by
  refine iter_txs (DecJ ds x stored m₀) hh hl hlL hi F ⟨⟨t₀, by simpa using hd⟩, fun _ _ _ _ => rfl⟩ ?_ ?_
  · rintro i ℓ t m₁ h tk own hℓ ⟨⟨td, h1⟩, h2⟩ F₁ N₁
    obtain ⟨dℓ, h3, h4⟩ := all2_at ha hℓ
    have et : ds.take (i + 1) = ds.take i ++ [dℓ] := by rw [List.take_add_one, h3]; rfl
    have ef : (ds.take (i + 1)).flatten = (ds.take i).flatten ++ dℓ := by rw [et]; simp
    have em : (fun y => if y = x then some (Value.str (mkS ℓ) t) else m₁ y) = fun y => if y = x then some (Value.str (mkS ℓ) t) else if y = Str.ofString "decoded" then some (.str (mkS (ds.take i).flatten) td) else if stored.contains y then m₁ y else m₀ y := by
      funext y
      by_cases e1 : y = x
      · simp [e1]
      · by_cases e2 : y = Str.ofString "decoded"
        · rw [if_neg e1, if_neg e1, if_pos e2, e2, h1]
        · rw [if_neg e1, if_neg e1, if_neg e2]
          cases e3 : stored.contains y with
          | true => simp
          | false => simp only [Bool.false_eq_true, if_false]; exact h2 y e1 e2 e3
    rw [em] at F₁
    have hsplit : (ds.take i).flatten ++ dℓ ++ (ds.drop (i + 1)).flatten = ds.flatten := by
      rw [← ef, ← List.flatten_append, List.take_append_drop]
    have r := turn _ ℓ dℓ _ t td m₁ h tk own h4 (List.mem_of_getElem? hℓ) hsplit F₁ N₁
    have ej : ∀ m', DecEnd ((ds.take i).flatten ++ dℓ) x stored m₀ m' → DecJ ds x stored m₀ (i + 1) m' := fun m' h => by unfold DecJ; rw [ef]; exact h
    refine wpAny_mono r (fun f s₂ p => ?_) fun _ _ e => e
    cases f with
    | ret v => exact p
    | brk => exact p
    | next => obtain ⟨a1, a2, a3, a4, a5, b1, b2, b3, b4, b5, b6, b7, b8⟩ := p; exact ⟨a1, a2, a3, a4, a5, b1, b2, b3, b4, b5, b6, b7, ej _ b8⟩
    | cont => obtain ⟨a1, a2, a3, a4, a5, b1, b2, b3, b4, b5, b6, b7, b8⟩ := p; exact ⟨a1, a2, a3, a4, a5, b1, b2, b3, b4, b5, b6, b7, ej _ b8⟩
  · rintro m₁ h tk ⟨⟨t, h1⟩, h2⟩ F₁
    rw [all2_len ha, List.take_length] at h1
    refine done t m₁ h tk ?_ ?_
    have em : (fun y => if y = Str.ofString "decoded" then some (Value.str (mkS ds.flatten) t) else if (x :: stored).contains y then m₁ y else m₀ y) = m₁ := by
      funext y
      by_cases e2 : y = Str.ofString "decoded"
      · rw [if_pos e2, e2, h1]
      · rw [if_neg e2]
        cases e3 : (x :: stored).contains y with
        | true => simp
        | false =>
          simp only [Bool.false_eq_true, if_false]
          rw [List.contains_cons, Bool.or_eq_false_iff, beq_eq_false_iff_ne] at e3
          exact (h2 y e3.1 e2 e3.2).symm
    · rw [em]; exact F₁
    · exact News.nil
theorem dec_end {d d' : Tx} {stored : List Str} {m₀ m' : Str → Option Value} {own : List (Addr × Obj)} {L : Addr} {h' : Heap} {tk : Nat} {s₁ : Shared} {t : Tok} (F : Fr h₀ L h' m') (N : News h₀ L h' own) (hd : m' (Str.ofString "decoded") = some (.str (mkS d') t)) (e : d' = d) (hr : ∀ z, z ≠ x → z ≠ Str.ofString "decoded" → stored.contains z = false → m' z = m₀ z) :
    InvEndN h₀ L (fun m' nx => nx = [] ∧ DecEnd d x stored m₀ m') own [] s₁ { s₁ with heap := h', toks := tk } :=
  InvEndN.intro F N ⟨rfl, ⟨t, e ▸ hd⟩, hr⟩ rfl (fun _ h => nomatch h) fun p hp => hp
def DecP (ℓ full : Tx) (i : Nat) (d : Tx) : Prop := i ≤ ℓ.length ∧ ∃ rest, d ++ rest = full ∧ ((i = ℓ.length ∧ rest = []) ∨ DL (ℓ.drop i) rest)
theorem drop_at {ℓ t : Tx} {i c : Nat} (h : ℓ.drop i = c :: t) : ℓ[i]? = some c ∧ ℓ.drop (i + 1) = t ∧ i < ℓ.length := by
  have h1 : (ℓ.drop i)[0]? = some c := by rw [h]; rfl
  rw [List.getElem?_drop, Nat.add_zero] at h1
  obtain ⟨hl, _⟩ := List.getElem?_eq_some_iff.mp h1
  refine ⟨h1, ?_, hl⟩
  have : (ℓ.drop i).drop 1 = t := by rw [h]; rfl
  rwa [List.drop_drop] at this
theorem DL.pos {t d : Tx} (h : DL t d) : t ≠ [] := by cases h <;> simp
theorem dec_while {m₀ : Str → Option Value} {L : Addr} {test : Expr} {body : List Stmt} {pos : Pos} {news : List (Addr × Obj)} {t₀ t₁ : Tok} (ℓ dℓ d₀ : Tx) (stored : List Str) (hDL : DL ℓ dℓ) (F : Fr h₀ L s.heap m₀) (N : News h₀ L s.heap news)
    (hi : m₀ (Str.ofString "i") = some (.int 0 t₀)) (hd : m₀ (Str.ofString "decoded") = some (.str (mkS d₀) t₁))
    (turn : ∀ (i : Nat) (d : Tx) (ti td : Tok) (U : Str → Option Value) h tk, i ≤ ℓ.length → d.length ≤ (d₀ ++ dℓ).length →
      ((i = ℓ.length ∧ d = d₀ ++ dℓ) ∨ (i + 1 = ℓ.length ∧ ℓ[i]? = some 61 ∧ d = d₀ ++ dℓ ∧ DecP ℓ (d₀ ++ dℓ) (i + 1) d) ∨ (i + 1 = ℓ.length ∧ ℓ[i]? = some 46 ∧ DecP ℓ (d₀ ++ dℓ) (i + 1) (d ++ [46] ++ [10]) ∧ (d ++ [46] ++ [10]).length ≤ (d₀ ++ dℓ).length)
        ∨ (∃ c, i + 1 < ℓ.length ∧ ℓ[i]? = some c ∧ isPlain c = true ∧ DecP ℓ (d₀ ++ dℓ) (i + 1) (d ++ [c]) ∧ (d ++ [c]).length ≤ (d₀ ++ dℓ).length)
        ∨ (∃ c, c < 256 ∧ i + 3 < ℓ.length ∧ ℓ[i]? = some 61 ∧ ℓ[i + 1]? = some (hexd (c / 16)) ∧ ℓ[i + 2]? = some (hexd (c % 16)) ∧ DecP ℓ (d₀ ++ dℓ) (i + 3) (d ++ [c]) ∧ (d ++ [c]).length ≤ (d₀ ++ dℓ).length)) →
      Fr h₀ L h (kstB (fun z => if stored.contains z then U z else m₀ z) [(Str.ofString "i", .int (i : Int) ti), (Str.ofString "decoded", .str (mkS d) td)]) → News h₀ L h news →
      wpAny (model prog w) A (isTrue test env (eval test env)) (fun b s₂ =>
        if b = true then wpAny (model prog w) A (execs body env) (fun f s₃ => KswPost h₀ L s (fun _ : Nat × Tx × Tok × Tok => news) (fun c => [(Str.ofString "i", .int (c.1 : Int) c.2.2.1), (Str.ofString "decoded", .str (mkS c.2.1) c.2.2.2)]) (fun _ => True) stored m₀ (fun c => DecP ℓ (d₀ ++ dℓ) c.1 c.2.1) (fun c => ℓ.length - c.1) Q (i, d, ti, td) f s₃) E s₂ else Q .next s₂) E { s with heap := h, toks := tk })
    (hE : PassesOwn (model prog w) A env E := by passes_own) :
    wpAny (model prog w) A (exec (.While test body [] pos) env) Q E s := by
  refine ksw_while (σ := Nat × Tx × Tok × Tok) (fun _ => news) (fun c => [(Str.ofString "i", .int (c.1 : Int) c.2.2.1), (Str.ofString "decoded", .str (mkS c.2.1) c.2.2.2)]) (fun _ => True) stored (fun c => DecP ℓ (d₀ ++ dℓ) c.1 c.2.1) (fun c => ℓ.length - c.1) (0, d₀, t₀, t₁) F N trivial ?_ ⟨Nat.zero_le _, dℓ, rfl, .inr hDL⟩ ?_ hE
  · intro p hp
    simp only [List.mem_cons, List.not_mem_nil, or_false] at hp
    rcases hp with rfl | rfl
    · exact hi
    · exact hd
  · rintro ⟨i, d, ti, td⟩ U h tk _ ⟨hil, rest, hrest, hc⟩ F' N'
    have hdl : d.length ≤ (d₀ ++ dℓ).length := by rw [← hrest, List.length_append]; exact Nat.le_add_right _ _
    refine turn i d ti td U h tk hil hdl ?_ F' N'
    rcases hc with ⟨rfl, rfl⟩ | hc
    · exact .inl ⟨rfl, by simpa using hrest⟩
    · have hx : ∀ {t r : Tx} {e : List Nat} {k : Nat}, ℓ.drop (i + k) = t → DL t r → d ++ e ++ r = d₀ ++ dℓ → i + k ≤ ℓ.length → DecP ℓ (d₀ ++ dℓ) (i + k) (d ++ e) ∧ (d ++ e).length ≤ (d₀ ++ dℓ).length := fun h1 h2 h3 h4 =>
        ⟨⟨h4, _, h3, .inr (h1 ▸ h2)⟩, by rw [← h3]; simp⟩
      generalize hq : ℓ.drop i = q at hc
      cases hc with
      | soft =>
        obtain ⟨h1, h2, h3⟩ := drop_at hq
        have h4 : ℓ.length ≤ i + 1 := List.drop_eq_nil_iff.mp h2
        have h5 : i + 1 = ℓ.length := by omega
        refine .inr (.inl ⟨h5, h1, by simpa using hrest, by omega, [], by simpa using hrest, .inl ⟨h5, rfl⟩⟩)
      | dot =>
        obtain ⟨h1, h2, h3⟩ := drop_at hq
        have h4 : ℓ.length ≤ i + 1 := List.drop_eq_nil_iff.mp h2
        have h5 : i + 1 = ℓ.length := by omega
        refine .inr (.inr (.inl ⟨h5, h1, ⟨by omega, [], by simpa using hrest, .inl ⟨h5, rfl⟩⟩, by rw [← hrest]; simp⟩))
      | @lit c t r hp hr =>
        obtain ⟨h1, h2, h3⟩ := drop_at hq
        have h4 : i + 1 < ℓ.length := by
          have : ¬ ℓ.length ≤ i + 1 := fun h => hr.pos (by rw [← h2]; exact List.drop_eq_nil_iff.mpr h)
          omega
        have z := hx h2 hr (e := [c]) (by simpa using hrest) (by omega)
        exact .inr (.inr (.inr (.inl ⟨c, h4, h1, hp, z.1, z.2⟩)))
      | @esc c t r h256 hr =>
        obtain ⟨h1, h2, h3⟩ := drop_at hq
        obtain ⟨g1, g2, g3⟩ := drop_at h2
        obtain ⟨f1, f2, f3⟩ := drop_at g2
        have h4 : i + 3 < ℓ.length := by
          have : ¬ ℓ.length ≤ i + 3 := fun h => hr.pos (by rw [← f2]; exact List.drop_eq_nil_iff.mpr h)
          omega
        have z := hx (k := 3) f2 hr (e := [c]) (by simpa using hrest) (by omega)
        exact .inr (.inr (.inr (.inr ⟨c, h256, h4, h1, g1, f1, z.1, z.2⟩)))
theorem dec_next {m₀ m' : Str → Option Value} {L : Addr} {news : List (Addr × Obj)} {ℓ full d d' : Tx} {stored : List Str} {i i' : Nat} {ti td ti' td' : Tok} {v' : Int} {h' : Heap} {tk : Nat} (F : Fr h₀ L h' m') (N : News h₀ L h' news)
    (hi : m' (Str.ofString "i") = some (.int v' ti')) (hd : m' (Str.ofString "decoded") = some (.str (mkS d') td')) (hr : ∀ z, z ≠ Str.ofString "i" → z ≠ Str.ofString "decoded" → stored.contains z = false → m' z = m₀ z) (hv : v' = (i' : Int)) (hp : DecP ℓ full i' d') (hlt : i < i') (hl : i < ℓ.length) :
    KswEnd h₀ L s (fun _ : Nat × Tx × Tok × Tok => news) (fun c => [(Str.ofString "i", .int (c.1 : Int) c.2.2.1), (Str.ofString "decoded", .str (mkS c.2.1) c.2.2.2)]) (fun _ => True) stored m₀ (fun c => DecP ℓ full c.1 c.2.1) (fun c => ℓ.length - c.1) (i, d, ti, td) { s with heap := h', toks := tk } := by
  subst hv
  refine ksw_end (i', d', ti', td') F N (fun p hp => hp) trivial ?_ ?_ hp ?_
  · intro p hp
    simp only [List.mem_cons, List.not_mem_nil, or_false] at hp
    rcases hp with rfl | rfl
    · exact hi
    · exact hd
  · intro z h1 h2
    exact hr z (h1 _ (.head _)) (h1 _ (.tail _ (.head _))) h2
  · show ℓ.length - i' < ℓ.length - i
    omega
end
end
section
open PySem PySem.W PyProof.Rows PySem.Spec PySem.Calls
section
set_option maxHeartbeats 4000000 in
theorem uq_claimQ {w : World} {mean : ExcName → Option Value} {mg mb : Str → Option Value} (c : Nat) (t : Tok) (hc : c < 256) :
    ClmQ w mean mg mb 3 67 [.str ⟨#[61, hexd (c / 16), hexd (c % 16)]⟩ t] (fun v _ => ∃ tk, v = .str ⟨#[c]⟩ tk) := by
  k_with_none
  k_with "execs cons" => k_fold
  k_with "call type:int" => (k_here; (refine' call_int16 (c := c) ?k1w0 ?k2w0 ?_; (case k1w0 => assumption); (case k2w0 => exact unq_slice)))
  dsimp only [ClmQ]
  k_fill
  intros
  rename_i hret
  have lk := lk_67 w.params
  dsimp only [fa_67, fb_67, fs_67] at lk
  refine wpAny_call ?_
  (refine' enter_free ?k3 ?k5 ?lk ?k7 ?k8 ?k9 ?kB ?_ ?c2 ?c3 ?c4 ?c5; (case k3 => assumption); (case k5 => assumption); (case lk => assumption); (case k7 => k_is); (case k8 => ktr_room); (case k9 => first | exact BindsTo.of_eq rfl | exact binds_K (by k_in) rfl (by k_is) rfl rfl rfl); (case c5 => decide); (case kB => exact locs rfl); (case c2 => exact rfl); (case c3 => exact rfl); (case c4 => exact rfl); k_whole; intro _ _ _ _; (try dsimp only); (try k_fold))
  clear lk
  k_steps
  all_goals exact hret _ _ _ ⟨_, rfl⟩ (Fr.keep (by k_asm))
end
theorem splitlines_dec {prog : Program} {w : World} {A : Around} {E : Value → Shared → Prop} {s : Shared} {h₀ : Heap} {L : Addr} {m : Str → Option Value} {news : List (Addr × Obj)} {x u : Tx} {t : Tok} {Q : Value → Shared → Prop} (F : Fr h₀ L s.heap m) (N : News h₀ L s.heap news) (hx : Rep true x u) (hl : x.length ≤ 10000000)
    (h : ∀ q us ls ds h' k, StrsAre us (ls.map mkS) → All2 DL ls ds → ds.flatten = u ++ [46] ++ [10] → (∀ ℓ ∈ ls, ℓ.length ≤ x.length + 1) → q ≠ L → Fr h₀ L h' m → News h₀ L h' ((q, listOf us.toArray 0) :: news) → Q (.ref q) { s with heap := h', toks := k }) :
    wpAny (model prog w) A (call (.builtin "str.splitlines") [.str (mkS (x ++ [46])) t]) Q E s := by
  have hlen : (mkS (x ++ [46])).length = x.length + 1 := by rw [mkS_len]; simp
  have hsl : sizeLine = 16777216 := rfl
  refine splitlinesNA F N (fun l h' k e hs hle hl' F' N' => ?_) (by rw [hlen, hsl]; omega)
  obtain ⟨ds, h1, h2⟩ := dec_lines hx [] [] fun t d hd => hd
  have h13 : ∀ c ∈ (mkS (x ++ [46])).cps.toList, c ≠ 13 := by
    intro c hc
    have hc' : c ∈ x ∨ c = 46 := by simpa using hc
    rcases hc' with hc' | rfl
    · have := rep_signs hx c hc'
      simp only [isSign, Bool.and_eq_true, decide_eq_true_eq, bne_iff_ne] at this
      exact this.2
    · decide
  have h3 := lines_are (mkS (x ++ [46])) h13
  rw [← e] at h3
  have h4 : l.map (·.1) = (linesGo [] (x ++ [46])).map mkS := by
    have h5 : (linesGo [] (x ++ [46])) = (l.map (·.1)).map (fun y => y.cps.toList) := h3.symm
    rw [h5, List.map_map]
    conv => lhs; rw [← List.map_id (l.map (·.1))]
    exact List.map_congr_left fun y _ => Str_eq (by simp)
  rw [h4] at hs
  refine h _ _ (linesGo [] (x ++ [46])) ds h' k hs h1 (by simpa using h2) (fun ℓ hℓ => ?_) ?_ F' N'
  · have : mkS ℓ ∈ l.map (·.1) := by rw [h4]; exact List.mem_map_of_mem hℓ
    have := hle _ this
    rw [mkS_len, hlen] at this
    exact this
  · exact fun e => (N' _ (.head _)).2.1 e
theorem nl_mk : Str.ofString "\n" = mkS [10] := by decide
theorem iadd_nl {prog : Program} {w : World} {A : Around} {E : Value → Shared → Prop} {s : Shared} {t u : Tok} {Q : Value → Shared → Prop} {a : Tx} (hl : a.length + 1 ≤ 16777216) (h : ∀ t' k, Q (.str (mkS (a ++ [10])) t') { s with toks := k }) : wpAny (model prog w) A (inplaceOp .Add (.str (mkS a) t) (.str (Str.ofString "\n") u)) Q E s := by
  rw [nl_mk]; exact iadd_mk hl h
theorem hex_in : ∀ n, n < 16 → decide (hexd n ∈ (Str.ofString "0123456789abcdefABCDEF").cps.toList) = true := by decide +kernel
theorem eq_no {c : Nat} (h : isPlain c = true) : (mkS [c] == Str.ofString "=") = false := by
  have e : Str.ofString "=" = mkS [61] := by decide
  rw [e]
  have := plain_ne_eq h
  refine beq_eq_false_iff_ne.mpr fun hc => this ?_
  simpa [mkS] using hc
theorem slice3 {ℓ : Tx} {i c1 c2 c3 : Nat} (h1 : ℓ[i]? = some c1) (h2 : ℓ[i + 1]? = some c2) (h3 : ℓ[i + 2]? = some c3) : Txt.slice (mkS ℓ) (some (i : Int)) (some ((i : Int) + 3)) = ⟨#[c1, c2, c3]⟩ := by
  obtain ⟨hl, _⟩ := List.getElem?_eq_some_iff.mp h3
  refine Str_eq ?_
  rw [slice_at (a := i) (b := i + 3) rfl (by omega) (by omega) (by omega), List.drop_take]
  obtain ⟨g1, e1⟩ := List.getElem?_eq_some_iff.mp h1
  obtain ⟨g2, e2⟩ := List.getElem?_eq_some_iff.mp h2
  obtain ⟨g3, e3⟩ := List.getElem?_eq_some_iff.mp h3
  rw [List.drop_eq_getElem_cons g1, List.drop_eq_getElem_cons g2, List.drop_eq_getElem_cons g3, e1, e2, e3, show i + 3 - i = 3 by omega]
  rfl
section
variable {prog : Program} {w : World} {A : Around} {E : Value → Shared → Prop} {s : Shared} {t u : Tok} {Q : Value → Shared → Prop}
theorem ends_call {v : Tx} (h : Q (.bool true) s) : wpAny (model prog w) A (call (.builtin "str.endswith") [.str (mkS (v ++ [10])) t, .str (Str.ofString "\n") u]) Q E s := SC.endswith (by rw [ends_nl]; exact h)
theorem slice_last_N {h₀ : Heap} {L : Addr} {m : Str → Option Value} {news : List (Addr × Obj)} {value slice : Expr} {j : Int} {uj : Tok} {v : Tx} {c : Nat} (F : Fr h₀ L s.heap m) (N : News h₀ L s.heap news) (hj : j = -1) (hl : v.length ≤ 16000000) (h : ∀ h' t' k, Fr h₀ L h' m → News h₀ L h' news → Q (.str (mkS v) t') { s with heap := h', toks := k })
    (hs : subscripted slice false (.str (mkS (v ++ [c])) t) (.ref s.heap.objs.size) = operate [.ref s.heap.objs.size, .str (mkS (v ++ [c])) t] (getItem (.str (mkS (v ++ [c])) t) (.ref s.heap.objs.size)) := by with_unfolding_all rfl)
    (ht : ∀ r, letTemporaryGo value (.str (mkS (v ++ [c])) t) r = pure () := by intro _; with_unfolding_all rfl) :
    wpAny (model prog w) A (subscriptTail value slice (.str (mkS (v ++ [c])) t) (.ref s.heap.objs.size)) Q E { s with heap := s.heap.push { cls := .type "slice", data := .fields #[.none, .int j uj, .none] } } := by
  subst hj
  have hsl : sizeLine = 16777216 := rfl
  refine slice_strN_ns F N (fun h' t' k a b => ?_) hs ht (by rw [mkS_len, hsl]; simp; omega)
  rw [slice_last]
  exact h h' t' k a b
end
section
theorem eq_int_t {prog : Program} {w : World} {A : Around} {E : Value → Shared → Prop} {s : Shared} {a b : Int} {t u : Tok} {Q : Value → Shared → Prop} (e : a = b) (h : Q (.bool true) s) : wpAny (model prog w) A (compareOp .Eq (.int a t) (.int b u)) Q E s := PyProof.Rows.eq_int (by rw [beq_iff_eq.mpr e]; exact h)
theorem eq_int_f {prog : Program} {w : World} {A : Around} {E : Value → Shared → Prop} {s : Shared} {a b : Int} {t u : Tok} {Q : Value → Shared → Prop} (e : a ≠ b) (h : Q (.bool false) s) : wpAny (model prog w) A (compareOp .Eq (.int a t) (.int b u)) Q E s := PyProof.Rows.eq_int (by rw [beq_eq_false_iff_ne.mpr e]; exact h)
set_option maxHeartbeats 4000000 in
theorem dec_claim {w : World} {mean : ExcName → Option Value} {mg mb : Str → Option Value} (x u : Tx) (t : Tok) (hx : Rep true x u) (hl : x.length ≤ 1000000) (hul : u.length ≤ 1000000) :
    ClmQ w mean mg mb 8 95 [.str (mkS (x ++ [46])) t] (fun v _ => ∃ tk, v = .str (mkS (u ++ [46])) tk) := by
  k_with_none
  k_with "execs cons" => k_fold
  k_with "exec If" => first | (k_fold; refine wpAny_If ?_) | refine wpAny_If ?_
  k_with "call builtin:str.splitlines" => (k_here; k_dflt (refine' splitlines_dec ?k1w2 ?k2w2 hx ?k3w2 ?_; (case k1w2 => k_asm); (case k2w2 => k_asm); (case k3w2 => omega); k_whole); intro q us ls ds hq tkq hus hall hflat hlsl hqL Fq Nq)
  k_with "exec For Name Call cons nil" => (k_here; (rename Fr _ _ _ _ => lF'); (with_unfolding_all refine' For_invVF lF' ?k1w3 ?k2w3 ?_; (case k1w3 => exact rfl); (case k2w3 => exact rfl); k_whole))
  k_with "pyIter ref" => (k_here; k_dflt (refine' iter_dec [Str.ofString "i", Str.ofString "n", Str.ofString "c"] ?k1w4 ?k2w4 hqL hus hall Fq ?k3w4 ?k4w4 ?_ ?_; (case k1w4 => first | assumption | exact rfl); (case k2w4 => exact (Nq _ (.head _)).1); (case k3w4 => first | exact rfl | k_is | with_unfolding_all exact rfl); (case k4w4 => decide); k_whole) <;> (first | (intro d ℓ dℓ post t td u9 h9 tk9 own hDL hmem hsp FT NT; clear Fq Nq; (have hℓl := hlsl ℓ hmem); (have hℓp := List.length_pos_iff.mpr hDL.pos); (have hℓs := mkS_len ℓ); (have hfl := congrArg List.length (hsp.trans hflat)); (simp only [List.length_append, List.length_cons, List.length_nil] at hfl)) | (intro tD uD hD tkD FD ND; rw [hflat] at FD; clear Nq Fq)))
  k_with "subscriptTail Name UnaryOp str int" => (k_here; k_dflt (refine' item_mk_last (v := x) rfl ?k1w5 ?_; (case k1w5 => (simp only [List.length_append, List.length_cons, List.length_nil]; omega)); k_whole); intro tk9 k9)
  k_with "compareOp NotIn str str" => (k_here; k_dflt (refine' notIn_true ?e9w6 ?_; (case e9w6 => decide +kernel); k_whole))
  k_with "call builtin:str.endswith" => (k_here; k_dflt (refine' ends_call ?_; k_whole))
  k_with "subscriptTail Name Slice str ref" => (k_here; (with_reducible show wpAny _ _ (subscriptTail _ (PySem.Expr.Slice none (some _) none _) _ _) _ _ _); (refine' slice_last_N (s := ⟨_, _, _, _, _⟩) ?kFw8 ?kNw8 ?kjw8 ?hszw8 ?_; (case kFw8 => k_asm); (case kNw8 => k_asm); (case kjw8 => first | rfl | decide); (case hszw8 => (simp only [List.length_append, List.length_cons, List.length_nil]; omega))); intro _ _ _ _ _; (try k_sweep))
  k_with "call builtin:str.rstrip" => (k_here; k_dflt (refine' rstrip_mk hDL ?k1w9 ?_; (case k1w9 => omega); k_whole); intro tk9 k9)
  k_with "exec While" => (k_here; (rename Fr _ _ _ _ => lF'); (rename News _ _ _ _ => lN'); (with_unfolding_all refine' dec_while ℓ dℓ d [Str.ofString "c"] hDL lF' lN' ?k1w10 ?k2w10 ?_); (case k1w10 => first | exact rfl | k_is | with_unfolding_all exact rfl); (case k2w10 => first | exact rfl | k_is | with_unfolding_all exact rfl); clear lF' lN' FT NT; intro i d1 ti td1 U h tk hil hdl hcase FX NX; rcases hcase with ⟨hie, hde⟩ | ⟨hie, hc0, hde, hP⟩ | ⟨hie, hc0, hP, hPl⟩ | ⟨c, hie, hc0, hcp, hP, hPl⟩ | ⟨c, hc, hie, hc0, hc1, hc2, hP, hPl⟩)
  k_with "subscriptTail Name Name str int" => (k_here; k_dflt (refine' item_mk (k := i) rfl hc0 ?k1w11 ?_; (case k1w11 => omega); k_whole); intro tk9 k9)
  k_with "subscriptTail Name BinOp str int" => (k_here; k_dflt (first | (refine' item_mk (k := i + 1) ?k0w12 hc1 ?k1w12 ?_; (case k0w12 => omega); (case k1w12 => omega); k_whole) | (refine' item_mk (k := i + 2) ?k0w12 hc2 ?k1w12 ?_; (case k0w12 => omega); (case k1w12 => omega); k_whole)); intro tk9 k9)
  k_with "compareOp NotEq str str" => (k_here; k_dflt (first | (refine' ne_true ?e9w13 ?_; (case e9w13 => first | exact eq_no hcp | decide +kernel); k_whole) | (refine' ne_false ?e9w13 ?_; (case e9w13 => decide +kernel); k_whole)))
  k_with "compareOp In str str" => (k_here; k_dflt (refine' in_sign2 (b := true) ?e9w14 ?_; (case e9w14 => exact hex_in _ (by omega)); k_whole))
  k_with "call ref" => (k_here; (with_reducible show wpAny _ _ (call (Value.ref 67) _) _ _ _); rw [slice3 hc0 hc1 hc2]; k_dflt (refine' use_Q (uq_claimQ c _ hc) ?qk1w15 ?qk2w15 ?qk3w15 ?qk4w15 ?qkhw15 ?qk10w15 ?_; (case qkhw15 => exact hh); (case qk1w15 => k_asm); (case qk2w15 => k_asm); (case qk3w15 => k_asm); (case qk4w15 => k_asm); (case qk10w15 => ktr_room); k_whole); rintro vq hq tkq ⟨tq, rfl⟩ kkq Fq9 Nq9; clear kkq)
  k_with "KswEnd" => (k_dflt (refine' dec_next ?rFw16 ?rNw16 ?riw16 ?rdw16 ?rsw16 ?rvw16 ?rPw16 ?r1w16 ?r2w16; (case rFw16 => k_asm); (case rNw16 => k_asm); (case riw16 => first | exact rfl | k_is | with_unfolding_all exact rfl); (case rdw16 => first | exact rfl | k_is | with_unfolding_all exact rfl); (case rPw16 => assumption); (case rvw16 => omega); (case r1w16 => omega); (case r2w16 => omega); (case rsw16 => (intro z h1 h2 h3; (simp only [List.contains_cons, List.contains_nil, Bool.or_false, Bool.or_eq_false_iff, beq_eq_false_iff_ne, ne_eq] at h3); simp [kstB, h1, h2, h3]))))
  k_with "InvEndN" => (k_dflt (refine' dec_end ?rFw17 ?rNw17 ?rdw17 hde ?rsw17; (case rFw17 => k_asm); (case rNw17 => k_asm); (case rdw17 => first | exact rfl | k_is | with_unfolding_all exact rfl); (case rsw17 => (intro z h1 h2 h3; (simp only [List.contains_cons, List.contains_nil, Bool.or_false, Bool.or_eq_false_iff, beq_eq_false_iff_ne, ne_eq] at h3); simp [kstB, h1, h2, h3]))))
  k_with "inplaceOp Add str str" => (k_here; k_dflt (first | (refine' iadd_mk ?k1w18 ?_; (case k1w18 => (simp only [List.length_append, List.length_cons, List.length_nil] at *; omega)); k_whole) | (refine' iadd_nl ?k1w18 ?_; (case k1w18 => (simp only [List.length_append, List.length_cons, List.length_nil] at *; omega)); k_whole)); intro tk9 k9)
  k_with "inplaceOp" => ((with_reducible show wpAny _ _ (inplaceOp Operator.Add (Prod.snd _) _) _ _ _); dsimp only)
  k_with "compareOp Eq int int" => (k_here; k_dflt (first | (refine' eq_int_t ?e9w20 ?_; (case e9w20 => omega); k_whole) | (refine' eq_int_f ?e9w20 ?_; (case e9w20 => omega); k_whole)))
  have hxl : (mkS (x ++ [46])).length = x.length + 1 := by rw [mkS_len]; simp
  have hsl : sizeLine = 16777216 := rfl
  dsimp only [ClmQ]
  k_fill
  intro A s Q E hh hroom X T hret
  have lk := lk_95 w.params
  dsimp only [fa_95, fb_95, fs_95] at lk
  refine wpAny_call ?_
  (refine' enter_free ?k3 ?k5 ?lk ?k7 ?k8 ?k9 ?kB ?_ ?c2 ?c3 ?c4 ?c5; (case k3 => assumption); (case k5 => assumption); (case lk => assumption); (case k7 => k_is); (case k8 => ktr_room); (case k9 => first | exact BindsTo.of_eq rfl | exact binds_K (by k_in) rfl (by k_is) rfl rfl rfl); (case c5 => decide); (case kB => exact locs rfl); (case c2 => exact rfl); (case c3 => exact rfl); (case c4 => exact rfl); k_whole; intro _ _ _ _; (try dsimp only); (try k_fold))
  clear lk
  k_steps
  all_goals try (exact hret _ _ _ ⟨_, rfl⟩ (Fr.keep (by k_asm)))
  all_goals try (exfalso; omega)
end
end
section
open PySem PySem.W PyProof.Rows PySem.Spec PySem.Calls
abbrev ClmH (w : World) (mean : ExcName → Option Value) (mg mb : Str → Option Value) (rm : Nat) (f : Addr) (vs : List Value) (pre : Heap → Prop) (R : Value → Heap → Prop) : Prop :=
  ∀ (A : Around) (s : Shared) (Q E : Value → Shared → Prop), A.handled = none → A.depth + rm < recursionLimit → (KF w.params).In s.heap → Top viewQ (looseW viewQ looseN) mean mg mb s.heap → pre s.heap →
    (∀ (v : Value) (h' : Heap) (tk' : Nat), R v h' → (∀ b o, s.heap.get? b = some o → h'.get? b = some o) → Q v { s with heap := h', toks := tk' }) →
      wpAny (model PySem.Challenge.rw_oy0446_01.row.prog w) A (call (.ref f) vs) Q E s
def TxList (us : List Tx) (v : Value) (h : Heap) : Prop := ∃ D ys n, v = .ref D ∧ h.get? D = some (listOf ys n) ∧ StrsAre ys.toList (us.map mkS)
theorem Rep.det {x u : Tx} (h : Rep true x u) : ∀ {u' : Tx}, Rep true x u' → u = u' := by
  induction h with
  | nil => intro u' h'; cases h'; rfl
  | @lit c t u hc _ ih =>
    intro u' h'
    cases h' with
    | lit _ h' => rw [ih h']
    | esc => exact absurd rfl (plain_ne_eq hc)
    | soft => exact absurd rfl (plain_ne_eq hc)
  | @esc c t u hc _ _ ih =>
    intro u' h'
    generalize hq : (61 :: hexd (c / 16) :: hexd (c % 16) :: t : Tx) = q at h'
    cases h' with
    | nil => cases hq
    | lit hc' _ =>
      injection hq with h1 h2
      exact absurd h1.symm (plain_ne_eq hc')
    | @esc c' t' u'' h256 _ h' =>
      simp only [List.cons.injEq, true_and] at hq
      obtain ⟨h1, h2, rfl⟩ := hq
      have inj : ∀ a, a < 16 → ∀ b, b < 16 → hexd a = hexd b → a = b := by decide
      have e1 := inj _ (by omega) _ (by omega) h1
      have e2 := inj _ (by omega) _ (by omega) h2
      have e : c = c' := by omega
      rw [e, ih h']
    | @soft e t' u'' he h' =>
      simp only [List.cons.injEq, true_and] at hq
      obtain ⟨h1, h2⟩ := hq
      have : ∀ a, a < 16 → isEnd (hexd a) = false := by decide
      have := this (c / 16) (by omega)
      rw [h1, he] at this; cases this
  | @soft e t u he _ ih =>
    intro u' h'
    generalize hq : (61 :: e :: t : Tx) = q at h'
    cases h' with
    | nil => cases hq
    | lit hc' _ =>
      injection hq with h1 h2
      exact absurd h1.symm (plain_ne_eq hc')
    | @esc c' t' u'' h256 _ h' =>
      simp only [List.cons.injEq, true_and] at hq
      obtain ⟨h1, h2⟩ := hq
      have : ∀ a, a < 16 → isEnd (hexd a) = false := by decide
      have := this (c' / 16) (by omega)
      rw [← h1, he] at this; cases this
    | @soft e' t' u'' he' h' =>
      simp only [List.cons.injEq, true_and] at hq
      obtain ⟨_, rfl⟩ := hq
      exact ih h'
theorem all2_det {xs us us' : List Tx} (h : All2 (Rep true) xs us) : All2 (Rep true) xs us' → us = us' := by
  induction h generalizing us' with
  | nil => intro h'; cases h'; rfl
  | cons r _ ih => intro h'; cases h' with
    | cons r' h' => rw [r.det r', ih h']
theorem all2_mem {R : Tx → Tx → Prop} {xs ys : List Tx} (h : All2 R xs ys) : ∀ x ∈ xs, ∃ y ∈ ys, R x y := by
  induction h with
  | nil => exact fun _ h => nomatch h
  | cons r _ ih =>
    intro x hx
    cases hx with
    | head => exact ⟨_, .head _, r⟩
    | tail _ hx => obtain ⟨y, hy, h⟩ := ih x hx; exact ⟨y, .tail _ hy, h⟩
def TxEl (R : Tx → Tx → Prop) (v y : Value) : Prop := ∃ x tok u tk, v = .str (mkS x) tok ∧ y = .str (mkS u) tk ∧ R x u
theorem paired_txs {R : Tx → Tx → Prop} : ∀ {vs ys : List Value}, Paired (TxEl R) vs ys → ∀ {ts : List Tx}, StrsAre vs (ts.map mkS) → ∃ us, StrsAre ys (us.map mkS) ∧ All2 R ts us := by
  intro vs ys h
  induction h with
  | nil =>
    intro ts h
    cases ts with
    | nil => exact ⟨[], .nil, .nil⟩
    | cons => cases h
  | cons e p ih =>
    obtain ⟨x, tok, u, tk, e1, e2, r⟩ := e
    subst e1 e2
    intro ts h
    cases ts with
    | nil => cases h
    | cons t ts =>
      rw [List.map_cons] at h
      generalize hq : mkS t = q at h
      cases h with
      | cons y tt h =>
        obtain ⟨us, h1, h2⟩ := ih h
        have : t = x := by simpa [mkS] using hq
        subst this
        exact ⟨u :: us, .cons _ _ h1, .cons r h2⟩
section
variable {prog : Program} {w : World} {A : Around} {E : Value → Shared → Prop} {s : Shared} {env : Env} {elt iter : Expr} {x : Str} {px : Pos} {scope : Scope} {cl : List (Str × Addr)} {pos : Pos} {Q : Value → Shared → Prop}
theorem comp_txs (R : Tx → Tx → Prop) {l : Addr} {us : List Value} {ts : List Tx} {nn : Nat} (hh : A.handled = none) (hclos : closureFor scope env = pure cl) (hcell : ∀ y ∈ scope.names, y.2 ≠ .cell) (hkind : scope.kind = .function)
    (hnames : ∀ y ∈ scope.names, y.2 = .local → scope.names.lookup y.1 = some .local) (hx : scope.names.lookup x = some .local)
    (hit : wpAny (model prog w) A (eval iter env) (fun xv s₁ => xv = .ref l ∧ s₁ = s) E s) (hl : s.heap.get? l = some (listOf us.toArray nn)) (hi : StrsAre us (ts.map mkS)) (hsz : ts.length ≤ 1000000)
    (helt : ∀ C t xt tok m₃ E', xt ∈ ts → s.heap.objs.size ≤ C → (∀ b o, s.heap.get? b = some o → t.heap.get? b = some o) → t.heap.Ns C m₃ → m₃ x = some (.str (mkS xt) tok) →
      wpAny (model prog w) A (eval elt (compEnvC scope cl C env)) (fun y s₄ => (∃ u tk, y = .str (mkS u) tk ∧ R xt u) ∧ Keeps t s₄) E' t)
    (done : ∀ D h' tk us', s.heap.get? D = none → TxList us' (.ref D) h' → All2 R ts us' → (∀ b o, s.heap.get? b = some o → h'.get? b = some o) → Q (.ref D) { s with heap := h', toks := tk })
    (hs : ∀ x, foldedSetIterable iter env x = pure x := by intro _; rfl) :
    wpAny (model prog w) A (eval (.ListComp elt [⟨.Name x px, iter, [], 0⟩] scope pos) env) Q E s := by
  have hls : s.heap.IsList l us.toArray := ⟨_, hl, rfl, nn, rfl⟩
  have hne : l ≠ s.heap.objs.size := Nat.ne_of_lt (Heap.lt_size hl)
  have hlen : us.toArray.size = ts.length := by have := strs_length hi; simpa using this
  have hll : us.length = ts.length := by simpa using hlen
  refine wpAny_ListComp_free (fun _ => true) (TxEl R) hclos hcell hkind hnames hx (wpAny_mono hit (fun xv s₁ e => ?_) fun _ _ e => e) hs
  obtain ⟨rfl, rfl⟩ := e
  refine wpAny_pyIter_list hls ?_
  have W := Walks.list (prog := prog) (w := w) hh s₁.heap.objs.size l hne us.toArray
  rw [hlen] at W
  have old : ∀ b o, s₁.heap.get? b = some o → b ∉ [s₁.heap.objs.size] := fun b o e hm => by rw [List.mem_singleton] at hm; exact absurd (Heap.lt_size e) (by rw [hm]; exact Nat.lt_irrefl _)
  refine ⟨s₁.heap.objs.size, _, _, ts.length, _, _, rfl, W, by have : sizeLine = 16777216 := rfl; omega, ⟨⟨_, Heap.get?_push_size _ rfl, rfl, rfl⟩, hls.at fun o e => Heap.get?_push_of_some _ e⟩, ?_, ⟨?_, ?_⟩, ?_⟩
  · intro b hb
    show b < (s₁.heap.push _).objs.size
    rw [Heap.size_push]
    rcases List.mem_cons.mp hb with rfl | hb
    · exact Nat.lt_succ_self _
    · rw [List.mem_singleton.mp hb]; exact Nat.lt_succ_of_lt (Heap.lt_size hl)
  · intro C i v s₃ m₃ E' _ _ _ _ _ _
    exact wpAny_pure ⟨rfl, _, _, rfl, fun _ _ e => e⟩
  · intro C i v s₃ m₃ E' hC hP _ hn hm hk _
    have hP' : us[i]? = some v := by simpa using hP
    obtain ⟨xt, tok, h1, rfl⟩ := strs_get hi hP'
    have hC' : s₁.heap.objs.size ≤ C := Nat.le_trans (Nat.le_of_lt (by show _ < (s₁.heap.push _).objs.size; rw [Heap.size_push]; exact Nat.lt_succ_self _)) hC
    refine wpAny_mono (helt C s₃ xt tok m₃ E' (List.mem_of_getElem? h1) hC' (fun b o e => hk b o (old b o e) (Heap.get?_push_of_some _ e)) hn hm) (fun y s₄ h => ?_) fun _ _ e => e
    obtain ⟨⟨u, tk, e, r⟩, k⟩ := h
    exact ⟨⟨xt, tok, u, tk, rfl, e, r⟩, k⟩
  · intro D h' tk ys vs hD hL hPl hlen' hP hF hk
    have hvs : vs = us := by
      apply List.ext_getElem?
      intro j
      by_cases hj : j < vs.length
      · have := hP j vs[j] (List.getElem?_eq_getElem hj)
        rw [List.getElem?_eq_getElem hj]
        simpa using this.symm
      · rw [List.getElem?_eq_none (by omega), List.getElem?_eq_none (by omega)]
    subst hvs
    rw [List.filter_eq_self.mpr (fun _ _ => rfl)] at hF
    obtain ⟨us', h1, h2⟩ := paired_txs hF hi
    obtain ⟨n', hg⟩ := hPl
    have hD' : s₁.heap.get? D = none := by
      cases e : s₁.heap.get? D with
      | none => rfl
      | some o => rw [Heap.get?_push_of_some _ e] at hD; cases hD
    exact done D h' tk us' hD' ⟨D, ys, n', rfl, hg, h1⟩ h2 fun b o e => hk b o (old b o e) (Heap.get?_push_of_some _ e)
end
end
section
open PySem PySem.W PyProof.Rows PySem.Spec PySem.Calls
theorem keptK {t : Heap} : KeptH (fun h => ∀ b o, t.get? b = some o → h.get? b = some o) := fun h o p b o' e => Heap.get?_push_of_some _ (p b o' e)
section
variable {prog : Program} {w : World} {A : Around} {E : Value → Shared → Prop} {s : Shared} {t u : Tok} {Q : Value → Shared → Prop}
theorem slice_last_K {t₀ : Heap} {value slice : Expr} {uj : Tok} {v : Tx} {c : Nat} (k : ∀ b o, t₀.get? b = some o → s.heap.get? b = some o) (hl : v.length ≤ 16000000) (h : ∀ h' t' k, (∀ b o, t₀.get? b = some o → h'.get? b = some o) → Q (.str (mkS v) t') { s with heap := h', toks := k })
    (hs : subscripted slice false (.str (mkS (v ++ [c])) t) (.ref s.heap.objs.size) = operate [.ref s.heap.objs.size, .str (mkS (v ++ [c])) t] (getItem (.str (mkS (v ++ [c])) t) (.ref s.heap.objs.size)) := by with_unfolding_all rfl)
    (ht : ∀ r, letTemporaryGo value (.str (mkS (v ++ [c])) t) r = pure () := by intro _; with_unfolding_all rfl) :
    wpAny (model prog w) A (subscriptTail value slice (.str (mkS (v ++ [c])) t) (.ref s.heap.objs.size)) Q E { s with heap := s.heap.push { cls := .type "slice", data := .fields #[.none, .int (-1) uj, .none] } } := by
  have hsl : sizeLine = 16777216 := rfl
  refine tail_of_ItemOn (SBH.sliceItem_ns keptK k (fun h' t' k' a => ?_) (by rw [mkS_len, hsl]; simp; omega)) hs ht
  rw [slice_last]
  exact h h' t' k' a
end
theorem Fr.comp {h₀ h t : Heap} {L C : Addr} {m m₃ : Str → Option Value} {x : Str} {v : Value} (F : Fr h₀ L h m) (hC : h.objs.size ≤ C) (k : ∀ b o, h.get? b = some o → t.get? b = some o) (hn : t.Ns C m₃) (hm : m₃ x = some v) : Fr h₀ C t (fun y => if y = x then some v else m₃ y) := by
  have e : (fun y => if y = x then some v else m₃ y) = m₃ := by
    funext y
    by_cases h : y = x
    · rw [if_pos h, h, hm]
    · rw [if_neg h]
  rw [e]
  exact ⟨hn, fun b o e => k b o (F.keep b o e), Nat.le_trans F.above (Nat.le_trans (Nat.le_of_lt F.ns.lt) hC)⟩
section
set_option maxHeartbeats 4000000 in
theorem takenQ_claim {w : World} {mean : ExcName → Option Value} {mg mb : Str → Option Value} (l : Addr) (its : List Value) (n : Nat) (ts us : List Tx) (tq : Tok) (hts : StrsAre its (ts.map mkS)) (hr : All2 (Rep true) ts us) (hn : ts.length ≤ 1000000) (htl : ∀ x ∈ ts, x.length ≤ 1000000) (hul : ∀ x ∈ us, x.length ≤ 1000000) :
    ClmH w mean mg mb 20 825 [.ref l, .str (Str.ofString "Q") tq] (fun h => h.get? l = some (listOf its.toArray n)) (TxList us) := by
  k_with_none
  k_with "eval ListComp" => (k_here; (rename Fr _ _ _ _ => lF'); k_dflt (refine' comp_txs (Rep true) ?c0w0 ?c1w0 ?c2w0 ?c3w0 ?c4w0 ?c5w0 (ld lF' rfl ⟨rfl, rfl⟩) ?c6w0 hts hn ?eltw0 ?donew0 ?c7w0; (case c0w0 => exact rfl); (case c1w0 => with_unfolding_all rfl); (case c2w0 => decide); (case c3w0 => exact rfl); (case c4w0 => decide); (case c5w0 => exact rfl); (case c6w0 => exact lF'.keep _ _ hl); (case c7w0 => (intro _; with_unfolding_all rfl)); (case' eltw0 => (intro C t xt tok m₃ E' hxt hC kT hns hm; obtain ⟨ut, hut, hxu⟩ := all2_mem hr xt hxt; (have Fc := Fr.comp lF' hC kT hns hm); (have hxl := htl xt hxt); (have hul' := hul ut hut); (have kt : ∀ b o, t.heap.get? b = some o → t.heap.get? b = some o := fun _ _ e => e); clear lF' hns hm kT)); (case' donew0 => (intro D h' tk us' hD hTx hR kD; (have FD := lF'.keeps kD); clear lF'))))
  k_with "binaryOp Add str str" => (k_here; k_dflt (refine' add_mk (a := xt) (b := [46]) ?k1w1 ?_; (case k1w1 => (simp only [List.length_cons, List.length_nil]; omega)); k_whole); intro tk9 k9)
  k_with "call ref" => (k_here; (with_reducible show wpAny _ _ (call (Value.ref 95) _) _ _ _); k_dflt (refine' use_Q (dec_claim xt ut _ hxu hxl hul') ?qk2w2 ?qk3w2 News.nil ?qk5w2 ?qk9w2 ?qk10w2 ?_; (case qk2w2 => k_asm); (case qk3w2 => k_asm); (case qk5w2 => k_asm); (case qk9w2 => exact rfl); (case qk10w2 => ktr_room); k_whole); rintro vq hq tkq ⟨tq9, rfl⟩ kq Fq Nq)
  k_with "subscriptTail" => (k_here; (refine' slice_last_K (s := ⟨_, _, _, _, _⟩) (v := ut) (c := 46) ?kFw3 ?hszw3 ?_; (case kFw3 => exact kq); (case hszw3 => omega)); intro hz tz kz kkz)
  dsimp only [ClmH]
  k_fill
  intro A s Q E hh hroom X T hl hret
  obtain ⟨y1, y2, y3, y4, y5⟩ := A
  simp only at hh
  subst hh
  have lk := lk_825 w.params
  dsimp only [fa_825, fb_825, fs_825] at lk
  refine wpAny_call ?_
  (refine' enter_free ?k3 ?k5 ?lk ?k7 ?k8 ?k9 ?kB ?_ ?c2 ?c3 ?c4 ?c5; (case k3 => assumption); (case k5 => assumption); (case lk => assumption); (case k7 => k_is); (case k8 => ktr_room); (case k9 => first | exact BindsTo.of_eq rfl | exact binds_K (by k_in) rfl (by k_is) rfl rfl rfl); (case c5 => decide); (case kB => exact locs rfl); (case c2 => exact rfl); (case c3 => exact rfl); (case c4 => exact rfl); k_whole; intro _ _ _ _; (try dsimp only); (try k_fold))
  clear lk
  k_steps
  all_goals (try k_data)
  all_goals first
    | exact hxu
    | exact ⟨_, _, rfl, kkz⟩
    | exact hret _ _ _ ((all2_det hr hR).symm ▸ hTx) FD.keep
end
end
section
open PySem PySem.W PyProof.Rows PySem.Spec PySem.Calls
theorem enter_freeC {prog : Program} {w : World} {A : Around} {s : Shared} {K : Frag} {mg mb : Str → Option Value} {p : Program} {loose : List Str} {mean : ExcName → Option Value} {R : Result → Shared → Prop} {name qual : Str} {params : Arguments} {body : List Stmt} {scope : Scope} {dV kV doc pm cdv ct oc : Value} {an od : Option Addr} {osl : Array (Option Value)} {f : Addr} {vals : List Value} {binds : List (Str × Value)}
    (X₀ : K.In s.heap) (T : Top p loose mean mg mb s.heap) (ho : K.lookup f = some ⟨oc, od, .func (PySem.W.fnOf name qual params body scope dV kV doc pm an cdv ct), osl⟩) (hcd : codeIn K cdv qual = true) (hroom : A.depth < recursionLimit)
    (hbind : bindArgs (PySem.W.fnOf name qual params body scope dV kV doc pm an cdv ct) ⟨vals, []⟩ = pure binds) (hkind : (binds.all fun y => scope.names.lookup y.1 == some .local || scope.names.lookup y.1 == some .cell) = true)
    (hnd : ((cellsFrom 0 scope.names []).map (·.1)).Nodup)
    (h : ∀ L' h₁ tk cells, Fr s.heap L' h₁ (bindL (envOfC qual scope L' f cdv).kindOf binds fun _ => none) → News s.heap L' h₁ cells → CellsAre (bindC (envOfC qual scope L' f cdv).kindOf binds fun _ => none) (cellsFrom (L' + 1) scope.names []) cells →
      wpAny (model prog w) (A.deeper (envOfC qual scope L' f cdv)) (execs body (envOfC qual scope L' f cdv))
        (fun fl s' => R (.ok (.ret (match fl with | .ret v => v | _ => .none))) s')
        (fun e s' => wpAny (model prog w) (A.deeper (envOfC qual scope L' f cdv)) (leaving (envOfC qual scope L' f cdv) e) (fun _ s'' => R (.error e) s'') (fun e' s'' => R (.error e') s'') s')
        { s with heap := h₁, toks := tk })
    (hco : scope.isCoroutine = false) (hgen : scope.isGenerator = false) (hk : scope.kind = .function) : codeAny (model prog w) A (.call (.ref f) ⟨vals, []⟩) R s := by
  refine codeAny_call_cells (fd := fnX name qual params body scope [] dV kV doc pm an cdv ct) (body := body) (binds := binds) hroom (X₀ _ _ ho) rfl T.nolimit (codeRec_of X₀ hcd) rfl hbind rfl (kindsX hkind _) (fun s₁ x => ?_) hco hgen hk
  obtain ⟨h₁, tk, rfl, _⟩ := x.done
  have hk₁ := x.toInCall.keep
  obtain ⟨cells, NC, Y⟩ := Cl.news (h₀ := s.heap) (Nat.le_refl _) fun n c hm => ⟨x.cell n c (lookup_of_mem_nodup (cellsFrom_names scope.names 0 (s.heap.objs.size + 1) [] [] rfl ▸ hnd) hm), x.above n c hm⟩
  exact h s.heap.objs.size h₁ tk cells ⟨x.toInCall.ns, hk₁, Nat.le_refl _⟩ NC Y
theorem JT.keeps {h h' : Heap} (J : JT h) (k : ∀ b o, h.get? b = some o → h'.get? b = some o) : JT h' := by
  obtain ⟨ps, a, b, c⟩ := J
  exact ⟨ps, a.keeps k, b.keeps k, c⟩
section
set_option maxHeartbeats 4000000 in
theorem laidS_claim {w : World} {mean : ExcName → Option Value} {mg mb : Str → Option Value} (l : Addr) (its : List Value) (n : Nat) (ts : List Tx) (M : Int) (e : Nat) (tq t2 t3 : Tok) (hts : StrsAre its (ts.map mkS)) (htl : ∀ x ∈ ts, x.length ≤ 1000000) (htw : (ts.map fun x => (quoteT x).length).sum + ts.length ≤ 1000000) :
    ClmG w mean mg mb 30 820 797 [.ref l, .str (Str.ofString "S") tq, .int M t2, .str ⟨#[e]⟩ t3] (fun h => h.get? l = some (listOf its.toArray n) ∧ JT h) (fun v h' => TxList [joinT ts] v h' ∧ JT h') := by
  k_with_none
  k_with "call ref" => (k_here; (with_reducible show wpAny _ _ (call (Value.ref 802) _) _ _ _); k_dflt (refine' join_claim l its.toArray n ts hts htl htw _ _ _ _ ?j1w0 ?j2w0 ?j3w0 ?j4w0 ?j5w0 ?j6w0 ?_; (case j1w0 => exact rfl); (case j2w0 => ktr_room); (case j3w0 => k_in); (case j4w0 => exact T.keeps F'.keep); (case j5w0 => exact hG); (case j6w0 => exact ⟨F'.keep _ _ hpre.1, hpre.2.keeps F'.keep⟩)); rintro v9 s9 ⟨⟨tk9, rfl⟩, hJ9⟩ kk9 hG9 hos9)
  dsimp only [ClmG]
  k_fill
  intro A s Q E hh hroom X T hG hpre hret
  obtain ⟨y1, y2, y3, y4, y5⟩ := A
  simp only at hh
  subst hh
  have lk := lk_820 w.params
  dsimp only [fa_820, fb_820, fs_820] at lk
  refine wpAny_call ?_
  refine' enter_freeC X T lk ?k7 ?k8 ?k9 ?kB ?kN ?_ ?c2 ?c3 ?c4
  case k7 => k_is
  case k8 => ktr_room
  case k9 => rfl
  case kB => rfl
  case kN => decide
  case c2 => exact rfl
  case c3 => exact rfl
  case c4 => exact rfl
  intro L' h' tk' cells F' N' Y
  clear lk
  try dsimp only
  try k_fold
  k_steps
  refine wpAny_newList ?_
  exact hret _ _ ⟨⟨_, _, _, rfl, Heap.get?_push_size _ rfl, .cons _ _ .nil⟩, hJ9.keeps fun b o e => Heap.get?_push_of_some _ e⟩ (fun b o e hb => Heap.get?_push_of_some _ (kk9 b o (F'.keep b o e) hb)) hG9 hos9
end
section
set_option maxHeartbeats 4000000 in
theorem laidQ_claim {w : World} {mean : ExcName → Option Value} {mg mb : Str → Option Value} (l : Addr) (its : List Value) (n : Nat) (ts : List Tx) (M : Int) (e : Nat) (tq t2 t3 : Tok) (hM : 10 ≤ M) (hM2 : M ≤ 18) (he : isEnd e = true) (hts : StrsAre its (ts.map mkS)) (hn : ts.length ≤ 1000000) (htl : ∀ x ∈ ts, x.length ≤ 100000) (hsg : ∀ x ∈ ts, ∀ c ∈ x, isSign c = true) :
    ClmH w mean mg mb 30 820 [.ref l, .str (Str.ofString "Q") tq, .int M t2, .str ⟨#[e]⟩ t3] (fun h => h.get? l = some (listOf its.toArray n)) (fun v h' => ∃ us, TxList us v h' ∧ All2 QRow ts us) := by
  k_with_none
  k_with "eval ListComp" => (k_here; (rename Fr _ _ _ _ => lF'); k_dflt (refine' comp_txs QRow ?c0w1 ?c1w1 ?c2w1 ?c3w1 ?c4w1 ?c5w1 (ld lF' rfl ⟨rfl, rfl⟩) ?c6w1 hts hn ?eltw1 ?donew1 ?c7w1; (case c0w1 => exact rfl); (case c1w1 => with_unfolding_all rfl); (case c2w1 => decide); (case c3w1 => exact rfl); (case c4w1 => decide); (case c5w1 => exact rfl); (case c6w1 => exact lF'.keep _ _ hl); (case c7w1 => (intro _; with_unfolding_all rfl)); (case' eltw1 => (intro C t xt tok m₃ E' hxt hC kT hns hm; (have Fc := Fr.comp lF' hC kT hns hm); (have Nc := News.grown N' kT); (have hxl := htl xt hxt); (have hxs := hsg xt hxt); clear lF' hns hm kT)); (case' donew1 => (intro D h' tk us' hD hTx hR kD; (have FD := lF'.keeps kD); clear lF'))))
  k_with "call ref" => (k_here; (with_reducible show wpAny _ _ (call (Value.ref 87) _) _ _ _); k_dflt (refine' use_Q (be_any xt e M _ _ _ hM hM2 he hxl hxs) ?qk2w2 ?qk3w2 News.nil ?qk5w2 ?qk9w2 ?qk10w2 ?_; (case qk2w2 => k_asm); (case qk3w2 => k_asm); (case qk5w2 => k_asm); (case qk9w2 => exact rfl); (case qk10w2 => ktr_room); k_whole); rintro vq hq tkq ⟨yq, tq9, rfl, hyq⟩ kq Fq Nq)
  dsimp only [ClmH]
  k_fill
  intro A s Q E hh hroom X T hl hret
  obtain ⟨y1, y2, y3, y4, y5⟩ := A
  simp only at hh
  subst hh
  have lk := lk_820 w.params
  dsimp only [fa_820, fb_820, fs_820] at lk
  refine wpAny_call ?_
  refine' enter_freeC X T lk ?k7 ?k8 ?k9 ?kB ?kN ?_ ?c2 ?c3 ?c4
  case k7 => k_is
  case k8 => ktr_room
  case k9 => rfl
  case kB => rfl
  case kN => decide
  case c2 => exact rfl
  case c3 => exact rfl
  case c4 => exact rfl
  intro L' h' tk' cells F' N' Y
  clear lk
  cases Y with
  | cons c1 Y =>
  cases Y with
  | cons c2 Y =>
  cases Y
  try dsimp only
  try k_fold
  k_steps
  all_goals (try k_data)
  all_goals first
    | exact hyq
    | exact ⟨_, _, rfl, kq⟩
    | exact hret _ _ _ ⟨_, hTx, hR⟩ FD.keep
end
end
section
open PySem PySem.W PyProof.Rows PySem.Spec PySem.Calls
abbrev ClmSH (w : World) (mean : ExcName → Option Value) (mg mb : Str → Option Value) (rm : Nat) (f : Addr) (vs : List Value) (pre : Heap → Prop) (R : Value → Heap → Prop) : Prop :=
  ∀ (A A₀ : Around) (env : Env) (outer : List Env) (base : Heap) (s : Shared) (Q E : Value → Shared → Prop),
    Below A₀ base (env :: outer) s.heap → A.frames = some (env :: outer) → A.handled = none → (KF w.params).In s.heap → Top viewQ (looseW viewQ looseN) mean mg mb s.heap → A.depth + rm < recursionLimit → pre s.heap →
    (∀ (v : Value) (h' : Heap) (tk' : Nat), R v h' → (∀ b o, s.heap.get? b = some o → b ∉ frsOf (env :: outer) → h'.get? b = some o) →
      (∀ b o, s.heap.get? b = some o → (∀ vs, o.data ≠ .fields vs) → ∃ sl, h'.get? b = some { o with slots := sl }) → Q v { s with heap := h', toks := tk' }) →
      wpAny (model PySem.Challenge.rw_oy0446_01.row.prog w) A (call (.ref f) vs) Q E s
theorem use_S {w : World} {mean : ExcName → Option Value} {mg mb : Str → Option Value} {rm : Nat} {f : Addr} {vs : List Value} {R : Value → Heap → Prop} {A A₀ : Around} {cn : Str} {cs : Scope} {a L : Addr} {ccd : Value} {cl : List (Str × Addr)} {outer : List Env} {base : Heap} {s : Shared} {Q E : Value → Shared → Prop}
    (C : ClmS w mean mg mb rm f vs R) (B : Below A₀ base (envX cn cs L a ccd cl :: outer) s.heap) (X : (KF w.params).In s.heap) (T : Top viewQ (looseW viewQ looseN) mean mg mb s.heap) (hA : A.frames = some (envX cn cs L a ccd cl :: outer)) (hh : A.handled = none)
    (hd : A.depth + rm < recursionLimit) (h : ∀ (v : Value) (h' : Heap) (tk' : Nat), R v h' → (∀ b o, s.heap.get? b = some o → b ∉ frsOf (envX cn cs L a ccd cl :: outer) → h'.get? b = some o) →
      (∀ b o, s.heap.get? b = some o → (∀ vs, o.data ≠ .fields vs) → ∃ sl, h'.get? b = some { o with slots := sl }) → Q v { s with heap := h', toks := tk' }) :
    wpAny (model PySem.Challenge.rw_oy0446_01.row.prog w) A (call (.ref f) vs) Q E s := by
  have e : A = ktrTop A.depth A.units A.guards cn cs L a ccd cl outer := by
    obtain ⟨x1, x2, x3, x4, x5⟩ := A
    simp only at hA hh
    subst hA hh
    rfl
  rw [e]
  exact C _ _ _ _ _ _ _ _ _ _ _ _ s Q E B X T hd h
section
set_option maxHeartbeats 4000000 in
theorem takenS_claim {w : World} {mean : ExcName → Option Value} {mg mb : Str → Option Value} (l : Addr) (T0 : Tx) (t0 : Tok) (n : Nat) (ws : List Tx) (tq : Tok) (hr : Lex T0 ws) (hl0 : T0.length ≤ 1000000) (hn0 : ∀ c ∈ T0, c ≠ 10) (hz : ws.length ≤ 1000000) :
    ClmSH w mean mg mb 50 825 [.ref l, .str (Str.ofString "S") tq] (fun h => h.get? l = some (listOf #[.str (mkS T0) t0] n)) (TxList ws) := by
  k_with_none
  k_with "subscriptTail" => (k_here; k_dflt (refine' item_of_list (vs := #[Value.str (mkS T0) t0]) ⟨_, F'.keep _ _ hpre, rfl, n, rfl⟩ ?i1w0 ?i2w0 ?i3w0 ?_ ?i4w0; (case i1w0 => decide); (case i2w0 => decide); (case i3w0 => exact rfl); (case i4w0 => with_unfolding_all rfl)))
  k_with "call ref" => (k_here; (with_reducible show wpAny _ _ (call (Value.ref 795) _) _ _ _); k_dflt (refine' use_S (split_claim ws T0 _ hr hl0 hn0 hz) (Below.push B F') ?j3w1 ?j4w1 rfl rfl ?j2w1 ?_; (case j2w1 => ktr_room); (case j3w1 => k_in); (case j4w1 => exact T.keeps F'.keep)); rintro v9 h9 tk9 hR9 kk9 ks9)
  dsimp only [ClmSH]
  k_fill
  intro A A₀ env outer base s Q E B hA hh X T hroom hpre hret
  obtain ⟨y1, y2, y3, y4, y5⟩ := A
  simp only at hh hA
  subst hh hA
  have lk := lk_825 w.params
  dsimp only [fa_825, fb_825, fs_825] at lk
  refine wpAny_call ?_
  (refine' enter_free ?k3 ?k5 ?lk ?k7 ?k8 ?k9 ?kB ?_ ?c2 ?c3 ?c4 ?c5; (case k3 => assumption); (case k5 => assumption); (case lk => assumption); (case k7 => k_is); (case k8 => ktr_room); (case k9 => first | exact BindsTo.of_eq rfl | exact binds_K (by k_in) rfl (by k_is) rfl rfl rfl); (case c5 => decide); (case kB => exact locs rfl); (case c2 => exact rfl); (case c3 => exact rfl); (case c4 => exact rfl); k_whole; intro _ _ _ _; (try dsimp only); (try k_fold))
  clear lk
  rename Fr _ _ _ _ => F'
  k_steps
  refine hret v9 h9 _ ?_ (fun b o e hb => kk9 b o (F'.keep b o e) fun hm => ?_) fun b o e hf => ks9 b o (F'.keep b o e) hf
  · obtain ⟨S, us, c, rfl, h1, h2⟩ := hR9
    exact ⟨S, us.toArray, c, rfl, h2, h1⟩
  · obtain ⟨env', he, hf'⟩ := List.mem_filterMap.mp hm
    rcases List.mem_cons.mp he with rfl | he
    · cases Option.some.inj hf'
      exact Nat.lt_irrefl _ (Nat.lt_of_lt_of_le (Heap.lt_size e) F'.above)
    · exact hb (List.mem_filterMap.mpr ⟨env', he, hf'⟩)
end
end
section
open PySem PySem.W PyProof.Rows PySem.Spec PySem.Calls
abbrev WSt := List Value × Tx × Tok × Nat
abbrev wItems (c : WSt) : Array Value := (c.1 ++ [Value.str (mkS c.2.1) c.2.2.1]).toArray
def WInv (k : Nat) (c : WSt) : Prop := ∃ ys : List Tx, StrsAre c.1 (ys.map mkS) ∧ (∀ z ∈ ys ++ [c.2.1], ∀ d ∈ z, isSign d = true) ∧ ys.length ≤ k ∧ (ys.map (·.length)).sum + c.2.1.length ≤ k
theorem WInv.mono {k : Nat} {c : WSt} (h : WInv k c) : WInv (k + 1) c := by
  obtain ⟨ys, h1, h2, h3, h4⟩ := h
  exact ⟨ys, h1, h2, by omega, by omega⟩
theorem WInv.more {k : Nat} {vs : List Value} {y : Tx} {ty t' : Tok} {n n' : Nat} {d : Nat} (h : WInv k (vs, y, ty, n)) (hd : isSign d = true) : WInv (k + 1) (vs, y ++ [d], t', n') := by
  obtain ⟨ys, h1, h2, h3, h4⟩ := h
  refine ⟨ys, h1, ?_, by omega, ?_⟩
  · intro z hz e he
    rcases List.mem_append.mp hz with hz | hz
    · exact h2 z (List.mem_append_left _ hz) e he
    · rw [List.mem_singleton.mp hz] at he
      rcases List.mem_append.mp he with he | he
      · exact h2 y (by simp) e he
      · rw [List.mem_singleton.mp he]; exact hd
  · have h4' : (ys.map (·.length)).sum + y.length ≤ k := h4
    show (ys.map (·.length)).sum + (y ++ [d]).length ≤ k + 1
    rw [List.length_append]
    simp only [List.length_cons, List.length_nil]; omega
theorem WInv.next {k : Nat} {vs : List Value} {y : Tx} {ty t' : Tok} {n n' : Nat} (h : WInv k (vs, y, ty, n)) : WInv (k + 1) (vs ++ [Value.str (mkS y) ty], [], t', n') := by
  obtain ⟨ys, h1, h2, h3, h4⟩ := h
  refine ⟨ys ++ [y], ?_, ?_, ?_, ?_⟩
  · rw [List.map_append]; exact strs_snoc h1
  · intro z hz e he
    rcases List.mem_append.mp hz with hz | hz
    · exact h2 z hz e he
    · rw [List.mem_singleton.mp hz] at he; cases he
  · simp; omega
  · have h4' : (ys.map (·.length)).sum + y.length ≤ k := h4
    simp; omega
section
variable {prog : Program} {w : World} {A : Around} {E : Value → Shared → Prop} {s : Shared} {env : Env} {h₀ : Heap} {x : Str} {body : List Stmt} {Q : Flow → Shared → Prop}
theorem iter_words {l wa : Addr} {vs : List Value} {ns : List Int} {m₀ : Str → Option Value} {cells : List (Addr × Obj)} {t0 : Tok} (stored : List Str)
    {x0 : Str} (hx0 : x0 = mkS []) (hcw : ∀ p ∈ cells, p.1 ≠ wa) (hh : A.handled = none) (hl : h₀.IsList l vs.toArray) (hi : IntsAre vs ns) (F : Fr h₀ env.locals s.heap m₀) (N : News h₀ env.locals s.heap ((wa, listOf #[Value.str x0 t0] 0) :: cells))
    (turn : ∀ (vs0 : List Value) (y : Tx) (ty : Tok) (n k : Nat) (number : Int) t (u : Str → Option Value) h tk own, k < ns.length → (∀ p ∈ cells ++ own, p.1 ≠ wa) → WInv k (vs0, y, ty, n) →
      Fr h₀ env.locals h (fun z => if z = x then some (.int number t) else if stored.contains z then u z else m₀ z) → News h₀ env.locals h (((wa, listOf (vs0 ++ [Value.str (mkS y) ty]).toArray n) :: cells) ++ own) →
      wpAny (model prog w) A (execs body env) (InvPostN h₀ env.locals (fun m' nx => (∃ c' : WSt, nx = (wa, listOf (wItems c') c'.2.2.2) :: cells ∧ WInv (k + 1) c') ∧ ∀ z, z ≠ x → stored.contains z = false → m' z = m₀ z) own (wa :: cells.map (·.1)) { s with heap := h, toks := tk } Q) E { s with heap := h, toks := tk })
    (done : ∀ (vs0 : List Value) (y : Tx) (ty : Tok) (n : Nat) (u : Str → Option Value) h tk, WInv ns.length (vs0, y, ty, n) → Fr h₀ env.locals h (fun z => if (x :: stored).contains z then u z else m₀ z) → News h₀ env.locals h ((wa, listOf (vs0 ++ [Value.str (mkS y) ty]).toArray n) :: cells) → Q .next { s with heap := h, toks := tk }) :
    wpAny (model prog w) A (pyIter (.ref l)) (fun it s₂ => LoopAtV prog w A h₀ env x body Q E it s₂) E s := by
  subst hx0
  refine iter_invN (news := (wa, listOf #[Value.str (mkS []) t0] 0) :: cells) (fun i m nx => (∃ c : WSt, nx = (wa, listOf (wItems c) c.2.2.2) :: cells ∧ WInv i c) ∧ ∀ z, z ≠ x → stored.contains z = false → m z = m₀ z) hh hl hi F N ⟨⟨([], [], t0, 0), rfl, [], .nil, ?_, by simp, by simp⟩, fun _ _ _ => rfl⟩ ?_ ?_
  · intro z hz e he
    have : z = [] := by simpa using hz
    rw [this] at he; cases he
  · rintro i number t m₁ nx h tk own hn ha hoff ⟨⟨⟨vs0, y, ty, n⟩, rfl, hW⟩, hm⟩ F₁ N₁
    obtain ⟨hlt, _⟩ := List.getElem?_eq_some_iff.mp hn
    have em : (fun z => if z = x then some (Value.int number t) else m₁ z) = fun z => if z = x then some (Value.int number t) else if stored.contains z then m₁ z else m₀ z := by
      funext z
      by_cases e1 : z = x
      · simp [e1]
      · rw [if_neg e1, if_neg e1]
        cases e3 : stored.contains z with
        | true => simp
        | false => simp only [Bool.false_eq_true, if_false]; exact hm z e1 e3
    rw [em] at F₁
    exact turn vs0 y ty n i number t m₁ h tk own hlt (fun p hp => (List.mem_append.mp hp).elim (hcw p) fun hp => hoff p hp wa (.head _)) hW F₁ N₁
  · rintro m₁ nx h tk ⟨⟨⟨vs0, y, ty, n⟩, rfl, hW⟩, hm⟩ F₁ N₁
    refine done vs0 y ty n m₁ h tk hW ?_ N₁
    have em : (fun z => if (x :: stored).contains z then m₁ z else m₀ z) = m₁ := by
      funext z
      cases e3 : (x :: stored).contains z with
      | true => simp
      | false =>
        simp only [Bool.false_eq_true, if_false]
        rw [List.contains_cons, Bool.or_eq_false_iff, beq_eq_false_iff_ne] at e3
        exact (hm z e3.1 e3.2).symm
    rw [em]; exact F₁
theorem words_end {wa L : Addr} {cells own news' : List (Addr × Obj)} {m₀ m' : Str → Option Value} {stored : List Str} {k : Nat} {s₁ : Shared} {h' : Heap} {tk : Nat} {items : Array Value} {n : Nat} (c' : WSt) (F : Fr h₀ L h' m') (N : News h₀ L h' news')
    (hm : (wa, listOf items n) ∈ news') (hw : items = wItems c') (hn : n = c'.2.2.2) (hW : WInv (k + 1) c') (hc : ∀ p ∈ cells, p ∈ news') (ho : ∀ p ∈ own, p ∈ news') (hr : ∀ z, z ≠ x → stored.contains z = false → m' z = m₀ z) :
    InvEndN h₀ L (fun m' nx => (∃ c' : WSt, nx = (wa, listOf (wItems c') c'.2.2.2) :: cells ∧ WInv (k + 1) c') ∧ ∀ z, z ≠ x → stored.contains z = false → m' z = m₀ z) own (wa :: cells.map (·.1)) s₁ { s₁ with heap := h', toks := tk } := by
  subst hw hn
  refine InvEndN.intro F N ⟨⟨c', rfl, hW⟩, hr⟩ rfl (fun p hp => ?_) ho
  rcases List.mem_cons.mp hp with rfl | hp
  · exact hm
  · exact hc p hp
theorem WInv.len {k : Nat} {vs : List Value} {y : Tx} {ty : Tok} {n : Nat} (h : WInv k (vs, y, ty, n)) : vs.length ≤ k ∧ y.length ≤ k := by
  obtain ⟨ys, h1, _, h3, h4⟩ := h
  have := strs_length h1
  have h4' : (ys.map (·.length)).sum + y.length ≤ k := h4
  rw [List.length_map] at this
  have e : vs.length = ys.length := this
  omega
end
def DotR (d : Bool) (y u : Tx) : Prop := (u = y ∨ u = y ++ [46]) ∧ (d = true → endsSp u = false)
theorem WInv.out {k : Nat} {vs : List Value} {y : Tx} {ty : Tok} {n : Nat} (h : WInv k (vs, y, ty, n)) : ∃ ys : List Tx, StrsAre (vs ++ [Value.str (mkS y) ty]) ((ys ++ [y]).map mkS) ∧ (∀ z ∈ ys ++ [y], ∀ d ∈ z, isSign d = true) ∧ ys.length ≤ k ∧ ((ys ++ [y]).map (·.length)).sum ≤ k := by
  obtain ⟨ys, h1, h2, h3, h4⟩ := h
  refine ⟨ys, ?_, h2, h3, ?_⟩
  · rw [List.map_append]; exact strs_snoc h1
  · have h4' : (ys.map (·.length)).sum + y.length ≤ k := h4
    simp; omega
end
section
open PySem PySem.W PyProof.Rows PySem.Spec PySem.Calls
section
variable {prog : Program} {w : World} {A : Around} {E : Value → Shared → Prop} {s : Shared} {h₀ : Heap} {L D : Addr} {m : Str → Option Value} {news news' : List (Addr × Obj)} {n : Nat} {t : Tok} {v : Value}
theorem setItem_last {items : Array Value} {Q : Unit → Shared → Prop} (ho : s.heap.get? D = some (listOf items n)) (hne : 0 < items.size)
    (hQ : Q () { s with heap := s.heap.update D (Obj.mapSeq (·.setIfInBounds (items.size - 1) v)) }) : wpAny (model prog w) A (setItem (.ref D) (.int (-1) t) v) Q E s := by
  have hl : s.heap.IsList D items := ⟨_, ho, rfl, n, rfl⟩
  have hd : (listOf items n).data = .seq items n := rfl
  unfold setItem
  try with_reducible refine wpAny_holding ?_
  first | refine wpAny_bind (wpAny_pure ?_) | skip
  refine wpAny_bind (wpAny_sequenceKey hl.typeIs (by decide) ?_)
  refine wpAny_bind (wpAny_callSpecial?_slot (name := Str.ofString "__setitem__") hl.typeIs F.slot_list_setitem
    (wpAny_call_entry F.slot_list_setitem hl.typeIs F.entry_list_setitem ?_ (PySem.args_list_setitem _ _ _)))
  show wpAny _ _ (Builtin.List.listSubscript? (.int (-1) t) >>= _) _ _ s
  refine wpAny_bind (wpAny_listSubscript_int (fitsIndex_neg (by decide) (by decide)) ?_)
  have hidx := seqIndex_neg (k := -1) (n := items.size) (by decide) (by omega)
  have e1 : (-1 + (items.size : Int)).toNat = items.size - 1 := by omega
  rw [e1] at hidx
  have hx' : items[items.size - 1]? = some items[items.size - 1] := Array.getElem?_eq_getElem (by omega)
  show wpAny _ _ ((Builtin.List.listItems (.ref D) >>= fun xs => pure ((seqIndex? (-1) xs.size).bind fun i => xs[i]?.map (i, ·))) >>= _) _ _ s
  refine wpAny_bind (wpAny_bind ?_)
  show wpAny _ _ (seqItems? (.ref D) >>= _) _ _ s
  refine wpAny_bind (wpAny_seqItems ho hd (wpAny_pure (wpAny_pure ?_)))
  rw [hidx]
  simp only [Option.bind_some, hx', Option.map_some]
  show wpAny _ _ (setSeqItemAt D (items.size - 1) v >>= _) _ _ s
  refine wpAny_bind (wpAny_setSeqItemAt ho hd ?_)
  first
    | exact wpAny_bind (wpAny_pure (wpAny_pure ⟨.none, rfl, wpAny_pure hQ⟩))
    | exact wpAny_pure ⟨.none, rfl, wpAny_pure hQ⟩
theorem set_w {vs : List Value} {a : Value} {Q : Unit → Shared → Prop} (F : Fr h₀ L s.heap m) (N : News h₀ L s.heap news) (U : Upd D (listOf (vs ++ [a]).toArray n) (listOf (vs ++ [v]).toArray n) news news')
    (h : ∀ h', Fr h₀ L h' m → News h₀ L h' news' → Q () { s with heap := h' }) : wpAny (model prog w) A (setItem (.ref D) (.int (-1) t) v) Q E s := by
  obtain ⟨pre, post, rfl, rfl, a', b⟩ := U.split
  have z := N (D, listOf (vs ++ [a]).toArray n) (List.mem_append.mpr (.inr (.head _)))
  refine setItem_last z.1 (by simp) (h _ (F.change (Heap.SameBut.update ..) z.2.1 z.2.2) (ki_turn _ N a' b ?_ ?_))
  · show (vs ++ [a]).toArray.setIfInBounds ((vs ++ [a]).toArray.size - 1) v = (vs ++ [v]).toArray
    apply Array.toList_inj.mp
    simp
  · simp
theorem get_w {vs : List Value} {Q : Value → Shared → Prop} (N : News h₀ L s.heap news) (hm : (D, listOf (vs ++ [v]).toArray n) ∈ news) (h : Q v s) : wpAny (model prog w) A (getItem (.ref D) (.int (-1) t)) Q E s := by
  refine wpAny_getItem_list_neg (x := v) ⟨_, (N _ hm).1, rfl, n, rfl⟩ (by decide) (by simp; omega) (by decide) ?_ h
  have e : (-1 + (((vs ++ [v]).toArray.size : Nat) : Int)).toNat = vs.length := by simp; omega
  rw [e]; simp
theorem append_w {vs : List Value} {Q : Value → Shared → Prop} (F : Fr h₀ L s.heap m) (N : News h₀ L s.heap news) (U : Upd D (listOf vs.toArray n) (listOf (vs ++ [v]).toArray (n + 1)) news news') (hsz : vs.length ≤ 1000)
    (h : ∀ h', Fr h₀ L h' m → News h₀ L h' news' → Q .none { s with heap := h' }) : wpAny (model prog w) A (call (.builtin "list.append") [.ref D, v]) Q E s := by
  have e : (vs ++ [v]).toArray = vs.toArray.push v := by simp
  rw [e] at U
  exact append_K F N U h (by have : sizeLine = 16777216 := rfl; simp; omega)
theorem append_w0 {vs : List Value} {x0 : Str} {Q : Value → Shared → Prop} (hx0 : x0 = mkS []) (F : Fr h₀ L s.heap m) (N : News h₀ L s.heap news) (U : Upd D (listOf vs.toArray n) (listOf (vs ++ [Value.str (mkS []) t]).toArray (n + 1)) news news') (hsz : vs.length ≤ 1000)
    (h : ∀ h', Fr h₀ L h' m → News h₀ L h' news' → Q .none { s with heap := h' }) : wpAny (model prog w) A (call (.builtin "list.append") [.ref D, .str x0 t]) Q E s := by
  subst hx0
  exact append_w F N U hsz h
end
theorem lit_signs : ∀ k, k < 10 → ∃ c, (Str.ofString "'\"\\ \t#=aé\x0b").cps[k]? = some c ∧ isSign c = true := by
  have h : ∀ k, k < 10 → (match (Str.ofString "'\"\\ \t#=aé\x0b").cps[k]? with | some c => isSign c | none => false) = true := by decide +kernel
  intro k hk
  have := h k hk
  split at this
  · rename_i c e; exact ⟨c, e, this⟩
  · cases this
theorem item_lit {prog : Program} {w : World} {A : Around} {E : Value → Shared → Prop} {s : Shared} {t u : Tok} {Q : Value → Shared → Prop} {j : Int} {value slice : Expr} (h0 : 0 ≤ j) (h1 : j < 10) (h : ∀ c t' k', isSign c = true → Q (.str (mkS [c]) t') { s with toks := k' })
    (hs : subscripted slice false (.str (Str.ofString "'\"\\ \t#=aé\x0b") t) (.int j u) = operate [.str (Str.ofString "'\"\\ \t#=aé\x0b") t, .int j u] (getItem (.str (Str.ofString "'\"\\ \t#=aé\x0b") t) (.int j u)) := by with_unfolding_all rfl)
    (ht : ∀ r, letTemporaryGo value (.str (Str.ofString "'\"\\ \t#=aé\x0b") t) r = pure () := by intro _; with_unfolding_all rfl) : wpAny (model prog w) A (subscriptTail value slice (.str (Str.ofString "'\"\\ \t#=aé\x0b") t) (.int j u)) Q E s := by
  obtain ⟨c, hc, hsg⟩ := lit_signs j.toNat (by omega)
  have hl : (Str.ofString "'\"\\ \t#=aé\x0b").length = 10 := by decide +kernel
  refine item_str (fitsSsize_of (N := 9223372036854775808) (by omega) (by omega) (Int.le_refl _)) (by omega) (by omega) (fun _ => ?_) hs ht
  rw [item_meets (by omega) hc]
  exact h c _ _ hsg
noncomputable def lastS (x : Tx) : Tx := match x.getLast? with | some c => [c] | none => []
theorem slice_lastS (x : Tx) : Txt.slice (mkS x) (some (-1)) none = mkS (lastS x) := by
  rcases List.eq_nil_or_concat x with rfl | ⟨v, c, rfl⟩
  · decide +kernel
  · rw [List.concat_eq_append]
    have hl : (mkS (v ++ [c])).length = v.length + 1 := by rw [mkS_len]; simp
    have em : max 0 (((mkS (v ++ [c])).length : Int) + -1) = (v.length : Int) := by rw [hl]; omega
    rw [slice_from_neg (by decide), em]
    refine Str_eq ?_
    rw [slice_from (a := v.length) rfl (by simp)]
    simp [lastS]
theorem beq_one (a c : Nat) : (mkS [a] == mkS [c]) = (c == a) := by
  by_cases h : c = a
  · subst h; rw [beq_self_eq_true, beq_self_eq_true]
  · rw [beq_eq_false_iff_ne.mpr h]
    refine beq_eq_false_iff_ne.mpr fun e => h ?_
    have e1 : (mkS [a]).cps.toList = (mkS [c]).cps.toList := by rw [e]
    have e2 : ([a] : List Nat) = [c] := e1
    injection e2 with e3
    exact e3.symm
theorem any_lastS (x : Tx) : ([Str.ofString " ", Str.ofString "\t"].any (· == mkS (lastS x))) = endsSp x := by
  have e1 : Str.ofString " " = mkS [32] := by decide
  have e2 : Str.ofString "\t" = mkS [9] := by decide
  rw [e1, e2]
  rcases List.eq_nil_or_concat x with rfl | ⟨v, c, rfl⟩
  · decide +kernel
  · rw [List.concat_eq_append, endsSp_snoc]
    have e : lastS (v ++ [c]) = [c] := by simp [lastS]
    rw [e, List.any_cons, List.any_cons, List.any_nil, beq_one, beq_one, Bool.or_false]
    rfl
section
variable {prog : Program} {w : World} {A : Around} {E : Value → Shared → Prop} {s : Shared} {t u : Tok} {Q : Value → Shared → Prop}
theorem slice_lastS_K {t₀ : Heap} {value slice : Expr} {uj : Tok} {v : Tx} (k : ∀ b o, t₀.get? b = some o → s.heap.get? b = some o) (hl : v.length ≤ 16000000) (h : ∀ h' t' k, (∀ b o, t₀.get? b = some o → h'.get? b = some o) → Q (.str (mkS (lastS v)) t') { s with heap := h', toks := k })
    (hs : subscripted slice false (.str (mkS v) t) (.ref s.heap.objs.size) = operate [.ref s.heap.objs.size, .str (mkS v) t] (getItem (.str (mkS v) t) (.ref s.heap.objs.size)) := by with_unfolding_all rfl)
    (ht : ∀ r, letTemporaryGo value (.str (mkS v) t) r = pure () := by intro _; with_unfolding_all rfl) :
    wpAny (model prog w) A (subscriptTail value slice (.str (mkS v) t) (.ref s.heap.objs.size)) Q E { s with heap := s.heap.push { cls := .type "slice", data := .fields #[.int (-1) uj, .none, .none] } } := by
  have hsl : sizeLine = 16777216 := rfl
  refine tail_of_ItemOn (SBH.sliceItem_sn keptK k (fun h' t' k' a => ?_) (by rw [mkS_len, hsl]; omega)) hs ht
  rw [slice_lastS]
  exact h h' t' k' a
theorem newList_k {items : List Value} (hsz : items.length ≤ 1000) (h : ∀ l h', h'.get? l = some (listOf items.toArray 0) → (∀ b o, s.heap.get? b = some o → h'.get? b = some o) → Q (.ref l) { s with heap := h' }) : wpAny (model prog w) A (newList items) Q E s :=
  wpAny_newList (h _ _ (Heap.get?_push_size _ rfl) fun b o e => Heap.get?_push_of_some _ e) (by have : sizeLine = 16777216 := rfl; omega)
theorem in_two {x : Tx} {l : Addr} {n : Nat} {a b : Tok} (ho : s.heap.get? l = some (listOf #[.str (Str.ofString " ") a, .str (Str.ofString "\t") b] n)) (h : Q (.bool (endsSp x)) s) :
    wpAny (model prog w) A (compareOp .In (.str (mkS (lastS x)) t) (.ref l)) Q E s :=
  in_list_strs (vs := [.str (Str.ofString " ") a, .str (Str.ofString "\t") b]) ⟨_, ho, rfl, n, rfl⟩ (.cons _ _ (.cons _ _ .nil)) (by rw [any_lastS]; exact h)
end
structure WordsOk (dot : Bool) (us : List Tx) : Prop where
  ne : us ≠ []
  len : us.length ≤ 9
  sum : (us.map (·.length)).sum ≤ 17
  signs : ∀ z ∈ us, ∀ d ∈ z, isSign d = true
  dots : dot = true → ∀ z ∈ us, endsSp z = false
theorem len_le_sum : ∀ {ts : List Tx} {x : Tx}, x ∈ ts → x.length ≤ (ts.map (·.length)).sum
  | t :: ts, x, h => by
    simp only [List.map_cons, List.sum_cons]
    cases h with
    | head => omega
    | tail _ h => have := len_le_sum h; omega
theorem dots_sum {d : Bool} {ts us : List Tx} (h : All2 (DotR d) ts us) : (us.map (·.length)).sum ≤ (ts.map (·.length)).sum + ts.length := by
  induction h with
  | nil => simp
  | cons r _ ih =>
    have : ∀ {x y : Tx}, DotR d x y → y.length ≤ x.length + 1 := fun r => by
      rcases r.1 with rfl | rfl <;> simp
    have := this r
    simp only [List.map_cons, List.sum_cons, List.length_cons]
    omega
theorem dots_all {d : Bool} {ts us : List Tx} (h : All2 (DotR d) ts us) : (∀ z ∈ ts, ∀ c ∈ z, isSign c = true) → (∀ z ∈ us, ∀ c ∈ z, isSign c = true) ∧ (d = true → ∀ z ∈ us, endsSp z = false) := by
  induction h with
  | nil => exact fun _ => ⟨fun _ h => (nomatch h), fun _ _ h => (nomatch h)⟩
  | @cons x y xs ys r _ ih =>
    intro hs
    obtain ⟨i1, i2⟩ := ih fun z hz => hs z (.tail _ hz)
    refine ⟨fun z hz => ?_, fun hd z hz => ?_⟩
    · cases hz with
      | head =>
        have hx := hs x (.head _)
        rcases r.1 with rfl | rfl
        · exact hx
        · intro c hc
          rcases List.mem_append.mp hc with hc | hc
          · exact hx c hc
          · rw [List.mem_singleton.mp hc]; decide
      | tail _ hz => exact i1 z hz
    · cases hz with
      | head => exact r.2 hd
      | tail _ hz => exact i2 hd z hz
theorem words_ok {d : Bool} {ys us : List Tx} {y : Tx} {k : Nat} (hk : k ≤ 8) (h : All2 (DotR d) (ys ++ [y]) us) (hs : ∀ z ∈ ys ++ [y], ∀ c ∈ z, isSign c = true) (hl : ys.length ≤ k) (hm : ((ys ++ [y]).map (·.length)).sum ≤ k) : WordsOk d us := by
  have a := dots_all h hs
  have b := dots_sum h
  have e := all2_len h
  have e' : (ys ++ [y]).length = ys.length + 1 := by simp
  exact ⟨h.ne (by simp), by omega, by omega, a.1, a.2⟩
end
section
open PySem PySem.W PyProof.Rows PySem.Spec PySem.Calls
theorem chr_sign {prog : Program} {w : World} {A : Around} {E : Value → Shared → Prop} {s : Shared} {t : Tok} {Q : Value → Shared → Prop} {j : Int} (h0 : 0 ≤ j) (h1 : j < 256) (hn : ([10, 13].any fun x => x == j) = false) (h : ∀ c t' k', isSign c = true → Q (.str (mkS [c]) t') { s with toks := k' }) :
    wpAny (model prog w) A (call (.builtin "chr") [.int j t]) Q E s := by
  refine chr_of_range (by omega) (by omega) ?_
  have hs : isSign j.toNat = true := by
    simp only [List.any_cons, List.any_nil, Bool.or_false, Bool.or_eq_false_iff, beq_eq_false_iff_ne, ne_eq] at hn
    simp only [isSign, Bool.and_eq_true, decide_eq_true_eq, bne_iff_ne]
    omega
  exact h _ _ _ hs
theorem notin_two {prog : Program} {w : World} {A : Around} {E : Value → Shared → Prop} {s : Shared} {t a b : Tok} {Q : Value → Shared → Prop} {j : Int} {l : Addr} {n : Nat} (ho : s.heap.get? l = some (listOf #[.int 10 a, .int 13 b] n)) (h1 : ([10, 13].any fun x => x == j) = false → Q (.bool true) s) (h2 : ([10, 13].any fun x => x == j) = true → Q (.bool false) s) :
    wpAny (model prog w) A (compareOp .NotIn (.int j t) (.ref l)) Q E s := by
  refine notin_list_ints (vs := [.int 10 a, .int 13 b]) ⟨_, ho, rfl, n, rfl⟩ (.cons _ _ (.cons _ _ .nil)) ?_
  cases e : ([10, 13].any fun x => x == j) with
  | false => exact h1 e
  | true => exact h2 e
section
set_option maxHeartbeats 4000000 in
theorem words_claim {w : World} {mean : ExcName → Option Value} {mg mb : Str → Option Value} (l : Addr) (its : List Value) (n : Nat) (ns : List Int) (dot : Bool) (hi : IntsAre its ns) (hn : ns.length ≤ 8) :
    ClmH w mean mg mb 30 815 [.ref l, .bool dot] (fun h => h.get? l = some (listOf its.toArray n)) (fun v h' => ∃ us, TxList us v h' ∧ WordsOk dot us) := by
  k_with_none
  k_with "exec If" => first | (k_fold; refine wpAny_If ?_) | refine wpAny_If ?_
  k_with "exec For Name Name cons nil" => (k_here; (rename Fr _ _ _ _ => lF'); (with_unfolding_all refine' For_invVF lF' ?k1w1 ?k2w1 ?_; (case k1w1 => exact rfl); (case k2w1 => exact rfl); k_whole))
  k_with "pyIter ref" => (k_here; (rename Fr _ _ _ _ => lF'); (rename News _ _ _ _ => lN'); k_dflt (refine' iter_words [Str.ofString "kind", Str.ofString "octet"] ?k0w2 ?kcww2 ?k1w2 ?k2w2 hi lF' lN' ?_ ?_; (case k0w2 => decide); (case kcww2 => exact fun p hp => Nat.ne_of_lt (hl8 p hp)); (case k1w2 => exact rfl); (case k2w2 => exact ⟨_, hl, rfl, n, rfl⟩); k_whole) <;> (clear lF' lN'; first | (intro vs0 y ty n0 k number tn u9 h9 tk9 own hkl hoffw hW FT NT; (have hvl := hW.len); (have hfm0 : 0 ≤ number.fmod 16 := Int.fmod_nonneg_of_pos number (by decide)); (have hfo0 : 0 ≤ (number.fdiv 16).fmod 256 := Int.fmod_nonneg_of_pos _ (by decide)); (have hfo1 : (number.fdiv 16).fmod 256 < 256 := Int.fmod_lt_of_pos _ (by decide))) | (intro vs0 y ty n0 u9 h9 tk9 hW FD ND; obtain ⟨ys, hts, hsig, hyl, hysum⟩ := hW.out)))
  k_with "call builtin:list.append" => (k_here; k_dflt (refine' append_w0 ?k0w3 ?k1w3 ?k2w3 ?k3w3 ?k4w3 ?_; (case k0w3 => decide); (case k1w3 => k_asm); (case k2w3 => k_asm); (case k3w3 => exact Upd.head hoffw); (case k4w3 => (simp only [List.length_append, List.length_cons, List.length_nil]; omega)); k_whole); intro h8 F8 N8)
  k_with "getItem ref int" => (k_here; k_dflt (refine' get_w ?k1w4 ?k2w4 ?_; (case k1w4 => k_asm); (case k2w4 => k_mem); k_whole))
  k_with "subscriptTail" => (k_here; k_dflt (refine' item_lit ?k1w5 ?k2w5 ?_; (case k1w5 => omega); (case k2w5 => omega); k_whole); intro ch tk9 k9 hch)
  k_with "inplaceOp Add str str" => (k_here; k_dflt (refine' iadd_mk (a := y) (b := [ch]) ?k1w6 ?_; (case k1w6 => (simp only [List.length_cons, List.length_nil]; omega)); k_whole); intro tk9 k9)
  k_with "setItem ref int" => (k_here; k_dflt (refine' set_w ?k1w7 ?k2w7 ?k3w7 ?_; (case k1w7 => k_asm); (case k2w7 => k_asm); (case k3w7 => first | exact Upd.head hoffw | (refine Upd.tail ?_ (Upd.head hoffw); exact Nat.ne_of_gt (hl8 _ (.head _)))); k_whole); intro h8 F8 N8)
  k_with "newList" => (k_here; k_dflt (refine' newList_K ?k1w8 ?k2w8 ?_; (case k1w8 => k_asm); (case k2w8 => k_asm); k_whole); intro l8 h8 F8 N8 hl8)
  k_with "compareOp NotIn" => (k_here; k_dflt (refine' notin_two ?k1w9 ?_ ?_; (case k1w9 => exact (N8 _ (.head _)).1); k_whole); intro hany)
  k_with "call builtin:chr" => (k_here; k_dflt (refine' chr_sign hfo0 hfo1 ?k1w10 ?_; (case k1w10 => assumption); k_whole); intro ch tk9 k9 hch)
  k_with "subscriptTail Name Slice str ref" => (k_here; (refine' slice_lastS_K (s := ⟨_, _, _, _, _⟩) (v := xt) ?kFw11 ?hszw11 ?_; (case kFw11 => exact kt); (case hszw11 => omega)); intro hz tz kz kkz)
  k_with "newList" => (k_here; (have kk6 := kkz); k_dflt (refine' newList_k ?k1w12 ?_; (case k1w12 => exact (by decide : (2 : Nat) ≤ 1000)); k_whole); intro l7 h7 ho7 kk7; (have Fc7 := Fr.keeps Fc (fun b o e => kk7 b o (kk6 b o e))); (have kt7 := fun b o e => kk7 b o (kk6 b o e)); clear kkz kk6 kk7)
  k_with "compareOp In" => (k_here; k_dflt (refine' in_two (x := xt) ho7 ?_; k_whole))
  k_with "binaryOp Add str str" => (k_here; k_dflt (refine' add_mk (a := xt) (b := [46]) ?k1w14 ?_; (case k1w14 => (simp only [List.length_cons, List.length_nil]; omega)); k_whole); intro tk9 k9)
  k_with "InvEndN" => (k_dflt (first | (refine' words_end (vs0 ++ [Value.str (mkS y) ty], [], _, n0 + 1) ?rFw15 ?rNw15 ?rmw15 rfl rfl hW.next ?rcw15 ?row15 ?rsw15; (case rFw15 => k_asm); (case rNw15 => k_asm); (case rmw15 => k_mem); (case rcw15 => (intro p hp; simp at hp ⊢; simp [hp])); (case row15 => (intro p hp; simp [hp])); (case rsw15 => (intro z h1 h2; (simp only [List.contains_cons, List.contains_nil, Bool.or_false, Bool.or_eq_false_iff, beq_eq_false_iff_ne, ne_eq] at h2); simp [h1, h2]))) | (refine' words_end (vs0, y ++ [ch], _, n0) ?rFw15 ?rNw15 ?rmw15 rfl rfl (hW.more hch) ?rcw15 ?row15 ?rsw15; (case rFw15 => k_asm); (case rNw15 => k_asm); (case rmw15 => k_mem); (case rcw15 => (intro p hp; simp at hp ⊢; simp [hp])); (case row15 => (intro p hp; simp [hp])); (case rsw15 => (intro z h1 h2; (simp only [List.contains_cons, List.contains_nil, Bool.or_false, Bool.or_eq_false_iff, beq_eq_false_iff_ne, ne_eq] at h2); simp [h1, h2]))) | (refine' words_end (vs0, y, ty, n0) ?rFw15 ?rNw15 ?rmw15 rfl rfl hW.mono ?rcw15 ?row15 ?rsw15; (case rFw15 => k_asm); (case rNw15 => k_asm); (case rmw15 => k_mem); (case rcw15 => (intro p hp; simp at hp ⊢; simp [hp])); (case row15 => (intro p hp; simp [hp])); (case rsw15 => (intro z h1 h2; (simp only [List.contains_cons, List.contains_nil, Bool.or_false, Bool.or_eq_false_iff, beq_eq_false_iff_ne, ne_eq] at h2); simp [h1, h2])))))
  k_with "eval ListComp" => (k_here; (rename Fr _ _ _ _ => lF'); k_dflt (refine' comp_txs (DotR dot) ?c0w16 ?c1w16 ?c2w16 ?c3w16 ?c4w16 ?c5w16 (ld lF' rfl ⟨rfl, rfl⟩) (ND _ (.head _)).1 hts ?cnw16 ?eltw16 ?donew16 ?c7w16; (case c0w16 => exact rfl); (case c1w16 => with_unfolding_all rfl); (case c2w16 => decide); (case c3w16 => exact rfl); (case c4w16 => decide); (case c5w16 => exact rfl); (case cnw16 => (simp; omega)); (case c7w16 => (intro _; with_unfolding_all rfl)); (case' eltw16 => (intro C t xt tok m₃ E' hxt hC kT hns hm; (have Fc := Fr.comp lF' hC kT hns hm); (have Nc := News.grown ND kT); (have hxl := Nat.le_trans (len_le_sum hxt) hysum); (have kt : ∀ b o, t.heap.get? b = some o → t.heap.get? b = some o := fun _ _ e => e); clear lF' hns hm kT)); (case' donew16 => (intro D h' tk us' hD hTx hR kD; (have FDD := lF'.keeps kD); clear lF'))))
  dsimp only [ClmH]
  k_fill
  intro A s Q E hh hroom X T hl hret
  obtain ⟨y1, y2, y3, y4, y5⟩ := A
  simp only at hh
  subst hh
  have lk := lk_815 w.params
  dsimp only [fa_815, fb_815, fs_815] at lk
  refine wpAny_call ?_
  refine' enter_freeC X T lk ?k7 ?k8 ?k9 ?kB ?kN ?_ ?c2 ?c3 ?c4
  case k7 => k_is
  case k8 => ktr_room
  case k9 => rfl
  case kB => rfl
  case kN => decide
  case c2 => exact rfl
  case c3 => exact rfl
  case c4 => exact rfl
  intro L' h' tk' cells F' N' Y
  clear lk
  cases Y with
  | cons c1 Y =>
  cases Y
  try dsimp only
  try k_fold
  k_steps
  all_goals (try k_data)
  all_goals (first
    | exact ⟨.inr rfl, fun _ => endsSp_snoc _ _⟩
    | exact ⟨.inl rfl, fun hd => by simp_all⟩
    | exact ⟨_, _, rfl, kt7⟩
    | exact ⟨_, _, rfl, fun _ _ e => e⟩
    | exact hret _ _ _ ⟨_, hTx, words_ok hn hR hsig hyl hysum⟩ FDD.keep)
end
end
section
open PySem PySem.W PyProof.Rows PySem.Spec PySem.Calls
theorem JT.at {h h' : Heap} (J : JT h) (k1 : ∀ o, h.get? 801 = some o → h'.get? 801 = some o) (k2 : ∀ o, h.get? 797 = some o → h'.get? 797 = some o) : JT h' := by
  obtain ⟨ps, ⟨o, vs, file, tf, flags, tg, inF, text, tt, op, a, r1, r2, r3, r4, r5, r6, b, r⟩, ⟨⟨o', vs', a', r'⟩, b'⟩, c⟩ := J
  exact ⟨ps, ⟨o, vs, file, tf, flags, tg, inF, text, tt, op, k1 _ a, r1, r2, r3, r4, r5, r6, k2 _ b, r⟩, ⟨⟨o', vs', k1 _ a', r'⟩, k2 _ b'⟩, c⟩
theorem JT.code {h : Heap} (J : JT h) : (∃ o, h.get? 801 = some o ∧ o.cls = .type "code") ∧ ∃ ps, h.get? 797 = some ⟨.none, none, .fields ps, #[]⟩ := by
  obtain ⟨ps, _, ⟨⟨o, vs, a, b, _⟩, e⟩, _⟩ := J
  exact ⟨⟨o, a, b⟩, ps, e⟩
structure LawSt (g : Heap) (L lw : Addr) (wits : Array Value) (wn : Nat) (os : OsState) (m₀ : Str → Option Value) (P : List Tx → Prop) (s : Shared) : Prop where
  os : s.os = os
  gens : AllBare s.gens
  jt : JT s.heap
  words : s.heap.get? lw = some (listOf wits wn)
  texts : ∃ lt its n ts m, Fr g L s.heap m ∧ m (Str.ofString "texts") = some (.ref lt) ∧ (∀ z, z ≠ Str.ofString "step" → z ≠ Str.ofString "texts" → m z = m₀ z) ∧ s.heap.get? lt = some (listOf its n) ∧ StrsAre its.toList (ts.map mkS) ∧ P ts
structure TurnEnd (g : Heap) (L lw : Addr) (wits : Array Value) (wn : Nat) (os : OsState) (m₀ : Str → Option Value) (P : List Tx → Prop) (I : Addr) (h : Heap) (f : Flow) (s : Shared) : Prop where
  flow : f = .next
  st : LawSt g L lw wits wn os m₀ P s
  it : ∀ o, h.get? I = some o → s.heap.get? I = some o
def ItAt (h : Heap) (I : Addr) : Prop := ∃ o, h.get? I = some o ∧ o.cls = .type "str_ascii_iterator"
theorem ItAt.off {h : Heap} {I b : Addr} {o : Obj} (x : ItAt h I) (e : h.get? b = some o) (hc : o.cls ≠ .type "str_ascii_iterator") : b ≠ I := by
  rintro rfl
  obtain ⟨o', e', c⟩ := x
  rw [e] at e'; cases e'
  exact hc c
theorem LawSt.move {g : Heap} {L lw I : Addr} {wits : Array Value} {wn : Nat} {os : OsState} {m₀ : Str → Option Value} {P : List Tx → Prop} {s : Shared} {h' : Heap} {tk : Nat} (S : LawSt g L lw wits wn os m₀ P s) (x : ItAt s.heap I) (hIL : I ≠ L) (hIg : g.get? I = none)
    (k : ∀ b o, b ≠ I → s.heap.get? b = some o → h'.get? b = some o) : LawSt g L lw wits wn os m₀ P { s with heap := h', toks := tk } := by
  obtain ⟨⟨o1, a1, b1⟩, ps, a2⟩ := S.jt.code
  have n1 := x.off a1 (by rw [b1]; decide)
  have n2 := x.off a2 (fun h => nomatch h)
  have n3 := x.off S.words (fun h => absurd (Value.type.inj h) (by decide))
  obtain ⟨lt, its, n, ts, m, F, h1, h2, h3, h4, h5⟩ := S.texts
  have n4 := x.off h3 (fun h => absurd (Value.type.inj h) (by decide))
  refine ⟨S.os, S.gens, S.jt.at (fun o e => k _ _ n1 e) fun o e => k _ _ n2 e, k _ _ n3 S.words, lt, its, n, ts, m, ⟨F.ns.at' fun o e => k _ _ (Ne.symm hIL) e, fun b o e => k _ _ ?_ (F.keep b o e), F.above⟩, h1, h2, k _ _ n4 h3, h4, h5⟩
  rintro rfl
  rw [hIg] at e; cases e
section
variable {prog : Program} {w : World} {A : Around} {E : Value → Shared → Prop} {s : Shared} {env : Env} {g : Heap} {lw : Addr} {wits : Array Value} {wn : Nat} {os : OsState} {m₀ : Str → Option Value} {Q : Flow → Shared → Prop} {px pos : Pos} {iter : Expr} {body : List Stmt}
theorem law_loop {o : Tx} (Pn : Nat → List Tx → Prop) (hh : A.handled = none) (hx : env.kindOf (Str.ofString "step") = some .local) (hp : (env.scope.kind == .class || (env.scope.kind == .module && env.locals != env.globals)) = false)
    (hasc : ∀ c ∈ o, c < 128) (hit : wpAny (model prog w) A (eval iter env) (fun v s₁ => (∃ t, v = .str (mkS o) t) ∧ s₁ = s) E s) (h0 : LawSt g env.locals lw wits wn os m₀ (Pn 0) s)
    (turn : ∀ i c t lt its n ts I s' E', o[i]? = some c → ItAt s'.heap I → I ≠ env.locals → g.get? I = none → s'.os = os → AllBare s'.gens → JT s'.heap → s'.heap.get? lw = some (listOf wits wn) → s'.heap.get? lt = some (listOf its n) → StrsAre its.toList (ts.map mkS) → Pn i ts →
      Fr g env.locals s'.heap (fun y => if y = Str.ofString "step" then some (.str (mkS [c]) t) else if y = Str.ofString "texts" then some (.ref lt) else m₀ y) →
      wpAny (model prog w) A (execs body env) (fun f s₃ => TurnEnd g env.locals lw wits wn os m₀ (Pn (i + 1)) I s'.heap f s₃) E' s')
    (done : ∀ s₂, LawSt g env.locals lw wits wn os m₀ (Pn o.length) s₂ → Q .next s₂)
    (hs : ∀ x, foldedSetIterable iter env x = pure x := by intro _; rfl) :
    wpAny (model prog w) A (exec (.For (.Name (Str.ofString "step") px) iter body [] pos) env) Q E s := by
  refine wpAny_For (wpAny_mono hit (fun v s₁ e => ?_) fun _ _ e => e) hs
  obtain ⟨⟨t, rfl⟩, rfl⟩ := e
  have ha : (mkS o).cps.all (· < 128) = true := by
    rw [← Array.all_toList]
    exact List.all_eq_true.mpr fun c hc => by simpa using hasc c (by simpa using hc)
  refine wpAny_pyIter_ascii ha ?_
  generalize hI : s₁.heap.objs.size = I
  obtain ⟨lt0, its0, n0, ts0, m1, F1, _⟩ := h0.texts
  have hIL : I ≠ env.locals := by rw [← hI]; exact (Nat.ne_of_lt F1.ns.lt).symm
  have hIg : g.get? I = none := by
    cases e : g.get? I with
    | none => rfl
    | some o => exact absurd (Heap.lt_size (F1.keep _ _ e)) (by rw [hI]; exact Nat.lt_irrefl _)
  have hsz : (mkS o).cps.size = o.length := by simp
  have W := Walks.strAscii (prog := prog) (w := w) (A := A) hh I (mkS o) t
  rw [hsz] at W
  have itAt : ∀ {h i}, h.IsStrIter I "str_ascii_iterator" (mkS o) t i → ItAt h I := fun ⟨o, a, b, _⟩ => ⟨o, a, b⟩
  refine codeAny_forLoop (fun k s' => ∃ i, k = o.length + 1 - i ∧ i ≤ o.length ∧ s'.heap.IsStrIter I "str_ascii_iterator" (mkS o) t i ∧ LawSt g env.locals lw wits wn os m₀ (Pn i) s') ?_ (o.length + 1) ⟨0, rfl, Nat.zero_le _, ?_, ?_⟩
  · rintro k s' ⟨i, rfl, hi, hst, hL⟩
    by_cases hlt : i < o.length
    · refine W.item i _ _ _ hlt hst fun v h₁ tk₁ hP hst₁ hk₁ => ?_
      have hL1 := hL.move (h' := h₁) (tk := tk₁) (itAt hst) hIL hIg fun b o hb e => hk₁ b o (by simpa using hb) e
      obtain ⟨c, u, hc, rfl⟩ := hP
      obtain ⟨lt, its, n, ts, m, F, g1, g2, g3, g4, g5⟩ := hL1.texts
      refine wpAny_assign_Name (wpAny_storeName_local hx F.ns (fun h₂ hn₂ hs₂ => ?_) hp)
      have F2 := F.set hn₂ hs₂
      have kk : ∀ b o, b ≠ env.locals → h₁.get? b = some o → h₂.get? b = some o := fun b o hb e => (hs₂.2 b hb).trans e
      have nL : ∀ b o, h₁.get? b = some o → (∀ es ep, o.data ≠ .dict es ep) → b ≠ env.locals := by
        rintro b o e hd rfl
        obtain ⟨o', es, ep, e', hd', _⟩ := F.ns
        have e'' : h₁.get? env.locals = some o' := e'
        rw [e''] at e; cases e
        exact hd _ _ hd'
      have em : (fun y => if y = Str.ofString "step" then some (Value.str ⟨#[c]⟩ u) else m y) = fun y => if y = Str.ofString "step" then some (.str (mkS [c]) u) else if y = Str.ofString "texts" then some (.ref lt) else m₀ y := by
        funext y
        by_cases e1 : y = Str.ofString "step"
        · rw [if_pos e1, if_pos e1]
        · rw [if_neg e1, if_neg e1]
          by_cases e2 : y = Str.ofString "texts"
          · rw [if_pos e2, e2, g1]
          · rw [if_neg e2]; exact g2 y e1 e2
      rw [em] at F2
      obtain ⟨oI, hoI, hcI, hdI⟩ := hst₁
      obtain ⟨⟨oc, a1, b1⟩, ps, a2⟩ := hL1.jt.code
      have J2 : JT h₂ := hL1.jt.at (fun o e => by
          obtain ⟨ps, ⟨o', vs, file, tf, flags, tg, inF, text, tt, op, a, r1, _⟩, _⟩ := hL1.jt
          have a' : h₁.get? 801 = some o' := a
          have e' : h₁.get? 801 = some o := e
          rw [a'] at e'; cases e'
          exact kk _ _ (nL _ _ a' (fun es ep h => by rw [r1] at h; cases h)) a') fun o e => by
          have a2' : h₁.get? 797 = some _ := a2
          have e' : h₁.get? 797 = some o := e
          rw [a2'] at e'; cases e'
          exact kk _ _ (nL _ _ a2' (fun es ep h => by cases h)) a2'
      refine wpAny_mono (turn i c u lt its n ts I _ _ (by simpa using hc) ⟨oI, kk _ _ hIL hoI, hcI⟩ hIL hIg hL1.os hL1.gens J2 (kk _ _ (nL _ _ hL1.words fun es ep h => by cases h) hL1.words) (kk _ _ (nL _ _ g3 fun es ep h => by cases h) g3) g4 g5 F2) (fun f s₃ p => ?_) fun _ _ e => e
      obtain ⟨rfl, p2, p3⟩ := p
      exact ⟨o.length + 1 - (i + 1), by omega, i + 1, rfl, hlt, ⟨oI, p3 _ (kk _ _ hIL hoI), hcI, hdI⟩, p2⟩
    · have hin : i = o.length := by omega
      subst hin
      refine W.done _ _ _ hst fun h₁ tk₁ hk₁ => wpAny_execs_nil (done _ ?_)
      exact hL.move (itAt hst) hIL hIg fun b o hb e => hk₁ b o (by simpa using hb) e
  · exact ⟨_, by rw [← hI]; exact Heap.get?_push_size _ rfl, rfl, rfl⟩
  · obtain ⟨lt, its, n, ts, m, F, g1, g2, g3, g4, g5⟩ := h0.texts
    exact ⟨h0.os, h0.gens, h0.jt.keeps fun b o e => Heap.get?_push_of_some _ e, Heap.get?_push_of_some _ h0.words, lt, its, n, ts, m, F.push _, g1, g2, Heap.get?_push_of_some _ g3, g4, g5⟩
end
end
section
open PySem PySem.W PyProof.Rows PySem.Spec PySem.Calls
theorem Below.pushX {A : Around} {base h₀ h : Heap} {outer : List Env} {L a : Addr} {m : Str → Option Value} {name : Str} {scope : Scope} {cd : Value} {cl : List (Str × Addr)}
    (K : Below A base outer h₀) (F : Fr h₀ L h m) (hk : scope.kind = .function) : Below (A.deeper (envX name scope L a cd cl)) base (envX name scope L a cd cl :: outer) h := by
  have b := Below.push (name := name) (scope := scope) (a := a) (cd := cd) K F hk
  obtain ⟨_, s2, fr⟩ := b
  exact ⟨Around.frames_deeper K.stack, s2, fr⟩
section
variable {w : World} {mean : ExcName → Option Value} {mg mb : Str → Option Value} {A : Around} {s : Shared} {Q E : Value → Shared → Prop} {lt : Addr} {its : Array Value} {n : Nat} {ts ws : List Tx} {c : Nat} {t t2 t3 : Tok}
theorem call_laid {M : Int} {e : Nat} {b : Nat} (hh : A.handled = none) (hroom : A.depth + 40 < recursionLimit) (X : (KF w.params).In s.heap) (T : Top viewQ (looseW viewQ looseN) mean mg mb s.heap) (hG : AllBare s.gens) (J : JT s.heap)
    (hl : s.heap.get? lt = some (listOf its n)) (hts : StrsAre its.toList (ts.map mkS)) (hc : c = 83 ∨ c = 81) (hM : 10 ≤ M) (hM2 : M ≤ 18) (he : isEnd e = true) (hok : TOk b ts) (hb : b ≤ 39999)
    (h : ∀ D s₃ us, TxList us (.ref D) s₃.heap → LayOne c ts us → (∀ b o, s.heap.get? b = some o → b ≠ 797 → s₃.heap.get? b = some o) → JT s₃.heap → AllBare s₃.gens → s₃.os = s.os → Q (.ref D) s₃) :
    wpAny (model PySem.Challenge.rw_oy0446_01.row.prog w) A (call (.ref 820) [.ref lt, .str (mkS [c]) t, .int M t2, .str ⟨#[e]⟩ t3]) Q E s := by
  have hl' : s.heap.get? lt = some (listOf its.toList.toArray n) := by simpa using hl
  have hxl : ∀ x ∈ ts, x.length ≤ 39999 := fun x hx => Nat.le_trans (len_sumL hx) (Nat.le_trans hok.sum hb)
  have hlen := hok.len
  have hsum := hok.sum
  rcases hc with rfl | rfl
  · have e1 : mkS [83] = Str.ofString "S" := by decide
    rw [e1]
    have hq := quoteT_sum ts
    refine laidS_claim lt its.toList n ts M e t t2 t3 hts (fun x hx => Nat.le_trans (hxl x hx) (by decide)) (by omega) A s Q E hh (by omega) X T hG ⟨hl', J⟩ fun v s' p kk hG' hos => ?_
    obtain ⟨⟨D, ys, n', rfl, h1, h2⟩, hJ⟩ := p
    exact h D s' _ ⟨D, ys, n', rfl, h1, h2⟩ (by simp [LayOne]) kk hJ hG' hos
  · have e1 : mkS [81] = Str.ofString "Q" := by decide
    rw [e1]
    refine laidQ_claim lt its.toList n ts M e t t2 t3 hM hM2 he hts (by omega) (fun x hx => Nat.le_trans (hxl x hx) (by decide)) hok.signs A s Q E hh (by omega) X T hl' fun v h' tk' p kk => ?_
    obtain ⟨us, ⟨D, ys, n', rfl, h1, h2⟩, hR⟩ := p
    exact h D _ us ⟨D, ys, n', rfl, h1, h2⟩ (by simpa [LayOne] using hR) (fun b o e _ => kk b o e) (J.keeps kk) hG rfl
theorem call_taken {g : Heap} {L : Addr} {m : Str → Option Value} {A₀ : Around} {env : Env} {rem : List Nat} (hh : A.handled = none) (hroom : A.depth + 60 < recursionLimit) (X : (KF w.params).In s.heap) (T : Top viewQ (looseW viewQ looseN) mean mg mb s.heap)
    (B : Below A₀ g [env] s.heap) (hA : A.frames = some [env]) (hf : env.frame = some L) (F : Fr g L s.heap m)
    (hl : s.heap.get? lt = some (listOf its n)) (hts : StrsAre its.toList (ts.map mkS)) (hc : c = 83 ∨ c = 81) (hU : UndoS (c :: rem) ts ws) (hok : UOk ts)
    (h : ∀ D h' tk us, TxList us (.ref D) h' → UndoS rem us ws → UOk us → Fr g L h' m → (∀ b o, s.heap.get? b = some o → b ≠ L → h'.get? b = some o) → Q (.ref D) { s with heap := h', toks := tk }) :
    wpAny (model PySem.Challenge.rw_oy0446_01.row.prog w) A (call (.ref 825) [.ref lt, .str (mkS [c]) t]) Q E s := by
  have hl' : s.heap.get? lt = some (listOf its.toList.toArray n) := by simpa using hl
  have hxl : ∀ {ts : List Tx}, UOk ts → ∀ x ∈ ts, x.length ≤ 1000000 := fun hok x hx => Nat.le_trans (len_sumL hx) (Nat.le_trans hok.sum (by decide))
  have hlen := hok.len
  unfold UndoS at hU
  rcases hc with rfl | rfl
  · rw [if_pos rfl] at hU
    obtain ⟨T0, xs, rfl, hx, hU⟩ := hU
    have e1 : mkS [83] = Str.ofString "S" := by decide
    rw [e1]
    have hoks := hok.s hx
    have hsg := hok.signs T0 (.head _)
    obtain ⟨vs, hvs⟩ : ∃ vs, its.toList = vs := ⟨_, rfl⟩
    rw [hvs] at hts hl'
    have hshape : ∃ t0, vs = [.str (mkS T0) t0] := by
      generalize hq : ([T0].map mkS) = q at hts
      cases hts with
      | nil => cases hq
      | cons y tt r =>
        simp only [List.map_cons, List.map_nil, List.cons.injEq] at hq
        obtain ⟨rfl, rfl⟩ := hq
        cases r
        exact ⟨tt, rfl⟩
    obtain ⟨t0, rfl⟩ := hshape
    refine takenS_claim lt T0 t0 n xs t hx (hxl hok T0 (.head _)) (fun c hc e => by
      have := hsg c hc
      simp only [isSign, Bool.and_eq_true, decide_eq_true_eq, bne_iff_ne] at this
      omega) (by have := hoks.len; omega) A A₀ env [] g s Q E B hA hh X T (by omega) hl' fun v h' tk' p k1 k2 => ?_
    obtain ⟨D, ys, n', rfl, h1, h2⟩ := p
    have hfr : ∀ b o, s.heap.get? b = some o → b ≠ L → h'.get? b = some o := fun b o e hb => k1 b o e fun hm => by
      obtain ⟨env', he, hf'⟩ := List.mem_filterMap.mp hm
      rw [List.mem_singleton.mp he, hf] at hf'
      exact hb (Option.some.inj hf').symm
    have hLg : ∀ b o, g.get? b = some o → b ≠ L := by
      rintro b o e rfl
      exact Nat.lt_irrefl _ (Nat.lt_of_lt_of_le (Heap.lt_size e) F.above)
    refine h D h' tk' xs ⟨D, ys, n', rfl, h1, h2⟩ hU hoks ⟨?_, fun b o e => hfr b o (F.keep b o e) (hLg b o e), F.above⟩ hfr
    obtain ⟨o, es, ep, e, hd, r⟩ := F.ns
    obtain ⟨sl, e'⟩ := k2 L o e fun vs hv => by rw [hd] at hv; cases hv
    exact ⟨_, es, ep, e', hd, r⟩
  · rw [if_neg (by decide)] at hU
    obtain ⟨us, hr, hsg, hU⟩ := hU
    have e1 : mkS [81] = Str.ofString "Q" := by decide
    rw [e1]
    have hoks := hok.q hr hsg
    refine takenQ_claim lt its.toList n ts us t hts hr (by omega) (hxl hok) (hxl hoks) A s Q E hh (by omega) X T hl' fun v h' tk' p kk => ?_
    obtain ⟨D, ys, n', rfl, h1, h2⟩ := p
    exact h D h' tk' us ⟨D, ys, n', rfl, h1, h2⟩ hU hoks (F.keeps kk) fun b o e _ => kk b o e
end
end
section
open PySem PySem.W PyProof.Rows PySem.Spec PySem.Calls
theorem str_canLay : ∀ ys : List Str, (∀ y ∈ ys, PyData.strOk y = true) → PyData.canLayAll0 (ys.map PyData.str) = true
  | [], _ => rfl
  | y :: ys, h => by simp [PyData.canLayAll0, PyData.canLay0, h y (.head _), str_canLay ys fun z hz => h z (.tail _ hz)]
theorem str_depth : ∀ ys : List Str, PyData.depthAll (ys.map PyData.str) = 0
  | [] => rfl
  | y :: ys => by simp [PyData.depthAll, PyData.depth, str_depth ys]
theorem str_shaped (ys : List Str) (h : ∀ y ∈ ys, PyData.strOk y = true) : SeqAt.shaped (.list (ys.map PyData.str)) = true := by
  simp [SeqAt.shaped, PyData.canLay0, PyData.depth, str_canLay ys h, str_depth]
theorem str_carried : ∀ {vs : List Value} {ys : List Str}, StrsAre vs ys → CarriedAll vs (ys.map PyData.str)
  | _, _, .nil => .nil
  | _, _, .cons _ t r => .cons (.str _ t) (str_carried r)
theorem eq_strs {prog : Program} {w : World} {A : Around} {E : Value → Shared → Prop} {s : Shared} {a b : Addr} {xs ys : List Value} {zs : List Str} {Q : Value → Shared → Prop} (ha : s.heap.IsList a xs.toArray) (hb : s.heap.IsList b ys.toArray) (hi : StrsAre xs zs) (hj : StrsAre ys zs) (hz : ∀ y ∈ zs, PyData.strOk y = true) (hu : A.units + 64 < cLine) (h : Q (.bool true) s) :
    wpAny (model prog w) A (compareOp .Eq (.ref a) (.ref b)) Q E s := by
  have e : PySem.Spec.same (.list (zs.map PyData.str)) (.list (zs.map PyData.str)) = true := PySem.Spec.same_self _
  refine eq_dataH_same (reads_newData ha (str_carried hi)) (reads_newData hb (str_carried hj)) (str_shaped zs hz) (str_shaped zs hz) hu (SeqAt.noMix_of_shape (.list .str) rfl _ _ (list_map_has fun _ => rfl) (list_map_has fun _ => rfl)) (by rw [e]; exact h)
theorem law_fin {g : Heap} {L lw D I : Addr} {wits : Array Value} {wn : Nat} {os : OsState} {m₀ m : Str → Option Value} {P : List Tx → Prop} {s₃ s' : Shared} {h₂ : Heap} {us : List Tx} {tk : Nat} {m3 : Str → Option Value}
    (o3 : s₃.os = os) (G3 : AllBare s₃.gens) (J3 : JT s₃.heap) (hw : s₃.heap.get? lw = some (listOf wits wn)) (hT : TxList us (.ref D) s₃.heap) (hP : P us) (F3 : Fr g L s₃.heap m3) (F : Fr g L h₂ m) (hmt : m (Str.ofString "texts") = some (.ref D))
    (hm : ∀ z, z ≠ Str.ofString "step" → z ≠ Str.ofString "texts" → m z = m₀ z) (hs : Heap.SameBut L s₃.heap h₂) (kI : ∀ o, s'.heap.get? I = some o → s₃.heap.get? I = some o) (hIL : I ≠ L) :
    TurnEnd g L lw wits wn os m₀ P I s'.heap .next { s₃ with heap := h₂, toks := tk } := by
  have nL : ∀ b o, s₃.heap.get? b = some o → (∀ es ep, o.data ≠ .dict es ep) → b ≠ L := by
    rintro b o e hd rfl
    obtain ⟨o', es, ep, e', hd', _⟩ := F3.ns
    rw [e'] at e; cases e
    exact hd _ _ hd'
  have kk : ∀ b o, b ≠ L → s₃.heap.get? b = some o → h₂.get? b = some o := fun b o hb e => (hs.2 b hb).trans e
  obtain ⟨D', ys, n, eD, hD, hS⟩ := hT
  cases eD
  refine ⟨rfl, ⟨o3, G3, J3.at (fun o e => ?_) fun o e => ?_, kk _ _ (nL _ _ hw fun es ep h => by cases h) hw, D, ys, n, us, m, F, hmt, hm, kk _ _ (nL _ _ hD fun es ep h => by cases h) hD, hS, hP⟩, fun o e => kk _ _ hIL (kI o e)⟩
  · obtain ⟨ps, ⟨o', vs, file, tf, flags, tg, inF, text, tt, op, a, r1, _⟩, _⟩ := J3
    rw [a] at e; cases e
    exact kk _ _ (nL _ _ a fun es ep h => by rw [r1] at h; cases h) a
  · obtain ⟨_, ps, a2⟩ := J3.code
    rw [a2] at e; cases e
    exact kk _ _ (nL _ _ a2 fun es ep h => by cases h) a2
theorem fr_but {g h h' : Heap} {L : Addr} {m : Str → Option Value} (F : Fr g L h m) (J : JT h) (hg : g.get? 797 = none) (k : ∀ b o, h.get? b = some o → b ≠ 797 → h'.get? b = some o) : Fr g L h' m := by
  obtain ⟨_, ps, a2⟩ := J.code
  have hL : L ≠ 797 := by
    rintro rfl
    obtain ⟨o', es, ep, e', hd', _⟩ := F.ns
    rw [a2] at e'; cases e'; cases hd'
  refine ⟨F.ns.at' fun o e => k _ _ e hL, fun b o e => k b o (F.keep b o e) ?_, F.above⟩
  rintro rfl
  rw [hg] at e; cases e
theorem JT.off {h : Heap} (J : JT h) {b : Addr} {o : Obj} (e : h.get? b = some o) (hc : o.cls ≠ .none) : b ≠ 797 := by
  rintro rfl
  obtain ⟨_, ps, a2⟩ := J.code
  rw [a2] at e; cases e
  exact hc rfl
noncomputable def bnd : Nat → Nat
  | 0 => 17
  | i + 1 => 6 * bnd i + 45
theorem jt_start {P : Params} {h : Heap} (X : (KF P).In h) (e : h.get? 797 = some ⟨.none, none, .fields #[], #[]⟩) : JT h := by
  have a := X 801 (k_801 P) (by kernel_rfl)
  exact ⟨#[], ⟨_, _, _, _, _, _, _, _, _, _, a, rfl, rfl, rfl, rfl, rfl, rfl, e, rfl, trivial, by decide⟩, ⟨⟨_, _, a, rfl, rfl, rfl⟩, e⟩, .inl rfl⟩
theorem frame_two {m m₀ : Str → Option Value} {v : Value} (h1 : m (Str.ofString "texts") = some v) (h2 : ∀ z, z ≠ Str.ofString "step" → z ≠ Str.ofString "texts" → m z = m₀ z) :
    m = fun y => if y = Str.ofString "texts" then some v else if y = Str.ofString "step" then m (Str.ofString "step") else m₀ y := by
  funext y
  by_cases e1 : y = Str.ofString "texts"
  · rw [if_pos e1, e1, h1]
  · rw [if_neg e1]
    by_cases e2 : y = Str.ofString "step"
    · rw [if_pos e2, e2]
    · rw [if_neg e2]; exact h2 y e2 e1
theorem bnd_le : ∀ i, i ≤ 4 → bnd i ≤ 39999 := by decide
theorem it_off {h : Heap} {I : Addr} (x : ItAt h I) (J : JT h) : I ≠ 797 := by
  obtain ⟨o, e, c⟩ := x
  exact J.off e (by rw [c]; exact fun h => nomatch h)
theorem fr_off {g h : Heap} {L b : Addr} {m : Str → Option Value} {o : Obj} (F : Fr g L h m) (e : h.get? b = some o) (hd : ∀ es ep, o.data ≠ .dict es ep) : b ≠ L := by
  rintro rfl
  obtain ⟨o', es, ep, e', hd', _⟩ := F.ns
  rw [e'] at e; cases e
  exact hd _ _ hd'
theorem jt_frame {g h h' : Heap} {L : Addr} {m : Str → Option Value} (F : Fr g L h m) (J : JT h) (k : ∀ b o, h.get? b = some o → b ≠ L → h'.get? b = some o) : JT h' := by
  refine J.at (fun o e => k _ _ e ?_) fun o e => k _ _ e ?_
  · obtain ⟨ps, ⟨o', vs, file, tf, flags, tg, inF, text, tt, op, a, r1, _⟩, _⟩ := J
    exact fr_off F a fun es ep h => by rw [r1] at h; cases h
  · obtain ⟨_, ps, a2⟩ := J.code
    exact fr_off F a2 fun es ep h => by cases h
theorem drop_consT {o : Tx} {i c : Nat} (h : o[i]? = some c) : o.drop i = c :: o.drop (i + 1) := by
  obtain ⟨hl, e⟩ := List.getElem?_eq_some_iff.mp h
  rw [List.drop_eq_getElem_cons hl, e]
theorem take_snoc {o : Tx} {i c : Nat} (h : o[i]? = some c) : o.take (i + 1) = o.take i ++ [c] := by rw [List.take_add_one, h]; rfl
theorem signs_ok {us : List Tx} (h : Signs us) : ∀ y ∈ us.map mkS, PyData.strOk y = true := by
  intro y hy
  obtain ⟨u, hu, rfl⟩ := List.mem_map.mp hy
  unfold PyData.strOk
  rw [← Array.all_toList]
  refine List.all_eq_true.mpr fun c hc => ?_
  have hc' : c ∈ u := by simpa using hc
  have := h u hu c hc'
  simp only [isSign, Bool.and_eq_true, decide_eq_true_eq] at this
  simp; omega
section
variable {prog : Program} {w : World} {A : Around} {E : Value → Shared → Prop} {s : Shared} {env : Env} {g : Heap} {lw : Addr} {wits : Array Value} {wn : Nat} {m : Str → Option Value} {news : List (Addr × Obj)} {x : Str} {v : Value} {Q : Unit → Shared → Prop}
theorem store_w (hx : env.kindOf x = some .local) (hp : (env.scope.kind == .class || (env.scope.kind == .module && env.locals != env.globals)) = false) (F : Fr g env.locals s.heap m) (N : News g env.locals s.heap news) (hw : s.heap.get? lw = some (listOf wits wn))
    (h : ∀ h' tk, Fr g env.locals h' (fun y => if y = x then some v else m y) → News g env.locals h' news → h'.get? lw = some (listOf wits wn) → Q () { s with heap := h', toks := tk }) : wpAny (model prog w) A (storeName env x v) Q E s :=
  wpAny_storeName_local hx F.ns (fun h₂ hn₂ hs₂ => h h₂ _ (F.set hn₂ hs₂) (N.set hs₂) ((hs₂.2 _ (fr_off F hw fun es ep h => by cases h)).trans hw)) hp
end
end
section
open PySem PySem.W PyProof.Rows PySem.Spec PySem.Calls
section
variable {M : Model} {A : Around} {E : Value → Shared → Prop} {Q : Unit → Shared → Prop} {s : Shared} {env : Env} {x : Str} {i : Int} {y : Str} {t : Tok}
theorem gen_int (h : ∀ t, wpAny M A (storeName env x (.int i t)) Q E s) : wpAny M A (storeName env x (.int i t)) Q E s := h t
theorem gen_str (h : ∀ t, wpAny M A (storeName env x (.str y t)) Q E s) : wpAny M A (storeName env x (.str y t)) Q E s := h t
end
structure Ord (o : Tx) : Prop where
  len : o.length = 4
  two : o.count 83 = 2
  all : ∀ c ∈ o, c = 83 ∨ c = 81
theorem Ord.first {o : Tx} (h : Ord o) : ∃ c, o[0]? = some c := by
  have := h.len
  exact ⟨o[0], List.getElem?_eq_getElem (by omega)⟩
theorem Ord.last {o : Tx} (h : Ord o) : ∃ v c, o = v ++ [c] := by
  have := h.len
  have hne : o ≠ [] := by intro e; rw [e] at this; cases this
  exact ⟨_, _, (List.dropLast_concat_getLast hne).symm⟩
theorem ord_all : Ord [83, 81, 83, 81] ∧ Ord [81, 83, 81, 83] ∧ Ord [83, 83, 81, 81] ∧ Ord [81, 81, 83, 83] ∧ Ord [83, 81, 81, 83] ∧ Ord [81, 83, 83, 81] :=
  ⟨⟨rfl, rfl, by decide⟩, ⟨rfl, rfl, by decide⟩, ⟨rfl, rfl, by decide⟩, ⟨rfl, rfl, by decide⟩, ⟨rfl, rfl, by decide⟩, ⟨rfl, rfl, by decide⟩⟩
section
variable {prog : Program} {w : World} {A : Around} {E : Value → Shared → Prop} {s : Shared} {t u t1 t2 t3 t4 t5 t6 : Tok} {Q : Value → Shared → Prop} {l : Addr} {n : Nat} {j : Int} {value slice : Expr}
theorem ord_at {k : Nat} (hk : k < 6) : ∃ o tk, (#[.str (Str.ofString "SQSQ") t1, .str (Str.ofString "QSQS") t2, .str (Str.ofString "SSQQ") t3, .str (Str.ofString "QQSS") t4, .str (Str.ofString "SQQS") t5, .str (Str.ofString "QSSQ") t6] : Array Value)[k]? = some (.str (mkS o) tk) ∧ Ord o := by
  obtain ⟨a1, a2, a3, a4, a5, a6⟩ := ord_all
  rcases k with _ | _ | _ | _ | _ | _ | k
  · exact ⟨_, t1, by rw [show Str.ofString "SQSQ" = mkS [83, 81, 83, 81] by decide]; rfl, a1⟩
  · exact ⟨_, t2, by rw [show Str.ofString "QSQS" = mkS [81, 83, 81, 83] by decide]; rfl, a2⟩
  · exact ⟨_, t3, by rw [show Str.ofString "SSQQ" = mkS [83, 83, 81, 81] by decide]; rfl, a3⟩
  · exact ⟨_, t4, by rw [show Str.ofString "QQSS" = mkS [81, 81, 83, 83] by decide]; rfl, a4⟩
  · exact ⟨_, t5, by rw [show Str.ofString "SQQS" = mkS [83, 81, 81, 83] by decide]; rfl, a5⟩
  · exact ⟨_, t6, by rw [show Str.ofString "QSSQ" = mkS [81, 83, 83, 81] by decide]; rfl, a6⟩
  · exact absurd hk (by omega)
theorem item_ord {h₀ : Heap} {L : Addr} {news : List (Addr × Obj)} (N : News h₀ L s.heap news) (hm : (l, listOf #[.str (Str.ofString "SQSQ") t1, .str (Str.ofString "QSQS") t2, .str (Str.ofString "SSQQ") t3, .str (Str.ofString "QQSS") t4, .str (Str.ofString "SQQS") t5, .str (Str.ofString "QSSQ") t6] n) ∈ news) (h0 : 0 ≤ j) (h1 : j < 6)
    (h : ∀ o tk, Ord o → Q (.str (mkS o) tk) s) (hs : subscripted slice false (.ref l) (.int j u) = operate [.ref l, .int j u] (getItem (.ref l) (.int j u)) := by with_unfolding_all rfl) : wpAny (model prog w) A (subscriptTail value slice (.ref l) (.int j u)) Q E s := by
  obtain ⟨o, tk, e, ho'⟩ := ord_at (t1 := t1) (t2 := t2) (t3 := t3) (t4 := t4) (t5 := t5) (t6 := t6) (k := j.toNat) (by omega)
  exact item_of_list ⟨_, (N _ hm).1, rfl, n, rfl⟩ h0 (by omega) e (h o tk ho') hs
theorem end_at {k : Nat} (hk : k < 4) : ∃ e tk, (#[.str (Str.ofString "\x0b") t1, .str (Str.ofString "\x0c") t2, .str (Str.ofString "\x1c") t3, .str (Str.ofString "\u0085") t4] : Array Value)[k]? = some (.str ⟨#[e]⟩ tk) ∧ isEnd e = true := by
  rcases k with _ | _ | _ | _ | k
  · exact ⟨11, t1, by rw [show Str.ofString "\x0b" = ⟨#[11]⟩ by decide]; rfl, rfl⟩
  · exact ⟨12, t2, by rw [show Str.ofString "\x0c" = ⟨#[12]⟩ by decide]; rfl, rfl⟩
  · exact ⟨28, t3, by rw [show Str.ofString "\x1c" = ⟨#[28]⟩ by decide]; rfl, rfl⟩
  · exact ⟨133, t4, by rw [show Str.ofString "\u0085" = ⟨#[133]⟩ by decide]; rfl, rfl⟩
  · exact absurd hk (by omega)
theorem item_end {h₀ : Heap} {L : Addr} {news : List (Addr × Obj)} (N : News h₀ L s.heap news) (hm : (l, listOf #[.str (Str.ofString "\x0b") t1, .str (Str.ofString "\x0c") t2, .str (Str.ofString "\x1c") t3, .str (Str.ofString "\u0085") t4] n) ∈ news) (h0 : 0 ≤ j) (h1 : j < 4)
    (h : ∀ e tk, isEnd e = true → Q (.str ⟨#[e]⟩ tk) s) (hs : subscripted slice false (.ref l) (.int j u) = operate [.ref l, .int j u] (getItem (.ref l) (.int j u)) := by with_unfolding_all rfl) : wpAny (model prog w) A (subscriptTail value slice (.ref l) (.int j u)) Q E s := by
  obtain ⟨e, tk, e1, he⟩ := end_at (t1 := t1) (t2 := t2) (t3 := t3) (t4 := t4) (k := j.toNat) (by omega)
  exact item_of_list ⟨_, (N _ hm).1, rfl, n, rfl⟩ h0 (by omega) e1 (h e tk he) hs
theorem eq_one {a c : Nat} {x : Str} (hx : x = mkS [c]) (h : Q (.bool (a == c)) s) : wpAny (model prog w) A (compareOp .Eq (.str (mkS [a]) t) (.str x u)) Q E s := by
  subst hx
  refine PyProof.Rows.eq_str ?_
  rw [beq_one, show (c == a) = (a == c) from Bool.beq_comm]
  exact h
theorem and_t {a b : Bool} (h : a = true) : Value.bool b = .bool (a && b) := by rw [h]; rfl
theorem and_f {a b : Bool} (h : a = false) : Value.bool a = .bool (a && b) := by rw [h]; rfl
theorem and_n {a b : Bool} (h : ¬ a = true) : Value.bool a = .bool (a && b) := by cases a with
  | false => rfl
  | true => exact absurd rfl h
def CutB (b : Bool) (s : Shared) (v : Value) (s' : Shared) : Prop := v = .bool b ∧ ∃ tk, s' = { s with toks := tk }
theorem cut_bool {M : Model} {b : Bool} {t : Sem Value} (h : wpAny M A t (CutB b s) E s) (k : ∀ tk, Q (.bool b) { s with toks := tk }) : wpAny M A t Q E s :=
  wpAny_mono h (fun v s' p => by obtain ⟨rfl, tk, rfl⟩ := p; exact k tk) fun _ _ e => e
end
noncomputable def ownF (j : Int) : Int := ([3, 9, 0, 1, 3741, 6, 5, 10] : List Int).getD j.toNat 0
section
variable {prog : Program} {w : World} {A : Around} {E : Value → Shared → Prop} {s : Shared} {u t1 t2 t3 t4 t5 t6 t7 t8 : Tok} {Q : Value → Shared → Prop} {l : Addr} {n : Nat} {j : Int} {value slice : Expr}
theorem own_at {k : Nat} (hk : k < 8) : ∃ tk, (#[.int 3 t1, .int 9 t2, .int 0 t3, .int 1 t4, .int 3741 t5, .int 6 t6, .int 5 t7, .int 10 t8] : Array Value)[k]? = some (.int (([3, 9, 0, 1, 3741, 6, 5, 10] : List Int).getD k 0) tk) := by
  rcases k with _ | _ | _ | _ | _ | _ | _ | _ | k
  · exact ⟨t1, rfl⟩
  · exact ⟨t2, rfl⟩
  · exact ⟨t3, rfl⟩
  · exact ⟨t4, rfl⟩
  · exact ⟨t5, rfl⟩
  · exact ⟨t6, rfl⟩
  · exact ⟨t7, rfl⟩
  · exact ⟨t8, rfl⟩
  · exact absurd hk (by omega)
theorem item_own {h₀ : Heap} {L : Addr} {news : List (Addr × Obj)} (N : News h₀ L s.heap news) (hm : (l, listOf #[.int 3 t1, .int 9 t2, .int 0 t3, .int 1 t4, .int 3741 t5, .int 6 t6, .int 5 t7, .int 10 t8] n) ∈ news) (h0 : 0 ≤ j) (h1 : j < 8)
    (h : ∀ tk, Q (.int (ownF j) tk) s) (hs : subscripted slice false (.ref l) (.int j u) = operate [.ref l, .int j u] (getItem (.ref l) (.int j u)) := by with_unfolding_all rfl) : wpAny (model prog w) A (subscriptTail value slice (.ref l) (.int j u)) Q E s := by
  obtain ⟨tk, e⟩ := own_at (t1 := t1) (t2 := t2) (t3 := t3) (t4 := t4) (t5 := t5) (t6 := t6) (t7 := t7) (t8 := t8) (k := j.toNat) (by omega)
  exact item_of_list ⟨_, (N _ hm).1, rfl, n, rfl⟩ h0 (by omega) e (h tk) hs
end
noncomputable def intOf : Value → Int
  | .int i _ => i
  | _ => 0
theorem ints_of : ∀ {vs : List Value}, (∀ v ∈ vs, ∃ i t, v = .int i t) → IntsAre vs (vs.map intOf)
  | [], _ => .nil
  | v :: vs, h => by
    obtain ⟨i, t, rfl⟩ := h v (.head _)
    exact .cons i t (ints_of fun v hv => h v (.tail _ hv))
theorem ints_mem : ∀ {vs : List Value} {ns : List Int}, IntsAre vs ns → ∀ v ∈ vs, ∃ i t, v = .int i t := by
  intro vs ns h
  induction h with
  | nil => intro v h; cases h
  | cons i t _ ih =>
    intro v h
    rcases List.mem_cons.mp h with rfl | h
    · exact ⟨i, t, rfl⟩
    · exact ih v h
theorem sum_pick {prog : Program} {w : World} {A : Around} {E : Value → Shared → Prop} {s : Shared} {h₀ : Heap} {L l : Addr} {m : Str → Option Value} {news : List (Addr × Obj)} {vs : List Value} {ns : List Int} {a b c : Option Int} {Q : Value → Shared → Prop} (hh : A.handled = none) (F : Fr h₀ L s.heap m) (N : News h₀ L s.heap news)
    (hm : (l, ({ cls := .type "list", data := .seq (slicePick vs.toArray a b c) } : Obj)) ∈ news) (hi : IntsAre vs ns)
    (h : ∀ h' tk t', Fr h₀ L h' m → News h₀ L h' news → Q (.int ((slicePick vs.toArray a b c).toList.map intOf).sum t') { s with heap := h', toks := tk }) : wpAny (model prog w) A (call (.builtin "sum") [.ref l]) Q E s := by
  refine sumK hh F N (vs := (slicePick vs.toArray a b c).toList) ⟨_, (N _ hm).1, rfl, 0, rfl⟩ (ints_of fun v hv => ?_) h
  unfold slicePick at hv
  obtain ⟨i, _, hi'⟩ := List.mem_filterMap.mp (by simpa using hv)
  exact ints_mem hi v (List.mem_of_getElem? (by simpa using hi'))
theorem law_orders {laidW undW undv : Tx} {laidc undc : Nat} {us ts : List Tx} (hl : Ord laidW) (hu : Ord undW) (h0 : laidW[0]? = some laidc) (hv : undW = undv ++ [undc]) (hok : WordsOk (laidc == 81 && undc == 83) us) (h : LayAll (laidW.take laidW.length) us ts) : UndoS undW ts us := by
  rw [List.take_length] at h
  have e1 : laidW.head? = some laidc := by rw [List.head?_eq_getElem?]; exact h0
  have e2 : undW.getLast? = some undc := by rw [hv]; simp
  have a1 := hl.all laidc (List.mem_of_getElem? h0)
  have a2 := hu.all undc (by rw [hv]; simp)
  refine ordersS hl.two hl.len hu.two hu.len hok.ne hok.signs ?_ ?_ h
  · intro q1 q2
    rw [e1] at q1
    rw [e2] at q2
    refine hok.dots ?_
    have b1 : laidc = 81 := by rcases a1 with rfl | rfl; · exact absurd rfl q1
                               · rfl
    have b2 : undc = 83 := by simpa using q2
    rw [b1, b2]; rfl
  · rw [e2]
    rcases a2 with rfl | rfl
    · exact .inl rfl
    · exact .inr rfl
theorem use_H {w : World} {mean : ExcName → Option Value} {mg mb : Str → Option Value} {rm : Nat} {f : Addr} {news : List (Addr × Obj)} {vs : List Value} {pre : Heap → Prop} {R : Value → Heap → Prop} {A : Around} {L : Addr} {h₀ : Heap} {m : Str → Option Value} {s : Shared} {Q E : Value → Shared → Prop}
    (C : ClmH w mean mg mb rm f vs pre R) (F : Fr h₀ L s.heap m) (X : (KF w.params).In h₀) (N : News h₀ L s.heap news) (T : Top viewQ (looseW viewQ looseN) mean mg mb h₀) (hh : A.handled = none)
    (hd : A.depth + rm < recursionLimit) (hp : pre s.heap) (h : ∀ (v : Value) (h' : Heap) (tk' : Nat), R v h' → (∀ b o, s.heap.get? b = some o → h'.get? b = some o) → Fr h₀ L h' m → News h₀ L h' news → Q v { s with heap := h', toks := tk' }) :
    wpAny (model PySem.Challenge.rw_oy0446_01.row.prog w) A (call (.ref f) vs) Q E s :=
  C A s Q E hh hd (X.keeps F.keep) (T.keeps F.keep) hp fun v h' tk' hR k => h v h' tk' hR k (F.keeps k) (N.grown k)
theorem ldE {M : Model} {A : Around} {E : Value → Shared → Prop} {s : Shared} {env : Env} {h₀ : Heap} {m : Str → Option Value} {x : Str} {pos : Pos} {v : Value} {Q : Value → Shared → Prop} (hk : env.scope.kind = .function) (hx : env.kindOf x = some .local) (hd : (x == ("__debug__" : Str)) = false) (F : Fr h₀ env.locals s.heap m) (hv : m x = some v) (h : Q v s) :
    wpAny M A (eval (.Name x pos) env) Q E s := wpAny_Name (wpAny_loadName_local hk hx F.ns hv h) hd
abbrev tab0 : Obj := ⟨.none, none, .fields #[], #[]⟩
section
set_option maxHeartbeats 2000000 in
theorem law_core {w : World} {mean : ExcName → Option Value} {mg mb : Str → Option Value} : ∀ (s : Shared) (Q E : Value → Shared → Prop) (l : Addr) (vs : List Value) (ns : List Int), (KF w.params).In s.heap → s.heap.get? 797 = some tab0 → Top viewQ (looseW viewQ looseN) mean mg mb s.heap →
    s.gens = #[] → s.heap.IsList l vs.toArray → IntsAre vs ns → ns.length ≤ 63 →
    (∀ s' : Shared, (∀ b o, s.heap.get? b = some o → b ≠ 797 → s'.heap.get? b = some o) → JT s'.heap → AllBare s'.gens → s'.os = s.os → Q (.bool true) s') →
    wpAny (model PySem.Challenge.rw_oy0446_01.row.prog w) callerA (call (.ref 830) [.ref l]) Q E s := by
  k_with_none
  k_with "execs cons" => k_fold
  k_with "storeName" => ((with_reducible show wpAny _ _ (storeName _ _ (Value.int _ (_ + 1))) _ _ _); refine gen_int ?_; intro tkg)
  k_with "storeName" => ((with_reducible show wpAny _ _ (storeName _ _ (Value.str _ (_ + 1))) _ _ _); refine gen_str ?_; intro tkg)
  k_with "subscriptTail" => (k_here; k_dflt (refine' item_end ?kNw0 ?k0w0 ?k1w0 ?k2w0 ?_ ?k3w0; (case kNw0 => k_asm); (case k0w0 => k_mem); (case k1w0 => exact fmod_lo _ (by decide)); (case k2w0 => exact fmod_hi _ (by decide)); (case k3w0 => with_unfolding_all rfl); k_whole); intro e te he)
  k_with "subscriptTail" => (k_here; (have laidWx := laidW); clear laidWx; k_dflt (refine' item_ord ?kNw1 ?k0w1 ?k1w1 ?k2w1 ?_ ?k3w1; (case kNw1 => k_asm); (case k0w1 => k_mem); (case k1w1 => exact fmod_lo _ (by decide)); (case k2w1 => exact fmod_hi _ (by decide)); (case k3w1 => with_unfolding_all rfl); k_whole); intro undW undt hund; (obtain ⟨undv, undc, hundv⟩ := hund.last))
  k_with "subscriptTail" => (k_here; (fail_if_success (have laidWx := laidW)); k_dflt (refine' item_ord ?kNw2 ?k0w2 ?k1w2 ?k2w2 ?_ ?k3w2; (case kNw2 => k_asm); (case k0w2 => k_mem); (case k1w2 => exact fmod_lo _ (by decide)); (case k2w2 => exact fmod_hi _ (by decide)); (case k3w2 => with_unfolding_all rfl); k_whole); intro laidW laidt hlaid; (have hod4 := hlaid.len); (obtain ⟨laidc, hlaidc⟩ := hlaid.first))
  k_with "subscriptTail" => (k_here; k_dflt (refine' item_own ?kNw3 ?k0w3 ?k1w3 ?k2w3 ?_ ?k3w3; (case kNw3 => k_asm); (case k0w3 => k_mem); (case k1w3 => omega); (case k2w3 => omega); (case k3w3 => with_unfolding_all rfl); k_whole); intro tk9)
  k_with "eval BoolOp" => (k_here; k_dflt (refine' cut_bool (b := (laidc == 81 && undc == 83)) ?cutAw4 ?cutBw4; (case' cutBw4 => intro tkb)))
  k_with "subscriptTail Name Constant str int" => (k_here; k_dflt (refine' item_mk (ℓ := laidW) (k := 0) rfl hlaidc ?k1w5 ?_; (case k1w5 => (rw [hlaid.len]; decide)); k_whole); intro tk9 k9)
  k_with "subscriptTail Name UnaryOp str int" => (k_here; k_dflt (refine' item_mk_last (ℓ := undW) hundv ?k1w6 ?_; (case k1w6 => (rw [hund.len]; decide)); k_whole); intro tk9 k9)
  k_with "compareOp Eq str str" => (k_here; k_dflt (first | (refine' eq_one (c := 81) ?k1w7 ?_; (case k1w7 => decide); k_whole) | (refine' eq_one (c := 83) ?k1w7 ?_; (case k1w7 => decide); k_whole)))
  k_with "call builtin:sum" => (k_here; k_dflt (refine' sum_pick ?k0w8 ?k1w8 ?k2w8 ?k3w8 hi ?_; (case k0w8 => exact rfl); (case k1w8 => k_asm); (case k2w8 => k_asm); (case k3w8 => k_mem); k_whole); intro _ _ _ _ _)
  k_with "call ref" => (k_here; (with_reducible show wpAny _ _ (call (Value.ref 815) _) _ _ _); (rename IntsAre _ (List.map _ _) => hI9); k_dflt (refine' use_H (words_claim _ _ _ _ (laidc == 81 && undc == 83) hI9 ?k0w9) ?k1w9 ?k2w9 ?k3w9 ?k4w9 rfl ?k5w9 ?k6w9 ?_; (case k0w9 => (rw [List.length_map, rangeKs_length]; decide)); (case k1w9 => k_asm); (case k2w9 => k_asm); (case k3w9 => k_asm); (case k4w9 => k_asm); (case k5w9 => (simp only [depth_deeper, depth_caller]; decide)); (case k6w9 => exact (News.get (by k_asm) (by k_mem))); k_whole); rintro v9 h9 tk9 ⟨us, ⟨lw, wits, wn, rfl, hw1, hw2⟩, hok⟩ kk9 F9 N9)
  k_with "storeName" => (k_here; (have hwX := hw1); clear hwX; k_dflt (refine' store_w ?saw10 ?sbw10 ?sFw10 ?sNw10 hw1 ?_; (case saw10 => exact rfl); (case sbw10 => exact rfl); (case sFw10 => k_asm); (case sNw10 => k_asm); k_whole); clear hw1; intro h9b tk9b F9b N9b hw1)
  k_with "storeName" => (k_here; (have FX := F3); clear FX; k_dflt (refine' wpAny_storeName_local ?saw11 F3.ns (fun h₂ hn₂ hs₂ => ?_) ?sbw11; (case saw11 => exact rfl); (case sbw11 => exact rfl); k_whole))
  k_with "exec For Name Name cons nil" => (k_here; (fail_if_success (have q := hloop1)); (rename Fr _ _ _ _ => lF'); (rename News _ _ _ _ => lN'); k_dflt (refine' law_loop (g := g) (lw := lw) (wits := wits) (wn := wn) (os := s.os) (o := laidW) (fun i ts => LayAll (laidW.take i) us ts ∧ TOk (bnd i) ts) rfl rfl rfl ?ascw12 ?hitw12 ⟨rfl, .of_eq hg, jt_start (X'.keeps lF'.keep) (lN' (797, tab0) ?k797w12).1, hw1, lw, wits, wn, us, _, lF', rfl, fun _ _ _ => rfl, hw1, hw2, .nil, ⟨hok.signs, hok.len, hok.sum⟩⟩ ?turnw12 ?donew12 ?hsw12; (case hitw12 => exact ldE rfl rfl (by decide) lF' rfl ⟨⟨_, rfl⟩, rfl⟩); (case ascw12 => (intro c hc; rcases hlaid.all c hc with rfl | rfl <;> decide)); (case k797w12 => k_mem); (case hsw12 => (intro _; with_unfolding_all rfl)); (case' turnw12 => (clear lF' lN'; intro i c t lt its n ts I s' E' hci hIt hIL hIg hos hG hJ hw ht hts hP hF; obtain ⟨hLay, hTok⟩ := hP; (have hcc := hlaid.all c (List.mem_of_getElem? hci)); (have hib : i ≤ 4 := Nat.le_of_lt (hod4 ▸ (List.getElem?_eq_some_iff.mp hci).1)); (have hb4 := bnd_le i hib); (have hI7 := it_off hIt hJ); (have hN : News g L' s'.heap [] := News.nil); clear hw1)); (case' donew12 => (clear lF' lN'; intro s₂ hL2; (have hloop1 := True.intro); obtain ⟨os2, G2, J2, hw2b, lt2, its2, n2, ts2, m2, F2, hm1, hm2, hl2, hts2, hLay2, hTok2⟩ := hL2; clear hw1; (have F2b := F2); (rw [frame_two hm1 hm2] at F2b); clear F2; (have N2b : News g L' s₂.heap [] := News.nil)))))
  k_with "exec For Name Name cons nil" => (k_here; (have q := hloop1); clear q; k_dflt (refine' law_loop (g := g) (lw := lw) (wits := wits) (wn := wn) (os := s.os) (o := undW) (fun i ts => UndoS (undW.drop i) ts us ∧ UOk ts) rfl rfl rfl ?ascZw13 ?hitZw13 ⟨os2, G2, J2, hw2b, lt2, its2, n2, ts2, _, F2b, rfl, fun _ _ _ => rfl, hl2, hts2, ?hUZw13, ⟨hTok2.signs, Nat.le_trans hTok2.len (by decide), Nat.le_trans hTok2.sum (by rw [hlaid.len]; exact bnd_le 4 (Nat.le_refl _))⟩⟩ ?turnZw13 ?doneZw13 ?hsZw13; (case hitZw13 => exact ldE rfl rfl (by decide) F2b rfl ⟨⟨_, rfl⟩, rfl⟩); (case ascZw13 => (intro c hc; rcases hund.all c hc with rfl | rfl <;> decide)); (case hUZw13 => exact law_orders hlaid hund hlaidc hundv hok hLay2); (case hsZw13 => (intro _; with_unfolding_all rfl)); (case' turnZw13 => (clear F2b N2b; intro i c t lt its n ts I s' E' hci hIt hIL hIg hos hG hJ hw ht hts hP hF; obtain ⟨hU1, hUok⟩ := hP; (have hcc := hund.all c (List.mem_of_getElem? hci)); (have hU2 := hU1); (rw [drop_consT hci] at hU2); (have hN : News g L' s'.heap [] := News.nil))); (case' doneZw13 => (clear F2b N2b; intro s₄ hL4; obtain ⟨os4, G4, J4, hw4, lt4, its4, n4, ts4, m4, F4, hm41, hm42, hl4, hts4, hU4, hUok4⟩ := hL4; (rw [List.drop_length] at hU4); (have hU5 : ts4 = us := hU4); subst hU5; (have hl4' : s₄.heap.get? lt4 = some (listOf its4.toList.toArray n4) := by simpa using hl4); (have hw4' : s₄.heap.get? lw = some (listOf wits.toList.toArray wn) := by simpa using hw4); (have F4b := F4); (rw [frame_two hm41 hm42] at F4b); (have N4b : News g L' s₄.heap [] := News.nil)))))
  k_with "call ref" => (k_here; (with_reducible show wpAny _ _ (call (Value.ref 820) _) _ _ _); k_dflt (refine' call_laid (b := bnd i) rfl ?roomw14 ?Xw14 ?Tw14 hG hJ ht hts hcc ?M1w14 ?M2w14 he hTok hb4 ?_; (case roomw14 => (simp only [depth_deeper, depth_caller]; decide)); (case Xw14 => exact X'.keeps hF.keep); (case Tw14 => exact T'.keeps hF.keep); (case M1w14 => exact Int.le_add_of_nonneg_right (fmod_lo _ (by decide))); (case M2w14 => exact Int.le_of_lt_add_one (Int.add_lt_add_left (fmod_hi _ (by decide)) 10)); k_whole); intro D s₃ us3 hT3 hL3 kk3 J3 G3 os3; (have F3 := fr_but hF hJ hnone kk3); (have N3 : News g L' s₃.heap [] := News.nil); (have hw3 := kk3 _ _ hw (hJ.off hw (fun h => nomatch h))); (have kI3 : ∀ o, s'.heap.get? I = some o → s₃.heap.get? I = some o := fun o e => kk3 _ _ e hI7); clear hF hN)
  k_with "call ref" => (k_here; (with_reducible show wpAny _ _ (call (Value.ref 825) _) _ _ _); k_dflt (refine' call_taken rfl ?roomw15 ?Xw15 ?Tw15 (Below.pushX (below_caller g) hF ?hkw15) rfl rfl hF ht hts hcc hU2 hUok ?_; (case roomw15 => (simp only [depth_deeper, depth_caller]; decide)); (case Xw15 => exact X'.keeps hF.keep); (case Tw15 => exact T'.keeps hF.keep); (case hkw15 => exact rfl); k_whole); intro D h3 tk3 us3 hT3 hU3 hUok3 F3 kk3; (have N3 : News g L' h3 [] := News.nil); (have J3 := jt_frame hF hJ kk3); (have hw3 := kk3 _ _ hw (fr_off hF hw (fun es ep h => nomatch h))); (have kI3 : ∀ o, s'.heap.get? I = some o → h3.get? I = some o := fun o e => kk3 _ _ e hIL); clear hF hN)
  k_with "CutB" => first | exact ⟨and_t (by assumption), _, rfl⟩ | exact ⟨and_f (by assumption), _, rfl⟩ | exact ⟨and_n (by assumption), _, rfl⟩ | exact ⟨by simp_all, _, rfl⟩
  k_fill
  intro s Q E l vs ns X h797 T hg hl hi hn hret
  have lk := lk_830 w.params
  dsimp only [fa_830, fb_830, fs_830] at lk
  refine wpAny_call ?_
  refine' enter_freeC X T lk ?k7 ?k8 ?k9 ?kB ?kN ?_ ?c2 ?c3 ?c4
  case k7 => k_is
  case k8 => decide
  case k9 => rfl
  case kB => rfl
  case kN => decide
  case c2 => exact rfl
  case c3 => exact rfl
  case c4 => exact rfl
  intro L' h' tk' cells F0 N0 Y
  clear lk
  have kk : ∀ b o, s.heap.get? b = some o → b ≠ 797 → (hideAll s.heap [797]).get? b = some o := fun b o e hb => hideAll_get _ e (by simpa using hb)
  have F' : Fr (hideAll s.heap [797]) L' h' _ := ⟨F0.ns, fun b o e => F0.keep b o (of_hideAll _ e), by rw [hideAll_size]; exact F0.above⟩
  have hnone : (hideAll s.heap [797]).get? 797 = none := hideAll_none _ (by simp)
  have hne : (797 : Nat) ≠ L' := Nat.ne_of_lt (Nat.lt_of_lt_of_le (Heap.lt_size h797) F0.above)
  have N' : News (hideAll s.heap [797]) L' h' (cells ++ [(797, tab0)]) := fun p hp => by
    rcases List.mem_append.mp hp with hp | hp
    · refine ⟨(N0 p hp).1, (N0 p hp).2.1, ?_⟩
      cases q : (hideAll s.heap [797]).get? p.1 with
      | none => rfl
      | some o => have := of_hideAll _ q; rw [(N0 p hp).2.2] at this; cases this
    · rw [List.mem_singleton.mp hp]
      exact ⟨F0.keep _ _ h797, hne, hnone⟩
  have X' := in_but X kk
  have T' := top_but T X h797 kk
  have hl' : (hideAll s.heap [797]).IsList l vs.toArray := by
    obtain ⟨o, ho, hc, n, hd⟩ := hl
    refine ⟨o, kk _ _ ho ?_, hc, n, hd⟩
    rintro rfl
    rw [h797] at ho
    cases ho
    cases hc
  generalize hG : hideAll s.heap [797] = g at F' N' X' T' hl' kk hnone
  clear N0 F0 X T
  cases Y with
  | cons c1 Y =>
  cases Y with
  | cons c2 Y =>
  cases Y
  clear hl hne
  try dsimp only
  try k_fold
  k_steps
  all_goals (try k_data)
  all_goals try (first
    | exact law_fin (os3.trans hos) G3 J3 hw3 hT3 ⟨take_snoc hci ▸ hLay.snoc hL3, hTok.step hL3⟩ F3 (F3.set hn₂ hs₂) rfl (fun z h1 h2 => by simp [h1, h2]) hs₂ kI3 hIL
    | exact law_fin (s₃ := ⟨h3, _, _, _, _⟩) hos hG J3 hw3 hT3 ⟨hU3, hUok3⟩ F3 (F3.set hn₂ hs₂) rfl (fun z h1 h2 => by simp [h1, h2]) hs₂ kI3 hIL
    | fail "left")
  refine' eq_strs (xs := its4.toList) (ys := wits.toList) (zs := ts4.map mkS) ⟨_, hl4', rfl, n4, rfl⟩ ⟨_, hw4', rfl, wn, rfl⟩ hts4 hw2 (signs_ok hok.signs) ?huZ ?_
  case huZ => first | units_room | exact Nat.le_of_ble_eq_true rfl
  exact hret _ (fun b o e hb => F4.keep b o (kk b o e hb)) J4 G4 os4
end
end
section
open PySem PySem.W PyProof.Rows PySem.Spec PySem.Calls
theorem head2 {d : DefRec} {kwd : List (Str × Expr)} (hdef : defOf viewQ PySem.Challenge.rw_oy0446_01.row.name = some (d, kwd)) (hp : PySem.Challenge.rw_oy0446_01.row.prog.theDef PySem.Challenge.rw_oy0446_01.row.name = some (d.params, d.body, d.scope)) (hk : kwWritten? d.params.kwonlyargs d.params.kw_defaults = some kwd)
    (call : WalkO viewQ looseN (XL viewQ []) (Hook.says HK2) (OpenRow.toRowW (OpenLaw.row PySem.Challenge.rw_oy0446_01)) d kwd fun f vs => PySem.call f vs) : PySem.Challenge.rw_oy0446_01.Holds := by
  refine holds_law said fun said => ?_
  refine holds_open (q := viewQ) (loose := looseN) (Xt := XtQ) (XP := XL viewQ []) (Yf := Hook.obs HK2) (Ya := Hook.val HK2) (YP := Hook.says HK2) (N := 45000) left2 (Hook.of HK2) (Hook.keeps HK2) (fun s e => xl_of s (Bool.and_eq_true_iff.mp e).1) XL.keeps hdef hp hk (fun s e => recFacts_of (Bool.and_eq_true_iff.mp e).2) (by rfl) said (by decide +kernel) ⟨rfl, rfl, rfl, rfl, rfl, by decide +kernel⟩ ?hw call
  w_witness2
theorem in_KF {P : Params} {h : Heap} (X : (KG P).In h) : (KF P).In h := fun a o e => by
  by_cases ha : a = 797
  · subst ha
    have : (KF P).lookup 797 = none := by kernel_rfl
    rw [this] at e; cases e
  · refine X a o ?_
    show (match a == 797 with | true => some _ | false => (KF P).lookup a) = some o
    rw [beq_eq_false_iff_ne.mpr ha]
    exact e
theorem in_797 {P : Params} {h : Heap} (X : (KG P).In h) : h.get? 797 = some ⟨.none, none, .fields #[], #[]⟩ := X 797 _ (by kernel_rfl)
theorem old_law {P : Params} {h h' : Heap} (X : (KF P).In h) (h797 : h.get? 797 = some ⟨.none, none, .fields #[], #[]⟩) (k : ∀ b o, h.get? b = some o → b ≠ 797 → h'.get? b = some o) (J : JT h') : OldK h h' := by
  have J0 := jt_start X h797
  obtain ⟨_, _, ⟨c1, e1⟩, _⟩ := J0
  obtain ⟨_, ps, e2⟩ := J.code
  refine ⟨fun b o e => ?_, fun b o e => ?_⟩
  · by_cases hb : b = 797
    · subst hb
      rw [h797] at e; cases e
      rw [h797] at e1; cases e1
      have tt : h.TableAt 801 797 #[] := ⟨c1, h797⟩
      exact .inr (.inl ⟨tt.isCodeTable, rfl, #[], ps, rfl, by simpa using e2⟩)
    · exact .inl (k b o e hb)
  · by_cases hb : b = 797
    · subst hb; exact ⟨_, e2⟩
    · exact ⟨o, k b o e hb⟩
end
end Mine
open PySem PySem.W PyProof.Rows PySem.Spec PySem.Calls
set_option maxRecDepth 100000 in
set_option maxHeartbeats 1000000 in
theorem PySem.Challenge.cw_oy0446_01_holds : PySem.Challenge.rw_oy0446_01.Holds := by
  refine Mine.head2 (by rfl) (by rfl) (by rfl) ?_
  intro w s₀ s₁ mg mb G Y fa o pm cd doc dV kV ho hd hcd hD hmg hg args vals as hpre hlay hrd hwl hlo
  have KX := kIn_of Y
  have X := Mine.in_KF KX
  have h797 := Mine.in_797 KX
  refine Ground.open G ?_
  intro T B D TE TW
  have e1 := mg_of (n := Str.ofString "law") (v := .ref 830) X T.g (by kernel_rfl)
  have hfa : fa = 830 := Value.ref.inj (Option.some.inj (hmg.symm.trans e1))
  subst hfa
  wrow_args hpre hlay hrd hwl hlo
  refine Mine.law_core s₁ _ _ _ _ _ X h797 T hg (by assumption) (by assumption) (by omega) fun s' k J g os => ?_
  exact ⟨.inl ⟨_, .bool true, [], rfl, raisesW_false (by wrow_none_raised), .bool true, by wrow_post, unshared_nil⟩, Mine.old_law X h797 k J, os, g⟩
