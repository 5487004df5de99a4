import PyProof.Rows.All
import Wide.All
import OpenK.AllK
import Wide.FinOn
import PySem.Challenge.RW_wf0109_01
set_option Elab.async false
set_option maxRecDepth 100000
set_option maxHeartbeats 0
set_option linter.all false
set_option compiler.extract_closed false
namespace Mine
open PySem PySem.W PySem.Calls PyProof.Rows
noncomputable abbrev pw : Program := PySem.Challenge.pw_wf0109_01
noncomputable abbrev S (x : String) : Str := Str.ofString x
noncomputable def St (i : Nat) : Stmt := (pw.main.body.drop i).headD (.Pass default)
noncomputable def bodyOf : Stmt → List Stmt
  | .FunctionDef _ _ b .. => b
  | .ClassDef _ _ _ b .. => b
  | _ => []
noncomputable def Mt (j : Nat) : Stmt := ((bodyOf (St 18)).drop j).headD (.Pass default)
noncomputable def paramsOf : Stmt → Arguments
  | .FunctionDef _ a .. => a
  | _ => default
noncomputable def scopeOf : Stmt → Scope
  | .FunctionDef _ _ _ _ _ _ s .. => s
  | _ => default
noncomputable def assigned : Stmt → Expr
  | .Assign _ e _ => e
  | _ => default
noncomputable def dictKeys : Expr → List Int
  | .Dict ks _ _ => ks.filterMap fun k => match k with | some (.Constant (.int i) _ _) => some i | _ => none
  | _ => []
noncomputable def dictVals : Expr → List Str
  | .Dict _ vs _ => vs.filterMap fun v => match v with | .Constant (.str x) _ _ => some x | _ => none
  | _ => []
noncomputable def tabKeys : List Int := dictKeys (assigned (St 11))
noncomputable def tabVals : List Str := dictVals (assigned (St 11))
noncomputable def entryAt (n : Nat) (kv : Int × Str) : DictEntry := ⟨kv.1, .int kv.1 n, .str kv.2 (n + 1)⟩
noncomputable def tokAt (i : Nat) : Nat := if i < 646 then 416 + 3 * i else 2354 + 2 * (i - 646)
noncomputable def tabFrom : Nat → List (Int × Str) → List DictEntry
  | _, [] => []
  | i, kv :: r => entryAt (tokAt i) kv :: tabFrom (i + 1) r
noncomputable def tabEntries : List DictEntry := tabFrom 0 (tabKeys.zip tabVals)
noncomputable def tabPart (a : Nat) : Array DictEntry := (if a = 85 then tabEntries else (tabEntries.drop (17 * (a - 85))).take 17).toArray
noncomputable def o0 (P : Params) : Obj := ⟨.type "dict", none, .dict #[⟨(PyData.keyHash P (S "__name__")), .str (S "__name__") 1, .str (S "builtins") 160⟩, ⟨(PyData.keyHash P (S "__doc__")), .str (S "__doc__") 2, .builtin "builtins.__doc__:str#opaque"⟩, ⟨(PyData.keyHash P (S "__package__")), .str (S "__package__") 3, .builtin "builtins.__package__:str#opaque"⟩, ⟨(PyData.keyHash P (S "__loader__")), .str (S "__loader__") 4, .builtin "builtins.__loader__:shared#opaque"⟩, ⟨(PyData.keyHash P (S "__spec__")), .str (S "__spec__") 5, .builtin "builtins.__spec__#opaque"⟩, ⟨(PyData.keyHash P (S "__build_class__")), .str (S "__build_class__") 6, .builtin "__build_class__"⟩, ⟨(PyData.keyHash P (S "__\x69mport__")), .str (S "__\x69mport__") 7, .builtin "__\x69mport__"⟩, ⟨(PyData.keyHash P (S "abs")), .str (S "abs") 8, .builtin "abs"⟩, ⟨(PyData.keyHash P (S "all")), .str (S "all") 9, .builtin "all"⟩, ⟨(PyData.keyHash P (S "any")), .str (S "any") 10, .builtin "any"⟩, ⟨(PyData.keyHash P (S "ascii")), .str (S "ascii") 11, .builtin "ascii"⟩, ⟨(PyData.keyHash P (S "bin")), .str (S "bin") 12, .builtin "bin"⟩, ⟨(PyData.keyHash P (S "breakpoint")), .str (S "breakpoint") 13, .builtin "breakpoint"⟩, ⟨(PyData.keyHash P (S "callable")), .str (S "callable") 14, .builtin "callable"⟩, ⟨(PyData.keyHash P (S "chr")), .str (S "chr") 15, .builtin "chr"⟩, ⟨(PyData.keyHash P (S "compile")), .str (S "compile") 16, .builtin "compile"⟩, ⟨(PyData.keyHash P (S "delattr")), .str (S "delattr") 17, .builtin "delattr"⟩, ⟨(PyData.keyHash P (S "dir")), .str (S "dir") 18, .builtin "dir"⟩, ⟨(PyData.keyHash P (S "divmod")), .str (S "divmod") 19, .builtin "divmod"⟩, ⟨(PyData.keyHash P (S "eval")), .str (S "eval") 20, .builtin "eval"⟩, ⟨(PyData.keyHash P (S "exec")), .str (S "exec") 21, .builtin "exec"⟩, ⟨(PyData.keyHash P (S "format")), .str (S "format") 22, .builtin "format"⟩, ⟨(PyData.keyHash P (S "getattr")), .str (S "getattr") 23, .builtin "getattr"⟩, ⟨(PyData.keyHash P (S "globals")), .str (S "globals") 24, .builtin "globals"⟩, ⟨(PyData.keyHash P (S "hasattr")), .str (S "hasattr") 25, .builtin "hasattr"⟩, ⟨(PyData.keyHash P (S "hash")), .str (S "hash") 26, .builtin "hash"⟩, ⟨(PyData.keyHash P (S "hex")), .str (S "hex") 27, .builtin "hex"⟩, ⟨(PyData.keyHash P (S "id")), .str (S "id") 28, .builtin "id"⟩, ⟨(PyData.keyHash P (S "input")), .str (S "input") 29, .builtin "input"⟩, ⟨(PyData.keyHash P (S "isinstance")), .str (S "isinstance") 30, .builtin "isinstance"⟩, ⟨(PyData.keyHash P (S "issubclass")), .str (S "issubclass") 31, .builtin "issubclass"⟩, ⟨(PyData.keyHash P (S "iter")), .str (S "iter") 32, .builtin "iter"⟩, ⟨(PyData.keyHash P (S "aiter")), .str (S "aiter") 33, .builtin "aiter"⟩, ⟨(PyData.keyHash P (S "len")), .str (S "len") 34, .builtin "len"⟩, ⟨(PyData.keyHash P (S "locals")), .str (S "locals") 35, .builtin "locals"⟩, ⟨(PyData.keyHash P (S "max")), .str (S "max") 36, .builtin "max"⟩, ⟨(PyData.keyHash P (S "min")), .str (S "min") 37, .builtin "min"⟩, ⟨(PyData.keyHash P (S "next")), .str (S "next") 38, .builtin "next"⟩, ⟨(PyData.keyHash P (S "anext")), .str (S "anext") 39, .builtin "anext"⟩, ⟨(PyData.keyHash P (S "oct")), .str (S "oct") 40, .builtin "oct"⟩, ⟨(PyData.keyHash P (S "ord")), .str (S "ord") 41, .builtin "ord"⟩, ⟨(PyData.keyHash P (S "pow")), .str (S "pow") 42, .builtin "pow"⟩, ⟨(PyData.keyHash P (S "print")), .str (S "print") 43, .builtin "print"⟩, ⟨(PyData.keyHash P (S "repr")), .str (S "repr") 44, .builtin "repr"⟩, ⟨(PyData.keyHash P (S "round")), .str (S "round") 45, .builtin "round"⟩, ⟨(PyData.keyHash P (S "setattr")), .str (S "setattr") 46, .builtin "setattr"⟩, ⟨(PyData.keyHash P (S "sorted")), .str (S "sorted") 47, .builtin "sorted"⟩, ⟨(PyData.keyHash P (S "sum")), .str (S "sum") 48, .builtin "sum"⟩, ⟨(PyData.keyHash P (S "vars")), .str (S "vars") 49, .builtin "vars"⟩, ⟨(PyData.keyHash P (S "None")), .str (S "None") 50, .none⟩, ⟨(PyData.keyHash P (S "Ellipsis")), .str (S "Ellipsis") 51, .ellipsis⟩, ⟨(PyData.keyHash P (S "NotImplemented")), .str (S "NotImplemented") 52, .notImplemented⟩, ⟨(PyData.keyHash P (S "False")), .str (S "False") 53, .bool false⟩, ⟨(PyData.keyHash P (S "True")), .str (S "True") 54, .bool true⟩, ⟨(PyData.keyHash P (S "bool")), .str (S "bool") 55, .type "bool"⟩, ⟨(PyData.keyHash P (S "memoryview")), .str (S "memoryview") 56, .type "memoryview"⟩, ⟨(PyData.keyHash P (S "bytearray")), .str (S "bytearray") 57, .type "bytearray"⟩, ⟨(PyData.keyHash P (S "bytes")), .str (S "bytes") 58, .type "bytes"⟩, ⟨(PyData.keyHash P (S "classmethod")), .str (S "classmethod") 59, .type "classmethod"⟩, ⟨(PyData.keyHash P (S "complex")), .str (S "complex") 60, .type "complex"⟩, ⟨(PyData.keyHash P (S "dict")), .str (S "dict") 61, .type "dict"⟩, ⟨(PyData.keyHash P (S "enumerate")), .str (S "enumerate") 62, .type "enumerate"⟩, ⟨(PyData.keyHash P (S "filter")), .str (S "filter") 63, .type "filter"⟩, ⟨(PyData.keyHash P (S "float")), .str (S "float") 64, .type "float"⟩, ⟨(PyData.keyHash P (S "frozenset")), .str (S "frozenset") 65, .type "frozenset"⟩, ⟨(PyData.keyHash P (S "property")), .str (S "property") 66, .type "property"⟩, ⟨(PyData.keyHash P (S "int")), .str (S "int") 67, .type "int"⟩, ⟨(PyData.keyHash P (S "list")), .str (S "list") 68, .type "list"⟩, ⟨(PyData.keyHash P (S "map")), .str (S "map") 69, .type "map"⟩, ⟨(PyData.keyHash P (S "object")), .str (S "object") 70, .type "object"⟩, ⟨(PyData.keyHash P (S "range")), .str (S "range") 71, .type "range"⟩, ⟨(PyData.keyHash P (S "reversed")), .str (S "reversed") 72, .type "reversed"⟩, ⟨(PyData.keyHash P (S "set")), .str (S "set") 73, .type "set"⟩, ⟨(PyData.keyHash P (S "slice")), .str (S "slice") 74, .type "slice"⟩, ⟨(PyData.keyHash P (S "staticmethod")), .str (S "staticmethod") 75, .type "staticmethod"⟩, ⟨(PyData.keyHash P (S "str")), .str (S "str") 76, .type "str"⟩, ⟨(PyData.keyHash P (S "super")), .str (S "super") 77, .type "super"⟩, ⟨(PyData.keyHash P (S "tuple")), .str (S "tuple") 78, .type "tuple"⟩, ⟨(PyData.keyHash P (S "type")), .str (S "type") 79, .type "type"⟩, ⟨(PyData.keyHash P (S "zip")), .str (S "zip") 80, .type "zip"⟩, ⟨(PyData.keyHash P (S "__debug__")), .str (S "__debug__") 81, .bool true⟩, ⟨(PyData.keyHash P (S "BaseException")), .str (S "BaseException") 82, .type "BaseException"⟩, ⟨(PyData.keyHash P (S "BaseExceptionGroup")), .str (S "BaseExceptionGroup") 83, .type "BaseExceptionGroup"⟩, ⟨(PyData.keyHash P (S "Exception")), .str (S "Exception") 84, .type "Exception"⟩, ⟨(PyData.keyHash P (S "GeneratorExit")), .str (S "GeneratorExit") 85, .type "GeneratorExit"⟩, ⟨(PyData.keyHash P (S "KeyboardInterrupt")), .str (S "KeyboardInterrupt") 86, .type "KeyboardInterrupt"⟩, ⟨(PyData.keyHash P (S "SystemExit")), .str (S "SystemExit") 87, .type "SystemExit"⟩, ⟨(PyData.keyHash P (S "ArithmeticError")), .str (S "ArithmeticError") 88, .type "ArithmeticError"⟩, ⟨(PyData.keyHash P (S "AssertionError")), .str (S "AssertionError") 89, .type "AssertionError"⟩, ⟨(PyData.keyHash P (S "AttributeError")), .str (S "AttributeError") 90, .type "AttributeError"⟩, ⟨(PyData.keyHash P (S "BufferError")), .str (S "BufferError") 91, .type "BufferError"⟩, ⟨(PyData.keyHash P (S "EOFError")), .str (S "EOFError") 92, .type "EOFError"⟩, ⟨(PyData.keyHash P (S "ImportError")), .str (S "ImportError") 93, .type "ImportError"⟩, ⟨(PyData.keyHash P (S "LookupError")), .str (S "LookupError") 94, .type "LookupError"⟩, ⟨(PyData.keyHash P (S "MemoryError")), .str (S "MemoryError") 95, .type "MemoryError"⟩, ⟨(PyData.keyHash P (S "NameError")), .str (S "NameError") 96, .type "NameError"⟩, ⟨(PyData.keyHash P (S "OSError")), .str (S "OSError") 97, .type "OSError"⟩, ⟨(PyData.keyHash P (S "ReferenceError")), .str (S "ReferenceError") 98, .type "ReferenceError"⟩, ⟨(PyData.keyHash P (S "RuntimeError")), .str (S "RuntimeError") 99, .type "RuntimeError"⟩, ⟨(PyData.keyHash P (S "StopAsyncIteration")), .str (S "StopAsyncIteration") 100, .type "StopAsyncIteration"⟩, ⟨(PyData.keyHash P (S "StopIteration")), .str (S "StopIteration") 101, .type "StopIteration"⟩, ⟨(PyData.keyHash P (S "SyntaxError")), .str (S "SyntaxError") 102, .type "SyntaxError"⟩, ⟨(PyData.keyHash P (S "SystemError")), .str (S "SystemError") 103, .type "SystemError"⟩, ⟨(PyData.keyHash P (S "TypeError")), .str (S "TypeError") 104, .type "TypeError"⟩, ⟨(PyData.keyHash P (S "ValueError")), .str (S "ValueError") 105, .type "ValueError"⟩, ⟨(PyData.keyHash P (S "Warning")), .str (S "Warning") 106, .type "Warning"⟩, ⟨(PyData.keyHash P (S "FloatingPointError")), .str (S "FloatingPointError") 107, .type "FloatingPointError"⟩, ⟨(PyData.keyHash P (S "OverflowError")), .str (S "OverflowError") 108, .type "OverflowError"⟩, ⟨(PyData.keyHash P (S "ZeroDivisionError")), .str (S "ZeroDivisionError") 109, .type "ZeroDivisionError"⟩, ⟨(PyData.keyHash P (S "BytesWarning")), .str (S "BytesWarning") 110, .type "BytesWarning"⟩, ⟨(PyData.keyHash P (S "DeprecationWarning")), .str (S "DeprecationWarning") 111, .type "DeprecationWarning"⟩, ⟨(PyData.keyHash P (S "EncodingWarning")), .str (S "EncodingWarning") 112, .type "EncodingWarning"⟩, ⟨(PyData.keyHash P (S "FutureWarning")), .str (S "FutureWarning") 113, .type "FutureWarning"⟩, ⟨(PyData.keyHash P (S "ImportWarning")), .str (S "ImportWarning") 114, .type "ImportWarning"⟩, ⟨(PyData.keyHash P (S "PendingDeprecationWarning")), .str (S "PendingDeprecationWarning") 115, .type "PendingDeprecationWarning"⟩, ⟨(PyData.keyHash P (S "ResourceWarning")), .str (S "ResourceWarning") 116, .type "ResourceWarning"⟩, ⟨(PyData.keyHash P (S "RuntimeWarning")), .str (S "RuntimeWarning") 117, .type "RuntimeWarning"⟩, ⟨(PyData.keyHash P (S "SyntaxWarning")), .str (S "SyntaxWarning") 118, .type "SyntaxWarning"⟩, ⟨(PyData.keyHash P (S "UnicodeWarning")), .str (S "UnicodeWarning") 119, .type "UnicodeWarning"⟩, ⟨(PyData.keyHash P (S "UserWarning")), .str (S "UserWarning") 120, .type "UserWarning"⟩, ⟨(PyData.keyHash P (S "BlockingIOError")), .str (S "BlockingIOError") 121, .type "BlockingIOError"⟩, ⟨(PyData.keyHash P (S "ChildProcessError")), .str (S "ChildProcessError") 122, .type "ChildProcessError"⟩, ⟨(PyData.keyHash P (S "ConnectionError")), .str (S "ConnectionError") 123, .type "ConnectionError"⟩, ⟨(PyData.keyHash P (S "FileExistsError")), .str (S "FileExistsError") 124, .type "FileExistsError"⟩, ⟨(PyData.keyHash P (S "FileNotFoundError")), .str (S "FileNotFoundError") 125, .type "FileNotFoundError"⟩, ⟨(PyData.keyHash P (S "InterruptedError")), .str (S "InterruptedError") 126, .type "InterruptedError"⟩, ⟨(PyData.keyHash P (S "IsADirectoryError")), .str (S "IsADirectoryError") 127, .type "IsADirectoryError"⟩, ⟨(PyData.keyHash P (S "NotADirectoryError")), .str (S "NotADirectoryError") 128, .type "NotADirectoryError"⟩, ⟨(PyData.keyHash P (S "PermissionError")), .str (S "PermissionError") 129, .type "PermissionError"⟩, ⟨(PyData.keyHash P (S "ProcessLookupError")), .str (S "ProcessLookupError") 130, .type "ProcessLookupError"⟩, ⟨(PyData.keyHash P (S "TimeoutError")), .str (S "TimeoutError") 131, .type "TimeoutError"⟩, ⟨(PyData.keyHash P (S "IndentationError")), .str (S "IndentationError") 132, .type "IndentationError"⟩, ⟨(PyData.keyHash P (S "_IncompleteInputError")), .str (S "_IncompleteInputError") 133, .type "_IncompleteInputError"⟩, ⟨(PyData.keyHash P (S "IndexError")), .str (S "IndexError") 134, .type "IndexError"⟩, ⟨(PyData.keyHash P (S "KeyError")), .str (S "KeyError") 135, .type "KeyError"⟩, ⟨(PyData.keyHash P (S "ModuleNotFoundError")), .str (S "ModuleNotFoundError") 136, .type "ModuleNotFoundError"⟩, ⟨(PyData.keyHash P (S "NotImplementedError")), .str (S "NotImplementedError") 137, .type "NotImplementedError"⟩, ⟨(PyData.keyHash P (S "PythonFinalizationError")), .str (S "PythonFinalizationError") 138, .type "PythonFinalizationError"⟩, ⟨(PyData.keyHash P (S "RecursionError")), .str (S "RecursionError") 139, .type "RecursionError"⟩, ⟨(PyData.keyHash P (S "UnboundLocalError")), .str (S "UnboundLocalError") 140, .type "UnboundLocalError"⟩, ⟨(PyData.keyHash P (S "UnicodeError")), .str (S "UnicodeError") 141, .type "UnicodeError"⟩, ⟨(PyData.keyHash P (S "BrokenPipeError")), .str (S "BrokenPipeError") 142, .type "BrokenPipeError"⟩, ⟨(PyData.keyHash P (S "ConnectionAbortedError")), .str (S "ConnectionAbortedError") 143, .type "ConnectionAbortedError"⟩, ⟨(PyData.keyHash P (S "ConnectionRefusedError")), .str (S "ConnectionRefusedError") 144, .type "ConnectionRefusedError"⟩, ⟨(PyData.keyHash P (S "ConnectionResetError")), .str (S "ConnectionResetError") 145, .type "ConnectionResetError"⟩, ⟨(PyData.keyHash P (S "TabError")), .str (S "TabError") 146, .type "TabError"⟩, ⟨(PyData.keyHash P (S "UnicodeDecodeError")), .str (S "UnicodeDecodeError") 147, .type "UnicodeDecodeError"⟩, ⟨(PyData.keyHash P (S "UnicodeEncodeError")), .str (S "UnicodeEncodeError") 148, .type "UnicodeEncodeError"⟩, ⟨(PyData.keyHash P (S "UnicodeTranslateError")), .str (S "UnicodeTranslateError") 149, .type "UnicodeTranslateError"⟩, ⟨(PyData.keyHash P (S "ExceptionGroup")), .str (S "ExceptionGroup") 150, .type "ExceptionGroup"⟩, ⟨(PyData.keyHash P (S "EnvironmentError")), .str (S "EnvironmentError") 151, .type "OSError"⟩, ⟨(PyData.keyHash P (S "IOError")), .str (S "IOError") 152, .type "OSError"⟩, ⟨(PyData.keyHash P (S "open")), .str (S "open") 153, .builtin "open"⟩, ⟨(PyData.keyHash P (S "quit")), .str (S "quit") 154, .builtin "builtins.quit#opaque"⟩, ⟨(PyData.keyHash P (S "exit")), .str (S "exit") 155, .builtin "builtins.exit#opaque"⟩, ⟨(PyData.keyHash P (S "copyright")), .str (S "copyright") 156, .builtin "builtins.copyright#opaque"⟩, ⟨(PyData.keyHash P (S "credits")), .str (S "credits") 157, .builtin "builtins.credits#opaque"⟩, ⟨(PyData.keyHash P (S "license")), .str (S "license") 158, .builtin "builtins.license#opaque"⟩, ⟨(PyData.keyHash P (S "help")), .str (S "help") 159, .builtin "builtins.help#opaque"⟩] 159, #[]⟩
noncomputable def o1 (P : Params) : Obj := ⟨.type "dict", none, .dict #[⟨(PyData.keyHash P (S "builtins")), .str (S "builtins") 162, .ref 4⟩, ⟨(PyData.keyHash P (S "__main__")), .str (S "__main__") 163, .ref 5⟩, ⟨(PyData.keyHash P (S "_sre")), .str (S "_sre") 244, .ref 12⟩] 3, #[]⟩
noncomputable def o2 (P : Params) : Obj := ⟨.none, none, .dict #[⟨(PyData.keyHash P (S "\x69mport.loaded._sre")), .str (S "\x69mport.loaded._sre") 183, .bool true⟩, ⟨(PyData.keyHash P (S "class._frozen_importlib.BuiltinImporter")), .str (S "class._frozen_importlib.BuiltinImporter") 185, .ref 14⟩, ⟨(PyData.keyHash P (S "watched.\x69mport")), .str (S "watched.\x69mport") 206, .ref 18⟩, ⟨(PyData.keyHash P (S "class._frozen_importlib.ModuleSpec")), .str (S "class._frozen_importlib.ModuleSpec") 216, .ref 22⟩, ⟨(PyData.keyHash P (S "sys.modules.booked-epoch")), .str (S "sys.modules.booked-epoch") 245, .int 3 0⟩, ⟨(PyData.keyHash P (S "\x69mport.later-laid._sre")), .str (S "\x69mport.later-laid._sre") 270, .bool true⟩, ⟨(PyData.keyHash P (S "watched.library")), .str (S "watched.library") 272, .ref 27⟩, ⟨(PyData.keyHash P (S "watched.library-objects")), .str (S "watched.library-objects") 0, .str (S "\x0c") 0⟩, ⟨(PyData.keyHash P (S "watched.library-deep._sre")), .str (S "watched.library-deep._sre") 273, .str (S "\x04\x00\x00\x0b\x04\x00\x00\x0b\x04\x00\x00\x03\x04\x00\x00\x0b\x08\x04dict\x02") 0⟩] 9, #[]⟩
noncomputable def o3_sZ (P : Params) : Obj := ⟨.type "dict", none, .dict #[⟨(PyData.keyHash P (S "__name__")), .str (S "__name__") 165, .str (S "__main__") 164⟩, ⟨(PyData.keyHash P (S "__doc__")), .str (S "__doc__") 166, .none⟩, ⟨(PyData.keyHash P (S "__package__")), .str (S "__package__") 167, .none⟩, ⟨(PyData.keyHash P (S "__loader__")), .str (S "__loader__") 168, .builtin "__main__.__loader__#opaque"⟩, ⟨(PyData.keyHash P (S "__spec__")), .str (S "__spec__") 169, .none⟩, ⟨(PyData.keyHash P (S "__annotations__")), .str (S "__annotations__") 170, .ref 6⟩, ⟨(PyData.keyHash P (S "__builtins__")), .str (S "__builtins__") 171, .ref 4⟩, ⟨(PyData.keyHash P (S "__file__")), .str (S "__file__") 173, .str (S "/claim/cut.py") 172⟩, ⟨(PyData.keyHash P (S "__cached__")), .str (S "__cached__") 174, .none⟩, ⟨(PyData.keyHash P (S "_sre")), .str (S "_sre") 275, .ref 12⟩] 10, #[]⟩
noncomputable def o4 (P : Params) : Obj := ⟨.type "module", (some 0), .plain, #[]⟩
noncomputable def o5 (P : Params) : Obj := ⟨.type "module", (some 3), .plain, #[]⟩
noncomputable def o6 (P : Params) : Obj := ⟨.type "dict", none, .dict #[] 0, #[]⟩
noncomputable def o7 (P : Params) : Obj := ⟨.type "tuple", none, .seq #[] 0, #[]⟩
noncomputable def o8 (P : Params) : Obj := ⟨.none, none, .fields #[], #[]⟩
noncomputable def o9 (P : Params) : Obj := ⟨.type "code", none, .fields #[.str (S "<module>") 176, .str (S "<module>") 177, .str (S "/claim/cut.py") 178, .int 1 0, .int 0 0, .int 0 0, .int 0 0, .int 0 0, .ref 7, .bool false, .int 175 0, .ref 8, .none, .none, .none, .none, .int 179 0, .int 1 0, .str (S "/claim/cut.py") 180], #[]⟩
noncomputable def o10 (P : Params) : Obj := ⟨.type "frame", none, .plain, #[(some (.ref 9)), (some (.ref 3)), (some (.ref 3)), none, (some (.str (S "__main__") 164)), none, (some (.ref 0))]⟩
noncomputable def o11_sZ (P : Params) : Obj := ⟨.type "dict", none, .dict #[⟨(PyData.keyHash P (S "__name__")), .str (S "__name__") 247, .str (S "_sre") 246⟩, ⟨(PyData.keyHash P (S "__doc__")), .str (S "__doc__") 248, .none⟩, ⟨(PyData.keyHash P (S "__package__")), .str (S "__package__") 250, .str (S "") 249⟩, ⟨(PyData.keyHash P (S "__loader__")), .str (S "__loader__") 251, .ref 14⟩, ⟨(PyData.keyHash P (S "__spec__")), .str (S "__spec__") 252, .ref 26⟩, ⟨(PyData.keyHash P (S "compile")), .str (S "compile") 253, .builtin "_sre.compile"⟩, ⟨(PyData.keyHash P (S "template")), .str (S "template") 254, .builtin "_sre.template"⟩, ⟨(PyData.keyHash P (S "getcodesize")), .str (S "getcodesize") 255, .builtin "_sre.getcodesize"⟩, ⟨(PyData.keyHash P (S "ascii_iscased")), .str (S "ascii_iscased") 256, .builtin "_sre.ascii_iscased"⟩, ⟨(PyData.keyHash P (S "unicode_iscased")), .str (S "unicode_iscased") 257, .builtin "_sre.unicode_iscased"⟩, ⟨(PyData.keyHash P (S "ascii_tolower")), .str (S "ascii_tolower") 258, .builtin "_sre.ascii_tolower"⟩, ⟨(PyData.keyHash P (S "unicode_tolower")), .str (S "unicode_tolower") 259, .builtin "_sre.unicode_tolower"⟩, ⟨(PyData.keyHash P (S "MAGIC")), .str (S "MAGIC") 261, .int 20230612 260⟩, ⟨(PyData.keyHash P (S "CODESIZE")), .str (S "CODESIZE") 263, .int 4 262⟩, ⟨(PyData.keyHash P (S "MAXREPEAT")), .str (S "MAXREPEAT") 265, .int 4294967295 264⟩, ⟨(PyData.keyHash P (S "MAXGROUPS")), .str (S "MAXGROUPS") 267, .int 1073741823 266⟩, ⟨(PyData.keyHash P (S "copyright")), .str (S "copyright") 269, .str (S " SRE 2.2.2 Copyright (c) 1997-2002 by Secret Labs AB ") 268⟩] 17, #[]⟩
noncomputable def o12 (P : Params) : Obj := ⟨.type "module", (some 11), .plain, #[]⟩
noncomputable def o13 (P : Params) : Obj := ⟨.type "dict", none, .dict #[⟨(PyData.keyHash P (S "__module__")), .str (S "__module__") 189, .str (S "_frozen_importlib") 186⟩, ⟨(PyData.keyHash P (S "__firstlineno__")), .str (S "__firstlineno__") 190, .int 971 187⟩, ⟨(PyData.keyHash P (S "__doc__")), .str (S "__doc__") 191, .builtin "_frozen_importlib.BuiltinImporter.__doc__:str#opaque"⟩, ⟨(PyData.keyHash P (S "_ORIGIN")), .str (S "_ORIGIN") 192, .str (S "built-in") 188⟩, ⟨(PyData.keyHash P (S "find_spec")), .str (S "find_spec") 193, .builtin "_frozen_importlib.BuiltinImporter.find_spec#opaque"⟩, ⟨(PyData.keyHash P (S "create_module")), .str (S "create_module") 194, .builtin "_frozen_importlib.BuiltinImporter.create_module#opaque"⟩, ⟨(PyData.keyHash P (S "exec_module")), .str (S "exec_module") 195, .builtin "_frozen_importlib.BuiltinImporter.exec_module#opaque"⟩, ⟨(PyData.keyHash P (S "get_code")), .str (S "get_code") 196, .builtin "_frozen_importlib.BuiltinImporter.get_code#opaque"⟩, ⟨(PyData.keyHash P (S "get_source")), .str (S "get_source") 197, .builtin "_frozen_importlib.BuiltinImporter.get_source#opaque"⟩, ⟨(PyData.keyHash P (S "is_package")), .str (S "is_package") 198, .builtin "_frozen_importlib.BuiltinImporter.is_package#opaque"⟩, ⟨(PyData.keyHash P (S "load_module")), .str (S "load_module") 199, .builtin "_frozen_importlib.BuiltinImporter.load_module#opaque"⟩, ⟨(PyData.keyHash P (S "__static_attributes__")), .str (S "__static_attributes__") 200, .ref 15⟩, ⟨(PyData.keyHash P (S "__dict__")), .str (S "__dict__") 202, .ref 16⟩, ⟨(PyData.keyHash P (S "__weakref__")), .str (S "__weakref__") 204, .ref 17⟩] 14, #[]⟩
noncomputable def o14 (P : Params) : Obj := ⟨.type "type", none, .cls { name := (S "BuiltinImporter"), bases := [.type "object"], mro := [.ref 14, .type "object"], ns := 13, qualname := (S "BuiltinImporter"), hasDict := true, slotNames := [], subclasses := [], abstract := false, collection := none, hasDel := false }, #[]⟩
noncomputable def o15 (P : Params) : Obj := ⟨.type "tuple", none, .seq #[] 0, #[]⟩
noncomputable def o16 (P : Params) : Obj := ⟨.type "getset_descriptor", none, .fields #[.str (S "__dict__") 201, .ref 14, .builtin "function.__dict__", .builtin "function.__dict__#set"], #[]⟩
noncomputable def o17 (P : Params) : Obj := ⟨.type "getset_descriptor", none, .fields #[.str (S "__weakref__") 203, .ref 14, .builtin "ExceptionGroup.__weakref__", .none], #[]⟩
noncomputable def o18 (P : Params) : Obj := ⟨.none, none, .seq #[.int 13 0, .str (S "\x06½\x0a__module__\x06º\x11_frozen_importlib\x06¾\x0f__firstlineno__\x04»\x00ϋ\x06¿\x07__doc__\x094_frozen_importlib.BuiltinImporter.__doc__:str#opaque\x06À\x07_ORIGIN\x06¼\x08built-in\x06Á\x09find_spec\x092_frozen_importlib.BuiltinImporter.find_spec#opaque\x06Â\x0dcreate_module\x096_frozen_importlib.BuiltinImporter.create_module#opaque\x06Ã\x0bexec_module\x094_frozen_importlib.BuiltinImporter.exec_module#opaque\x06Ä\x08get_code\x091_frozen_importlib.BuiltinImporter.get_code#opaque\x06Å\x0aget_source\x093_frozen_importlib.BuiltinImporter.get_source#opaque\x06Æ\x0ais_package\x093_frozen_importlib.BuiltinImporter.is_package#opaque\x06Ç\x0bload_module\x094_frozen_importlib.BuiltinImporter.load_module#opaque\x06È\x15__static_attributes__\x04\x00\x00\x0f\x06Ê\x08__dict__\x04\x00\x00\x10\x06Ì\x0b__weakref__\x04\x00\x00\x11") 0, .bool true, .bool true, .str (S "") 205, .int 21 0, .str (S "\x06ã\x0a__module__\x06Ù\x11_frozen_importlib\x06ä\x0f__firstlineno__\x04Ú\x00Ȳ\x06å\x07__doc__\x09/_frozen_importlib.ModuleSpec.__doc__:str#opaque\x06æ\x08__init__\x09,_frozen_importlib.ModuleSpec.__init__#opaque\x06ç\x08__repr__\x09,_frozen_importlib.ModuleSpec.__repr__#opaque\x06è\x06__eq__\x09*_frozen_importlib.ModuleSpec.__eq__#opaque\x06é\x06cached\x09*_frozen_importlib.ModuleSpec.cached#opaque\x06ê\x06parent\x09*_frozen_importlib.ModuleSpec.parent#opaque\x06ë\x0chas_location\x090_frozen_importlib.ModuleSpec.has_location#opaque\x06ì\x15__static_attributes__\x04\x00\x00\x17\x06î\x08__dict__\x04\x00\x00\x18\x06ð\x0b__weakref__\x04\x00\x00\x19\x06ñ\x08__hash__\x00") 0, .bool true, .bool true, .str (S "") 242] 1, #[]⟩
noncomputable def o19 (P : Params) : Obj := ⟨.type "list", none, .seq #[] 0, #[]⟩
noncomputable def o20 (P : Params) : Obj := ⟨.type "dict", none, .dict #[⟨(PyData.keyHash P (S "name")), .str (S "name") 208, .str (S "_sre") 207⟩, ⟨(PyData.keyHash P (S "loader")), .str (S "loader") 209, .ref 14⟩, ⟨(PyData.keyHash P (S "origin")), .str (S "origin") 210, .str (S "built-in") 184⟩, ⟨(PyData.keyHash P (S "loader_state")), .str (S "loader_state") 211, .none⟩, ⟨(PyData.keyHash P (S "submodule_search_locations")), .str (S "submodule_search_locations") 212, .none⟩, ⟨(PyData.keyHash P (S "_uninitialized_submodules")), .str (S "_uninitialized_submodules") 213, .ref 19⟩, ⟨(PyData.keyHash P (S "_set_fileattr")), .str (S "_set_fileattr") 214, .bool false⟩, ⟨(PyData.keyHash P (S "_cached")), .str (S "_cached") 215, .none⟩, ⟨(PyData.keyHash P (S "_initializing")), .str (S "_initializing") 243, .bool false⟩] 9, #[]⟩
noncomputable def o21 (P : Params) : Obj := ⟨.type "dict", none, .dict #[⟨(PyData.keyHash P (S "__module__")), .str (S "__module__") 227, .str (S "_frozen_importlib") 217⟩, ⟨(PyData.keyHash P (S "__firstlineno__")), .str (S "__firstlineno__") 228, .int 562 218⟩, ⟨(PyData.keyHash P (S "__doc__")), .str (S "__doc__") 229, .builtin "_frozen_importlib.ModuleSpec.__doc__:str#opaque"⟩, ⟨(PyData.keyHash P (S "__init__")), .str (S "__init__") 230, .builtin "_frozen_importlib.ModuleSpec.__init__#opaque"⟩, ⟨(PyData.keyHash P (S "__repr__")), .str (S "__repr__") 231, .builtin "_frozen_importlib.ModuleSpec.__repr__#opaque"⟩, ⟨(PyData.keyHash P (S "__eq__")), .str (S "__eq__") 232, .builtin "_frozen_importlib.ModuleSpec.__eq__#opaque"⟩, ⟨(PyData.keyHash P (S "cached")), .str (S "cached") 233, .builtin "_frozen_importlib.ModuleSpec.cached#opaque"⟩, ⟨(PyData.keyHash P (S "parent")), .str (S "parent") 234, .builtin "_frozen_importlib.ModuleSpec.parent#opaque"⟩, ⟨(PyData.keyHash P (S "has_location")), .str (S "has_location") 235, .builtin "_frozen_importlib.ModuleSpec.has_location#opaque"⟩, ⟨(PyData.keyHash P (S "__static_attributes__")), .str (S "__static_attributes__") 236, .ref 23⟩, ⟨(PyData.keyHash P (S "__dict__")), .str (S "__dict__") 238, .ref 24⟩, ⟨(PyData.keyHash P (S "__weakref__")), .str (S "__weakref__") 240, .ref 25⟩, ⟨(PyData.keyHash P (S "__hash__")), .str (S "__hash__") 241, .none⟩] 13, #[]⟩
noncomputable def o22 (P : Params) : Obj := ⟨.type "type", none, .cls { name := (S "ModuleSpec"), bases := [.type "object"], mro := [.ref 22, .type "object"], ns := 21, qualname := (S "ModuleSpec"), hasDict := true, slotNames := [], subclasses := [], abstract := false, collection := none, hasDel := false }, #[]⟩
noncomputable def o23 (P : Params) : Obj := ⟨.type "tuple", none, .seq #[.str (S "_cached") 219, .str (S "_set_fileattr") 220, .str (S "_uninitialized_submodules") 221, .str (S "loader") 222, .str (S "loader_state") 223, .str (S "name") 224, .str (S "origin") 225, .str (S "submodule_search_locations") 226] 0, #[]⟩
noncomputable def o24 (P : Params) : Obj := ⟨.type "getset_descriptor", none, .fields #[.str (S "__dict__") 237, .ref 22, .builtin "function.__dict__", .builtin "function.__dict__#set"], #[]⟩
noncomputable def o25 (P : Params) : Obj := ⟨.type "getset_descriptor", none, .fields #[.str (S "__weakref__") 239, .ref 22, .builtin "ExceptionGroup.__weakref__", .none], #[]⟩
noncomputable def o26 (P : Params) : Obj := ⟨.ref 22, (some 20), .plain, #[]⟩
noncomputable def o27 (P : Params) : Obj := ⟨.none, none, .seq #[.int 11 0, .str (⟨#[6, 247, 8, 95, 95, 110, 97, 109, 101, 95, 95, 6, 246, 4, 95, 115, 114, 101, 6, 248, 7, 95, 95, 100, 111, 99, 95, 95, 0, 6, 250, 11, 95, 95, 112, 97, 99, 107, 97, 103, 101, 95, 95, 6, 249, 0, 6, 251, 10, 95, 95, 108, 111, 97, 100, 101, 114, 95, 95, 4, 0, 0, 14, 6, 252, 8, 95, 95, 115, 112, 101, 99, 95, 95, 4, 0, 0, 26, 6, 253, 7, 99, 111, 109, 112, 105, 108, 101, 9, 12, 95, 115, 114, 101, 46, 99, 111, 109, 112, 105, 108, 101, 6, 254, 8, 116, 101, 109, 112, 108, 97, 116, 101, 9, 13, 95, 115, 114, 101, 46, 116, 101, 109, 112, 108, 97, 116, 101, 6, 255, 11, 103, 101, 116, 99, 111, 100, 101, 115, 105, 122, 101, 9, 16, 95, 115, 114, 101, 46, 103, 101, 116, 99, 111, 100, 101, 115, 105, 122, 101, 6, 256, 13, 97, 115, 99, 105, 105, 95, 105, 115, 99, 97, 115, 101, 100, 9, 18, 95, 115, 114, 101, 46, 97, 115, 99, 105, 105, 95, 105, 115, 99, 97, 115, 101, 100, 6, 257, 15, 117, 110, 105, 99, 111, 100, 101, 95, 105, 115, 99, 97, 115, 101, 100, 9, 20, 95, 115, 114, 101, 46, 117, 110, 105, 99, 111, 100, 101, 95, 105, 115, 99, 97, 115, 101, 100, 6, 258, 13, 97, 115, 99, 105, 105, 95, 116, 111, 108, 111, 119, 101, 114, 9, 18, 95, 115, 114, 101, 46, 97, 115, 99, 105, 105, 95, 116, 111, 108, 111, 119, 101, 114, 6, 259, 15, 117, 110, 105, 99, 111, 100, 101, 95, 116, 111, 108, 111, 119, 101, 114, 9, 20, 95, 115, 114, 101, 46, 117, 110, 105, 99, 111, 100, 101, 95, 116, 111, 108, 111, 119, 101, 114, 6, 261, 5, 77, 65, 71, 73, 67, 4, 260, 0, 20230612, 6, 263, 8, 67, 79, 68, 69, 83, 73, 90, 69, 4, 262, 0, 4, 6, 265, 9, 77, 65, 88, 82, 69, 80, 69, 65, 84, 4, 264, 0, 4294967295, 6, 267, 9, 77, 65, 88, 71, 82, 79, 85, 80, 83, 4, 266, 0, 1073741823, 6, 269, 9, 99, 111, 112, 121, 114, 105, 103, 104, 116, 6, 268, 53, 32, 83, 82, 69, 32, 50, 46, 50, 46, 50, 32, 67, 111, 112, 121, 114, 105, 103, 104, 116, 32, 40, 99, 41, 32, 49, 57, 57, 55, 45, 50, 48, 48, 50, 32, 98, 121, 32, 83, 101, 99, 114, 101, 116, 32, 76, 97, 98, 115, 32, 65, 66, 32]⟩ : Str) 0, .bool true, .bool false, .str (S "_sre") 271] 0, #[]⟩
noncomputable def o11 (P : Params) : Obj := ⟨.type "dict", none, .dict #[⟨(PyData.keyHash P (S "__name__")), .str (S "__name__") 247, .str (S "_sre") 246⟩, ⟨(PyData.keyHash P (S "__doc__")), .str (S "__doc__") 248, .none⟩, ⟨(PyData.keyHash P (S "__package__")), .str (S "__package__") 250, .str (S "") 249⟩, ⟨(PyData.keyHash P (S "__loader__")), .str (S "__loader__") 251, .builtin "off-the-table:_sre.__loader__:shared#opaque"⟩, ⟨(PyData.keyHash P (S "__spec__")), .str (S "__spec__") 252, .builtin "off-the-table:_sre.__spec__:shared#opaque"⟩, ⟨(PyData.keyHash P (S "compile")), .str (S "compile") 253, .builtin "_sre.compile"⟩, ⟨(PyData.keyHash P (S "template")), .str (S "template") 254, .builtin "off-the-table:_sre.template:shared#opaque"⟩, ⟨(PyData.keyHash P (S "getcodesize")), .str (S "getcodesize") 255, .builtin "off-the-table:_sre.getcodesize:shared#opaque"⟩, ⟨(PyData.keyHash P (S "ascii_iscased")), .str (S "ascii_iscased") 256, .builtin "off-the-table:_sre.ascii_iscased:shared#opaque"⟩, ⟨(PyData.keyHash P (S "unicode_iscased")), .str (S "unicode_iscased") 257, .builtin "off-the-table:_sre.unicode_iscased:shared#opaque"⟩, ⟨(PyData.keyHash P (S "ascii_tolower")), .str (S "ascii_tolower") 258, .builtin "off-the-table:_sre.ascii_tolower:shared#opaque"⟩, ⟨(PyData.keyHash P (S "unicode_tolower")), .str (S "unicode_tolower") 259, .builtin "off-the-table:_sre.unicode_tolower:shared#opaque"⟩, ⟨(PyData.keyHash P (S "MAGIC")), .str (S "MAGIC") 261, .int 20230612 260⟩, ⟨(PyData.keyHash P (S "CODESIZE")), .str (S "CODESIZE") 263, .int 4 262⟩, ⟨(PyData.keyHash P (S "MAXREPEAT")), .str (S "MAXREPEAT") 265, .int 4294967295 264⟩, ⟨(PyData.keyHash P (S "MAXGROUPS")), .str (S "MAXGROUPS") 267, .int 1073741823 266⟩, ⟨(PyData.keyHash P (S "copyright")), .str (S "copyright") 269, .str (S " SRE 2.2.2 Copyright (c) 1997-2002 by Secret Labs AB ") 268⟩] 17, #[]⟩
noncomputable def o28 (P : Params) : Obj := ⟨.type "tuple", none, .seq #[] 0, #[]⟩
noncomputable def o29_sA (P : Params) : Obj := ⟨.none, none, .fields #[], #[]⟩
noncomputable def o30 (P : Params) : Obj := ⟨.type "code", none, .fields #[.str (S "<module>") 277, .str (S "<module>") 278, .str (S "/claim/cut.py") 279, .int 1 0, .int 0 0, .int 0 0, .int 0 0, .int 0 0, .ref 28, .bool false, .int 276 0, .ref 29, .none, .none, .none, .none, .int 280 0, .int 1 0, .str (S "/claim/cut.py") 281], #[]⟩
noncomputable def o31 (P : Params) : Obj := ⟨.type "frame", none, .plain, #[(some (.ref 30)), (some (.ref 3)), (some (.ref 3)), none, (some (.str (S "__main__") 164)), none, (some (.ref 0))]⟩
noncomputable def o3_sB (P : Params) : Obj := ⟨.type "dict", none, .dict #[⟨(PyData.keyHash P (S "__name__")), .str (S "__name__") 165, .str (S "cpy313.stringprep") 347⟩, ⟨(PyData.keyHash P (S "__doc__")), .str (S "__doc__") 166, .none⟩, ⟨(PyData.keyHash P (S "__package__")), .str (S "__package__") 167, .none⟩, ⟨(PyData.keyHash P (S "__loader__")), .str (S "__loader__") 168, .builtin "__main__.__loader__#opaque"⟩, ⟨(PyData.keyHash P (S "__spec__")), .str (S "__spec__") 169, .none⟩, ⟨(PyData.keyHash P (S "__annotations__")), .str (S "__annotations__") 170, .ref 6⟩, ⟨(PyData.keyHash P (S "__builtins__")), .str (S "__builtins__") 171, .ref 4⟩, ⟨(PyData.keyHash P (S "__file__")), .str (S "__file__") 173, .str (S "/claim/cut.py") 172⟩, ⟨(PyData.keyHash P (S "__cached__")), .str (S "__cached__") 174, .none⟩, ⟨(PyData.keyHash P (S "_sre")), .str (S "_sre") 275, .ref 12⟩, ⟨(PyData.keyHash P (S "_wall")), .str (S "_wall") 288, .ref 38⟩, ⟨(PyData.keyHash P (S "rgb_to_hsv")), .str (S "rgb_to_hsv") 308, .ref 45⟩, ⟨(PyData.keyHash P (S "hsv_to_rgb")), .str (S "hsv_to_rgb") 322, .ref 52⟩, ⟨(PyData.keyHash P (S "_iter_escaped_chars")), .str (S "_iter_escaped_chars") 334, .ref 59⟩, ⟨(PyData.keyHash P (S "_strip_quoted_realnames")), .str (S "_strip_quoted_realnames") 346, .ref 66⟩] 15, #[]⟩
noncomputable def o29_sB (P : Params) : Obj := ⟨.none, none, .fields #[.int 2 0, .int 0 0, .ref 37, .int 6 0, .int 0 0, .ref 44, .int 25 0, .int 0 0, .ref 51, .int 47 0, .int 0 0, .ref 58, .int 60 0, .int 0 0, .ref 65], #[]⟩
noncomputable def o32 (P : Params) : Obj := ⟨.type "tuple", none, .seq #[] 0, #[]⟩
noncomputable def o33 (P : Params) : Obj := ⟨.none, none, .fields #[], #[]⟩
noncomputable def o34 (P : Params) : Obj := ⟨.type "tuple", none, .seq #[.str (S "k") 285] 0, #[]⟩
noncomputable def o35 (P : Params) : Obj := ⟨.type "tuple", none, .seq #[] 0, #[]⟩
noncomputable def o36 (P : Params) : Obj := ⟨.none, none, .func { name := (S "_wall"), qualname := (S "_wall"), params := paramsOf (St 1), body := .stmts (bodyOf (St 1)), scope := scopeOf (St 1), globals := 0, closure := [], defaults := .none, kwdefaults := .none, doc := .none, pyModule := .none, annotations := none, code := .none, closureTuple := .none, builtins := 0 }, #[]⟩
noncomputable def o37 (P : Params) : Obj := ⟨.type "code", none, .fields #[.str (S "_wall") 282, .str (S "_wall") 283, .str (S "/claim/cut.py") 284, .int 2 0, .int 1 0, .int 0 0, .int 0 0, .int 3 0, .ref 32, .bool true, .int 276 0, .ref 33, .none, .ref 34, .ref 35, .ref 36, .int 286 0, .int 2 0, .str (S "/claim/cut.py") 287], #[]⟩
noncomputable def o38 (P : Params) : Obj := ⟨.type "function", none, .func { name := (S "_wall"), qualname := (S "_wall"), params := paramsOf (St 1), body := .stmts (bodyOf (St 1)), scope := scopeOf (St 1), globals := 3, closure := [], defaults := .none, kwdefaults := .none, doc := .none, pyModule := .str (S "__main__") 164, annotations := none, code := .ref 37, closureTuple := .none, builtins := 0 }, #[]⟩
noncomputable def o39 (P : Params) : Obj := ⟨.type "tuple", none, .seq #[] 0, #[]⟩
noncomputable def o40 (P : Params) : Obj := ⟨.none, none, .fields #[], #[]⟩
noncomputable def o41 (P : Params) : Obj := ⟨.type "tuple", none, .seq #[.str (S "r") 294, .str (S "g") 295, .str (S "b") 296, .str (S "maxc") 297, .str (S "minc") 298, .str (S "rangec") 299, .str (S "v") 300, .str (S "s") 301, .str (S "rc") 302, .str (S "gc") 303, .str (S "bc") 304, .str (S "h") 305] 0, #[]⟩
noncomputable def o42 (P : Params) : Obj := ⟨.type "tuple", none, .seq #[] 0, #[]⟩
noncomputable def o43 (P : Params) : Obj := ⟨.none, none, .func { name := (S "rgb_to_hsv"), qualname := (S "rgb_to_hsv"), params := paramsOf (St 3), body := .stmts (bodyOf (St 3)), scope := scopeOf (St 3), globals := 0, closure := [], defaults := .none, kwdefaults := .none, doc := .none, pyModule := .none, annotations := none, code := .none, closureTuple := .none, builtins := 0 }, #[]⟩
noncomputable def o44 (P : Params) : Obj := ⟨.type "code", none, .fields #[.str (S "rgb_to_hsv") 291, .str (S "rgb_to_hsv") 292, .str (S "/claim/cut.py") 293, .int 6 0, .int 3 0, .int 0 0, .int 0 0, .int 3 0, .ref 39, .bool true, .int 276 0, .ref 40, .none, .ref 41, .ref 42, .ref 43, .int 306 0, .int 6 0, .str (S "/claim/cut.py") 307], #[]⟩
noncomputable def o45 (P : Params) : Obj := ⟨.type "function", none, .func { name := (S "rgb_to_hsv"), qualname := (S "rgb_to_hsv"), params := paramsOf (St 3), body := .stmts (bodyOf (St 3)), scope := scopeOf (St 3), globals := 3, closure := [], defaults := .none, kwdefaults := .none, doc := .none, pyModule := .str (S "cpy313.colorsys") 289, annotations := none, code := .ref 44, closureTuple := .none, builtins := 0 }, #[]⟩
noncomputable def o46 (P : Params) : Obj := ⟨.type "tuple", none, .seq #[] 0, #[]⟩
noncomputable def o47 (P : Params) : Obj := ⟨.none, none, .fields #[], #[]⟩
noncomputable def o48 (P : Params) : Obj := ⟨.type "tuple", none, .seq #[.str (S "h") 312, .str (S "s") 313, .str (S "v") 314, .str (S "i") 315, .str (S "f") 316, .str (S "p") 317, .str (S "q") 318, .str (S "t") 319] 0, #[]⟩
noncomputable def o49 (P : Params) : Obj := ⟨.type "tuple", none, .seq #[] 0, #[]⟩
noncomputable def o50 (P : Params) : Obj := ⟨.none, none, .func { name := (S "hsv_to_rgb"), qualname := (S "hsv_to_rgb"), params := paramsOf (St 4), body := .stmts (bodyOf (St 4)), scope := scopeOf (St 4), globals := 0, closure := [], defaults := .none, kwdefaults := .none, doc := .none, pyModule := .none, annotations := none, code := .none, closureTuple := .none, builtins := 0 }, #[]⟩
noncomputable def o51 (P : Params) : Obj := ⟨.type "code", none, .fields #[.str (S "hsv_to_rgb") 309, .str (S "hsv_to_rgb") 310, .str (S "/claim/cut.py") 311, .int 25 0, .int 3 0, .int 0 0, .int 0 0, .int 3 0, .ref 46, .bool true, .int 276 0, .ref 47, .none, .ref 48, .ref 49, .ref 50, .int 320 0, .int 25 0, .str (S "/claim/cut.py") 321], #[]⟩
noncomputable def o52 (P : Params) : Obj := ⟨.type "function", none, .func { name := (S "hsv_to_rgb"), qualname := (S "hsv_to_rgb"), params := paramsOf (St 4), body := .stmts (bodyOf (St 4)), scope := scopeOf (St 4), globals := 3, closure := [], defaults := .none, kwdefaults := .none, doc := .none, pyModule := .str (S "cpy313.colorsys") 289, annotations := none, code := .ref 51, closureTuple := .none, builtins := 0 }, #[]⟩
noncomputable def o53 (P : Params) : Obj := ⟨.type "tuple", none, .seq #[] 0, #[]⟩
noncomputable def o54 (P : Params) : Obj := ⟨.none, none, .fields #[], #[]⟩
noncomputable def o55 (P : Params) : Obj := ⟨.type "tuple", none, .seq #[.str (S "addr") 328, .str (S "pos") 329, .str (S "escape") 330, .str (S "ch") 331] 0, #[]⟩
noncomputable def o56 (P : Params) : Obj := ⟨.type "tuple", none, .seq #[] 0, #[]⟩
noncomputable def o57 (P : Params) : Obj := ⟨.none, none, .func { name := (S "_iter_escaped_chars"), qualname := (S "_iter_escaped_chars"), params := paramsOf (St 6), body := .stmts (bodyOf (St 6)), scope := scopeOf (St 6), globals := 0, closure := [], defaults := .none, kwdefaults := .none, doc := .none, pyModule := .none, annotations := none, code := .none, closureTuple := .none, builtins := 0 }, #[]⟩
noncomputable def o58 (P : Params) : Obj := ⟨.type "code", none, .fields #[.str (S "_iter_escaped_chars") 325, .str (S "_iter_escaped_chars") 326, .str (S "/claim/cut.py") 327, .int 47 0, .int 1 0, .int 0 0, .int 0 0, .int 35 0, .ref 53, .bool true, .int 276 0, .ref 54, .none, .ref 55, .ref 56, .ref 57, .int 332 0, .int 47 0, .str (S "/claim/cut.py") 333], #[]⟩
noncomputable def o59 (P : Params) : Obj := ⟨.type "function", none, .func { name := (S "_iter_escaped_chars"), qualname := (S "_iter_escaped_chars"), params := paramsOf (St 6), body := .stmts (bodyOf (St 6)), scope := scopeOf (St 6), globals := 3, closure := [], defaults := .none, kwdefaults := .none, doc := .none, pyModule := .str (S "cpy313.email.utils") 323, annotations := none, code := .ref 58, closureTuple := .none, builtins := 0 }, #[]⟩
noncomputable def o60 (P : Params) : Obj := ⟨.type "tuple", none, .seq #[] 0, #[]⟩
noncomputable def o61 (P : Params) : Obj := ⟨.none, none, .fields #[], #[]⟩
noncomputable def o62 (P : Params) : Obj := ⟨.type "tuple", none, .seq #[.str (S "addr") 338, .str (S "start") 339, .str (S "open_pos") 340, .str (S "result") 341, .str (S "pos") 342, .str (S "ch") 343] 0, #[]⟩
noncomputable def o63 (P : Params) : Obj := ⟨.type "tuple", none, .seq #[] 0, #[]⟩
noncomputable def o64 (P : Params) : Obj := ⟨.none, none, .func { name := (S "_strip_quoted_realnames"), qualname := (S "_strip_quoted_realnames"), params := paramsOf (St 7), body := .stmts (bodyOf (St 7)), scope := scopeOf (St 7), globals := 0, closure := [], defaults := .none, kwdefaults := .none, doc := .none, pyModule := .none, annotations := none, code := .none, closureTuple := .none, builtins := 0 }, #[]⟩
noncomputable def o65 (P : Params) : Obj := ⟨.type "code", none, .fields #[.str (S "_strip_quoted_realnames") 335, .str (S "_strip_quoted_realnames") 336, .str (S "/claim/cut.py") 337, .int 60 0, .int 1 0, .int 0 0, .int 0 0, .int 3 0, .ref 60, .bool true, .int 276 0, .ref 61, .none, .ref 62, .ref 63, .ref 64, .int 344 0, .int 60 0, .str (S "/claim/cut.py") 345], #[]⟩
noncomputable def o66 (P : Params) : Obj := ⟨.type "function", none, .func { name := (S "_strip_quoted_realnames"), qualname := (S "_strip_quoted_realnames"), params := paramsOf (St 7), body := .stmts (bodyOf (St 7)), scope := scopeOf (St 7), globals := 3, closure := [], defaults := .none, kwdefaults := .none, doc := .none, pyModule := .str (S "cpy313.email.utils") 323, annotations := none, code := .ref 65, closureTuple := .none, builtins := 0 }, #[]⟩
noncomputable def o3_sC (P : Params) : Obj := ⟨.type "dict", none, .dict #[⟨(PyData.keyHash P (S "__name__")), .str (S "__name__") 165, .str (S "cpy313.stringprep") 347⟩, ⟨(PyData.keyHash P (S "__doc__")), .str (S "__doc__") 166, .none⟩, ⟨(PyData.keyHash P (S "__package__")), .str (S "__package__") 167, .none⟩, ⟨(PyData.keyHash P (S "__loader__")), .str (S "__loader__") 168, .builtin "__main__.__loader__#opaque"⟩, ⟨(PyData.keyHash P (S "__spec__")), .str (S "__spec__") 169, .none⟩, ⟨(PyData.keyHash P (S "__annotations__")), .str (S "__annotations__") 170, .ref 6⟩, ⟨(PyData.keyHash P (S "__builtins__")), .str (S "__builtins__") 171, .ref 4⟩, ⟨(PyData.keyHash P (S "__file__")), .str (S "__file__") 173, .str (S "/claim/cut.py") 172⟩, ⟨(PyData.keyHash P (S "__cached__")), .str (S "__cached__") 174, .none⟩, ⟨(PyData.keyHash P (S "_sre")), .str (S "_sre") 275, .ref 12⟩, ⟨(PyData.keyHash P (S "_wall")), .str (S "_wall") 288, .ref 38⟩, ⟨(PyData.keyHash P (S "rgb_to_hsv")), .str (S "rgb_to_hsv") 308, .ref 45⟩, ⟨(PyData.keyHash P (S "hsv_to_rgb")), .str (S "hsv_to_rgb") 322, .ref 52⟩, ⟨(PyData.keyHash P (S "_iter_escaped_chars")), .str (S "_iter_escaped_chars") 334, .ref 59⟩, ⟨(PyData.keyHash P (S "_strip_quoted_realnames")), .str (S "_strip_quoted_realnames") 346, .ref 66⟩, ⟨(PyData.keyHash P (S "b1_set")), .str (S "b1_set") 408, .ref 74⟩] 16, #[]⟩
noncomputable def o67 (P : Params) : Obj := ⟨.type "list", none, .seq #[.int 173 349, .int 847 350, .int 6150 351, .int 6155 352, .int 6156 353, .int 6157 354, .int 8203 355, .int 8204 356, .int 8205 357, .int 8288 358, .int 65279 359] 0, #[]⟩
noncomputable def o68 (P : Params) : Obj := ⟨.type "range", none, .fields #[.int 65024 360, .int 65040 361, .int 1 362], #[]⟩
noncomputable def o69 (P : Params) : Obj := ⟨.type "list", none, .seq #[.int 65024 365, .int 65025 366, .int 65026 367, .int 65027 368, .int 65028 369, .int 65029 370, .int 65030 371, .int 65031 372, .int 65032 373, .int 65033 374, .int 65034 375, .int 65035 376, .int 65036 377, .int 65037 378, .int 65038 379, .int 65039 380] 18, #[]⟩
noncomputable def o70 (P : Params) : Obj := ⟨.type "range_iterator", none, .fields #[.int 65040 0, .int 0 0, .int 1 0], #[]⟩
noncomputable def o71 (P : Params) : Obj := ⟨.type "tuple", none, .seq #[] 0, #[]⟩
noncomputable def o72 (P : Params) : Obj := ⟨.type "StopIteration", none, .fields #[.ref 71, .none, .none, .none, .bool false, .none], #[]⟩
noncomputable def o73 (P : Params) : Obj := ⟨.type "list", none, .seq #[.int 173 349, .int 847 350, .int 6150 351, .int 6155 352, .int 6156 353, .int 6157 354, .int 8203 355, .int 8204 356, .int 8205 357, .int 8288 358, .int 65279 359, .int 65024 365, .int 65025 366, .int 65026 367, .int 65027 368, .int 65028 369, .int 65029 370, .int 65030 371, .int 65031 372, .int 65032 373, .int 65033 374, .int 65034 375, .int 65035 376, .int 65036 377, .int 65037 378, .int 65038 379, .int 65039 380] 0, #[]⟩
noncomputable def o74 (P : Params) : Obj := ⟨.type "set", none, .set #[(65024, .int 65024 365), (65025, .int 65025 366), (65026, .int 65026 367), (65027, .int 65027 368), (65028, .int 65028 369), (65029, .int 65029 370), (6150, .int 6150 351), (65030, .int 65030 371), (65031, .int 65031 372), (65032, .int 65032 373), (65033, .int 65033 374), (6155, .int 6155 352), (6156, .int 6156 353), (6157, .int 6157 354), (8203, .int 8203 355), (8204, .int 8204 356), (8205, .int 8205 357), (65034, .int 65034 375), (65035, .int 65035 376), (65036, .int 65036 377), (65037, .int 65037 378), (65038, .int 65038 379), (65039, .int 65039 380), (173, .int 173 349), (847, .int 847 350), (8288, .int 8288 358), (65279, .int 65279 359)] 29 { mask := 127, place := #[0, 1, 2, 3, 4, 5, 6, 7, 8, 9, 10, 11, 12, 13, 14, 15, 16, 17, 18, 19, 20, 21, 22, 45, 79, 96, 127], dummies := #[], finger := 0, led := !(P.followText "set-order"), moves := 2, plain := true }, #[]⟩
noncomputable def o75 (P : Params) : Obj := ⟨.type "list_iterator", none, .fields #[.none, .int 27 0], #[]⟩
noncomputable def o76 (P : Params) : Obj := ⟨.type "tuple", none, .seq #[] 0, #[]⟩
noncomputable def o77 (P : Params) : Obj := ⟨.type "StopIteration", none, .fields #[.ref 76, .none, .none, .none, .bool false, .none], #[]⟩
noncomputable def o3_sD (P : Params) : Obj := ⟨.type "dict", none, .dict #[⟨(PyData.keyHash P (S "__name__")), .str (S "__name__") 165, .str (S "cpy313.stringprep") 347⟩, ⟨(PyData.keyHash P (S "__doc__")), .str (S "__doc__") 166, .none⟩, ⟨(PyData.keyHash P (S "__package__")), .str (S "__package__") 167, .none⟩, ⟨(PyData.keyHash P (S "__loader__")), .str (S "__loader__") 168, .builtin "__main__.__loader__#opaque"⟩, ⟨(PyData.keyHash P (S "__spec__")), .str (S "__spec__") 169, .none⟩, ⟨(PyData.keyHash P (S "__annotations__")), .str (S "__annotations__") 170, .ref 6⟩, ⟨(PyData.keyHash P (S "__builtins__")), .str (S "__builtins__") 171, .ref 4⟩, ⟨(PyData.keyHash P (S "__file__")), .str (S "__file__") 173, .str (S "/claim/cut.py") 172⟩, ⟨(PyData.keyHash P (S "__cached__")), .str (S "__cached__") 174, .none⟩, ⟨(PyData.keyHash P (S "_sre")), .str (S "_sre") 275, .ref 12⟩, ⟨(PyData.keyHash P (S "_wall")), .str (S "_wall") 288, .ref 38⟩, ⟨(PyData.keyHash P (S "rgb_to_hsv")), .str (S "rgb_to_hsv") 308, .ref 45⟩, ⟨(PyData.keyHash P (S "hsv_to_rgb")), .str (S "hsv_to_rgb") 322, .ref 52⟩, ⟨(PyData.keyHash P (S "_iter_escaped_chars")), .str (S "_iter_escaped_chars") 334, .ref 59⟩, ⟨(PyData.keyHash P (S "_strip_quoted_realnames")), .str (S "_strip_quoted_realnames") 346, .ref 66⟩, ⟨(PyData.keyHash P (S "b1_set")), .str (S "b1_set") 408, .ref 74⟩, ⟨(PyData.keyHash P (S "in_table_b1")), .str (S "in_table_b1") 415, .ref 84⟩] 17, #[]⟩
noncomputable def o29_sD (P : Params) : Obj := ⟨.none, none, .fields #[.int 2 0, .int 0 0, .ref 37, .int 6 0, .int 0 0, .ref 44, .int 25 0, .int 0 0, .ref 51, .int 47 0, .int 0 0, .ref 58, .int 60 0, .int 0 0, .ref 65, .int 80 0, .int 0 0, .ref 83], #[]⟩
noncomputable def o78 (P : Params) : Obj := ⟨.type "tuple", none, .seq #[] 0, #[]⟩
noncomputable def o79 (P : Params) : Obj := ⟨.none, none, .fields #[], #[]⟩
noncomputable def o80 (P : Params) : Obj := ⟨.type "tuple", none, .seq #[.str (S "code") 412] 0, #[]⟩
noncomputable def o81 (P : Params) : Obj := ⟨.type "tuple", none, .seq #[] 0, #[]⟩
noncomputable def o82 (P : Params) : Obj := ⟨.none, none, .func { name := (S "in_table_b1"), qualname := (S "in_table_b1"), params := paramsOf (St 10), body := .stmts (bodyOf (St 10)), scope := scopeOf (St 10), globals := 0, closure := [], defaults := .none, kwdefaults := .none, doc := .none, pyModule := .none, annotations := none, code := .none, closureTuple := .none, builtins := 0 }, #[]⟩
noncomputable def o83 (P : Params) : Obj := ⟨.type "code", none, .fields #[.str (S "in_table_b1") 409, .str (S "in_table_b1") 410, .str (S "/claim/cut.py") 411, .int 80 0, .int 1 0, .int 0 0, .int 0 0, .int 3 0, .ref 78, .bool true, .int 276 0, .ref 79, .none, .ref 80, .ref 81, .ref 82, .int 413 0, .int 80 0, .str (S "/claim/cut.py") 414], #[]⟩
noncomputable def o84 (P : Params) : Obj := ⟨.type "function", none, .func { name := (S "in_table_b1"), qualname := (S "in_table_b1"), params := paramsOf (St 10), body := .stmts (bodyOf (St 10)), scope := scopeOf (St 10), globals := 3, closure := [], defaults := .none, kwdefaults := .none, doc := .none, pyModule := .str (S "cpy313.stringprep") 347, annotations := none, code := .ref 83, closureTuple := .none, builtins := 0 }, #[]⟩
noncomputable def o3_sE (P : Params) : Obj := ⟨.type "dict", none, .dict #[⟨(PyData.keyHash P (S "__name__")), .str (S "__name__") 165, .str (S "cpy313.stringprep") 347⟩, ⟨(PyData.keyHash P (S "__doc__")), .str (S "__doc__") 166, .none⟩, ⟨(PyData.keyHash P (S "__package__")), .str (S "__package__") 167, .none⟩, ⟨(PyData.keyHash P (S "__loader__")), .str (S "__loader__") 168, .builtin "__main__.__loader__#opaque"⟩, ⟨(PyData.keyHash P (S "__spec__")), .str (S "__spec__") 169, .none⟩, ⟨(PyData.keyHash P (S "__annotations__")), .str (S "__annotations__") 170, .ref 6⟩, ⟨(PyData.keyHash P (S "__builtins__")), .str (S "__builtins__") 171, .ref 4⟩, ⟨(PyData.keyHash P (S "__file__")), .str (S "__file__") 173, .str (S "/claim/cut.py") 172⟩, ⟨(PyData.keyHash P (S "__cached__")), .str (S "__cached__") 174, .none⟩, ⟨(PyData.keyHash P (S "_sre")), .str (S "_sre") 275, .ref 12⟩, ⟨(PyData.keyHash P (S "_wall")), .str (S "_wall") 288, .ref 38⟩, ⟨(PyData.keyHash P (S "rgb_to_hsv")), .str (S "rgb_to_hsv") 308, .ref 45⟩, ⟨(PyData.keyHash P (S "hsv_to_rgb")), .str (S "hsv_to_rgb") 322, .ref 52⟩, ⟨(PyData.keyHash P (S "_iter_escaped_chars")), .str (S "_iter_escaped_chars") 334, .ref 59⟩, ⟨(PyData.keyHash P (S "_strip_quoted_realnames")), .str (S "_strip_quoted_realnames") 346, .ref 66⟩, ⟨(PyData.keyHash P (S "b1_set")), .str (S "b1_set") 408, .ref 74⟩, ⟨(PyData.keyHash P (S "in_table_b1")), .str (S "in_table_b1") 415, .ref 84⟩, ⟨(PyData.keyHash P (S "b3_exceptions")), .str (S "b3_exceptions") 2366, .ref 85⟩] 18, #[]⟩
noncomputable def o85 (P : Params) : Obj := ⟨.type "dict", none, .dict (tabPart 85) 650, #[]⟩
noncomputable def o86 (P : Params) : Obj := ⟨.type "dict", none, .dict (tabPart 86) 17, #[]⟩
noncomputable def o87 (P : Params) : Obj := ⟨.type "dict", none, .dict (tabPart 87) 17, #[]⟩
noncomputable def o88 (P : Params) : Obj := ⟨.type "dict", none, .dict (tabPart 88) 17, #[]⟩
noncomputable def o89 (P : Params) : Obj := ⟨.type "dict", none, .dict (tabPart 89) 17, #[]⟩
noncomputable def o90 (P : Params) : Obj := ⟨.type "dict", none, .dict (tabPart 90) 17, #[]⟩
noncomputable def o91 (P : Params) : Obj := ⟨.type "dict", none, .dict (tabPart 91) 17, #[]⟩
noncomputable def o92 (P : Params) : Obj := ⟨.type "dict", none, .dict (tabPart 92) 17, #[]⟩
noncomputable def o93 (P : Params) : Obj := ⟨.type "dict", none, .dict (tabPart 93) 17, #[]⟩
noncomputable def o94 (P : Params) : Obj := ⟨.type "dict", none, .dict (tabPart 94) 17, #[]⟩
noncomputable def o95 (P : Params) : Obj := ⟨.type "dict", none, .dict (tabPart 95) 17, #[]⟩
noncomputable def o96 (P : Params) : Obj := ⟨.type "dict", none, .dict (tabPart 96) 17, #[]⟩
noncomputable def o97 (P : Params) : Obj := ⟨.type "dict", none, .dict (tabPart 97) 17, #[]⟩
noncomputable def o98 (P : Params) : Obj := ⟨.type "dict", none, .dict (tabPart 98) 17, #[]⟩
noncomputable def o99 (P : Params) : Obj := ⟨.type "dict", none, .dict (tabPart 99) 17, #[]⟩
noncomputable def o100 (P : Params) : Obj := ⟨.type "dict", none, .dict (tabPart 100) 17, #[]⟩
noncomputable def o101 (P : Params) : Obj := ⟨.type "dict", none, .dict (tabPart 101) 17, #[]⟩
noncomputable def o102 (P : Params) : Obj := ⟨.type "dict", none, .dict (tabPart 102) 17, #[]⟩
noncomputable def o103 (P : Params) : Obj := ⟨.type "dict", none, .dict (tabPart 103) 17, #[]⟩
noncomputable def o104 (P : Params) : Obj := ⟨.type "dict", none, .dict (tabPart 104) 17, #[]⟩
noncomputable def o105 (P : Params) : Obj := ⟨.type "dict", none, .dict (tabPart 105) 17, #[]⟩
noncomputable def o106 (P : Params) : Obj := ⟨.type "dict", none, .dict (tabPart 106) 17, #[]⟩
noncomputable def o107 (P : Params) : Obj := ⟨.type "dict", none, .dict (tabPart 107) 17, #[]⟩
noncomputable def o108 (P : Params) : Obj := ⟨.type "dict", none, .dict (tabPart 108) 17, #[]⟩
noncomputable def o109 (P : Params) : Obj := ⟨.type "dict", none, .dict (tabPart 109) 17, #[]⟩
noncomputable def o110 (P : Params) : Obj := ⟨.type "dict", none, .dict (tabPart 110) 17, #[]⟩
noncomputable def o111 (P : Params) : Obj := ⟨.type "dict", none, .dict (tabPart 111) 17, #[]⟩
noncomputable def o112 (P : Params) : Obj := ⟨.type "dict", none, .dict (tabPart 112) 17, #[]⟩
noncomputable def o113 (P : Params) : Obj := ⟨.type "dict", none, .dict (tabPart 113) 17, #[]⟩
noncomputable def o114 (P : Params) : Obj := ⟨.type "dict", none, .dict (tabPart 114) 17, #[]⟩
noncomputable def o115 (P : Params) : Obj := ⟨.type "dict", none, .dict (tabPart 115) 17, #[]⟩
noncomputable def o116 (P : Params) : Obj := ⟨.type "dict", none, .dict (tabPart 116) 17, #[]⟩
noncomputable def o117 (P : Params) : Obj := ⟨.type "dict", none, .dict (tabPart 117) 17, #[]⟩
noncomputable def o118 (P : Params) : Obj := ⟨.type "dict", none, .dict (tabPart 118) 17, #[]⟩
noncomputable def o119 (P : Params) : Obj := ⟨.type "dict", none, .dict (tabPart 119) 17, #[]⟩
noncomputable def o120 (P : Params) : Obj := ⟨.type "dict", none, .dict (tabPart 120) 17, #[]⟩
noncomputable def o121 (P : Params) : Obj := ⟨.type "dict", none, .dict (tabPart 121) 17, #[]⟩
noncomputable def o122 (P : Params) : Obj := ⟨.type "dict", none, .dict (tabPart 122) 17, #[]⟩
noncomputable def o123 (P : Params) : Obj := ⟨.type "dict", none, .dict (tabPart 123) 4, #[]⟩
noncomputable def o3 (P : Params) : Obj := ⟨.type "dict", none, .dict #[⟨(PyData.keyHash P (S "__name__")), .str (S "__name__") 165, .str (S "law_wf0109_01") 2641⟩, ⟨(PyData.keyHash P (S "__doc__")), .str (S "__doc__") 166, .none⟩, ⟨(PyData.keyHash P (S "__package__")), .str (S "__package__") 167, .none⟩, ⟨(PyData.keyHash P (S "__loader__")), .str (S "__loader__") 168, .builtin "__main__.__loader__#opaque"⟩, ⟨(PyData.keyHash P (S "__spec__")), .str (S "__spec__") 169, .none⟩, ⟨(PyData.keyHash P (S "__annotations__")), .str (S "__annotations__") 170, .ref 6⟩, ⟨(PyData.keyHash P (S "__builtins__")), .str (S "__builtins__") 171, .ref 4⟩, ⟨(PyData.keyHash P (S "__file__")), .str (S "__file__") 173, .str (S "/claim/cut.py") 172⟩, ⟨(PyData.keyHash P (S "__cached__")), .str (S "__cached__") 174, .none⟩, ⟨(PyData.keyHash P (S "_sre")), .str (S "_sre") 275, .ref 12⟩, ⟨(PyData.keyHash P (S "_wall")), .str (S "_wall") 288, .ref 38⟩, ⟨(PyData.keyHash P (S "rgb_to_hsv")), .str (S "rgb_to_hsv") 308, .ref 45⟩, ⟨(PyData.keyHash P (S "hsv_to_rgb")), .str (S "hsv_to_rgb") 322, .ref 52⟩, ⟨(PyData.keyHash P (S "_iter_escaped_chars")), .str (S "_iter_escaped_chars") 334, .ref 59⟩, ⟨(PyData.keyHash P (S "_strip_quoted_realnames")), .str (S "_strip_quoted_realnames") 346, .ref 66⟩, ⟨(PyData.keyHash P (S "b1_set")), .str (S "b1_set") 408, .ref 74⟩, ⟨(PyData.keyHash P (S "in_table_b1")), .str (S "in_table_b1") 415, .ref 84⟩, ⟨(PyData.keyHash P (S "b3_exceptions")), .str (S "b3_exceptions") 2366, .ref 85⟩, ⟨(PyData.keyHash P (S "map_table_b3")), .str (S "map_table_b3") 2374, .ref 130⟩, ⟨(PyData.keyHash P (S "tspecials")), .str (S "tspecials") 2410, .ref 135⟩, ⟨(PyData.keyHash P (S "_name_disallowed_re")), .str (S "_name_disallowed_re") 2436, .ref 140⟩, ⟨(PyData.keyHash P (S "_value_disallowed_re")), .str (S "_value_disallowed_re") 2470, .ref 145⟩, ⟨(PyData.keyHash P (S "_formatparam")), .str (S "_formatparam") 2480, .ref 153⟩, ⟨(PyData.keyHash P (S "Headers")), .str (S "Headers") 2640, .ref 276⟩, ⟨(PyData.keyHash P (S "_law_line")), .str (S "_law_line") 2657, .ref 287⟩, ⟨(PyData.keyHash P (S "_law_paint")), .str (S "_law_paint") 2664, .ref 294⟩, ⟨(PyData.keyHash P (S "_law_named")), .str (S "_law_named") 2676, .ref 301⟩, ⟨(PyData.keyHash P (S "_law_mended")), .str (S "_law_mended") 2682, .ref 306⟩, ⟨(PyData.keyHash P (S "_law_near")), .str (S "_law_near") 2688, .ref 311⟩, ⟨(PyData.keyHash P (S "law")), .str (S "law") 2694, .ref 316⟩] 30, #[]⟩
noncomputable def o29 (P : Params) : Obj := ⟨.none, none, .fields #[.int 2 0, .int 0 0, .ref 37, .int 6 0, .int 0 0, .ref 44, .int 25 0, .int 0 0, .ref 51, .int 47 0, .int 0 0, .ref 58, .int 60 0, .int 0 0, .ref 65, .int 80 0, .int 0 0, .ref 83, .int 83 0, .int 0 0, .ref 129, .int 92 0, .int 0 0, .ref 152, .int 101 0, .int 0 0, .ref 159, .int 188 0, .int 0 0, .ref 286, .int 203 0, .int 0 0, .ref 293, .int 207 0, .int 0 0, .ref 300, .int 214 0, .int 0 0, .ref 305, .int 229 0, .int 0 0, .ref 310, .int 241 0, .int 0 0, .ref 315], #[]⟩
noncomputable def o124 (P : Params) : Obj := ⟨.type "tuple", none, .seq #[] 0, #[]⟩
noncomputable def o125 (P : Params) : Obj := ⟨.none, none, .fields #[], #[]⟩
noncomputable def o126 (P : Params) : Obj := ⟨.type "tuple", none, .seq #[.str (S "code") 2370, .str (S "r") 2371] 0, #[]⟩
noncomputable def o127 (P : Params) : Obj := ⟨.type "tuple", none, .seq #[] 0, #[]⟩
noncomputable def o128 (P : Params) : Obj := ⟨.none, none, .func { name := (S "map_table_b3"), qualname := (S "map_table_b3"), params := paramsOf (St 12), body := .stmts (bodyOf (St 12)), scope := scopeOf (St 12), globals := 0, closure := [], defaults := .none, kwdefaults := .none, doc := .none, pyModule := .none, annotations := none, code := .none, closureTuple := .none, builtins := 0 }, #[]⟩
noncomputable def o129 (P : Params) : Obj := ⟨.type "code", none, .fields #[.str (S "map_table_b3") 2367, .str (S "map_table_b3") 2368, .str (S "/claim/cut.py") 2369, .int 83 0, .int 1 0, .int 0 0, .int 0 0, .int 3 0, .ref 124, .bool true, .int 276 0, .ref 125, .none, .ref 126, .ref 127, .ref 128, .int 2372 0, .int 83 0, .str (S "/claim/cut.py") 2373], #[]⟩
noncomputable def o130 (P : Params) : Obj := ⟨.type "function", none, .func { name := (S "map_table_b3"), qualname := (S "map_table_b3"), params := paramsOf (St 12), body := .stmts (bodyOf (St 12)), scope := scopeOf (St 12), globals := 3, closure := [], defaults := .none, kwdefaults := .none, doc := .none, pyModule := .str (S "cpy313.stringprep") 347, annotations := none, code := .ref 129, closureTuple := .none, builtins := 0 }, #[]⟩
noncomputable def o131 (P : Params) : Obj := ⟨.type "list", none, .seq #[.int 14 2380, .int 14 2381, .int 4 2382, .int 1 2383, .int 1 2384, .int 9 2385, .int 0 2386, .int 4227896069 2387, .int 939524097 2388, .int 0 2389, .int 0 2390, .int 0 2391, .int 0 2392, .int 0 2393, .int 0 2394, .int 13 2395, .int 11 2396, .int 9 2397, .int 0 2398, .int 4227896069 2399, .int 939524097 2400, .int 0 2401, .int 0 2402, .int 0 2403, .int 0 2404, .int 0 2405, .int 0 2406, .int 1 2407] 0, #[]⟩
noncomputable def o132 (P : Params) : Obj := ⟨.type "dict", none, .dict #[] 0, #[]⟩
noncomputable def o133 (P : Params) : Obj := ⟨.type "tuple", none, .seq #[.none] 0, #[]⟩
noncomputable def o134 (P : Params) : Obj := ⟨.type "tuple", none, .seq #[.int 14 0, .int 14 0, .int 4 0, .int 1 0, .int 1 0, .int 9 0, .int 0 0, .int 4227896069 0, .int 939524097 0, .int 0 0, .int 0 0, .int 0 0, .int 0 0, .int 0 0, .int 0 0, .int 13 0, .int 11 0, .int 9 0, .int 0 0, .int 4227896069 0, .int 939524097 0, .int 0 0, .int 0 0, .int 0 0, .int 0 0, .int 0 0, .int 0 0, .int 1 0] 0, #[]⟩
noncomputable def o135 (P : Params) : Obj := ⟨.type "re.Pattern", none, .fields #[.str (S "[ \\(\\)<>@,;:\\\\\"/\\[\\]\\?=]") 2378, .int 32 2409, .int 0 0, .none, .none, .ref 134, .int 0 0], #[]⟩
noncomputable def o136 (P : Params) : Obj := ⟨.type "list", none, .seq #[.int 14 2414, .int 10 2415, .int 4 2416, .int 1 2417, .int 1 2418, .int 22 2419, .int 0 2420, .int 31 2421, .int 16 2422, .int 127 2423, .int 0 2424, .int 13 2425, .int 7 2426, .int 22 2427, .int 0 2428, .int 31 2429, .int 16 2430, .int 127 2431, .int 0 2432, .int 1 2433] 0, #[]⟩
noncomputable def o137 (P : Params) : Obj := ⟨.type "dict", none, .dict #[] 0, #[]⟩
noncomputable def o138 (P : Params) : Obj := ⟨.type "tuple", none, .seq #[.none] 0, #[]⟩
noncomputable def o139 (P : Params) : Obj := ⟨.type "tuple", none, .seq #[.int 14 0, .int 10 0, .int 4 0, .int 1 0, .int 1 0, .int 22 0, .int 0 0, .int 31 0, .int 16 0, .int 127 0, .int 0 0, .int 13 0, .int 7 0, .int 22 0, .int 0 0, .int 31 0, .int 16 0, .int 127 0, .int 0 0, .int 1 0] 0, #[]⟩
noncomputable def o140 (P : Params) : Obj := ⟨.type "re.Pattern", none, .fields #[.str (S "[\\x00-\\x1F\\x7F]") 2412, .int 32 2435, .int 0 0, .none, .none, .ref 139, .int 0 0], #[]⟩
noncomputable def o141 (P : Params) : Obj := ⟨.type "list", none, .seq #[.int 14 2440, .int 14 2441, .int 4 2442, .int 1 2443, .int 1 2444, .int 9 2445, .int 4294966783 2446, .int 0 2447, .int 0 2448, .int 2147483648 2449, .int 0 2450, .int 0 2451, .int 0 2452, .int 0 2453, .int 0 2454, .int 13 2455, .int 11 2456, .int 9 2457, .int 4294966783 2458, .int 0 2459, .int 0 2460, .int 2147483648 2461, .int 0 2462, .int 0 2463, .int 0 2464, .int 0 2465, .int 0 2466, .int 1 2467] 0, #[]⟩
noncomputable def o142 (P : Params) : Obj := ⟨.type "dict", none, .dict #[] 0, #[]⟩
noncomputable def o143 (P : Params) : Obj := ⟨.type "tuple", none, .seq #[.none] 0, #[]⟩
noncomputable def o144 (P : Params) : Obj := ⟨.type "tuple", none, .seq #[.int 14 0, .int 14 0, .int 4 0, .int 1 0, .int 1 0, .int 9 0, .int 4294966783 0, .int 0 0, .int 0 0, .int 2147483648 0, .int 0 0, .int 0 0, .int 0 0, .int 0 0, .int 0 0, .int 13 0, .int 11 0, .int 9 0, .int 4294966783 0, .int 0 0, .int 0 0, .int 2147483648 0, .int 0 0, .int 0 0, .int 0 0, .int 0 0, .int 0 0, .int 1 0] 0, #[]⟩
noncomputable def o145 (P : Params) : Obj := ⟨.type "re.Pattern", none, .fields #[.str (S "[\\x00-\\x08\\x0A-\\x1F\\x7F]") 2438, .int 32 2469, .int 0 0, .none, .none, .ref 144, .int 0 0], #[]⟩
noncomputable def o146 (P : Params) : Obj := ⟨.type "tuple", none, .seq #[.none, .int 1 2471] 0, #[]⟩
noncomputable def o147 (P : Params) : Obj := ⟨.type "tuple", none, .seq #[] 0, #[]⟩
noncomputable def o148 (P : Params) : Obj := ⟨.none, none, .fields #[], #[]⟩
noncomputable def o149 (P : Params) : Obj := ⟨.type "tuple", none, .seq #[.str (S "param") 2475, .str (S "value") 2476, .str (S "quote") 2477] 0, #[]⟩
noncomputable def o150 (P : Params) : Obj := ⟨.type "tuple", none, .seq #[] 0, #[]⟩
noncomputable def o151 (P : Params) : Obj := ⟨.none, none, .func { name := (S "_formatparam"), qualname := (S "_formatparam"), params := paramsOf (St 17), body := .stmts (bodyOf (St 17)), scope := scopeOf (St 17), globals := 0, closure := [], defaults := .none, kwdefaults := .none, doc := .none, pyModule := .none, annotations := none, code := .none, closureTuple := .none, builtins := 0 }, #[]⟩
noncomputable def o152 (P : Params) : Obj := ⟨.type "code", none, .fields #[.str (S "_formatparam") 2472, .str (S "_formatparam") 2473, .str (S "/claim/cut.py") 2474, .int 92 0, .int 3 0, .int 0 0, .int 0 0, .int 3 0, .ref 147, .bool true, .int 276 0, .ref 148, .none, .ref 149, .ref 150, .ref 151, .int 2478 0, .int 92 0, .str (S "/claim/cut.py") 2479], #[]⟩
noncomputable def o153 (P : Params) : Obj := ⟨.type "function", none, .func { name := (S "_formatparam"), qualname := (S "_formatparam"), params := paramsOf (St 17), body := .stmts (bodyOf (St 17)), scope := scopeOf (St 17), globals := 3, closure := [], defaults := .ref 146, kwdefaults := .none, doc := .none, pyModule := .str (S "cpy313.wsgiref.headers") 2375, annotations := none, code := .ref 152, closureTuple := .none, builtins := 0 }, #[]⟩
noncomputable def o154 (P : Params) : Obj := ⟨.type "tuple", none, .seq #[] 0, #[]⟩
noncomputable def o155 (P : Params) : Obj := ⟨.type "builtin_function_or_method", none, .fields #[.builtin "type.__prepare__", .type "type"], #[]⟩
noncomputable def o156 (P : Params) : Obj := ⟨.type "dict", none, .dict #[⟨(PyData.keyHash P (S "__module__")), .str (S "__module__") 2488, .str (S "cpy313.wsgiref.headers") 2375⟩, ⟨(PyData.keyHash P (S "__qualname__")), .str (S "__qualname__") 2490, .str (S "Headers") 2489⟩, ⟨(PyData.keyHash P (S "__firstlineno__")), .str (S "__firstlineno__") 2492, .int 101 2491⟩, ⟨(PyData.keyHash P (S "__init__")), .str (S "__init__") 2502, .ref 168⟩, ⟨(PyData.keyHash P (S "_convert_string_type")), .str (S "_convert_string_type") 2512, .ref 175⟩, ⟨(PyData.keyHash P (S "__len__")), .str (S "__len__") 2519, .ref 182⟩, ⟨(PyData.keyHash P (S "__setitem__")), .str (S "__setitem__") 2528, .ref 189⟩, ⟨(PyData.keyHash P (S "__delitem__")), .str (S "__delitem__") 2534, .ref 194⟩, ⟨(PyData.keyHash P (S "__getitem__")), .str (S "__getitem__") 2542, .ref 201⟩, ⟨(PyData.keyHash P (S "__contains__")), .str (S "__contains__") 2550, .ref 208⟩, ⟨(PyData.keyHash P (S "get_all")), .str (S "get_all") 2558, .ref 215⟩, ⟨(PyData.keyHash P (S "get")), .str (S "get") 2569, .ref 223⟩, ⟨(PyData.keyHash P (S "keys")), .str (S "keys") 2575, .ref 228⟩, ⟨(PyData.keyHash P (S "values")), .str (S "values") 2581, .ref 233⟩, ⟨(PyData.keyHash P (S "items")), .str (S "items") 2588, .ref 240⟩, ⟨(PyData.keyHash P (S "__repr__")), .str (S "__repr__") 2595, .ref 247⟩, ⟨(PyData.keyHash P (S "__str__")), .str (S "__str__") 2601, .ref 252⟩, ⟨(PyData.keyHash P (S "__bytes__")), .str (S "__bytes__") 2608, .ref 259⟩, ⟨(PyData.keyHash P (S "setdefault")), .str (S "setdefault") 2618, .ref 266⟩, ⟨(PyData.keyHash P (S "add_header")), .str (S "add_header") 2631, .ref 273⟩, ⟨(PyData.keyHash P (S "__static_attributes__")), .str (S "__static_attributes__") 2633, .ref 274⟩] 21, #[]⟩
noncomputable def o157 (P : Params) : Obj := ⟨.type "tuple", none, .seq #[] 0, #[]⟩
noncomputable def o158 (P : Params) : Obj := ⟨.none, none, .fields #[.int 103 0, .int 4 0, .ref 167, .int 113 0, .int 4 0, .ref 174, .int 121 0, .int 4 0, .ref 181, .int 124 0, .int 4 0, .ref 188, .int 128 0, .int 4 0, .ref 193, .int 132 0, .int 4 0, .ref 200, .int 135 0, .int 4 0, .ref 207, .int 138 0, .int 4 0, .ref 214, .int 141 0, .int 4 0, .ref 222, .int 148 0, .int 4 0, .ref 227, .int 151 0, .int 4 0, .ref 232, .int 154 0, .int 4 0, .ref 239, .int 157 0, .int 4 0, .ref 246, .int 160 0, .int 4 0, .ref 251, .int 163 0, .int 4 0, .ref 258, .int 166 0, .int 4 0, .ref 265, .int 174 0, .int 4 0, .ref 272], #[]⟩
noncomputable def o159 (P : Params) : Obj := ⟨.type "code", none, .fields #[.str (S "Headers") 2483, .str (S "Headers") 2484, .str (S "/claim/cut.py") 2485, .int 101 0, .int 0 0, .int 0 0, .int 0 0, .int 0 0, .ref 157, .bool false, .int 276 0, .ref 158, .none, .none, .none, .none, .int 2486 0, .int 101 0, .str (S "/claim/cut.py") 2487], #[]⟩
noncomputable def o160 (P : Params) : Obj := ⟨.type "frame", none, .plain, #[(some (.ref 159)), (some (.ref 3)), (some (.ref 156)), none, (some (.str (S "cpy313.wsgiref.headers") 2375)), none, (some (.ref 0))]⟩
noncomputable def o161 (P : Params) : Obj := ⟨.type "tuple", none, .seq #[.none] 0, #[]⟩
noncomputable def o162 (P : Params) : Obj := ⟨.type "tuple", none, .seq #[] 0, #[]⟩
noncomputable def o163 (P : Params) : Obj := ⟨.none, none, .fields #[], #[]⟩
noncomputable def o164 (P : Params) : Obj := ⟨.type "tuple", none, .seq #[.str (S "self") 2496, .str (S "headers") 2497, .str (S "k") 2498, .str (S "v") 2499] 0, #[]⟩
noncomputable def o165 (P : Params) : Obj := ⟨.type "tuple", none, .seq #[] 0, #[]⟩
noncomputable def o166 (P : Params) : Obj := ⟨.none, none, .func { name := (S "__init__"), qualname := (S "Headers.__init__"), params := paramsOf (Mt 0), body := .stmts (bodyOf (Mt 0)), scope := scopeOf (Mt 0), globals := 0, closure := [], defaults := .none, kwdefaults := .none, doc := .none, pyModule := .none, annotations := none, code := .none, closureTuple := .none, builtins := 0 }, #[]⟩
noncomputable def o167 (P : Params) : Obj := ⟨.type "code", none, .fields #[.str (S "__init__") 2493, .str (S "Headers.__init__") 2494, .str (S "/claim/cut.py") 2495, .int 103 0, .int 2 0, .int 0 0, .int 0 0, .int 3 0, .ref 162, .bool true, .int 276 0, .ref 163, .none, .ref 164, .ref 165, .ref 166, .int 2500 0, .int 103 0, .str (S "/claim/cut.py") 2501], #[]⟩
noncomputable def o168 (P : Params) : Obj := ⟨.type "function", none, .func { name := (S "__init__"), qualname := (S "Headers.__init__"), params := paramsOf (Mt 0), body := .stmts (bodyOf (Mt 0)), scope := scopeOf (Mt 0), globals := 3, closure := [], defaults := .ref 161, kwdefaults := .none, doc := .none, pyModule := .str (S "cpy313.wsgiref.headers") 2375, annotations := none, code := .ref 167, closureTuple := .none, builtins := 0 }, #[]⟩
noncomputable def o169 (P : Params) : Obj := ⟨.type "tuple", none, .seq #[] 0, #[]⟩
noncomputable def o170 (P : Params) : Obj := ⟨.none, none, .fields #[], #[]⟩
noncomputable def o171 (P : Params) : Obj := ⟨.type "tuple", none, .seq #[.str (S "self") 2506, .str (S "value") 2507, .str (S "name") 2508, .str (S "regex") 2509] 0, #[]⟩
noncomputable def o172 (P : Params) : Obj := ⟨.type "tuple", none, .seq #[] 0, #[]⟩
noncomputable def o173 (P : Params) : Obj := ⟨.none, none, .func { name := (S "_convert_string_type"), qualname := (S "Headers._convert_string_type"), params := paramsOf (Mt 1), body := .stmts (bodyOf (Mt 1)), scope := scopeOf (Mt 1), globals := 0, closure := [], defaults := .none, kwdefaults := .none, doc := .none, pyModule := .none, annotations := none, code := .none, closureTuple := .none, builtins := 0 }, #[]⟩
noncomputable def o174 (P : Params) : Obj := ⟨.type "code", none, .fields #[.str (S "_convert_string_type") 2503, .str (S "Headers._convert_string_type") 2504, .str (S "/claim/cut.py") 2505, .int 113 0, .int 2 0, .int 0 0, .int 1 0, .int 3 0, .ref 169, .bool true, .int 276 0, .ref 170, .none, .ref 171, .ref 172, .ref 173, .int 2510 0, .int 113 0, .str (S "/claim/cut.py") 2511], #[]⟩
noncomputable def o175 (P : Params) : Obj := ⟨.type "function", none, .func { name := (S "_convert_string_type"), qualname := (S "Headers._convert_string_type"), params := paramsOf (Mt 1), body := .stmts (bodyOf (Mt 1)), scope := scopeOf (Mt 1), globals := 3, closure := [], defaults := .none, kwdefaults := .none, doc := .none, pyModule := .str (S "cpy313.wsgiref.headers") 2375, annotations := none, code := .ref 174, closureTuple := .none, builtins := 0 }, #[]⟩
noncomputable def o176 (P : Params) : Obj := ⟨.type "tuple", none, .seq #[] 0, #[]⟩
noncomputable def o177 (P : Params) : Obj := ⟨.none, none, .fields #[], #[]⟩
noncomputable def o178 (P : Params) : Obj := ⟨.type "tuple", none, .seq #[.str (S "self") 2516] 0, #[]⟩
noncomputable def o179 (P : Params) : Obj := ⟨.type "tuple", none, .seq #[] 0, #[]⟩
noncomputable def o180 (P : Params) : Obj := ⟨.none, none, .func { name := (S "__len__"), qualname := (S "Headers.__len__"), params := paramsOf (Mt 2), body := .stmts (bodyOf (Mt 2)), scope := scopeOf (Mt 2), globals := 0, closure := [], defaults := .none, kwdefaults := .none, doc := .none, pyModule := .none, annotations := none, code := .none, closureTuple := .none, builtins := 0 }, #[]⟩
noncomputable def o181 (P : Params) : Obj := ⟨.type "code", none, .fields #[.str (S "__len__") 2513, .str (S "Headers.__len__") 2514, .str (S "/claim/cut.py") 2515, .int 121 0, .int 1 0, .int 0 0, .int 0 0, .int 3 0, .ref 176, .bool true, .int 276 0, .ref 177, .none, .ref 178, .ref 179, .ref 180, .int 2517 0, .int 121 0, .str (S "/claim/cut.py") 2518], #[]⟩
noncomputable def o182 (P : Params) : Obj := ⟨.type "function", none, .func { name := (S "__len__"), qualname := (S "Headers.__len__"), params := paramsOf (Mt 2), body := .stmts (bodyOf (Mt 2)), scope := scopeOf (Mt 2), globals := 3, closure := [], defaults := .none, kwdefaults := .none, doc := .none, pyModule := .str (S "cpy313.wsgiref.headers") 2375, annotations := none, code := .ref 181, closureTuple := .none, builtins := 0 }, #[]⟩
noncomputable def o183 (P : Params) : Obj := ⟨.type "tuple", none, .seq #[] 0, #[]⟩
noncomputable def o184 (P : Params) : Obj := ⟨.none, none, .fields #[], #[]⟩
noncomputable def o185 (P : Params) : Obj := ⟨.type "tuple", none, .seq #[.str (S "self") 2523, .str (S "name") 2524, .str (S "val") 2525] 0, #[]⟩
noncomputable def o186 (P : Params) : Obj := ⟨.type "tuple", none, .seq #[] 0, #[]⟩
noncomputable def o187 (P : Params) : Obj := ⟨.none, none, .func { name := (S "__setitem__"), qualname := (S "Headers.__setitem__"), params := paramsOf (Mt 3), body := .stmts (bodyOf (Mt 3)), scope := scopeOf (Mt 3), globals := 0, closure := [], defaults := .none, kwdefaults := .none, doc := .none, pyModule := .none, annotations := none, code := .none, closureTuple := .none, builtins := 0 }, #[]⟩
noncomputable def o188 (P : Params) : Obj := ⟨.type "code", none, .fields #[.str (S "__setitem__") 2520, .str (S "Headers.__setitem__") 2521, .str (S "/claim/cut.py") 2522, .int 124 0, .int 3 0, .int 0 0, .int 0 0, .int 3 0, .ref 183, .bool true, .int 276 0, .ref 184, .none, .ref 185, .ref 186, .ref 187, .int 2526 0, .int 124 0, .str (S "/claim/cut.py") 2527], #[]⟩
noncomputable def o189 (P : Params) : Obj := ⟨.type "function", none, .func { name := (S "__setitem__"), qualname := (S "Headers.__setitem__"), params := paramsOf (Mt 3), body := .stmts (bodyOf (Mt 3)), scope := scopeOf (Mt 3), globals := 3, closure := [], defaults := .none, kwdefaults := .none, doc := .none, pyModule := .str (S "cpy313.wsgiref.headers") 2375, annotations := none, code := .ref 188, closureTuple := .none, builtins := 0 }, #[]⟩
noncomputable def o190 (P : Params) : Obj := ⟨.type "tuple", none, .seq #[] 0, #[]⟩
noncomputable def o191 (P : Params) : Obj := ⟨.none, none, .fields #[], #[]⟩
noncomputable def o192 (P : Params) : Obj := ⟨.none, none, .func { name := (S "__delitem__"), qualname := (S "Headers.__delitem__"), params := paramsOf (Mt 4), body := .stmts (bodyOf (Mt 4)), scope := scopeOf (Mt 4), globals := 0, closure := [], defaults := .none, kwdefaults := .none, doc := .none, pyModule := .none, annotations := none, code := .none, closureTuple := .none, builtins := 0 }, #[]⟩
noncomputable def o193 (P : Params) : Obj := ⟨.type "code", none, .fields #[.str (S "__delitem__") 2529, .str (S "Headers.__delitem__") 2530, .str (S "/claim/cut.py") 2531, .int 128 0, .int 2 0, .int 0 0, .int 0 0, .int 3 0, .ref 190, .bool true, .int 276 0, .ref 191, .none, .none, .none, .ref 192, .int 2532 0, .int 128 0, .str (S "/claim/cut.py") 2533], #[]⟩
noncomputable def o194 (P : Params) : Obj := ⟨.type "function", none, .func { name := (S "__delitem__"), qualname := (S "Headers.__delitem__"), params := paramsOf (Mt 4), body := .stmts (bodyOf (Mt 4)), scope := scopeOf (Mt 4), globals := 3, closure := [], defaults := .none, kwdefaults := .none, doc := .none, pyModule := .str (S "cpy313.wsgiref.headers") 2375, annotations := none, code := .ref 193, closureTuple := .none, builtins := 0 }, #[]⟩
noncomputable def o195 (P : Params) : Obj := ⟨.type "tuple", none, .seq #[] 0, #[]⟩
noncomputable def o196 (P : Params) : Obj := ⟨.none, none, .fields #[], #[]⟩
noncomputable def o197 (P : Params) : Obj := ⟨.type "tuple", none, .seq #[.str (S "self") 2538, .str (S "name") 2539] 0, #[]⟩
noncomputable def o198 (P : Params) : Obj := ⟨.type "tuple", none, .seq #[] 0, #[]⟩
noncomputable def o199 (P : Params) : Obj := ⟨.none, none, .func { name := (S "__getitem__"), qualname := (S "Headers.__getitem__"), params := paramsOf (Mt 5), body := .stmts (bodyOf (Mt 5)), scope := scopeOf (Mt 5), globals := 0, closure := [], defaults := .none, kwdefaults := .none, doc := .none, pyModule := .none, annotations := none, code := .none, closureTuple := .none, builtins := 0 }, #[]⟩
noncomputable def o200 (P : Params) : Obj := ⟨.type "code", none, .fields #[.str (S "__getitem__") 2535, .str (S "Headers.__getitem__") 2536, .str (S "/claim/cut.py") 2537, .int 132 0, .int 2 0, .int 0 0, .int 0 0, .int 3 0, .ref 195, .bool true, .int 276 0, .ref 196, .none, .ref 197, .ref 198, .ref 199, .int 2540 0, .int 132 0, .str (S "/claim/cut.py") 2541], #[]⟩
noncomputable def o201 (P : Params) : Obj := ⟨.type "function", none, .func { name := (S "__getitem__"), qualname := (S "Headers.__getitem__"), params := paramsOf (Mt 5), body := .stmts (bodyOf (Mt 5)), scope := scopeOf (Mt 5), globals := 3, closure := [], defaults := .none, kwdefaults := .none, doc := .none, pyModule := .str (S "cpy313.wsgiref.headers") 2375, annotations := none, code := .ref 200, closureTuple := .none, builtins := 0 }, #[]⟩
noncomputable def o202 (P : Params) : Obj := ⟨.type "tuple", none, .seq #[] 0, #[]⟩
noncomputable def o203 (P : Params) : Obj := ⟨.none, none, .fields #[], #[]⟩
noncomputable def o204 (P : Params) : Obj := ⟨.type "tuple", none, .seq #[.str (S "self") 2546, .str (S "name") 2547] 0, #[]⟩
noncomputable def o205 (P : Params) : Obj := ⟨.type "tuple", none, .seq #[] 0, #[]⟩
noncomputable def o206 (P : Params) : Obj := ⟨.none, none, .func { name := (S "__contains__"), qualname := (S "Headers.__contains__"), params := paramsOf (Mt 6), body := .stmts (bodyOf (Mt 6)), scope := scopeOf (Mt 6), globals := 0, closure := [], defaults := .none, kwdefaults := .none, doc := .none, pyModule := .none, annotations := none, code := .none, closureTuple := .none, builtins := 0 }, #[]⟩
noncomputable def o207 (P : Params) : Obj := ⟨.type "code", none, .fields #[.str (S "__contains__") 2543, .str (S "Headers.__contains__") 2544, .str (S "/claim/cut.py") 2545, .int 135 0, .int 2 0, .int 0 0, .int 0 0, .int 3 0, .ref 202, .bool true, .int 276 0, .ref 203, .none, .ref 204, .ref 205, .ref 206, .int 2548 0, .int 135 0, .str (S "/claim/cut.py") 2549], #[]⟩
noncomputable def o208 (P : Params) : Obj := ⟨.type "function", none, .func { name := (S "__contains__"), qualname := (S "Headers.__contains__"), params := paramsOf (Mt 6), body := .stmts (bodyOf (Mt 6)), scope := scopeOf (Mt 6), globals := 3, closure := [], defaults := .none, kwdefaults := .none, doc := .none, pyModule := .str (S "cpy313.wsgiref.headers") 2375, annotations := none, code := .ref 207, closureTuple := .none, builtins := 0 }, #[]⟩
noncomputable def o209 (P : Params) : Obj := ⟨.type "tuple", none, .seq #[] 0, #[]⟩
noncomputable def o210 (P : Params) : Obj := ⟨.none, none, .fields #[], #[]⟩
noncomputable def o211 (P : Params) : Obj := ⟨.type "tuple", none, .seq #[.str (S "self") 2554, .str (S "name") 2555] 0, #[]⟩
noncomputable def o212 (P : Params) : Obj := ⟨.type "tuple", none, .seq #[] 0, #[]⟩
noncomputable def o213 (P : Params) : Obj := ⟨.none, none, .func { name := (S "get_all"), qualname := (S "Headers.get_all"), params := paramsOf (Mt 7), body := .stmts (bodyOf (Mt 7)), scope := scopeOf (Mt 7), globals := 0, closure := [], defaults := .none, kwdefaults := .none, doc := .none, pyModule := .none, annotations := none, code := .none, closureTuple := .none, builtins := 0 }, #[]⟩
noncomputable def o214 (P : Params) : Obj := ⟨.type "code", none, .fields #[.str (S "get_all") 2551, .str (S "Headers.get_all") 2552, .str (S "/claim/cut.py") 2553, .int 138 0, .int 2 0, .int 0 0, .int 0 0, .int 3 0, .ref 209, .bool true, .int 276 0, .ref 210, .none, .ref 211, .ref 212, .ref 213, .int 2556 0, .int 138 0, .str (S "/claim/cut.py") 2557], #[]⟩
noncomputable def o215 (P : Params) : Obj := ⟨.type "function", none, .func { name := (S "get_all"), qualname := (S "Headers.get_all"), params := paramsOf (Mt 7), body := .stmts (bodyOf (Mt 7)), scope := scopeOf (Mt 7), globals := 3, closure := [], defaults := .none, kwdefaults := .none, doc := .none, pyModule := .str (S "cpy313.wsgiref.headers") 2375, annotations := none, code := .ref 214, closureTuple := .none, builtins := 0 }, #[]⟩
noncomputable def o216 (P : Params) : Obj := ⟨.type "tuple", none, .seq #[.none] 0, #[]⟩
noncomputable def o217 (P : Params) : Obj := ⟨.type "tuple", none, .seq #[] 0, #[]⟩
noncomputable def o218 (P : Params) : Obj := ⟨.none, none, .fields #[], #[]⟩
noncomputable def o219 (P : Params) : Obj := ⟨.type "tuple", none, .seq #[.str (S "self") 2562, .str (S "name") 2563, .str (S "default") 2564, .str (S "k") 2565, .str (S "v") 2566] 0, #[]⟩
noncomputable def o220 (P : Params) : Obj := ⟨.type "tuple", none, .seq #[] 0, #[]⟩
noncomputable def o221 (P : Params) : Obj := ⟨.none, none, .func { name := (S "get"), qualname := (S "Headers.get"), params := paramsOf (Mt 8), body := .stmts (bodyOf (Mt 8)), scope := scopeOf (Mt 8), globals := 0, closure := [], defaults := .none, kwdefaults := .none, doc := .none, pyModule := .none, annotations := none, code := .none, closureTuple := .none, builtins := 0 }, #[]⟩
noncomputable def o222 (P : Params) : Obj := ⟨.type "code", none, .fields #[.str (S "get") 2559, .str (S "Headers.get") 2560, .str (S "/claim/cut.py") 2561, .int 141 0, .int 3 0, .int 0 0, .int 0 0, .int 3 0, .ref 217, .bool true, .int 276 0, .ref 218, .none, .ref 219, .ref 220, .ref 221, .int 2567 0, .int 141 0, .str (S "/claim/cut.py") 2568], #[]⟩
noncomputable def o223 (P : Params) : Obj := ⟨.type "function", none, .func { name := (S "get"), qualname := (S "Headers.get"), params := paramsOf (Mt 8), body := .stmts (bodyOf (Mt 8)), scope := scopeOf (Mt 8), globals := 3, closure := [], defaults := .ref 216, kwdefaults := .none, doc := .none, pyModule := .str (S "cpy313.wsgiref.headers") 2375, annotations := none, code := .ref 222, closureTuple := .none, builtins := 0 }, #[]⟩
noncomputable def o224 (P : Params) : Obj := ⟨.type "tuple", none, .seq #[] 0, #[]⟩
noncomputable def o225 (P : Params) : Obj := ⟨.none, none, .fields #[], #[]⟩
noncomputable def o226 (P : Params) : Obj := ⟨.none, none, .func { name := (S "keys"), qualname := (S "Headers.keys"), params := paramsOf (Mt 9), body := .stmts (bodyOf (Mt 9)), scope := scopeOf (Mt 9), globals := 0, closure := [], defaults := .none, kwdefaults := .none, doc := .none, pyModule := .none, annotations := none, code := .none, closureTuple := .none, builtins := 0 }, #[]⟩
noncomputable def o227 (P : Params) : Obj := ⟨.type "code", none, .fields #[.str (S "keys") 2570, .str (S "Headers.keys") 2571, .str (S "/claim/cut.py") 2572, .int 148 0, .int 1 0, .int 0 0, .int 0 0, .int 3 0, .ref 224, .bool true, .int 276 0, .ref 225, .none, .none, .none, .ref 226, .int 2573 0, .int 148 0, .str (S "/claim/cut.py") 2574], #[]⟩
noncomputable def o228 (P : Params) : Obj := ⟨.type "function", none, .func { name := (S "keys"), qualname := (S "Headers.keys"), params := paramsOf (Mt 9), body := .stmts (bodyOf (Mt 9)), scope := scopeOf (Mt 9), globals := 3, closure := [], defaults := .none, kwdefaults := .none, doc := .none, pyModule := .str (S "cpy313.wsgiref.headers") 2375, annotations := none, code := .ref 227, closureTuple := .none, builtins := 0 }, #[]⟩
noncomputable def o229 (P : Params) : Obj := ⟨.type "tuple", none, .seq #[] 0, #[]⟩
noncomputable def o230 (P : Params) : Obj := ⟨.none, none, .fields #[], #[]⟩
noncomputable def o231 (P : Params) : Obj := ⟨.none, none, .func { name := (S "values"), qualname := (S "Headers.values"), params := paramsOf (Mt 10), body := .stmts (bodyOf (Mt 10)), scope := scopeOf (Mt 10), globals := 0, closure := [], defaults := .none, kwdefaults := .none, doc := .none, pyModule := .none, annotations := none, code := .none, closureTuple := .none, builtins := 0 }, #[]⟩
noncomputable def o232 (P : Params) : Obj := ⟨.type "code", none, .fields #[.str (S "values") 2576, .str (S "Headers.values") 2577, .str (S "/claim/cut.py") 2578, .int 151 0, .int 1 0, .int 0 0, .int 0 0, .int 3 0, .ref 229, .bool true, .int 276 0, .ref 230, .none, .none, .none, .ref 231, .int 2579 0, .int 151 0, .str (S "/claim/cut.py") 2580], #[]⟩
noncomputable def o233 (P : Params) : Obj := ⟨.type "function", none, .func { name := (S "values"), qualname := (S "Headers.values"), params := paramsOf (Mt 10), body := .stmts (bodyOf (Mt 10)), scope := scopeOf (Mt 10), globals := 3, closure := [], defaults := .none, kwdefaults := .none, doc := .none, pyModule := .str (S "cpy313.wsgiref.headers") 2375, annotations := none, code := .ref 232, closureTuple := .none, builtins := 0 }, #[]⟩
noncomputable def o234 (P : Params) : Obj := ⟨.type "tuple", none, .seq #[] 0, #[]⟩
noncomputable def o235 (P : Params) : Obj := ⟨.none, none, .fields #[], #[]⟩
noncomputable def o236 (P : Params) : Obj := ⟨.type "tuple", none, .seq #[.str (S "self") 2585] 0, #[]⟩
noncomputable def o237 (P : Params) : Obj := ⟨.type "tuple", none, .seq #[] 0, #[]⟩
noncomputable def o238 (P : Params) : Obj := ⟨.none, none, .func { name := (S "items"), qualname := (S "Headers.items"), params := paramsOf (Mt 11), body := .stmts (bodyOf (Mt 11)), scope := scopeOf (Mt 11), globals := 0, closure := [], defaults := .none, kwdefaults := .none, doc := .none, pyModule := .none, annotations := none, code := .none, closureTuple := .none, builtins := 0 }, #[]⟩
noncomputable def o239 (P : Params) : Obj := ⟨.type "code", none, .fields #[.str (S "items") 2582, .str (S "Headers.items") 2583, .str (S "/claim/cut.py") 2584, .int 154 0, .int 1 0, .int 0 0, .int 0 0, .int 3 0, .ref 234, .bool true, .int 276 0, .ref 235, .none, .ref 236, .ref 237, .ref 238, .int 2586 0, .int 154 0, .str (S "/claim/cut.py") 2587], #[]⟩
noncomputable def o240 (P : Params) : Obj := ⟨.type "function", none, .func { name := (S "items"), qualname := (S "Headers.items"), params := paramsOf (Mt 11), body := .stmts (bodyOf (Mt 11)), scope := scopeOf (Mt 11), globals := 3, closure := [], defaults := .none, kwdefaults := .none, doc := .none, pyModule := .str (S "cpy313.wsgiref.headers") 2375, annotations := none, code := .ref 239, closureTuple := .none, builtins := 0 }, #[]⟩
noncomputable def o241 (P : Params) : Obj := ⟨.type "tuple", none, .seq #[] 0, #[]⟩
noncomputable def o242 (P : Params) : Obj := ⟨.none, none, .fields #[], #[]⟩
noncomputable def o243 (P : Params) : Obj := ⟨.type "tuple", none, .seq #[.str (S "self") 2592] 0, #[]⟩
noncomputable def o244 (P : Params) : Obj := ⟨.type "tuple", none, .seq #[] 0, #[]⟩
noncomputable def o245 (P : Params) : Obj := ⟨.none, none, .func { name := (S "__repr__"), qualname := (S "Headers.__repr__"), params := paramsOf (Mt 12), body := .stmts (bodyOf (Mt 12)), scope := scopeOf (Mt 12), globals := 0, closure := [], defaults := .none, kwdefaults := .none, doc := .none, pyModule := .none, annotations := none, code := .none, closureTuple := .none, builtins := 0 }, #[]⟩
noncomputable def o246 (P : Params) : Obj := ⟨.type "code", none, .fields #[.str (S "__repr__") 2589, .str (S "Headers.__repr__") 2590, .str (S "/claim/cut.py") 2591, .int 157 0, .int 1 0, .int 0 0, .int 0 0, .int 3 0, .ref 241, .bool true, .int 276 0, .ref 242, .none, .ref 243, .ref 244, .ref 245, .int 2593 0, .int 157 0, .str (S "/claim/cut.py") 2594], #[]⟩
noncomputable def o247 (P : Params) : Obj := ⟨.type "function", none, .func { name := (S "__repr__"), qualname := (S "Headers.__repr__"), params := paramsOf (Mt 12), body := .stmts (bodyOf (Mt 12)), scope := scopeOf (Mt 12), globals := 3, closure := [], defaults := .none, kwdefaults := .none, doc := .none, pyModule := .str (S "cpy313.wsgiref.headers") 2375, annotations := none, code := .ref 246, closureTuple := .none, builtins := 0 }, #[]⟩
noncomputable def o248 (P : Params) : Obj := ⟨.type "tuple", none, .seq #[] 0, #[]⟩
noncomputable def o249 (P : Params) : Obj := ⟨.none, none, .fields #[], #[]⟩
noncomputable def o250 (P : Params) : Obj := ⟨.none, none, .func { name := (S "__str__"), qualname := (S "Headers.__str__"), params := paramsOf (Mt 13), body := .stmts (bodyOf (Mt 13)), scope := scopeOf (Mt 13), globals := 0, closure := [], defaults := .none, kwdefaults := .none, doc := .none, pyModule := .none, annotations := none, code := .none, closureTuple := .none, builtins := 0 }, #[]⟩
noncomputable def o251 (P : Params) : Obj := ⟨.type "code", none, .fields #[.str (S "__str__") 2596, .str (S "Headers.__str__") 2597, .str (S "/claim/cut.py") 2598, .int 160 0, .int 1 0, .int 0 0, .int 0 0, .int 3 0, .ref 248, .bool true, .int 276 0, .ref 249, .none, .none, .none, .ref 250, .int 2599 0, .int 160 0, .str (S "/claim/cut.py") 2600], #[]⟩
noncomputable def o252 (P : Params) : Obj := ⟨.type "function", none, .func { name := (S "__str__"), qualname := (S "Headers.__str__"), params := paramsOf (Mt 13), body := .stmts (bodyOf (Mt 13)), scope := scopeOf (Mt 13), globals := 3, closure := [], defaults := .none, kwdefaults := .none, doc := .none, pyModule := .str (S "cpy313.wsgiref.headers") 2375, annotations := none, code := .ref 251, closureTuple := .none, builtins := 0 }, #[]⟩
noncomputable def o253 (P : Params) : Obj := ⟨.type "tuple", none, .seq #[] 0, #[]⟩
noncomputable def o254 (P : Params) : Obj := ⟨.none, none, .fields #[], #[]⟩
noncomputable def o255 (P : Params) : Obj := ⟨.type "tuple", none, .seq #[.str (S "self") 2605] 0, #[]⟩
noncomputable def o256 (P : Params) : Obj := ⟨.type "tuple", none, .seq #[] 0, #[]⟩
noncomputable def o257 (P : Params) : Obj := ⟨.none, none, .func { name := (S "__bytes__"), qualname := (S "Headers.__bytes__"), params := paramsOf (Mt 14), body := .stmts (bodyOf (Mt 14)), scope := scopeOf (Mt 14), globals := 0, closure := [], defaults := .none, kwdefaults := .none, doc := .none, pyModule := .none, annotations := none, code := .none, closureTuple := .none, builtins := 0 }, #[]⟩
noncomputable def o258 (P : Params) : Obj := ⟨.type "code", none, .fields #[.str (S "__bytes__") 2602, .str (S "Headers.__bytes__") 2603, .str (S "/claim/cut.py") 2604, .int 163 0, .int 1 0, .int 0 0, .int 0 0, .int 3 0, .ref 253, .bool true, .int 276 0, .ref 254, .none, .ref 255, .ref 256, .ref 257, .int 2606 0, .int 163 0, .str (S "/claim/cut.py") 2607], #[]⟩
noncomputable def o259 (P : Params) : Obj := ⟨.type "function", none, .func { name := (S "__bytes__"), qualname := (S "Headers.__bytes__"), params := paramsOf (Mt 14), body := .stmts (bodyOf (Mt 14)), scope := scopeOf (Mt 14), globals := 3, closure := [], defaults := .none, kwdefaults := .none, doc := .none, pyModule := .str (S "cpy313.wsgiref.headers") 2375, annotations := none, code := .ref 258, closureTuple := .none, builtins := 0 }, #[]⟩
noncomputable def o260 (P : Params) : Obj := ⟨.type "tuple", none, .seq #[] 0, #[]⟩
noncomputable def o261 (P : Params) : Obj := ⟨.none, none, .fields #[], #[]⟩
noncomputable def o262 (P : Params) : Obj := ⟨.type "tuple", none, .seq #[.str (S "self") 2612, .str (S "name") 2613, .str (S "value") 2614, .str (S "result") 2615] 0, #[]⟩
noncomputable def o263 (P : Params) : Obj := ⟨.type "tuple", none, .seq #[] 0, #[]⟩
noncomputable def o264 (P : Params) : Obj := ⟨.none, none, .func { name := (S "setdefault"), qualname := (S "Headers.setdefault"), params := paramsOf (Mt 15), body := .stmts (bodyOf (Mt 15)), scope := scopeOf (Mt 15), globals := 0, closure := [], defaults := .none, kwdefaults := .none, doc := .none, pyModule := .none, annotations := none, code := .none, closureTuple := .none, builtins := 0 }, #[]⟩
noncomputable def o265 (P : Params) : Obj := ⟨.type "code", none, .fields #[.str (S "setdefault") 2609, .str (S "Headers.setdefault") 2610, .str (S "/claim/cut.py") 2611, .int 166 0, .int 3 0, .int 0 0, .int 0 0, .int 3 0, .ref 260, .bool true, .int 276 0, .ref 261, .none, .ref 262, .ref 263, .ref 264, .int 2616 0, .int 166 0, .str (S "/claim/cut.py") 2617], #[]⟩
noncomputable def o266 (P : Params) : Obj := ⟨.type "function", none, .func { name := (S "setdefault"), qualname := (S "Headers.setdefault"), params := paramsOf (Mt 15), body := .stmts (bodyOf (Mt 15)), scope := scopeOf (Mt 15), globals := 3, closure := [], defaults := .none, kwdefaults := .none, doc := .none, pyModule := .str (S "cpy313.wsgiref.headers") 2375, annotations := none, code := .ref 265, closureTuple := .none, builtins := 0 }, #[]⟩
noncomputable def o267 (P : Params) : Obj := ⟨.type "tuple", none, .seq #[] 0, #[]⟩
noncomputable def o268 (P : Params) : Obj := ⟨.none, none, .fields #[], #[]⟩
noncomputable def o269 (P : Params) : Obj := ⟨.type "tuple", none, .seq #[.str (S "self") 2622, .str (S "_name") 2623, .str (S "_value") 2624, .str (S "_params") 2625, .str (S "parts") 2626, .str (S "k") 2627, .str (S "v") 2628] 0, #[]⟩
noncomputable def o270 (P : Params) : Obj := ⟨.type "tuple", none, .seq #[] 0, #[]⟩
noncomputable def o271 (P : Params) : Obj := ⟨.none, none, .func { name := (S "add_header"), qualname := (S "Headers.add_header"), params := paramsOf (Mt 16), body := .stmts (bodyOf (Mt 16)), scope := scopeOf (Mt 16), globals := 0, closure := [], defaults := .none, kwdefaults := .none, doc := .none, pyModule := .none, annotations := none, code := .none, closureTuple := .none, builtins := 0 }, #[]⟩
noncomputable def o272 (P : Params) : Obj := ⟨.type "code", none, .fields #[.str (S "add_header") 2619, .str (S "Headers.add_header") 2620, .str (S "/claim/cut.py") 2621, .int 174 0, .int 3 0, .int 0 0, .int 0 0, .int 11 0, .ref 267, .bool true, .int 276 0, .ref 268, .none, .ref 269, .ref 270, .ref 271, .int 2629 0, .int 174 0, .str (S "/claim/cut.py") 2630], #[]⟩
noncomputable def o273 (P : Params) : Obj := ⟨.type "function", none, .func { name := (S "add_header"), qualname := (S "Headers.add_header"), params := paramsOf (Mt 16), body := .stmts (bodyOf (Mt 16)), scope := scopeOf (Mt 16), globals := 3, closure := [], defaults := .none, kwdefaults := .none, doc := .none, pyModule := .str (S "cpy313.wsgiref.headers") 2375, annotations := none, code := .ref 272, closureTuple := .none, builtins := 0 }, #[]⟩
noncomputable def o274 (P : Params) : Obj := ⟨.type "tuple", none, .seq #[.str (S "_headers") 2632] 0, #[]⟩
noncomputable def o275 (P : Params) : Obj := ⟨.type "dict", none, .dict #[⟨(PyData.keyHash P (S "__module__")), .str (S "__module__") 2488, .str (S "cpy313.wsgiref.headers") 2375⟩, ⟨(PyData.keyHash P (S "__firstlineno__")), .str (S "__firstlineno__") 2492, .int 101 2491⟩, ⟨(PyData.keyHash P (S "__init__")), .str (S "__init__") 2502, .ref 168⟩, ⟨(PyData.keyHash P (S "_convert_string_type")), .str (S "_convert_string_type") 2512, .ref 175⟩, ⟨(PyData.keyHash P (S "__len__")), .str (S "__len__") 2519, .ref 182⟩, ⟨(PyData.keyHash P (S "__setitem__")), .str (S "__setitem__") 2528, .ref 189⟩, ⟨(PyData.keyHash P (S "__delitem__")), .str (S "__delitem__") 2534, .ref 194⟩, ⟨(PyData.keyHash P (S "__getitem__")), .str (S "__getitem__") 2542, .ref 201⟩, ⟨(PyData.keyHash P (S "__contains__")), .str (S "__contains__") 2550, .ref 208⟩, ⟨(PyData.keyHash P (S "get_all")), .str (S "get_all") 2558, .ref 215⟩, ⟨(PyData.keyHash P (S "get")), .str (S "get") 2569, .ref 223⟩, ⟨(PyData.keyHash P (S "keys")), .str (S "keys") 2575, .ref 228⟩, ⟨(PyData.keyHash P (S "values")), .str (S "values") 2581, .ref 233⟩, ⟨(PyData.keyHash P (S "items")), .str (S "items") 2588, .ref 240⟩, ⟨(PyData.keyHash P (S "__repr__")), .str (S "__repr__") 2595, .ref 247⟩, ⟨(PyData.keyHash P (S "__str__")), .str (S "__str__") 2601, .ref 252⟩, ⟨(PyData.keyHash P (S "__bytes__")), .str (S "__bytes__") 2608, .ref 259⟩, ⟨(PyData.keyHash P (S "setdefault")), .str (S "setdefault") 2618, .ref 266⟩, ⟨(PyData.keyHash P (S "add_header")), .str (S "add_header") 2631, .ref 273⟩, ⟨(PyData.keyHash P (S "__static_attributes__")), .str (S "__static_attributes__") 2633, .ref 274⟩, ⟨(PyData.keyHash P (S "__dict__")), .str (S "__dict__") 2635, .ref 277⟩, ⟨(PyData.keyHash P (S "__weakref__")), .str (S "__weakref__") 2637, .ref 278⟩, ⟨(PyData.keyHash P (S "__doc__")), .str (S "__doc__") 2638, .none⟩] 4, #[]⟩
noncomputable def o276 (P : Params) : Obj := ⟨.type "type", none, .cls { name := (S "Headers"), bases := [.type "object"], mro := [.ref 276, .type "object"], ns := 275, qualname := (S "Headers"), hasDict := true, slotNames := [], subclasses := [], abstract := false, collection := none, hasDel := false }, #[none, none, (some (.str (S "Headers") 2481)), (some (.str (S "Headers") 2489)), (some (.builtin "object.__new__")), (some (.bool true))]⟩
noncomputable def o277 (P : Params) : Obj := ⟨.type "getset_descriptor", none, .fields #[.str (S "__dict__") 2634, .ref 276, .builtin "function.__dict__", .builtin "function.__dict__#set"], #[]⟩
noncomputable def o278 (P : Params) : Obj := ⟨.type "getset_descriptor", none, .fields #[.str (S "__weakref__") 2636, .ref 276, .builtin "ExceptionGroup.__weakref__", .none], #[]⟩
noncomputable def o279 (P : Params) : Obj := ⟨.type "super", none, .fields #[.ref 276, .ref 276, .ref 276], #[]⟩
noncomputable def o280 (P : Params) : Obj := ⟨.type "builtin_function_or_method", none, .fields #[.builtin "object.__init_subclass__", .ref 276], #[]⟩
noncomputable def o281 (P : Params) : Obj := ⟨.type "tuple", none, .seq #[] 0, #[]⟩
noncomputable def o282 (P : Params) : Obj := ⟨.none, none, .fields #[], #[]⟩
noncomputable def o283 (P : Params) : Obj := ⟨.type "tuple", none, .seq #[.str (S "mark") 2646, .str (S "line") 2647, .str (S "seen") 2648, .str (S "k") 2649, .str (S "place") 2650, .str (S "letter") 2651, .str (S "form") 2652, .str (S "bold") 2653, .str (S "sign") 2654] 0, #[]⟩
noncomputable def o284 (P : Params) : Obj := ⟨.type "tuple", none, .seq #[] 0, #[]⟩
noncomputable def o285 (P : Params) : Obj := ⟨.none, none, .func { name := (S "_law_line"), qualname := (S "_law_line"), params := paramsOf (St 20), body := .stmts (bodyOf (St 20)), scope := scopeOf (St 20), globals := 0, closure := [], defaults := .none, kwdefaults := .none, doc := .none, pyModule := .none, annotations := none, code := .none, closureTuple := .none, builtins := 0 }, #[]⟩
noncomputable def o286 (P : Params) : Obj := ⟨.type "code", none, .fields #[.str (S "_law_line") 2643, .str (S "_law_line") 2644, .str (S "/claim/cut.py") 2645, .int 188 0, .int 1 0, .int 0 0, .int 0 0, .int 3 0, .ref 281, .bool true, .int 276 0, .ref 282, .none, .ref 283, .ref 284, .ref 285, .int 2655 0, .int 188 0, .str (S "/claim/cut.py") 2656], #[]⟩
noncomputable def o287 (P : Params) : Obj := ⟨.type "function", none, .func { name := (S "_law_line"), qualname := (S "_law_line"), params := paramsOf (St 20), body := .stmts (bodyOf (St 20)), scope := scopeOf (St 20), globals := 3, closure := [], defaults := .none, kwdefaults := .none, doc := .none, pyModule := .str (S "law_wf0109_01") 2641, annotations := none, code := .ref 286, closureTuple := .none, builtins := 0 }, #[]⟩
noncomputable def o288 (P : Params) : Obj := ⟨.type "tuple", none, .seq #[] 0, #[]⟩
noncomputable def o289 (P : Params) : Obj := ⟨.none, none, .fields #[], #[]⟩
noncomputable def o290 (P : Params) : Obj := ⟨.type "tuple", none, .seq #[.str (S "letter") 2661] 0, #[]⟩
noncomputable def o291 (P : Params) : Obj := ⟨.type "tuple", none, .seq #[] 0, #[]⟩
noncomputable def o292 (P : Params) : Obj := ⟨.none, none, .func { name := (S "_law_paint"), qualname := (S "_law_paint"), params := paramsOf (St 21), body := .stmts (bodyOf (St 21)), scope := scopeOf (St 21), globals := 0, closure := [], defaults := .none, kwdefaults := .none, doc := .none, pyModule := .none, annotations := none, code := .none, closureTuple := .none, builtins := 0 }, #[]⟩
noncomputable def o293 (P : Params) : Obj := ⟨.type "code", none, .fields #[.str (S "_law_paint") 2658, .str (S "_law_paint") 2659, .str (S "/claim/cut.py") 2660, .int 203 0, .int 1 0, .int 0 0, .int 0 0, .int 3 0, .ref 288, .bool true, .int 276 0, .ref 289, .none, .ref 290, .ref 291, .ref 292, .int 2662 0, .int 203 0, .str (S "/claim/cut.py") 2663], #[]⟩
noncomputable def o294 (P : Params) : Obj := ⟨.type "function", none, .func { name := (S "_law_paint"), qualname := (S "_law_paint"), params := paramsOf (St 21), body := .stmts (bodyOf (St 21)), scope := scopeOf (St 21), globals := 3, closure := [], defaults := .none, kwdefaults := .none, doc := .none, pyModule := .str (S "law_wf0109_01") 2641, annotations := none, code := .ref 293, closureTuple := .none, builtins := 0 }, #[]⟩
noncomputable def o295 (P : Params) : Obj := ⟨.type "tuple", none, .seq #[] 0, #[]⟩
noncomputable def o296 (P : Params) : Obj := ⟨.none, none, .fields #[], #[]⟩
noncomputable def o297 (P : Params) : Obj := ⟨.type "tuple", none, .seq #[.str (S "red") 2668, .str (S "green") 2669, .str (S "blue") 2670, .str (S "hue") 2671, .str (S "share") 2672, .str (S "level") 2673] 0, #[]⟩
noncomputable def o298 (P : Params) : Obj := ⟨.type "tuple", none, .seq #[] 0, #[]⟩
noncomputable def o299 (P : Params) : Obj := ⟨.none, none, .func { name := (S "_law_named"), qualname := (S "_law_named"), params := paramsOf (St 22), body := .stmts (bodyOf (St 22)), scope := scopeOf (St 22), globals := 0, closure := [], defaults := .none, kwdefaults := .none, doc := .none, pyModule := .none, annotations := none, code := .none, closureTuple := .none, builtins := 0 }, #[]⟩
noncomputable def o300 (P : Params) : Obj := ⟨.type "code", none, .fields #[.str (S "_law_named") 2665, .str (S "_law_named") 2666, .str (S "/claim/cut.py") 2667, .int 207 0, .int 3 0, .int 0 0, .int 0 0, .int 3 0, .ref 295, .bool true, .int 276 0, .ref 296, .none, .ref 297, .ref 298, .ref 299, .int 2674 0, .int 207 0, .str (S "/claim/cut.py") 2675], #[]⟩
noncomputable def o301 (P : Params) : Obj := ⟨.type "function", none, .func { name := (S "_law_named"), qualname := (S "_law_named"), params := paramsOf (St 22), body := .stmts (bodyOf (St 22)), scope := scopeOf (St 22), globals := 3, closure := [], defaults := .none, kwdefaults := .none, doc := .none, pyModule := .str (S "law_wf0109_01") 2641, annotations := none, code := .ref 300, closureTuple := .none, builtins := 0 }, #[]⟩
noncomputable def o302 (P : Params) : Obj := ⟨.type "tuple", none, .seq #[] 0, #[]⟩
noncomputable def o303 (P : Params) : Obj := ⟨.none, none, .fields #[], #[]⟩
noncomputable def o304 (P : Params) : Obj := ⟨.none, none, .func { name := (S "_law_mended"), qualname := (S "_law_mended"), params := paramsOf (St 23), body := .stmts (bodyOf (St 23)), scope := scopeOf (St 23), globals := 0, closure := [], defaults := .none, kwdefaults := .none, doc := .none, pyModule := .none, annotations := none, code := .none, closureTuple := .none, builtins := 0 }, #[]⟩
noncomputable def o305 (P : Params) : Obj := ⟨.type "code", none, .fields #[.str (S "_law_mended") 2677, .str (S "_law_mended") 2678, .str (S "/claim/cut.py") 2679, .int 214 0, .int 1 0, .int 0 0, .int 0 0, .int 3 0, .ref 302, .bool true, .int 276 0, .ref 303, .none, .none, .none, .ref 304, .int 2680 0, .int 214 0, .str (S "/claim/cut.py") 2681], #[]⟩
noncomputable def o306 (P : Params) : Obj := ⟨.type "function", none, .func { name := (S "_law_mended"), qualname := (S "_law_mended"), params := paramsOf (St 23), body := .stmts (bodyOf (St 23)), scope := scopeOf (St 23), globals := 3, closure := [], defaults := .none, kwdefaults := .none, doc := .none, pyModule := .str (S "law_wf0109_01") 2641, annotations := none, code := .ref 305, closureTuple := .none, builtins := 0 }, #[]⟩
noncomputable def o307 (P : Params) : Obj := ⟨.type "tuple", none, .seq #[] 0, #[]⟩
noncomputable def o308 (P : Params) : Obj := ⟨.none, none, .fields #[], #[]⟩
noncomputable def o309 (P : Params) : Obj := ⟨.none, none, .func { name := (S "_law_near"), qualname := (S "_law_near"), params := paramsOf (St 24), body := .stmts (bodyOf (St 24)), scope := scopeOf (St 24), globals := 0, closure := [], defaults := .none, kwdefaults := .none, doc := .none, pyModule := .none, annotations := none, code := .none, closureTuple := .none, builtins := 0 }, #[]⟩
noncomputable def o310 (P : Params) : Obj := ⟨.type "code", none, .fields #[.str (S "_law_near") 2683, .str (S "_law_near") 2684, .str (S "/claim/cut.py") 2685, .int 229 0, .int 1 0, .int 0 0, .int 0 0, .int 3 0, .ref 307, .bool true, .int 276 0, .ref 308, .none, .none, .none, .ref 309, .int 2686 0, .int 229 0, .str (S "/claim/cut.py") 2687], #[]⟩
noncomputable def o311 (P : Params) : Obj := ⟨.type "function", none, .func { name := (S "_law_near"), qualname := (S "_law_near"), params := paramsOf (St 24), body := .stmts (bodyOf (St 24)), scope := scopeOf (St 24), globals := 3, closure := [], defaults := .none, kwdefaults := .none, doc := .none, pyModule := .str (S "law_wf0109_01") 2641, annotations := none, code := .ref 310, closureTuple := .none, builtins := 0 }, #[]⟩
noncomputable def o312 (P : Params) : Obj := ⟨.type "tuple", none, .seq #[] 0, #[]⟩
noncomputable def o313 (P : Params) : Obj := ⟨.none, none, .fields #[], #[]⟩
noncomputable def o314 (P : Params) : Obj := ⟨.none, none, .func { name := (S "law"), qualname := (S "law"), params := paramsOf (St 25), body := .stmts (bodyOf (St 25)), scope := scopeOf (St 25), globals := 0, closure := [], defaults := .none, kwdefaults := .none, doc := .none, pyModule := .none, annotations := none, code := .none, closureTuple := .none, builtins := 0 }, #[]⟩
noncomputable def o315 (P : Params) : Obj := ⟨.type "code", none, .fields #[.str (S "law") 2689, .str (S "law") 2690, .str (S "/claim/cut.py") 2691, .int 241 0, .int 1 0, .int 0 0, .int 0 0, .int 3 0, .ref 312, .bool true, .int 276 0, .ref 313, .none, .none, .none, .ref 314, .int 2692 0, .int 241 0, .str (S "/claim/cut.py") 2693], #[]⟩
noncomputable def o316 (P : Params) : Obj := ⟨.type "function", none, .func { name := (S "law"), qualname := (S "law"), params := paramsOf (St 25), body := .stmts (bodyOf (St 25)), scope := scopeOf (St 25), globals := 3, closure := [], defaults := .none, kwdefaults := .none, doc := .none, pyModule := .str (S "law_wf0109_01") 2641, annotations := none, code := .ref 315, closureTuple := .none, builtins := 0 }, #[]⟩
noncomputable def t_sZ (P : Params) : BT := (.node (o0 P) (.node (o1 P) (.node (o3_sZ P) (.node (o7 P) (.node (o15 P) .nil .nil) (.node (o23 P) .nil .nil)) (.node (o11_sZ P) (.node (o19 P) .nil .nil) (.node (o27 P) .nil .nil))) (.node (o5 P) (.node (o9 P) (.node (o17 P) .nil .nil) (.node (o25 P) .nil .nil)) (.node (o13 P) (.node (o21 P) .nil .nil) .nil))) (.node (o2 P) (.node (o4 P) (.node (o8 P) (.node (o16 P) .nil .nil) (.node (o24 P) .nil .nil)) (.node (o12 P) (.node (o20 P) .nil .nil) .nil)) (.node (o6 P) (.node (o10 P) (.node (o18 P) .nil .nil) (.node (o26 P) .nil .nil)) (.node (o14 P) (.node (o22 P) .nil .nil) .nil))))
noncomputable def sZ (w : World) (os : OsState) : SharedT := ⟨t_sZ w.params, 28, default, #[], {}, 276, os⟩
noncomputable def t_s0 (P : Params) : BT := (.node (o0 P) (.node (o1 P) (.node (o3_sZ P) (.node (o7 P) (.node (o15 P) .nil .nil) (.node (o23 P) .nil .nil)) (.node (o11 P) (.node (o19 P) .nil .nil) (.node (o27 P) .nil .nil))) (.node (o5 P) (.node (o9 P) (.node (o17 P) .nil .nil) (.node (o25 P) .nil .nil)) (.node (o13 P) (.node (o21 P) .nil .nil) .nil))) (.node (o2 P) (.node (o4 P) (.node (o8 P) (.node (o16 P) .nil .nil) (.node (o24 P) .nil .nil)) (.node (o12 P) (.node (o20 P) .nil .nil) .nil)) (.node (o6 P) (.node (o10 P) (.node (o18 P) .nil .nil) (.node (o26 P) .nil .nil)) (.node (o14 P) (.node (o22 P) .nil .nil) .nil))))
noncomputable def s0 (w : World) (os : OsState) : SharedT := ⟨t_s0 w.params, 28, default, #[], {}, 276, os⟩
noncomputable def t_sA (P : Params) : BT := (.node (o0 P) (.node (o1 P) (.node (o3_sZ P) (.node (o7 P) (.node (o15 P) (.node (o31 P) .nil .nil) .nil) (.node (o23 P) .nil .nil)) (.node (o11 P) (.node (o19 P) .nil .nil) (.node (o27 P) .nil .nil))) (.node (o5 P) (.node (o9 P) (.node (o17 P) .nil .nil) (.node (o25 P) .nil .nil)) (.node (o13 P) (.node (o21 P) .nil .nil) (.node (o29_sA P) .nil .nil)))) (.node (o2 P) (.node (o4 P) (.node (o8 P) (.node (o16 P) .nil .nil) (.node (o24 P) .nil .nil)) (.node (o12 P) (.node (o20 P) .nil .nil) (.node (o28 P) .nil .nil))) (.node (o6 P) (.node (o10 P) (.node (o18 P) .nil .nil) (.node (o26 P) .nil .nil)) (.node (o14 P) (.node (o22 P) .nil .nil) (.node (o30 P) .nil .nil)))))
noncomputable def sA (w : World) (os : OsState) : SharedT := ⟨t_sA w.params, 32, default, #[], {}, 282, os⟩
noncomputable def t_sB (P : Params) : BT := (.node (o0 P) (.node (o1 P) (.node (o3_sB P) (.node (o7 P) (.node (o15 P) (.node (o31 P) (.node (o63 P) .nil .nil) .nil) (.node (o47 P) .nil .nil)) (.node (o23 P) (.node (o39 P) .nil .nil) (.node (o55 P) .nil .nil))) (.node (o11 P) (.node (o19 P) (.node (o35 P) .nil .nil) (.node (o51 P) .nil .nil)) (.node (o27 P) (.node (o43 P) .nil .nil) (.node (o59 P) .nil .nil)))) (.node (o5 P) (.node (o9 P) (.node (o17 P) (.node (o33 P) (.node (o65 P) .nil .nil) .nil) (.node (o49 P) .nil .nil)) (.node (o25 P) (.node (o41 P) .nil .nil) (.node (o57 P) .nil .nil))) (.node (o13 P) (.node (o21 P) (.node (o37 P) .nil .nil) (.node (o53 P) .nil .nil)) (.node (o29_sB P) (.node (o45 P) .nil .nil) (.node (o61 P) .nil .nil))))) (.node (o2 P) (.node (o4 P) (.node (o8 P) (.node (o16 P) (.node (o32 P) (.node (o64 P) .nil .nil) .nil) (.node (o48 P) .nil .nil)) (.node (o24 P) (.node (o40 P) .nil .nil) (.node (o56 P) .nil .nil))) (.node (o12 P) (.node (o20 P) (.node (o36 P) .nil .nil) (.node (o52 P) .nil .nil)) (.node (o28 P) (.node (o44 P) .nil .nil) (.node (o60 P) .nil .nil)))) (.node (o6 P) (.node (o10 P) (.node (o18 P) (.node (o34 P) (.node (o66 P) .nil .nil) .nil) (.node (o50 P) .nil .nil)) (.node (o26 P) (.node (o42 P) .nil .nil) (.node (o58 P) .nil .nil))) (.node (o14 P) (.node (o22 P) (.node (o38 P) .nil .nil) (.node (o54 P) .nil .nil)) (.node (o30 P) (.node (o46 P) .nil .nil) (.node (o62 P) .nil .nil))))))
noncomputable def sB (w : World) (os : OsState) : SharedT := ⟨t_sB w.params, 67, default, #[], {}, 349, os⟩
noncomputable def t_sC (P : Params) : BT := (.node (o0 P) (.node (o1 P) (.node (o3_sC P) (.node (o7 P) (.node (o15 P) (.node (o31 P) (.node (o63 P) .nil .nil) .nil) (.node (o47 P) .nil .nil)) (.node (o23 P) (.node (o39 P) (.node (o71 P) .nil .nil) .nil) (.node (o55 P) .nil .nil))) (.node (o11 P) (.node (o19 P) (.node (o35 P) (.node (o67 P) .nil .nil) .nil) (.node (o51 P) .nil .nil)) (.node (o27 P) (.node (o43 P) (.node (o75 P) .nil .nil) .nil) (.node (o59 P) .nil .nil)))) (.node (o5 P) (.node (o9 P) (.node (o17 P) (.node (o33 P) (.node (o65 P) .nil .nil) .nil) (.node (o49 P) .nil .nil)) (.node (o25 P) (.node (o41 P) (.node (o73 P) .nil .nil) .nil) (.node (o57 P) .nil .nil))) (.node (o13 P) (.node (o21 P) (.node (o37 P) (.node (o69 P) .nil .nil) .nil) (.node (o53 P) .nil .nil)) (.node (o29_sB P) (.node (o45 P) (.node (o77 P) .nil .nil) .nil) (.node (o61 P) .nil .nil))))) (.node (o2 P) (.node (o4 P) (.node (o8 P) (.node (o16 P) (.node (o32 P) (.node (o64 P) .nil .nil) .nil) (.node (o48 P) .nil .nil)) (.node (o24 P) (.node (o40 P) (.node (o72 P) .nil .nil) .nil) (.node (o56 P) .nil .nil))) (.node (o12 P) (.node (o20 P) (.node (o36 P) (.node (o68 P) .nil .nil) .nil) (.node (o52 P) .nil .nil)) (.node (o28 P) (.node (o44 P) (.node (o76 P) .nil .nil) .nil) (.node (o60 P) .nil .nil)))) (.node (o6 P) (.node (o10 P) (.node (o18 P) (.node (o34 P) (.node (o66 P) .nil .nil) .nil) (.node (o50 P) .nil .nil)) (.node (o26 P) (.node (o42 P) (.node (o74 P) .nil .nil) .nil) (.node (o58 P) .nil .nil))) (.node (o14 P) (.node (o22 P) (.node (o38 P) (.node (o70 P) .nil .nil) .nil) (.node (o54 P) .nil .nil)) (.node (o30 P) (.node (o46 P) .nil .nil) (.node (o62 P) .nil .nil))))))
noncomputable def sC (w : World) (os : OsState) : SharedT := ⟨t_sC w.params, 78, default, #[], {}, 409, os⟩
noncomputable def t_sD (P : Params) : BT := (.node (o0 P) (.node (o1 P) (.node (o3_sD P) (.node (o7 P) (.node (o15 P) (.node (o31 P) (.node (o63 P) .nil .nil) .nil) (.node (o47 P) (.node (o79 P) .nil .nil) .nil)) (.node (o23 P) (.node (o39 P) (.node (o71 P) .nil .nil) .nil) (.node (o55 P) .nil .nil))) (.node (o11 P) (.node (o19 P) (.node (o35 P) (.node (o67 P) .nil .nil) .nil) (.node (o51 P) (.node (o83 P) .nil .nil) .nil)) (.node (o27 P) (.node (o43 P) (.node (o75 P) .nil .nil) .nil) (.node (o59 P) .nil .nil)))) (.node (o5 P) (.node (o9 P) (.node (o17 P) (.node (o33 P) (.node (o65 P) .nil .nil) .nil) (.node (o49 P) (.node (o81 P) .nil .nil) .nil)) (.node (o25 P) (.node (o41 P) (.node (o73 P) .nil .nil) .nil) (.node (o57 P) .nil .nil))) (.node (o13 P) (.node (o21 P) (.node (o37 P) (.node (o69 P) .nil .nil) .nil) (.node (o53 P) .nil .nil)) (.node (o29_sD P) (.node (o45 P) (.node (o77 P) .nil .nil) .nil) (.node (o61 P) .nil .nil))))) (.node (o2 P) (.node (o4 P) (.node (o8 P) (.node (o16 P) (.node (o32 P) (.node (o64 P) .nil .nil) .nil) (.node (o48 P) (.node (o80 P) .nil .nil) .nil)) (.node (o24 P) (.node (o40 P) (.node (o72 P) .nil .nil) .nil) (.node (o56 P) .nil .nil))) (.node (o12 P) (.node (o20 P) (.node (o36 P) (.node (o68 P) .nil .nil) .nil) (.node (o52 P) (.node (o84 P) .nil .nil) .nil)) (.node (o28 P) (.node (o44 P) (.node (o76 P) .nil .nil) .nil) (.node (o60 P) .nil .nil)))) (.node (o6 P) (.node (o10 P) (.node (o18 P) (.node (o34 P) (.node (o66 P) .nil .nil) .nil) (.node (o50 P) (.node (o82 P) .nil .nil) .nil)) (.node (o26 P) (.node (o42 P) (.node (o74 P) .nil .nil) .nil) (.node (o58 P) .nil .nil))) (.node (o14 P) (.node (o22 P) (.node (o38 P) (.node (o70 P) .nil .nil) .nil) (.node (o54 P) .nil .nil)) (.node (o30 P) (.node (o46 P) (.node (o78 P) .nil .nil) .nil) (.node (o62 P) .nil .nil))))))
noncomputable def sD (w : World) (os : OsState) : SharedT := ⟨t_sD w.params, 85, default, #[], {}, 416, os⟩
noncomputable def t_sE (P : Params) : BT := (.node (o0 P) (.node (o1 P) (.node (o3_sE P) (.node (o7 P) (.node (o15 P) (.node (o31 P) (.node (o63 P) .nil .nil) (.node (o95 P) .nil .nil)) (.node (o47 P) (.node (o79 P) .nil .nil) (.node (o111 P) .nil .nil))) (.node (o23 P) (.node (o39 P) (.node (o71 P) .nil .nil) (.node (o103 P) .nil .nil)) (.node (o55 P) (.node (o87 P) .nil .nil) (.node (o119 P) .nil .nil)))) (.node (o11 P) (.node (o19 P) (.node (o35 P) (.node (o67 P) .nil .nil) (.node (o99 P) .nil .nil)) (.node (o51 P) (.node (o83 P) .nil .nil) (.node (o115 P) .nil .nil))) (.node (o27 P) (.node (o43 P) (.node (o75 P) .nil .nil) (.node (o107 P) .nil .nil)) (.node (o59 P) (.node (o91 P) .nil .nil) (.node (o123 P) .nil .nil))))) (.node (o5 P) (.node (o9 P) (.node (o17 P) (.node (o33 P) (.node (o65 P) .nil .nil) (.node (o97 P) .nil .nil)) (.node (o49 P) (.node (o81 P) .nil .nil) (.node (o113 P) .nil .nil))) (.node (o25 P) (.node (o41 P) (.node (o73 P) .nil .nil) (.node (o105 P) .nil .nil)) (.node (o57 P) (.node (o89 P) .nil .nil) (.node (o121 P) .nil .nil)))) (.node (o13 P) (.node (o21 P) (.node (o37 P) (.node (o69 P) .nil .nil) (.node (o101 P) .nil .nil)) (.node (o53 P) (.node (o85 P) .nil .nil) (.node (o117 P) .nil .nil))) (.node (o29_sD P) (.node (o45 P) (.node (o77 P) .nil .nil) (.node (o109 P) .nil .nil)) (.node (o61 P) (.node (o93 P) .nil .nil) .nil))))) (.node (o2 P) (.node (o4 P) (.node (o8 P) (.node (o16 P) (.node (o32 P) (.node (o64 P) .nil .nil) (.node (o96 P) .nil .nil)) (.node (o48 P) (.node (o80 P) .nil .nil) (.node (o112 P) .nil .nil))) (.node (o24 P) (.node (o40 P) (.node (o72 P) .nil .nil) (.node (o104 P) .nil .nil)) (.node (o56 P) (.node (o88 P) .nil .nil) (.node (o120 P) .nil .nil)))) (.node (o12 P) (.node (o20 P) (.node (o36 P) (.node (o68 P) .nil .nil) (.node (o100 P) .nil .nil)) (.node (o52 P) (.node (o84 P) .nil .nil) (.node (o116 P) .nil .nil))) (.node (o28 P) (.node (o44 P) (.node (o76 P) .nil .nil) (.node (o108 P) .nil .nil)) (.node (o60 P) (.node (o92 P) .nil .nil) .nil)))) (.node (o6 P) (.node (o10 P) (.node (o18 P) (.node (o34 P) (.node (o66 P) .nil .nil) (.node (o98 P) .nil .nil)) (.node (o50 P) (.node (o82 P) .nil .nil) (.node (o114 P) .nil .nil))) (.node (o26 P) (.node (o42 P) (.node (o74 P) .nil .nil) (.node (o106 P) .nil .nil)) (.node (o58 P) (.node (o90 P) .nil .nil) (.node (o122 P) .nil .nil)))) (.node (o14 P) (.node (o22 P) (.node (o38 P) (.node (o70 P) .nil .nil) (.node (o102 P) .nil .nil)) (.node (o54 P) (.node (o86 P) .nil .nil) (.node (o118 P) .nil .nil))) (.node (o30 P) (.node (o46 P) (.node (o78 P) .nil .nil) (.node (o110 P) .nil .nil)) (.node (o62 P) (.node (o94 P) .nil .nil) .nil))))))
noncomputable def sE (w : World) (os : OsState) : SharedT := ⟨t_sE w.params, 124, default, #[], {}, 2367, os⟩
noncomputable def t_sF (P : Params) : BT := (.node (o0 P) (.node (o1 P) (.node (o3 P) (.node (o7 P) (.node (o15 P) (.node (o31 P) (.node (o63 P) (.node (o127 P) (.node (o255 P) .nil .nil) .nil) (.node (o191 P) .nil .nil)) (.node (o95 P) (.node (o159 P) (.node (o287 P) .nil .nil) .nil) (.node (o223 P) .nil .nil))) (.node (o47 P) (.node (o79 P) (.node (o143 P) (.node (o271 P) .nil .nil) .nil) (.node (o207 P) .nil .nil)) (.node (o111 P) (.node (o175 P) (.node (o303 P) .nil .nil) .nil) (.node (o239 P) .nil .nil)))) (.node (o23 P) (.node (o39 P) (.node (o71 P) (.node (o135 P) (.node (o263 P) .nil .nil) .nil) (.node (o199 P) .nil .nil)) (.node (o103 P) (.node (o167 P) (.node (o295 P) .nil .nil) .nil) (.node (o231 P) .nil .nil))) (.node (o55 P) (.node (o87 P) (.node (o151 P) (.node (o279 P) .nil .nil) .nil) (.node (o215 P) .nil .nil)) (.node (o119 P) (.node (o183 P) (.node (o311 P) .nil .nil) .nil) (.node (o247 P) .nil .nil))))) (.node (o11 P) (.node (o19 P) (.node (o35 P) (.node (o67 P) (.node (o131 P) (.node (o259 P) .nil .nil) .nil) (.node (o195 P) .nil .nil)) (.node (o99 P) (.node (o163 P) (.node (o291 P) .nil .nil) .nil) (.node (o227 P) .nil .nil))) (.node (o51 P) (.node (o83 P) (.node (o147 P) (.node (o275 P) .nil .nil) .nil) (.node (o211 P) .nil .nil)) (.node (o115 P) (.node (o179 P) (.node (o307 P) .nil .nil) .nil) (.node (o243 P) .nil .nil)))) (.node (o27 P) (.node (o43 P) (.node (o75 P) (.node (o139 P) (.node (o267 P) .nil .nil) .nil) (.node (o203 P) .nil .nil)) (.node (o107 P) (.node (o171 P) (.node (o299 P) .nil .nil) .nil) (.node (o235 P) .nil .nil))) (.node (o59 P) (.node (o91 P) (.node (o155 P) (.node (o283 P) .nil .nil) .nil) (.node (o219 P) .nil .nil)) (.node (o123 P) (.node (o187 P) (.node (o315 P) .nil .nil) .nil) (.node (o251 P) .nil .nil)))))) (.node (o5 P) (.node (o9 P) (.node (o17 P) (.node (o33 P) (.node (o65 P) (.node (o129 P) (.node (o257 P) .nil .nil) .nil) (.node (o193 P) .nil .nil)) (.node (o97 P) (.node (o161 P) (.node (o289 P) .nil .nil) .nil) (.node (o225 P) .nil .nil))) (.node (o49 P) (.node (o81 P) (.node (o145 P) (.node (o273 P) .nil .nil) .nil) (.node (o209 P) .nil .nil)) (.node (o113 P) (.node (o177 P) (.node (o305 P) .nil .nil) .nil) (.node (o241 P) .nil .nil)))) (.node (o25 P) (.node (o41 P) (.node (o73 P) (.node (o137 P) (.node (o265 P) .nil .nil) .nil) (.node (o201 P) .nil .nil)) (.node (o105 P) (.node (o169 P) (.node (o297 P) .nil .nil) .nil) (.node (o233 P) .nil .nil))) (.node (o57 P) (.node (o89 P) (.node (o153 P) (.node (o281 P) .nil .nil) .nil) (.node (o217 P) .nil .nil)) (.node (o121 P) (.node (o185 P) (.node (o313 P) .nil .nil) .nil) (.node (o249 P) .nil .nil))))) (.node (o13 P) (.node (o21 P) (.node (o37 P) (.node (o69 P) (.node (o133 P) (.node (o261 P) .nil .nil) .nil) (.node (o197 P) .nil .nil)) (.node (o101 P) (.node (o165 P) (.node (o293 P) .nil .nil) .nil) (.node (o229 P) .nil .nil))) (.node (o53 P) (.node (o85 P) (.node (o149 P) (.node (o277 P) .nil .nil) .nil) (.node (o213 P) .nil .nil)) (.node (o117 P) (.node (o181 P) (.node (o309 P) .nil .nil) .nil) (.node (o245 P) .nil .nil)))) (.node (o29 P) (.node (o45 P) (.node (o77 P) (.node (o141 P) (.node (o269 P) .nil .nil) .nil) (.node (o205 P) .nil .nil)) (.node (o109 P) (.node (o173 P) (.node (o301 P) .nil .nil) .nil) (.node (o237 P) .nil .nil))) (.node (o61 P) (.node (o93 P) (.node (o157 P) (.node (o285 P) .nil .nil) .nil) (.node (o221 P) .nil .nil)) (.node (o125 P) (.node (o189 P) .nil .nil) (.node (o253 P) .nil .nil))))))) (.node (o2 P) (.node (o4 P) (.node (o8 P) (.node (o16 P) (.node (o32 P) (.node (o64 P) (.node (o128 P) (.node (o256 P) .nil .nil) .nil) (.node (o192 P) .nil .nil)) (.node (o96 P) (.node (o160 P) (.node (o288 P) .nil .nil) .nil) (.node (o224 P) .nil .nil))) (.node (o48 P) (.node (o80 P) (.node (o144 P) (.node (o272 P) .nil .nil) .nil) (.node (o208 P) .nil .nil)) (.node (o112 P) (.node (o176 P) (.node (o304 P) .nil .nil) .nil) (.node (o240 P) .nil .nil)))) (.node (o24 P) (.node (o40 P) (.node (o72 P) (.node (o136 P) (.node (o264 P) .nil .nil) .nil) (.node (o200 P) .nil .nil)) (.node (o104 P) (.node (o168 P) (.node (o296 P) .nil .nil) .nil) (.node (o232 P) .nil .nil))) (.node (o56 P) (.node (o88 P) (.node (o152 P) (.node (o280 P) .nil .nil) .nil) (.node (o216 P) .nil .nil)) (.node (o120 P) (.node (o184 P) (.node (o312 P) .nil .nil) .nil) (.node (o248 P) .nil .nil))))) (.node (o12 P) (.node (o20 P) (.node (o36 P) (.node (o68 P) (.node (o132 P) (.node (o260 P) .nil .nil) .nil) (.node (o196 P) .nil .nil)) (.node (o100 P) (.node (o164 P) (.node (o292 P) .nil .nil) .nil) (.node (o228 P) .nil .nil))) (.node (o52 P) (.node (o84 P) (.node (o148 P) (.node (o276 P) .nil .nil) .nil) (.node (o212 P) .nil .nil)) (.node (o116 P) (.node (o180 P) (.node (o308 P) .nil .nil) .nil) (.node (o244 P) .nil .nil)))) (.node (o28 P) (.node (o44 P) (.node (o76 P) (.node (o140 P) (.node (o268 P) .nil .nil) .nil) (.node (o204 P) .nil .nil)) (.node (o108 P) (.node (o172 P) (.node (o300 P) .nil .nil) .nil) (.node (o236 P) .nil .nil))) (.node (o60 P) (.node (o92 P) (.node (o156 P) (.node (o284 P) .nil .nil) .nil) (.node (o220 P) .nil .nil)) (.node (o124 P) (.node (o188 P) (.node (o316 P) .nil .nil) .nil) (.node (o252 P) .nil .nil)))))) (.node (o6 P) (.node (o10 P) (.node (o18 P) (.node (o34 P) (.node (o66 P) (.node (o130 P) (.node (o258 P) .nil .nil) .nil) (.node (o194 P) .nil .nil)) (.node (o98 P) (.node (o162 P) (.node (o290 P) .nil .nil) .nil) (.node (o226 P) .nil .nil))) (.node (o50 P) (.node (o82 P) (.node (o146 P) (.node (o274 P) .nil .nil) .nil) (.node (o210 P) .nil .nil)) (.node (o114 P) (.node (o178 P) (.node (o306 P) .nil .nil) .nil) (.node (o242 P) .nil .nil)))) (.node (o26 P) (.node (o42 P) (.node (o74 P) (.node (o138 P) (.node (o266 P) .nil .nil) .nil) (.node (o202 P) .nil .nil)) (.node (o106 P) (.node (o170 P) (.node (o298 P) .nil .nil) .nil) (.node (o234 P) .nil .nil))) (.node (o58 P) (.node (o90 P) (.node (o154 P) (.node (o282 P) .nil .nil) .nil) (.node (o218 P) .nil .nil)) (.node (o122 P) (.node (o186 P) (.node (o314 P) .nil .nil) .nil) (.node (o250 P) .nil .nil))))) (.node (o14 P) (.node (o22 P) (.node (o38 P) (.node (o70 P) (.node (o134 P) (.node (o262 P) .nil .nil) .nil) (.node (o198 P) .nil .nil)) (.node (o102 P) (.node (o166 P) (.node (o294 P) .nil .nil) .nil) (.node (o230 P) .nil .nil))) (.node (o54 P) (.node (o86 P) (.node (o150 P) (.node (o278 P) .nil .nil) .nil) (.node (o214 P) .nil .nil)) (.node (o118 P) (.node (o182 P) (.node (o310 P) .nil .nil) .nil) (.node (o246 P) .nil .nil)))) (.node (o30 P) (.node (o46 P) (.node (o78 P) (.node (o142 P) (.node (o270 P) .nil .nil) .nil) (.node (o206 P) .nil .nil)) (.node (o110 P) (.node (o174 P) (.node (o302 P) .nil .nil) .nil) (.node (o238 P) .nil .nil))) (.node (o62 P) (.node (o94 P) (.node (o158 P) (.node (o286 P) .nil .nil) .nil) (.node (o222 P) .nil .nil)) (.node (o126 P) (.node (o190 P) .nil .nil) (.node (o254 P) .nil .nil))))))))
noncomputable def sF (w : World) (os : OsState) : SharedT := ⟨t_sF w.params, 317, default, #[], {}, 2695, os⟩
noncomputable def K (P : Params) : Frag := ((nat_lit 2 : Nat), o2 P) :: ((nat_lit 3 : Nat), o3 P) :: ((nat_lit 32 : Nat), o32 P) :: ((nat_lit 33 : Nat), o33 P) :: ((nat_lit 34 : Nat), o34 P) :: ((nat_lit 35 : Nat), o35 P) :: ((nat_lit 36 : Nat), o36 P) :: ((nat_lit 37 : Nat), o37 P) :: ((nat_lit 38 : Nat), o38 P) :: ((nat_lit 39 : Nat), o39 P) :: ((nat_lit 40 : Nat), o40 P) :: ((nat_lit 41 : Nat), o41 P) :: ((nat_lit 42 : Nat), o42 P) :: ((nat_lit 43 : Nat), o43 P) :: ((nat_lit 44 : Nat), o44 P) :: ((nat_lit 45 : Nat), o45 P) :: ((nat_lit 46 : Nat), o46 P) :: ((nat_lit 47 : Nat), o47 P) :: ((nat_lit 48 : Nat), o48 P) :: ((nat_lit 49 : Nat), o49 P) :: ((nat_lit 50 : Nat), o50 P) :: ((nat_lit 51 : Nat), o51 P) :: ((nat_lit 52 : Nat), o52 P) :: ((nat_lit 53 : Nat), o53 P) :: ((nat_lit 54 : Nat), o54 P) :: ((nat_lit 55 : Nat), o55 P) :: ((nat_lit 56 : Nat), o56 P) :: ((nat_lit 57 : Nat), o57 P) :: ((nat_lit 58 : Nat), o58 P) :: ((nat_lit 59 : Nat), o59 P) :: ((nat_lit 60 : Nat), o60 P) :: ((nat_lit 61 : Nat), o61 P) :: ((nat_lit 62 : Nat), o62 P) :: ((nat_lit 63 : Nat), o63 P) :: ((nat_lit 64 : Nat), o64 P) :: ((nat_lit 65 : Nat), o65 P) :: ((nat_lit 66 : Nat), o66 P) :: ((nat_lit 74 : Nat), o74 P) :: ((nat_lit 78 : Nat), o78 P) :: ((nat_lit 79 : Nat), o79 P) :: ((nat_lit 80 : Nat), o80 P) :: ((nat_lit 81 : Nat), o81 P) :: ((nat_lit 82 : Nat), o82 P) :: ((nat_lit 83 : Nat), o83 P) :: ((nat_lit 84 : Nat), o84 P) :: ((nat_lit 85 : Nat), o85 P) :: ((nat_lit 124 : Nat), o124 P) :: ((nat_lit 125 : Nat), o125 P) :: ((nat_lit 126 : Nat), o126 P) :: ((nat_lit 127 : Nat), o127 P) :: ((nat_lit 128 : Nat), o128 P) :: ((nat_lit 129 : Nat), o129 P) :: ((nat_lit 130 : Nat), o130 P) :: ((nat_lit 134 : Nat), o134 P) :: ((nat_lit 135 : Nat), o135 P) :: ((nat_lit 139 : Nat), o139 P) :: ((nat_lit 140 : Nat), o140 P) :: ((nat_lit 144 : Nat), o144 P) :: ((nat_lit 145 : Nat), o145 P) :: ((nat_lit 146 : Nat), o146 P) :: ((nat_lit 147 : Nat), o147 P) :: ((nat_lit 148 : Nat), o148 P) :: ((nat_lit 149 : Nat), o149 P) :: ((nat_lit 150 : Nat), o150 P) :: ((nat_lit 151 : Nat), o151 P) :: ((nat_lit 152 : Nat), o152 P) :: ((nat_lit 153 : Nat), o153 P) :: ((nat_lit 161 : Nat), o161 P) :: ((nat_lit 162 : Nat), o162 P) :: ((nat_lit 163 : Nat), o163 P) :: ((nat_lit 164 : Nat), o164 P) :: ((nat_lit 165 : Nat), o165 P) :: ((nat_lit 166 : Nat), o166 P) :: ((nat_lit 167 : Nat), o167 P) :: ((nat_lit 168 : Nat), o168 P) :: ((nat_lit 169 : Nat), o169 P) :: ((nat_lit 170 : Nat), o170 P) :: ((nat_lit 171 : Nat), o171 P) :: ((nat_lit 172 : Nat), o172 P) :: ((nat_lit 173 : Nat), o173 P) :: ((nat_lit 174 : Nat), o174 P) :: ((nat_lit 175 : Nat), o175 P) :: ((nat_lit 176 : Nat), o176 P) :: ((nat_lit 177 : Nat), o177 P) :: ((nat_lit 178 : Nat), o178 P) :: ((nat_lit 179 : Nat), o179 P) :: ((nat_lit 180 : Nat), o180 P) :: ((nat_lit 181 : Nat), o181 P) :: ((nat_lit 182 : Nat), o182 P) :: ((nat_lit 183 : Nat), o183 P) :: ((nat_lit 184 : Nat), o184 P) :: ((nat_lit 185 : Nat), o185 P) :: ((nat_lit 186 : Nat), o186 P) :: ((nat_lit 187 : Nat), o187 P) :: ((nat_lit 188 : Nat), o188 P) :: ((nat_lit 189 : Nat), o189 P) :: ((nat_lit 190 : Nat), o190 P) :: ((nat_lit 191 : Nat), o191 P) :: ((nat_lit 192 : Nat), o192 P) :: ((nat_lit 193 : Nat), o193 P) :: ((nat_lit 194 : Nat), o194 P) :: ((nat_lit 195 : Nat), o195 P) :: ((nat_lit 196 : Nat), o196 P) :: ((nat_lit 197 : Nat), o197 P) :: ((nat_lit 198 : Nat), o198 P) :: ((nat_lit 199 : Nat), o199 P) :: ((nat_lit 200 : Nat), o200 P) :: ((nat_lit 201 : Nat), o201 P) :: ((nat_lit 202 : Nat), o202 P) :: ((nat_lit 203 : Nat), o203 P) :: ((nat_lit 204 : Nat), o204 P) :: ((nat_lit 205 : Nat), o205 P) :: ((nat_lit 206 : Nat), o206 P) :: ((nat_lit 207 : Nat), o207 P) :: ((nat_lit 208 : Nat), o208 P) :: ((nat_lit 209 : Nat), o209 P) :: ((nat_lit 210 : Nat), o210 P) :: ((nat_lit 211 : Nat), o211 P) :: ((nat_lit 212 : Nat), o212 P) :: ((nat_lit 213 : Nat), o213 P) :: ((nat_lit 214 : Nat), o214 P) :: ((nat_lit 215 : Nat), o215 P) :: ((nat_lit 216 : Nat), o216 P) :: ((nat_lit 217 : Nat), o217 P) :: ((nat_lit 218 : Nat), o218 P) :: ((nat_lit 219 : Nat), o219 P) :: ((nat_lit 220 : Nat), o220 P) :: ((nat_lit 221 : Nat), o221 P) :: ((nat_lit 222 : Nat), o222 P) :: ((nat_lit 223 : Nat), o223 P) :: ((nat_lit 224 : Nat), o224 P) :: ((nat_lit 225 : Nat), o225 P) :: ((nat_lit 226 : Nat), o226 P) :: ((nat_lit 227 : Nat), o227 P) :: ((nat_lit 228 : Nat), o228 P) :: ((nat_lit 229 : Nat), o229 P) :: ((nat_lit 230 : Nat), o230 P) :: ((nat_lit 231 : Nat), o231 P) :: ((nat_lit 232 : Nat), o232 P) :: ((nat_lit 233 : Nat), o233 P) :: ((nat_lit 234 : Nat), o234 P) :: ((nat_lit 235 : Nat), o235 P) :: ((nat_lit 236 : Nat), o236 P) :: ((nat_lit 237 : Nat), o237 P) :: ((nat_lit 238 : Nat), o238 P) :: ((nat_lit 239 : Nat), o239 P) :: ((nat_lit 240 : Nat), o240 P) :: ((nat_lit 241 : Nat), o241 P) :: ((nat_lit 242 : Nat), o242 P) :: ((nat_lit 243 : Nat), o243 P) :: ((nat_lit 244 : Nat), o244 P) :: ((nat_lit 245 : Nat), o245 P) :: ((nat_lit 246 : Nat), o246 P) :: ((nat_lit 247 : Nat), o247 P) :: ((nat_lit 248 : Nat), o248 P) :: ((nat_lit 249 : Nat), o249 P) :: ((nat_lit 250 : Nat), o250 P) :: ((nat_lit 251 : Nat), o251 P) :: ((nat_lit 252 : Nat), o252 P) :: ((nat_lit 253 : Nat), o253 P) :: ((nat_lit 254 : Nat), o254 P) :: ((nat_lit 255 : Nat), o255 P) :: ((nat_lit 256 : Nat), o256 P) :: ((nat_lit 257 : Nat), o257 P) :: ((nat_lit 258 : Nat), o258 P) :: ((nat_lit 259 : Nat), o259 P) :: ((nat_lit 260 : Nat), o260 P) :: ((nat_lit 261 : Nat), o261 P) :: ((nat_lit 262 : Nat), o262 P) :: ((nat_lit 263 : Nat), o263 P) :: ((nat_lit 264 : Nat), o264 P) :: ((nat_lit 265 : Nat), o265 P) :: ((nat_lit 266 : Nat), o266 P) :: ((nat_lit 267 : Nat), o267 P) :: ((nat_lit 268 : Nat), o268 P) :: ((nat_lit 269 : Nat), o269 P) :: ((nat_lit 270 : Nat), o270 P) :: ((nat_lit 271 : Nat), o271 P) :: ((nat_lit 272 : Nat), o272 P) :: ((nat_lit 273 : Nat), o273 P) :: ((nat_lit 274 : Nat), o274 P) :: ((nat_lit 275 : Nat), o275 P) :: ((nat_lit 276 : Nat), o276 P) :: ((nat_lit 277 : Nat), o277 P) :: ((nat_lit 278 : Nat), o278 P) :: ((nat_lit 281 : Nat), o281 P) :: ((nat_lit 282 : Nat), o282 P) :: ((nat_lit 283 : Nat), o283 P) :: ((nat_lit 284 : Nat), o284 P) :: ((nat_lit 285 : Nat), o285 P) :: ((nat_lit 286 : Nat), o286 P) :: ((nat_lit 287 : Nat), o287 P) :: ((nat_lit 288 : Nat), o288 P) :: ((nat_lit 289 : Nat), o289 P) :: ((nat_lit 290 : Nat), o290 P) :: ((nat_lit 291 : Nat), o291 P) :: ((nat_lit 292 : Nat), o292 P) :: ((nat_lit 293 : Nat), o293 P) :: ((nat_lit 294 : Nat), o294 P) :: ((nat_lit 295 : Nat), o295 P) :: ((nat_lit 296 : Nat), o296 P) :: ((nat_lit 297 : Nat), o297 P) :: ((nat_lit 298 : Nat), o298 P) :: ((nat_lit 299 : Nat), o299 P) :: ((nat_lit 300 : Nat), o300 P) :: ((nat_lit 301 : Nat), o301 P) :: ((nat_lit 302 : Nat), o302 P) :: ((nat_lit 303 : Nat), o303 P) :: ((nat_lit 304 : Nat), o304 P) :: ((nat_lit 305 : Nat), o305 P) :: ((nat_lit 306 : Nat), o306 P) :: ((nat_lit 307 : Nat), o307 P) :: ((nat_lit 308 : Nat), o308 P) :: ((nat_lit 309 : Nat), o309 P) :: ((nat_lit 310 : Nat), o310 P) :: ((nat_lit 311 : Nat), o311 P) :: ((nat_lit 312 : Nat), o312 P) :: ((nat_lit 313 : Nat), o313 P) :: ((nat_lit 314 : Nat), o314 P) :: ((nat_lit 315 : Nat), o315 P) :: ((nat_lit 316 : Nat), o316 P) :: []
noncomputable def Kat : List Addr := (nat_lit 2 : Nat) :: (nat_lit 3 : Nat) :: (nat_lit 32 : Nat) :: (nat_lit 33 : Nat) :: (nat_lit 34 : Nat) :: (nat_lit 35 : Nat) :: (nat_lit 36 : Nat) :: (nat_lit 37 : Nat) :: (nat_lit 38 : Nat) :: (nat_lit 39 : Nat) :: (nat_lit 40 : Nat) :: (nat_lit 41 : Nat) :: (nat_lit 42 : Nat) :: (nat_lit 43 : Nat) :: (nat_lit 44 : Nat) :: (nat_lit 45 : Nat) :: (nat_lit 46 : Nat) :: (nat_lit 47 : Nat) :: (nat_lit 48 : Nat) :: (nat_lit 49 : Nat) :: (nat_lit 50 : Nat) :: (nat_lit 51 : Nat) :: (nat_lit 52 : Nat) :: (nat_lit 53 : Nat) :: (nat_lit 54 : Nat) :: (nat_lit 55 : Nat) :: (nat_lit 56 : Nat) :: (nat_lit 57 : Nat) :: (nat_lit 58 : Nat) :: (nat_lit 59 : Nat) :: (nat_lit 60 : Nat) :: (nat_lit 61 : Nat) :: (nat_lit 62 : Nat) :: (nat_lit 63 : Nat) :: (nat_lit 64 : Nat) :: (nat_lit 65 : Nat) :: (nat_lit 66 : Nat) :: (nat_lit 74 : Nat) :: (nat_lit 78 : Nat) :: (nat_lit 79 : Nat) :: (nat_lit 80 : Nat) :: (nat_lit 81 : Nat) :: (nat_lit 82 : Nat) :: (nat_lit 83 : Nat) :: (nat_lit 84 : Nat) :: (nat_lit 85 : Nat) :: (nat_lit 124 : Nat) :: (nat_lit 125 : Nat) :: (nat_lit 126 : Nat) :: (nat_lit 127 : Nat) :: (nat_lit 128 : Nat) :: (nat_lit 129 : Nat) :: (nat_lit 130 : Nat) :: (nat_lit 134 : Nat) :: (nat_lit 135 : Nat) :: (nat_lit 139 : Nat) :: (nat_lit 140 : Nat) :: (nat_lit 144 : Nat) :: (nat_lit 145 : Nat) :: (nat_lit 146 : Nat) :: (nat_lit 147 : Nat) :: (nat_lit 148 : Nat) :: (nat_lit 149 : Nat) :: (nat_lit 150 : Nat) :: (nat_lit 151 : Nat) :: (nat_lit 152 : Nat) :: (nat_lit 153 : Nat) :: (nat_lit 161 : Nat) :: (nat_lit 162 : Nat) :: (nat_lit 163 : Nat) :: (nat_lit 164 : Nat) :: (nat_lit 165 : Nat) :: (nat_lit 166 : Nat) :: (nat_lit 167 : Nat) :: (nat_lit 168 : Nat) :: (nat_lit 169 : Nat) :: (nat_lit 170 : Nat) :: (nat_lit 171 : Nat) :: (nat_lit 172 : Nat) :: (nat_lit 173 : Nat) :: (nat_lit 174 : Nat) :: (nat_lit 175 : Nat) :: (nat_lit 176 : Nat) :: (nat_lit 177 : Nat) :: (nat_lit 178 : Nat) :: (nat_lit 179 : Nat) :: (nat_lit 180 : Nat) :: (nat_lit 181 : Nat) :: (nat_lit 182 : Nat) :: (nat_lit 183 : Nat) :: (nat_lit 184 : Nat) :: (nat_lit 185 : Nat) :: (nat_lit 186 : Nat) :: (nat_lit 187 : Nat) :: (nat_lit 188 : Nat) :: (nat_lit 189 : Nat) :: (nat_lit 190 : Nat) :: (nat_lit 191 : Nat) :: (nat_lit 192 : Nat) :: (nat_lit 193 : Nat) :: (nat_lit 194 : Nat) :: (nat_lit 195 : Nat) :: (nat_lit 196 : Nat) :: (nat_lit 197 : Nat) :: (nat_lit 198 : Nat) :: (nat_lit 199 : Nat) :: (nat_lit 200 : Nat) :: (nat_lit 201 : Nat) :: (nat_lit 202 : Nat) :: (nat_lit 203 : Nat) :: (nat_lit 204 : Nat) :: (nat_lit 205 : Nat) :: (nat_lit 206 : Nat) :: (nat_lit 207 : Nat) :: (nat_lit 208 : Nat) :: (nat_lit 209 : Nat) :: (nat_lit 210 : Nat) :: (nat_lit 211 : Nat) :: (nat_lit 212 : Nat) :: (nat_lit 213 : Nat) :: (nat_lit 214 : Nat) :: (nat_lit 215 : Nat) :: (nat_lit 216 : Nat) :: (nat_lit 217 : Nat) :: (nat_lit 218 : Nat) :: (nat_lit 219 : Nat) :: (nat_lit 220 : Nat) :: (nat_lit 221 : Nat) :: (nat_lit 222 : Nat) :: (nat_lit 223 : Nat) :: (nat_lit 224 : Nat) :: (nat_lit 225 : Nat) :: (nat_lit 226 : Nat) :: (nat_lit 227 : Nat) :: (nat_lit 228 : Nat) :: (nat_lit 229 : Nat) :: (nat_lit 230 : Nat) :: (nat_lit 231 : Nat) :: (nat_lit 232 : Nat) :: (nat_lit 233 : Nat) :: (nat_lit 234 : Nat) :: (nat_lit 235 : Nat) :: (nat_lit 236 : Nat) :: (nat_lit 237 : Nat) :: (nat_lit 238 : Nat) :: (nat_lit 239 : Nat) :: (nat_lit 240 : Nat) :: (nat_lit 241 : Nat) :: (nat_lit 242 : Nat) :: (nat_lit 243 : Nat) :: (nat_lit 244 : Nat) :: (nat_lit 245 : Nat) :: (nat_lit 246 : Nat) :: (nat_lit 247 : Nat) :: (nat_lit 248 : Nat) :: (nat_lit 249 : Nat) :: (nat_lit 250 : Nat) :: (nat_lit 251 : Nat) :: (nat_lit 252 : Nat) :: (nat_lit 253 : Nat) :: (nat_lit 254 : Nat) :: (nat_lit 255 : Nat) :: (nat_lit 256 : Nat) :: (nat_lit 257 : Nat) :: (nat_lit 258 : Nat) :: (nat_lit 259 : Nat) :: (nat_lit 260 : Nat) :: (nat_lit 261 : Nat) :: (nat_lit 262 : Nat) :: (nat_lit 263 : Nat) :: (nat_lit 264 : Nat) :: (nat_lit 265 : Nat) :: (nat_lit 266 : Nat) :: (nat_lit 267 : Nat) :: (nat_lit 268 : Nat) :: (nat_lit 269 : Nat) :: (nat_lit 270 : Nat) :: (nat_lit 271 : Nat) :: (nat_lit 272 : Nat) :: (nat_lit 273 : Nat) :: (nat_lit 274 : Nat) :: (nat_lit 275 : Nat) :: (nat_lit 276 : Nat) :: (nat_lit 277 : Nat) :: (nat_lit 278 : Nat) :: (nat_lit 281 : Nat) :: (nat_lit 282 : Nat) :: (nat_lit 283 : Nat) :: (nat_lit 284 : Nat) :: (nat_lit 285 : Nat) :: (nat_lit 286 : Nat) :: (nat_lit 287 : Nat) :: (nat_lit 288 : Nat) :: (nat_lit 289 : Nat) :: (nat_lit 290 : Nat) :: (nat_lit 291 : Nat) :: (nat_lit 292 : Nat) :: (nat_lit 293 : Nat) :: (nat_lit 294 : Nat) :: (nat_lit 295 : Nat) :: (nat_lit 296 : Nat) :: (nat_lit 297 : Nat) :: (nat_lit 298 : Nat) :: (nat_lit 299 : Nat) :: (nat_lit 300 : Nat) :: (nat_lit 301 : Nat) :: (nat_lit 302 : Nat) :: (nat_lit 303 : Nat) :: (nat_lit 304 : Nat) :: (nat_lit 305 : Nat) :: (nat_lit 306 : Nat) :: (nat_lit 307 : Nat) :: (nat_lit 308 : Nat) :: (nat_lit 309 : Nat) :: (nat_lit 310 : Nat) :: (nat_lit 311 : Nat) :: (nat_lit 312 : Nat) :: (nat_lit 313 : Nat) :: (nat_lit 314 : Nat) :: (nat_lit 315 : Nat) :: (nat_lit 316 : Nat) :: []
end Mine
namespace Mine
open PySem PySem.W PySem.Calls PyProof.Rows
noncomputable def endsT (f : SharedT → Thread → Option (SharedT × Thread)) : Nat → SharedT → Thread → Option SharedT
  | 0, _, _ => none
  | n + 1, s, t => match t.atExitBegin with
    | some [] => some s
    | some (_ :: _) => none
    | none => match f s t with
      | some (s', t') => endsT f n s' t'
      | none => none
theorem endsT_spec {tb : String → Option Builtin} {p : Program} {w : World} : ∀ {n : Nat} {s s' : SharedT} {t : Thread}, endsT (stepT (denote tb) p w) n s t = some s' → importEnds tb p w n s.abs t = some s'.abs
  | 0, _, _, _, h => by cases h
  | n + 1, s, s', t, h => by
    unfold endsT at h
    unfold importEnds
    cases he : t.atExitBegin with
    | some l => rw [he] at h; cases l with
      | nil => cases h; rfl
      | cons => cases h
    | none =>
      rw [he] at h
      cases hs : stepT (denote tb) p w s t with
      | none => rw [hs] at h; cases h
      | some r => obtain ⟨s₂, t₂⟩ := r; rw [hs] at h; dsimp only; rw [stepT_spec hs]; exact endsT_spec h
noncomputable def tb : String → Option Builtin := PySem.W.Fast.tw14364793385576792824
noncomputable def qStep := PySem.W.Fast.tw10156331382660048174
noncomputable def qDen := PySem.W.Fast.tw11892475500146522536
theorem qStep_eq : @stepT = qStep := PySem.W.Fast.te10156331382660048174
theorem qDen_eq : @denote = qDen := PySem.W.Fast.te11892475500146522536
noncomputable def qStart := PySem.W.Fast.tw1435165496053646825
theorem qStart_eq : @start = qStart := PySem.W.Fast.te1435165496053646825
noncomputable def os0 : OsState := (start (opening pw)).1.os
noncomputable def Pop (w : World) : Prop := endsT (qStep (qDen tb) (opening pw) w) 799 ⟨.nil, 0, {}, #[], {}, 1, os0⟩ (qStart (opening pw)).2 = some (sZ w os0)
theorem pop (w : World) : Pop w := by unfold Pop; kernel_rfl
noncomputable def HZ (P : Params) : Heap := absHeap (t_sZ P) 28 default
noncomputable def H0 (P : Params) : Heap := absHeap (t_s0 P) 28 default
theorem fenced (w : World) : (fun os => (fenceModules? pw ⟨HZ w.params, #[], {}, 276, os⟩).map (fun s => (s.heap, s.gens, s.drawn, s.toks))) = fun _ => some (H0 w.params, #[], {}, 276) := by kernel_rfl
end Mine
namespace Mine
open PySem PySem.W PySem.Calls PyProof.Rows
noncomputable def bodyB : List Stmt := behindTheImports pw
noncomputable def envB : Env := { scope := pw.main.scope, locals := mainNs, globals := mainNs, cells := [], code := .ref 30, frame := some 31 }
noncomputable def cB : Code := .body bodyB envB
noncomputable def pos0 : Pos := ⟨0, 0, 0, 0⟩
noncomputable def annB : Option Value := some (.ref 6)
noncomputable def frB : List Frame := [topFrame pos0]
noncomputable def qRun := PySem.W.Fast.tw10110043849684766642
theorem tb_eq : treeTable = tb := PySem.W.Fast.te14364793385576792824
theorem qRun_eq : @segRunT = qRun := PySem.W.Fast.te10110043849684766642
noncomputable def restB (k : Nat) : List Stmt := bodyB.drop k
noncomputable def thr (a b : Nat) (p : Pos) : Thread := piecesOf ((bodyB.drop a).take (b - a)) envB cB p frB
noncomputable def P08 (w : World) : Prop := (fun os => qRun tb pw w 28 annB 1 199 (sA w os) (thr 0 8 pos0)) = fun os => some (.next, sB w os, cB, ⟨78, 0, 78, 8⟩)
theorem p08 (w : World) : P08 w := by unfold P08; kernel_rfl
noncomputable def P89 (w : World) : Prop := (fun os => qRun tb pw w 28 annB 1 999 (sB w os) (thr 8 9 ⟨78, 0, 78, 8⟩)) = fun os => some (.next, sC w os, cB, ⟨79, 0, 79, 6⟩)
theorem p89ff (w : World) : P89 ((w.withFollow "special-get-raises" false).withFollow "set-order" false) := by unfold P89; kernel_rfl
theorem p89ft (w : World) : P89 ((w.withFollow "special-get-raises" true).withFollow "set-order" false) := by unfold P89; kernel_rfl
theorem p89tf (w : World) : P89 ((w.withFollow "special-get-raises" false).withFollow "set-order" true) := by unfold P89; kernel_rfl
theorem p89tt (w : World) : P89 ((w.withFollow "special-get-raises" true).withFollow "set-order" true) := by unfold P89; kernel_rfl
theorem p89 (w : World) : P89 w := byRow2 "set-order" (byRow2 (P := fun w => P89 (w.withFollow "set-order" false)) "special-get-raises" p89ff p89ft) (byRow2 (P := fun w => P89 (w.withFollow "set-order" true)) "special-get-raises" p89tf p89tt) w
noncomputable def P9t (w : World) : Prop := (fun os => qRun tb pw w 28 annB 1 30 (sC w os) (thr 9 10 ⟨79, 0, 79, 6⟩)) = fun os => some (.next, sD w os, cB, ⟨80, 0, 81, 30⟩)
theorem p9t (w : World) : P9t w := by unfold P9t; kernel_rfl
noncomputable def Pte (w : World) : Prop := (fun os => qRun tb pw w 28 annB 1 1214 (sE w os) (thr 11 25 ⟨82, 0, 82, 13⟩)) = fun os => some (.next, sF w os, cB, ⟨241, 0, 255, 15⟩)
theorem pte (w : World) : Pte w := by unfold Pte; kernel_rfl
end Mine
namespace Mine
open PySem PySem.W PySem.Calls PyProof.Rows
noncomputable abbrev SV : Type := Sem Value
/- one run of at most seventeen pairs: made apart, then merged into the first -/
noncomputable def flushD (run : List (SV × SV)) (main : Option Addr) : Sem (Option Addr) :=
  if run.isEmpty then Pure.pure main else match main with
  | none => subDict run >>= fun d => Pure.pure (some d)
  | some d => holding [.ref d] (subDict run) >>= fun sub =>
      Sem.onRaise (holding [.ref d, .ref sub] (mergeMapping d (.ref sub) false)) (fun x => holding [.ref d, x] (runValue (.builtin "proto.let_go" {})) >>= fun _ => Pure.pure ()) >>= fun _ => Pure.pure (some d)
noncomputable def endD (m : Option Addr) : SV := match m with
  | some d => Pure.pure (.ref d)
  | none => newDict
noncomputable def dLoop : List (SV × SV) → Option Addr → List (SV × SV) → SV
  | [], main, run => flushD run main >>= endD
  | p :: r, main, run => if (run ++ [p]).length == 17 then flushD (run ++ [p]) main >>= fun m => dLoop r m [] else dLoop r main (run ++ [p])
theorem disp_gen {b : Option SV × SV → Option Addr × List (SV × SV) → Sem (ForInStep (Option Addr × List (SV × SV)))} {e : Option Addr × List (SV × SV) → SV}
    (hb : ∀ k v r, b (some k, v) r = if (r.2 ++ [(k, v)]).length == 17 then flushD (r.2 ++ [(k, v)]) r.1 >>= fun m => Pure.pure (ForInStep.yield (m, [])) else Pure.pure (ForInStep.yield (r.1, r.2 ++ [(k, v)])))
    (he : ∀ r, e r = flushD r.2 r.1 >>= endD) (l : List (SV × SV)) : ∀ (main : Option Addr) (run : List (SV × SV)),
    (forIn (l.map fun p => ((some p.1, p.2) : Option SV × SV)) (main, run) b >>= e) = dLoop l main run := by
  induction l with
  | nil => intro main run; exact he _
  | cons p r ih =>
    intro main run
    rw [List.map_cons, List.forIn_cons, hb]
    show _ = (if (run ++ [p]).length == 17 then _ else _)
    by_cases h : ((run ++ [p]).length == 17) = true
    · simp only [if_pos h, bind_assoc, pure_bind]
      congr 1; funext m
      exact ih m []
    · simp only [if_neg h, pure_bind]
      exact ih main (run ++ [p])
theorem disp_eq (l : List (SV × SV)) : dictDisplay (l.map fun p => ((some p.1, p.2) : Option SV × SV)) = dLoop l none [] := by
  unfold dictDisplay
  dsimp only
  refine disp_gen ?_ ?_ l none []
  · intro k v r
    dsimp only
    unfold flushD
    by_cases h : ((r.2 ++ [(k, v)]).length == 17) = true
    · rw [if_pos h, if_pos h]
      obtain ⟨r1, r2⟩ := r
      cases r1 <;> rfl
    · rw [if_neg h, if_neg h]
  · intro r
    unfold flushD
    rfl
/- the loop, a run at a time -/
theorem dLoop_run (main : Option Addr) (rest : List (SV × SV)) : ∀ (l run : List (SV × SV)), run.length + l.length < 17 → dLoop (l ++ rest) main run = dLoop rest main (run ++ l)
  | [], run, _ => by rw [List.nil_append, List.append_nil]
  | p :: l, run, h => by
    rw [List.cons_append]
    show (if _ then _ else _) = _
    rw [List.length_cons] at h
    rw [if_neg (by rw [List.length_append, List.length_singleton]; simp; omega), dLoop_run main rest l (run ++ [p]) (by rw [List.length_append, List.length_singleton]; omega), List.append_assoc]
    rfl
theorem dLoop_17 (main : Option Addr) (l rest : List (SV × SV)) (h : l.length = 17) : dLoop (l ++ rest) main [] = flushD l main >>= fun m => dLoop rest m [] := by
  rcases List.eq_nil_or_concat l with e | ⟨l', p, e⟩
  · rw [e] at h; cases h
  · rw [List.concat_eq_append] at e
    subst e
    rw [List.length_append, List.length_singleton] at h
    rw [List.append_assoc, dLoop_run main _ l' [] (by rw [List.length_nil]; omega), List.nil_append]
    show (if _ then _ else _) = _
    rw [if_pos (by rw [List.length_append, List.length_singleton]; simp; omega)]
    rfl
theorem dLoop_end (main : Option Addr) (l : List (SV × SV)) (h : l.length < 17) : dLoop l main [] = flushD l main >>= endD := by
  have := dLoop_run main [] l [] (by rw [List.length_nil]; omega)
  rw [List.append_nil, List.nil_append] at this
  rw [this]
  rfl
/- the statement's own pairs -/
noncomputable def dPos : Pos := match assigned (St 11) with | .Dict _ _ p => p | _ => default
noncomputable def dKV : List (Expr × Expr) := match assigned (St 11) with | .Dict ks vs _ => (ks.filterMap id).zip vs | _ => []
noncomputable def pairOf (kv : Expr × Expr) : SV × SV := (eval kv.1 envB, eval kv.2 envB >>= fun x => standAt dPos >>= fun _ => Pure.pure x)
theorem items_of (env : Env) (pos : Pos) : ∀ (l : List (Expr × Expr)), (evalEachOpt (l.map fun p => some p.1) env).zip ((evalEach (l.map (·.2)) env).map fun v => (v >>= fun x => standAt pos >>= fun _ => Pure.pure x)) =
    (l.map fun kv => ((eval kv.1 env, eval kv.2 env >>= fun x => standAt pos >>= fun _ => Pure.pure x) : SV × SV)).map fun p => ((some p.1, p.2) : Option SV × SV)
  | [] => rfl
  | p :: l => by
    rw [List.map_cons, List.map_cons, List.map_cons, List.map_cons, ← items_of env pos l]
    rfl
noncomputable def tPos : Pos := match St 11 with | .Assign [.Name _ p] _ _ => p | _ => default
noncomputable def sPos : Pos := match St 11 with | .Assign _ _ p => p | _ => default
theorem st11 : St 11 = .Assign [.Name (S "b3_exceptions") tPos] (.Dict (dKV.map fun p => some p.1) (dKV.map (·.2)) dPos) sPos := by kernel_rfl
theorem exec11 : exec (St 11) envB = standAt sPos >>= fun _ => standAt dPos >>= fun _ => dLoop (dKV.map pairOf) none [] >>= fun v => assignAll v ((assignEach [.Name (S "b3_exceptions") tPos] envB).map (·.2)) >>= fun _ => Pure.pure .next := by
  rw [st11, ← disp_eq]
  show exec (.Assign _ _ _) _ = _
  have e := items_of envB dPos dKV
  unfold pairOf
  rw [← e]
  rfl
end Mine
namespace Mine
open PySem PySem.W PySem.Calls PyProof.Rows
/- a tree's run at the statement's place, n steps, from s to s', with the answer a -/
noncomputable def Goes {α : Type} (w : World) (m : Sem α) (n : Nat) (s s' : SharedT) (a : α) : Prop :=
  ∀ (K : α → Sem Fin) (H : Value → Sem Fin) (gd : Bool → Bool) (lv : List Value → List Value) (N : Nat) (r : Shared),
    topRun treeTable pw w 28 annB N s'.abs ⟨K a, cB, dPos, frB⟩ = some r → topRun treeTable pw w 28 annB (n + N) s.abs ⟨m.wrap K H gd lv, cB, dPos, frB⟩ = some r
section
variable {α β : Type} {w : World} {s s' s₁ s₂ : SharedT}
theorem Goes.pure (a : α) : Goes w (Pure.pure a) 0 s s a := fun K H gd lv N r h => by rw [Nat.zero_add]; exact h
theorem Goes.bind {m : Sem α} {f : α → Sem β} {n k : Nat} {a : α} {b : β} (h : Goes w m n s s₁ a) (g : Goes w (f a) k s₁ s₂ b) : Goes w (m >>= f) (n + k) s s₂ b := fun K H gd lv N r e => by
  rw [Sem.bind_eq_wrap', Sem.wrap_wrap, Nat.add_assoc]
  exact h _ _ _ _ _ _ (g K H gd lv N r e)
theorem Goes.keep {m : Sem α} {n : Nat} {a : α} (vs : List Value) (h : Goes w m n s s₁ a) : Goes w (m.keep vs) n s s₁ a := fun K H gd lv N r e => by
  rw [Sem.keep_eq_wrap, Sem.wrap_wrap]
  exact h _ _ _ _ _ _ e
theorem Goes.holding {m : Sem α} {n : Nat} {a : α} (vs : List Value) (h : Goes w m n s s₁ a) : Goes w (holding vs m) n s s₁ a := by
  unfold PySem.holding
  split
  · exact h
  · exact h.keep _
theorem Goes.onRaise {m : Sem α} {n : Nat} {a : α} (x : Value → Sem Unit) (h : Goes w m n s s₁ a) : Goes w (m.onRaise x) n s s₁ a := fun K H gd lv N r e => by
  rw [Sem.onRaise_eq_wrap, Sem.wrap_wrap]
  exact h _ _ _ _ _ _ e
theorem Goes.same {m m' : Sem α} {n n' : Nat} {a a' : α} (h : Goes w m n s s₁ a) (e : m = m') (e1 : n = n') (e2 : s₁ = s₂) (e3 : a = a') : Goes w m' n' s s₂ a' := by
  subst e; subst e1; subst e2; subst e3; exact h
theorem goes_step {m : Sem α} {a : α} (hs : ∀ (K : α → Sem Fin) (H : Value → Sem Fin) (gd : Bool → Bool) (lv : List Value → List Value), stepT (denote treeTable) pw w s ⟨m.wrap K H gd lv, cB, dPos, frB⟩ = some (s₁, ⟨K a, cB, dPos, frB⟩))
    (hk : ∀ (K : α → Sem Fin) (H : Value → Sem Fin) (gd : Bool → Bool) (lv : List Value → List Value), stepOk 28 annB ⟨m.wrap K H gd lv, cB, dPos, frB⟩ = true) : Goes w m 1 s s₁ a := fun K H gd lv N r e => by
  rw [Nat.add_comm]
  show topRun _ _ _ _ _ (N + 1) _ _ = _
  unfold topRun
  have ht : through ⟨m.wrap K H gd lv, cB, dPos, frB⟩ = false := rfl
  rw [ht, hk]
  dsimp only
  rw [stepT_spec (hs K H gd lv)]
  exact e
/- a run that the kernel computes -/
theorem goes_run {m : Sem α} {n : Nat} {a : α} (res : α → Flow) (inj : ∀ x, res x = res a → x = a)
    (h : ∀ (gd : Bool → Bool) (lv : List Value → List Value), segRunT treeTable pw w 28 annB 1 n s ⟨m.wrap (fun a => .pure (.done (res a))) deadEnd gd lv, cB, dPos, frB⟩ = some (res a, s₁, cB, dPos)) : Goes w m n s s₁ a := fun K H gd lv N r e => by
  obtain ⟨b, hb, hN⟩ := seg_top (res := res) (K' := K) (H' := H) (gd := gd) (lv := lv) (B := frB) rfl n s.abs ⟨m.wrap (fun a => .pure (.done (res a))) deadEnd gd lv, cB, dPos, frB⟩ ⟨m.wrap K H gd lv, cB, dPos, frB⟩ _ _ _ _ ⟨rfl, rfl, .inl ⟨rfl, rfl, m, rfl, rfl⟩⟩ (segRun_of (h gd lv))
  obtain rfl := inj b hb
  exact hN N r e
theorem goes_load {T : BT} {n : Nat} {life : Life} {gens : Array GenState} {drawn : Drawn} {toks : Nat} {os : OsState} {a : Nat} {part : Option Value} {o : Obj} (h : T.get a = some o) (ha : alive o = some o) (hn : Nat.blt a n = true) :
    Goes w (loadPart a part) 1 ⟨T, n, life, gens, drawn, toks, os⟩ ⟨T, n, life, gens, drawn, toks, os⟩ o := by
  refine goes_step (fun K H gd lv => ?_) fun K H gd lv => rfl
  show (match Nat.blt a n with | true => _ | false => _) = _
  rw [hn]
  dsimp only
  rw [h]
  dsimp only
  rw [ha]
  rfl
theorem goes_update {T : BT} {n : Nat} {life : Life} {gens : Array GenState} {drawn : Drawn} {toks : Nat} {os : OsState} {a : Nat} {part : Option Value} {o : Obj} {f : Obj → Obj} (h : T.get a = some o) (ha : alive o = some o) (hn : Nat.blt a n = true) (hb : Nat.ble 28 a = true) :
    Goes w (updatePart a part f) 1 ⟨T, n, life, gens, drawn, toks, os⟩ ⟨T.set a f, n, life, gens, drawn, toks, os⟩ () := by
  refine goes_step (fun K H gd lv => ?_) fun K H gd lv => ?_
  · show (match Nat.blt a n with | true => _ | false => _) = _
    rw [hn]
    dsimp only
    rw [h]
    dsimp only
    rw [ha]
    rfl
  · show (true && (Nat.ble 28 a || _ || _ || _)) = true
    rw [hb]; rfl
theorem goes_alloc {T : BT} {n : Nat} {life : Life} {gens : Array GenState} {drawn : Drawn} {toks : Nat} {os : OsState} {o : Obj} (h : ((T.ins n o).get n).isSome = true) :
    Goes w (alloc o) 1 ⟨T, n, life, gens, drawn, toks, os⟩ ⟨T.ins n o, n + 1, life, gens, drawn, toks, os⟩ n := by
  refine goes_step (fun K H gd lv => ?_) fun K H gd lv => rfl
  show (match ((T.ins n o).get n).isSome with | true => _ | false => _) = _
  rw [h]
  rfl
theorem goes_rule (t : String) : Goes w (rule t) 1 s s () := goes_step (fun K H gd lv => by obtain ⟨T, n, life, gens, drawn, toks, os⟩ := s; rfl) fun K H gd lv => rfl
theorem goes_at : Goes w (standAt dPos) 1 s s () := goes_step (fun K H gd lv => by obtain ⟨T, n, life, gens, drawn, toks, os⟩ := s; rfl) fun K H gd lv => rfl
theorem goes_fresh {T : BT} {n : Nat} {life : Life} {gens : Array GenState} {drawn : Drawn} {toks : Nat} {os : OsState} :
    Goes w fresh 1 ⟨T, n, life, gens, drawn, toks, os⟩ ⟨T, n, life, gens, drawn, toks + 1, os⟩ toks := goes_step (fun K H gd lv => rfl) fun K H gd lv => rfl
end
/- the hash of an int -/
noncomputable def resV : Option Value → Flow := fun r => match r with | some v => .ret v | none => .next
theorem resV_inj (v : Value) : ∀ x, resV x = resV (some v) → x = some v := fun x h => by
  cases x with
  | none => cases h
  | some y => cases h; rfl
noncomputable def hashP (w : World) : Prop := (fun (k : Int) (t : Tok) (x : SV) (T : BT) (n : Nat) (life : Life) (gens : Array GenState) (drawn : Drawn) (toks : Nat) (os : OsState) (gd : Bool → Bool) (lv : List Value → List Value) =>
    qRun tb pw w 28 annB 1 6 ⟨T, n, life, gens, drawn, toks, os⟩ ⟨(callSpecialIfBoundUnlessNone? (.int k t) "__hash__" x).wrap (fun a => .pure (.done (resV a))) deadEnd gd lv, cB, dPos, frB⟩) =
  fun (k : Int) (t : Tok) (x : SV) (T : BT) (n : Nat) (life : Life) (gens : Array GenState) (drawn : Drawn) (toks : Nat) (os : OsState) (gd : Bool → Bool) (lv : List Value → List Value) => some (.ret (.int (rawHash k) toks), ⟨T, n, life, gens, drawn, toks + 1, os⟩, cB, dPos)
theorem hash_p : ∀ w : World, hashP w := byRow2 "special-get-raises" (fun w => by unfold hashP; kernel_rfl) (fun w => by unfold hashP; kernel_rfl)
noncomputable def specP (w : World) : Prop := (fun (k : Int) (t : Tok) (T : BT) (n : Nat) (life : Life) (gens : Array GenState) (drawn : Drawn) (toks : Nat) (os : OsState) (gd : Bool → Bool) (lv : List Value → List Value) =>
    qRun tb pw w 28 annB 1 1 ⟨T, n, life, gens, drawn, toks, os⟩ ⟨(specialOf (.int k t) "__hash__").wrap (fun a => .pure (.done (resV a))) deadEnd gd lv, cB, dPos, frB⟩) =
  fun (k : Int) (t : Tok) (T : BT) (n : Nat) (life : Life) (gens : Array GenState) (drawn : Drawn) (toks : Nat) (os : OsState) (gd : Bool → Bool) (lv : List Value → List Value) => some (.ret (.builtin "int.__hash__"), ⟨T, n, life, gens, drawn, toks, os⟩, cB, dPos)
theorem spec_p : ∀ w : World, specP w := byRow2 "special-get-raises" (fun w => by unfold specP; kernel_rfl) (fun w => by unfold specP; kernel_rfl)
section
variable {w : World} {T : BT} {n : Nat} {life : Life} {gens : Array GenState} {drawn : Drawn} {toks : Nat} {os : OsState}
theorem goes_call_hash (k : Int) (t : Tok) (x : SV) : Goes w (callSpecialIfBoundUnlessNone? (.int k t) "__hash__" x) 6 ⟨T, n, life, gens, drawn, toks, os⟩ ⟨T, n, life, gens, drawn, toks + 1, os⟩ (some (.int (rawHash k) toks)) := by
  refine goes_run resV (resV_inj _) fun gd lv => ?_
  rw [tb_eq, qRun_eq]
  exact congrFun (congrFun (congrFun (congrFun (congrFun (congrFun (congrFun (congrFun (congrFun (congrFun (congrFun (congrFun (hash_p w) k) t) x) T) n) life) gens) drawn) toks) os) gd) lv
theorem goes_spec_hash (k : Int) (t : Tok) : Goes w (specialOf (.int k t) "__hash__") 1 ⟨T, n, life, gens, drawn, toks, os⟩ ⟨T, n, life, gens, drawn, toks, os⟩ (some (.builtin "int.__hash__")) := by
  refine goes_run resV (resV_inj _) fun gd lv => ?_
  rw [tb_eq, qRun_eq]
  exact congrFun (congrFun (congrFun (congrFun (congrFun (congrFun (congrFun (congrFun (congrFun (congrFun (congrFun (spec_p w) k) t) T) n) life) gens) drawn) toks) os) gd) lv
theorem goes_hash (k : Int) (t : Tok) : Goes w (pyHash (.int k t)) 8 ⟨T, n, life, gens, drawn, toks, os⟩ ⟨T, n, life, gens, drawn, toks + 1, os⟩ (hashInt k) := by
  have hr := rawHash_range k
  show Goes w (Pure.pure () >>= fun _ => specialOf (.int k t) "__hash__" >>= fun r => _) (0 + (1 + (1 + (6 + 0)))) _ _ _
  refine Goes.bind (Goes.pure ()) (Goes.bind (goes_spec_hash k t) ?_)
  show Goes w (if (some (Value.builtin "int.__hash__") == some Value.none) = true then _ else _) _ _ _ _
  rw [if_neg (by rw [beq_builtin_none]; exact Bool.false_ne_true)]
  refine Goes.bind (goes_spec_hash k t) ?_
  show Goes w (callSpecialIfBoundUnlessNone? (.int k t) "__hash__" _ >>= _) _ _ _ _
  refine Goes.bind (goes_call_hash k t _) ?_
  show Goes w (if (decide (-(2 : Int) ^ 63 ≤ rawHash k) && decide (rawHash k < 2 ^ 63)) = true then _ else _) _ _ _ _
  rw [if_pos (by rw [decide_eq_true hr.1, decide_eq_true hr.2]; rfl)]
  exact Goes.pure _
end
end Mine
namespace Mine
open PySem PySem.W PySem.Calls PyProof.Rows
noncomputable abbrev dObj (es : Array DictEntry) (n : Nat) : Obj := ⟨.type "dict", none, .dict es n, #[]⟩
theorem set_const {f : Obj → Obj} {o : Obj} : ∀ (T : BT) (a : Nat), T.get a = some o → T.set a f = T.set a (fun _ => f o)
  | .nil, a, _ => rfl
  | .node v l r, a, h => by
    rw [BT.get_node] at h
    rw [BT.set_node, BT.set_node]
    by_cases e : a = 0
    · rw [if_pos e] at h; rw [if_pos e, if_pos e]; cases h; rfl
    · rw [if_neg e] at h; rw [if_neg e, if_neg e]
      by_cases q : a % 2 = 1
      · rw [if_pos q] at h; rw [if_pos q, if_pos q, set_const l _ h]
      · rw [if_neg q] at h; rw [if_neg q, if_neg q, set_const r _ h]
theorem set_set {f : Obj → Obj} {o : Obj} : ∀ (T : BT) (a : Nat), (T.set a f).set a (fun _ => o) = T.set a (fun _ => o)
  | .nil, a => rfl
  | .node v l r, a => by
    rw [BT.set_node, BT.set_node]
    by_cases e : a = 0
    · rw [if_pos e, if_pos e, BT.set_node, if_pos e]
    · rw [if_neg e, if_neg e]
      by_cases q : a % 2 = 1
      · rw [if_pos q, if_pos q, BT.set_node, if_neg e, if_pos q, set_set l]
      · rw [if_neg q, if_neg q, BT.set_node, if_neg e, if_neg q, set_set r]
theorem get_here {T : BT} {a : Nat} {o o' : Obj} (h : T.get a = some o) : (T.set a (fun _ => o')).get a = some o' := by rw [BT.get_set, if_pos rfl, h]; rfl
theorem get_else {T : BT} {a b : Nat} {f : Obj → Obj} (h : b ≠ a) : (T.set a f).get b = T.get b := by rw [BT.get_set, if_neg h]
section
variable {w : World} {T : BT} {n : Nat} {life : Life} {gens : Array GenState} {drawn : Drawn} {toks : Nat} {os : OsState}
theorem goes_entries {d : Nat} {es : Array DictEntry} {ep : Nat} {part : Option Value} (h : T.get d = some (dObj es ep)) (hn : Nat.blt d n = true) :
    Goes w (dictEntries d part) 1 ⟨T, n, life, gens, drawn, toks, os⟩ ⟨T, n, life, gens, drawn, toks, os⟩ es := by
  show Goes w (loadPart d part >>= _) (1 + 0) _ _ _
  refine Goes.bind (goes_load h rfl hn) ?_
  exact Goes.pure _
theorem goes_epoch {d : Nat} {es : Array DictEntry} {ep : Nat} {part : Option Value} (h : T.get d = some (dObj es ep)) (hn : Nat.blt d n = true) :
    Goes w (dictEpoch d part) 1 ⟨T, n, life, gens, drawn, toks, os⟩ ⟨T, n, life, gens, drawn, toks, os⟩ ep := by
  show Goes w (loadPart d part >>= _) (1 + 0) _ _ _
  refine Goes.bind (goes_load h rfl hn) ?_
  exact Goes.pure _
theorem places_none {es : Array DictEntry} {h : Int} (x : ∀ e ∈ es.toList, e.hash ≠ h) : placesWithHash es.size (fun i => es[i]?.map (·.hash)) h = [] := by
  unfold placesWithHash
  refine List.filter_eq_nil_iff.mpr fun i hi => ?_
  have hi := List.mem_range.mp hi
  dsimp only
  rw [Array.getElem?_eq_getElem hi]
  intro q
  have q := eq_of_beq q
  exact x _ (Array.getElem_mem_toList hi) (by simpa using q)
theorem goes_find {d : Nat} {es : Array DictEntry} {ep : Nat} {k : Int} {t : Tok} {hh : Int} (h : T.get d = some (dObj es ep)) (hn : Nat.blt d n = true) (x : ∀ e ∈ es.toList, e.hash ≠ hh) :
    Goes w (dictFind d (.int k t) hh) 1 ⟨T, n, life, gens, drawn, toks, os⟩ ⟨T, n, life, gens, drawn, toks, os⟩ none := by
  unfold dictFind
  refine Goes.holding _ ?_
  show Goes w (dictEntries d _ >>= _) (1 + 0) _ _ _
  refine Goes.bind (goes_entries h hn) ?_
  dsimp only
  rw [places_none x]
  exact Goes.pure _
theorem goes_push {d : Nat} {es : Array DictEntry} {ep : Nat} {e : DictEntry} {part : Option Value} (h : T.get d = some (dObj es ep)) (hn : Nat.blt d n = true) (hb : Nat.ble 28 d = true) (hs : es.size < 1000) :
    Goes w (updateDictKeys d (·.push e) part) 3 ⟨T, n, life, gens, drawn, toks, os⟩ ⟨T.set d (fun _ => dObj (es.push e) (ep + 1)), n, life, gens, drawn, toks, os⟩ () := by
  show Goes w (loadPart d part >>= _) (1 + (1 + (1 + 0))) _ _ _
  refine Goes.bind (goes_load h rfl hn) ?_
  refine Goes.bind (goes_update h rfl hn hb) ?_
  rw [set_const T d h]
  show Goes w (loadPart d part >>= _) (1 + 0) _ _ _
  refine Goes.bind (goes_load (get_here h) rfl hn) ?_
  have q : ¬ ((es.push e).size > sizeLine + 1) := by
    rw [Array.size_push]
    exact Nat.not_lt.mpr (Nat.le_trans (Nat.succ_le_of_lt (Nat.lt_of_lt_of_le hs (show 1000 ≤ sizeLine by decide))) (Nat.le_succ _))
  have q' : (Data.dict (es.push e) (ep + 1)).pastItsLine = none := by
    unfold Data.pastItsLine
    dsimp only
    rw [if_neg q]
  have e9 : (Obj.mapDictKeys (fun x => x.push e) (dObj es ep)).data.pastItsLine = none := q'
  rw [e9]
  exact Goes.pure _
/- one pair into a table -/
theorem goes_set {d : Nat} {es : Array DictEntry} {ep : Nat} {k : Int} {t : Tok} {v : Value} (h : T.get d = some (dObj es ep)) (hn : Nat.blt d n = true) (hb : Nat.ble 28 d = true) (hs : es.size < 1000) (x : ∀ e ∈ es.toList, e.hash ≠ hashInt k) :
    Goes w (dictSet d (.int k t) v) 13 ⟨T, n, life, gens, drawn, toks, os⟩ ⟨T.set d (fun _ => dObj (es.push ⟨hashInt k, .int k t, v⟩) (ep + 1)), n, life, gens, drawn, toks + 1, os⟩ () := by
  unfold dictSet
  refine Goes.holding _ ?_
  show Goes w (pyHash _ >>= _) (8 + 5) _ _ _
  refine Goes.bind (goes_hash k t) ?_
  unfold dictSetHashed
  refine Goes.holding _ ?_
  show Goes w (dictFind _ _ _ >>= _) (1 + (1 + 3)) _ _ _
  refine Goes.bind (goes_find h hn x) ?_
  dsimp only
  refine Goes.bind (goes_rule _) ?_
  exact goes_push h hn hb hs
theorem goes_put {d : Nat} {es : Array DictEntry} {ep : Nat} {k : Int} {t : Tok} {v : Value} (h : T.get d = some (dObj es ep)) (hn : Nat.blt d n = true) (hb : Nat.ble 28 d = true) (hs : es.size < 1000) (x : ∀ e ∈ es.toList, e.hash ≠ hashInt k) :
    Goes w (dictPut d (hashInt k) (.int k t) v) 4 ⟨T, n, life, gens, drawn, toks, os⟩ ⟨T.set d (fun _ => dObj (es.push ⟨hashInt k, .int k t, v⟩) (ep + 1)), n, life, gens, drawn, toks, os⟩ () := by
  show Goes w (dictFind _ _ _ >>= _) (1 + 3) _ _ _
  refine Goes.bind (goes_find h hn x) ?_
  exact goes_push h hn hb hs
theorem goes_key {k : Int} {a b : _} : Goes w (eval (.Constant (.int k) a b) envB) 1 ⟨T, n, life, gens, drawn, toks, os⟩ ⟨T, n, life, gens, drawn, toks + 1, os⟩ (.int k toks) := by
  show Goes w (fresh >>= fun t => _) (1 + 0) _ _ _
  exact Goes.bind goes_fresh (Goes.pure _)
theorem goes_val {x : Str} {a b : _} : Goes w (eval (.Constant (.str x) a b) envB >>= fun v => standAt dPos >>= fun _ => Pure.pure v) 2 ⟨T, n, life, gens, drawn, toks, os⟩ ⟨T, n, life, gens, drawn, toks + 1, os⟩ (.str x toks) := by
  show Goes w (fresh >>= fun t => _) (1 + (1 + 0)) _ _ _
  exact Goes.bind goes_fresh (Goes.bind goes_at (Goes.pure _))
end
end Mine
namespace Mine
open PySem PySem.W PySem.Calls PyProof.Rows
structure KV where
  i : Int
  x : Str
  a : Nat
  b : Pos
  c : Nat
  d : Pos
noncomputable def kvOf : Expr × Expr → Option KV
  | (.Constant (.int i) a b, .Constant (.str x) c d) => some ⟨i, x, a, b, c, d⟩
  | _ => none
noncomputable def kvE (r : KV) : Expr × Expr := (.Constant (.int r.i) r.a r.b, .Constant (.str r.x) r.c r.d)
noncomputable def kvs : List KV := dKV.filterMap kvOf
theorem kvs_eq : dKV = kvs.map kvE := by kernel_rfl
noncomputable abbrev pairR (r : KV) : SV × SV := pairOf (kvE r)
noncomputable def subE : Nat → List KV → List DictEntry
  | _, [] => []
  | t, r :: l => ⟨hashInt r.i, .int r.i t, .str r.x (t + 1)⟩ :: subE (t + 3) l
noncomputable def subF : Nat → List KV → List DictEntry
  | _, [] => []
  | t, r :: l => ⟨hashInt r.i, .int r.i t, .str r.x (t + 1)⟩ :: subF (t + 2) l
theorem subE_hash : ∀ (t : Nat) (l : List KV), (subE t l).map (·.hash) = l.map fun r => hashInt r.i
  | _, [] => rfl
  | t, r :: l => by show _ :: _ = _ :: _; rw [subE_hash (t + 3) l]
theorem subF_hash : ∀ (t : Nat) (l : List KV), (subF t l).map (·.hash) = l.map fun r => hashInt r.i
  | _, [] => rfl
  | t, r :: l => by show _ :: _ = _ :: _; rw [subF_hash (t + 2) l]
theorem subE_len (t : Nat) (l : List KV) : (subE t l).length = l.length := by have := congrArg List.length (subE_hash t l); simpa using this
theorem subF_len (t : Nat) (l : List KV) : (subF t l).length = l.length := by have := congrArg List.length (subF_hash t l); simpa using this
section
variable {w : World} {n : Nat} {life : Life} {gens : Array GenState} {drawn : Drawn} {os : OsState}
theorem set_same {o : Obj} : ∀ (T : BT) (a : Nat), T.get a = some o → T.set a (fun _ => o) = T
  | .nil, a, h => rfl
  | .node v l r, a, h => by
    rw [BT.get_node] at h
    rw [BT.set_node]
    by_cases e : a = 0
    · rw [if_pos e] at h; rw [if_pos e]; cases h; rfl
    · rw [if_neg e] at h; rw [if_neg e]
      by_cases q : a % 2 = 1
      · rw [if_pos q] at h; rw [if_pos q, set_same l _ h]
      · rw [if_neg q] at h; rw [if_neg q, set_same r _ h]
noncomputable def Full (T : BT) (n : Nat) : Prop := ∀ i, i < n → (T.get i).isSome = true
theorem ins_ok {o : Obj} : ∀ (T : BT) (n : Nat), Full T n → ((T.ins n o).get n).isSome = true
  | .nil, n, h => by
    by_cases e : n = 0
    · subst e; rfl
    · exact absurd (h 0 (by omega)) (by simp [BT.get])
  | .node v l r, n, h => by
    rw [BT.ins_node]
    by_cases e : n = 0
    · rw [if_pos e, BT.get_node, if_pos e]; rfl
    · rw [if_neg e]
      by_cases q : n % 2 = 1
      · rw [if_pos q, BT.get_node, if_neg e, if_pos q]
        refine ins_ok l _ fun i hi => ?_
        have := h (2 * i + 1) (by omega)
        rw [BT.get_node, if_neg (by omega), if_pos (by omega), show (2 * i + 1) / 2 = i by omega] at this
        exact this
      · rw [if_neg q, BT.get_node, if_neg e, if_neg q]
        refine ins_ok r _ fun i hi => ?_
        have := h (2 * i + 2) (by omega)
        rw [BT.get_node, if_neg (by omega), if_neg (by omega), show (2 * i + 2) / 2 - 1 = i by omega] at this
        exact this
theorem Full.set {T : BT} {n a : Nat} {f : Obj → Obj} (h : Full T n) : Full (T.set a f) n := fun i hi => by
  have := h i hi
  rw [BT.get_set]
  by_cases e : i = a
  · rw [if_pos e, ← e, Option.isSome_map]; exact this
  · rw [if_neg e]; exact this
theorem Full.ins {T : BT} {n : Nat} {o : Obj} (h : Full T n) : Full (T.ins n o) (n + 1) := fun i hi => by
  rw [BT.get_ins o T n (ins_ok T n h)]
  by_cases e : i = n
  · rw [if_pos e]; rfl
  · rw [if_neg e]; exact h i (by omega)
theorem goes_forIn {α : Type} {b : α → PUnit → Sem (ForInStep PUnit)} {k : Nat} : ∀ (l : List α) (St : Nat → SharedT), (∀ i, (hi : i < l.length) → Goes w (b l[i] ⟨⟩) k (St i) (St (i + 1)) (.yield ⟨⟩)) → Goes w (forIn l ⟨⟩ b) (k * l.length) (St 0) (St l.length) ⟨⟩
  | [], St, _ => Goes.pure _
  | x :: l, St, h => by
    rw [List.forIn_cons, List.length_cons, Nat.mul_succ, Nat.add_comm]
    refine Goes.bind (h 0 (Nat.zero_lt_succ _)) ?_
    dsimp only
    exact goes_forIn l (fun i => St (i + 1)) fun i hi => h (i + 1) (Nat.succ_lt_succ hi)
theorem push_take {ch : List DictEntry} {pre : List DictEntry} {i : Nat} (h : i < ch.length) : (pre ++ ch.take i).toArray.push ch[i] = (pre ++ ch.take (i + 1)).toArray := by
  rw [List.push_toArray, List.append_assoc, List.take_append_getElem h]
theorem fresh_at {ch pre : List DictEntry} {i : Nat} (h : i < ch.length) (nd : ((pre ++ ch).map (·.hash)).Nodup) : ∀ e ∈ (pre ++ ch.take i).toArray.toList, e.hash ≠ ch[i].hash := by
  intro e he q
  have he : e ∈ pre ++ ch.take i := by simpa using he
  have e1 : pre ++ ch = (pre ++ ch.take i) ++ ch[i] :: ch.drop (i + 1) := by
    rw [List.append_assoc, ← List.drop_eq_getElem_cons h, List.take_append_drop]
  rw [e1, List.map_append, List.map_cons] at nd
  have := (List.nodup_append.mp nd).2.2 _ (List.mem_map.mpr ⟨e, he, rfl⟩) _ (List.mem_cons_self)
  exact this q
theorem subE_at : ∀ (t : Nat) (l : List KV) (i : Nat) (h : i < l.length), (subE t l)[i]'(by rw [subE_len]; exact h) = ⟨hashInt l[i].i, .int l[i].i (t + 3 * i), .str l[i].x (t + 3 * i + 1)⟩
  | t, r :: l, 0, h => rfl
  | t, r :: l, i + 1, h => by
    have := subE_at (t + 3) l i (by simpa using h)
    show (subE (t + 3) l)[i]'_ = _
    rw [this, show t + 3 * (i + 1) = t + 3 + 3 * i by omega]
    rfl
theorem subF_at : ∀ (t : Nat) (l : List KV) (i : Nat) (h : i < l.length), (subF t l)[i]'(by rw [subF_len]; exact h) = ⟨hashInt l[i].i, .int l[i].i (t + 2 * i), .str l[i].x (t + 2 * i + 1)⟩
  | t, r :: l, 0, h => rfl
  | t, r :: l, i + 1, h => by
    have := subF_at (t + 2) l i (by simpa using h)
    show (subF (t + 2) l)[i]'_ = _
    rw [this, show t + 2 * (i + 1) = t + 2 + 2 * i by omega]
    rfl
end
end Mine
namespace Mine
open PySem PySem.W PySem.Calls PyProof.Rows
section
variable {w : World} {n : Nat} {life : Life} {gens : Array GenState} {drawn : Drawn} {os : OsState}
theorem blt_of {a b : Nat} (h : a < b) : Nat.blt a b = true := Nat.ble_eq_true_of_le h
noncomputable abbrev made (T : BT) (n : Nat) (ch : List DictEntry) : BT := (T.ins n (dObj #[] 0)).set n (fun _ => dObj ch.toArray ch.length)
theorem made_get {T : BT} {ch : List DictEntry} (h : Full T n) : (made T n ch).get n = some (dObj ch.toArray ch.length) := by
  refine get_here (o := dObj #[] 0) ?_
  rw [BT.get_ins _ T n (ins_ok T n h), if_pos rfl]
theorem made_else {T : BT} {ch : List DictEntry} {a : Nat} (h : Full T n) (e : a ≠ n) : (made T n ch).get a = T.get a := by
  rw [get_else e, BT.get_ins _ T n (ins_ok T n h), if_neg e]
theorem goes_k1 {T : BT} {toks : Nat} (r : KV) : Goes w (pairR r).1 1 ⟨T, n, life, gens, drawn, toks, os⟩ ⟨T, n, life, gens, drawn, toks + 1, os⟩ (.int r.i toks) := goes_key (a := r.a) (b := r.b)
theorem goes_v1 {T : BT} {toks : Nat} (r : KV) : Goes w (pairR r).2 2 ⟨T, n, life, gens, drawn, toks, os⟩ ⟨T, n, life, gens, drawn, toks + 1, os⟩ (.str r.x toks) := goes_val (a := r.c) (b := r.d)
/- pairs put into a new table, one after the other -/
theorem goes_sub {T : BT} {toks : Nat} (rows : List KV) (hl : 15 < rows.length) (hs : rows.length < 1000) (hf : Full T n) (hb : 28 ≤ n) (nd : (rows.map fun r => hashInt r.i).Nodup) :
    Goes w (subDict (rows.map pairR)) (1 + (1 + (16 * rows.length + 0) + 0)) ⟨T, n, life, gens, drawn, toks, os⟩ ⟨made T n (subE toks rows), n + 1, life, gens, drawn, toks + 3 * rows.length, os⟩ n := by
  unfold subDict
  refine Goes.bind (goes_alloc (ins_ok T n hf)) ?_
  refine Goes.bind (a := ()) (s₁ := ⟨made T n (subE toks rows), n + 1, life, gens, drawn, toks + 3 * rows.length, os⟩) (Goes.holding _ ?_) (Goes.pure _)
  rw [if_neg (by rw [List.length_map]; omega)]
  refine Goes.bind (goes_rule _) ?_
  have hT : (T.ins n (dObj #[] 0)).get n = some (dObj #[] 0) := by rw [BT.get_ins _ T n (ins_ok T n hf), if_pos rfl]
  have key := goes_forIn (w := w) (k := 16) (rows.map pairR) (b := fun x _ => x.1 >>= fun kv => holding [kv] x.2 >>= fun vv => holding [kv, vv] (dictSet n kv vv) >>= fun _ => Pure.pure (ForInStep.yield PUnit.unit))
    (fun i => ⟨(T.ins n (dObj #[] 0)).set n (fun _ => dObj ((subE toks rows).take i).toArray i), n + 1, life, gens, drawn, toks + 3 * i, os⟩) ?_
  · rw [List.length_map] at key
    have e0 : (T.ins n (dObj #[] 0)).set n (fun _ => dObj ((subE toks rows).take 0).toArray 0) = T.ins n (dObj #[] 0) := set_same _ _ hT
    have e1 : (subE toks rows).take rows.length = subE toks rows := by rw [List.take_of_length_le]; rw [subE_len]; exact Nat.le_refl _
    rw [e0, e1, Nat.mul_zero, Nat.add_zero, show dObj (subE toks rows).toArray rows.length = dObj (subE toks rows).toArray (subE toks rows).length by rw [subE_len]] at key
    exact Goes.bind key (Goes.pure _)
  · intro i hi
    have hi' : i < rows.length := by rw [List.length_map] at hi; exact hi
    have hi2 : i < (subE toks rows).length := by rw [subE_len]; exact hi'
    rw [List.getElem_map]
    have hat := subE_at toks rows i hi'
    have hd : ((T.ins n (dObj #[] 0)).set n (fun _ => dObj ((subE toks rows).take i).toArray i)).get n = some (dObj ((subE toks rows).take i).toArray i) := get_here hT
    have fr := fresh_at (pre := []) hi2 (by rw [List.nil_append, subE_hash]; exact nd)
    rw [List.nil_append, hat] at fr
    have pt := push_take (pre := []) hi2
    rw [List.nil_append, List.nil_append, hat] at pt
    have sz : ((subE toks rows).take i).toArray.size < 1000 := by
      rw [List.size_toArray, List.length_take]; omega
    refine Goes.same (n := 1 + (2 + (13 + 0))) (Goes.bind (goes_k1 rows[i]) (Goes.bind (Goes.holding _ (goes_v1 rows[i])) (Goes.bind (Goes.holding _ (goes_set hd (blt_of (Nat.lt_succ_self n : n < n + 1)) (Nat.ble_eq_true_of_le hb) sz fr)) (Goes.pure (ForInStep.yield PUnit.unit))))) rfl rfl ?_ rfl
    rw [set_set, pt]
    rfl
end
end Mine
namespace Mine
open PySem PySem.W PySem.Calls PyProof.Rows
noncomputable def resB : Bool → Flow := fun b => .ret (.bool b)
noncomputable def subP (w : World) : Prop := (fun (T : BT) (n : Nat) (life : Life) (gens : Array GenState) (drawn : Drawn) (toks : Nat) (os : OsState) (gd : Bool → Bool) (lv : List Value → List Value) =>
    qRun tb pw w 28 annB 1 1 ⟨T, n, life, gens, drawn, toks, os⟩ ⟨(isSubtype (.type "dict") (.type "dict")).wrap (fun a => .pure (.done (resB a))) deadEnd gd lv, cB, dPos, frB⟩) =
  fun (T : BT) (n : Nat) (life : Life) (gens : Array GenState) (drawn : Drawn) (toks : Nat) (os : OsState) (gd : Bool → Bool) (lv : List Value → List Value) => some (.ret (.bool true), ⟨T, n, life, gens, drawn, toks, os⟩, cB, dPos)
theorem sub_p (w : World) : subP w := by unfold subP; kernel_rfl
noncomputable def iterP (w : World) : Prop := (fun (T : BT) (n : Nat) (life : Life) (gens : Array GenState) (drawn : Drawn) (toks : Nat) (os : OsState) (gd : Bool → Bool) (lv : List Value → List Value) =>
    qRun tb pw w 28 annB 1 1 ⟨T, n, life, gens, drawn, toks, os⟩ ⟨(typeLookup (.type "dict") "__iter__").wrap (fun a => .pure (.done (resV a))) deadEnd gd lv, cB, dPos, frB⟩) =
  fun (T : BT) (n : Nat) (life : Life) (gens : Array GenState) (drawn : Drawn) (toks : Nat) (os : OsState) (gd : Bool → Bool) (lv : List Value → List Value) => some (.ret (.builtin "dict.__iter__"), ⟨T, n, life, gens, drawn, toks, os⟩, cB, dPos)
theorem iter_p (w : World) : iterP w := by unfold iterP; kernel_rfl
section
variable {w : World} {T : BT} {n : Nat} {life : Life} {gens : Array GenState} {drawn : Drawn} {toks : Nat} {os : OsState}
theorem goes_subtype : Goes w (isSubtype (.type "dict") (.type "dict")) 1 ⟨T, n, life, gens, drawn, toks, os⟩ ⟨T, n, life, gens, drawn, toks, os⟩ true := by
  refine goes_run resB (fun x h => by cases h; rfl) fun gd lv => ?_
  rw [tb_eq, qRun_eq]
  exact congrFun (congrFun (congrFun (congrFun (congrFun (congrFun (congrFun (congrFun (congrFun (sub_p w) T) n) life) gens) drawn) toks) os) gd) lv
theorem goes_iter : Goes w (typeLookup (.type "dict") "__iter__") 1 ⟨T, n, life, gens, drawn, toks, os⟩ ⟨T, n, life, gens, drawn, toks, os⟩ (some (.builtin "dict.__iter__")) := by
  refine goes_run resV (resV_inj _) fun gd lv => ?_
  rw [tb_eq, qRun_eq]
  exact congrFun (congrFun (congrFun (congrFun (congrFun (congrFun (congrFun (congrFun (congrFun (iter_p w) T) n) life) gens) drawn) toks) os) gd) lv
theorem goes_type {a : Nat} {es : Array DictEntry} {ep : Nat} (h : T.get a = some (dObj es ep)) (hn : Nat.blt a n = true) : Goes w (typeOf (.ref a)) 1 ⟨T, n, life, gens, drawn, toks, os⟩ ⟨T, n, life, gens, drawn, toks, os⟩ (.type "dict") := by
  show Goes w (loadPart a (some headPart) >>= _) (1 + 0) _ _ _
  exact Goes.bind (goes_load h rfl hn) (Goes.pure _)
theorem beq_iter : (some (Value.builtin "dict.__iter__") == some (Value.builtin "dict.__iter__")) = true := by decide +kernel
theorem goes_merge {d sub : Nat} (pre ch : List DictEntry) (hd : T.get d = some (dObj pre.toArray pre.length)) (hs : T.get sub = some (dObj ch.toArray ch.length)) (hne : sub ≠ d) (hdn : d < n) (hsn : sub < n) (hdb : 28 ≤ d) (hmod : (d == sysModules) = false) (hmod' : (sub == sysModules) = false)
    (hz : pre.length + ch.length < 1000) (hk : ∀ e ∈ ch, ∃ i t, e.key = .int i t ∧ e.hash = hashInt i) (nd : ((pre ++ ch).map (·.hash)).Nodup) (hp : pre ≠ []) :
    Goes w (mergeMapping d (.ref sub) false) (1 + 1 + (1 + 1 + (0 + (1 + (1 + (1 + (6 * ch.length + 0))))))) ⟨T, n, life, gens, drawn, toks, os⟩ ⟨T.set d (fun _ => dObj (pre ++ ch).toArray (pre ++ ch).length), n, life, gens, drawn, toks, os⟩ () := by
  unfold mergeMapping
  refine Goes.bind (a := true) (s₁ := ⟨T, n, life, gens, drawn, toks, os⟩) ?_ ?_
  · unfold isInstance
    exact Goes.bind (goes_type hs (blt_of hsn)) goes_subtype
  rw [if_pos rfl]
  refine Goes.bind (a := some (.builtin "dict.__iter__")) (s₁ := ⟨T, n, life, gens, drawn, toks, os⟩) ?_ ?_
  · unfold specialOf
    exact Goes.bind (goes_type hs (blt_of hsn)) goes_iter
  rw [beq_iter]
  refine Goes.bind (Goes.pure _) ?_
  dsimp only
  rw [if_neg (by rw [hmod']; exact Bool.false_ne_true)]
  refine Goes.bind (goes_entries hd (blt_of hdn)) ?_
  rw [if_neg (by cases pre with | nil => exact absurd rfl hp | cons => simp)]
  refine Goes.bind (goes_entries hs (blt_of hsn)) ?_
  refine Goes.bind (goes_epoch hs (blt_of hsn)) ?_
  have key := goes_forIn (w := w) (k := 6) (List.range ch.length) (b := fun i _ => dictEntries sub >>= fun es => match es[i]? with
      | some e => holding [e.key, e.val] (dictPut d e.hash e.key e.val) >>= fun _ => dictEpoch sub >>= fun ep => if (ep != ch.length) = true then (unsupported "dict.changed-during-merge" : Sem PUnit) >>= fun _ => Pure.pure (ForInStep.yield PUnit.unit) else Pure.pure (ForInStep.yield PUnit.unit)
      | _ => (unsupported "dict.changed-during-merge" : Sem PUnit) >>= fun _ => Pure.pure (ForInStep.yield PUnit.unit))
    (fun i => ⟨T.set d (fun _ => dObj (pre ++ ch.take i).toArray (pre.length + i)), n, life, gens, drawn, toks, os⟩) ?_
  · rw [List.length_range] at key
    have e0 : T.set d (fun _ => dObj (pre ++ ch.take 0).toArray (pre.length + 0)) = T := set_same _ _ (by rw [List.take_zero, List.append_nil]; exact hd)
    have e1 : dObj (pre ++ ch.take ch.length).toArray (pre.length + ch.length) = dObj (pre ++ ch).toArray (pre ++ ch).length := by rw [List.take_length, List.length_append]
    rw [e0, e1] at key
    exact Goes.bind key (Goes.pure _)
  · intro i hi
    have hi' : i < ch.length := by rw [List.length_range] at hi; exact hi
    rw [List.getElem_range]
    have hs' : (T.set d (fun _ => dObj (pre ++ ch.take i).toArray (pre.length + i))).get sub = some (dObj ch.toArray ch.length) := by rw [get_else hne]; exact hs
    have hs2 : ((T.set d (fun _ => dObj (pre ++ ch.take i).toArray (pre.length + i))).set d (fun _ => dObj ((pre ++ ch.take i).toArray.push ch[i]) (pre.length + i + 1))).get sub = some (dObj ch.toArray ch.length) := by rw [get_else hne]; exact hs'
    have hd' : (T.set d (fun _ => dObj (pre ++ ch.take i).toArray (pre.length + i))).get d = some (dObj (pre ++ ch.take i).toArray (pre.length + i)) := get_here hd
    have fr := fresh_at (pre := pre) hi' nd
    have pt := push_take (pre := pre) hi'
    obtain ⟨k9, t9, ek, eh⟩ := hk _ (List.getElem_mem hi')
    refine Goes.same (n := 1 + (4 + (1 + 0))) (Goes.bind (goes_entries hs' (blt_of hsn)) ?_) rfl rfl (show (⟨(T.set d (fun _ => dObj (pre ++ ch.take i).toArray (pre.length + i))).set d (fun _ => dObj ((pre ++ ch.take i).toArray.push ch[i]) (pre.length + i + 1)), n, life, gens, drawn, toks, os⟩ : SharedT) = _ by rw [set_set, pt]; rfl) rfl
    have e2 : ch.toArray[i]? = some ch[i] := by rw [List.getElem?_toArray, List.getElem?_eq_getElem hi']
    rw [e2]
    dsimp only
    have e3 : ch[i] = ⟨hashInt k9, .int k9 t9, ch[i].val⟩ := by
      have : ∀ e : DictEntry, e.key = .int k9 t9 → e.hash = hashInt k9 → e = ⟨hashInt k9, .int k9 t9, e.val⟩ := by rintro ⟨a, b, c⟩ rfl rfl; rfl
      exact this _ ek eh
    have sz : (pre ++ ch.take i).toArray.size < 1000 := by rw [List.size_toArray, List.length_append, List.length_take]; omega
    generalize ch[i] = e9 at *
    obtain ⟨v9, rfl⟩ : ∃ v, e9 = ⟨hashInt k9, .int k9 t9, v⟩ := ⟨_, e3⟩
    refine Goes.bind (Goes.holding _ (goes_put hd' (blt_of hdn) (Nat.ble_eq_true_of_le hdb) sz fr)) ?_
    refine Goes.bind (goes_epoch hs2 (blt_of hsn)) ?_
    rw [if_neg (by simp)]
    exact Goes.pure _
end
end Mine
namespace Mine
open PySem PySem.W PySem.Calls PyProof.Rows
section
variable {w : World} {T : BT} {n : Nat} {life : Life} {gens : Array GenState} {drawn : Drawn} {toks : Nat} {os : OsState}
noncomputable def valsF : Nat → List KV → List (Value × Value)
  | _, [] => []
  | t, r :: l => (.int r.i t, .str r.x (t + 1)) :: valsF (t + 2) l
theorem valsF_len : ∀ (t : Nat) (l : List KV), (valsF t l).length = l.length
  | _, [] => rfl
  | t, r :: l => congrArg (· + 1) (valsF_len (t + 2) l)
theorem valsF_at : ∀ (t : Nat) (l : List KV) (i : Nat) (h : i < l.length), (valsF t l)[i]'(by rw [valsF_len]; exact h) = (.int l[i].i (t + 2 * i), .str l[i].x (t + 2 * i + 1))
  | t, r :: l, 0, h => rfl
  | t, r :: l, i + 1, h => by
    have := valsF_at (t + 2) l i (by simpa using h)
    show (valsF (t + 2) l)[i]'_ = _
    rw [this, show t + 2 * (i + 1) = t + 2 + 2 * i by omega]
    rfl
theorem goes_pairs : ∀ (rows : List KV) (toks : Nat), Goes w (evalPairs (rows.map pairR)) (3 * rows.length) ⟨T, n, life, gens, drawn, toks, os⟩ ⟨T, n, life, gens, drawn, toks + 2 * rows.length, os⟩ (valsF toks rows)
  | [], toks => Goes.pure _
  | r :: l, toks => by
    have ih := goes_pairs l (toks + 2)
    refine Goes.same (n := 1 + (2 + (3 * l.length + 0))) (m := (pairR r).1 >>= fun kv => holding [kv] (pairR r).2 >>= fun vv => holding [kv, vv] (evalPairs (l.map pairR)) >>= fun rest => Pure.pure ((kv, vv) :: rest))
      (Goes.bind (goes_k1 r) (Goes.bind (Goes.holding _ (goes_v1 r)) (Goes.bind (Goes.holding _ ih) (Goes.pure _)))) rfl (by rw [List.length_cons]; omega) (by rw [List.length_cons, show toks + 2 + 2 * l.length = toks + 2 * (l.length + 1) by omega]) rfl
theorem goes_subS {toks : Nat} (rows : List KV) (hl : rows.length ≤ 15) (hf : Full T n) (hb : 28 ≤ n) (nd : (rows.map fun r => hashInt r.i).Nodup) :
    Goes w (subDict (rows.map pairR)) (1 + (3 * rows.length + (13 * rows.length + 0) + 0)) ⟨T, n, life, gens, drawn, toks, os⟩ ⟨made T n (subF toks rows), n + 1, life, gens, drawn, toks + 3 * rows.length, os⟩ n := by
  unfold subDict
  refine Goes.bind (goes_alloc (ins_ok T n hf)) ?_
  refine Goes.bind (a := ()) (s₁ := ⟨made T n (subF toks rows), n + 1, life, gens, drawn, toks + 3 * rows.length, os⟩) (Goes.holding _ ?_) (Goes.pure _)
  rw [if_pos (by rw [List.length_map]; omega)]
  refine Goes.bind (goes_pairs rows toks) (Goes.holding _ ?_)
  have hT : (T.ins n (dObj #[] 0)).get n = some (dObj #[] 0) := by rw [BT.get_ins _ T n (ins_ok T n hf), if_pos rfl]
  have key := goes_forIn (w := w) (k := 13) (valsF toks rows) (b := fun x _ => dictSet n x.1 x.2 >>= fun _ => Pure.pure (ForInStep.yield PUnit.unit))
    (fun i => ⟨(T.ins n (dObj #[] 0)).set n (fun _ => dObj ((subF toks rows).take i).toArray i), n + 1, life, gens, drawn, toks + 2 * rows.length + i, os⟩) ?_
  · rw [valsF_len] at key
    have e0 : (T.ins n (dObj #[] 0)).set n (fun _ => dObj ((subF toks rows).take 0).toArray 0) = T.ins n (dObj #[] 0) := set_same _ _ hT
    have e1 : (subF toks rows).take rows.length = subF toks rows := by rw [List.take_of_length_le]; rw [subF_len]; exact Nat.le_refl _
    rw [e0, e1, Nat.add_zero, show dObj (subF toks rows).toArray rows.length = dObj (subF toks rows).toArray (subF toks rows).length by rw [subF_len], show toks + 2 * rows.length + rows.length = toks + 3 * rows.length by omega] at key
    exact Goes.bind key (Goes.pure _)
  · intro i hi
    have hi' : i < rows.length := by rw [valsF_len] at hi; exact hi
    have hi2 : i < (subF toks rows).length := by rw [subF_len]; exact hi'
    rw [valsF_at toks rows i hi']
    have hat := subF_at toks rows i hi'
    have hd : ((T.ins n (dObj #[] 0)).set n (fun _ => dObj ((subF toks rows).take i).toArray i)).get n = some (dObj ((subF toks rows).take i).toArray i) := get_here hT
    have fr := fresh_at (pre := []) hi2 (by rw [List.nil_append, subF_hash]; exact nd)
    rw [List.nil_append, hat] at fr
    have pt := push_take (pre := []) hi2
    rw [List.nil_append, List.nil_append, hat] at pt
    have sz : ((subF toks rows).take i).toArray.size < 1000 := by
      rw [List.size_toArray, List.length_take]; omega
    refine Goes.same (n := 13 + 0) (Goes.bind (goes_set hd (blt_of (Nat.lt_succ_self n : n < n + 1)) (Nat.ble_eq_true_of_le hb) sz fr) (Goes.pure (ForInStep.yield PUnit.unit))) rfl rfl ?_ rfl
    rw [set_set, pt]
    rfl
theorem ne_nil_map {rows : List KV} (h : 0 < rows.length) : (rows.map pairR).isEmpty = false := by
  cases rows with
  | nil => cases h
  | cons => rfl
theorem goes_flush0 {toks : Nat} (rows : List KV) (hl : 15 < rows.length) (hs : rows.length < 1000) (hf : Full T n) (hb : 28 ≤ n) (nd : (rows.map fun r => hashInt r.i).Nodup) :
    Goes w (flushD (rows.map pairR) none) (1 + (1 + (16 * rows.length + 0) + 0) + 0) ⟨T, n, life, gens, drawn, toks, os⟩ ⟨made T n (subE toks rows), n + 1, life, gens, drawn, toks + 3 * rows.length, os⟩ (some n) := by
  unfold flushD
  rw [if_neg (by rw [ne_nil_map (by omega)]; exact Bool.false_ne_true)]
  exact Goes.bind (goes_sub rows hl hs hf hb nd) (Goes.pure _)
theorem subE_int : ∀ (t : Nat) (l : List KV), ∀ e ∈ subE t l, ∃ i t, e.key = .int i t ∧ e.hash = hashInt i
  | _, [] => fun _ h => absurd h List.not_mem_nil
  | t, r :: l => fun e h => by
    rcases List.mem_cons.mp h with rfl | h
    · exact ⟨_, _, rfl, rfl⟩
    · exact subE_int _ l e h
theorem subF_int : ∀ (t : Nat) (l : List KV), ∀ e ∈ subF t l, ∃ i t, e.key = .int i t ∧ e.hash = hashInt i
  | _, [] => fun _ h => absurd h List.not_mem_nil
  | t, r :: l => fun e h => by
    rcases List.mem_cons.mp h with rfl | h
    · exact ⟨_, _, rfl, rfl⟩
    · exact subF_int _ l e h
theorem goes_flush {toks toks' k d : Nat} {pre ch : List DictEntry} {run : List (SV × SV)} (hr : run.isEmpty = false)
    (hsub : Goes w (subDict run) k ⟨T, n, life, gens, drawn, toks, os⟩ ⟨made T n ch, n + 1, life, gens, drawn, toks', os⟩ n)
    (hf : Full T n) (hd : T.get d = some (dObj pre.toArray pre.length)) (hdn : d < n) (hdb : 28 ≤ d) (hmod : (d == sysModules) = false) (hmod' : (n == sysModules) = false)
    (hz : pre.length + ch.length < 1000) (hk : ∀ e ∈ ch, ∃ i t, e.key = .int i t ∧ e.hash = hashInt i) (nd : ((pre ++ ch).map (·.hash)).Nodup) (hp : pre ≠ []) :
    Goes w (flushD run (some d)) (k + (1 + 1 + (1 + 1 + (0 + (1 + (1 + (1 + (6 * ch.length + 0)))))) + 0)) ⟨T, n, life, gens, drawn, toks, os⟩
      ⟨(made T n ch).set d (fun _ => dObj (pre ++ ch).toArray (pre ++ ch).length), n + 1, life, gens, drawn, toks', os⟩ (some d) := by
  unfold flushD
  rw [if_neg (by rw [hr]; exact Bool.false_ne_true)]
  dsimp only
  refine Goes.bind (Goes.holding _ hsub) ?_
  refine Goes.bind (Goes.onRaise _ (Goes.holding _ (goes_merge pre ch ?_ (made_get hf) (by omega) (by omega) (by omega) hdb hmod hmod' hz hk nd hp))) (Goes.pure _)
  rw [made_else hf (by omega)]
  exact hd
theorem sm_ne {a : Nat} (h : 28 ≤ a) : (a == sysModules) = false := beq_eq_false_iff_ne.mpr (Nat.ne_of_gt (Nat.lt_of_lt_of_le (show sysModules < 28 by decide) h))
/- the whole loop -/
noncomputable def finT : Nat → BT → Nat → Nat → List DictEntry → List KV → BT
  | 0, T, n, toks, pre, rows => (made T n (subF toks rows)).set 85 (fun _ => dObj (pre ++ subF toks rows).toArray (pre ++ subF toks rows).length)
  | j + 1, T, n, toks, pre, rows => finT j ((made T n (subE toks (rows.take 17))).set 85 (fun _ => dObj (pre ++ subE toks (rows.take 17)).toArray (pre ++ subE toks (rows.take 17)).length)) (n + 1) (toks + 51) (pre ++ subE toks (rows.take 17)) (rows.drop 17)
noncomputable def cntL : Nat → Nat
  | 0 => 1 + (3 * 4 + (13 * 4 + 0) + 0) + (1 + 1 + (1 + 1 + (0 + (1 + (1 + (1 + (6 * 4 + 0)))))) + 0) + 0
  | j + 1 => 1 + (1 + (16 * 17 + 0) + 0) + (1 + 1 + (1 + 1 + (0 + (1 + (1 + (1 + (6 * 17 + 0)))))) + 0) + cntL j
theorem goes_loop : ∀ (j : Nat) (T : BT) (n toks : Nat) (pre : List DictEntry) (rows : List KV), rows.length = 17 * j + 4 → Full T n → T.get 85 = some (dObj pre.toArray pre.length) → 85 < n → pre ≠ [] → pre.length + rows.length < 1000 →
    (pre.map (·.hash) ++ rows.map fun r => hashInt r.i).Nodup → Goes w (dLoop (rows.map pairR) (some 85) []) (cntL j) ⟨T, n, life, gens, drawn, toks, os⟩ ⟨finT j T n toks pre rows, n + j + 1, life, gens, drawn, toks + 51 * j + 12, os⟩ (.ref 85)
  | 0, T, n, toks, pre, rows, hl, hf, hd, hn, hp, hz, nd => by
    rw [dLoop_end _ _ (by rw [List.length_map]; omega)]
    have l4 : rows.length = 4 := by omega
    have nd2 := (List.nodup_append.mp nd).2.1
    have h1 := goes_subS (w := w) (T := T) (n := n) (life := life) (gens := gens) (drawn := drawn) (os := os) (toks := toks) rows (by omega) hf (by omega) nd2
    have h2 := goes_flush (ne_nil_map (by omega)) h1 hf hd hn (by omega) (sm_ne (by omega)) (sm_ne (by omega)) (by rw [subF_len]; omega) (subF_int _ _) (by rw [List.map_append, subF_hash]; exact nd) hp
    rw [subF_len, l4] at h2
    exact Goes.same (Goes.bind h2 (Goes.pure _)) rfl rfl rfl rfl
  | j + 1, T, n, toks, pre, rows, hl, hf, hd, hn, hp, hz, nd => by
    have e0 : rows = rows.take 17 ++ rows.drop 17 := (List.take_append_drop 17 rows).symm
    have l17 : (rows.take 17).length = 17 := by rw [List.length_take]; omega
    have ldr : (rows.drop 17).length = 17 * j + 4 := by rw [List.length_drop]; omega
    have e1 : rows.map pairR = (rows.take 17).map pairR ++ (rows.drop 17).map pairR := by rw [← List.map_append, ← e0]
    rw [e1, dLoop_17 _ _ _ (by rw [List.length_map]; exact l17)]
    have nd1 : (pre.map (·.hash) ++ ((rows.take 17).map (fun r => hashInt r.i) ++ (rows.drop 17).map (fun r => hashInt r.i))).Nodup := by rw [← List.map_append, ← e0]; exact nd
    have nd2 := (List.nodup_append.mp (List.nodup_append.mp nd1).2.1).1
    rw [← List.append_assoc] at nd1
    have nd3 := (List.nodup_append.mp nd1).1
    have h1 := goes_sub (w := w) (T := T) (n := n) (life := life) (gens := gens) (drawn := drawn) (os := os) (toks := toks) (rows.take 17) (by omega) (by omega) hf (by omega) nd2
    have h2 := goes_flush (ne_nil_map (by omega)) h1 hf hd hn (by omega) (sm_ne (by omega)) (sm_ne (by omega)) (by rw [subE_len]; omega) (subE_int _ _) (by rw [List.map_append, subE_hash]; exact nd3) hp
    rw [subE_len, l17] at h2
    have hM : Full (made T n (subE toks (rows.take 17))) (n + 1) := hf.ins.set
    have hd' : (made T n (subE toks (rows.take 17))).get 85 = some (dObj pre.toArray pre.length) := by rw [made_else hf (by omega)]; exact hd
    have ih := goes_loop j ((made T n (subE toks (rows.take 17))).set 85 (fun _ => dObj (pre ++ subE toks (rows.take 17)).toArray (pre ++ subE toks (rows.take 17)).length)) (n + 1) (toks + 51) (pre ++ subE toks (rows.take 17)) (rows.drop 17) ldr
      hM.set (get_here hd') (by omega) (by intro q; exact hp (List.append_eq_nil_iff.mp q).1) (by rw [List.length_append, subE_len, l17, ldr]; omega) (by rw [List.map_append, subE_hash]; exact nd1)
    refine Goes.same (Goes.bind h2 ih) rfl rfl ?_ rfl
    rw [show n + 1 + j + 1 = n + (j + 1) + 1 by omega, show toks + 51 + 51 * j + 12 = toks + 51 * (j + 1) + 12 by omega]
    rfl
end
end Mine
namespace Mine
open PySem PySem.W PySem.Calls PyProof.Rows
theorem up_nodup : ∀ (l : List Int), (l.zip (l.drop 1)).all (fun p => decide (p.1 < p.2)) = true → l.Nodup ∧ ∀ x ∈ l, ∀ y, l.head? = some y → y ≤ x
  | [], _ => ⟨.nil, by simp⟩
  | [a], _ => ⟨by simp, by simp⟩
  | a :: b :: r, x => by
    simp only [List.drop_succ_cons, List.drop_zero, List.zip_cons_cons, List.all_cons, Bool.and_eq_true, decide_eq_true_eq] at x
    obtain ⟨h1, h2⟩ := x
    have ih := up_nodup (b :: r) (by simpa using h2)
    refine ⟨List.nodup_cons.mpr ⟨fun hm => ?_, ih.1⟩, fun x hx y hy => ?_⟩
    · have := ih.2 a hm b rfl; omega
    · cases hy
      rcases List.mem_cons.mp hx with rfl | hx
      · omega
      · have := ih.2 x hx b rfl; omega
theorem kvs_up : ((kvs.map fun r => hashInt r.i).zip ((kvs.map fun r => hashInt r.i).drop 1)).all (fun p => decide (p.1 < p.2)) = true := by kernel_rfl
theorem kvs_nd : (kvs.map fun r => hashInt r.i).Nodup := (up_nodup _ kvs_up).1
theorem kvs_len : kvs.length = 650 := by kernel_rfl
theorem full0 (P : Params) : (List.range 85).all (fun i => ((t_sD P).get i).isSome) = true := by kernel_rfl
theorem full85 (P : Params) : Full (t_sD P) 85 := fun i hi => List.all_eq_true.mp (full0 P) i (List.mem_range.mpr hi)
noncomputable def T86 (P : Params) : BT := made (t_sD P) 85 (subE 416 (kvs.take 17))
noncomputable def tFin (P : Params) : BT := finT 37 (T86 P) 86 467 (subE 416 (kvs.take 17)) (kvs.drop 17)
theorem goes11 (w : World) (os : OsState) : Goes w (dLoop (dKV.map pairOf) none []) (1 + (1 + (16 * 17 + 0) + 0) + 0 + cntL 37) (sD w os) ⟨tFin w.params, 124, default, #[], {}, 2366, os⟩ (.ref 85) := by
  have e0 : kvs = kvs.take 17 ++ kvs.drop 17 := (List.take_append_drop 17 kvs).symm
  have l17 : (kvs.take 17).length = 17 := by rw [List.length_take, kvs_len]; omega
  have ldr : (kvs.drop 17).length = 17 * 37 + 4 := by rw [List.length_drop, kvs_len]
  have e1 : dKV.map pairOf = (kvs.take 17).map pairR ++ (kvs.drop 17).map pairR := by rw [← List.map_append, ← e0, kvs_eq, List.map_map]; rfl
  have nd1 := kvs_nd
  rw [e0, List.map_append] at nd1
  rw [e1, dLoop_17 _ _ _ (by rw [List.length_map]; exact l17)]
  have h1 := goes_flush0 (w := w) (T := t_sD w.params) (n := 85) (life := default) (gens := #[]) (drawn := {}) (os := os) (toks := 416) (kvs.take 17) (by omega) (by omega) (full85 _) (by omega) (List.nodup_append.mp nd1).1
  rw [l17] at h1
  have h2 := goes_loop (w := w) (life := default) (gens := #[]) (drawn := {}) (os := os) 37 (T86 w.params) 86 467 (subE 416 (kvs.take 17)) (kvs.drop 17) ldr (by unfold T86; exact (full85 w.params).ins.set) (by unfold T86; exact made_get (full85 w.params)) (by omega)
    (by intro q; have := congrArg List.length q; rw [subE_len, l17] at this; cases this) (by rw [subE_len, l17, ldr]; omega) (by rw [subE_hash]; exact nd1)
  exact Goes.bind h1 h2
/- the name is bound -/
noncomputable def bindM : Sem Flow := assignAll (.ref 85) ((assignEach [.Name (S "b3_exceptions") tPos] envB).map (·.2)) >>= fun _ => Pure.pure .next
noncomputable def Pbd (w : World) : Prop := (fun os => qRun tb pw w 28 annB 1 60 ⟨tFin w.params, 124, default, #[], {}, 2366, os⟩ ⟨bindM.wrap doneF deadEnd id id, cB, dPos, frB⟩) = fun os => some (.next, sE w os, cB, ⟨82, 0, 82, 13⟩)
theorem pbd (w : World) : Pbd w := by unfold Pbd; kernel_rfl
theorem piece11 {w : World} {os : OsState} {N : Nat} {r : Shared} {rest : List Stmt} (k : topRun treeTable pw w 28 annB N (sE w os).abs (restOf rest envB cB ⟨82, 0, 82, 13⟩ frB) = some r) :
    topRun treeTable pw w 28 annB (2 + ((1 + (1 + (16 * 17 + 0) + 0) + 0 + cntL 37) + (60 + N))) (sD w os).abs (restOf (St 11 :: rest) envB cB ⟨80, 0, 81, 30⟩ frB) = some r := by
  unfold restOf at k ⊢
  rw [execs_cons_wrap, exec11]
  have e : ∀ (K : Flow → Sem Fin) (H : Value → Sem Fin), (standAt sPos >>= fun _ => standAt dPos >>= fun _ => dLoop (dKV.map pairOf) none [] >>= fun v => assignAll v ((assignEach [.Name (S "b3_exceptions") tPos] envB).map (·.2)) >>= fun _ => (Pure.pure .next : Sem Flow)).wrap K H id id =
      .at sPos fun _ => .at dPos fun _ => (dLoop (dKV.map pairOf) none []).wrap (fun v => (assignAll v ((assignEach [.Name (S "b3_exceptions") tPos] envB).map (·.2)) >>= fun _ => (Pure.pure .next : Sem Flow)).wrap K H id id) H id id := by
    intro K H
    show Sem.at sPos (fun _ => Sem.at dPos (fun _ => _)) = _
    congr 1; funext _; congr 1; funext _
    show ((dLoop (dKV.map pairOf) none []) >>= fun v => _ : Sem Flow).wrap K H id id = _
    rw [Sem.bind_eq_wrap', Sem.wrap_wrap]
    rfl
  rw [e, show 2 + ((1 + (1 + (16 * 17 + 0) + 0) + 0 + cntL 37) + (60 + N)) = ((1 + (1 + (16 * 17 + 0) + 0) + 0 + cntL 37) + (60 + N)) + 1 + 1 by omega]
  generalize hM : (1 + (1 + (16 * 17 + 0) + 0) + 0 + cntL 37) + (60 + N) = M
  show topRun _ _ _ _ _ M (sD w os).abs ⟨_, cB, dPos, frB⟩ = _
  rw [← hM]
  refine goes11 w os _ _ _ _ _ _ ?_
  have h := congrFun (pbd w) os
  rw [← tb_eq, ← qRun_eq] at h
  obtain ⟨b, hb, hN⟩ := seg_top (res := id) (K' := fun f => match f with | .next => (execs rest envB).wrap doneF (leaveH envB) id id | f => doneF f) (H' := leaveH envB) (gd := id) (lv := id) (B := frB) rfl 60 (SharedT.abs ⟨tFin w.params, 124, default, #[], {}, 2366, os⟩)
    ⟨bindM.wrap doneF deadEnd id id, cB, dPos, frB⟩ ⟨bindM.wrap (fun f => match f with | .next => (execs rest envB).wrap doneF (leaveH envB) id id | f => doneF f) (leaveH envB) id id, cB, dPos, frB⟩ _ _ _ _ ⟨rfl, rfl, .inl ⟨rfl, rfl, bindM, rfl, rfl⟩⟩ (segRun_of h)
  obtain rfl : b = .next := hb
  exact hN N r k
end Mine
namespace Mine
open PySem PySem.W PySem.Calls PyProof.Rows
noncomputable def HF (P : Params) : Heap := absHeap (t_sF P) 317 default
noncomputable def posF : Pos := ⟨241, 0, 255, 15⟩
noncomputable def qGo := PySem.W.Fast.tw15667345088766844465
theorem qGo_eq : @topGo = qGo := PySem.W.Fast.te15667345088766844465
noncomputable def qTop := PySem.W.Fast.tw14082659384304107361
theorem qTop_eq : @topRun = qTop := PySem.W.Fast.te14082659384304107361
noncomputable def qSegS := PySem.W.Fast.tw14374325043358763698
theorem qSegS_eq : @segRun = qSegS := PySem.W.Fast.te14374325043358763698
noncomputable def Ppre (w : World) : Prop := (fun os => qGo tb pw w 28 annB 12 (s0 w os).abs (topStub pw)) = fun os => some ((sA w os).abs, ⟨qDen tb cB, cB, pos0, frB⟩)
theorem ppre (w : World) : Ppre w := by unfold Ppre; kernel_rfl
noncomputable def Pblk (w : World) : Prop := (fun os => segRun treeTable pw w 28 annB 1 1 (sA w os).abs (blockOf bodyB envB cB pos0 frB)) = fun os => some (.next, (sA w os).abs, cB, pos0)
theorem pblk (w : World) : Pblk w := by unfold Pblk; kernel_rfl
noncomputable def Pfin (w : World) : Prop := (fun os => qTop tb pw w 28 annB 2 (sF w os).abs ⟨doneF .next, cB, posF, frB⟩) = fun os => some (sF w os).abs
theorem pfin (w : World) : Pfin w := by unfold Pfin; kernel_rfl
theorem body_eq : bodyB = (bodyB.drop 0).take (8 - 0) ++ ((bodyB.drop 8).take (9 - 8) ++ ((bodyB.drop 9).take (10 - 9) ++ (St 11 :: ((bodyB.drop 11).take (25 - 11) ++ [])))) := by kernel_rfl
noncomputable def cntA : Nat := 12 + (1 + (199 + (999 + (30 + (2 + ((1 + (1 + (16 * 17 + 0) + 0) + 0 + cntL 37) + (60 + (1214 + 2))))))))
theorem run_top (w : World) (os : OsState) : topRun treeTable pw w 28 annB cntA ⟨H0 w.params, #[], {}, 276, os⟩ (topStub pw) = some ⟨HF w.params, #[], {}, 2695, os⟩ := by
  have h1 := congrFun (ppre w) os
  have h2 := congrFun (pfin w) os
  have h3 := congrFun (p08 w) os
  have h4 := congrFun (p89 w) os
  have h5 := congrFun (p9t w) os
  have h6 := congrFun (pte w) os
  have h7 := congrFun (pblk w) os
  rw [← qGo_eq, ← tb_eq, ← qDen_eq] at h1
  rw [← qTop_eq, ← tb_eq] at h2
  rw [← qRun_eq, ← tb_eq] at h3 h4 h5 h6
  unfold cntA
  refine go_top h1 (piece_block (q := pos0) h7 ?_)
  rw [body_eq]
  refine piece_app (segRun_of h3) (piece_app (segRun_of h4) (piece_app (segRun_of h5) (piece11 (piece_app (segRun_of h6) (piece_nil h2)))))
noncomputable def szP (w : World) : Prop := ((H0 w.params).isNs mainGlobals && (#[] : Array GenState).size == 0, (H0 w.params).objs.size, (H0 w.params).nsMap mainGlobals "__annotations__") = (true, 28, annB)
theorem sz_p (w : World) : szP w := by unfold szP; kernel_rfl
theorem st0Top : (start (opening pw)).1 = (SharedT.abs ⟨.nil, 0, {}, #[], {}, 1, os0⟩) := by kernel_rfl
noncomputable def stZ (w : World) : Prop := (fun os => (sZ w os).abs) = fun os => (⟨HZ w.params, #[], {}, 276, os⟩ : Shared)
theorem st_z (w : World) : stZ w := by unfold stZ; kernel_rfl
theorem open_go (w : World) : importEnds treeTable (opening pw) w 799 (start (opening pw)).1 (start (opening pw)).2 = some ⟨HZ w.params, #[], {}, 276, os0⟩ := by
  have h := pop w
  unfold Pop at h
  rw [← qStep_eq, ← qDen_eq, ← tb_eq, ← qStart_eq] at h
  have h2 := endsT_spec h
  have e := congrFun (st_z w) os0
  rw [e] at h2
  rw [st0Top]
  exact h2
theorem fence_top (w : World) : (fencedOpening treeTable pw w 30050).map (fun s => (s.heap, s.gens, s.drawn, s.toks)) = some (H0 w.params, #[], {}, 276) :=
  open_cut (M := 799) (He := HZ) (ge := #[]) (de := {}) (ke := 276) open_go rfl fenced w
end Mine
namespace Mine
open PySem PySem.W PySem.Calls PyProof.Rows
noncomputable abbrev keepI : List Nat := [0, 1, 2, 3, 4, 5, 6, 7, 8, 10, 12, 13, 18, 19, 20, 21, 22, 23, 24, 25]
noncomputable def qv : Program := { pw with main := { pw.main with body := keepI.map St } }
noncomputable abbrev lz : List Str := [S "b1_set", S "b3_exceptions", S "tspecials", S "_name_disallowed_re", S "_value_disallowed_re", S "_formatparam"]
noncomputable abbrev HKk : Hook := kHook K Kat (fun _ => by kernel_rfl)
noncomputable abbrev rowR : RowW := PySem.Challenge.rw_wf0109_01.row.toRowW
noncomputable abbrev XtF : Shared → Bool := fun s => xlAt qv [] s && recOk (RowW.records rowR) s
noncomputable abbrev sFin (P : Params) (os : OsState) : Shared := ⟨HF P, #[], {}, 2695, os⟩
noncomputable abbrev modsF : List Str := importedModules pw.main.body
theorem lk_a (w : World) : (fun os => staticsOk modsF (H0 w.params) (HF w.params) && namesBound pw (HF w.params) && gensDone (sFin w.params os) && laidKept (H0 w.params) (HF w.params)) = fun _ => true := by kernel_rfl
theorem lk_k (w : World) : (fun os => Hook.obs HKk (sFin w.params os)) = fun _ => Hook.val HKk w := by kernel_rfl
theorem lk_1 (w : World) : (fun os => seen ((recsOf qv).map (·.name)) (ownsOf qv) [] { (sFin w.params os) with gens := #[] }) = fun _ => expectedOf qv := by kernel_rfl
theorem lk_2 (w : World) : (fun (os : OsState) => (HF w.params).bltView) = fun _ => bltViewBooted := by kernel_rfl
theorem lk_3 (w : World) : (fun os => (HF w.params).keysOk (looseW qv lz) ((recsOf qv).map (·.name)) ((litsOf qv).map (·.1)) ((clssOf qv (looseW qv lz)).map (·.name)) && (HF w.params).accountedOkI modsF && (HF w.params).isNs mainGlobals && (HF w.params).isNs builtinsNs && tablesOk qv (HF w.params) && XtF (sFin w.params os) && (if true then (sFin w.params os).gens.size == 0 else !leftWithCleanup (sFin w.params os).gens)) = fun _ => true := by kernel_rfl
theorem lk_4 (w : World) : (fun os => tabsOk qv (sFin w.params os)) = fun _ => true := by kernel_rfl
theorem lk_5 (w : World) : (fun os => pinSeenD qv (drecsOf qv) (sFin w.params os)) = fun _ => pinGoodD (drecsOf qv) := by kernel_rfl
theorem lk_6 (w : World) : (fun os => plainSeenE qv (looseW qv lz) (sFin w.params os)) = fun _ => plainGoodE qv (looseW qv lz) := by kernel_rfl
theorem lk_7 (w : World) : (fun os => plainSeenD qv lz (sFin w.params os)) = fun _ => plainGoodD qv lz := by kernel_rfl
theorem lk_8 (w : World) : (fun os => wideSeen qv (sFin w.params os)) = fun _ => wideGood qv := by kernel_rfl
theorem lk_9 (w : World) : (fun os => clsSeenW qv lz (sFin w.params os)) = fun _ => clsGoodW qv lz := by kernel_rfl
theorem lk_all (w : World) : (fun os => ((staticsOk modsF (H0 w.params) (HF w.params) && namesBound pw (HF w.params) && gensDone ⟨HF w.params, #[], {}, 2695, os⟩ && laidKept (H0 w.params) (HF w.params)),
    openSeen qv lz modsF XtF true ⟨HF w.params, #[], {}, 2695, os⟩, Hook.obs HKk ⟨HF w.params, #[], {}, 2695, os⟩)) = fun _ => (true, openGood qv lz, Hook.val HKk w) := by
  funext os
  refine looks_pair (congrFun (lk_a w) os) (looks_pair ?_ (congrFun (lk_k w) os))
  unfold openSeen openGood
  exact looks_pair (congrFun (lk_1 w) os) (looks_pair (congrFun (lk_2 w) os) (looks_pair (congrFun (lk_3 w) os) (looks_pair (congrFun (lk_4 w) os) (looks_pair (congrFun (lk_5 w) os) (looks_pair (congrFun (lk_6 w) os) (looks_pair (congrFun (lk_7 w) os) (looks_pair (congrFun (lk_8 w) os) (congrFun (lk_9 w) os))))))))
theorem cntA_le : Nat.ble cntA 30050 = true := by kernel_rfl
theorem sz_top (w : World) : ((H0 w.params).isNs mainGlobals && (#[] : Array GenState).size == 0, (H0 w.params).objs.size, (H0 w.params).nsMap mainGlobals "__annotations__") = (true, 28, annB) := sz_p w
theorem left_top : LeftO pw qv lz XtF (Hook.obs HKk) (Hook.val HKk) 30050 :=
  LeftO.of_pieces (p := pw) (q := qv) (loose := lz) (Xt := XtF) (Yf := Hook.obs HKk) (Ya := Hook.val HKk) (N := 30050) (g0 := true) (H₀ := H0) (H₁ := HF) (gs₀ := #[]) (gs₁ := #[]) (d₀ := {}) (d₁ := {}) (k₀ := 276) (k₁ := 2695) (m₀ := 28) (ann := annB) (M := cntA)
    fence_top sz_top run_top cntA_le lk_all
end Mine
namespace Mine
open PySem PySem.W PySem.Calls PyProof.Rows
noncomputable abbrev prog : Program := PySem.Challenge.rw_wf0109_01.row.prog
noncomputable abbrev Rel := Value → List (Addr × Obj) → Prop
noncomputable abbrev Ct (w : World) (lv : Nat) (f : Addr) (news : List (Addr × Obj)) (vs : List Value) (R : Rel) : Prop :=
  ∀ (p : Program) (loose : List Str) (mean : ExcName → Option Value) (mg mb : Str → Option Value) (dp un : Nat) (gd : Option (List Code)) (cn : Str) (cs : Scope) (a : Addr) (ccd : Value) (cl : List (Str × Addr)) (outer : List Env) (A₀ : Around) (base h₀ : Heap) (L : Addr) (m : Str → Option Value) (s : Shared) (Q E : Value → Shared → Prop),
    Below A₀ base outer h₀ → Fr h₀ L s.heap m → (K w.params).In h₀ → News h₀ L s.heap news → Top p loose mean mg mb h₀ → cs.kind = .function → dp + 2 * lv < recursionLimit → un + 20 * lv < cLine →
    (∀ (v : Value) (xs : List (Addr × Obj)) (h' : Heap) (tk' : Nat), R v xs → Fr h₀ L h' m → News h₀ L h' (xs ++ news) → Q v { s with heap := h', toks := tk' }) →
      wpAny (model prog w) (ktrTop dp un gd cn cs L a ccd cl outer) (call (.ref f) vs) Q E s
theorem ct_use {w : World} {lv : Nat} {f : Addr} {news : List (Addr × Obj)} {vs : List Value} {R : Rel} {p : Program} {loose : List Str} {mean : ExcName → Option Value} {mg mb : Str → Option Value} {dp un : Nat} {gd : Option (List Code)} {cn : Str} {cs : Scope} {a : Addr} {ccd : Value} {cl : List (Str × Addr)} {outer : List Env} {A₀ : Around} {base h₀ : Heap} {L : Addr} {m : Str → Option Value} {s : Shared} {Q E : Value → Shared → Prop}
    (C : Ct w lv f news vs R) (B : Below A₀ base outer h₀) (F : Fr h₀ L s.heap m) (X : (K w.params).In h₀) (N : News h₀ L s.heap news) (T : Top p loose mean mg mb h₀) (hk : cs.kind = .function) (hd : dp + 2 * lv < recursionLimit) (hu : un + 20 * lv < cLine)
    (h : ∀ (v : Value) (xs : List (Addr × Obj)) (h' : Heap) (tk' : Nat), R v xs → Fr h₀ L h' m → News h₀ L h' (xs ++ news) → Q v { s with heap := h', toks := tk' }) :
    wpAny (model prog w) (ktrTop dp un gd cn cs L a ccd cl outer) (call (.ref f) vs) Q E s :=
  C p loose mean mg mb dp un gd cn cs a ccd cl outer A₀ base h₀ L m s Q E B F X N T hk hd hu h
noncomputable abbrev CtK (w : World) (lv : Nat) (f : Addr) (news : List (Addr × Obj)) (vs : List Value) (kw : List (Str × Value)) (R : Rel) : Prop :=
  ∀ (p : Program) (loose : List Str) (mean : ExcName → Option Value) (mg mb : Str → Option Value) (dp un : Nat) (gd : Option (List Code)) (cn : Str) (cs : Scope) (a : Addr) (ccd : Value) (cl : List (Str × Addr)) (outer : List Env) (A₀ : Around) (base h₀ : Heap) (L : Addr) (m : Str → Option Value) (s : Shared) (Q E : Value → Shared → Prop),
    Below A₀ base outer h₀ → Fr h₀ L s.heap m → (K w.params).In h₀ → News h₀ L s.heap news → Top p loose mean mg mb h₀ → cs.kind = .function → dp + 2 * lv < recursionLimit → un + 20 * lv < cLine →
    (∀ (v : Value) (xs : List (Addr × Obj)) (h' : Heap) (tk' : Nat), R v xs → Fr h₀ L h' m → News h₀ L h' (xs ++ news) → Q v { s with heap := h', toks := tk' }) →
      wpAny (model prog w) (ktrTop dp un gd cn cs L a ccd cl outer) (call (.ref f) vs kw) Q E s
theorem ctk_use {w : World} {lv : Nat} {f : Addr} {news : List (Addr × Obj)} {vs : List Value} {kw : List (Str × Value)} {R : Rel} {p : Program} {loose : List Str} {mean : ExcName → Option Value} {mg mb : Str → Option Value} {dp un : Nat} {gd : Option (List Code)} {cn : Str} {cs : Scope} {a : Addr} {ccd : Value} {cl : List (Str × Addr)} {outer : List Env} {A₀ : Around} {base h₀ : Heap} {L : Addr} {m : Str → Option Value} {s : Shared} {Q E : Value → Shared → Prop}
    (C : CtK w lv f news vs kw R) (B : Below A₀ base outer h₀) (F : Fr h₀ L s.heap m) (X : (K w.params).In h₀) (N : News h₀ L s.heap news) (T : Top p loose mean mg mb h₀) (hk : cs.kind = .function) (hd : dp + 2 * lv < recursionLimit) (hu : un + 20 * lv < cLine)
    (h : ∀ (v : Value) (xs : List (Addr × Obj)) (h' : Heap) (tk' : Nat), R v xs → Fr h₀ L h' m → News h₀ L h' (xs ++ news) → Q v { s with heap := h', toks := tk' }) :
    wpAny (model prog w) (ktrTop dp un gd cn cs L a ccd cl outer) (call (.ref f) vs kw) Q E s :=
  C p loose mean mg mb dp un gd cn cs a ccd cl outer A₀ base h₀ L m s Q E B F X N T hk hd hu h
/- the set and the table -/
noncomputable def b1E (P : Params) : Array (Int × Value) := match (o74 P).data with
  | .set es _ _ => es
  | _ => #[]
noncomputable def b1T (P : Params) : SetTable := match (o74 P).data with
  | .set _ _ t => t
  | _ => default
noncomputable def b1S (P : Params) (k : Int) : Bool := (b1E P).toList.any fun e => e.2.isInt k
theorem look74 (P : Params) : (K P).lookup 74 = some (o74 P) := by kernel_rfl
theorem look85 (P : Params) : (K P).lookup 85 = some (o85 P) := by kernel_rfl
theorem b1_ok (P : Params) : ((b1E P).toList.all fun e => (match e.2 with | .int i _ => e.1 == hashInt i | _ => false)) = true := by kernel_rfl
theorem b1_set {w : World} {h : Heap} (X : (K w.params).In h) : h.SetOf (intKind prog w) 74 (b1S w.params) 27 := by
  refine ⟨o74 w.params, b1E w.params, 29, b1T w.params, X 74 _ (look74 _), ⟨rfl, rfl, rfl⟩, rfl, ?_, ?_, (show 27 < scanBound by decide), rfl, rfl⟩
  · intro e he
    have := List.all_eq_true.mp (b1_ok w.params) e he
    obtain ⟨hh, v⟩ := e
    cases v with
    | int i t => exact ⟨⟨i, intKind_is _ _ _ _, beq_iff_eq.mp this⟩, rfl⟩
    | _ => simp at this
  · intro k
    unfold b1S
    rw [List.any_eq_true]
    exact Iff.rfl
theorem b1_in {w : World} {A : Around} {E : Value → Shared → Prop} {s : Shared} {h₀ : Heap} {L : Addr} {m : Str → Option Value} {i : Int} {t : Tok} {Q : Value → Shared → Prop} (F : Fr h₀ L s.heap m) (X : (K w.params).In h₀)
    (h : Q (.bool (b1S w.params i)) { s with toks := s.toks + 1 }) : wpAny (model prog w) A (compareOp .In (.int i t) (.ref 74)) Q E s :=
  wpAny_inSet_of (knd := intKind _ w) (intKind_is _ _ _ _) rfl (b1_set (X.keeps F.keep)) h
/- the table of letters -/
noncomputable def tabD : List (PyData × PyData) := tabEntries.map fun e => (match e.key with | .int i _ => .int i | _ => .none, match e.val with | .str x _ => .str x | _ => .none)
noncomputable def tabKV : List (Int × Value) := tabEntries.map fun e => (match e.key with | .int i _ => i | _ => 0, e.val)
theorem tab_ok : (tabEntries.all fun e => (match e.key, e.val with | .int i _, .str _ _ => e.hash == hashInt i | _, _ => false)) = true := by kernel_rfl
theorem tab_inc : ((tabKV.map (·.1)).zip ((tabKV.map (·.1)).drop 1)).all (fun p => decide (p.1 < p.2)) = true := by kernel_rfl
theorem pairs_of (w : World) : ∀ (l : List DictEntry), (l.all fun e => (match e.key, e.val with | .int i _, .str _ _ => e.hash == hashInt i | _, _ => false)) = true →
    Pairs (intKind prog w) l (l.map fun e => (match e.key with | .int i _ => i | _ => 0, e.val))
  | [], _ => .nil
  | ⟨h, k, v⟩ :: r, x => by
    simp only [List.all_cons, Bool.and_eq_true] at x
    obtain ⟨a, b⟩ := x
    cases k with
    | int i t => exact .cons (intKind_is _ _ _ _) rfl (pairs_of w r b)
    | _ => simp at a
theorem flats_of : ∀ (l : List DictEntry), (l.all fun e => (match e.key, e.val with | .int i _, .str _ _ => e.hash == hashInt i | _, _ => false)) = true →
    PyProof.V.FlatPairs PyData.int (l.map fun e => ((match e.key with | .int i _ => i | _ => 0 : Int), e.val)) (l.map fun e => (match e.key with | .int i _ => .int i | _ => .none, match e.val with | .str x _ => .str x | _ => .none))
  | [], _ => .nil
  | ⟨h, k, v⟩ :: r, x => by
    simp only [List.all_cons, Bool.and_eq_true] at x
    obtain ⟨a, b⟩ := x
    cases k with
    | int i t => cases v with
      | str y u => exact .cons (PyProof.V.Flat.str _ _) (flats_of r b)
      | _ => simp at a
    | _ => simp at a
theorem inc_nodup : ∀ (l : List Int), (l.zip (l.drop 1)).all (fun p => decide (p.1 < p.2)) = true → l.Nodup ∧ ∀ x ∈ l, ∀ y, l.head? = some y → y ≤ x
  | [], _ => ⟨.nil, by simp⟩
  | [a], _ => ⟨by simp, by simp⟩
  | a :: b :: r, x => by
    simp only [List.drop_succ_cons, List.drop_zero, List.zip_cons_cons, List.all_cons, Bool.and_eq_true, decide_eq_true_eq] at x
    obtain ⟨h1, h2⟩ := x
    have ih := inc_nodup (b :: r) (by simpa using h2)
    refine ⟨List.nodup_cons.mpr ⟨fun hm => ?_, ih.1⟩, fun x hx y hy => ?_⟩
    · have := ih.2 a hm b rfl; omega
    · cases hy
      rcases List.mem_cons.mp hx with rfl | hx
      · omega
      · have := ih.2 x hx b rfl; omega
theorem tab_at {w : World} {h : Heap} (X : (K w.params).In h) : IntTab prog w h 85 tabD := by
  refine ⟨rfl, tabKV, ⟨o85 w.params, tabEntries.toArray, 650, X 85 _ (look85 _), ⟨rfl, rfl, rfl⟩, rfl, ?_, ?_, (inc_nodup _ tab_inc).1⟩, flats_of _ tab_ok⟩
  · intro e he
    have he := Array.mem_toList_iff.mpr he
    have := List.all_eq_true.mp tab_ok e (by simpa using he)
    obtain ⟨hh, k, v⟩ := e
    cases k with
    | int i t => cases v with
      | str y u => exact ⟨i, intKind_is _ _ _ _, beq_iff_eq.mp this⟩
      | _ => simp at this
    | _ => simp at this
  · exact pairs_of w tabEntries tab_ok
end Mine
namespace Mine
open PySem PySem.W PySem.Calls PyProof.Rows PyProof.V
theorem regRe (w : World) (h : Heap) (X : (K w.params).In h) : PySem.Challenge.rw_wf0109_01.row.prog = PySem.Challenge.rw_wf0109_01.row.prog → (K w.params).In h := by
  k_fill
  exact fun _ => X
theorem rp_plain : PlainAttrs "re.Pattern" :=
  ⟨⟨"object.__getattribute__", by rw [typeLookup_type, builtinLookup_eq_fast]; kernel_rfl, by decide +kernel⟩, by rw [typeLookup_type, builtinLookup_eq_fast]; kernel_rfl⟩
theorem rp_slot : Slot "re.Pattern" "search" "re.Pattern.search" :=
  .of (owner := "re.Pattern") (n := "search") (by rw [typeLookup_type, builtinLookup_eq_fast]; kernel_rfl) (by decide +kernel) (by decide +kernel) (by decide +kernel)
    (by first | exact .inl (by decide +kernel) | exact .inr (by decide +kernel)) (by rw [isSubtype_type]; kernel_rfl)
theorem rp_type : typeOf (.builtin "re.Pattern.search") = pure (.type "method_descriptor") := by show builtinType _ = _; rw [builtinType_eq_fast]; kernel_rfl
theorem rp_entry : entryFor table "re.Pattern.search" = some Builtin.«re.Pattern.search» := entryFor_of_tree (by kernel_rfl)
theorem rp_args (a b : Value) : argsOk "re.Pattern.search" ⟨[a, b], []⟩ := by unfold argsOk; kernel_rfl
theorem look140 (P : Params) : (K P).lookup 140 = some (o140 P) := by kernel_rfl
theorem look145 (P : Params) : (K P).lookup 145 = some (o145 P) := by kernel_rfl
noncomputable def Quiet (w : World) (a : Addr) (y : Str) : Prop := ∀ t : Tok, peek (K w.params) ⟨prog, w.params⟩ (Builtin.«re.Pattern.search» ⟨[.ref a, .str y t], []⟩) = some (.done (.ret .none))
noncomputable def reIs (a : Addr) : Prop := a = 140 ∨ a = 145
section
variable {w : World} {A : Around} {E : Value → Shared → Prop} {s : Shared} {h₀ : Heap} {L a : Addr} {m : Str → Option Value} {y : Str} {t : Tok}
theorem re_obj (F : Fr h₀ L s.heap m) (X : (K w.params).In h₀) (ha : reIs a) : ∃ o, s.heap.get? a = some o ∧ o.cls = .type "re.Pattern" ∧ o.dict = none := by
  rcases ha with rfl | rfl
  · exact ⟨_, F.keep _ _ (X _ _ (look140 _)), rfl, rfl⟩
  · exact ⟨_, F.keep _ _ (X _ _ (look145 _)), rfl, rfl⟩
theorem re_method {pl : Sem Bool} {Q : Value × List Value → Shared → Prop} (F : Fr h₀ L s.heap m) (X : (K w.params).In h₀) (ha : reIs a) (h : Q (.builtin "re.Pattern.search", [.ref a]) s) :
    wpAny (model prog w) A (getMethod (.ref a) "search" pl) Q E s := by
  obtain ⟨o, ho, hc, hd⟩ := re_obj F X ha
  exact getMethod_builtin ⟨o, ho, hc⟩ rp_plain rp_slot rp_type (fun b hb => by cases hb; exact ⟨o, ho, hd⟩) h
theorem re_search {Q : Value → Shared → Prop} (F : Fr h₀ L s.heap m) (X : (K w.params).In h₀) (ha : reIs a) (hy : Quiet w a y) (h : Q .none s) :
    wpAny (model prog w) A (call (.builtin "re.Pattern.search") [.ref a, .str y t]) Q E s := by
  obtain ⟨o, ho, hc, hd⟩ := re_obj F X ha
  refine wpAny_call_entry rp_slot ⟨o, ho, hc⟩ rp_entry ?_ (rp_args _ _)
  exact fun Γ p _ => wp_of_peek (M := model prog w) (Γ := Γ) (Q := fun fin _ s' => ∃ v, fin = Fin.done (.ret v) ∧ Q v s') (E := fun e _ s' => E e s') (p := p) (X.keeps F.keep) ⟨_, rfl, h⟩ _ (hy t)
end
local macro_rules | `(tactic| walk_at "getMethod ref") => `(tactic| (k_here; (with_reducible show wpAny _ _ (getMethod _ (Str.ofString "search") _) _ _ _); k_dflt (refine' re_method ?F ?X ?ha ?_; (case F => k_asm); (case X => k_asm); (case ha => first | exact Or.inl rfl | exact Or.inr rfl); k_whole)))
local macro_rules | `(tactic| walk_at "call builtin:re.Pattern.search") => `(tactic| (k_here; k_dflt (refine' re_search ?F ?X ?ha ?hy ?_; (case F => k_asm); (case X => k_asm); (case ha => first | exact Or.inl rfl | exact Or.inr rfl); (case hy => with_reducible assumption); k_whole)))
theorem c_conv (w : World) (news : List (Addr × Obj)) (x : Addr) (y : Str) (t : Tok) (b : Bool) (h1 : b = true → Quiet w 140 y) (h2 : b = false → Quiet w 145 y) :
    CtK w 1 175 news [.ref x, .str y t] [(S "name", .bool b)] fun v xs => v = .str y t ∧ xs = [] := by
  cases b
  · have q := h2 rfl
    clear h1 h2
    unfold CtK; intros; rename_i hret; refine wpAny_call ?_; cell_enter; k_steps
    all_goals first | exact hret _ [] _ _ ⟨rfl, rfl⟩ (by assumption) (by assumption)
  · have q := h1 rfl
    clear h1 h2
    unfold CtK; intros; rename_i hret; refine wpAny_call ?_; cell_enter; k_steps
    all_goals first | exact hret _ [] _ _ ⟨rfl, rfl⟩ (by assumption) (by assumption)
end Mine
namespace Mine
open PySem PySem.W PySem.Calls PyProof.Rows PyProof.V
theorem regNew (w : World) (h : Heap) (X : (K w.params).In h) : PySem.Challenge.rw_wf0109_01.row.prog = PySem.Challenge.rw_wf0109_01.row.prog → (K w.params).In h := by
  k_fill
  exact fun _ => X
local macro_rules | `(tactic| walk_at "exec For Tuple Name cons nil") => `(tactic| (k_here; (rename Fr _ _ _ _ => lF'); (with_unfolding_all refine' For_turns lF' ?_; k_whole)))
local macro_rules | `(tactic| walk_at "pyIter ref") => `(tactic| (k_here; (with_reducible show wpAny _ _ (pyIter (Value.ref _)) (fun it s₂ => TurnsAt _ _ _ _ _ _ _ _ _ it s₂) _ _); (refine' iter_listTurns (vs := []) ?hh ?F ?N ?hm ?hc ?hd ?_; (case hh => exact rfl); (case F => k_asm); (case N => k_asm); (case hm => k_mem); (case hc => exact rfl); (case hd => exact rfl)); intro i9 l9; (refine ItemsRest.zero (fun h' tk' F' N' => ?_))))
noncomputable abbrev insD (w : World) (t : Tok) (l : Addr) : Obj := dictOf [⟨PyData.keyHash w.params (S "_headers"), .str (S "_headers") t, .ref l⟩] 1
theorem c_new (w : World) (news : List (Addr × Obj)) (l : Addr) (n : Nat) :
    Ct w 3 276 ((l, listOf #[] n) :: news) [.ref l] fun v xs => ∃ x dx t, v = .ref x ∧ dx ≠ l ∧ x ≠ l ∧ xs = [(x, instObj 276 dx), (dx, insD w t l)] := by
  unfold Ct; intros
  rename_i hret
  k_here
  k_dflt ((refine' call_cls ?k1 ?k2 ?k3 ?k4 ?k5 ?k6 ?_; (case k1 => k_asm); (case k2 => k_asm); (case k3 => k_asm); (case k4 => k_is); (case k5 => k_is); (case k6 => k_is); k_whole; intro x' d' h' F' N' l1 l2; (try k_lt l1); (try k_lt2 l2); (try k_sweep)))
  (refine' code_def ?k1 ?k2 ?k3 ?k4 ?k5 ?kA ?kF ?kK ?k6 ?k7 ?k8 ?k9 ?kB ?_ ?c2 ?c3 ?c4 ?c5; (case kA => exact rfl); (case kF => exact rfl); (case kK => first | exact rfl | assumption); (case k1 => k_asm); (case k2 => k_asm); (case k3 => k_asm); (case k4 => k_asm); (case k5 => k_asm); (case k6 => k_is); (case k7 => k_is); (case k8 => ktr_room); (case k9 => first | exact BindsTo.of_eq rfl | exact binds_K (by k_in) rfl (by k_is) rfl rfl rfl); (case c5 => decide); (case kB => exact locs rfl); (case c2 => exact rfl); (case c3 => exact rfl); (case c4 => exact rfl); k_whole; intro g' L' h' FG' F' N' B' X' T'; (try dsimp only); (try k_lift B'); (try k_fold))

  k_steps
  rename Fr _ _ _ _ => kF9
  rename News _ _ _ _ => kN9
  refine hret _ [_, _] _ _ ?r kF9 kN9
  exact ⟨_, _, _, rfl, Nat.ne_of_gt l1.1, Nat.ne_of_gt (Nat.lt_trans l1.1 l2), rfl⟩
end Mine
namespace Mine
open PySem PySem.W PySem.Calls PyProof.Rows PyProof.V
section
variable {prog : Program} {w : World} {A : Around} {E : Value → Shared → Prop} {s : Shared} {env : Env} {h₀ : Heap} {target : Expr} {body : List Stmt} {Q : Flow → Shared → Prop}
theorem unr_mono {L : Addr} {s₁ : Shared} {its : List (Addr × Obj)} {p q : (Str → Option Value) → List (Addr × Obj) → Prop} (h : ∀ m n, p m n → q m n) {f : Flow} {s₂ : Shared} (x : UnrPostW h₀ L s₁ its p Q f s₂) : UnrPostW h₀ L s₁ its q Q f s₂ := by
  cases f with
  | ret v => exact x
  | brk => exact x
  | next => obtain ⟨h', tk, m', n', e, F, N, o, r⟩ := x; exact ⟨h', tk, m', n', e, F, N, o, h _ _ r⟩
  | cont => obtain ⟨h', tk, m', n', e, F, N, o, r⟩ := x; exact ⟨h', tk, m', n', e, F, N, o, h _ _ r⟩
theorem all_mono : ∀ {ws : List (Addr × String)} {p q : List (Addr × Obj) → Prop}, (∀ i, p i → q i) → AllObj ws p → AllObj ws q
  | [], _, _, h, x => h _ x
  | _ :: _, _, _, h, x => fun o e => all_mono (fun i => h _) (x o e)
theorem rest_of {α : Type} (f : α → Value) {ws : List (Addr × String)} {keep : List (Addr × Obj)} (J : List α → (Str → Option Value) → List (Addr × Obj) → Prop)
    (turn : ∀ r rs m news, J (r :: rs) m news → ∀ h tk, Fr h₀ env.locals h m → AllObj ws (fun its => News h₀ env.locals h (its ++ news) → wpAny (model prog w) A (assign target env (f r)) (fun _ s₂ => wpAny (model prog w) A (execs body env) (UnrPostW h₀ env.locals { s with heap := h, toks := tk } its (fun m' n' => SubL keep n' ∧ J rs m' n') Q) E s₂) E { s with heap := h, toks := tk }))
    (done : ∀ m news, J [] m news → ∀ h tk, Fr h₀ env.locals h m → News h₀ env.locals h news → Q .next { s with heap := h, toks := tk }) :
    ∀ rs m news, J rs m news → ItemsRest prog w A E h₀ env target body Q s ws keep ((rs.map f).map .val) m news
  | [], m, news, j => ItemsRest.zero (done m news j)
  | r :: rs, m, news, j => ItemsRest.val fun h tk F => all_mono (fun its x N => wpAny_mono (x N) (fun _ s₂ y => wpAny_mono y (fun fl s₃ z => unr_mono (fun m' n' (u : _ ∧ _) => ⟨u.1, rest_of f J turn done rs m' n' u.2⟩) z) fun _ _ e => e) fun _ _ e => e) (turn r rs m news j h tk F)
noncomputable def KS {α σ : Type} (Led : σ → List (Addr × Obj)) (ps : σ → List (Str × Value)) (stored : List Str) (m₀ : Str → Option Value) (P : List α → σ → Prop) (rem : List α) (m : Str → Option Value) (n : List (Addr × Obj)) : Prop :=
  ∃ (c : σ) (u : Str → Option Value), n = Led c ∧ m = kstB (fun z => if stored.contains z then u z else m₀ z) (ps c) ∧ P rem c
theorem ks_eq {σ : Type} {ps : σ → List (Str × Value)} {stored : List Str} {m₀ m' : Str → Option Value} (c : σ) (h1 : ∀ p ∈ ps c, m' p.1 = some p.2) (h2 : ∀ z, (∀ p ∈ ps c, z ≠ p.1) → stored.contains z = false → m' z = m₀ z) :
    m' = kstB (fun z => if stored.contains z then m' z else m₀ z) (ps c) := by
  funext z
  refine (kstB_eq h1 fun hz => ?_).symm
  show (if stored.contains z = true then m' z else m₀ z) = m' z
  cases e : stored.contains z with
  | true => simp
  | false => simp only [Bool.false_eq_true, if_false]; exact (h2 z hz e).symm
theorem ks_start {α σ : Type} {Led : σ → List (Addr × Obj)} {ps : σ → List (Str × Value)} {stored : List Str} {m₀ : Str → Option Value} {P : List α → σ → Prop} {rs : List α} (c : σ) {n : List (Addr × Obj)} (hn : n = Led c) (h1 : ∀ p ∈ ps c, m₀ p.1 = some p.2) (hp : P rs c) : KS Led ps stored m₀ P rs m₀ n :=
  ⟨c, m₀, hn, ks_eq c h1 fun _ _ _ => rfl, hp⟩
theorem ks_end {α σ : Type} {Led : σ → List (Addr × Obj)} {ps : σ → List (Str × Value)} {stored : List Str} {m₀ m' : Str → Option Value} {P : List α → σ → Prop} {rem : List α} {keep its : List (Addr × Obj)} {L : Addr} {s₁ : Shared} {h' : Heap} {tk : Nat} (c : σ)
    (F : Fr h₀ L h' m') (N : News h₀ L h' (its ++ Led c)) (off : ∀ p ∈ Led c, ∀ q ∈ its, p.1 ≠ q.1) (hk : SubL keep (Led c)) (h1 : ∀ p ∈ ps c, m' p.1 = some p.2) (h2 : ∀ z, (∀ p ∈ ps c, z ≠ p.1) → stored.contains z = false → m' z = m₀ z) (hp : P rem c) :
    UnrEndW h₀ L s₁ its (fun m' n' => SubL keep n' ∧ KS Led ps stored m₀ P rem m' n') { s₁ with heap := h', toks := tk } :=
  ⟨h', tk, m', Led c, rfl, F, N, off, hk, c, m', rfl, ks_eq c h1 h2, hp⟩
theorem rest_inv {α σ : Type} (f : α → Value) {ws : List (Addr × String)} {keep : List (Addr × Obj)} (Led : σ → List (Addr × Obj)) (ps : σ → List (Str × Value)) (stored : List Str) (P : List α → σ → Prop) {m₀ : Str → Option Value} {rs : List α} {news : List (Addr × Obj)} (c₀ : σ)
    (hn : news = Led c₀) (h1 : ∀ p ∈ ps c₀, m₀ p.1 = some p.2) (hp : P rs c₀)
    (turn : ∀ r rem c (u : Str → Option Value) h tk, P (r :: rem) c → Fr h₀ env.locals h (kstB (fun z => if stored.contains z then u z else m₀ z) (ps c)) → AllObj ws (fun its => News h₀ env.locals h (its ++ Led c) → wpAny (model prog w) A (assign target env (f r)) (fun _ s₂ => wpAny (model prog w) A (execs body env) (UnrPostW h₀ env.locals { s with heap := h, toks := tk } its (fun m' n' => SubL keep n' ∧ KS Led ps stored m₀ P rem m' n') Q) E s₂) E { s with heap := h, toks := tk }))
    (done : ∀ c (u : Str → Option Value) h tk, P [] c → Fr h₀ env.locals h (kstB (fun z => if stored.contains z then u z else m₀ z) (ps c)) → News h₀ env.locals h (Led c) → Q .next { s with heap := h, toks := tk }) :
    ItemsRest prog w A E h₀ env target body Q s ws keep ((rs.map f).map .val) m₀ news := by
  refine rest_of f (KS Led ps stored m₀ P) ?_ ?_ rs m₀ news (ks_start c₀ hn h1 hp)
  · rintro r rem m n ⟨c, u, rfl, rfl, hp⟩ h tk F
    exact turn r rem c u h tk hp F
  · rintro m n ⟨c, u, rfl, rfl, hp⟩ h tk F N
    exact done c u h tk hp F N
end
theorem off_one {news : List (Addr × Obj)} {I : Addr} {o : Obj} (l : ∀ p ∈ news, p.1 < I) : ∀ p ∈ news, ∀ q ∈ [(I, o)], p.1 ≠ q.1 := by
  intro p hp q hq
  rw [List.mem_singleton.mp hq]
  exact Nat.ne_of_lt (l p hp)
end Mine
namespace Mine
open PySem PySem.W PySem.Calls PyProof.Rows PyProof.V
theorem regGet (w : World) (h : Heap) (X : (K w.params).In h) : PySem.Challenge.rw_wf0109_01.row.prog = PySem.Challenge.rw_wf0109_01.row.prog → (K w.params).In h := by
  k_fill
  exact fun _ => X
structure RowT where
  a : Addr
  k : Str
  t : Tok
  v : Str
  u : Tok
noncomputable abbrev tup2 (k : Str) (t : Tok) (v : Str) (u : Tok) : Obj := { cls := .type "tuple", data := .seq [.str k t, .str v u].toArray 0 }
noncomputable abbrev rowLed (rs : List RowT) : List (Addr × Obj) := rs.map fun r => (r.a, tup2 r.k r.t r.v r.u)
noncomputable abbrev rowVals (rs : List RowT) : List Value := rs.map fun r => .ref r.a
noncomputable abbrev HT (w : World) (x dx l : Addr) (t : Tok) (c : Nat) (rs : List RowT) (news : List (Addr × Obj)) : List (Addr × Obj) := (x, instObj 276 dx) :: (dx, insD w t l) :: (l, listOf (rowVals rs).toArray c) :: (rowLed rs ++ news)
noncomputable def getV (y : Str) : List RowT → Value
  | [] => .none
  | r :: rs => if Txt.lower r.k = y then .str r.v r.u else getV y rs
theorem getV_at {y : Str} {r : RowT} (h : Txt.lower r.k = y) : ∀ {pre rs rem : List RowT}, rs = pre ++ r :: rem → (∀ q ∈ pre, Txt.lower q.k ≠ y) → getV y rs = .str r.v r.u
  | [], _, _, e, _ => by subst e; simp [getV, h]
  | p :: pre, _, _, e, g => by
    subst e
    show (if _ then _ else _) = _
    rw [if_neg (g p (.head _))]
    exact getV_at h rfl fun q hq => g q (.tail _ hq)
theorem getV_none {y : Str} : ∀ {rs : List RowT}, (∀ q ∈ rs, Txt.lower q.k ≠ y) → getV y rs = .none
  | [], _ => rfl
  | p :: rs, g => by
    show (if _ then _ else _) = _
    rw [if_neg (g p (.head _))]
    exact getV_none fun q hq => g q (.tail _ hq)
local macro_rules | `(tactic| walk_at "call builtin:str.lower") => `(tactic| (k_here; (refine SCL.lower (by first | exact Nat.le_of_ble_eq_true rfl | assumption) ?_); intro _))
local macro_rules | `(tactic| walk_at "call ref") => `(tactic| (k_here; (with_reducible show wpAny _ _ (call (Value.ref 175) _ _) _ _ _); k_dflt (refine' ctk_use (c_conv _ _ _ _ _ _ ?z1 ?z2) ?k1 ?k2 ?k3 ?k4 ?k5 ?kK ?kd ?ku ?_; (case z1 => first | (intro _; with_reducible assumption) | (intro q; cases q; done)); (case z2 => first | (intro _; with_reducible assumption) | (intro q; cases q; done)); (case k1 => k_asm); (case k2 => k_asm); (case k3 => k_asm); (case k4 => k_asm); (case k5 => k_asm); (case kK => first | exact rfl | assumption); (case kd => ktr_room); (case ku => (dsimp only [ktrTop]; omega)); k_whole); intro v9 xs9 h' tk' hR9 F' N'; obtain ⟨e1, e2⟩ := hR9; subst e1; subst e2; (try dsimp only [List.cons_append, List.nil_append] at N')))
local macro_rules | `(tactic| walk_at "exec For Tuple Attribute cons nil") => `(tactic| (k_here; (rename Fr _ _ _ _ => lF'); (with_unfolding_all refine' For_turns lF' ?_; k_whole)))
local macro_rules | `(tactic| walk_at "ks_h2") => `(tactic| (intro z hz1 hz2; (try dsimp only); (repeat (refine Eq.trans (if_neg ?k) ?_; (case k => (intro e; subst e; first | exact absurd hz2 (by decide) | exact hz1 _ (by simp) rfl)))); first | rfl | (refine Eq.trans (if_neg ?k) rfl; (case k => (rw [hz2]; exact Bool.false_ne_true)))))
theorem c_get (w : World) (news : List (Addr × Obj)) (x dx l : Addr) (t : Tok) (c : Nat) (rs : List RowT) (y : Str) (ty : Tok) (hy : y.length ≤ 5592405) (hq : Quiet w 140 (Txt.lower y)) (hs : ∀ r ∈ rs, r.k.length ≤ 5592405) :
    Ct w 2 223 (HT w x dx l t c rs news) [.ref x, .str y ty] fun v xs => v = getV (Txt.lower y) rs ∧ xs = [] := by
  unfold Ct; intros
  rename_i hret
  refine wpAny_call ?_
  (refine' code_def ?k1 ?k2 ?k3 ?k4 ?k5 ?kA ?kF ?kK ?k6 ?k7 ?k8 ?k9 ?kB ?_ ?c2 ?c3 ?c4 ?c5; (case kA => exact rfl); (case kF => exact rfl); (case kK => first | exact rfl | assumption); (case k1 => k_asm); (case k2 => k_asm); (case k3 => k_asm); (case k4 => k_asm); (case k5 => k_asm); (case k6 => k_is); (case k7 => k_is); (case k8 => ktr_room); (case k9 => first | exact BindsTo.of_eq rfl | exact binds_K (by k_in) rfl (by k_is) rfl rfl rfl); (case c5 => decide); (case kB => exact locs rfl); (case c2 => exact rfl); (case c3 => exact rfl); (case c4 => exact rfl); k_whole; intro g' L' h' FG' F' N' B' X' T'; (try dsimp only); (try k_lift B'); (try k_fold))
  k_steps
  have hm9 : ∀ r ∈ rs, (r.a, tup2 r.k r.t r.v r.u) ∈ HT w x dx l t c rs news := fun r hr => .tail _ (.tail _ (.tail _ (List.mem_append_left _ (List.mem_map.mpr ⟨r, hr, rfl⟩))))
  (refine' iter_listTurns (lo := listOf (rowVals rs).toArray c) (vs := rowVals rs) (n := c) ?hh ?F ?N ?hm ?hc ?hd ?_; (case hh => exact rfl); (case F => k_asm); (case N => k_asm); (case hm => k_mem); (case hc => exact rfl); (case hd => exact rfl))
  intro i9 l9
  refine rest_inv (fun (r : RowT) => Value.ref r.a) (σ := Unit) (fun _ => HT w x dx l t c rs news) (fun _ => []) [S "k", S "v"] (fun rem _ => ∃ pre, rs = pre ++ rem ∧ ∀ r ∈ pre, Txt.lower r.k ≠ Txt.lower y) () rfl (by intro p hp; cases hp) ⟨[], rfl, by intro r hr; cases hr⟩ ?_ ?_
  · rintro r rem c9 u9 h9 tk9 ⟨pre, e9, hpre⟩ F9
    refine AllObj.cons (fun o9 hc9 => AllObj.nil (fun N9 => ?_))
    have hr9 : r ∈ rs := by rw [e9]; exact List.mem_append_right _ (.head _)
    have hT9 : IsTup h9 r.a #[.str r.k r.t, .str r.v r.u] := News.isTup N9 (.tail _ (hm9 r hr9))
    have hL9 := hs r hr9
    dsimp only [kstB, List.cons_append, List.nil_append] at F9 N9
    k_steps
    · rename (_ == _) = true => b9
      exact hret _ [] _ _ ⟨(getV_at (eq_of_beq b9) e9 hpre).symm, rfl⟩ (by assumption) (cb_drop (by assumption) (by intro q hq; exact .tail _ hq))
    · rename (_ == _) = false => b9
      rename Fr g' _ _ _ => kF9
      rename News g' _ _ _ => kN9
      refine ks_end () kF9 kN9 (off_one l9) ⟨.tail _ (.tail _ (.head _)), trivial⟩ (by intro p hp; cases hp) ?_ ⟨pre ++ [r], by rw [e9, List.append_assoc]; rfl, ?_⟩
      · walk_at "ks_h2"
      · intro q hq
        rcases List.mem_append.mp hq with hq | hq
        · exact hpre q hq
        · rw [List.mem_singleton.mp hq]; intro e; rw [e] at b9; exact absurd b9 (by simp)
  · rintro c9 u9 h9 tk9 ⟨pre, e9, hpre⟩ F9 N9
    k_steps
    exact hret _ [] _ _ ⟨(getV_none (by rw [e9, List.append_nil]; exact hpre)).symm, rfl⟩ (by assumption) (by assumption)
end Mine
namespace Mine
open PySem PySem.W PySem.Calls PyProof.Rows PyProof.V
theorem regSet (w : World) (h : Heap) (X : (K w.params).In h) : PySem.Challenge.rw_wf0109_01.row.prog = PySem.Challenge.rw_wf0109_01.row.prog → (K w.params).In h := by
  k_fill
  exact fun _ => X
noncomputable abbrev CtL (w : World) (lv : Nat) (f : Addr) (news : List (Addr × Obj)) (vs : List Value) (R : Rel) : Prop :=
  ∀ (p : Program) (loose : List Str) (mean : ExcName → Option Value) (mg mb : Str → Option Value) (dp un : Nat) (gd : Option (List Code)) (cn : Str) (cs : Scope) (a : Addr) (ccd : Value) (cl : List (Str × Addr)) (outer : List Env) (A₀ : Around) (base h₀ : Heap) (L : Addr) (m : Str → Option Value) (s : Shared) (Q E : Value → Shared → Prop),
    Below A₀ base outer h₀ → Fr h₀ L s.heap m → (K w.params).In h₀ → News h₀ L s.heap news → Top p loose mean mg mb h₀ → cs.kind = .function → dp + 2 * lv < recursionLimit → un + 20 * lv < cLine →
    (∀ (v : Value) (xs : List (Addr × Obj)) (h' : Heap) (tk' : Nat), R v xs → Fr h₀ L h' m → News h₀ L h' xs → Q v { s with heap := h', toks := tk' }) →
      wpAny (model prog w) (ktrTop dp un gd cn cs L a ccd cl outer) (call (.ref f) vs) Q E s
theorem ctl_use {w : World} {lv : Nat} {f : Addr} {news : List (Addr × Obj)} {vs : List Value} {R : Rel} {p : Program} {loose : List Str} {mean : ExcName → Option Value} {mg mb : Str → Option Value} {dp un : Nat} {gd : Option (List Code)} {cn : Str} {cs : Scope} {a : Addr} {ccd : Value} {cl : List (Str × Addr)} {outer : List Env} {A₀ : Around} {base h₀ : Heap} {L : Addr} {m : Str → Option Value} {s : Shared} {Q E : Value → Shared → Prop}
    (C : CtL w lv f news vs R) (B : Below A₀ base outer h₀) (F : Fr h₀ L s.heap m) (X : (K w.params).In h₀) (N : News h₀ L s.heap news) (T : Top p loose mean mg mb h₀) (hk : cs.kind = .function) (hd : dp + 2 * lv < recursionLimit) (hu : un + 20 * lv < cLine)
    (h : ∀ (v : Value) (xs : List (Addr × Obj)) (h' : Heap) (tk' : Nat), R v xs → Fr h₀ L h' m → News h₀ L h' xs → Q v { s with heap := h', toks := tk' }) :
    wpAny (model prog w) (ktrTop dp un gd cn cs L a ccd cl outer) (call (.ref f) vs) Q E s :=
  C p loose mean mg mb dp un gd cn cs a ccd cl outer A₀ base h₀ L m s Q E B F X N T hk hd hu h
local macro_rules | `(tactic| walk_at "call ref") => `(tactic| (k_here; (with_reducible show wpAny _ _ (call (Value.ref 175) _ _) _ _ _); k_dflt (refine' ctk_use (c_conv _ _ _ _ _ _ ?z1 ?z2) ?k1 ?k2 ?k3 ?k4 ?k5 ?kK ?kd ?ku ?_; (case z1 => first | (intro _; with_reducible assumption) | (intro q; cases q; done)); (case z2 => first | (intro _; with_reducible assumption) | (intro q; cases q; done)); (case k1 => k_asm); (case k2 => k_asm); (case k3 => k_asm); (case k4 => k_asm); (case k5 => k_asm); (case kK => first | exact rfl | assumption); (case kd => ktr_room); (case ku => (dsimp only [ktrTop]; omega)); k_whole); intro v9 xs9 h' tk' hR9 F' N'; obtain ⟨e1, e2⟩ := hR9; subst e1; subst e2; (try dsimp only [List.cons_append, List.nil_append] at N')))
local macro_rules | `(tactic| walk_at "call ref") => `(tactic| (k_here; (with_reducible show wpAny _ _ (call (Value.ref 223) _ _) _ _ _); k_dflt (refine' ct_use (c_get _ _ _ _ _ _ _ _ _ _ ?z1 ?z2 ?z3) ?k1 ?k2 ?k3 ?k4 ?k5 ?kK ?kd ?ku ?_; (case k4 => k_asm); (case z1 => with_reducible assumption); (case z2 => with_reducible assumption); (case z3 => with_reducible assumption); (case k1 => k_asm); (case k2 => k_asm); (case k3 => k_asm); (case k5 => k_asm); (case kK => first | exact rfl | assumption); (case kd => ktr_room); (case ku => (dsimp only [ktrTop]; omega)); k_whole); intro v9 xs9 h' tk' hR9 F' N'; obtain ⟨e1, e2⟩ := hR9; (rename getV _ _ = _ => hg8); rw [hg8] at e1; subst e1; subst e2; (try dsimp only [List.cons_append, List.nil_append] at N')))
theorem allLt_mem {d : Addr} : ∀ {l : List (Addr × Obj)}, AllLt d l → ∀ p ∈ l, p.1 < d
  | [], _, _, h => nomatch h
  | q :: r, a, p, h => by
    rcases List.mem_cons.mp h with e | h
    · rw [e]; exact a.1
    · exact allLt_mem a.2 p h
theorem ht_push {w : World} {h₀ h : Heap} {L : Addr} {x dx l D : Addr} {t : Tok} {c : Nat} {rs : List RowT} {news : List (Addr × Obj)} {y v : Str} {t1 t2 : Tok}
    (N : News h₀ L h ((D, tup2 y t1 v t2) :: (x, instObj 276 dx) :: (dx, insD w t l) :: (l, listOf ((rowVals rs).toArray.push (.ref D)) c) :: (rowLed rs ++ news))) : News h₀ L h (HT w x dx l t c (rs ++ [⟨D, y, t1, v, t2⟩]) news) := by
  have e : (rowVals rs).toArray.push (.ref D) = (rowVals (rs ++ [⟨D, y, t1, v, t2⟩])).toArray := by simp [rowVals]
  rw [e] at N
  intro p hp
  refine N p ?_
  rcases List.mem_cons.mp hp with e | hp
  · exact .tail _ (List.mem_cons.mpr (.inl e))
  rcases List.mem_cons.mp hp with e | hp
  · exact .tail _ (.tail _ (List.mem_cons.mpr (.inl e)))
  rcases List.mem_cons.mp hp with e | hp
  · exact .tail _ (.tail _ (.tail _ (List.mem_cons.mpr (.inl e))))
  rcases List.mem_append.mp hp with hp | hp
  · unfold rowLed at hp
    rw [List.map_append] at hp
    rcases List.mem_append.mp hp with hp | hp
    · exact .tail _ (.tail _ (.tail _ (.tail _ (List.mem_append_left _ hp))))
    · rw [List.mem_singleton.mp hp]; exact .head _
  · exact .tail _ (.tail _ (.tail _ (.tail _ (List.mem_append_right _ hp))))
theorem row_size {rs : List RowT} (h : rs.length < 60) : (rowVals rs).toArray.size ≤ sizeLine := by
  rw [List.size_toArray, List.length_map]
  exact Nat.le_trans (Nat.le_of_lt h) (by decide)
local macro_rules | `(tactic| walk_at "call builtin:list.append") => `(tactic| (k_here; (rename _ ∧ _ ∧ _ ∧ AllLt _ _ => l9); k_dflt (refine' append_K ?k1 ?k2 (Upd.tail ?u0 (Upd.tail ?u1 (Upd.tail ?u2 (Upd.head ?u3)))) ?_ ?z; (case k1 => k_asm); (case k2 => k_asm); (case u0 => exact Nat.ne_of_gt l9.2.2.1); (case u1 => assumption); (case u2 => assumption); (case u3 => assumption); (case z => exact row_size (by assumption)); k_whole); intro h' F' N'))
theorem c_set_miss (w : World) (news : List (Addr × Obj)) (x dx l : Addr) (t : Tok) (c : Nat) (rs : List RowT) (y : Str) (ty : Tok) (v : Str) (tv : Tok) (hy : y.length ≤ 5592405) (hq : Quiet w 140 (Txt.lower y)) (hq1 : Quiet w 140 y) (hq2 : Quiet w 145 v) (hs : ∀ r ∈ rs, r.k.length ≤ 5592405)
    (hn : ∀ q ∈ rowLed rs ++ news, q.1 ≠ l) (hxl : x ≠ l) (hdl : dx ≠ l) (hlen : rs.length < 60) (hg9 : getV (Txt.lower y) rs = .none) :
    CtL w 3 266 (HT w x dx l t c rs news) [.ref x, .str y ty, .str v tv] fun r xs => r = .str v tv ∧ ∃ T c' t1 t2, xs = HT w x dx l t c' (rs ++ [⟨T, y, t1, v, t2⟩]) news ∧ T ≠ l ∧ ∀ q ∈ news, q.1 ≠ T := by
  unfold CtL; intros
  rename_i hret
  refine wpAny_call ?_
  cell_enter
  k_steps
  rename _ ∧ _ ∧ _ ∧ AllLt _ _ => l9
  rename News _ _ _ _ => kN9
  exact hret _ _ _ _ ⟨rfl, _, _, _, _, rfl, Nat.ne_of_gt l9.2.2.1, fun q hq => Nat.ne_of_lt (allLt_mem l9.2.2.2 q (List.mem_append_right _ hq))⟩ (by assumption) (ht_push kN9)
end Mine
namespace Mine
open PySem PySem.W PySem.Calls PyProof.Rows PyProof.V PyProof.Rows.LCt PyProof.Rows.LCg
section
variable {prog : Program} {w : World} {A : Around} {E : Value → Shared → Prop} {s : Shared} {h₀ : Heap} {L : Addr} {m : Str → Option Value} {env : Env}
theorem cend_mono {s₁ : Shared} {I C D : Addr} {oI oC oD : Obj} {S : List (Addr × Obj) → Prop} {p q : Value → List (Addr × Obj) → Prop} (h : ∀ y n, p y n → q y n) {y : Value} {s₂ : Shared} (x : CompEnd h₀ L m s₁ I oI C oC D oD S p y s₂) : CompEnd h₀ L m s₁ I oI C oC D oD S q y s₂ := by
  obtain ⟨h', tk, n, e, F, N, o, hS, r⟩ := x
  exact ⟨h', tk, n, e, F, N, o, hS, h _ _ r⟩
theorem restT_of {α : Type} (f : α → Value) (g : α → Bool) {ct elt : Expr} {x : Str} {scope : Scope} {cl : List (Str × Addr)} {S : List (Addr × Obj) → Prop} {Fin : List Value → List (Addr × Obj) → Prop} {rs : List α} {news : List (Addr × Obj)}
    (fin : Fin ((rs.filter g).map f) news)
    (turn : ∀ r ∈ rs, ∀ ys I oI C oC D m₂ h tk (E' : Value → Shared → Prop), NsObj oC m₂ → m₂ x = some (f r) → Fr h₀ L h m → News h₀ L h ((I, oI) :: (C, oC) :: (D, lst ys) :: news) → Off3 I C D news → ((@Ne Nat I C) ∧ (@Ne Nat I D) ∧ (@Ne Nat C D)) →
      wpAny (model prog w) A (isTrue ct (compEnvC scope cl C env) (eval ct (compEnvC scope cl C env))) (fun ok s' => if ok = true then
        wpAny (model prog w) A (eval elt (compEnvC scope cl C env)) (CompEnd h₀ L m { s with heap := h, toks := tk } I oI C oC D (lst ys) S (fun y n => g r = true ∧ y = f r ∧ n = news)) E' s'
        else CompEnd h₀ L m { s with heap := h, toks := tk } I oI C oC D (lst ys) S (fun _ n => g r = false ∧ n = news) Value.none s') E' { s with heap := h, toks := tk }) :
    ∀ rem pre, rs = pre ++ rem → CompRestT prog w A h₀ L m env ct elt x scope cl s S (fun i v => (rs.map f).toArray[i]? = some v) Fin rem.length pre.length ((pre.filter g).map f) news
  | [], pre, e => CompRestT.zero (by rw [List.append_nil] at e; rw [← e]; exact fin)
  | r :: rem, pre, e => CompRestT.succ fun v I oI C oC D m₂ h tk E' hv hC hx F N off ne => by
    have hr : r ∈ rs := by rw [e]; exact List.mem_append_right _ (.head _)
    have hv' : v = f r := by
      rw [e] at hv
      simpa using hv.symm
    subst hv'
    have ih := restT_of f g fin turn rem (pre ++ [r]) (by rw [e, List.append_assoc]; rfl)
    rw [List.length_append, List.length_singleton, List.filter_append, List.map_append] at ih
    refine wpAny_mono (turn r hr _ I oI C oC D m₂ h tk E' hC hx F N off ne) (fun ok s' z => ?_) fun _ _ z => z
    cases ok with
    | true =>
      simp only [if_true] at z ⊢
      refine wpAny_mono z (fun y s₂ z => cend_mono (fun y n q => ?_) z) fun _ _ z => z
      obtain ⟨a, b, c⟩ := q
      subst b; subst c
      simpa [List.filter, a] using ih
    | false =>
      simp only [Bool.false_eq_true, if_false] at z ⊢
      refine cend_mono (fun y n q => ?_) z
      obtain ⟨a, c⟩ := q
      subst c
      simpa [List.filter, a] using ih
theorem restT_all {α : Type} (f : α → Value) (g : α → Bool) {ct elt : Expr} {x : Str} {scope : Scope} {cl : List (Str × Addr)} {S : List (Addr × Obj) → Prop} {Fin : List Value → List (Addr × Obj) → Prop} {rs : List α} {news : List (Addr × Obj)}
    (fin : Fin ((rs.filter g).map f) news)
    (turn : ∀ r ∈ rs, ∀ ys I oI C oC D m₂ h tk (E' : Value → Shared → Prop), NsObj oC m₂ → m₂ x = some (f r) → Fr h₀ L h m → News h₀ L h ((I, oI) :: (C, oC) :: (D, lst ys) :: news) → Off3 I C D news → ((@Ne Nat I C) ∧ (@Ne Nat I D) ∧ (@Ne Nat C D)) →
      wpAny (model prog w) A (isTrue ct (compEnvC scope cl C env) (eval ct (compEnvC scope cl C env))) (fun ok s' => if ok = true then
        wpAny (model prog w) A (eval elt (compEnvC scope cl C env)) (CompEnd h₀ L m { s with heap := h, toks := tk } I oI C oC D (lst ys) S (fun y n => g r = true ∧ y = f r ∧ n = news)) E' s'
        else CompEnd h₀ L m { s with heap := h, toks := tk } I oI C oC D (lst ys) S (fun _ n => g r = false ∧ n = news) Value.none s') E' { s with heap := h, toks := tk }) :
    CompRestT prog w A h₀ L m env ct elt x scope cl s S (fun i v => (rs.map f).toArray[i]? = some v) Fin (rs.map f).toArray.size 0 [] news := by
  have h := restT_of f g fin turn rs [] rfl
  rw [List.size_toArray, List.length_map]
  exact h
end
end Mine
namespace Mine
open PySem PySem.W PySem.Calls PyProof.Rows PyProof.V
section
variable {prog : Program} {w : World} {A : Around} {E : Value → Shared → Prop} {s : Shared}
theorem setSlice_at {l sl D : Addr} {c : Nat} {items new : Array Value} {Q : Unit → Shared → Prop} (hl : s.heap.get? l = some (listOf items c)) (hs : s.heap.IsSliceOf sl .none .none .none) (hD : s.heap.IsList D new) (hne : l ≠ D) (hz : items.size + new.size ≤ 1000)
    (h : ∀ h' c', h'.get? l = some (listOf new c') → Heap.SameBut l s.heap h' → Q () { s with heap := h' }) : wpAny (model prog w) A (setItem (.ref l) (.ref sl) (.ref D)) Q E s := by
  have hli : s.heap.IsList l items := ⟨_, hl, rfl, c, rfl⟩
  obtain ⟨os, hos, hcs, hds⟩ := id hs
  have hTs : s.TypeIs (.ref sl) "slice" := ⟨os, hos, hcs⟩
  obtain ⟨oD, hoD, hcD, nD, hdD⟩ := id hD
  have hTD : s.TypeIs (.ref D) "list" := ⟨oD, hoD, hcD⟩
  have big : (1000 : Nat) ≤ sizeLine := by decide
  unfold setItem
  try with_reducible refine wpAny_holding ?_
  first | refine wpAny_bind (wpAny_pure ?_) | skip
  refine wpAny_bind (wpAny_sequenceKey hli.typeIs (by decide) ?_)
  refine wpAny_bind (wpAny_callSpecial?_slot (name := Str.ofString "__setitem__") hli.typeIs slot_list_setitem
    (wpAny_call_entry slot_list_setitem hli.typeIs entry_list_setitem ?_ (args_list_setitem _ _ _)))
  show wpAny _ _ (Builtin.List.listSubscript? (.ref sl) >>= _) _ _ s
  refine wpAny_bind ?_
  unfold Builtin.List.listSubscript?
  refine wpAny_bind (wpAny_specialOf hTs slice_no_index ?_)
  simp only [Option.isNone_none, if_true]
  refine wpAny_pure ?_
  show wpAny _ _ (typeOf (.ref sl) >>= _) _ _ s
  refine wpAny_bind (wpAny_typeOf hTs ?_)
  rw [if_neg (by decide)]
  rw [listSliceParts_eq]
  refine wpAny_bind (wpAny_bind (wpAny_field hos hds (x := .none) rfl (wpAny_bind (wpAny_listPart .none ?_))))
  rw [if_neg (show ¬ ((rawPart none == rawInt 0) = true) from Bool.false_ne_true)]
  refine wpAny_bind (wpAny_field hos hds (x := .none) rfl (wpAny_bind (wpAny_listPart .none ?_)))
  refine wpAny_bind (wpAny_field hos hds (x := .none) rfl (wpAny_bind (wpAny_listPart .none (wpAny_pure ?_))))
  have hsame : Builtin.List.listSameRef (.ref l) (.ref D) = false := by
    show (l == D) = false
    exact beq_eq_false_iff_ne.mpr hne
  rw [if_neg (by rw [hsame]; exact Bool.false_ne_true)]
  refine wpAny_bind (m := Builtin.List.listAllItems (.ref D) _) ?_
  unfold Builtin.List.listAllItems
  refine wpAny_bind (wpAny_typeOf hTD ?_)
  rw [if_pos (by decide)]
  refine wpAny_bind (wpAny_seqItems hoD hdD ?_)
  dsimp only
  refine wpAny_pure ?_
  refine wpAny_bind (m := Builtin.List.listItems (.ref l)) (listItems_at hl rfl ?_)
  refine wpAny_bind (wpAny_of_eq (sliceIndices_raw none none none items.size (by simp)) ?_)
  have e : sliceBounds none none none items.size = (((0 : Nat) : Int), (items.size : Int), 1) := by simp [sliceBounds]
  rw [e]
  rw [if_pos (show ((1 : Int) == 1) = true from rfl)]
  refine wpAny_bind (wpAny_rule ?_)
  rw [if_neg (show ¬ (Builtin.List.listTooLong (items.size + new.size) = true) by unfold Builtin.List.listTooLong; simp only [decide_eq_true_eq, gt_iff_lt, Nat.not_lt]; exact Nat.le_trans hz big)]
  have ef : ∀ xs : Array Value, xs.size = items.size → xs.extract 0 (((0 : Nat) : Int)).toNat ++ new ++ xs.extract (max (((0 : Nat) : Int)) (items.size : Int)).toNat xs.size = new := by
    intro xs hx
    have e2 : (max (((0 : Nat) : Int)) (items.size : Int)).toNat = xs.size := by omega
    rw [e2]
    simp
  refine wpAny_bind (listUpdate_at hl rfl ?_ (by omega) (by dsimp only; rw [ef items rfl]; omega))
  refine wpAny_bind (wpAny_letGo ?_)
  refine wpAny_pure ⟨.none, rfl, wpAny_pure (h _ (if (new.size == items.size) = true then c else c + 1) ?_ (Heap.SameBut.update ..))⟩
  rw [Heap.get?_update_self _ hl (by simp [Obj.mapSeq, Obj.isFreed])]
  have e3 := ef items rfl
  simp only [Obj.mapSeq]
  simp only [e3]
theorem setSlice_K {h₀ h : Heap} {L l D : Addr} {c : Nat} {m : Str → Option Value} {items : Array Value} {ys : List Value} {a1 a2 a3 : Addr × Obj} {rest : List (Addr × Obj)} {Q : Unit → Shared → Prop}
    (hs : s.heap = h.push { cls := .type "slice", data := .fields #[.none, .none, .none] }) (F : Fr h₀ L h m) (N : News h₀ L h ((D, PyProof.Rows.LCg.lst ys) :: a1 :: a2 :: a3 :: (l, listOf items c) :: rest))
    (n1 : a1.1 ≠ l) (n2 : a2.1 ≠ l) (n3 : a3.1 ≠ l) (n4 : ∀ p ∈ rest, p.1 ≠ l) (hne : l ≠ D) (hz : items.size + ys.length ≤ 1000)
    (k : ∀ h' c', Fr h₀ L h' m → News h₀ L h' (a1 :: a2 :: a3 :: (l, listOf ys.toArray c') :: rest) → Q () { s with heap := h' }) : wpAny (model prog w) A (setItem (.ref l) (.ref h.objs.size) (.ref D)) Q E s := by
  obtain ⟨hh, g, d, t, os⟩ := s
  have hs' : hh = h.push { cls := .type "slice", data := .fields #[.none, .none, .none] } := hs
  subst hs'
  have up : ∀ b o, h.get? b = some o → (h.push { cls := .type "slice", data := .fields #[.none, .none, .none] }).get? b = some o := fun b o e => Heap.get?_push_of_some _ e
  have N1 : News h₀ L (h.push { cls := .type "slice", data := .fields #[.none, .none, .none] }) (a1 :: a2 :: a3 :: (l, listOf items c) :: rest) := fun p hp => ⟨up _ _ (N p (.tail _ hp)).1, (N p (.tail _ hp)).2⟩
  have zl := N1 (l, listOf items c) (.tail _ (.tail _ (.tail _ (.head _))))
  have zD := N (D, PyProof.Rows.LCg.lst ys) (.head _)
  refine setSlice_at (new := ys.toArray) zl.1 (Heap.IsSliceOf.new ..) ⟨_, up _ _ zD.1, rfl, _, rfl⟩ hne (by rw [List.size_toArray]; exact hz) fun h' c' hg hb => ?_
  refine k h' c' ((F.push _).change hb zl.2.1 zl.2.2) ?_
  exact news_set (pre := [a1, a2, a3]) N1 (by intro p hp; rcases List.mem_cons.mp hp with e | hp; · rw [e]; exact n1
                                              rcases List.mem_cons.mp hp with e | hp; · rw [e]; exact n2
                                              rw [List.mem_singleton.mp hp]; exact n3) n4 hb hg
end
end Mine
namespace Mine
open PySem PySem.W PySem.Calls PyProof.Rows PyProof.V PyProof.Rows.LCt PyProof.Rows.LCg
theorem regDel (w : World) (h : Heap) (X : (K w.params).In h) : PySem.Challenge.rw_wf0109_01.row.prog = PySem.Challenge.rw_wf0109_01.row.prog → (K w.params).In h := by
  k_fill
  exact fun _ => X
local macro_rules | `(tactic| walk_at "call ref") => `(tactic| (k_here; (with_reducible show wpAny _ _ (call (Value.ref 175) _ _) _ _ _); k_dflt (refine' ctk_use (c_conv _ _ _ _ _ _ ?z1 ?z2) ?k1 ?k2 ?k3 ?k4 ?k5 ?kK ?kd ?ku ?_; (case z1 => first | (intro _; with_reducible assumption) | (intro q; cases q; done)); (case z2 => first | (intro _; with_reducible assumption) | (intro q; cases q; done)); (case k1 => k_asm); (case k2 => k_asm); (case k3 => k_asm); (case k4 => k_asm); (case k5 => k_asm); (case kK => first | exact rfl | assumption); (case kd => ktr_room); (case ku => (dsimp only [ktrTop]; omega)); k_whole); intro v9 xs9 h' tk' hR9 F' N'; obtain ⟨e1, e2⟩ := hR9; subst e1; subst e2; (try dsimp only [List.cons_append, List.nil_append] at N')))
local macro_rules | `(tactic| walk_at "call ref") => `(tactic| (k_here; (with_reducible show wpAny _ _ (call (Value.ref 223) _ _) _ _ _); k_dflt (refine' ct_use (c_get _ _ _ _ _ _ _ _ _ _ ?z1 ?z2 ?z3) ?k1 ?k2 ?k3 ?k4 ?k5 ?kK ?kd ?ku ?_; (case k4 => k_asm); (case z1 => with_reducible assumption); (case z2 => with_reducible assumption); (case z3 => with_reducible assumption); (case k1 => k_asm); (case k2 => k_asm); (case k3 => k_asm); (case k5 => k_asm); (case kK => first | exact rfl | assumption); (case kd => ktr_room); (case ku => (dsimp only [ktrTop]; omega)); k_whole); intro v9 xs9 h' tk' hR9 F' N'; obtain ⟨e1, e2⟩ := hR9; (rename getV _ _ = _ => hg8); rw [hg8] at e1; subst e1; subst e2; (try dsimp only [List.cons_append, List.nil_append] at N')))
theorem ht_above {w : World} {x dx l L : Addr} {t : Tok} {c : Nat} {rs : List RowT} {news : List (Addr × Obj)} (h : x < L ∧ dx < L ∧ l < L ∧ AllLt L (rowLed rs ++ news)) : ∀ p ∈ HT w x dx l t c rs news, p.1 ≠ L + 1 := by
  obtain ⟨a, b, d, e⟩ := h
  intro p hp
  have k : p.1 < L := by
    rcases List.mem_cons.mp hp with q | hp
    · rw [q]; exact a
    rcases List.mem_cons.mp hp with q | hp
    · rw [q]; exact b
    rcases List.mem_cons.mp hp with q | hp
    · rw [q]; exact d
    · exact allLt_mem e p hp
  exact Nat.ne_of_lt (Nat.lt_succ_of_lt k)
local macro_rules | `(tactic| walk_at "storeName") => `(tactic| (k_here; k_dflt (refine' storeX_C ?F ?N ?c (UpdF.head (ht_above ?l)) ?d ?_ ?a ?b; (case F => k_asm); (case N => k_asm); (case a => rfl); (case b => rfl); (case c => rfl); (case l => assumption); (case d => k_asm); k_whole); intro h' o' F' N' d'; (try dsimp only at N')))
theorem ht_filter {w : World} {h₀ h : Heap} {L : Addr} {x dx l : Addr} {t : Tok} {c : Nat} {rs : List RowT} {news : List (Addr × Obj)} {p0 : Addr × Obj} {g : RowT → Bool}
    (N : News h₀ L h (p0 :: (x, instObj 276 dx) :: (dx, insD w t l) :: (l, listOf ((rs.filter g).map fun (r : RowT) => Value.ref r.a).toArray c) :: (rowLed rs ++ news))) : News h₀ L h (HT w x dx l t c (rs.filter g) news) := by
  intro p hp
  refine N p (.tail _ ?_)
  rcases List.mem_cons.mp hp with e | hp
  · exact List.mem_cons.mpr (.inl e)
  rcases List.mem_cons.mp hp with e | hp
  · exact .tail _ (List.mem_cons.mpr (.inl e))
  rcases List.mem_cons.mp hp with e | hp
  · exact .tail _ (.tail _ (List.mem_cons.mpr (.inl e)))
  refine .tail _ (.tail _ (.tail _ ?_))
  rcases List.mem_append.mp hp with hp | hp
  · obtain ⟨r, hr, rfl⟩ := List.mem_map.mp hp
    exact List.mem_append_left _ (List.mem_map.mpr ⟨r, (List.mem_filter.mp hr).1, rfl⟩)
  · exact List.mem_append_right _ hp
local macro_rules | `(tactic| walk_at "eval ListComp") => `(tactic| (k_here; k_dflt (refine LCt.ListComp_T (F₀ := by k_asm) (by with_unfolding_all rfl) (by decide) (by rfl) (by decide) (by rfl) ?_)))
local macro_rules | `(tactic| walk_at "call builtin:str.lower") => `(tactic| (k_here; (refine SCL.lower (by first | exact Nat.le_of_ble_eq_true rfl | assumption) ?_); intro _))
theorem c_del (w : World) (news : List (Addr × Obj)) (x dx l : Addr) (t : Tok) (c : Nat) (rs : List RowT) (y : Str) (ty : Tok) (hy : y.length ≤ 5592405) (hq : Quiet w 140 (Txt.lower y)) (hs : ∀ r ∈ rs, r.k.length ≤ 5592405)
    (hn : ∀ q ∈ rowLed rs ++ news, q.1 ≠ l) (hxl : x ≠ l) (hdl : dx ≠ l) (hlen : rs.length < 60) :
    CtL w 2 194 (HT w x dx l t c rs news) [.ref x, .str y ty] fun r xs => ∃ c', xs = HT w x dx l t c' (rs.filter fun r => Txt.lower r.k ≠ Txt.lower y) news := by
  unfold CtL; intros
  rename_i hret
  refine wpAny_call ?_
  (refine' code_defC ?k1 ?k2 ?k3 ?k4 ?k5 ?kA ?kF ?kK ?k6 ?k7 ?k8 ?k9 ?kB ?kD ?_ ?c2 ?c3 ?c4; (case kA => exact rfl); (case kF => exact rfl); (case kK => first | exact rfl | assumption); (case k1 => k_asm); (case k2 => k_asm); (case k3 => k_asm); (case k4 => k_asm); (case k5 => k_asm); (case k6 => k_is); (case k7 => k_is); (case k8 => ktr_room); (case k9 => first | exact BindsTo.of_eq rfl | exact binds_K (by k_in) rfl (by k_is) rfl rfl rfl); (case kB => exact rfl); (case kD => decide +kernel); (case c2 => exact rfl); (case c3 => exact rfl); (case c4 => exact rfl); k_whole; intro g' L' h' tk' cells' FG' F' N' Y' B' X' T' l1; (try k_lt l1); k_cells Y'; (try simp only [List.cons_append, List.nil_append] at N'); (try dsimp only); (try k_lift B'); (try k_fold))
  k_steps
  have hm9 : ∀ r ∈ rs, (r.a, tup2 r.k r.t r.v r.u) ∈ HT w x dx l t c rs news := fun r hr => .tail _ (.tail _ (.tail _ (List.mem_append_left _ (List.mem_map.mpr ⟨r, hr, rfl⟩))))
  refine LCt.CompSrcT.ledger (its := (rowVals rs).toArray) (k := c) (by rfl) (by k_asm) (by k_asm) (by k_mem) (row_size hlen) ?_
  intro g9
  refine restT_all (fun (r : RowT) => Value.ref r.a) (fun r => decide (Txt.lower r.k ≠ Txt.lower y)) (rs := rs) ?_ ?_
  · k_steps
    rename _ ∧ _ ∧ _ ∧ _ ∧ Off1 _ _ => o9
    have hz9 : (rowVals rs).toArray.size + (((rs.filter fun r => decide (Txt.lower r.k ≠ Txt.lower y)).map fun (r : RowT) => Value.ref r.a)).length ≤ 1000 := by
      have := List.length_filter_le (fun r : RowT => decide (Txt.lower r.k ≠ Txt.lower y)) rs
      rw [List.size_toArray, List.length_map, List.length_map]
      omega
    k_here
    (refine' setSlice_K ?h1 ?F ?N ?n1 ?n2 ?n3 ?n4 ?ne ?z ?_; (case h1 => rfl); (case F => k_asm); (case N => k_asm); (case n1 => exact Nat.ne_of_gt (Nat.lt_succ_of_lt l1.2.2.1)); (case n2 => exact hxl); (case n3 => exact hdl); (case n4 => exact hn); (case ne => exact o9.2.2.2.1); (case z => exact hz9))
    k_whole
    intro h' c8 F' N'
    k_steps
    rename News _ _ _ _ => kN9
    exact hret _ _ _ _ ⟨_, rfl⟩ (by assumption) (ht_filter kN9)
  · intro r hr ys I9 oI9 C9 oC9 D9 m9 h9 tk9 E9 hC9 hx9 F9 N9 off9 ne9
    have hT9 : IsTup h9 r.a #[.str r.k r.t, .str r.v r.u] := News.isTup N9 (.tail _ (.tail _ (.tail _ (.tail _ (hm9 r hr)))))
    have hL9 := hs r hr
    k_steps
    · rename (_ != _) = true => b9
      exact CompEnd.intro F9 N9 _ (fun _ hp => hp) off9 (.inr ⟨_, .tail _ (.tail _ (.tail _ (.head _))), rfl, _, rfl⟩) ⟨decide_eq_true (fun e => by rw [e] at b9; simp at b9), rfl, rfl⟩
    · rename (_ != _) = false => b9
      exact CompEnd.intro F9 N9 _ (fun _ hp => hp) off9 (.inr ⟨_, .tail _ (.tail _ (.tail _ (.head _))), rfl, _, rfl⟩) ⟨decide_eq_false (fun e => e (by simpa using b9)), rfl⟩
end Mine
namespace Mine
open PySem PySem.W PySem.Calls PyProof.Rows PyProof.V
theorem regHit (w : World) (h : Heap) (X : (K w.params).In h) : PySem.Challenge.rw_wf0109_01.row.prog = PySem.Challenge.rw_wf0109_01.row.prog → (K w.params).In h := by
  k_fill
  exact fun _ => X
local macro_rules | `(tactic| walk_at "call ref") => `(tactic| (k_here; (with_reducible show wpAny _ _ (call (Value.ref 175) _ _) _ _ _); k_dflt (refine' ctk_use (c_conv _ _ _ _ _ _ ?z1 ?z2) ?k1 ?k2 ?k3 ?k4 ?k5 ?kK ?kd ?ku ?_; (case z1 => first | (intro _; with_reducible assumption) | (intro q; cases q; done)); (case z2 => first | (intro _; with_reducible assumption) | (intro q; cases q; done)); (case k1 => k_asm); (case k2 => k_asm); (case k3 => k_asm); (case k4 => k_asm); (case k5 => k_asm); (case kK => first | exact rfl | assumption); (case kd => ktr_room); (case ku => (dsimp only [ktrTop]; omega)); k_whole); intro v9 xs9 h' tk' hR9 F' N'; obtain ⟨e1, e2⟩ := hR9; subst e1; subst e2; (try dsimp only [List.cons_append, List.nil_append] at N')))
local macro_rules | `(tactic| walk_at "call ref") => `(tactic| (k_here; (with_reducible show wpAny _ _ (call (Value.ref 223) _ _) _ _ _); k_dflt (refine' ct_use (c_get _ _ _ _ _ _ _ _ _ _ ?z1 ?z2 ?z3) ?k1 ?k2 ?k3 ?k4 ?k5 ?kK ?kd ?ku ?_; (case k4 => k_asm); (case z1 => with_reducible assumption); (case z2 => with_reducible assumption); (case z3 => with_reducible assumption); (case k1 => k_asm); (case k2 => k_asm); (case k3 => k_asm); (case k5 => k_asm); (case kK => first | exact rfl | assumption); (case kd => ktr_room); (case ku => (dsimp only [ktrTop]; omega)); k_whole); intro v9 xs9 h' tk' hR9 F' N'; obtain ⟨e1, e2⟩ := hR9; (rename getV _ _ = _ => hg8); rw [hg8] at e1; subst e1; subst e2; (try dsimp only [List.cons_append, List.nil_append] at N')))
theorem c_set_hit (w : World) (news : List (Addr × Obj)) (x dx l : Addr) (t : Tok) (c : Nat) (rs : List RowT) (y : Str) (ty : Tok) (v : Str) (tv : Tok) (v0 : Str) (u0 : Tok) (hy : y.length ≤ 5592405) (hq : Quiet w 140 (Txt.lower y)) (hs : ∀ r ∈ rs, r.k.length ≤ 5592405)
    (hg9 : getV (Txt.lower y) rs = .str v0 u0) :
    Ct w 3 266 (HT w x dx l t c rs news) [.ref x, .str y ty, .str v tv] fun r xs => r = .str v0 u0 ∧ xs = [] := by
  unfold Ct; intros
  rename_i hret
  refine wpAny_call ?_
  cell_enter
  k_steps
  all_goals first | exact hret _ [] _ _ ⟨rfl, rfl⟩ (by assumption) (by assumption)
end Mine
namespace Mine
open PySem PySem.W PySem.Calls PyProof.Rows PyProof.V
theorem regItm (w : World) (h : Heap) (X : (K w.params).In h) : PySem.Challenge.rw_wf0109_01.row.prog = PySem.Challenge.rw_wf0109_01.row.prog → (K w.params).In h := by
  k_fill
  exact fun _ => X
local macro_rules | `(tactic| walk_at "call ref") => `(tactic| (k_here; (with_reducible show wpAny _ _ (call (Value.ref 175) _ _) _ _ _); k_dflt (refine' ctk_use (c_conv _ _ _ _ _ _ ?z1 ?z2) ?k1 ?k2 ?k3 ?k4 ?k5 ?kK ?kd ?ku ?_; (case z1 => first | (intro _; with_reducible assumption) | (intro q; cases q; done)); (case z2 => first | (intro _; with_reducible assumption) | (intro q; cases q; done)); (case k1 => k_asm); (case k2 => k_asm); (case k3 => k_asm); (case k4 => k_asm); (case k5 => k_asm); (case kK => first | exact rfl | assumption); (case kd => ktr_room); (case ku => (dsimp only [ktrTop]; omega)); k_whole); intro v9 xs9 h' tk' hR9 F' N'; obtain ⟨e1, e2⟩ := hR9; subst e1; subst e2; (try dsimp only [List.cons_append, List.nil_append] at N')))
local macro_rules | `(tactic| walk_at "call ref") => `(tactic| (k_here; (with_reducible show wpAny _ _ (call (Value.ref 223) _ _) _ _ _); k_dflt (refine' ct_use (c_get _ _ _ _ _ _ _ _ _ _ ?z1 ?z2 ?z3) ?k1 ?k2 ?k3 ?k4 ?k5 ?kK ?kd ?ku ?_; (case k4 => k_asm); (case z1 => with_reducible assumption); (case z2 => with_reducible assumption); (case z3 => with_reducible assumption); (case k1 => k_asm); (case k2 => k_asm); (case k3 => k_asm); (case k5 => k_asm); (case kK => first | exact rfl | assumption); (case kd => ktr_room); (case ku => (dsimp only [ktrTop]; omega)); k_whole); intro v9 xs9 h' tk' hR9 F' N'; obtain ⟨e1, e2⟩ := hR9; (rename getV _ _ = _ => hg8); rw [hg8] at e1; subst e1; subst e2; (try dsimp only [List.cons_append, List.nil_append] at N')))
theorem c_items (w : World) (news : List (Addr × Obj)) (x dx l : Addr) (t : Tok) (c : Nat) (rs : List RowT) (hlen : rs.length < 60) :
    Ct w 1 240 (HT w x dx l t c rs news) [.ref x] fun r xs => ∃ D n, r = .ref D ∧ xs = [(D, listOf (rowVals rs).toArray n)] := by
  unfold Ct; intros
  rename_i hret
  refine wpAny_call ?_
  cell_enter
  k_steps
  rename News _ _ _ _ => kN9
  rw [slicePick_all] at kN9
  exact hret _ [_] _ _ ⟨_, _, rfl, rfl⟩ (by assumption) kN9
end Mine
namespace Mine
open PySem PySem.W PySem.Calls PyProof.Rows PyProof.V
theorem regAdd (w : World) (h : Heap) (X : (K w.params).In h) : PySem.Challenge.rw_wf0109_01.row.prog = PySem.Challenge.rw_wf0109_01.row.prog → (K w.params).In h := by
  k_fill
  exact fun _ => X
local macro_rules | `(tactic| walk_at "call ref") => `(tactic| (k_here; (with_reducible show wpAny _ _ (call (Value.ref 175) _ _) _ _ _); k_dflt (refine' ctk_use (c_conv _ _ _ _ _ _ ?z1 ?z2) ?k1 ?k2 ?k3 ?k4 ?k5 ?kK ?kd ?ku ?_; (case z1 => first | (intro _; with_reducible assumption) | (intro q; cases q; done)); (case z2 => first | (intro _; with_reducible assumption) | (intro q; cases q; done)); (case k1 => k_asm); (case k2 => k_asm); (case k3 => k_asm); (case k4 => k_asm); (case k5 => k_asm); (case kK => first | exact rfl | assumption); (case kd => ktr_room); (case ku => (dsimp only [ktrTop]; omega)); k_whole); intro v9 xs9 h' tk' hR9 F' N'; obtain ⟨e1, e2⟩ := hR9; subst e1; subst e2; (try dsimp only [List.cons_append, List.nil_append] at N')))
local macro_rules | `(tactic| walk_at "call ref") => `(tactic| (k_here; (with_reducible show wpAny _ _ (call (Value.ref 223) _ _) _ _ _); k_dflt (refine' ct_use (c_get _ _ _ _ _ _ _ _ _ _ ?z1 ?z2 ?z3) ?k1 ?k2 ?k3 ?k4 ?k5 ?kK ?kd ?ku ?_; (case k4 => k_asm); (case z1 => with_reducible assumption); (case z2 => with_reducible assumption); (case z3 => with_reducible assumption); (case k1 => k_asm); (case k2 => k_asm); (case k3 => k_asm); (case k5 => k_asm); (case kK => first | exact rfl | assumption); (case kd => ktr_room); (case ku => (dsimp only [ktrTop]; omega)); k_whole); intro v9 xs9 h' tk' hR9 F' N'; obtain ⟨e1, e2⟩ := hR9; (rename getV _ _ = _ => hg8); rw [hg8] at e1; subst e1; subst e2; (try dsimp only [List.cons_append, List.nil_append] at N')))
theorem drop3 {h₀ h : Heap} {L : Addr} {a b c d : Addr × Obj} {r : List (Addr × Obj)} (N : News h₀ L h (a :: b :: c :: d :: r)) : News h₀ L h (a :: r) := by
  intro q hq
  refine N q ?_
  rcases List.mem_cons.mp hq with e | hq
  · exact List.mem_cons.mpr (.inl e)
  · exact .tail _ (.tail _ (.tail _ (.tail _ hq)))
local macro_rules | `(tactic| walk_at "call builtin:list.append") => `(tactic| (k_here; (with_reducible show wpAny _ _ (call (Value.builtin _) [Value.ref _, Value.ref _]) _ _ _); (rename News _ _ _ _ => N8); (replace N8 := drop3 N8); (rename _ ∧ _ ∧ _ ∧ _ ∧ _ ∧ _ ∧ AllLt _ _ => l9); k_dflt (refine' append_K ?k1 N8 (Upd.tail ?u0 (Upd.tail ?u1 (Upd.tail ?u2 (Upd.head ?u3)))) ?_ ?z; (case k1 => k_asm); (case u0 => exact Nat.ne_of_gt l9.2.2.2.2.2.1); (case u1 => assumption); (case u2 => assumption); (case u3 => assumption); (case z => exact row_size (by assumption)); k_whole); intro h' F' N'))
theorem join_one : Txt.join (Str.ofString "; ") [Str.ofString "put in"] = Str.ofString "put in" := by decide +kernel
theorem c_add (w : World) (news : List (Addr × Obj)) (x dx l : Addr) (t : Tok) (c : Nat) (rs : List RowT) (y : Str) (ty : Tok) (tv : Tok) (hq1 : Quiet w 140 y) (hq2 : Quiet w 145 (Str.ofString "put in"))
    (hn : ∀ q ∈ rowLed rs ++ news, q.1 ≠ l) (hxl : x ≠ l) (hdl : dx ≠ l) (hlen : rs.length < 60) :
    CtL w 2 273 (HT w x dx l t c rs news) [.ref x, .str y ty, .str (Str.ofString "put in") tv] fun r xs => ∃ T c' t1 t2, xs = HT w x dx l t c' (rs ++ [⟨T, y, t1, Str.ofString "put in", t2⟩]) news ∧ T ≠ l := by
  unfold CtL; intros
  rename_i hret
  refine wpAny_call ?_
  (refine' kp_more ?k1 ?k2 ?k3 ?k4 ?k5 ?kA ?kF ?kK ?k6 ?k7 ?k8 ?kX ?kM ?kN ?kD ?kR ?kP ?kT ?kB ?_ ?c2 ?c3 ?c4 ?c5; (case kA => exact rfl); (case kF => exact rfl); (case kK => first | exact rfl | assumption); (case k1 => k_asm); (case k2 => k_asm); (case k3 => k_asm); (case k4 => k_asm); (case k5 => k_asm); (case k6 => k_is); (case k7 => k_is); (case k8 => ktr_room); (case kX => kp_lit); (case kM => exact rfl); (case kN => exact rfl); (case kD => kp_flats); (case kR => exact rfl); (case kP => exact rfl); (case kT => exact fun _ => rfl); (case kB => exact fun _ => locs rfl); (case c5 => decide); (case c2 => exact rfl); (case c3 => exact rfl); (case c4 => exact rfl); k_whole; intro D' o' g' L' h' tk' l1 lo' hs' fs' FG' F' N' B' X' T'; (try k_lt l1); (try dsimp only); (try k_lift B'); (try k_fold))
  k_steps
  rename News _ _ _ _ => kN9
  rw [join_one] at kN9
  rename _ ∧ _ ∧ _ ∧ _ ∧ _ ∧ _ ∧ AllLt _ _ => l9
  exact hret _ _ _ _ ⟨_, _, _, _, rfl, Nat.ne_of_gt l9.2.2.2.2.2.1⟩ (by assumption) (ht_push kN9)
end Mine
namespace Mine
open PySem PySem.W PySem.Calls PyProof.Rows PyProof.V
theorem regN (w : World) (h : Heap) (X : (K w.params).In h) : PySem.Challenge.rw_wf0109_01.row.prog = PySem.Challenge.rw_wf0109_01.row.prog → (K w.params).In h := by
  k_fill
  exact fun _ => X
noncomputable def ltF (x y : UInt64) : Bool := Float64.cmp x y == some .lt
noncomputable def mx3 (x y z : UInt64) : UInt64 := if ltF (if ltF x y then y else x) z then z else if ltF x y then y else x
noncomputable def mn3 (x y z : UInt64) : UInt64 := if ltF z (if ltF y x then y else x) then z else if ltF y x then y else x
section
variable {w : World} {A : Around} {E : Value → Shared → Prop} {s : Shared} {h₀ : Heap} {L : Addr} {m : Str → Option Value} {news : List (Addr × Obj)} {x y z : UInt64} {t u v : Tok} {Q : Value → Shared → Prop}
theorem three_old {s : Shared} {o : Obj} {h' : Heap} {p : Obj} (hk : ∀ b o', b ∉ [(s.heap.push o).objs.size] → ((s.heap.push o).push p).get? b = some o' → h'.get? b = some o') :
    ∀ c o', s.heap.get? c = some o' → h'.get? c = some o' := fun c o' e => by
  refine hk c o' (fun hm => ?_) (Heap.get?_push_of_some _ (Heap.get?_push_of_some _ e))
  have h1 := Heap.lt_size e
  have h2 : (s.heap.push o).objs.size = s.heap.objs.size + 1 := Heap.size_push ..
  rw [List.mem_singleton, h2] at hm
  rw [hm] at h1
  exact Nat.lt_irrefl _ (Nat.lt_of_succ_lt h1)
theorem three_fp {h : Heap} {o p : Obj} : ∀ c ∈ [(h.push o).objs.size, h.objs.size], c < ((h.push o).push p).objs.size := fun c hc => by
  have h2 : (h.push o).objs.size = h.objs.size + 1 := Heap.size_push ..
  have h3 : ((h.push o).push p).objs.size = (h.push o).objs.size + 1 := Heap.size_push ..
  simp only [List.mem_cons, List.not_mem_nil, or_false] at hc
  rcases hc with hc | hc
  · rw [hc, h3]; exact Nat.lt_succ_self _
  · rw [hc, h3, h2]; exact Nat.lt_succ_of_lt (Nat.lt_succ_self _)
theorem max3_f (hh : A.handled = none) (F : Fr h₀ L s.heap m) (N : News h₀ L s.heap news) (h : ∀ h' tk k, Fr h₀ L h' m → News h₀ L h' news → Q (.float (mx3 x y z) k) { s with heap := h', toks := tk }) :
    wpAny (model prog w) A (call (.builtin "max") [.float x t, .float y u, .float z v]) Q E s := by
  have hT : (s.heap.push { cls := .type "tuple", data := .seq #[.float x t, .float y u, .float z v] }).IsTuple s.heap.objs.size #[.float x t, .float y u, .float z v] := ⟨_, Heap.get?_push_size _ rfl, rfl, 0, rfl⟩
  refine call_max_three (wpAny_pyIter_tuple hT ?_)
  refine ⟨_, [_, s.heap.objs.size], [_], _, _, _, _, rfl, Walks.tuple (A := A.in1) hh _ s.heap.objs.size (by rw [Heap.size_push]; exact Nat.ne_of_lt (Nat.lt_succ_self _)) #[.float x t, .float y u, .float z v],
    ⟨⟨_, Heap.get?_push_size _ rfl, rfl, rfl⟩, hT.push _⟩, three_fp, by simp, Flt.cmpOf_gt _ (by simp; exact ⟨.float .., .float .., .float ..⟩), fun r h' tk hP hk => ?_⟩
  have hold := three_old hk
  have hr : ∃ k, r = .float (mx3 x y z) k := by
    have e1 : ∀ (a b : UInt64) (k l : Tok), Flt.ltV (.float a k) (.float b l) = ltF a b := fun _ _ _ _ => rfl
    cases h1 : ltF x y <;> cases h2 : ltF x z <;> cases h3 : ltF y z <;> simp [argBest, e1, h1, h2, h3] at hP <;> subst hP <;>
      first | (refine ⟨t, ?_⟩; simp [mx3, h1, h2, h3]; done) | (refine ⟨u, ?_⟩; simp [mx3, h1, h2, h3]; done) | (refine ⟨v, ?_⟩; simp [mx3, h1, h2, h3]; done)
  obtain ⟨k, rfl⟩ := hr
  exact h h' tk k (F.grownK hold) (N.grown hold)
theorem min3_f (hh : A.handled = none) (F : Fr h₀ L s.heap m) (N : News h₀ L s.heap news) (h : ∀ h' tk k, Fr h₀ L h' m → News h₀ L h' news → Q (.float (mn3 x y z) k) { s with heap := h', toks := tk }) :
    wpAny (model prog w) A (call (.builtin "min") [.float x t, .float y u, .float z v]) Q E s := by
  have hT : (s.heap.push { cls := .type "tuple", data := .seq #[.float x t, .float y u, .float z v] }).IsTuple s.heap.objs.size #[.float x t, .float y u, .float z v] := ⟨_, Heap.get?_push_size _ rfl, rfl, 0, rfl⟩
  refine call_min_three (wpAny_pyIter_tuple hT ?_)
  refine ⟨_, [_, s.heap.objs.size], [_], _, _, _, _, rfl, Walks.tuple (A := A.in1) hh _ s.heap.objs.size (by rw [Heap.size_push]; exact Nat.ne_of_lt (Nat.lt_succ_self _)) #[.float x t, .float y u, .float z v],
    ⟨⟨_, Heap.get?_push_size _ rfl, rfl, rfl⟩, hT.push _⟩, three_fp, by simp, Flt.cmpOf_lt _ (by simp; exact ⟨.float .., .float .., .float ..⟩), fun r h' tk hP hk => ?_⟩
  have hold := three_old hk
  have hr : ∃ k, r = .float (mn3 x y z) k := by
    have e1 : ∀ (a b : UInt64) (k l : Tok), Flt.ltV (.float a k) (.float b l) = ltF a b := fun _ _ _ _ => rfl
    cases h1 : ltF y x <;> cases h2 : ltF z x <;> cases h3 : ltF z y <;> simp [argBest, e1, h1, h2, h3] at hP <;> subst hP <;>
      first | (refine ⟨t, ?_⟩; simp [mn3, h1, h2, h3]; done) | (refine ⟨u, ?_⟩; simp [mn3, h1, h2, h3]; done) | (refine ⟨v, ?_⟩; simp [mn3, h1, h2, h3]; done)
  obtain ⟨k, rfl⟩ := hr
  exact h h' tk k (F.grownK hold) (N.grown hold)
end
local macro_rules | `(tactic| walk_at "call builtin:max") => `(tactic| (k_here; (with_reducible show wpAny _ _ (call _ [Value.float _ _, Value.float _ _, Value.float _ _]) _ _ _); k_dflt (refine' max3_f rfl ?F ?N ?_; (case F => k_asm); (case N => k_asm); k_whole); intro h' tk' k' F' N'))
local macro_rules | `(tactic| walk_at "call builtin:min") => `(tactic| (k_here; (with_reducible show wpAny _ _ (call _ [Value.float _ _, Value.float _ _, Value.float _ _]) _ _ _); k_dflt (refine' min3_f rfl ?F ?N ?_; (case F => k_asm); (case N => k_asm); k_whole); intro h' tk' k' F' N'))
noncomputable abbrev tup3 (p : UInt64 × UInt64 × UInt64) (a b c : Tok) : Obj := { cls := .type "tuple", data := .seq #[.float p.1 a, .float p.2.1 b, .float p.2.2 c] }
noncomputable def rgbH (x y z M N : UInt64) : UInt64 :=
  if (Float64.cmp x M == some Ordering.eq) = true then Float64.sub (Float64.div (Float64.sub M z) (Float64.sub M N)) (Float64.div (Float64.sub M y) (Float64.sub M N))
  else if (Float64.cmp y M == some Ordering.eq) = true then Float64.sub (Float64.add 4611686018427387904 (Float64.div (Float64.sub M x) (Float64.sub M N))) (Float64.div (Float64.sub M z) (Float64.sub M N))
  else Float64.sub (Float64.add 4616189618054758400 (Float64.div (Float64.sub M y) (Float64.sub M N))) (Float64.div (Float64.sub M x) (Float64.sub M N))
noncomputable def rgbG (x y z M N : UInt64) : UInt64 × UInt64 × UInt64 :=
  if (Float64.cmp N M == some Ordering.eq) = true then (0, 0, M)
  else ((Float64.divmod (Float64.div (rgbH x y z M N) 4618441417868443648) 4607182418800017408).snd, Float64.div (Float64.sub M N) M, M)
noncomputable def rgbF (x y z : UInt64) : UInt64 × UInt64 × UInt64 := rgbG x y z (mx3 x y z) (mn3 x y z)
theorem rgb_1 {x y z M N : UInt64} (h : (Float64.cmp N M == some Ordering.eq) = true) : rgbG x y z M N = (0, 0, M) := by unfold rgbG; rw [if_pos h]
theorem rgb_2 {x y z M N H : UInt64} (h : (Float64.cmp N M == some Ordering.eq) = false) (e : rgbH x y z M N = H) : rgbG x y z M N = ((Float64.divmod (Float64.div H 4618441417868443648) 4607182418800017408).snd, Float64.div (Float64.sub M N) M, M) := by
  unfold rgbG; rw [if_neg (by rw [h]; exact Bool.false_ne_true), e]
theorem rgb_a {x y z M N : UInt64} (h : (Float64.cmp x M == some Ordering.eq) = true) : rgbH x y z M N = Float64.sub (Float64.div (Float64.sub M z) (Float64.sub M N)) (Float64.div (Float64.sub M y) (Float64.sub M N)) := by
  unfold rgbH; rw [if_pos h]
theorem rgb_b {x y z M N : UInt64} (h : (Float64.cmp x M == some Ordering.eq) = false) (h' : (Float64.cmp y M == some Ordering.eq) = true) : rgbH x y z M N = Float64.sub (Float64.add 4611686018427387904 (Float64.div (Float64.sub M x) (Float64.sub M N))) (Float64.div (Float64.sub M z) (Float64.sub M N)) := by
  unfold rgbH; rw [if_neg (by rw [h]; exact Bool.false_ne_true), if_pos h']
theorem rgb_c {x y z M N : UInt64} (h : (Float64.cmp x M == some Ordering.eq) = false) (h' : (Float64.cmp y M == some Ordering.eq) = false) : rgbH x y z M N = Float64.sub (Float64.add 4616189618054758400 (Float64.div (Float64.sub M y) (Float64.sub M N))) (Float64.div (Float64.sub M x) (Float64.sub M N)) := by
  unfold rgbH; rw [if_neg (by rw [h]; exact Bool.false_ne_true), if_neg (by rw [h']; exact Bool.false_ne_true)]
theorem tup3_eq {p q : UInt64 × UInt64 × UInt64} {a b c : Tok} {D : Addr} (h : p = q) : [(D, tup3 q a b c)] = [(D, tup3 p a b c)] := by rw [h]
theorem c_rgb (w : World) (news : List (Addr × Obj)) (x y z : UInt64) (t u v : Tok)
    (hz : Float64.isZero (mx3 x y z) = false) (hd : (Float64.cmp (mn3 x y z) (mx3 x y z) == some Ordering.eq) = false → Float64.isZero (Float64.sub (mx3 x y z) (mn3 x y z)) = false) :
    Ct w 1 45 news [.float x t, .float y u, .float z v] fun v xs => ∃ D a b c, v = .ref D ∧ xs = [(D, tup3 (rgbF x y z) a b c)] := by
  unfold Ct; intros
  rename_i hret
  refine wpAny_call ?_
  cell_enter
  k_steps
  all_goals first
    | ((rename (Float64.cmp (mn3 x y z) _ == _) = true => c1)
       exact hret _ [(_, _)] _ _ ⟨_, _, _, _, rfl, tup3_eq (rgb_1 c1)⟩ (by assumption) (by assumption))
    | ((rename (Float64.cmp (mn3 x y z) _ == _) = false => c0)
       (rename (Float64.cmp x _ == _) = true => c1)
       exact hret _ [(_, _)] _ _ ⟨_, _, _, _, rfl, tup3_eq (rgb_2 c0 (rgb_a c1))⟩ (by assumption) (by assumption))
    | ((rename (Float64.cmp (mn3 x y z) _ == _) = false => c0)
       (rename (Float64.cmp x _ == _) = false => c1)
       (rename (Float64.cmp y _ == _) = true => c2)
       exact hret _ [(_, _)] _ _ ⟨_, _, _, _, rfl, tup3_eq (rgb_2 c0 (rgb_b c1 c2))⟩ (by assumption) (by assumption))
    | ((rename (Float64.cmp (mn3 x y z) _ == _) = false => c0)
       (rename (Float64.cmp x _ == _) = false => c1)
       (rename (Float64.cmp y _ == _) = false => c2)
       exact hret _ [(_, _)] _ _ ⟨_, _, _, _, rfl, tup3_eq (rgb_2 c0 (rgb_c c1 c2))⟩ (by assumption) (by assumption))
    | ((rename Float64.isZero _ = true => c1)
       rw [hz] at c1; exact Bool.noConfusion c1)
    | ((rename (Float64.cmp (mn3 x y z) _ == _) = false => c0)
       (rename Float64.isZero _ = true => c1)
       rw [hd c0] at c1; exact Bool.noConfusion c1)
end Mine
namespace Mine
open PySem PySem.W PySem.Calls PyProof.Rows PyProof.V
theorem regM (w : World) (h : Heap) (X : (K w.params).In h) : PySem.Challenge.rw_wf0109_01.row.prog = PySem.Challenge.rw_wf0109_01.row.prog → (K w.params).In h := by
  k_fill
  exact fun _ => X
noncomputable def lightF (r : Int) : UInt64 := Float64.ofFrac (decide (r + 1 < 0) != decide ((2 : Int) < 0)) (r + 1).natAbs (Int.natAbs 2)
theorem light_z {r g b : Int} (hr : r = 0 ∨ r = 1) (hg : g = 0 ∨ g = 1) (hb : b = 0 ∨ b = 1) : Float64.isZero (mx3 (lightF r) (lightF g) (lightF b)) = false := by
  rcases hr with rfl | rfl <;> rcases hg with rfl | rfl <;> rcases hb with rfl | rfl <;> decide +kernel
theorem light_d {r g b : Int} (hr : r = 0 ∨ r = 1) (hg : g = 0 ∨ g = 1) (hb : b = 0 ∨ b = 1) : (Float64.cmp (mn3 (lightF r) (lightF g) (lightF b)) (mx3 (lightF r) (lightF g) (lightF b)) == some Ordering.eq) = false →
    Float64.isZero (Float64.sub (mx3 (lightF r) (lightF g) (lightF b)) (mn3 (lightF r) (lightF g) (lightF b))) = false := by
  rcases hr with rfl | rfl <;> rcases hg with rfl | rfl <;> rcases hb with rfl | rfl <;> decide +kernel
local macro_rules | `(tactic| walk_at "call ref") => `(tactic| (k_here; (with_reducible show wpAny _ _ (call (Value.ref 45) _) _ _ _); k_dflt (refine' ct_use (c_rgb _ _ _ _ _ _ _ _ ?z1 ?z2) ?k1 ?k2 ?k3 ?k4 ?k5 ?kK ?kd ?ku ?_; (case z1 => exact light_z (by assumption) (by assumption) (by assumption)); (case z2 => exact light_d (by assumption) (by assumption) (by assumption)); (case k1 => k_asm); (case k2 => k_asm); (case k3 => k_asm); (case k4 => k_asm); (case k5 => k_asm); (case kK => first | exact rfl | assumption); (case kd => ktr_room); (case ku => (dsimp only [ktrTop]; omega)); k_whole); intro v9 xs9 h' tk' hR9 F' N'; obtain ⟨D9, a9, b9, c9, e1, e2⟩ := hR9; subst e1; subst e2; (try dsimp only [List.cons_append, List.nil_append] at N')))
noncomputable def hueI (r g b : Int) : Int := Flt.toInt Float64.nearestOf (Float64.mul (rgbF (lightF r) (lightF g) (lightF b)).fst (Float64.ofInt 6))
theorem hue_lo {r g b : Int} (hr : r = 0 ∨ r = 1) (hg : g = 0 ∨ g = 1) (hb : b = 0 ∨ b = 1) : -((7 : Nat) : Int) ≤ hueI r g b := by
  rcases hr with rfl | rfl <;> rcases hg with rfl | rfl <;> rcases hb with rfl | rfl <;> decide +kernel
theorem hue_hi {r g b : Int} (hr : r = 0 ∨ r = 1) (hg : g = 0 ∨ g = 1) (hb : b = 0 ∨ b = 1) : hueI r g b < ((7 : Nat) : Int) := by
  rcases hr with rfl | rfl <;> rcases hg with rfl | rfl <;> rcases hb with rfl | rfl <;> decide +kernel
local macro_rules | `(tactic| walk_at "subscriptTail") => `(tactic| (k_here; (with_reducible show wpAny _ _ (subscriptTail _ _ (Value.str _ _) (Value.int _ _)) _ _ _); (refine KXi.item (by kxi_len) (hue_lo (by assumption) (by assumption) (by assumption)) (hue_hi (by assumption) (by assumption) (by assumption)) (by decide) ?_); intro kxiE))
/- the name of what is left -/
noncomputable def nameL (r g b : Int) : Str :=
  if r = 1 then (if g = 1 then (if b = 1 then S "w" else S "y") else (if b = 1 then S "m" else S "r"))
  else (if g = 1 then (if b = 1 then S "c" else S "g") else (if b = 1 then S "b" else S ""))
theorem str_of_eq {x y : Str} {u : Tok} (h : x = y) : ∃ k, Value.str x u = .str y k := ⟨u, by rw [h]⟩
theorem c_named (w : World) (news : List (Addr × Obj)) (r g b : Int) (t u v : Tok) (hr : r = 0 ∨ r = 1) (hg : g = 0 ∨ g = 1) (hb : b = 0 ∨ b = 1) :
    Ct w 2 301 news [.int r t, .int g u, .int b v] fun v xs => (∃ k, v = .str (nameL r g b) k) ∧ xs = [] := by
  unfold Ct; intros
  rename_i hret
  refine wpAny_call ?_
  cell_enter
  k_steps
  all_goals (rcases hr with e1 | e1 <;> rcases hg with e2 | e2 <;> rcases hb with e3 | e3 <;> subst e1 <;> subst e2 <;> subst e3)
  all_goals first
    | exact hret _ [] _ _ ⟨str_of_eq (by decide +kernel), rfl⟩ (by assumption) (cb_drop (by assumption) (by intro q hq; exact .tail _ hq))
    | ((rename (Float64.cmp _ _ == _) = _ => c1); exact absurd c1 (by decide +kernel))
    | ((rename (Float64.cmpInt _ _ == _) = _ => c1); exact absurd c1 (by decide +kernel))
    | ((rename (Float64.cmpInt _ _ != _) = _ => c1); exact absurd c1 (by decide +kernel))
    | ((rename Float64.isNaN _ = true => c1); exact absurd c1 (by decide +kernel))
    | ((rename Float64.isInf _ = true => c1); exact absurd c1 (by decide +kernel))
end Mine
namespace Mine
open PySem PySem.W PySem.Calls PyProof.Rows PyProof.V
theorem regP (w : World) (h : Heap) (X : (K w.params).In h) : PySem.Challenge.rw_wf0109_01.row.prog = PySem.Challenge.rw_wf0109_01.row.prog → (K w.params).In h := by
  k_fill
  exact fun _ => X
noncomputable abbrev hsvX (x : UInt64) : UInt64 := Float64.mul x 4618441417868443648
noncomputable abbrev hsvI (x : UInt64) : Int := Flt.toInt Float64.truncOf (hsvX x)
noncomputable abbrev hsvFr (x : UInt64) : UInt64 := Float64.sub (hsvX x) (Float64.ofInt (hsvI x))
noncomputable abbrev hsvP (y z : UInt64) : UInt64 := Float64.mul z (Float64.sub 4607182418800017408 y)
noncomputable abbrev hsvQ (x y z : UInt64) : UInt64 := Float64.mul z (Float64.sub 4607182418800017408 (Float64.mul y (hsvFr x)))
noncomputable abbrev hsvT (x y z : UInt64) : UInt64 := Float64.mul z (Float64.sub 4607182418800017408 (Float64.mul y (Float64.sub 4607182418800017408 (hsvFr x))))
noncomputable def hsvW (x y z : UInt64) (j : Int) : UInt64 × UInt64 × UInt64 :=
  if j = 0 then (z, hsvT x y z, hsvP y z) else if j = 1 then (hsvQ x y z, z, hsvP y z) else if j = 2 then (hsvP y z, z, hsvT x y z)
  else if j = 3 then (hsvP y z, hsvQ x y z, z) else if j = 4 then (hsvT x y z, hsvP y z, z) else (z, hsvP y z, hsvQ x y z)
noncomputable def hsvF (x y z : UInt64) : UInt64 × UInt64 × UInt64 := if (Float64.cmp y 0 == some Ordering.eq) = true then (z, z, z) else hsvW x y z (Int.fmod (hsvI x) 6)
theorem hsv_0 {x y z : UInt64} (h : (Float64.cmp y 0 == some Ordering.eq) = true) : hsvF x y z = (z, z, z) := by unfold hsvF; rw [if_pos h]
theorem hsv_w {x y z : UInt64} {j : Int} {p : UInt64 × UInt64 × UInt64} (h : (Float64.cmp y 0 == some Ordering.eq) = false) (e : Int.fmod (hsvI x) 6 = j) (q : hsvW x y z j = p) : hsvF x y z = p := by
  unfold hsvF; rw [if_neg (by rw [h]; exact Bool.false_ne_true), e, q]
theorem c_hsv (w : World) (news : List (Addr × Obj)) (x y z : UInt64) (t u v : Tok)
    (hn : (Float64.cmp y 0 == some Ordering.eq) = false → Float64.isNaN (hsvX x) = false ∧ Float64.isInf (hsvX x) = false ∧ (hsvI x).natAbs < 100) :
    Ct w 1 52 news [.float x t, .float y u, .float z v] fun v xs => ∃ D a b c, v = .ref D ∧ xs = [(D, tup3 (hsvF x y z) a b c)] := by
  unfold Ct; intros
  rename_i hret
  refine wpAny_call ?_
  cell_enter
  k_steps
  all_goals first
    | ((rename (Float64.cmp y 0 == _) = true => c1)
       exact hret _ [(_, _)] _ _ ⟨_, _, _, _, rfl, tup3_eq (hsv_0 c1)⟩ (by assumption) (by assumption))
    | ((rename (Float64.cmp y 0 == _) = false => c0)
       (rename Int.fmod _ 6 = _ => c1)
       exact hret _ [(_, _)] _ _ ⟨_, _, _, _, rfl, tup3_eq (hsv_w c0 c1 rfl)⟩ (by assumption) (by assumption))
    | ((rename (Float64.cmp y 0 == _) = false => c0)
       have h9 := hn c0
       first
        | ((rename Float64.isNaN _ = true => c1); rw [h9.1] at c1; exact Bool.noConfusion c1)
        | ((rename Float64.isInf _ = true => c1); rw [h9.2.1] at c1; exact Bool.noConfusion c1)
        | (exfalso; have h8 := h9.2.2; (rename _ ≤ Int.natAbs _ => c1); have h7 : (100 : Nat) ≤ 2 ^ 1024 - 2 ^ 970 := by decide
           exact absurd (Nat.lt_of_lt_of_le h8 (Nat.le_trans h7 c1)) (Nat.lt_irrefl _))
        | (exfalso; have h8 := Int.emod_nonneg (hsvI x) (show (6 : Int) ≠ 0 by decide); have h7 := Int.emod_lt_of_pos (hsvI x) (show (0 : Int) < 6 by decide)
           rw [← Int.fmod_eq_emod_of_nonneg _ (by decide)] at h8 h7
           have h6 : Int.fmod (hsvI x) 6 = 0 ∨ Int.fmod (hsvI x) 6 = 1 ∨ Int.fmod (hsvI x) 6 = 2 ∨ Int.fmod (hsvI x) 6 = 3 ∨ Int.fmod (hsvI x) 6 = 4 ∨ Int.fmod (hsvI x) 6 = 5 := by omega
           rcases h6 with h | h | h | h | h | h <;> exact absurd h (by assumption)))
/- the paint: the letter's place in rygcbm -/
noncomputable def paintX (k : Int) : UInt64 := Float64.ofFrac (decide (Int.fmod (3 * k + 7) 18 < 0) != decide ((18 : Int) < 0)) (Int.fmod (3 * k + 7) 18).natAbs (Int.natAbs 18)
noncomputable def pX (n : Nat) : UInt64 := paintX (Txt.find (S "rygcbm") ⟨#[n]⟩)
noncomputable def isL7 (n : Nat) : Prop := n = 98 ∨ n = 103 ∨ n = 99 ∨ n = 114 ∨ n = 109 ∨ n = 121 ∨ n = 119
theorem paint_hn {n : Nat} {y : UInt64} (h : isL7 n) : (Float64.cmp y 0 == some Ordering.eq) = false → Float64.isNaN (hsvX (pX n)) = false ∧ Float64.isInf (hsvX (pX n)) = false ∧ (hsvI (pX n)).natAbs < 100 := fun _ => by
  rcases h with rfl | rfl | rfl | rfl | rfl | rfl | rfl <;> exact ⟨by decide +kernel, by decide +kernel, by decide +kernel⟩
noncomputable def paintF (n : Nat) : UInt64 × UInt64 × UInt64 := if n = 119 then hsvF 0 0 4604930618986332160 else hsvF (pX n) 4604930618986332160 4607182418800017408
local macro_rules | `(tactic| walk_at "call ref") => `(tactic| (k_here; (with_reducible show wpAny _ _ (call (Value.ref 52) _) _ _ _); k_dflt (refine' ct_use (c_hsv _ _ _ _ _ _ _ _ ?z1) ?k1 ?k2 ?k3 ?k4 ?k5 ?kK ?kd ?ku ?_; (case z1 => first | exact paint_hn (by assumption) | exact fun h => absurd h (by decide +kernel)); (case k1 => k_asm); (case k2 => k_asm); (case k3 => k_asm); (case k4 => k_asm); (case k5 => k_asm); (case kK => first | exact rfl | assumption); (case kd => ktr_room); (case ku => (dsimp only [ktrTop]; omega)); k_whole); intro v9 xs9 h' tk' hR9 F' N'; obtain ⟨D9, a9, b9, c9, e1, e2⟩ := hR9; subst e1; subst e2; (try dsimp only [List.cons_append, List.nil_append] at N')))
theorem c_paint (w : World) (news : List (Addr × Obj)) (n : Nat) (t : Tok) (hl : isL7 n) : Ct w 2 294 news [.str ⟨#[n]⟩ t] fun v xs => ∃ D a b c, v = .ref D ∧ xs = [(D, tup3 (paintF n) a b c)] := by
  unfold Ct; intros
  rename_i hret
  refine wpAny_call ?_
  cell_enter
  k_steps
  all_goals (rcases hl with e0 | e0 | e0 | e0 | e0 | e0 | e0 <;> subst e0)
  all_goals first
    | ((rename (_ == _) = true => c1); exact absurd c1 (by decide +kernel))
    | ((rename Txt.find _ _ = -1 => c1); exact absurd c1 (by decide +kernel))
    | ((rename Float64.isInf _ = true => c1); exact absurd c1 (by decide +kernel))
    | ((rename (_ == _) = false => c1); exact absurd c1 (by decide +kernel))
    | exact hret _ [(_, _)] _ _ ⟨_, _, _, _, rfl, rfl⟩ (by assumption) (by assumption)
end Mine
namespace Mine
open PySem PySem.W PySem.Calls PyProof.Rows PyProof.V PyProof.Rows.LCt PyProof.Rows.LCg
section
variable {prog : Program} {w : World} {A : Around} {E : Value → Shared → Prop} {s : Shared} {h₀ : Heap} {L : Addr} {m : Str → Option Value} {env : Env}
/- comprehensions over the signs of a text -/
noncomputable def TextU (prog : Program) (w : World) (A : Around) (h₀ : Heap) (L : Addr) (m : Str → Option Value) (env : Env) (elt : Expr) (x : Str) (scope : Scope) (cl : List (Str × Addr)) (Fin : Shared → List Value → List (Addr × Obj) → Prop) (xv : Value) (s₁ : Shared) : Prop :=
  ∃ (y : Str) (t : Tok) (news : List (Addr × Obj)), xv = .str y t ∧ A.handled = none ∧ Fr h₀ L s₁.heap m ∧ News h₀ L s₁.heap news ∧ y.cps.size ≤ sizeLine ∧
    ∀ g, CompRest prog w A h₀ L m env elt x scope cl { s₁ with heap := g } (fun _ => True) (SignAt y) (Fin { s₁ with heap := g }) y.cps.size 0 [] news
noncomputable def TextT (prog : Program) (w : World) (A : Around) (h₀ : Heap) (L : Addr) (m : Str → Option Value) (env : Env) (ct elt : Expr) (x : Str) (scope : Scope) (cl : List (Str × Addr)) (Fin : Shared → List Value → List (Addr × Obj) → Prop) (xv : Value) (s₁ : Shared) : Prop :=
  ∃ (y : Str) (t : Tok) (news : List (Addr × Obj)), xv = .str y t ∧ A.handled = none ∧ Fr h₀ L s₁.heap m ∧ News h₀ L s₁.heap news ∧ y.cps.size ≤ sizeLine ∧
    ∀ g, CompRestT prog w A h₀ L m env ct elt x scope cl { s₁ with heap := g } (fun _ => True) (SignAt y) (Fin { s₁ with heap := g }) y.cps.size 0 [] news
theorem str_iter {Q : Value → Shared → Prop} {y : Str} {t : Tok}
    (h : ∀ (o : Obj) (T : String), Walks prog w A s.heap.objs.size [s.heap.objs.size] [s.heap.objs.size] y.cps.size (SignAt y) (fun i h => h.IsStrIter s.heap.objs.size T y t i) →
      (s.heap.push o).IsStrIter s.heap.objs.size T y t 0 → Q (.ref s.heap.objs.size) { s with heap := s.heap.push o }) (hh : A.handled = none) : wpAny (model prog w) A (pyIter (.str y t)) Q E s := by
  cases ha : y.cps.all (· < 128)
  · exact wpAny_pyIter_wide ha (h _ _ (Walks.strWide hh _ y t) ⟨_, Heap.get?_push_size _ rfl, rfl, rfl⟩)
  · exact wpAny_pyIter_ascii ha (h _ _ (Walks.strAscii hh _ y t) ⟨_, Heap.get?_push_size _ rfl, rfl, rfl⟩)
theorem str_io {I : Addr} {T : String} {y : Str} {t : Tok} : ∀ i (h : Heap), h.IsStrIter I T y t i → ∃ o, h.get? I = some o := fun i h st => ⟨_, st.choose_spec.1⟩
theorem str_keep {I : Addr} {T : String} {y : Str} {t : Tok} : ∀ i (h h' : Heap) (o : Obj) (nw : List (Addr × Obj)), h.IsStrIter I T y t i → h.get? I = some o → h'.get? I = some o → (∀ b o, h₀.get? b = some o → h'.get? b = some o) → News h₀ L h' nw → True → h'.IsStrIter I T y t i :=
  fun i h h' o nw st e e' _ _ _ => by
    obtain ⟨o', q, r⟩ := st
    rw [e] at q; cases q
    exact ⟨o, e', r⟩
theorem end_E {s₂ : Shared} {Q : Value → Shared → Prop} {D C : Addr} {h : Heap} {tk : Nat} {m' : Str → Option Value} {ys : List Value} {news' : List (Addr × Obj)} (F' : Fr h₀ L h m) (N' : News h₀ L h ((D, lst ys) :: news')) (o1 : Off1 D news') (hn : h.Ns C m') (hC₀ : h₀.get? C = none) (hCL : C ≠ L) (hCD : C ≠ D) (offC : ∀ p ∈ news', p.1 ≠ C)
    (fin : FinE h₀ L m s₂ Q ys news') : ∃ m', h.Ns C m' ∧ ∀ h'', Heap.SameBut C h h'' → Q (.ref D) { s₂ with heap := h'', toks := tk } :=
  ⟨m', hn, fun h'' hs'' => fin D h'' tk (F'.change hs'' hCL hC₀) (fun p hp => by
    refine ⟨hs''.extBut _ _ ?_ (N' p hp).1, (N' p hp).2⟩
    rcases List.mem_cons.mp hp with rfl | hp
    · exact Ne.symm hCD
    · exact offC p hp) o1⟩
theorem ListComp_SU {elt iter : Expr} {x : Str} {px : Pos} {scope : Scope} {cl : List (Str × Addr)} {pos : Pos} {Q : Value → Shared → Prop} (F₀ : Fr h₀ L s.heap m)
    (hclos : closureFor scope env = pure cl) (hcell : ∀ y ∈ scope.names, y.2 ≠ .cell) (hkind : scope.kind = .function)
    (hnames : ∀ y ∈ scope.names, y.2 = .local → scope.names.lookup y.1 = some .local) (hx : scope.names.lookup x = some .local)
    (h : wpAny (model prog w) A (eval iter env) (TextU prog w A h₀ L m env elt x scope cl (fun s₂ => FinE h₀ L m s₂ Q)) E s)
    (hs : ∀ x, foldedSetIterable iter env x = pure x := by intro _; rfl) :
    wpAny (model prog w) A (eval (.ListComp elt [⟨.Name x px, iter, [], 0⟩] scope pos) env) Q E s := by
  rw [eval_ListComp]
  refine wpAny_comprehension_free (use := none) rfl hs hclos hkind hnames (wpAny_mono h (fun xv s₁ h₁ => ?_) fun _ _ e => e)
  obtain ⟨y, t, news, rfl, hh, F, N, hsz, R⟩ := h₁
  refine str_iter (fun o T W st => ?_) hh
  refine block_U W hsz str_io str_keep hcell hkind hx st (fun b hb => ?_) (F.keeps fun _ _ e => Heap.get?_push_of_some _ e) (N.grown fun _ _ e => Heap.get?_push_of_some _ e) (Nat.ne_of_lt F.ns.lt) (next_is_new F) (fun p hp => Nat.ne_of_lt (Heap.lt_size (N p hp).1)) trivial (R _) ?_
  · rw [List.mem_singleton.mp hb]
    show s₁.heap.objs.size < (s₁.heap.push o).objs.size
    rw [Heap.size_push]; exact Nat.lt_succ_self _
  · intro D C h tk m' ys news' F' N' o1 hn hC₀ hD₀ hCL hDL hCD offC fin
    exact end_E F' N' o1 hn hC₀ hCL hCD offC fin
theorem ListComp_ST {ct elt iter : Expr} {x : Str} {px : Pos} {scope : Scope} {cl : List (Str × Addr)} {pos : Pos} {Q : Value → Shared → Prop} (F₀ : Fr h₀ L s.heap m)
    (hclos : closureFor scope env = pure cl) (hcell : ∀ y ∈ scope.names, y.2 ≠ .cell) (hkind : scope.kind = .function)
    (hnames : ∀ y ∈ scope.names, y.2 = .local → scope.names.lookup y.1 = some .local) (hx : scope.names.lookup x = some .local)
    (h : wpAny (model prog w) A (eval iter env) (TextT prog w A h₀ L m env ct elt x scope cl (fun s₂ => FinE h₀ L m s₂ Q)) E s)
    (hs : ∀ x, foldedSetIterable iter env x = pure x := by intro _; rfl) :
    wpAny (model prog w) A (eval (.ListComp elt [⟨.Name x px, iter, [ct], 0⟩] scope pos) env) Q E s := by
  rw [eval_ListComp]
  refine wpAny_comprehension_free (use := none) rfl hs hclos hkind hnames (wpAny_mono h (fun xv s₁ h₁ => ?_) fun _ _ e => e)
  obtain ⟨y, t, news, rfl, hh, F, N, hsz, R⟩ := h₁
  refine str_iter (fun o T W st => ?_) hh
  refine block_T W hsz str_io str_keep hcell hkind hx st (fun b hb => ?_) (F.keeps fun _ _ e => Heap.get?_push_of_some _ e) (N.grown fun _ _ e => Heap.get?_push_of_some _ e) (Nat.ne_of_lt F.ns.lt) (next_is_new F) (fun p hp => Nat.ne_of_lt (Heap.lt_size (N p hp).1)) trivial (R _) ?_
  · rw [List.mem_singleton.mp hb]
    show s₁.heap.objs.size < (s₁.heap.push o).objs.size
    rw [Heap.size_push]; exact Nat.lt_succ_self _
  · intro D C h tk m' ys news' F' N' o1 hn hC₀ hD₀ hCL hDL hCD offC fin
    exact end_E F' N' o1 hn hC₀ hCL hCD offC fin
end
end Mine
namespace Mine
open PySem PySem.W PySem.Calls PyProof.Rows PyProof.V
section
variable {prog : Program} {w : World} {A : Around} {E : Value → Shared → Prop} {s : Shared} {env : Env} {h₀ : Heap} {x : Str} {body : List Stmt} {Q : Flow → Shared → Prop}
theorem unrp_mono {L I : Addr} {it : Obj} {s₁ : Shared} {p q : (Str → Option Value) → List (Addr × Obj) → Prop} (h : ∀ m n, p m n → q m n) {f : Flow} {s₂ : Shared} (x : UnrPost h₀ L s₁ I it p Q f s₂) : UnrPost h₀ L s₁ I it q Q f s₂ := by
  cases f with
  | ret v => exact x
  | brk => exact x
  | next => obtain ⟨h', tk, m', n', e, F, N, o, r⟩ := x; exact ⟨h', tk, m', n', e, F, N, o, h _ _ r⟩
  | cont => obtain ⟨h', tk, m', n', e, F, N, o, r⟩ := x; exact ⟨h', tk, m', n', e, F, N, o, h _ _ r⟩
theorem srest_of {I : Addr} (J : List Str → (Str → Option Value) → List (Addr × Obj) → Prop)
    (turn : ∀ c rem m news, J (c :: rem) m news → ∀ (u : Tok) (it : Obj) h tk, Fr h₀ env.locals h (fun y => if y = x then some (.str c u) else m y) → News h₀ env.locals h ((I, it) :: news) →
      wpAny (model prog w) A (execs body env) (UnrPost h₀ env.locals { s with heap := h, toks := tk } I it (J rem) Q) E { s with heap := h, toks := tk })
    (done : ∀ m news, J [] m news → ∀ h tk, Fr h₀ env.locals h m → News h₀ env.locals h news → Q .next { s with heap := h, toks := tk }) :
    ∀ rem m news, J rem m news → StrRest prog w A E h₀ env x body Q s I rem m news
  | [], m, news, j => StrRest.zero (done m news j)
  | c :: rem, m, news, j => StrRest.succ fun u it h tk F N => wpAny_mono (turn c rem m news j u it h tk F N) (fun f s₂ z => unrp_mono (fun m' n' r => srest_of J turn done rem m' n' r) z) fun _ _ e => e
theorem srest_inv {σ : Type} {I : Addr} (Led : σ → List (Addr × Obj)) (ps : σ → List (Str × Value)) (stored : List Str) (P : List Str → σ → Prop) {m₀ : Str → Option Value} {rs : List Str} {news : List (Addr × Obj)} (c₀ : σ)
    (hn : news = Led c₀) (h1 : ∀ p ∈ ps c₀, m₀ p.1 = some p.2) (hp : P rs c₀)
    (turn : ∀ r rem c (u : Str → Option Value) (t : Tok) (it : Obj) h tk, P (r :: rem) c → Fr h₀ env.locals h (fun y => if y = x then some (.str r t) else kstB (fun z => if stored.contains z then u z else m₀ z) (ps c) y) → News h₀ env.locals h ((I, it) :: Led c) →
      wpAny (model prog w) A (execs body env) (UnrPost h₀ env.locals { s with heap := h, toks := tk } I it (KS Led ps stored m₀ P rem) Q) E { s with heap := h, toks := tk })
    (done : ∀ c (u : Str → Option Value) h tk, P [] c → Fr h₀ env.locals h (kstB (fun z => if stored.contains z then u z else m₀ z) (ps c)) → News h₀ env.locals h (Led c) → Q .next { s with heap := h, toks := tk }) :
    StrRest prog w A E h₀ env x body Q s I rs m₀ news := by
  refine srest_of (KS Led ps stored m₀ P) ?_ ?_ rs m₀ news (ks_start c₀ hn h1 hp)
  · rintro r rem m n ⟨c, u, rfl, rfl, hp⟩ t it h tk F N
    exact turn r rem c u t it h tk hp F N
  · rintro m n ⟨c, u, rfl, rfl, hp⟩ h tk F N
    exact done c u h tk hp F N
theorem kss_end {α σ : Type} {Led : σ → List (Addr × Obj)} {ps : σ → List (Str × Value)} {stored : List Str} {m₀ m' : Str → Option Value} {P : List α → σ → Prop} {rem : List α} {I : Addr} {it : Obj} {L : Addr} {s₁ : Shared} {h' : Heap} {tk : Nat} (c : σ)
    (F : Fr h₀ L h' m') (N : News h₀ L h' ((I, it) :: Led c)) (off : ∀ p ∈ Led c, p.1 ≠ I) (h1 : ∀ p ∈ ps c, m' p.1 = some p.2) (h2 : ∀ z, (∀ p ∈ ps c, z ≠ p.1) → stored.contains z = false → m' z = m₀ z) (hp : P rem c) :
    UnrEnd h₀ L s₁ I it (KS Led ps stored m₀ P rem) { s₁ with heap := h', toks := tk } :=
  ⟨h', tk, m', Led c, rfl, F, N, off, c, m', rfl, ks_eq c h1 h2, hp⟩
end
end Mine
namespace Mine
open PySem PySem.W PySem.Calls PyProof.Rows PyProof.V PyProof.Rows.LCt PyProof.Rows.LCg
section
variable {prog : Program} {w : World} {A : Around} {E : Value → Shared → Prop} {s : Shared} {h₀ : Heap} {L : Addr} {m : Str → Option Value} {env : Env}
theorem restU_inv {elt : Expr} {x : Str} {scope : Scope} {cl : List (Str × Addr)} {S : List (Addr × Obj) → Prop} {P : Nat → Value → Prop} {Fin : List Value → List (Addr × Obj) → Prop} {n : Nat} (J : Nat → List Value → List (Addr × Obj) → Prop)
    (turn : ∀ i v I oI C oC D m₂ ys news h tk (E' : Value → Shared → Prop), i < n → P i v → J i ys news → NsObj oC m₂ → m₂ x = some v → Fr h₀ L h m → News h₀ L h ((I, oI) :: (C, oC) :: (D, lst ys) :: news) → Off3 I C D news → ((@Ne Nat I C) ∧ (@Ne Nat I D) ∧ (@Ne Nat C D)) →
      wpAny (model prog w) A (eval elt (compEnvC scope cl C env)) (CompEnd h₀ L m { s with heap := h, toks := tk } I oI C oC D (lst ys) S (fun y news' => J (i + 1) (ys ++ [y]) news')) E' { s with heap := h, toks := tk })
    (fin : ∀ ys news, J n ys news → Fin ys news) : ∀ k i ys news, i + k = n → J i ys news → CompRest prog w A h₀ L m env elt x scope cl s S P Fin k i ys news
  | 0, i, ys, news, e, j => CompRest.zero (fin ys news (by rw [Nat.add_zero] at e; rw [← e]; exact j))
  | k + 1, i, ys, news, e, j => fun v I oI C oC D m₂ h tk E' hv hC hx F N off ne =>
    wpAny_mono (turn i v I oI C oC D m₂ ys news h tk E' (by omega) hv j hC hx F N off ne) (fun y s₂ z => cend_mono (fun y n q => restU_inv J turn fin k (i + 1) _ _ (by omega) q) z) fun _ _ z => z
theorem restT_inv {ct elt : Expr} {x : Str} {scope : Scope} {cl : List (Str × Addr)} {S : List (Addr × Obj) → Prop} {P : Nat → Value → Prop} {Fin : List Value → List (Addr × Obj) → Prop} {n : Nat} (J : Nat → List Value → List (Addr × Obj) → Prop)
    (turn : ∀ i v I oI C oC D m₂ ys news h tk (E' : Value → Shared → Prop), i < n → P i v → J i ys news → NsObj oC m₂ → m₂ x = some v → Fr h₀ L h m → News h₀ L h ((I, oI) :: (C, oC) :: (D, lst ys) :: news) → Off3 I C D news → ((@Ne Nat I C) ∧ (@Ne Nat I D) ∧ (@Ne Nat C D)) →
      wpAny (model prog w) A (isTrue ct (compEnvC scope cl C env) (eval ct (compEnvC scope cl C env))) (fun ok s' => if ok = true then
        wpAny (model prog w) A (eval elt (compEnvC scope cl C env)) (CompEnd h₀ L m { s with heap := h, toks := tk } I oI C oC D (lst ys) S (fun y news' => J (i + 1) (ys ++ [y]) news')) E' s'
        else CompEnd h₀ L m { s with heap := h, toks := tk } I oI C oC D (lst ys) S (fun _ news' => J (i + 1) ys news') Value.none s') E' { s with heap := h, toks := tk })
    (fin : ∀ ys news, J n ys news → Fin ys news) : ∀ k i ys news, i + k = n → J i ys news → CompRestT prog w A h₀ L m env ct elt x scope cl s S P Fin k i ys news
  | 0, i, ys, news, e, j => CompRestT.zero (fin ys news (by rw [Nat.add_zero] at e; rw [← e]; exact j))
  | k + 1, i, ys, news, e, j => CompRestT.succ fun v I oI C oC D m₂ h tk E' hv hC hx F N off ne => by
    refine wpAny_mono (turn i v I oI C oC D m₂ ys news h tk E' (by omega) hv j hC hx F N off ne) (fun ok s' z => ?_) fun _ _ z => z
    cases ok with
    | true =>
      simp only [if_true] at z ⊢
      exact wpAny_mono z (fun y s₂ z => cend_mono (fun y n q => restT_inv J turn fin k (i + 1) _ _ (by omega) q) z) fun _ _ z => z
    | false =>
      simp only [Bool.false_eq_true, if_false] at z ⊢
      exact cend_mono (fun y n q => restT_inv J turn fin k (i + 1) _ _ (by omega) q) z
/- a loop over a range -/
theorem rrest_of {x : Str} {body : List Stmt} {Q : Flow → Shared → Prop} {I : Addr} {a : Int} {n : Nat} (J : Nat → (Str → Option Value) → List (Addr × Obj) → Prop)
    (turn : ∀ i m news, i < n → J i m news → ∀ (t : Tok) h tk, Fr h₀ env.locals h (fun y => if y = x then some (.int (a + (i : Int)) t) else m y) → News h₀ env.locals h ((I, itR (a + ((i + 1 : Nat) : Int)) ((n : Int) - ((i + 1 : Nat) : Int))) :: news) →
      wpAny (model prog w) A (execs body env) (UnrPost h₀ env.locals { s with heap := h, toks := tk } I (itR (a + ((i + 1 : Nat) : Int)) ((n : Int) - ((i + 1 : Nat) : Int))) (J (i + 1)) Q) E { s with heap := h, toks := tk })
    (done : ∀ m news, J n m news → ∀ h tk, Fr h₀ env.locals h m → News h₀ env.locals h news → Q .next { s with heap := h, toks := tk }) :
    ∀ k i m news, i + k = n → J i m news → RangeRest prog w A E h₀ env x body Q s I a n k i m news
  | 0, i, m, news, e, j => RangeRest.zero (done m news (by rw [Nat.add_zero] at e; rw [← e]; exact j))
  | k + 1, i, m, news, e, j => RangeRest.succ fun t h tk F N => wpAny_mono (turn i m news (by omega) j t h tk F N) (fun f s₂ z => unrp_mono (fun m' n' r => rrest_of J turn done k (i + 1) m' n' (by omega) r) z) fun _ _ e => e
theorem rrest_inv {σ : Type} {x : Str} {body : List Stmt} {Q : Flow → Shared → Prop} {I : Addr} {a : Int} {n : Nat} (Led : σ → List (Addr × Obj)) (ps : σ → List (Str × Value)) (stored : List Str) (P : Nat → σ → Prop) {m₀ : Str → Option Value} {news : List (Addr × Obj)} (c₀ : σ)
    (hn : news = Led c₀) (h1 : ∀ p ∈ ps c₀, m₀ p.1 = some p.2) (hp : P 0 c₀)
    (turn : ∀ i c (u : Str → Option Value) (t : Tok) h tk, i < n → P i c → Fr h₀ env.locals h (fun y => if y = x then some (.int (a + (i : Int)) t) else kstB (fun z => if stored.contains z then u z else m₀ z) (ps c) y) → News h₀ env.locals h ((I, itR (a + ((i + 1 : Nat) : Int)) ((n : Int) - ((i + 1 : Nat) : Int))) :: Led c) →
      wpAny (model prog w) A (execs body env) (UnrPost h₀ env.locals { s with heap := h, toks := tk } I (itR (a + ((i + 1 : Nat) : Int)) ((n : Int) - ((i + 1 : Nat) : Int))) (KS Led ps stored m₀ (fun (_ : List Unit) c => P (i + 1) c) []) Q) E { s with heap := h, toks := tk })
    (done : ∀ c (u : Str → Option Value) h tk, P n c → Fr h₀ env.locals h (kstB (fun z => if stored.contains z then u z else m₀ z) (ps c)) → News h₀ env.locals h (Led c) → Q .next { s with heap := h, toks := tk }) :
    RangeRest prog w A E h₀ env x body Q s I a n n 0 m₀ news := by
  refine rrest_of (fun i => KS Led ps stored m₀ (fun (_ : List Unit) c => P i c) []) ?_ ?_ n 0 m₀ news (by omega) (ks_start c₀ hn h1 hp)
  · rintro i m ns hi ⟨c, u, rfl, rfl, hp⟩ t h tk F N
    exact turn i c u t h tk hi hp F N
  · rintro m ns ⟨c, u, rfl, rfl, hp⟩ h tk F N
    exact done c u h tk hp F N
theorem sign_at {y : Str} {i : Nat} {v : Value} (h : SignAt y i v) : ∃ (n : Nat) (t : Tok) (hi : i < y.cps.toList.length), y.cps.toList[i] = n ∧ v = .str ⟨#[n]⟩ t := by
  obtain ⟨c, u, e, rfl⟩ := h
  obtain ⟨hi, e⟩ := Array.getElem?_eq_some_iff.mp e
  exact ⟨c, u, by rw [Array.length_toList]; exact hi, by rw [Array.getElem_toList]; exact e, rfl⟩
theorem textU_all {elt : Expr} {x : Str} {scope : Scope} {cl : List (Str × Addr)} {Fin : Shared → List Value → List (Addr × Obj) → Prop} {y : Str} {t : Tok} {s₁ : Shared} {news : List (Addr × Obj)} (G : Nat → Prop) (Pl : List Nat → List Value → Prop)
    (hh : A.handled = none) (F : Fr h₀ L s₁.heap m) (N : News h₀ L s₁.heap news) (hsz : y.cps.size ≤ sizeLine) (h0 : Pl [] []) (hg : ∀ n ∈ y.cps.toList, G n)
    (turn : ∀ n pre u I oI C oC D m₂ ys h tk (E' : Value → Shared → Prop), G n → Pl pre ys → NsObj oC m₂ → m₂ x = some (.str ⟨#[n]⟩ u) → Fr h₀ L h m → News h₀ L h ((I, oI) :: (C, oC) :: (D, lst ys) :: news) → Off3 I C D news → ((@Ne Nat I C) ∧ (@Ne Nat I D) ∧ (@Ne Nat C D)) →
      wpAny (model prog w) A (eval elt (compEnvC scope cl C env)) (CompEnd h₀ L m { s₁ with heap := h, toks := tk } I oI C oC D (lst ys) (fun _ => True) (fun v ns => ns = news ∧ Pl (pre ++ [n]) (ys ++ [v]))) E' { s₁ with heap := h, toks := tk })
    (fin : ∀ (g : Heap) ys, Pl y.cps.toList ys → Fin { s₁ with heap := g } ys news) : TextU prog w A h₀ L m env elt x scope cl Fin (.str y t) s₁ := by
  refine ⟨y, t, news, rfl, hh, F, N, hsz, fun g => ?_⟩
  refine restU_inv (n := y.cps.size) (fun i ys ns => ns = news ∧ Pl (y.cps.toList.take i) ys) ?_ ?_ y.cps.size 0 [] news (by omega) ⟨rfl, h0⟩
  · rintro i v I oI C oC D m₂ ys ns h tk E' hi hv ⟨rfl, hp⟩ hC hx F N off ne
    obtain ⟨n, u, hl, e, rfl⟩ := sign_at hv
    refine wpAny_mono (turn n _ u I oI C oC D m₂ ys h tk E' (hg n (by rw [← e]; exact List.getElem_mem hl)) hp hC hx F N off ne) (fun y s₂ z => cend_mono (fun y ns q => ⟨q.1, ?_⟩) z) fun _ _ z => z
    rw [← List.take_append_getElem hl, e]
    exact q.2
  · rintro ys ns ⟨rfl, hp⟩
    refine fin g ys ?_
    rw [List.take_of_length_le (by rw [Array.length_toList]; exact Nat.le_refl _)] at hp
    exact hp
theorem textT_all {ct elt : Expr} {x : Str} {scope : Scope} {cl : List (Str × Addr)} {Fin : Shared → List Value → List (Addr × Obj) → Prop} {y : Str} {t : Tok} {s₁ : Shared} {news : List (Addr × Obj)} (G : Nat → Prop) (Pl : List Nat → List Value → List (Addr × Obj) → Prop)
    (hh : A.handled = none) (F : Fr h₀ L s₁.heap m) (N : News h₀ L s₁.heap news) (hsz : y.cps.size ≤ sizeLine) (h0 : Pl [] [] news) (hg : ∀ n ∈ y.cps.toList, G n)
    (turn : ∀ n pre u I oI C oC D m₂ ys ns h tk (E' : Value → Shared → Prop), G n → Pl pre ys ns → NsObj oC m₂ → m₂ x = some (.str ⟨#[n]⟩ u) → Fr h₀ L h m → News h₀ L h ((I, oI) :: (C, oC) :: (D, lst ys) :: ns) → Off3 I C D ns → ((@Ne Nat I C) ∧ (@Ne Nat I D) ∧ (@Ne Nat C D)) →
      wpAny (model prog w) A (isTrue ct (compEnvC scope cl C env) (eval ct (compEnvC scope cl C env))) (fun ok s' => if ok = true then
        wpAny (model prog w) A (eval elt (compEnvC scope cl C env)) (CompEnd h₀ L m { s₁ with heap := h, toks := tk } I oI C oC D (lst ys) (fun _ => True) (fun v ns' => Pl (pre ++ [n]) (ys ++ [v]) ns')) E' s'
        else CompEnd h₀ L m { s₁ with heap := h, toks := tk } I oI C oC D (lst ys) (fun _ => True) (fun _ ns' => Pl (pre ++ [n]) ys ns') Value.none s') E' { s₁ with heap := h, toks := tk })
    (fin : ∀ (g : Heap) ys ns, Pl y.cps.toList ys ns → Fin { s₁ with heap := g } ys ns) : TextT prog w A h₀ L m env ct elt x scope cl Fin (.str y t) s₁ := by
  refine ⟨y, t, news, rfl, hh, F, N, hsz, fun g => ?_⟩
  refine restT_inv (n := y.cps.size) (fun i ys ns => Pl (y.cps.toList.take i) ys ns) ?_ ?_ y.cps.size 0 [] news (by omega) h0
  · rintro i v I oI C oC D m₂ ys ns h tk E' hi hv hp hC hx F N off ne
    obtain ⟨n, u, hl, e, rfl⟩ := sign_at hv
    have e2 : y.cps.toList.take (i + 1) = y.cps.toList.take i ++ [n] := by rw [← List.take_append_getElem hl, e]
    have z := turn n _ u I oI C oC D m₂ ys ns h tk E' (hg n (by rw [← e]; exact List.getElem_mem hl)) hp hC hx F N off ne
    rw [← e2] at z
    exact z
  · intro ys ns hp
    refine fin g ys ns ?_
    rw [List.take_of_length_le (by rw [Array.length_toList]; exact Nat.le_refl _)] at hp
    exact hp
theorem ints_snoc {v : Int} {t : Tok} : ∀ {vs : List Value} {ns : List Int}, IntsAre vs ns → IntsAre (vs ++ [.int v t]) (ns ++ [v])
  | _, _, .nil => .cons v t .nil
  | _, _, .cons z u r => .cons z u (ints_snoc r)
theorem listU_all {α : Type} (f : α → Value) (rs : List α) {elt : Expr} {x : Str} {scope : Scope} {cl : List (Str × Addr)} {Fin : Shared → List Value → List (Addr × Obj) → Prop} {ax : Addr} {k : Nat} {s₁ : Shared} {news : List (Addr × Obj)} (G : α → Prop) (Pl : List α → List Value → List (Addr × Obj) → Prop)
    (hh : A.handled = none) (F : Fr h₀ L s₁.heap m) (N : News h₀ L s₁.heap news) (hm : (ax, ({ cls := .type "list", data := .seq (rs.map f).toArray k } : Obj)) ∈ news) (hsz : rs.length ≤ sizeLine) (h0 : Pl [] [] news) (hg : ∀ n ∈ rs, G n)
    (turn : ∀ n pre I oI C oC D m₂ ys ns h tk (E' : Value → Shared → Prop), G n → Pl pre ys ns → NsObj oC m₂ → m₂ x = some (f n) → Fr h₀ L h m → News h₀ L h ((I, oI) :: (C, oC) :: (D, lst ys) :: ns) → Off3 I C D ns → ((@Ne Nat I C) ∧ (@Ne Nat I D) ∧ (@Ne Nat C D)) →
      wpAny (model prog w) A (eval elt (compEnvC scope cl C env)) (CompEnd h₀ L m { s₁ with heap := h, toks := tk } I oI C oC D (lst ys) (SrcAt h₀ ax (rs.map f).toArray) (fun v ns' => Pl (pre ++ [n]) (ys ++ [v]) ns')) E' { s₁ with heap := h, toks := tk })
    (fin : ∀ (g : Heap) ys ns, Pl rs ys ns → Fin { s₁ with heap := g } ys ns) : CompSrc prog w A h₀ L m env elt x scope cl Fin (.ref ax) s₁ := by
  refine CompSrc.ledger hh F N hm (by rw [List.size_toArray, List.length_map]; exact hsz) fun g => ?_
  rw [List.size_toArray, List.length_map]
  refine restU_inv (n := rs.length) (fun i ys ns => Pl (rs.take i) ys ns) ?_ ?_ rs.length 0 [] news (by omega) h0
  · rintro i v I oI C oC D m₂ ys ns h tk E' hi hv hp hC hx F N off ne
    have e : v = f rs[i] := by
      rw [List.getElem?_toArray, List.getElem?_map, List.getElem?_eq_getElem hi] at hv
      exact (Option.some.inj hv).symm
    subst e
    have z := turn rs[i] _ I oI C oC D m₂ ys ns h tk E' (hg _ (List.getElem_mem hi)) hp hC hx F N off ne
    rw [List.take_append_getElem hi] at z
    exact z
  · intro ys ns hp
    refine fin g ys ns ?_
    rw [List.take_length] at hp
    exact hp
theorem rangeT_all (n : Nat) {ct elt : Expr} {x : Str} {scope : Scope} {cl : List (Str × Addr)} {Fin : Shared → List Value → List (Addr × Obj) → Prop} {r : Addr} {a b : Int} {t u v : Tok} {s₁ : Shared} {news : List (Addr × Obj)} (Pl : Nat → List Value → List (Addr × Obj) → Prop)
    (hr : IsRange s₁.heap r a b 1 t u v) (hh : A.handled = none) (F : Fr h₀ L s₁.heap m) (N : News h₀ L s₁.heap news) (hsm : Builtin.Range.small a b 1 = true) (hn : Builtin.Range.rangeSize a b 1 = ((n : Nat) : Int)) (hsz : n ≤ sizeLine) (h0 : Pl 0 [] news)
    (turn : ∀ i k I oI C oC D m₂ ys ns h tk (E' : Value → Shared → Prop), i < n → Pl i ys ns → NsObj oC m₂ → m₂ x = some (.int (a + (i : Int)) k) → Fr h₀ L h m → News h₀ L h ((I, oI) :: (C, oC) :: (D, lst ys) :: ns) → Off3 I C D ns → ((@Ne Nat I C) ∧ (@Ne Nat I D) ∧ (@Ne Nat C D)) →
      wpAny (model prog w) A (isTrue ct (compEnvC scope cl C env) (eval ct (compEnvC scope cl C env))) (fun ok s' => if ok = true then
        wpAny (model prog w) A (eval elt (compEnvC scope cl C env)) (CompEnd h₀ L m { s₁ with heap := h, toks := tk } I oI C oC D (lst ys) (fun _ => True) (fun v ns' => Pl (i + 1) (ys ++ [v]) ns')) E' s'
        else CompEnd h₀ L m { s₁ with heap := h, toks := tk } I oI C oC D (lst ys) (fun _ => True) (fun _ ns' => Pl (i + 1) ys ns') Value.none s') E' { s₁ with heap := h, toks := tk })
    (fin : ∀ (g : Heap) ys ns, Pl n ys ns → Fin { s₁ with heap := g } ys ns) : CompSrcT prog w A h₀ L m env ct elt x scope cl Fin (.ref r) s₁ := by
  refine CompSrcT.range hh F N hr hsm hn hsz fun g => ?_
  refine restT_inv (n := n) (fun i ys ns => Pl i ys ns) ?_ (fun ys ns hp => fin g ys ns hp) n 0 [] news (by omega) h0
  rintro i v I oI C oC D m₂ ys ns h tk E' hi ⟨k, rfl⟩ hp hC hx F N off ne
  exact turn i k I oI C oC D m₂ ys ns h tk E' hi hp hC hx F N off ne
theorem rangeU_all (n : Nat) {elt : Expr} {x : Str} {scope : Scope} {cl : List (Str × Addr)} {Fin : Shared → List Value → List (Addr × Obj) → Prop} {r : Addr} {a b : Int} {t u v : Tok} {s₁ : Shared} {news : List (Addr × Obj)} (Pl : Nat → List Value → List (Addr × Obj) → Prop)
    (hr : IsRange s₁.heap r a b 1 t u v) (hh : A.handled = none) (F : Fr h₀ L s₁.heap m) (N : News h₀ L s₁.heap news) (hsm : Builtin.Range.small a b 1 = true) (hn : Builtin.Range.rangeSize a b 1 = ((n : Nat) : Int)) (hsz : n ≤ sizeLine) (h0 : Pl 0 [] news)
    (turn : ∀ i k I oI C oC D m₂ ys ns h tk (E' : Value → Shared → Prop), i < n → Pl i ys ns → NsObj oC m₂ → m₂ x = some (.int (a + (i : Int)) k) → Fr h₀ L h m → News h₀ L h ((I, oI) :: (C, oC) :: (D, lst ys) :: ns) → Off3 I C D ns → ((@Ne Nat I C) ∧ (@Ne Nat I D) ∧ (@Ne Nat C D)) →
      wpAny (model prog w) A (eval elt (compEnvC scope cl C env)) (CompEnd h₀ L m { s₁ with heap := h, toks := tk } I oI C oC D (lst ys) (fun _ => True) (fun v ns' => Pl (i + 1) (ys ++ [v]) ns')) E' { s₁ with heap := h, toks := tk })
    (fin : ∀ (g : Heap) ys ns, Pl n ys ns → Fin { s₁ with heap := g } ys ns) : CompSrc prog w A h₀ L m env elt x scope cl Fin (.ref r) s₁ := by
  refine CompSrc.range hh F N hr hsm hn hsz fun g => ?_
  refine restU_inv (n := n) (fun i ys ns => Pl i ys ns) ?_ (fun ys ns hp => fin g ys ns hp) n 0 [] news (by omega) h0
  rintro i v I oI C oC D m₂ ys ns h tk E' hi ⟨k, rfl⟩ hp hC hx F N off ne
  exact turn i k I oI C oC D m₂ ys ns h tk E' hi hp hC hx F N off ne
end
theorem ints_at {vs : List Value} {ns : List Int} (h : IntsAre vs ns) : ∀ {i : Nat}, i < ns.length → ∃ t, vs[i]? = some (.int (ns.getD i 0) t) := by
  induction h with
  | nil => intro i hi; cases hi
  | cons a t r ih =>
    intro i hi
    cases i with
    | zero => exact ⟨t, rfl⟩
    | succ i => exact ih (Nat.lt_of_succ_lt_succ hi)
theorem ints_item {w : World} {A : Around} {E : Value → Shared → Prop} {s : Shared} {Q : Value → Shared → Prop} {value slice : PySem.Expr} {h₀ : Heap} {L l : Addr} {vs : List Value} {ns : List Int} {k : Int} {u : Tok} {n : Nat} {news : List (Addr × Obj)} (N : News h₀ L s.heap news) (hm : (l, ({ cls := .type "list", data := .seq vs.toArray n } : Obj)) ∈ news) (hi : IntsAre vs ns)
    (h0 : 0 ≤ k) (h1 : k < ns.length) (hz : k < 2 ^ 63) (h : ∀ t, Q (.int (ns.getD k.toNat 0) t) s)
    (hs : subscripted slice false (.ref l) (.int k u) = operate [.ref l, .int k u] (getItem (.ref l) (.int k u)) := by with_unfolding_all rfl) :
    wpAny (model prog w) A (subscriptTail value slice (.ref l) (.int k u)) Q E s := by
  have hl : s.heap.IsList l vs.toArray := ⟨_, (N _ hm).1, rfl, n, rfl⟩
  obtain ⟨t, ht⟩ := ints_at hi (i := k.toNat) (by omega)
  exact tail_any hl.typeIs slot_list_getitem.lookup (wpAny_getItem_list hl h0 hz (by simpa using ht) (h t)) hs
noncomputable def Hold (p : Prop) : Prop := p
theorem hold {p : Prop} (h : Hold p) : p := h
theorem unhold {p : Prop} (h : p) : Hold p := h
end Mine
namespace Mine
open PySem PySem.W PySem.Calls PyProof.Rows PyProof.V PyProof.Rows.LCt PyProof.Rows.LCg
theorem quiet_l (w : World) {n : Nat} (h : isL7 n) : Quiet w 140 ⟨#[n]⟩ := by
  unfold Quiet
  rcases h with rfl | rfl | rfl | rfl | rfl | rfl | rfl <;> (intro t; kernel_rfl)
theorem quiet_seen (w : World) : Quiet w 145 (Str.ofString "seen") := by unfold Quiet; intro t; kernel_rfl
theorem quiet_put (w : World) : Quiet w 145 (Str.ofString "put in") := by unfold Quiet; intro t; kernel_rfl
theorem low_l {n : Nat} (h : isL7 n) : Txt.lower ⟨#[n]⟩ = ⟨#[n]⟩ := by
  rcases h with rfl | rfl | rfl | rfl | rfl | rfl | rfl <;> decide +kernel
theorem lowup_l {n : Nat} (h : isL7 n) : Txt.lower (Txt.upper ⟨#[n]⟩) = ⟨#[n]⟩ := by
  rcases h with rfl | rfl | rfl | rfl | rfl | rfl | rfl <;> decide +kernel
theorem up_len {n : Nat} (h : isL7 n) : (Txt.upper ⟨#[n]⟩).length = 1 := by
  rcases h with rfl | rfl | rfl | rfl | rfl | rfl | rfl <;> decide +kernel
end Mine
namespace Mine
open PySem PySem.W PySem.Calls PyProof.Rows PyProof.V PyProof.Rows.LCt PyProof.Rows.LCg
theorem regMend (w : World) (h : Heap) (X : (K w.params).In h) : PySem.Challenge.rw_wf0109_01.row.prog = PySem.Challenge.rw_wf0109_01.row.prog → (K w.params).In h := by
  k_fill
  exact fun _ => X
structure MSt where
  rs : List RowT
  n : Nat
  oL : Obj
  oP : Obj
  Dl : Addr
  vs : List Value
  k : Nat
noncomputable def prI (n : Nat) : Int × Int × Int := (Flt.toInt Float64.nearestOf (Float64.mul (Float64.ofInt 4) (paintF n).1), Flt.toInt Float64.nearestOf (Float64.mul (Float64.ofInt 4) (paintF n).2.1), Flt.toInt Float64.nearestOf (Float64.mul (Float64.ofInt 4) (paintF n).2.2))
noncomputable def stepL (a : List Int) (n : Nat) : List Int := [Int.fmod (a.getD 0 0 + (prI n).1) 2, Int.fmod (a.getD 1 0 + (prI n).2.1) 2, Int.fmod (a.getD 2 0 + (prI n).2.2) 2]
noncomputable def lightsF (pre : List Nat) : List Int := pre.foldl stepL [0, 0, 0]
noncomputable abbrev sg1 (n : Nat) : Str := ⟨#[n]⟩
noncomputable def MInv (y : Str) (l I : Addr) (rem : List Str) (c : MSt) : Prop := ∃ pre : List Nat, y.cps.toList.map sg1 = pre.map sg1 ++ rem ∧ c.rs.map (·.k) = pre.map sg1 ∧ (∀ r ∈ c.rs, r.v = Str.ofString "seen") ∧ IntsAre c.vs (lightsF pre) ∧
  c.oL.data = .cell (some (.ref c.Dl)) ∧ (∃ v, c.oP.data = .cell v) ∧ (∀ q ∈ rowLed c.rs, q.1 ≠ l) ∧ c.Dl ≠ l ∧ (∀ q ∈ rowLed c.rs, q.1 ≠ I)
local macro_rules | `(tactic| walk_at "call ref") => `(tactic| (k_here; (with_reducible show wpAny _ _ (call (Value.ref 276) _) _ _ _); k_dflt (refine' ct_use (c_new _ _ _ _) ?k1 ?k2 ?k3 ?k4 ?k5 ?kK ?kd ?ku ?_; (case k4 => k_asm); (case k1 => k_asm); (case k2 => k_asm); (case k3 => k_asm); (case k5 => k_asm); (case kK => first | exact rfl | assumption); (case kd => ktr_room); (case ku => (dsimp only [ktrTop]; omega)); k_whole); intro v9 xs9 h' tk' hR9 F' N'; obtain ⟨x9, dx9, tn9, e1, hdl9, hxl9, e2⟩ := hR9; subst e1; subst e2; (try dsimp only [List.cons_append, List.nil_append] at N')))
local macro_rules | `(tactic| walk_at "storeName") => `(tactic| (k_here; (with_reducible show wpAny _ _ (storeName _ (Str.ofString "lights") _) _ _ _); refine hold ?_))
local macro_rules | `(tactic| walk_at "storeName") => `(tactic| (k_here; (with_reducible show wpAny _ _ (storeName _ (Str.ofString "paint") _) _ _ _); refine hold ?_))
local macro_rules | `(tactic| walk_at "call ref") => `(tactic| (k_here; (with_reducible show wpAny _ _ (call (Value.ref 294) _) _ _ _); refine hold ?_))
local macro_rules | `(tactic| walk_at "exec For Name Name cons nil") => `(tactic| (k_here; (rename Fr _ _ _ _ => lF'); (with_unfolding_all refine' For_invVF lF' ?k1 ?k2 ?_; (case k1 => exact rfl); (case k2 => exact rfl); k_whole)))
local macro_rules | `(tactic| walk_at "call builtin:str.upper") => `(tactic| (k_here; (refine SCL.upper (by first | exact Nat.le_of_ble_eq_true rfl | assumption) ?_); intro _))
local macro_rules | `(tactic| walk_at "eval ListComp") => `(tactic| (k_here; (with_reducible show wpAny _ _ (eval (Expr.ListComp _ [⟨_, _, [], _⟩] _ _) _) _ _ _); k_dflt (refine LCg.ListComp_U (F₀ := by k_asm) (by with_unfolding_all rfl) (by decide) (by rfl) (by decide) (by rfl) ?_)))
local macro_rules | `(tactic| walk_at "CompSrc") => `(tactic| (k_here; refine hold ?_))
local macro_rules | `(tactic| walk_at "ks_h2") => `(tactic| (intro z hz1 hz2; (try dsimp only); (repeat (first | with_reducible rfl | (refine Eq.trans (if_neg ?k) ?_; (case k => first | (intro e; subst e; first | exact absurd hz2 (by decide) | exact hz1 _ (List.Mem.head _) rfl | exact hz1 _ (List.Mem.tail _ (List.Mem.head _)) rfl) | (rw [hz2]; exact Bool.false_ne_true) | (intro e; (have e' := List.mem_singleton.mp (List.contains_iff_mem.mp e)); subst e'; exact absurd hz2 (by decide))))))))
local macro_rules | `(tactic| walk_at "UnrEnd") => `(tactic| (k_here; refine hold ?_))
theorem foldl_len (a : List Int) (ha : a.length = 3) : ∀ pre : List Nat, (pre.foldl stepL a).length = 3
  | [] => ha
  | n :: r => foldl_len (stepL a n) rfl r
theorem lights_lt (pre : List Nat) {k : Int} (h : k < 3) : k < ((lightsF pre).length : Int) := by rw [lightsF, foldl_len _ rfl]; exact h
local macro_rules | `(tactic| walk_at "subscriptTail") => `(tactic| (k_here; (with_reducible show wpAny _ _ (subscriptTail (Expr.Name (Str.ofString "lights") _) _ (Value.ref _) (Value.int _ _)) _ _ _); refine hold ?_))
local macro_rules | `(tactic| walk_at "pyIter str") => `(tactic| (k_here; refine hold ?_))
local macro_rules | `(tactic| walk_at "call ref") => `(tactic| (k_here; (with_reducible show wpAny _ _ (call (Value.ref 266) _) _ _ _); refine hold ?_))
theorem cell_ne {h₀ h : Heap} {L a : Addr} {o : Obj} {v : Option Value} {news : List (Addr × Obj)} (N : News h₀ L h news) (hc : (a, o) ∈ news) (hd : o.data = .cell v) {p : Addr × Obj} (hp : p ∈ news) (hk : ∀ v, p.2.data ≠ .cell v) : p.1 ≠ a := fun e => by
  have h1 := (N _ hp).1
  have h2 := (N _ hc).1
  dsimp only at h2
  rw [e, h2] at h1
  cases h1
  exact hk v hd
theorem mem_swap {α : Type} {p : α} (K T R N : List α) : p ∈ K ++ (T ++ (R ++ N)) ↔ p ∈ T ++ (R ++ (K ++ N)) := by
  simp only [List.mem_append]
  constructor
  · rintro (h | h | h | h)
    · exact .inr (.inr (.inl h))
    · exact .inl h
    · exact .inr (.inl h)
    · exact .inr (.inr (.inr h))
  · rintro (h | h | h | h)
    · exact .inr (.inl h)
    · exact .inr (.inr (.inl h))
    · exact .inl h
    · exact .inr (.inr (.inr h))
theorem ht_in {w : World} {h₀ h : Heap} {L x dx l : Addr} {t : Tok} {c : Nat} {rs : List RowT} {news : List (Addr × Obj)} (K : List (Addr × Obj)) (N : News h₀ L h (K ++ HT w x dx l t c rs news)) : News h₀ L h (HT w x dx l t c rs (K ++ news)) :=
  fun p hp => N p ((mem_swap K [(x, instObj 276 dx), (dx, insD w t l), (l, listOf (rowVals rs).toArray c)] (rowLed rs) news).mpr hp)
theorem ht_out {w : World} {h₀ h : Heap} {L x dx l : Addr} {t : Tok} {c : Nat} {rs : List RowT} {news : List (Addr × Obj)} (K : List (Addr × Obj)) (N : News h₀ L h (HT w x dx l t c rs (K ++ news))) : News h₀ L h (K ++ HT w x dx l t c rs news) :=
  fun p hp => N p ((mem_swap K [(x, instObj 276 dx), (dx, insD w t l), (l, listOf (rowVals rs).toArray c)] (rowLed rs) news).mp hp)
noncomputable def isSet7 (y : Str) : Prop := y.cps.size ≤ 7 ∧ (∀ n ∈ y.cps.toList, isL7 n) ∧ y.cps.toList.Nodup
theorem start_led {w : World} {h₀ h : Heap} {L Dl x dx la : Addr} {tn a b c : Tok} {p q : Addr × Obj} {news : List (Addr × Obj)}
    (N : News h₀ L h ((Dl, W.listOf [.int 0 a, .int 0 b, .int 0 c].toArray 0) :: (x, instObj 276 dx) :: (dx, insD w tn la) :: (la, W.listOf #[] 0) :: p :: q :: news)) :
    ∃ vs, IntsAre vs [0, 0, 0] ∧ News h₀ L h (q :: p :: (Dl, W.listOf vs.toArray 0) :: HT w x dx la tn 0 [] news) := by
  refine ⟨_, .cons 0 a (.cons 0 b (.cons 0 c .nil)), fun r hr => N r ?_⟩
  simp only [List.mem_cons, List.map_nil, List.nil_append] at hr ⊢
  rcases hr with h | h | h | h | h | h | h
  · exact .inr (.inr (.inr (.inr (.inr (.inl h)))))
  · exact .inr (.inr (.inr (.inr (.inl h))))
  · exact .inl h
  · exact .inr (.inl h)
  · exact .inr (.inr (.inl h))
  · exact .inr (.inr (.inr (.inl h)))
  · exact .inr (.inr (.inr (.inr (.inr (.inr h)))))
theorem sg1_inj {a b : Nat} (h : sg1 a = sg1 b) : a = b := by
  have := congrArg (fun x : Str => x.cps.toList) h
  simpa using this
theorem turn_letter {y : Str} (hy : isSet7 y) {pre : List Nat} {r : Str} {rem : List Str} (e : y.cps.toList.map sg1 = pre.map sg1 ++ r :: rem) : ∃ n, r = sg1 n ∧ isL7 n ∧ n ∉ pre ∧ pre.length < 7 ∧ ∀ m ∈ pre, isL7 m := by
  obtain ⟨l1, l2, e1, e2, e3⟩ := List.map_eq_append_iff.mp e
  obtain ⟨n, l3, e4, e5, e6⟩ := List.map_eq_cons_iff.mp e3
  have e7 : l1 = pre := by
    exact (List.map_inj_right fun a b h => sg1_inj h).mp e2
  subst e7
  subst e4
  obtain ⟨h1, h2, h3⟩ := hy
  rw [e1] at h2 h3
  refine ⟨n, e5.symm, h2 n (by simp), fun hm => ?_, ?_, fun m hm => h2 m (by simp [hm])⟩
  · exact (List.nodup_append.mp h3).2.2 n hm n (List.mem_cons_self) rfl
  · have : y.cps.toList.length ≤ 7 := by rw [Array.length_toList]; exact h1
    rw [e1, List.length_append, List.length_cons] at this
    omega
theorem rows_len {rs : List RowT} {pre : List Nat} (h : rs.map (·.k) = pre.map sg1) : rs.length = pre.length := by
  have := congrArg List.length h
  simpa using this
theorem rows_key {rs : List RowT} {pre : List Nat} (h : rs.map (·.k) = pre.map sg1) {q : RowT} (hq : q ∈ rs) : ∃ m ∈ pre, q.k = sg1 m := by
  have : q.k ∈ pre.map sg1 := by rw [← h]; exact List.mem_map.mpr ⟨q, hq, rfl⟩
  obtain ⟨m, hm, e⟩ := List.mem_map.mp this
  exact ⟨m, hm, e.symm⟩
theorem len1 (n : Nat) : (sg1 n).length ≤ 5592405 := show 1 ≤ 5592405 by decide
theorem rows_fit {rs : List RowT} {pre : List Nat} (h : rs.map (·.k) = pre.map sg1) : ∀ q ∈ rs, q.k.length ≤ 5592405 := fun q hq => by
  obtain ⟨m, _, e⟩ := rows_key h hq
  rw [e]; exact len1 m
theorem rows_no {rs : List RowT} {pre : List Nat} {n : Nat} (h : rs.map (·.k) = pre.map sg1) (h7 : ∀ m ∈ pre, isL7 m) (hn : isL7 n) (hp : n ∉ pre) : getV (Txt.lower (sg1 n)) rs = .none := by
  refine getV_none fun q hq e => ?_
  obtain ⟨m, hm, ek⟩ := rows_key h hq
  rw [ek, low_l (h7 m hm), low_l hn] at e
  exact hp (sg1_inj e ▸ hm)
theorem getV_snoc {y : Str} {r : RowT} (hr : Txt.lower r.k = y) : ∀ {rs : List RowT}, (∀ q ∈ rs, Txt.lower q.k ≠ y) → getV y (rs ++ [r]) = .str r.v r.u
  | [], _ => by show (if _ then _ else _) = _; rw [if_pos hr]
  | p :: rs, g => by
    show (if _ then _ else _) = _
    rw [if_neg (g p (.head _))]
    exact getV_snoc hr fun q hq => g q (.tail _ hq)
theorem rows_hit {rs : List RowT} {pre : List Nat} {n : Nat} {T : Addr} {t1 t2 : Tok} {v : Str} (h : rs.map (·.k) = pre.map sg1) (h7 : ∀ m ∈ pre, isL7 m) (hn : isL7 n) (hp : n ∉ pre) : getV (Txt.lower (Txt.upper (sg1 n))) (rs ++ [⟨T, sg1 n, t1, v, t2⟩]) = .str v t2 := by
  rw [lowup_l hn]
  refine getV_snoc (low_l hn) fun q hq e => ?_
  obtain ⟨m, hm, ek⟩ := rows_key h hq
  rw [ek, low_l (h7 m hm)] at e
  exact hp (sg1_inj e ▸ hm)
theorem rows_snoc {rs : List RowT} {pre : List Nat} {n : Nat} {T : Addr} {t1 t2 : Tok} {v : Str} (h : rs.map (·.k) = pre.map sg1) : (rs ++ [(⟨T, sg1 n, t1, v, t2⟩ : RowT)]).map (fun r => r.k) = (pre ++ [n]).map sg1 := by
  rw [List.map_append, List.map_append, h]; rfl
theorem ndrop {h₀ h : Heap} {L : Addr} {b : Addr × Obj} {r : List (Addr × Obj)} (N : News h₀ L h (b :: r)) : News h₀ L h r := fun q hq => N q (.tail _ hq)
theorem ht_off {w : World} {h₀ h : Heap} {L a0 x dx l Dl : Addr} {t : Tok} {c k : Nat} {rs : List RowT} {vs : Array Value} {news all : List (Addr × Obj)} {o : Obj} {v : Option Value} (N : News h₀ L h all) (hc : (a0, o) ∈ all) (hd : o.data = .cell v) (hs : ∀ p ∈ (Dl, W.listOf vs k) :: HT w x dx l t c rs news, p ∈ all)
    (hn : ∀ p ∈ news, p.1 ≠ a0) : ∀ p ∈ (Dl, W.listOf vs k) :: HT w x dx l t c rs news, p.1 ≠ a0 := by
  intro p hp
  have key : (∀ v, p.2.data ≠ .cell v) → p.1 ≠ a0 := fun hk => cell_ne N hc hd (hs p hp) hk
  rcases List.mem_cons.mp hp with rfl | hp
  · exact key (by intro v e; cases e)
  rcases List.mem_cons.mp hp with rfl | hp
  · exact key (by intro v e; cases e)
  rcases List.mem_cons.mp hp with rfl | hp
  · exact key (by intro v e; cases e)
  rcases List.mem_cons.mp hp with rfl | hp
  · exact key (by intro v e; cases e)
  rcases List.mem_append.mp hp with hp | hp
  · obtain ⟨r, _, rfl⟩ := List.mem_map.mp hp
    exact key (by intro v e; cases e)
  · exact hn p hp
theorem up_fit {n : Nat} (h : isL7 n) : (Txt.upper (sg1 n)).length ≤ 5592405 := by rw [up_len h]; decide
theorem ints_eq {vs : List Value} {a b : List Int} (h : IntsAre vs a) (e : b = a) : IntsAre vs b := e ▸ h
theorem st0 (a : List Int) (n : Nat) : (stepL a n).take 1 = (stepL a n).take 0 ++ [(a.getD (Int.toNat 0) 0 + Flt.toInt Float64.nearestOf (Float64.mul (Float64.ofInt 4) (paintF n).fst)).fmod 2] := rfl
theorem st1 (a : List Int) (n : Nat) : (stepL a n).take 2 = (stepL a n).take 1 ++ [(a.getD (Int.toNat 1) 0 + Flt.toInt Float64.nearestOf (Float64.mul (Float64.ofInt 4) (paintF n).snd.fst)).fmod 2] := rfl
theorem st2 (a : List Int) (n : Nat) : (stepL a n).take 3 = (stepL a n).take 2 ++ [(a.getD (Int.toNat 2) 0 + Flt.toInt Float64.nearestOf (Float64.mul (Float64.ofInt 4) (paintF n).snd.snd)).fmod 2] := rfl
theorem paint_bad {n : Nat} (h : isL7 n) : (Float64.isNaN (Float64.mul (Float64.ofInt 4) (paintF n).1) = false ∧ Float64.isNaN (Float64.mul (Float64.ofInt 4) (paintF n).2.1) = false ∧ Float64.isNaN (Float64.mul (Float64.ofInt 4) (paintF n).2.2) = false) ∧ (Float64.isInf (Float64.mul (Float64.ofInt 4) (paintF n).1) = false ∧ Float64.isInf (Float64.mul (Float64.ofInt 4) (paintF n).2.1) = false ∧ Float64.isInf (Float64.mul (Float64.ofInt 4) (paintF n).2.2) = false) := by
  rcases h with rfl | rfl | rfl | rfl | rfl | rfl | rfl <;> decide +kernel
theorem rows_off' {rs : List RowT} {I : Addr} {r : RowT} (h : ∀ q ∈ rowLed rs, q.1 ≠ I) (hr : r.a ≠ I) : ∀ q ∈ rowLed (rs ++ [r]), q.1 ≠ I := by
  intro q hq
  unfold rowLed at hq
  rw [List.map_append] at hq
  rcases List.mem_append.mp hq with hq | hq
  · exact h q hq
  · rw [List.mem_singleton.mp hq]; exact hr
theorem rows_off {rs : List RowT} {I : Addr} {r : RowT} {news : List (Addr × Obj)} (h : ∀ q ∈ rowLed rs, q.1 ≠ I) (hr : r.a ≠ I) (hn : ∀ q ∈ news, q.1 ≠ I) : ∀ q ∈ rowLed (rs ++ [r]) ++ news, q.1 ≠ I := by
  intro q hq
  rcases List.mem_append.mp hq with hq | hq
  · exact rows_off' h hr q hq
  · exact hn q hq
theorem rows_seen {rs : List RowT} {T : Addr} {k : Str} {t1 t2 : Tok} (h : ∀ r ∈ rs, r.v = Str.ofString "seen") : ∀ r ∈ rs ++ [(⟨T, k, t1, Str.ofString "seen", t2⟩ : RowT)], r.v = Str.ofString "seen" := by
  intro r hr
  rcases List.mem_append.mp hr with hr | hr
  · exact h r hr
  · rw [List.mem_singleton.mp hr]
theorem pick_led {α : Type} {p d e i l q z : α} {r : List α} (h : p ∈ i :: l :: q :: d :: r) : p ∈ d :: e :: i :: l :: q :: z :: r := by
  simp only [List.mem_cons] at h ⊢
  rcases h with h | h | h | h | h
  · exact .inr (.inr (.inl h))
  · exact .inr (.inr (.inr (.inl h)))
  · exact .inr (.inr (.inr (.inr (.inl h))))
  · exact .inl h
  · exact .inr (.inr (.inr (.inr (.inr (.inr h)))))
theorem fm2 (x : Int) : Int.fmod x 2 = 0 ∨ Int.fmod x 2 = 1 := by
  have h1 := Int.fmod_eq_emod_of_nonneg x (show (0:Int) ≤ 2 by decide)
  have h2 := Int.emod_nonneg x (show (2:Int) ≠ 0 by decide)
  have h3 := Int.emod_lt_of_pos x (show (0:Int) < 2 by decide)
  omega
theorem step_bit (a : List Int) (n i : Nat) : (stepL a n).getD i 0 = 0 ∨ (stepL a n).getD i 0 = 1 := by
  match i with
  | 0 => exact fm2 _
  | 1 => exact fm2 _
  | 2 => exact fm2 _
  | i + 3 => exact .inl rfl
theorem fold_bit : ∀ (pre : List Nat) (a : List Int), (∀ i, a.getD i 0 = 0 ∨ a.getD i 0 = 1) → ∀ i, (pre.foldl stepL a).getD i 0 = 0 ∨ (pre.foldl stepL a).getD i 0 = 1
  | [], a, h => h
  | n :: r, a, _ => fold_bit r (stepL a n) (step_bit a n)
theorem lights_bit (pre : List Nat) (i : Nat) : (lightsF pre).getD i 0 = 0 ∨ (lightsF pre).getD i 0 = 1 := fold_bit pre _ (fun i => by
  match i with
  | 0 => exact .inl rfl
  | 1 => exact .inl rfl
  | 2 => exact .inl rfl
  | i + 3 => exact .inl rfl) i
theorem name_or {r g b : Int} (hr : r = 0 ∨ r = 1) (hg : g = 0 ∨ g = 1) (hb : b = 0 ∨ b = 1) : nameL r g b = Str.ofString "" ∨ ∃ n, isL7 n ∧ nameL r g b = sg1 n := by
  rcases hr with rfl | rfl <;> rcases hg with rfl | rfl <;> rcases hb with rfl | rfl
  · exact .inl (by decide +kernel)
  all_goals exact .inr (by first | exact ⟨98, by unfold isL7; decide, by decide +kernel⟩ | exact ⟨103, by unfold isL7; decide, by decide +kernel⟩ | exact ⟨99, by unfold isL7; decide, by decide +kernel⟩ | exact ⟨114, by unfold isL7; decide, by decide +kernel⟩ | exact ⟨109, by unfold isL7; decide, by decide +kernel⟩ | exact ⟨121, by unfold isL7; decide, by decide +kernel⟩ | exact ⟨119, by unfold isL7; decide, by decide +kernel⟩)
local macro_rules | `(tactic| walk_at "call ref") => `(tactic| (k_here; (with_reducible show wpAny _ _ (call (Value.ref 301) _) _ _ _); refine hold ?_))
local macro_rules | `(tactic| walk_at "call ref") => `(tactic| (k_here; (with_reducible show wpAny _ _ (call (Value.ref 223) _) _ _ _); refine hold ?_))
local macro_rules | `(tactic| walk_at "call ref") => `(tactic| (k_here; (with_reducible show wpAny _ _ (call (Value.ref 273) _) _ _ _); refine hold ?_))
local macro_rules | `(tactic| walk_at "call ref") => `(tactic| (k_here; (with_reducible show wpAny _ _ (call (Value.ref 194) _) _ _ _); refine hold ?_))
local macro_rules | `(tactic| walk_at "call ref") => `(tactic| (k_here; (with_reducible show wpAny _ _ (call (Value.ref 240) _) _ _ _); refine hold ?_))
noncomputable def baseF (pre : List Nat) : List (Str × Str) := pre.map fun n => (sg1 n, Str.ofString "seen")
noncomputable def nameF (pre : List Nat) : Str := nameL ((lightsF pre).getD (Int.toNat 0) 0) ((lightsF pre).getD (Int.toNat 1) 0) ((lightsF pre).getD (Int.toNat 2) 0)
noncomputable def mendF (pre : List Nat) : List (Str × Str) := if nameF pre = Str.ofString "" then baseF pre else if nameF pre ∈ pre.map sg1 then (baseF pre).filter (fun p => p.1 ≠ nameF pre) else baseF pre ++ [(nameF pre, Str.ofString "put in")]
noncomputable abbrev rowKV (rs : List RowT) : List (Str × Str) := rs.map fun r => (r.k, r.v)
theorem rows_base : ∀ {rs : List RowT} {pre : List Nat}, rs.map (·.k) = pre.map sg1 → (∀ r ∈ rs, r.v = Str.ofString "seen") → rowKV rs = baseF pre
  | [], [], _, _ => rfl
  | [], _ :: _, h, _ => nomatch h
  | _ :: _, [], h, _ => nomatch h
  | r :: rs, n :: pre, h, hv => by
    obtain ⟨h1, h2⟩ := List.cons.inj h
    show (r.k, r.v) :: rowKV rs = (sg1 n, Str.ofString "seen") :: baseF pre
    rw [rows_base h2 fun q hq => hv q (.tail _ hq), hv r (.head _), show r.k = sg1 n from h1]
theorem rows_get {y : Str} : ∀ {rs : List RowT} {pre : List Nat} {f : Nat}, rs.map (·.k) = pre.map sg1 → (∀ r ∈ rs, r.v = Str.ofString "seen") → (∀ m ∈ pre, isL7 m) → isL7 f → f ∈ pre → ∃ u, getV (Txt.lower (Txt.upper (sg1 f))) rs = .str (Str.ofString "seen") u
  | [], [], _, _, _, _, _, hm => nomatch hm
  | [], _ :: _, _, h, _, _, _, _ => nomatch h
  | _ :: _, [], _, h, _, _, _, _ => nomatch h
  | r :: rs, n :: pre, f, h, hv, h7, hf, hm => by
    obtain ⟨h1, h2⟩ := List.cons.inj h
    replace h1 : r.k = sg1 n := h1
    rw [lowup_l hf]
    show ∃ u, (if Txt.lower r.k = sg1 f then Value.str r.v r.u else getV (sg1 f) rs) = _
    rw [h1, low_l (h7 n (.head _))]
    by_cases e : sg1 n = sg1 f
    · rw [if_pos e, hv r (.head _)]; exact ⟨_, rfl⟩
    · rw [if_neg e]
      have hm' : f ∈ pre := by
        rcases List.mem_cons.mp hm with rfl | hm
        · exact absurd rfl e
        · exact hm
      have := rows_get (y := y) h2 (fun q hq => hv q (.tail _ hq)) (fun m hm => h7 m (.tail _ hm)) hf hm'
      rwa [lowup_l hf] at this
theorem map_filter_of {α β : Type} {p : α → Bool} {q : β → Bool} {g : α → β} : ∀ {l : List α}, (∀ a ∈ l, p a = q (g a)) → (l.filter p).map g = (l.map g).filter q
  | [], _ => rfl
  | a :: l, h => by
    rw [List.filter_cons, List.map_cons, List.filter_cons, h a (.head _)]
    have ih := map_filter_of (p := p) (q := q) (g := g) (l := l) fun b hb => h b (.tail _ hb)
    cases q (g a)
    · exact ih
    · show g a :: _ = g a :: _; rw [ih]
theorem mem_sg {f : Nat} {pre : List Nat} : sg1 f ∈ pre.map sg1 ↔ f ∈ pre := by
  rw [List.mem_map]
  exact ⟨fun ⟨m, hm, e⟩ => sg1_inj e ▸ hm, fun h => ⟨f, h, rfl⟩⟩
theorem sg_ne (f : Nat) : sg1 f ≠ Str.ofString "" := fun e => by
  have := congrArg (fun x : Str => x.cps.size) e
  have h2 : (Str.ofString "").cps.size = 0 := by decide +kernel
  dsimp only at this
  rw [h2] at this
  cases this
theorem mend_del {rs : List RowT} {pre : List Nat} {f : Nat} (hk : rs.map (·.k) = pre.map sg1) (hv : ∀ r ∈ rs, r.v = Str.ofString "seen") (h7 : ∀ m ∈ pre, isL7 m) (hf : isL7 f) (hm : f ∈ pre) (hn : nameF pre = sg1 f) :
    rowKV (rs.filter fun r => Txt.lower r.k ≠ Txt.lower (Txt.upper (sg1 f))) = mendF pre := by
  unfold mendF
  rw [hn, if_neg (sg_ne f), if_pos (mem_sg.mpr hm), ← rows_base hk hv]
  refine map_filter_of (q := fun p : Str × Str => decide (p.1 ≠ sg1 f)) fun r hr => ?_
  obtain ⟨m, hm2, e⟩ := rows_key hk hr
  dsimp only
  rw [e, low_l (h7 m hm2), lowup_l hf]
theorem mend_add {rs : List RowT} {pre : List Nat} {f : Nat} {T : Addr} {t1 t2 : Tok} (hk : rs.map (·.k) = pre.map sg1) (hv : ∀ r ∈ rs, r.v = Str.ofString "seen") (hm : f ∉ pre) (hn : nameF pre = sg1 f) :
    rowKV (rs ++ [⟨T, sg1 f, t1, Str.ofString "put in", t2⟩]) = mendF pre := by
  unfold mendF
  rw [hn, if_neg (sg_ne f), if_neg (fun h => hm (mem_sg.mp h)), ← rows_base hk hv]
  show List.map _ _ = _
  rw [List.map_append]; rfl
theorem mend_same {rs : List RowT} {pre : List Nat} (hk : rs.map (·.k) = pre.map sg1) (hv : ∀ r ∈ rs, r.v = Str.ofString "seen") (hn : nameF pre = Str.ofString "") : rowKV rs = mendF pre := by
  unfold mendF
  rw [if_pos hn, rows_base hk hv]
theorem rows_no2 {rs : List RowT} {pre : List Nat} {n : Nat} (h : rs.map (·.k) = pre.map sg1) (h7 : ∀ m ∈ pre, isL7 m) (hn : isL7 n) (hp : n ∉ pre) : getV (Txt.lower (Txt.upper (sg1 n))) rs = .none := by
  rw [lowup_l hn, ← low_l hn]; exact rows_no h h7 hn hp
theorem mend_out {w : World} {h₀ h : Heap} {L x dx l : Addr} {t : Tok} {c : Nat} {rs : List RowT} {news : List (Addr × Obj)} {p a b d : Addr × Obj} (N : News h₀ L h (p :: HT w x dx l t c rs (a :: b :: d :: news))) : News h₀ L h ((p :: rowLed rs) ++ news) := by
  intro q hq
  refine N q ?_
  rcases List.mem_append.mp hq with hq | hq
  · rcases List.mem_cons.mp hq with e | hq
    · exact List.mem_cons.mpr (.inl e)
    · exact .tail _ (.tail _ (.tail _ (.tail _ (List.mem_append_left _ hq))))
  · exact .tail _ (.tail _ (.tail _ (.tail _ (List.mem_append_right _ (.tail _ (.tail _ (.tail _ hq)))))))
theorem delItem_K {M : Model} {A : Around} {E : Value → Shared → Prop} {s : Shared} {K : Frag} {x C L f : Addr} {h₀ : Heap} {m : Str → Option Value} {ox : Obj} {od : Option Obj} {v : Value} {Q : Unit → Shared → Prop} (F : Fr h₀ L s.heap m) (X₀ : K.In h₀) (I : InstAt s.heap x ox C od) (hq : noSeq K C = true) (hs : findIn K (.ref C) "__delitem__" = some (some (.ref f))) (hf : isFn K (.ref f) = true)
    (h : wpAny M A (call (.ref f) [.ref x, v]) (fun _ s' => Q () s') E s) : wpAny M A (delItem (.ref x) v) Q E s := by
  have X := X₀.keeps F.keep
  unfold delItem sequenceKey
  refine wpAny_holding (wpAny_bind (wpAny_bind (I.type.here ?_)))
  refine wpAny_bind ((anyM_none X hq).here ?_)
  rw [if_pos (show (!false) = true from rfl)]
  exact wpAny_pure (wpAny_bind (special_fn X I hs (beq_iff_eq.mp hf) (wpAny_mono h (fun _ _ z => wpAny_pure z) fun _ _ z => z)))
local macro_rules | `(tactic| walk_at "delItem ref str") => `(tactic| (k_here; k_dflt (refine' delItem_K ?k1 ?k2 ?k3 ?k4 ?k5 ?k6 ?_; (case k1 => k_asm); (case k2 => k_asm); (case k3 => k_inst); (case k4 => k_is); (case k5 => k_is); (case k6 => k_is); k_whole)))
theorem c_mend (w : World) (news : List (Addr × Obj)) (y : Str) (ty : Tok) (hy : isSet7 y) : Ct w 6 306 news [.str y ty] fun v xs => ∃ D k rs, v = .ref D ∧ xs = (D, W.listOf (rowVals rs).toArray k) :: rowLed rs ∧ rowKV rs = mendF y.cps.toList := by
  unfold Ct; intros
  rename_i hret
  refine wpAny_call ?_
  (refine' code_defC ?k1 ?k2 ?k3 ?k4 ?k5 ?kA ?kF ?kK ?k6 ?k7 ?k8 ?k9 ?kB ?kD ?_ ?c2 ?c3 ?c4; (case kA => exact rfl); (case kF => exact rfl); (case kK => first | exact rfl | assumption); (case k1 => k_asm); (case k2 => k_asm); (case k3 => k_asm); (case k4 => k_asm); (case k5 => k_asm); (case k6 => k_is); (case k7 => k_is); (case k8 => ktr_room); (case k9 => first | exact BindsTo.of_eq rfl | exact binds_K (by k_in) rfl (by k_is) rfl rfl rfl); (case kB => exact rfl); (case kD => decide +kernel); (case c2 => exact rfl); (case c3 => exact rfl); (case c4 => exact rfl); k_whole; intro g' L' h' tk' cells' FG' F' N' Y' B' X' T' l1; (try k_lt l1); k_cells Y'; (try simp only [List.cons_append, List.nil_append] at N'); (try dsimp only); (try k_lift B'); (try k_fold))
  rename_i o1c o2c d1c d2c
  k_steps
  refine unhold ?_
  rename News g' _ _ _ => kN9
  rename Fr g' _ _ _ => kF9
  rename_i la ha la1 hb tkb x9 dx9 tn9 hdl9 hxl9 hc Dl9 h7 lw9
  have cA := fun (p : Addr × Obj) hp (hk : ∀ v, p.2.data ≠ Data.cell v) => cell_ne kN9 (.tail _ (.tail _ (.tail _ (.tail _ (.tail _ (.head _)))))) d2c (p := p) hp hk
  k_dflt (refine storeX_C kF9 kN9 rfl (UpdF.tail (cA _ (.head _) (by intro v e; cases e)) (UpdF.tail (cA _ (.tail _ (.head _)) (by intro v e; cases e)) (UpdF.tail (cA _ (.tail _ (.tail _ (.head _))) (by intro v e; cases e)) (UpdF.tail (cA _ (.tail _ (.tail _ (.tail _ (.head _)))) (by intro v e; cases e)) (UpdF.tail (Nat.succ_ne_self _) (UpdF.head (fun p hp => Nat.ne_of_lt (Nat.lt_succ_of_lt (l1 p hp))))))))) d2c ?_ rfl rfl)
  intro h6 oL F6 N6 dL
  clear kN9 cA
  try dsimp only at N6
  k_steps
  refine unhold ?_
  rename Fr g' _ _ _ => kF8
  rename News g' _ _ _ => kN8
  obtain ⟨vs0, hvs0, kN5⟩ := start_led kN8
  refine iter_strUnr (l := y.cps.toList.map sg1) rfl kF8 kN5 rfl ?_
  intro I9 l9
  refine srest_inv (σ := MSt) (fun c => (L' + 1, c.oL) :: (L' + 1 + 1, c.oP) :: (c.Dl, W.listOf c.vs.toArray c.k) :: HT w x9 dx9 la tn9 c.n c.rs news) (fun c => []) [S "letter"] (MInv y la I9) ⟨[], 0, oL, o1c, Dl9, vs0, 0⟩ rfl (by intro p hp; cases hp) ⟨[], rfl, rfl, (by intro r hr; cases hr), hvs0, dL, ⟨_, d1c⟩, (by intro q hq; cases hq), Nat.ne_of_gt lw9.2.2.1, (by intro q hq; cases hq)⟩ ?_ ?_
  · rintro r rem c u9 t9 it9 h9 tk9 ⟨pre, e9, hk9, hv9, hi9, hL9, ⟨vP, hP9⟩, hq9, hD9, hI9⟩ F9 N9
    dsimp only [kstB, List.cons_append, List.nil_append] at F9 N9
    obtain ⟨n, rfl, hn7, hnp, hpl, hp7⟩ := turn_letter hy e9
    have hlen : c.rs.length < 60 := by rw [rows_len hk9]; omega
    have hqn : ∀ q ∈ rowLed c.rs ++ ([(I9, it9), (L' + 1, c.oL), (L' + 1 + 1, c.oP), (c.Dl, W.listOf c.vs.toArray c.k)] ++ news), q.1 ≠ la := by
      intro q hq
      rcases List.mem_append.mp hq with hq | hq
      · exact hq9 q hq
      rcases List.mem_append.mp hq with hq | hq
      · simp only [List.mem_cons, List.not_mem_nil, or_false] at hq
        rcases hq with rfl | rfl | rfl | rfl
        · exact Nat.ne_of_gt (l9 (la, _) (.tail _ (.tail _ (.tail _ (.tail _ (.tail _ (.head _)))))))
        · exact Nat.ne_of_lt la1.2.1
        · exact Nat.ne_of_lt la1.1
        · exact hD9
      · exact Nat.ne_of_lt (allLt_mem la1.2.2 q hq)
    k_steps
    refine unhold ?_
    rename Fr g' _ _ _ => kF7
    rename News g' _ _ _ => kN7
    k_dflt (refine ctl_use (c_set_miss w ([(I9, it9), (L' + 1, c.oL), (L' + 1 + 1, c.oP), (c.Dl, W.listOf c.vs.toArray c.k)] ++ news) x9 dx9 la tn9 c.n c.rs (sg1 n) _ (Str.ofString "seen") _ (len1 n) (by rw [low_l hn7]; exact quiet_l w hn7) (quiet_l w hn7) (quiet_seen w) (rows_fit hk9) hqn hxl9 hdl9 hlen (rows_no hk9 hp7 hn7 hnp)) B' kF7 X' (ht_in _ kN7) T' rfl (by ktr_room) (by dsimp only [ktrTop]; omega) ?_)
    rintro v7 xs7 h8 tk8 ⟨rfl, Tn, c8, t1, t2, rfl, hTn, hTo⟩ F8 N8
    clear kN7
    k_steps
    refine unhold ?_
    rename Fr g' _ _ _ => kF7
    rename News g' _ _ _ => kN7
    k_dflt (refine ct_use (c_set_hit w _ x9 dx9 la tn9 c8 (c.rs ++ [⟨Tn, sg1 n, t1, Str.ofString "seen", t2⟩]) (Txt.upper (sg1 n)) _ (Str.ofString "again") _ (Str.ofString "seen") t2 (up_fit hn7) (by rw [lowup_l hn7]; exact quiet_l w hn7) (rows_fit (rows_snoc hk9)) (rows_hit hk9 hp7 hn7 hnp)) B' kF7 X' kN7 T' rfl (by ktr_room) (by dsimp only [ktrTop]; omega) ?_)
    rintro v7 xs7 h8 tk8 ⟨rfl, rfl⟩ F8 N8
    clear kN7
    dsimp only [List.nil_append] at N8
    replace N8 := ht_out [(I9, it9), (L' + 1, c.oL), (L' + 1 + 1, c.oP), (c.Dl, W.listOf c.vs.toArray c.k)] N8
    dsimp only [List.cons_append, List.nil_append] at N8
    k_steps
    refine unhold ?_
    rename Fr g' _ _ _ => kF7
    rename News g' _ _ _ => kN7
    have kN6 := ndrop (ndrop kN7)
    clear kN7
    k_dflt (refine ct_use (c_paint w _ n _ hn7) B' kF7 X' kN6 T' rfl (by ktr_room) (by dsimp only [ktrTop]; omega) ?_)
    rintro v7 xs7 h8 tk8 ⟨Dp, tp1, tp2, tp3, rfl, rfl⟩ F8 N8
    clear kN6
    dsimp only [List.cons_append, List.nil_append] at N8
    k_steps
    refine unhold ?_
    rename Fr g' _ _ _ => kF7
    have cP := fun (p : Addr × Obj) hp (hk : ∀ v, p.2.data ≠ Data.cell v) => cell_ne N8 (.tail _ (.tail _ (.tail _ (.head _)))) hP9 (p := p) hp hk
    have nIP : I9 ≠ L' + 1 + 1 := Nat.ne_of_gt (l9 (L' + 1 + 1, o1c) (.tail _ (.head _)))
    have nIL : I9 ≠ L' + 1 := Nat.ne_of_gt (l9 (L' + 1, oL) (.head _))
    have nwP : ∀ p ∈ news, p.1 ≠ L' + 1 + 1 := fun p hp => Nat.ne_of_lt (Nat.lt_succ_of_lt (Nat.lt_succ_of_lt (l1 p hp)))
    have nwL : ∀ p ∈ news, p.1 ≠ L' + 1 := fun p hp => Nat.ne_of_lt (Nat.lt_succ_of_lt (l1 p hp))
    have off1 := ht_off (vs := c.vs.toArray) (k := c.k) (Dl := c.Dl) (rs := c.rs ++ [⟨Tn, sg1 n, t1, Str.ofString "seen", t2⟩]) (c := c8) (x := x9) (dx := dx9) (l := la) (t := tn9) (w := w) (news := news) N8 (.tail _ (.tail _ (.tail _ (.head _)))) hP9 (fun p hp => .tail _ (.tail _ (.tail _ (.tail _ hp)))) nwP
    k_dflt (refine storeX_C kF7 N8 rfl (UpdF.tail (cP _ (.head _) (by intro v e; cases e)) (UpdF.tail nIP (UpdF.tail (Nat.ne_of_lt (Nat.lt_succ_self _)) (UpdF.head off1)))) hP9 ?_ rfl rfl)
    intro h5 oP F5 N5 dP
    clear N8 cP off1
    try dsimp only at N5
    k_steps
    refine unhold ?_
    rename IsRange _ _ _ _ _ _ _ _ => R6
    rename Fr g' _ _ _ => kF5
    rename News g' _ _ _ => kN5
    refine rangeU_all 3 (fun i ys ns => ns = _ ∧ IntsAre ys ((stepL (lightsF pre) n).take i)) R6 rfl kF5 kN5 (by decide) (by decide) (by decide) ⟨rfl, .nil⟩ ?_ ?_
    · rintro i k4 I4 oI4 C4 oC4 D4 m4 ys4 ns4 h4 tk4 E4 hi4 ⟨rfl, hp4⟩ hC4 hx4 F4 N4 off4 ne4
      have h3 : i = 0 ∨ i = 1 ∨ i = 2 := by omega
      rcases h3 with rfl | rfl | rfl
      · replace hx4 : m4 (Str.ofString "k") = some (.int 0 k4) := hx4
        k_steps
        refine unhold ?_
        refine ints_item N4 (.tail _ (.tail _ (.tail _ (.tail _ (.tail _ (.tail _ (.tail _ (.head _)))))))) hi9 (by decide) (lights_lt _ (by decide)) (by decide) ?_
        intro t3
        k_steps
        · rename _ = true => c3
          exact absurd c3 (Bool.eq_false_iff.mp (paint_bad hn7).1.1)
        · rename _ = true => c3
          exact absurd c3 (Bool.eq_false_iff.mp (paint_bad hn7).2.1)
        · exact CompEnd.intro F4 N4 _ (fun _ hp => hp) off4 trivial ⟨rfl, ints_eq (ints_snoc hp4) (st0 _ _)⟩
      · replace hx4 : m4 (Str.ofString "k") = some (.int 1 k4) := hx4
        k_steps
        refine unhold ?_
        refine ints_item N4 (.tail _ (.tail _ (.tail _ (.tail _ (.tail _ (.tail _ (.tail _ (.head _)))))))) hi9 (by decide) (lights_lt _ (by decide)) (by decide) ?_
        intro t3
        k_steps
        · rename _ = true => c3
          exact absurd c3 (Bool.eq_false_iff.mp (paint_bad hn7).1.2.1)
        · rename _ = true => c3
          exact absurd c3 (Bool.eq_false_iff.mp (paint_bad hn7).2.2.1)
        · exact CompEnd.intro F4 N4 _ (fun _ hp => hp) off4 trivial ⟨rfl, ints_eq (ints_snoc hp4) (st1 _ _)⟩
      · replace hx4 : m4 (Str.ofString "k") = some (.int 2 k4) := hx4
        k_steps
        refine unhold ?_
        refine ints_item N4 (.tail _ (.tail _ (.tail _ (.tail _ (.tail _ (.tail _ (.tail _ (.head _)))))))) hi9 (by decide) (lights_lt _ (by decide)) (by decide) ?_
        intro t3
        k_steps
        · rename _ = true => c3
          exact absurd c3 (Bool.eq_false_iff.mp (paint_bad hn7).1.2.2)
        · rename _ = true => c3
          exact absurd c3 (Bool.eq_false_iff.mp (paint_bad hn7).2.2.2)
        · exact CompEnd.intro F4 N4 _ (fun _ hp => hp) off4 trivial ⟨rfl, ints_eq (ints_snoc hp4) (st2 _ _)⟩
    · rintro g5 ys5 ns5 ⟨rfl, hp5⟩
      intro D5 h4 tk4 F4 N4 o4
      k_steps
      refine unhold ?_
      have mL : (L' + 1, c.oL) ∈ (D5, lst ys5) :: (Dp, tup3 (paintF n) tp1 tp2 tp3) :: (I9, it9) :: (L' + 1, c.oL) :: (L' + 1 + 1, oP) :: (c.Dl, W.listOf c.vs.toArray c.k) :: HT w x9 dx9 la tn9 c8 (c.rs ++ [⟨Tn, sg1 n, t1, Str.ofString "seen", t2⟩]) news := .tail _ (.tail _ (.tail _ (.head _)))
      have cL := fun (p : Addr × Obj) hp (hk : ∀ v, p.2.data ≠ Data.cell v) => cell_ne N4 mL hL9 (p := p) hp hk
      have off2 := ht_off (vs := c.vs.toArray) (k := c.k) (Dl := c.Dl) (rs := c.rs ++ [⟨Tn, sg1 n, t1, Str.ofString "seen", t2⟩]) (c := c8) (x := x9) (dx := dx9) (l := la) (t := tn9) (w := w) (news := news) N4 mL hL9 (fun p hp => .tail _ (.tail _ (.tail _ (.tail _ (.tail _ hp))))) nwL
      k_dflt (refine storeX_C F4 N4 rfl (UpdF.tail (cL _ (.head _) (by intro v e; cases e)) (UpdF.tail (cL _ (.tail _ (.head _)) (by intro v e; cases e)) (UpdF.tail nIL (UpdF.head (List.forall_mem_cons.mpr ⟨Nat.succ_ne_self _, off2⟩))))) hL9 ?_ rfl rfl)
      intro h3 oL' F3 N3 dL3
      clear N4 cL mL
      try dsimp only at N3
      k_steps
      refine unhold ?_
      have offI : ∀ p ∈ (L' + 1, oL') :: (L' + 1 + 1, oP) :: (D5, lst ys5) :: HT w x9 dx9 la tn9 c8 (c.rs ++ [⟨Tn, sg1 n, t1, Str.ofString "seen", t2⟩]) news, p.1 ≠ I9 := by
        refine List.forall_mem_cons.mpr ⟨nIL.symm, List.forall_mem_cons.mpr ⟨nIP.symm, List.forall_mem_cons.mpr ⟨o4.2.1.symm, List.forall_mem_cons.mpr ⟨Nat.ne_of_lt (l9 (x9, _) (.tail _ (.tail _ (.tail _ (.head _))))), List.forall_mem_cons.mpr ⟨Nat.ne_of_lt (l9 (dx9, _) (.tail _ (.tail _ (.tail _ (.tail _ (.head _)))))), List.forall_mem_cons.mpr ⟨Nat.ne_of_lt (show la < I9 from l9 (la, W.listOf (rowVals []).toArray 0) (.tail _ (.tail _ (.tail _ (.tail _ (.tail _ (.head _))))))), ?_⟩⟩⟩⟩⟩⟩
        exact rows_off hI9 (fun e => hTo (I9, it9) (.head _) e.symm) (fun p hp => Nat.ne_of_lt (l9 p (.tail _ (.tail _ (.tail _ (.tail _ (.tail _ (.tail _ hp))))))))
      refine kss_end ⟨c.rs ++ [⟨Tn, sg1 n, t1, Str.ofString "seen", t2⟩], c8, oL', oP, D5, ys5, _⟩ F3 (fun p hp => N3 p (pick_led hp)) offI (by intro p hp; cases hp) ?_ ⟨pre ++ [n], ?_, rows_snoc hk9, rows_seen hv9, ?_, dL3, ⟨_, dP⟩, rows_off' hq9 hTn, o4.2.2.2.2.2.2.2.1.symm, rows_off' hI9 (fun e => hTo (I9, it9) (.head _) e.symm)⟩
      · walk_at "ks_h2"
      · rw [e9]; simp
      · rw [lightsF, List.foldl_append]; exact hp5
  · rintro c u9 h9 tk9 ⟨pre, e9, hk9, hv9, hi9, hL9, ⟨vP, hP9⟩, hq9, hD9, hI9⟩ F9 N9
    dsimp only [kstB] at F9 N9
    k_steps
    refine unhold ?_
    refine ints_item N9 (.tail _ (.tail _ (.head _))) hi9 (by decide) (lights_lt _ (by decide)) (by decide) ?_
    intro t0
    k_steps
    refine unhold ?_
    refine ints_item N9 (.tail _ (.tail _ (.head _))) hi9 (by decide) (lights_lt _ (by decide)) (by decide) ?_
    intro t1
    k_steps
    refine unhold ?_
    refine ints_item N9 (.tail _ (.tail _ (.head _))) hi9 (by decide) (lights_lt _ (by decide)) (by decide) ?_
    intro t2
    k_steps
    refine unhold ?_
    have bt := fun i => lights_bit pre i
    k_dflt (refine ct_use (c_named w _ _ _ _ _ _ _ (bt _) (bt _) (bt _)) B' F9 X' N9 T' rfl (by ktr_room) (by dsimp only [ktrTop]; omega) ?_)
    rintro v7 xs7 h8 tk8 ⟨⟨kf, rfl⟩, rfl⟩ F8 N8
    dsimp only [List.nil_append] at N8
    obtain rfl : pre = y.cps.toList := by
      rw [List.append_nil] at e9
      exact ((List.map_inj_right fun a b h => sg1_inj h).mp e9).symm
    have h7 := hy.2.1
    have hlen : c.rs.length < 59 := by
      rw [rows_len hk9, Array.length_toList]
      have := hy.1
      omega
    have hqn : ∀ q ∈ rowLed c.rs ++ ([(L' + 1, c.oL), (L' + 1 + 1, c.oP), (c.Dl, W.listOf c.vs.toArray c.k)] ++ news), q.1 ≠ la := by
      intro q hq
      rcases List.mem_append.mp hq with hq | hq
      · exact hq9 q hq
      rcases List.mem_append.mp hq with hq | hq
      · simp only [List.mem_cons, List.not_mem_nil, or_false] at hq
        rcases hq with rfl | rfl | rfl
        · exact Nat.ne_of_lt la1.2.1
        · exact Nat.ne_of_lt la1.1
        · exact hD9
      · exact Nat.ne_of_lt (allLt_mem la1.2.2 q hq)
    have hnm := name_or (bt (Int.toNat 0)) (bt (Int.toNat 1)) (bt (Int.toNat 2))
    generalize hnm2 : nameL _ _ _ = nm at F8 hnm
    rcases hnm with rfl | ⟨f, hf, rfl⟩
    · k_steps
      all_goals first | exact absurd (by assumption) (by decide +kernel) | skip
      refine unhold ?_
      rename Fr g' _ _ _ => kF7
      rename News g' _ _ _ => kN7
      k_dflt (refine ct_use (c_items w _ x9 dx9 la tn9 c.n c.rs (by omega)) B' kF7 X' (ht_in [(L' + 1, c.oL), (L' + 1 + 1, c.oP), (c.Dl, W.listOf c.vs.toArray c.k)] kN7) T' rfl (by ktr_room) (by dsimp only [ktrTop]; omega) ?_)
      rintro v6 xs6 h6 tk6 ⟨D6, n6, rfl, rfl⟩ F6 N6
      clear kN7
      dsimp only [List.cons_append, List.nil_append] at N6
      k_steps
      rename Fr _ _ _ _ => kF6
      rename News _ _ _ _ => kN6
      exact hret _ _ _ _ ⟨_, _, _, rfl, rfl, mend_same hk9 hv9 hnm2⟩ kF6 (mend_out kN6)
    · k_steps
      all_goals first | exact absurd (by assumption) (by rw [bne_iff_ne.mpr (sg_ne f)]; decide) | skip
      refine unhold ?_
      rename Fr g' _ _ _ => kF7
      rename News g' _ _ _ => kN7
      k_dflt (refine ct_use (c_get w _ x9 dx9 la tn9 c.n c.rs (Txt.upper (sg1 f)) _ (up_fit hf) (by rw [lowup_l hf]; exact quiet_l w hf) (rows_fit hk9)) B' kF7 X' (ht_in [(L' + 1, c.oL), (L' + 1 + 1, c.oP), (c.Dl, W.listOf c.vs.toArray c.k)] kN7) T' rfl (by ktr_room) (by dsimp only [ktrTop]; omega) ?_)
      rintro v6 xs6 h6 tk6 ⟨rfl, rfl⟩ F6 N6
      clear kN7
      dsimp only [List.nil_append] at N6
      by_cases hm : f ∈ y.cps.toList
      · obtain ⟨u6, e6⟩ := rows_get (y := y) hk9 hv9 h7 hf hm
        rw [e6]
        k_steps
        refine unhold ?_
        rename Fr g' _ _ _ => kF5
        rename News g' _ _ _ => kN5
        k_dflt (refine ctl_use (c_del w _ x9 dx9 la tn9 c.n c.rs (Txt.upper (sg1 f)) _ (up_fit hf) (by rw [lowup_l hf]; exact quiet_l w hf) (rows_fit hk9) hqn hxl9 hdl9 (by omega)) B' kF5 X' kN5 T' rfl (by ktr_room) (by dsimp only [ktrTop]; omega) ?_)
        rintro v5 xs5 h5 tk5 ⟨c5, rfl⟩ F5 N5
        clear kN5
        k_steps
        refine unhold ?_
        rename Fr g' _ _ _ => kF4
        rename News g' _ _ _ => kN4
        k_dflt (refine ct_use (c_items w _ x9 dx9 la tn9 c5 _ (Nat.lt_of_le_of_lt (List.length_filter_le _ _) (by omega))) B' kF4 X' kN4 T' rfl (by ktr_room) (by dsimp only [ktrTop]; omega) ?_)
        rintro v4 xs4 h4 tk4 ⟨D4, n4, rfl, rfl⟩ F4 N4
        clear kN4
        dsimp only [List.cons_append, List.nil_append] at N4
        k_steps
        rename Fr _ _ _ _ => kF6
        rename News _ _ _ _ => kN6
        exact hret _ _ _ _ ⟨_, _, _, rfl, rfl, mend_del hk9 hv9 h7 hf hm hnm2⟩ kF6 (mend_out kN6)
      · rw [rows_no2 hk9 h7 hf hm]
        k_steps
        refine unhold ?_
        rename Fr g' _ _ _ => kF5
        rename News g' _ _ _ => kN5
        k_dflt (refine ctl_use (c_add w _ x9 dx9 la tn9 c.n c.rs (sg1 f) _ _ (quiet_l w hf) (quiet_put w) hqn hxl9 hdl9 (by omega)) B' kF5 X' kN5 T' rfl (by ktr_room) (by dsimp only [ktrTop]; omega) ?_)
        rintro v5 xs5 h5 tk5 ⟨T5, c5, t5, t6, rfl, hT5⟩ F5 N5
        clear kN5
        k_steps
        refine unhold ?_
        rename Fr g' _ _ _ => kF4
        rename News g' _ _ _ => kN4
        k_dflt (refine ct_use (c_items w _ x9 dx9 la tn9 c5 _ (by rw [List.length_append]; show _ + 1 < 60; omega)) B' kF4 X' kN4 T' rfl (by ktr_room) (by dsimp only [ktrTop]; omega) ?_)
        rintro v4 xs4 h4 tk4 ⟨D4, n4, rfl, rfl⟩ F4 N4
        clear kN4
        dsimp only [List.cons_append, List.nil_append] at N4
        k_steps
        rename Fr _ _ _ _ => kF6
        rename News _ _ _ _ => kN6
        exact hret _ _ _ _ ⟨_, _, _, rfl, rfl, mend_add hk9 hv9 hm hnm2⟩ kF6 (mend_out kN6)
end Mine
namespace Mine
open PySem PySem.W PySem.Calls PyProof.Rows PyProof.V PyProof.Rows.LCt PyProof.Rows.LCg
section
variable {M : Model} {A : Around} {R : GenEnd} {Y : Protocol} {n : Nat} {s₀ : Shared} {c : Code} {fs : List Frame} {s : Shared} {env : Env}
  {K : Flow → Sem Fin} {H : Value → Sem Fin} {gd : Bool → Bool} {lv : List Value → List Value}
theorem gs_If {test : Expr} {body orelse : List Stmt} {pos : Pos}
    (h : wpAny M (A.over c fs) (isTrue test env (eval test env)) (fun b s' => if b = true then Seg M A R Y n s₀ c ((execs body env).wrap K H gd lv) fs s' else Seg M A R Y n s₀ c ((execs orelse env).wrap K H gd lv) fs s') (fun _ _ => False) s) :
    Seg M A R Y n s₀ c ((exec (.If test body orelse pos) env).wrap K H gd lv) fs s := by
  rw [arm_exec_If]
  show Seg M A R Y n s₀ c (.at pos fun _ => ((isTrue test env (eval test env)) >>= fun b => if b = true then execs body env else execs orelse env).wrap K H gd lv) fs s
  refine seg_at ?_
  rw [Sem.bind_eq_wrap', Sem.wrap_wrap]
  refine seg_wrap (wpAny_mono h (fun b s' h' => ?_) fun _ _ x => x.elim)
  cases b
  · exact h'
  · exact h'
theorem gs_step {st : Stmt} {rest : List Stmt} (h : wpAny M (A.over c fs) (exec st env) (fun f s' => f = .next ∧ Seg M A R Y n s₀ c ((execs rest env).wrap K H gd lv) fs s') (fun _ _ => False) s) :
    Seg M A R Y n s₀ c ((execs (st :: rest) env).wrap K H gd lv) fs s := by
  refine seg_execs_cons (seg_wrap (wpAny_mono h (fun f s' h' => ?_) fun _ _ x => x.elim))
  obtain ⟨rfl, h'⟩ := h'
  exact h'
noncomputable abbrev gsOwn (env : Env) (K : Flow → Sem Fin) (H : Value → Sem Fin) (gd : Bool → Bool) (lv : List Value → List Value) : Result → Sem Fin :=
  fun r => ((match r with | .ok f => (.pure f : Sem Flow) | .error e => .raise e).onRaise fun (x : Value) => do
        if (← field x 1) == Value.none then unsupported "frame.own-activation:exception-without-traceback"
        setFlight x env.frame).wrap K H gd lv
theorem gs_For {target iter : Expr} {body orelse : List Stmt} {pos : Pos}
    (h : wpAny M (A.over c fs) (eval iter env) (fun x s' => wpAny M (A.over c fs) (pyIter x) (fun it s'' => ∀ p, Seg M A R Y n s₀ (.forLoop target it body orelse env) (M.den (.forLoop target it body orelse env)) (.ret (gsOwn env K H gd lv) none (gd false) (lv []) c p [] :: fs) s'') (fun _ _ => False) s') (fun _ _ => False) s)
    (hs : ∀ x, foldedSetIterable iter env x = pure x := by intro _; rfl) :
    Seg M A R Y n s₀ c ((exec (.For target iter body orelse pos) env).wrap K H gd lv) fs s := by
  rw [arm_exec_For]
  simp only [hs]
  show Seg M A R Y n s₀ c (.at pos fun _ => (eval iter env >>= fun x => (standAt iter.pos >>= fun _ => (holding [x] (pyIter x) >>= fun it => runOwn (.forLoop target it body orelse env) env))).wrap K H gd lv) fs s
  refine seg_at ?_
  rw [Sem.bind_eq_wrap', Sem.wrap_wrap]
  refine seg_wrap (wpAny_mono h (fun x s' h' => ?_) fun _ _ x => x.elim)
  refine seg_at ?_
  show Seg M A R Y n s₀ c ((holding [x] (pyIter x) >>= fun it => runOwn (.forLoop target it body orelse env) env).wrap K H gd lv) fs s'
  rw [Sem.bind_eq_wrap', Sem.wrap_wrap]
  refine seg_wrap (wpAny_holding (wpAny_mono h' (fun it s'' h'' => ?_) fun _ _ x => x.elim))
  exact seg_call h''
theorem gs_back {c₁ : Code} {p₁ : Pos} (hk : Seg M A R Y n s₀ c₁ (K .next) fs s) : Seg M A R Y n s₀ c (.pure (.done .next)) (.ret (gsOwn env K H gd lv) none (gd false) (lv []) c₁ p₁ [] :: fs) s :=
  seg_leaf (.ok .next) hk
end
section
variable {prog : Program} {w : World} {A : Around} {R : GenEnd} {Y : Protocol} {n : Nat} {s₀ : Shared} {fs : List Frame} {s : Shared} {env : Env}
noncomputable abbrev gsTurn (target : Expr) (it : Value) (body orelse : List Stmt) (env : Env) : Flow → Sem Fin := fun f => match f with
  | .next | .cont => .pure (.again (.forLoop target it body orelse env))
  | .brk => .pure (.done .next)
  | .ret v => .pure (.done (.ret v))
noncomputable abbrev gsNote (env : Env) : Value → Sem Fin := fun e => (do noteFrame e env; theTreesLotGoes e : Sem Unit).wrap (fun _ => .raise e) .raise id id
theorem gs_forLoop {target : Expr} {it : Value} {body orelse : List Stmt}
    (h : wpAny (model prog w) (A.over (.forLoop target it body orelse env) fs) (pyNext it) (fun r s' => match r with
      | none => Seg (model prog w) A R Y n s₀ (.forLoop target it body orelse env) (.pure (.again (.block orelse env))) fs s'
      | some v => wpAny (model prog w) (A.over (.forLoop target it body orelse env) fs) (letOwnedTupleGo target it v) (fun _ s₁ => wpAny (model prog w) (A.over (.forLoop target it body orelse env) fs) (assign target env v) (fun _ s₂ =>
          Seg (model prog w) A R Y n s₀ (.forLoop target it body orelse env) ((execs body env).wrap (gsTurn target it body orelse env) (gsNote env) id id) fs s₂) (fun _ _ => False) s₁) (fun _ _ => False) s') (fun _ _ => False) s) :
    Seg (model prog w) A R Y n s₀ (.forLoop target it body orelse env) ((model prog w).den (.forLoop target it body orelse env)) fs s := by
  show Seg _ A R Y n s₀ _ ((forTurn target it body orelse env).onRaise (fun x => do noteFrame x env; theTreesLotGoes x)) fs s
  rw [Sem.onRaise_eq_wrap]
  unfold forTurn
  rw [Sem.bind_eq_wrap', Sem.wrap_wrap]
  refine seg_wrap (wpAny_standAt ?_)
  dsimp only
  rw [Sem.bind_eq_wrap', Sem.wrap_wrap]
  refine seg_wrap (wpAny_onRaise (wpAny_mono h (fun r s' hr => ?_) fun _ _ x => x.elim))
  cases r with
  | none => exact hr
  | some v =>
    dsimp only
    rw [Sem.bind_eq_wrap', Sem.wrap_wrap]
    refine seg_wrap (wpAny_mono hr (fun _ s₁ h₁ => ?_) fun _ _ x => x.elim)
    rw [Sem.bind_eq_wrap', Sem.wrap_wrap]
    refine seg_wrap (wpAny_mono h₁ (fun _ s₂ h₂ => ?_) fun _ _ x => x.elim)
    rw [Sem.bind_eq_wrap', Sem.wrap_wrap]
    rw [Sem.wrap_congr (execs body env) _ _ (K' := gsTurn target it body orelse env) (H' := gsNote env) (fun f => by cases f <;> rfl) (fun e => by first | exact Sem.bind_eq_wrap _ _ | (show (do noteFrame e env; theTreesLotGoes e : Sem Unit).bind (fun _ => .raise e) = _; rw [Sem.bind_eq_wrap]))]
    exact h₂
theorem gs_block_nil {c : Code} (h : Seg (model prog w) A R Y n s₀ (.block [] env) (.pure (.done .next)) fs s) : Seg (model prog w) A R Y n s₀ c (.pure (.again (.block [] env))) fs s := by
  refine seg_again rfl ?_
  exact h
end
end Mine
namespace Mine
open PySem PySem.W PySem.Calls PyProof.Rows PyProof.V PyProof.Rows.LCt PyProof.Rows.LCg
theorem regGen (w : World) (h : Heap) (X : (K w.params).In h) : PySem.Challenge.rw_wf0109_01.row.prog = PySem.Challenge.rw_wf0109_01.row.prog → (K w.params).In h := by
  k_fill
  exact fun _ => X
noncomputable def esc : Nat → Bool → List Nat → List (Nat × Str)
  | _, _, [] => []
  | i, true, c :: r => (i, Str.ofString "\\" ++ sg1 c) :: esc (i + 1) false r
  | i, false, c :: r => if sg1 c = Str.ofString "\\" then esc (i + 1) true r else (i, sg1 c) :: esc (i + 1) false r
noncomputable def escEnd : Bool → List Nat → Bool
  | b, [] => b
  | true, _ :: r => escEnd false r
  | false, c :: r => escEnd (decide (sg1 c = Str.ofString "\\")) r
noncomputable def GY (g : Heap) (N₁ Lg : Addr) (YS : List (Nat × Str)) : Protocol := fun k s₀ v s' kap => ∃ h' tk' T pos ch t u pre post, s' = { s₀ with heap := h', toks := tk' } ∧ YS = pre ++ (pos, ch) :: post ∧ post.length = k ∧ v = .ref T ∧ N₁ ≤ T ∧
  h'.get? T = some { cls := .type "tuple", data := .seq #[.int ((pos : Nat) : Int) t, .str ch u] } ∧ (∀ b o, b < N₁ → b ≠ Lg → s₀.heap.get? b = some o → h'.get? b = some o) ∧
  ∀ s'', (∀ b o, (b = Lg ∨ N₁ ≤ b) → h'.get? b = some o → s''.heap.get? b = some o) → (∀ b o, g.get? b = some o → s''.heap.get? b = some o) → kap (.send .none) s''
noncomputable def GP (N₁ Lg : Addr) : Nat → Shared → Shared → Prop := fun n s₀ s₁ => n = 0 ∧ ∃ h' tk', s₁ = { s₀ with heap := h', toks := tk' } ∧ ∀ b o, b < N₁ → b ≠ Lg → s₀.heap.get? b = some o → h'.get? b = some o
noncomputable abbrev gEnv (L : Addr) : Env := envOf (S "_iter_escaped_chars") (scopeOf (St 6)) L 59 (.ref 58)
noncomputable def gFor : Stmt := (bodyOf (St 6)).getD 2 (.Pass default)
noncomputable def gTail : List Stmt := (bodyOf (St 6)).drop 3
noncomputable def forT : Stmt → Expr
  | .For t _ _ _ _ => t
  | _ => default
noncomputable def forB : Stmt → List Stmt
  | .For _ _ b _ _ => b
  | _ => []
noncomputable abbrev gCode (L e : Addr) : Code := .forLoop (forT gFor) (.ref e) (forB gFor) [] (gEnv L)
noncomputable abbrev gFun (L : Addr) : Code := .func (bodyOf (St 6)) (gEnv L)
noncomputable abbrev gK (L : Addr) : Flow → Sem Fin := fun f => match f with
  | .next => (execs gTail (gEnv L)).wrap (fun f => .pure (.done (.ret (match f with | .ret v => v | _ => .none)))) (fun e => (leaving (gEnv L) e).wrap (fun _ => .raise e) .raise id id) id id
  | f => .pure (.done (.ret (match f with | .ret v => v | _ => .none)))
noncomputable abbrev gH (L : Addr) : Value → Sem Fin := fun e => (leaving (gEnv L) e).wrap (fun _ => .raise e) .raise id id
noncomputable abbrev gFr (L : Addr) (p : Pos) : Frame := .ret (gsOwn (gEnv L) (gK L) (gH L) id id) none (id false) (id []) (gFun L) p []
noncomputable def gM (y : Str) (ty : Tok) (b : Bool) (pv cv : Option Value) : Str → Option Value := fun z => if z = Str.ofString "ch" then cv else if z = Str.ofString "pos" then pv else if z = Str.ofString "escape" then some (.bool b) else if z = Str.ofString "addr" then some (.str y ty) else none
noncomputable def Cov (g : Heap) (N₁ Lg : Addr) (h₀ : Heap) (cons : List (Addr × Obj)) : Prop := (∀ b o, b < N₁ → b ≠ Lg → g.get? b = none → h₀.get? b = some o → (b, o) ∈ cons) ∧ ∀ q ∈ cons, q.1 < N₁
theorem cov_keep {g h₀ h : Heap} {N₁ Lg : Addr} {cons : List (Addr × Obj)} {m : Str → Option Value} (C : Cov g N₁ Lg h₀ cons) (F₀ : ∀ b o, g.get? b = some o → h₀.get? b = some o) (F : Fr g Lg h m) (N : News g Lg h cons) : ∀ b o, b < N₁ → b ≠ Lg → h₀.get? b = some o → h.get? b = some o := by
  intro b o h1 h2 x
  cases hg : g.get? b with
  | none => exact (N _ (C.1 b o h1 h2 hg x)).1
  | some o' =>
    have := F₀ b o' hg
    rw [x] at this
    cases this
    exact F.keep b o hg
theorem cov_make (g h : Heap) (N₁ Lg : Addr) : ∃ cons, Cov g N₁ Lg h cons ∧ News g Lg h cons := by
  refine ⟨(List.range N₁).filterMap fun b => if b = Lg ∨ (g.get? b).isSome = true then none else (h.get? b).map fun o => (b, o), ⟨?_, ?_⟩, ?_⟩
  · intro b o h1 h2 h3 x
    refine List.mem_filterMap.mpr ⟨b, List.mem_range.mpr h1, ?_⟩
    rw [if_neg (by rw [h3]; simp [h2]), x]; rfl
  · intro q hq
    obtain ⟨b, hb, e⟩ := List.mem_filterMap.mp hq
    split at e
    · cases e
    · obtain ⟨o, _, e2⟩ := Option.map_eq_some_iff.mp e
      rw [← e2]; exact List.mem_range.mp hb
  · intro q hq
    obtain ⟨b, hb, e⟩ := List.mem_filterMap.mp hq
    split at e
    · cases e
    · rename_i hn
      obtain ⟨o, hx, e2⟩ := Option.map_eq_some_iff.mp e
      rw [← e2]
      refine ⟨hx, fun e3 => hn (.inl e3), ?_⟩
      cases hg : g.get? b with
      | none => rfl
      | some o' => exact absurd (.inr (by rw [hg]; rfl)) hn
theorem gen_end {w : World} {A : Around} (hA : A.handled = none) {g : Heap} {N₁ Lg : Addr} {YS : List (Nat × Str)} {y : Str} {ty : Tok} {pv cv : Option Value} {s₀ : Shared} {h : Heap} {tk : Nat} {cons : List (Addr × Obj)}
    (F : Fr g Lg h (gM y ty false pv cv)) (hg₀ : ∀ b o, g.get? b = some o → s₀.heap.get? b = some o) (C : Cov g N₁ Lg s₀.heap cons) (N : News g Lg h cons) :
    Seg (model prog w) A (fun n s₀ r s₁ => r = .ok (.ret .none) ∧ GP N₁ Lg n s₀ s₁) (GY g N₁ Lg YS) 0 s₀ (gFun Lg) (gK Lg .next) [] { s₀ with heap := h, toks := tk } := by
  show Seg _ _ _ _ _ _ _ ((execs gTail (gEnv Lg)).wrap _ _ id id) _ _
  have e : gTail = [gTail.head!] := by with_unfolding_all rfl
  rw [e]
  refine seg_execs_cons ?_
  with_unfolding_all refine gs_If ?_
  k_steps
  exact seg_execs_nil (seg_execs_nil (seg_end (.ok (.ret .none)) ⟨rfl, rfl, _, _, rfl, cov_keep C hg₀ F N⟩))
noncomputable abbrev St2 (it : Addr) (Ty : String) (y : Str) (ty : Tok) : Nat → Heap → Prop := fun i h => h.IsStrIter it Ty y ty i
noncomputable abbrev SgAt (y : Str) : Nat → Value → Prop := fun i v => ∃ c u, y.cps[i]? = some c ∧ v = .str ⟨#[c]⟩ u
theorem fr_cong {h₀ h : Heap} {L : Addr} {m m' : Str → Option Value} (F : Fr h₀ L h m) (e : ∀ z, m z = m' z) : Fr h₀ L h m' := by rw [show m' = m from funext fun z => (e z).symm]; exact F
theorem fr_up {h₀ h h' : Heap} {L : Addr} {m : Str → Option Value} (F : Fr h₀ L h m) (hL : ∀ o, h.get? L = some o → h'.get? L = some o) (hk : ∀ b o, h₀.get? b = some o → h'.get? b = some o) : Fr h₀ L h' m := ⟨F.ns.at hL, hk, F.above⟩
theorem drop_cons {α : Type} {l : List α} {i : Nat} {c : α} {r : List α} (h : l.drop i = c :: r) : l[i]? = some c ∧ l.drop (i + 1) = r := by
  constructor
  · rw [← List.head?_drop, h]; rfl
  · rw [← List.drop_drop, h]; rfl
theorem gM_esc {y : Str} {ty : Tok} {b b' : Bool} {pv cv : Option Value} (z : Str) : (if z = Str.ofString "escape" then some (Value.bool b') else gM y ty b pv cv z) = gM y ty b' pv cv z := by
  unfold gM
  by_cases hz : z = Str.ofString "escape"
  · subst hz
    rw [if_pos rfl, if_neg (by decide +kernel), if_neg (by decide +kernel), if_pos rfl]
  · simp only [if_neg hz]
theorem gen_loop {w : World} {A : Around} (hA : A.handled = none) {g : Heap} {N₁ Lg e it : Addr} {Ty : String} {YS : List (Nat × Str)} {y : Str} {ty : Tok} (p : Pos) (hg : g.objs.size ≤ N₁) (he1 : N₁ ≤ e) (hi1 : N₁ ≤ it) (hLg : Lg < N₁) (hei : e ≠ it)
    (D : ∀ A : Around, A.handled = none → Draws prog w A it [it] y.cps.size (SgAt y) (St2 it Ty y ty)) :
    ∀ (r : List Nat) (i : Nat) (b : Bool) (pre : List (Nat × Str)) (s₀ : Shared) (h : Heap) (tk : Nat) (pv cv : Option Value) (old : Value) (cons : List (Addr × Obj)), i ≤ y.cps.size → y.cps.toList.drop i = r → YS = pre ++ esc i b r → escEnd b r = false →
      Fr g Lg h (gM y ty b pv cv) → IsEnum h e it ((i : Nat) : Int) old → St2 it Ty y ty i h → (∀ b o, g.get? b = some o → s₀.heap.get? b = some o) → Cov g N₁ Lg s₀.heap cons → News g Lg h cons →
      Seg (model prog w) A (fun n s₀ r s₁ => r = .ok (.ret .none) ∧ GP N₁ Lg n s₀ s₁) (GY g N₁ Lg YS) (esc i b r).length s₀ (gCode Lg e) ((model prog w).den (gCode Lg e)) [gFr Lg p] { s₀ with heap := h, toks := tk }
  | [], i, b, pre, s₀, h, tk, pv, cv, old, cons, hin, hr, hY, hE, F, he, hst, hg₀, C, N => by
    have hb : b = false := hE
    subst hb
    have hA2 : (A.over (gCode Lg e) [gFr Lg p]).in1.handled = none := hA
    have hi' : i = y.cps.size := by
      have := List.drop_eq_nil_iff.mp hr
      rw [Array.length_toList] at this
      omega
    have hst' : St2 it Ty y ty y.cps.size h := hi' ▸ hst
    refine gs_forLoop (wpAny_pyNext_enum_endD (D _ hA2) he hst' fun h' hx => ?_)
    refine gs_block_nil (gs_back ?_)
    have hx2 : ∀ b o, b ≠ it → h.get? b = some o → h'.get? b = some o := hx
    exact gen_end hA (fr_up F (fun o x => hx2 _ _ (Nat.ne_of_lt (Nat.lt_of_lt_of_le hLg hi1)) x) (fun b o x => hx2 b o (Nat.ne_of_lt (Nat.lt_of_lt_of_le (Heap.lt_size x) (Nat.le_trans hg hi1))) (F.keep b o x))) hg₀ C (fun q hq => ⟨hx2 _ _ (Nat.ne_of_lt (Nat.lt_of_lt_of_le (C.2 q hq) hi1)) (N q hq).1, (N q hq).2⟩)
  | c :: r, i, b, pre, s₀, h, tk, pv, cv, old, cons, hin, hr, hY, hE, F, he, hst, hg₀, C, N => by
    obtain ⟨hc, hr'⟩ := drop_cons hr
    have hc : y.cps[i]? = some c := by rw [← Array.getElem?_toList]; exact hc
    have hi : i < y.cps.size := (Array.getElem?_eq_some_iff.mp hc).1
    have hA2 : (A.over (gCode Lg e) [gFr Lg p]).in1.handled = none := hA
    have hgL : g.objs.size ≤ Lg := F.above
    refine gs_forLoop (wpAny_pyNext_enum_itemD (D _ hA2) he hst hi hei (fun hm => hei (List.mem_singleton.mp hm)) ?_)
    rintro x h1 tk1 ⟨c', u, hc', rfl⟩ ho1 hst1 hT1 hz1 hk1
    rw [hc] at hc'
    obtain rfl := Option.some.inj hc'
    dsimp only at hT1 hz1 hk1
    refine wpAny_letOwnedTupleGo_enum ho1 fun h2 he2 hs2 => ?_
    have hT : N₁ ≤ h.objs.size := Nat.le_trans he1 (Nat.le_of_lt (Heap.lt_size he))
    have hTe : h.objs.size ≠ e := Nat.ne_of_gt (Heap.lt_size he)
    have hTi : h.objs.size ≠ it := by obtain ⟨o, ho, _⟩ := id hst; exact Nat.ne_of_gt (Heap.lt_size ho)
    replace hs2 : ∀ b, b ≠ e → h2.get? b = h1.get? b := fun b hb => hs2.2 b hb
    have hup : ∀ b o, b ≠ e → b ≠ it → h.get? b = some o → h2.get? b = some o := fun b o h3 h4 x => (hs2 b h3).trans (hk1 b o h3 h4 x)
    have hT2 := (hs2 _ hTe).trans hT1
    obtain ⟨oi, hoi, hoc, hod⟩ := hst1
    replace hoi := (hs2 it (Ne.symm hei)).trans hoi
    have F2 : Fr g Lg h2 (gM y ty b pv cv) := fr_up F (fun o x => hup _ _ (Nat.ne_of_lt (Nat.lt_of_lt_of_le hLg he1)) (Nat.ne_of_lt (Nat.lt_of_lt_of_le hLg hi1)) x) (fun b o x => hup b o (Nat.ne_of_lt (Nat.lt_of_lt_of_le (Heap.lt_size x) (Nat.le_trans hg he1))) (Nat.ne_of_lt (Nat.lt_of_lt_of_le (Heap.lt_size x) (Nat.le_trans hg hi1))) (F.keep b o x))
    have N2 : News g Lg h2 ((h.objs.size, ({ cls := .type "tuple", data := .seq #[.int ((i : Nat) : Int) tk1, .str (sg1 c) u] } : Obj)) :: (e, _) :: (it, oi) :: cons) :=
      List.forall_mem_cons.mpr ⟨⟨hT2, Nat.ne_of_gt (Nat.lt_of_lt_of_le hLg hT), Heap.get?_none_of_le (Nat.le_trans hg hT)⟩, List.forall_mem_cons.mpr ⟨⟨he2, Nat.ne_of_gt (Nat.lt_of_lt_of_le hLg he1), Heap.get?_none_of_le (Nat.le_trans hg he1)⟩, List.forall_mem_cons.mpr ⟨⟨hoi, Nat.ne_of_gt (Nat.lt_of_lt_of_le hLg hi1), Heap.get?_none_of_le (Nat.le_trans hg hi1)⟩,
        fun q hq => ⟨hup _ _ (Nat.ne_of_lt (Nat.lt_of_lt_of_le (C.2 q hq) he1)) (Nat.ne_of_lt (Nat.lt_of_lt_of_le (C.2 q hq) hi1)) (N q hq).1, (N q hq).2⟩⟩⟩⟩
    generalize hTa : h.objs.size = Ta at *
    clear hs2 hT1 hT2 hoi he2 hk1 hz1 ho1 he F hst N hup hTa
    (with_unfolding_all refine unpackN_ F2 N2 (News.isTup N2 (.head _)) hA (by exact rfl) (by exact rfl) ?_)
    intro h3 F3 N3
    clear F2 N2
    k_steps
    rename Fr _ _ _ _ => F4
    rename News _ _ _ _ => N4
    replace F4 : Fr g Lg _ (gM y ty b (some (.int ((i : Nat) : Int) tk1)) (some (.str (sg1 c) u))) := fr_cong F4 (by intro z; unfold gM; (repeat' split) <;> first | rfl | (subst_vars; contradiction))
    have eB : forB gFor = [(forB gFor).head!] := by with_unfolding_all rfl
    rw [show execs (forB gFor) (gEnv Lg) = execs [(forB gFor).head!] (gEnv Lg) from congrArg (fun b => execs b _) eB]
    refine seg_execs_cons ?_
    with_unfolding_all refine gs_If ?_
    cases b
    · k_steps
      refine seg_execs_cons ?_
      with_unfolding_all refine gs_If ?_
      k_steps
      · rename _ = true => c5
        have c5 : sg1 c = Str.ofString "\\" := beq_iff_eq.mp c5
        rw [show esc i false (c :: r) = esc (i + 1) true r from if_pos c5]
        refine gs_step ?_
        k_steps
        refine seg_execs_nil (seg_execs_nil (seg_execs_nil (seg_again rfl ?_)))
        rename Fr _ _ _ _ => F9
        rename News _ _ _ _ => N9
        exact gen_loop hA p hg he1 hi1 hLg hei D r (i + 1) true pre s₀ _ _ _ _ _ cons hi hr' (by rw [hY]; exact congrArg _ (if_pos c5)) (by rw [← hE]; show _ = escEnd (decide _) r; rw [decide_eq_true c5]) (fr_cong F9 gM_esc) (N9 _ (.tail _ (.head _))).1 ⟨oi, (N9 _ (.tail _ (.tail _ (.head _)))).1, hoc, hod⟩ hg₀ C (fun q hq => N9 q (.tail _ (.tail _ (.tail _ hq))))
      · rename _ = false => c5
        have c5 : sg1 c ≠ Str.ofString "\\" := fun e => by rw [beq_iff_eq.mpr e] at c5; cases c5
        have eE : esc i false (c :: r) = (i, sg1 c) :: esc (i + 1) false r := if_neg c5
        rw [eE]
        rw [eE] at hY
        refine seg_execs_cons (seg_Expr_Yield (n := (esc (i + 1) false r).length) rfl rfl rfl ?_)
        have sl1 : (Str.ofString "\\").length ≤ 1 := by decide +kernel
        have sl2 : (sg1 c).length ≤ 1 := Nat.le_refl 1
        have a1 := N4
        k_steps
        rename_i kap hkap
        rename Fr _ _ _ _ => F6
        rename News _ _ _ _ => N6
        refine ⟨_, _, _, i, _, _, _, pre, esc (i + 1) false r, rfl, hY, rfl, rfl, Nat.le_trans he1 (Nat.le_of_lt (Heap.lt_size (a1 _ (.tail _ (.head _))).1)), (N6 _ (.head _)).1, cov_keep C hg₀ F6 (fun q hq => N6 q (.tail _ (.tail _ (.tail _ (.tail _ hq))))), fun s'' hown hg' => hkap .none s'' ?_⟩
        obtain ⟨cons2, C2, N7⟩ := cov_make g s''.heap N₁ Lg
        have F7 : Fr g Lg s''.heap (gM y ty false (some (.int ((i : Nat) : Int) tk1)) (some (.str (sg1 c) u))) := fr_up F6 (fun o x => hown _ _ (.inl rfl) x) hg'
        have N8 : News g Lg s''.heap ((e, _) :: (it, oi) :: cons2) := List.forall_mem_cons.mpr ⟨⟨hown e _ (.inr he1) (N6 _ (.tail _ (.tail _ (.head _)))).1, (N6 _ (.tail _ (.tail _ (.head _)))).2⟩, List.forall_mem_cons.mpr ⟨⟨hown it _ (.inr hi1) (N6 _ (.tail _ (.tail _ (.tail _ (.head _))))).1, (N6 _ (.tail _ (.tail _ (.tail _ (.head _))))).2⟩, N7⟩⟩
        clear N4 F4 N6 F6 F3 N3 N7
        refine seg_execs_nil (seg_execs_nil (seg_execs_nil (seg_again rfl ?_)))
        exact gen_loop hA p hg he1 hi1 hLg hei D r (i + 1) false (pre ++ [(i, _)]) s'' _ s''.toks _ _ _ cons2 hi hr' (by rw [hY, List.append_assoc]; rfl) (by have hE' : escEnd (decide (sg1 c = Str.ofString "\\")) r = false := hE; rwa [decide_eq_false c5] at hE') F7 (N8 _ (.head _)).1 ⟨oi, (N8 _ (.tail _ (.head _))).1, hoc, hod⟩ hg' C2 (fun q hq => N8 q (.tail _ (.tail _ hq)))
    · k_steps
      rw [show (esc i true (c :: r)).length = (esc (i + 1) false r).length + 1 from rfl]
      refine seg_execs_cons (seg_Expr_Yield rfl rfl rfl ?_)
      have sl1 : (Str.ofString "\\").length ≤ 1 := by decide +kernel
      have sl2 : (sg1 c).length ≤ 1 := Nat.le_refl 1
      have a1 := N4
      k_steps
      rename_i kap hkap
      rename Fr _ _ _ _ => F6
      rename News _ _ _ _ => N6
      refine ⟨_, _, _, i, _, _, _, pre, esc (i + 1) false r, rfl, hY, rfl, rfl, Nat.le_trans he1 (Nat.le_of_lt (Heap.lt_size (a1 _ (.tail _ (.head _))).1)), (N6 _ (.head _)).1, cov_keep C hg₀ F6 (fun q hq => N6 q (.tail _ (.tail _ (.tail _ (.tail _ hq))))), fun s'' hown hg' => hkap .none s'' ?_⟩
      obtain ⟨cons2, C2, N7⟩ := cov_make g s''.heap N₁ Lg
      have F7 : Fr g Lg s''.heap (gM y ty true (some (.int ((i : Nat) : Int) tk1)) (some (.str (sg1 c) u))) := fr_up F6 (fun o x => hown _ _ (.inl rfl) x) hg'
      have N8 : News g Lg s''.heap ((e, _) :: (it, oi) :: cons2) := List.forall_mem_cons.mpr ⟨⟨hown e _ (.inr he1) (N6 _ (.tail _ (.tail _ (.head _)))).1, (N6 _ (.tail _ (.tail _ (.head _)))).2⟩, List.forall_mem_cons.mpr ⟨⟨hown it _ (.inr hi1) (N6 _ (.tail _ (.tail _ (.tail _ (.head _))))).1, (N6 _ (.tail _ (.tail _ (.tail _ (.head _))))).2⟩, N7⟩⟩
      clear N4 F4 N6 F6 F3 N3 N7
      refine gs_step ?_
      k_steps
      refine seg_execs_nil (seg_execs_nil (seg_again rfl ?_))
      rename Fr _ _ _ _ => F9
      rename News _ _ _ _ => N9
      exact gen_loop hA p hg he1 hi1 hLg hei D r (i + 1) false (pre ++ [(i, _)]) s'' _ _ _ _ _ cons2 hi hr' (by rw [hY, List.append_assoc]; rfl) hE (fr_cong F9 gM_esc) (N9 _ (.head _)).1 ⟨oi, (N9 _ (.tail _ (.head _))).1, hoc, hod⟩ hg' C2 (fun q hq => N9 q (.tail _ (.tail _ hq)))
end Mine
namespace Mine
open PySem PySem.W PySem.Calls PyProof.Rows PyProof.V PyProof.Rows.LCt PyProof.Rows.LCg
theorem regGen2 (w : World) (h : Heap) (X : (K w.params).In h) : PySem.Challenge.rw_wf0109_01.row.prog = PySem.Challenge.rw_wf0109_01.row.prog → (K w.params).In h := by
  k_fill
  exact fun _ => X
local macro_rules | `(tactic| walk_at "call type:enumerate") => `(tactic| (k_here; (with_reducible show wpAny _ _ (call (Value.type _) [Value.str _ _]) _ _ _); refine hold ?_))
theorem gen_start {w : World} {A : Around} (hA : A.handled = none) {g : Heap} {N₁ Lg : Addr} {y : Str} {ty : Tok} {s : Shared} {p : Program} {loose : List Str} {mean : ExcName → Option Value} {mg mb : Str → Option Value} (X : (K w.params).In g) (T : Top p loose mean mg mb g)
    {GA : Addr} {og : Obj} (hG : s.heap.get? GA = some og) (hN : N₁ = GA + 1) (hgG : g.objs.size ≤ GA) (hLg : Lg < GA) (hE : escEnd false y.cps.toList = false) (F : Fr g Lg s.heap (fun z => if z = Str.ofString "addr" then some (.str y ty) else none)) :
    Seg (model prog w) A (fun n s₀ r s₁ => r = .ok (.ret .none) ∧ GP N₁ Lg n s₀ s₁) (GY g N₁ Lg (esc 0 false y.cps.toList)) (esc 0 false y.cps.toList).length s (gFun Lg) ((model prog w).den (gFun Lg)) [] s := by
  subst hN
  have hg₀ := F.keep
  refine seg_func ?_
  obtain ⟨cons, C, N⟩ := cov_make g s.heap (GA + 1) Lg
  with_unfolding_all refine gs_step ?_
  k_steps
  with_unfolding_all refine gs_step ?_
  k_steps
  with_unfolding_all refine seg_execs_cons ?_
  with_unfolding_all refine gs_For ?_
  k_steps
  refine unhold ?_
  rename Fr _ _ _ _ => F4
  rename News _ _ _ _ => N4
  have hsz : GA < _ := Heap.lt_size (N4 (GA, og) (C.1 GA og (Nat.lt_succ_self _) (Nat.ne_of_gt hLg) (Heap.get?_none_of_le hgG) hG)).1
  refine call_enumerate_str fun h' he hit hz hk => ?_
  refine wpAny_pyIter_enum he ?_
  intro p
  have hg1 : g.objs.size ≤ GA + 1 := Nat.le_succ_of_le hgG
  have hL1 : Lg < GA + 1 := Nat.lt_succ_of_lt hLg
  have F5 : Fr g Lg h' (gM y ty false (some (.int 0 s.toks)) none) := fr_cong (fr_up F4 (fun o x => hk _ _ x) (fun b o x => hk _ _ (F4.keep b o x))) (by intro z; unfold gM; (repeat' split) <;> first | rfl | (subst_vars; contradiction))
  have N5 : News g Lg h' cons := fun q hq => ⟨hk _ _ (N4 q hq).1, (N4 q hq).2⟩
  refine gen_loop (Ty := strIterType y) hA p hg1 (Nat.le_succ_of_le hsz) hsz hL1 (Nat.succ_ne_self _) ?_ y.cps.toList 0 false [] s h' _ _ _ _ cons (Nat.zero_le _) rfl rfl hE F5 he hit hg₀ C N5
  intro A hA
  unfold strIterType
  cases ha : y.cps.all (· < 128)
  · exact Draws.strWide hA _ y ty
  · exact Draws.strAscii hA _ y ty
end Mine
namespace Mine
open PySem PySem.W PySem.Calls PyProof.Rows PyProof.V PyProof.Rows.LCt PyProof.Rows.LCg
theorem look59 (P : Params) : (K P).lookup 59 = some (o59 P) := by kernel_rfl
theorem code59 (P : Params) : codeIn (K P) (.ref 58) (S "_iter_escaped_chars") = true := by kernel_rfl
theorem gen_call {w : World} {A : Around} {E : Value → Shared → Prop} {s : Shared} {Q : Value → Shared → Prop} {y : Str} {ty : Tok} (X : (K w.params).In s.heap) (hlim : s.heap.NoLimit) (hroom : A.depth < recursionLimit)
    (h : ∀ h' tk', h'.Ns s.heap.objs.size (fun z => if z = Str.ofString "addr" then some (.str y ty) else none) → h'.IsGen (s.heap.objs.size + 1) s.gens.size → (∀ b o, s.heap.get? b = some o → h'.get? b = some o) →
      Q (.ref (s.heap.objs.size + 1)) { s with heap := h', toks := tk', gens := s.gens.push (.fresh (gFun s.heap.objs.size)) }) :
    wpAny (model prog w) A (call (.ref 59) [.str y ty]) Q E s := by
  refine wpAny_call (codeAny_call_generator (body := bodyOf (St 6)) hroom (X 59 _ (look59 _)) rfl rfl (by with_unfolding_all rfl) rfl (codeRec_of X (code59 _)) ?_)
  refine BindsTo.of_eq (binds := [(Str.ofString "addr", .str y ty)]) (by with_unfolding_all rfl) _ _ _ _ ?_
  refine wpAny_newFunctionEnv (by decide) (by intro x hx; rw [List.mem_singleton.mp hx]; with_unfolding_all rfl) (fun h₀ hns hsb => ⟨hlim.fresh _ hsb, ?_⟩) (by with_unfolding_all rfl)
  have hz : h₀.objs.size = s.heap.objs.size + 1 := hsb.1.trans (Heap.size_push ..)
  have hup : ∀ b o, s.heap.get? b = some o → h₀.get? b = some o := fun b o e => hsb.extBut b o (Nat.ne_of_lt (Heap.lt_size e)) (Heap.get?_push_of_some _ e)
  show Q (.ref h₀.objs.size) _
  rw [hz]
  have hns' : h₀.Ns s.heap.objs.size (fun z => if z = Str.ofString "addr" then some (.str y ty) else none) := by
    rw [show (fun z => if z = Str.ofString "addr" then some (Value.str y ty) else none) = fun x => List.lookup x [(Str.ofString "addr", Value.str y ty)].reverse from funext fun z => by
      show _ = List.lookup z [(Str.ofString "addr", Value.str y ty)]
      rw [List.lookup_cons]
      by_cases hz : z = Str.ofString "addr"
      · rw [if_pos hz, hz]; simp
      · rw [if_neg hz, show (z == Str.ofString "addr") = false from by simpa using hz]; rfl]
    exact hns
  refine h _ _ (hns'.push _) ?_ (fun b o e => Heap.get?_push_of_some _ (hup b o e))
  rw [← hz]
  exact ⟨_, _, _, Heap.get?_push_size _ rfl, rfl, rfl, rfl⟩
end Mine
namespace Mine
open PySem PySem.W PySem.Calls PyProof.Rows PyProof.V PyProof.Rows.LCt PyProof.Rows.LCg
theorem regNear (w : World) (h : Heap) (X : (K w.params).In h) : PySem.Challenge.rw_wf0109_01.row.prog = PySem.Challenge.rw_wf0109_01.row.prog → (K w.params).In h := by
  k_fill
  exact fun _ => X
noncomputable def pwL (n : Nat) : Int := 2 ^ (Txt.find (Str.ofString "bgcrmyw") ⟨#[n]⟩).toNat
noncomputable abbrev isL7n (n : Nat) : Prop := n = 98 ∨ n = 103 ∨ n = 99 ∨ n = 114 ∨ n = 109 ∨ n = 121 ∨ n = 119
local macro_rules | `(tactic| walk_at "eval ListComp") => `(tactic| (k_here; (with_reducible show wpAny _ _ (eval (Expr.ListComp _ [⟨_, _, [], _⟩] _ _) _) _ _ _); k_dflt (refine ListComp_SU (F₀ := by k_asm) (by with_unfolding_all rfl) (by decide) (by rfl) (by decide) (by rfl) ?_)))
theorem pw_lo {n : Nat} (h : isL7n n) : 0 ≤ Txt.find (Str.ofString "bgcrmyw") ⟨#[n]⟩ := by rcases h with rfl | rfl | rfl | rfl | rfl | rfl | rfl <;> decide +kernel
theorem pw_hi {n : Nat} (h : isL7n n) : Txt.find (Str.ofString "bgcrmyw") ⟨#[n]⟩ < 7 := by rcases h with rfl | rfl | rfl | rfl | rfl | rfl | rfl <;> decide +kernel
theorem pw_no {n : Nat} (h : isL7n n) : Txt.find (Str.ofString "bgcrmyw") ⟨#[n]⟩ ≠ -1 := by have := pw_lo h; omega
theorem ints_pw {ys : List Value} {pre : List Nat} {n : Nat} {t : Tok} (h : IntsAre ys (pre.map pwL)) : IntsAre (ys ++ [.int (2 ^ (Txt.find (Str.ofString "bgcrmyw") ⟨#[n]⟩).toNat) t]) ((pre ++ [n]).map pwL) := by
  rw [List.map_append]
  exact ints_snoc h
noncomputable abbrev Gt (r : Str × Tok) : Prop := r.1.cps.size ≤ 3 ∧ ∀ n ∈ r.1.cps.toList, isL7n n
noncomputable def sumL (r : Str × Tok) : Int := (r.1.cps.toList.map pwL).sum
theorem three_size {n : Nat} (h : n ≤ 3) : n ≤ sizeLine := Nat.le_trans h (by decide)
theorem ints_sum {ys : List Value} {pre : List (Str × Tok)} {r : Str × Tok} {v : Int} {t : Tok} (h : IntsAre ys (pre.map sumL)) (e : v = sumL r) : IntsAre (ys ++ [.int v t]) ((pre ++ [r]).map sumL) := by
  rw [List.map_append, e]
  exact ints_snoc h
local macro_rules | `(tactic| walk_at "TextU") => `(tactic| (k_here; (rename Gt _ => hG9); refine textU_all isL7n (fun ns ys => IntsAre ys (ns.map pwL)) rfl (by k_asm) (by k_asm) (three_size hG9.1) .nil hG9.2 ?t9 ?f9; (case t9 => (intro n9 pre9 u9 I9 oI9 C9 oC9 D9 m9 ys9 h9 tk9 E9 hn9 hp9 hC9 hx9 F9 N9 off9 ne9; (have lo9 := pw_lo hn9); (have hi9 := pw_hi hn9); k_steps; all_goals first | exact absurd (by assumption) (pw_no hn9) | exact CompEnd.intro F9 N9 _ (fun _ hp => hp) off9 trivial ⟨rfl, ints_pw hp9⟩)); (case' f9 => (intro g9 ys9 hp9 D9 h9 tk9 F9 N9 o9; (try dsimp only)))))
noncomputable abbrev rows4 (a b c d : Tok) : List (Str × Tok) := [(Str.ofString "rgy", a), (Str.ofString "gbc", b), (Str.ofString "rbm", c), (Str.ofString "rcw", d)]
theorem gt_rows (a b c d : Tok) : ∀ r ∈ rows4 a b c d, Gt r := by
  intro r hr
  simp only [List.mem_cons, List.not_mem_nil, or_false] at hr
  rcases hr with rfl | rfl | rfl | rfl <;> exact ⟨show _ ≤ 3 by dsimp only; decide +kernel, by dsimp only; decide +kernel⟩
local macro_rules | `(tactic| walk_at "CompSrc") => `(tactic| (k_here; refine hold ?_))
noncomputable def threesL : List Int := [42, 7, 25, 76]
noncomputable def codeK (c : Int) : Nat → Int
  | 0 => 0
  | k + 1 => if Int.fmod (Int.fdiv c (2 ^ k)) 2 = 1 then Builtin.bitXor (codeK c k) (threesL.getD k 0) else codeK c k
noncomputable def letK (k : Nat) : Str := ⟨#[(Str.ofString "bgcrmyw").cps.getD k 0]⟩
noncomputable def lettersL (code : Int) : Nat → List Str
  | 0 => []
  | k + 1 => if Int.fmod (Int.fdiv code (2 ^ k)) 2 = 1 then lettersL code k ++ [letK k] else lettersL code k
noncomputable def nearL (word : Int) : Nat → List Str
  | 0 => []
  | i + 1 => if Builtin.bitAnd (Builtin.bitXor (codeK (0 + (i : Int)) 4) word) (Builtin.bitXor (codeK (0 + (i : Int)) 4) word - 1) = 0 then nearL word i ++ [Txt.join (Str.ofString "") (lettersL (codeK (0 + (i : Int)) 4) 7)] else nearL word i
theorem three_sums (a b c d : Tok) : (rows4 a b c d).map sumL = threesL := by kernel_rfl
theorem lt4 {j : Nat} (h : j < 4) : 0 + (j : Int) < (threesL.length : Int) := by show _ < ((4 : Nat) : Int); omega
theorem codeK_yes {c : Int} {j : Nat} (h : Int.fmod (Int.fdiv c (2 ^ (0 + (j : Int)).toNat)) 2 = 1) : codeK c (j + 1) = Builtin.bitXor (codeK c j) (threesL.getD (0 + (j : Int)).toNat 0) := by
  have e : (0 + (j : Int)).toNat = j := by omega
  rw [e] at h ⊢
  show (if _ then _ else _) = _
  rw [if_pos h]
theorem codeK_no {c : Int} {j : Nat} (h : Int.fmod (Int.fdiv c (2 ^ (0 + (j : Int)).toNat)) 2 ≠ 1) : codeK c (j + 1) = codeK c j := by
  have e : (0 + (j : Int)).toNat = j := by omega
  rw [e] at h
  show (if _ then _ else _) = _
  rw [if_neg h]
local macro_rules | `(tactic| walk_at "subscriptTail") => `(tactic| (k_here; (with_reducible show wpAny _ _ (subscriptTail _ _ (Value.ref _) (Value.int (0 + _) _)) _ _ _); refine ints_item (ns := threesL) (by k_asm) (by k_mem) (by assumption) (by omega) (lt4 (by assumption)) (by omega) ?_; intro t9))
local macro_rules | `(tactic| walk_at "storeName") => `(tactic| (k_here; k_dflt (refine' storeX_C ?F ?N ?c ?U ?d ?_ ?a ?b; (case F => k_asm); (case N => k_asm); (case a => rfl); (case b => rfl); (case c => rfl); (case U => first | (refine' UpdF.tail ?n1 (UpdF.tail ?n2 (UpdF.tail ?n3 (UpdF.head ?l))); (case l => with_reducible assumption); (case n1 => with_reducible assumption); (case n2 => with_reducible assumption); (case n3 => with_reducible assumption)) | (refine' UpdF.tail ?n1 (UpdF.tail ?n2 (UpdF.tail ?n3 (UpdF.tail ?n4 (UpdF.head ?l)))); (case l => with_reducible assumption); (case n1 => with_reducible assumption); (case n2 => with_reducible assumption); (case n3 => with_reducible assumption); (case n4 => with_reducible assumption))); (case d => k_asm); k_whole); intro h' o' F' N' d'; (try dsimp only at N')))
local macro_rules | `(tactic| walk_at "exec If") => `(tactic| (k_here; (with_reducible show wpAny _ _ (exec (Stmt.If (Expr.Compare (Expr.BinOp _ Operator.BitAnd _ _) _ _ _) _ _ _) _) _ _ _); refine wpAny_If ?_))
local macro_rules | `(tactic| walk_at "eval ListComp") => `(tactic| (k_here; (with_reducible show wpAny _ _ (eval (Expr.ListComp _ [⟨_, _, [_], _⟩] _ _) _) _ _ _); k_dflt (refine LCt.ListComp_T (F₀ := by k_asm) (by with_unfolding_all rfl) (by decide) (by rfl) (by decide) (by rfl) ?_)))
local macro_rules | `(tactic| walk_at "call builtin:str.join") => `(tactic| (k_here; (rename StrsAre _ (lettersL _ 7) => hj5); (rename News _ _ _ _ => N4); refine join_listW (News.isList N4 (.head _)) (join_toList hj5) (by decide) (lettersL_fit _) ?_; intro _ _))
local macro_rules | `(tactic| walk_at "call builtin:list.append") => `(tactic| (k_here; (with_reducible show wpAny _ _ (call (Value.builtin _) [Value.ref _, _]) _ _ _); k_dflt (refine' append_K ?k1 ?k2 (Upd.tail ?u0 (Upd.tail ?u1 (Upd.head ?u2))) ?_ ?z; (case k1 => k_asm); (case k2 => k_asm); (case u0 => with_reducible assumption); (case u1 => with_reducible assumption); (case u2 => with_reducible assumption); (case z => with_reducible assumption); k_whole); intro h' F' N'))
local macro_rules | `(tactic| walk_at "UnrEnd") => `(tactic| (k_here; refine hold ?_))
local macro_rules | `(tactic| walk_at "CompSrcT") => `(tactic| (k_here; refine hold ?_))
local macro_rules | `(tactic| walk_at "ks_h2") => `(tactic| (intro z hz1 hz2; (try dsimp only); (repeat (refine Eq.trans (if_neg ?k) ?_; (case k => first | (intro e; subst e; first | exact absurd hz2 (by decide) | exact hz1 _ (by simp) rfl) | (rw [hz2]; exact Bool.false_ne_true) | (intro e; (have e' := List.mem_singleton.mp (List.contains_iff_mem.mp e)); subst e'; exact absurd hz2 (by decide))))); exact rfl))
local macro_rules | `(tactic| walk_at "pyIter ref") => `(tactic| (k_here; refine hold ?_))
theorem off_like {I a b c d : Addr} {x y z u v : Obj} {news : List (Addr × Obj)} (l : ∀ p ∈ (a, x) :: (b, y) :: (c, z) :: (d, u) :: news, p.1 < I) : ∀ p ∈ (a, x) :: (b, y) :: (c, z) :: (d, v) :: news, p.1 ≠ I := by
  intro p hp
  refine Nat.ne_of_lt ?_
  simp only [List.mem_cons] at hp
  rcases hp with rfl | rfl | rfl | rfl | hp
  · exact l _ (.head _)
  · exact l _ (.tail _ (.head _))
  · exact l _ (.tail _ (.tail _ (.head _)))
  · exact l (d, u) (.tail _ (.tail _ (.tail _ (.head _))))
  · exact l p (.tail _ (.tail _ (.tail _ (.tail _ hp))))
theorem off_like3 {I a b c : Addr} {x x' y u v : Obj} {news : List (Addr × Obj)} (l : ∀ p ∈ (a, x) :: (b, y) :: (c, u) :: news, p.1 < I) : ∀ p ∈ (a, x') :: (b, y) :: (c, v) :: news, p.1 ≠ I := by
  intro p hp
  refine Nat.ne_of_lt ?_
  simp only [List.mem_cons] at hp
  rcases hp with rfl | rfl | rfl | hp
  · exact l (a, x) (.head _)
  · exact l _ (.tail _ (.head _))
  · exact l (c, u) (.tail _ (.tail _ (.head _)))
  · exact l p (.tail _ (.tail _ (.tail _ hp)))
theorem codeK_all : ((List.range 16).all fun i => decide (0 ≤ codeK (0 + (i : Int)) 4) && decide (codeK (0 + (i : Int)) 4 < 128)) = true := by decide +kernel
theorem codeK_lo {i : Nat} (h : i < 16) : 0 ≤ codeK (0 + (i : Int)) 4 := by
  have := List.all_eq_true.mp codeK_all i (List.mem_range.mpr h)
  simp only [Bool.and_eq_true, decide_eq_true_eq] at this
  exact this.1
theorem codeK_hi {i : Nat} (h : i < 16) : codeK (0 + (i : Int)) 4 < 128 := by
  have := List.all_eq_true.mp codeK_all i (List.mem_range.mpr h)
  simp only [Bool.and_eq_true, decide_eq_true_eq] at this
  exact this.2
theorem lettersL_w (code : Int) : ∀ k, (lettersL code k).length ≤ k ∧ ((lettersL code k).map (·.length)).sum = (lettersL code k).length
  | 0 => ⟨Nat.le_refl _, rfl⟩
  | k + 1 => by
    have ih := lettersL_w code k
    unfold lettersL
    split
    · rw [List.length_append, List.map_append, List.sum_append, ih.2]
      exact ⟨Nat.succ_le_succ ih.1, rfl⟩
    · exact ⟨Nat.le_succ_of_le ih.1, ih.2⟩
theorem lettersL_fit (code : Int) : ((lettersL code 7).map (·.length)).sum + (lettersL code 7).length ≤ 1048576 := by
  have := lettersL_w code 7
  rw [this.2]; omega
theorem lettersL_yes {c : Int} {j : Nat} (hj : j < 7) (h : Int.fmod (Int.fdiv c (2 ^ (0 + (j : Int)).toNat)) 2 = 1) : lettersL c (j + 1) = lettersL c j ++ [Txt.item (Str.ofString "bgcrmyw") (0 + (j : Int))] := by
  have e : (0 + (j : Int)).toNat = j := by omega
  rw [e] at h
  show (if _ then _ else _) = _
  rw [if_pos h]
  have : j = 0 ∨ j = 1 ∨ j = 2 ∨ j = 3 ∨ j = 4 ∨ j = 5 ∨ j = 6 := by omega
  rcases this with rfl | rfl | rfl | rfl | rfl | rfl | rfl <;> (congr 1)
theorem lettersL_no {c : Int} {j : Nat} (h : Int.fmod (Int.fdiv c (2 ^ (0 + (j : Int)).toNat)) 2 ≠ 1) : lettersL c (j + 1) = lettersL c j := by
  have e : (0 + (j : Int)).toNat = j := by omega
  rw [e] at h
  show (if _ then _ else _) = _
  rw [if_neg h]
theorem strs_snoc {v : Str} {t : Tok} : ∀ {vs : List Value} {ns : List Str}, StrsAre vs ns → StrsAre (vs ++ [.str v t]) (ns ++ [v])
  | _, _, .nil => .cons v t .nil
  | _, _, .cons z u r => .cons z u (strs_snoc r)
theorem nearL_len (word : Int) : ∀ i, (nearL word i).length ≤ i
  | 0 => Nat.le_refl _
  | i + 1 => by
    have ih := nearL_len word i
    unfold nearL
    split
    · rw [List.length_append]; exact Nat.succ_le_succ ih
    · exact Nat.le_succ_of_le ih
theorem nearL_no {word : Int} {i : Nat} (h : Builtin.bitAnd (Builtin.bitXor (codeK (0 + (i : Int)) 4) word) (Builtin.bitXor (codeK (0 + (i : Int)) 4) word - 1) ≠ 0) : nearL word (i + 1) = nearL word i := by
  show (if _ then _ else _) = _
  rw [if_neg h]
theorem nearL_yes {word : Int} {i : Nat} (h : Builtin.bitAnd (Builtin.bitXor (codeK (0 + (i : Int)) 4) word) (Builtin.bitXor (codeK (0 + (i : Int)) 4) word - 1) = 0) : nearL word (i + 1) = nearL word i ++ [Txt.join (Str.ofString "") (lettersL (codeK (0 + (i : Int)) 4) 7)] := by
  show (if _ then _ else _) = _
  rw [if_pos h]
theorem strs_len : ∀ {vs : List Value} {ns : List Str}, StrsAre vs ns → vs.length = ns.length
  | _, _, .nil => rfl
  | _, _, .cons _ _ r => congrArg (· + 1) (strs_len r)
theorem near_size {word : Int} {i : Nat} {vs : List Value} (h : StrsAre vs (nearL word i)) (hi : i < 16) : vs.toArray.size ≤ sizeLine := by
  rw [List.size_toArray, strs_len h]
  exact Nat.le_trans (nearL_len word i) (Nat.le_trans (Nat.le_of_lt hi) (by decide))
theorem join_toList {vs : List Value} {ns : List Str} (h : StrsAre vs ns) : StrsAre vs.toArray.toList ns := by simpa using h
structure NSt where
  o : Obj
  vs : List Value
  n : Nat
theorem near_drop {h₀ h : Heap} {L : Addr} {a b c : Addr × Obj} {r : List (Addr × Obj)} (N : News h₀ L h (a :: b :: c :: r)) : News h₀ L h (a :: r) := by
  intro q hq
  refine N q ?_
  rcases List.mem_cons.mp hq with e | hq
  · exact List.mem_cons.mpr (.inl e)
  · exact .tail _ (.tail _ (.tail _ hq))
theorem c_near (w : World) (news : List (Addr × Obj)) (word : Int) (t : Tok) (h0 : 0 ≤ word) (h1 : word < 128) : Ct w 1 311 news [.int word t] fun v xs => ∃ D vs n, v = .ref D ∧ xs = [(D, W.listOf vs.toArray n)] ∧ StrsAre vs (nearL word 16) := by
  unfold Ct; intros
  rename_i hret
  refine wpAny_call ?_
  (refine' code_defC ?k1 ?k2 ?k3 ?k4 ?k5 ?kA ?kF ?kK ?k6 ?k7 ?k8 ?k9 ?kB ?kD ?_ ?c2 ?c3 ?c4; (case kA => exact rfl); (case kF => exact rfl); (case kK => first | exact rfl | assumption); (case k1 => k_asm); (case k2 => k_asm); (case k3 => k_asm); (case k4 => k_asm); (case k5 => k_asm); (case k6 => k_is); (case k7 => k_is); (case k8 => ktr_room); (case k9 => first | exact BindsTo.of_eq rfl | exact binds_K (by k_in) rfl (by k_is) rfl rfl rfl); (case kB => exact rfl); (case kD => decide +kernel); (case c2 => exact rfl); (case c3 => exact rfl); (case c4 => exact rfl); k_whole; intro g' L' h' tk' cells' FG' F' N' Y' B' X' T' l1; (try k_lt l1); k_cells Y'; (try simp only [List.cons_append, List.nil_append] at N'); (try dsimp only); (try k_lift B'); (try k_fold))
  rename_i o9c d9c
  k_steps
  refine unhold ?_
  refine listU_all (fun (p : Str × Tok) => Value.str p.1 p.2) (rows4 _ _ _ _) Gt (fun ns ys nw => nw = _ ∧ IntsAre ys (ns.map sumL)) rfl (by k_asm) (by k_asm) (by k_mem) (show 4 ≤ sizeLine by decide) ⟨rfl, .nil⟩ (gt_rows _ _ _ _) ?t9 ?f9
  · rintro n9 pre9 I9 oI9 C9 oC9 D9 m9 ys9 ns9 h9 tk9 E9 hn9 ⟨rfl, hp9⟩ hC9 hx9 F9 N9 off9 ne9
    k_steps
    rename Fr g' _ _ _ => kF9
    rename News g' _ _ _ => kN9
    exact CompEnd.intro kF9 kN9 _ (fun _ hp => .tail _ hp) off9 (.inr ⟨_, .head _, rfl, _, rfl⟩) ⟨rfl, ints_sum hp9 rfl⟩
  · rintro g9 ys9 ns9 ⟨rfl, hp9⟩
    intro Dt h9 tk9 F9 N9 o9
    try dsimp only
    have hp8 : IntsAre ys9 threesL := by
      have e : (rows4 tk' (tk' + 1) (tk' + 1 + 1) (tk' + 1 + 1 + 1)).map sumL = threesL := three_sums _ _ _ _
      rw [e] at hp9
      exact hp9
    clear hp9
    have hc9 : ∀ p ∈ news, p.1 ≠ L' + 1 := fun p hp => Nat.ne_of_lt (Nat.lt_succ_of_lt (l1 p hp))
    have N8 : News g' L' h9 ((Dt, lst ys9) :: (L' + 1, o9c) :: news) := by
      intro p hp
      rcases List.mem_cons.mp hp with e | hp
      · exact N9 p (List.mem_cons.mpr (.inl e))
      · exact N9 p (.tail _ (.tail _ hp))
    clear N9
    k_steps
    refine unhold ?_
    rename IsRange _ _ _ _ _ _ _ _ => R9
    rename Fr g' _ _ _ => kF9
    rename News g' _ _ _ => kN9
    refine iter_rangeUnr (n := 16) (by rfl) R9 (by decide) (by decide) kF9 kN9 ?_
    intro I9 l9
    rename_i dn9 h8 ln9 h7 F7 N7 h6 tk6 t6 u6 v6 a6
    refine rrest_inv (σ := NSt) (fun c => (dn9, W.listOf c.vs.toArray c.n) :: (Dt, lst ys9) :: (L' + 1, c.o) :: news) (fun c => []) [S "choice", S "k", S "apart"] (fun i c => (∃ ov, c.o.data = .cell ov) ∧ StrsAre c.vs (nearL word i)) ⟨o9c, [], 0⟩ rfl (by intro p hp; cases hp) ⟨⟨_, d9c⟩, .nil⟩ ?_ ?_
    · rintro i ⟨oc, vs, cn⟩ u9 t9 h9 tk9 hi9 ⟨⟨ov9, hov9⟩, hvs9⟩ F9 N9
      dsimp only [kstB, List.cons_append, List.nil_append] at F9 N9 hov9 hvs9
      have off9 : ∀ {o : Obj} {vs : List Value} {n : Nat}, ∀ p ∈ (dn9, W.listOf vs.toArray n) :: (Dt, lst ys9) :: (L' + 1, o) :: news, p.1 ≠ I9 := off_like3 l9
      have n1 : I9 ≠ L' + 1 := Nat.ne_of_gt (l9 (L' + 1, o9c) (.tail _ (.tail _ (.head _))))
      have n2 : dn9 ≠ L' + 1 := Nat.ne_of_gt ln9.2.1
      have n3 : Dt ≠ L' + 1 := Ne.symm o9.2.1
      k_steps
      refine unhold ?_
      rename IsRange _ _ _ _ _ _ _ _ => R8
      rename Fr g' _ _ _ => kF8
      rename News g' _ _ _ => kN8
      rename_i r3 r4 r5 r6 r7 r8 r9 r10 r11 r12 d8
      refine iter_rangeUnr (n := 4) (by rfl) R8 (by decide) (by decide) kF8 kN8 ?_
      intro I8 l8
      have m1 : I8 ≠ L' + 1 := Nat.ne_of_gt (l8 (L' + 1, r4) (.tail _ (.tail _ (.tail _ (.head _)))))
      refine rrest_inv (σ := Obj) (fun o => (I9, itR (0 + ((i + 1 : Nat) : Int)) (((16 : Nat) : Int) - ((i + 1 : Nat) : Int))) :: (dn9, W.listOf vs.toArray cn) :: (Dt, lst ys9) :: (L' + 1, o) :: news) (fun o => []) [S "k"] (fun j o => ∃ t, o.data = .cell (some (.int (codeK (0 + (i : Int)) j) t))) r4 rfl (by intro p hp; cases hp) ⟨_, r7⟩ ?_ ?_
      · rintro j o7 u7 t7 h7 tk7 hj7 ⟨tt7, ho7⟩ F7 N7
        dsimp only [kstB, List.cons_append, List.nil_append] at F7 N7
        have off8 : ∀ {o : Obj}, ∀ p ∈ (I9, itR (0 + ((i + 1 : Nat) : Int)) (((16 : Nat) : Int) - ((i + 1 : Nat) : Int))) :: (dn9, W.listOf vs.toArray cn) :: (Dt, lst ys9) :: (L' + 1, o) :: news, p.1 ≠ I8 := off_like l8
        have hj0 : (0 : Int) ≤ 0 + (j : Int) := by omega
        have hj1 : 0 + (j : Int) < 4 := by omega
        k_steps
        · rename Int.fmod _ 2 = 1 => c7
          rename Fr g' _ _ _ => kF7
          rename News g' _ _ _ => kN7
          rename_i o6 d6
          refine unhold ?_
          refine kss_end o6 kF7 kN7 ?_ (by intro p hp; cases hp) ?_ ⟨_, by rw [codeK_yes c7]; exact d6⟩
          · exact off8
          · walk_at "ks_h2"
        · rename Int.fmod _ 2 ≠ 1 => c7
          rename Fr g' _ _ _ => kF7
          rename News g' _ _ _ => kN7
          refine unhold ?_
          refine kss_end o7 kF7 kN7 ?_ (by intro p hp; cases hp) ?_ ⟨_, by rw [codeK_no c7]; exact ho7⟩
          · exact off8
          · walk_at "ks_h2"
      · rintro o7 u7 h7 tk7 ⟨tt7, ho7⟩ F7 N7
        dsimp only [kstB] at F7 N7
        have clo := codeK_lo hi9
        have chi := codeK_hi hi9
        k_steps
        · refine unhold ?_
          rename IsRange _ _ _ _ _ _ _ _ => R6
          refine rangeT_all 7 (fun j ys ns => ns = _ ∧ StrsAre ys (lettersL (codeK (0 + (i : Int)) 4) j)) R6 rfl (by k_asm) (by k_asm) (by decide) (by decide) (by decide) ⟨rfl, .nil⟩ ?_ ?_
          · rintro j k5 I5 oI5 C5 oC5 D5 m5 ys5 ns5 h5 tk5 E5 hj5 ⟨rfl, hp5⟩ hC5 hx5 F5 N5 off5 ne5
            have hj0 : (0 : Int) ≤ 0 + (j : Int) := by omega
            have hj1 : 0 + (j : Int) < 7 := by omega
            k_steps
            · rename Int.fmod _ 2 = 1 => c5
              rename Fr g' _ _ _ => kF5
              rename News g' _ _ _ => kN5
              exact CompEnd.intro kF5 kN5 _ (fun _ hp => hp) off5 trivial ⟨rfl, by rw [lettersL_yes hj5 c5]; exact strs_snoc hp5⟩
            · rename Int.fmod _ 2 ≠ 1 => c5
              rename Fr g' _ _ _ => kF5
              rename News g' _ _ _ => kN5
              exact CompEnd.intro kF5 kN5 _ (fun _ hp => hp) off5 trivial ⟨rfl, by rw [lettersL_no c5]; exact hp5⟩
          · rintro g5 ys5 ns5 ⟨rfl, hp5⟩
            intro D5 h5 tk5 F5 N5 o5
            (try dsimp only)
            have q0 : D5 ≠ dn9 := Ne.symm o5.2.1
            have q1 : I9 ≠ dn9 := Nat.ne_of_gt (l9 (dn9, W.listOf #[] 0) (.head _))
            have q2 : ∀ p ∈ (Dt, lst ys9) :: (L' + 1, o7) :: news, p.1 ≠ dn9 := by
              intro p hp
              refine Nat.ne_of_lt ?_
              rcases List.mem_cons.mp hp with rfl | hp
              · exact ln9.1
              rcases List.mem_cons.mp hp with rfl | hp
              · exact ln9.2.1
              · exact allLt_mem ln9.2.2 p hp
            have q3 := near_size hvs9 hi9
            k_steps
            (rename StrsAre _ (lettersL _ 7) => hj5)
            (rename News _ _ _ _ => N4)
            refine join_listW (News.isList N4 (.head _)) (join_toList hj5) (by decide) (lettersL_fit _) ?_
            intro tj5 kj5
            k_steps
            refine unhold ?_
            rename Fr g' _ _ _ => kF4
            rename News g' _ _ _ => kN4
            rw [List.push_toArray] at kN4
            rename Builtin.bitAnd _ _ = 0 => c6
            refine kss_end ⟨o7, vs ++ [_], cn + 1⟩ kF4 (fun p hp => kN4 p (.tail _ hp)) ?_ (by intro p hp; cases hp) ?_ ⟨⟨_, ho7⟩, by rw [nearL_yes c6]; exact strs_snoc hvs9⟩
            · exact off9
            · walk_at "ks_h2"
        · rename Builtin.bitAnd _ _ ≠ 0 => c6
          rename Fr g' _ _ _ => kF6
          rename News g' _ _ _ => kN6
          refine unhold ?_
          refine kss_end ⟨o7, vs, cn⟩ kF6 kN6 ?_ (by intro p hp; cases hp) ?_ ⟨⟨_, ho7⟩, by rw [nearL_no c6]; exact hvs9⟩
          · exact off9 
          · walk_at "ks_h2"
    · rintro ⟨o5, vs5, cn5⟩ u5 h5 tk5 ⟨⟨ov5, ho5⟩, hv5⟩ F5 N5
      dsimp only [kstB] at F5 N5 ho5 hv5
      k_steps
      exact hret _ [(_, _)] _ _ ⟨_, _, _, rfl, rfl, hv5⟩ (by assumption) (near_drop (by assumption))
end Mine
namespace Mine
open PySem PySem.W PySem.Calls PyProof.Rows PyProof.V PyProof.Rows.LCt PyProof.Rows.LCg
theorem regStrip (w : World) (h : Heap) (X : (K w.params).In h) : PySem.Challenge.rw_wf0109_01.row.prog = PySem.Challenge.rw_wf0109_01.row.prog → (K w.params).In h := by
  k_fill
  exact fun _ => X
noncomputable abbrev CtG (w : World) (lv : Nat) (f : Addr) (news : List (Addr × Obj)) (vs : List Value) (R : Rel) : Prop :=
  ∀ (p : Program) (loose : List Str) (mean : ExcName → Option Value) (mg mb : Str → Option Value) (dp un : Nat) (gd : Option (List Code)) (cn : Str) (cs : Scope) (a : Addr) (ccd : Value) (cl : List (Str × Addr)) (outer : List Env) (A₀ : Around) (base h₀ : Heap) (L : Addr) (m : Str → Option Value) (s : Shared) (Q E : Value → Shared → Prop),
    Below A₀ base outer h₀ → Fr h₀ L s.heap m → (K w.params).In h₀ → News h₀ L s.heap news → Top p loose mean mg mb h₀ → cs.kind = .function → dp + 2 * lv < recursionLimit → un + 20 * lv < cLine →
    (∀ (v : Value) (xs : List (Addr × Obj)) (h' : Heap) (tk' : Nat) (gs' : Array GenState), R v xs → (gs' = s.gens ∨ gs' = s.gens.push .finished) → Fr h₀ L h' m → News h₀ L h' (xs ++ news) → Q v { s with heap := h', toks := tk', gens := gs' }) →
      wpAny (model prog w) (ktrTop dp un gd cn cs L a ccd cl outer) (call (.ref f) vs) Q E s
theorem own_make (P : Addr → Prop) [DecidablePred P] (g h : Heap) (L : Addr) : ∃ cons : List (Addr × Obj), (∀ b o, P b → b ≠ L → g.get? b = none → h.get? b = some o → (b, o) ∈ cons) ∧ (∀ q ∈ cons, P q.1) ∧ News g L h cons := by
  refine ⟨(List.range h.objs.size).filterMap fun b => if P b ∧ b ≠ L ∧ g.get? b = none then (h.get? b).map fun o => (b, o) else none, ?_, ?_, ?_⟩
  · intro b o h1 h2 h3 x
    refine List.mem_filterMap.mpr ⟨b, List.mem_range.mpr (Heap.lt_size x), ?_⟩
    rw [if_pos ⟨h1, h2, h3⟩, x]; rfl
  · intro q hq
    obtain ⟨b, hb, e⟩ := List.mem_filterMap.mp hq
    split at e
    · rename_i hn
      obtain ⟨o, hx, e2⟩ := Option.map_eq_some_iff.mp e
      rw [← e2]; exact hn.1
    · cases e
  · intro q hq
    obtain ⟨b, hb, e⟩ := List.mem_filterMap.mp hq
    split at e
    · rename_i hn
      obtain ⟨o, hx, e2⟩ := Option.map_eq_some_iff.mp e
      rw [← e2]
      exact ⟨hx, hn.2.1, hn.2.2⟩
    · cases e
local macro_rules | `(tactic| walk_at "call ref") => `(tactic| (k_here; (with_reducible show wpAny _ _ (call (Value.ref 59) _) _ _ _); refine hold ?_))
local macro_rules | `(tactic| walk_at "exec For") => `(tactic| (k_here; refine hold ?_))
local macro_rules | `(tactic| walk_at "exec If") => `(tactic| (k_here; refine wpAny_If ?_))
structure CS where
  start : Nat
  op : Option Nat
  res : List Str
noncomputable def stepS (y : Str) (c : CS) (p : Nat × Str) : CS := if p.2 = Str.ofString "\"" then (match c.op with
  | none => { c with op := some p.1 }
  | some o => { start := p.1 + 1, op := none, res := if c.start ≠ o then c.res ++ [Txt.slice y (some (c.start : Int)) (some (o : Int))] else c.res }) else c
noncomputable def opV : Option Nat → Tok → Value
  | none, _ => .none
  | some o, t => .int (o : Int) t
noncomputable abbrev gR (N₁ Lg : Addr) : GenEnd := fun n s₀ r s₁ => r = .ok (.ret .none) ∧ GP N₁ Lg n s₀ s₁
noncomputable def cM (D : Addr) (c : CS) (t1 t2 : Tok) (pv cv : Option Value) (y : Str) (ty : Tok) : Str → Option Value := fun z =>
  if z = Str.ofString "ch" then cv else if z = Str.ofString "pos" then pv else if z = Str.ofString "open_pos" then some (opV c.op t2) else if z = Str.ofString "start" then some (.int (c.start : Int) t1) else
  if z = Str.ofString "result" then some (.ref D) else if z = Str.ofString "addr" then some (.str y ty) else none
noncomputable def CInv (w : World) (A : Around) (y : Str) (ty : Tok) (g : Heap) (L D GA Lg : Addr) (og : Obj) (s9 : Shared) (news : List (Addr × Obj)) (n : Nat) (sx : Shared) : Prop :=
  ∃ (pre rem : List (Nat × Str)) (h : Heap) (tk k : Nat) (gs : GenState) (t1 t2 : Tok) (pv cv : Option Value) (vs : List Value),
    sx = { s9 with heap := h, toks := tk, gens := s9.gens.push gs } ∧ esc 0 false y.cps.toList = pre ++ rem ∧ n = rem.length + 1 ∧ StrsAre vs (pre.foldl (stepS y) ⟨0, none, []⟩).res ∧
    gs.Goes (model prog w) A (gR (GA + 1) Lg) (GY g (GA + 1) Lg (esc 0 false y.cps.toList)) rem.length (.send .none) (sx.setGen s9.gens.size .running) ∧
    Fr g L h (cM D (pre.foldl (stepS y) ⟨0, none, []⟩) t1 t2 pv cv y ty) ∧ News g L h ((D, W.listOf vs.toArray k) :: (GA, og) :: news)
theorem next_one {YS pre pre' rem post : List (Nat × Str)} {q : Nat × Str} (e : YS = pre ++ rem) (e' : YS = pre' ++ q :: post) (hl : post.length = rem.length - 1) (hr : rem ≠ []) : pre' = pre ∧ rem = q :: post := by
  cases rem with
  | nil => exact absurd rfl hr
  | cons p r =>
    rw [e] at e'
    have h1 : pre.length = pre'.length := by
      have := congrArg List.length e'
      simp only [List.length_append, List.length_cons] at this hl
      omega
    obtain ⟨h2, h3⟩ := List.append_inj e' h1
    exact ⟨h2.symm, h3⟩
noncomputable abbrev sEnv (L : Addr) : Env := envOf (S "_strip_quoted_realnames") (scopeOf (St 7)) L 66 (.ref 65)
noncomputable def sFor : Stmt := (bodyOf (St 7)).getD 4 (.Pass default)
theorem push_set {α : Type} (a : Array α) (x y : α) : (a.push x).setIfInBounds a.size y = a.push y := by
  apply Array.ext'
  rw [Array.toList_setIfInBounds, Array.toList_push, Array.toList_push, List.set_append_right _ _ (by simp)]
  simp
theorem letOwned_gen {w : World} {A : Around} {E : Value → Shared → Prop} {s : Shared} {elts : List Expr} {x1} {pos : Pos} {GA T : Addr} {og : Obj} {vs : Array Value} {Q : Unit → Shared → Prop} (ho : s.heap.get? GA = some og) (hc : og.cls = .type "generator") (hd : og.data = .fields vs) (h : Q () s) :
    wpAny (model prog w) A (letOwnedTupleGo (.Tuple elts x1 pos) (.ref GA) (.ref T)) Q E s := by
  unfold letOwnedTupleGo
  refine wpAny_bind (wpAny_load ho ?_)
  rw [hc, hd]
  dsimp only
  rw [if_neg (by simp)]
  exact wpAny_pure h
theorem cinv_close {w : World} {A : Around} {y : Str} {ty : Tok} {g h1 h5 : Heap} {L D GA Lg T : Addr} {og oT : Obj} {s9 s5 : Shared} {news own : List (Addr × Obj)} {pre post : List (Nat × Str)} {p : Nat × Str} {gs' : GenState} {k5 tk5 : Nat} {t1 t2 : Tok} {pv cv : Option Value} {vs : List Value}
    (hs : s5 = { s9 with heap := h5, toks := tk5, gens := s9.gens.push gs' }) (hY : esc 0 false y.cps.toList = pre ++ p :: post) (hvs : StrsAre vs (stepS y (pre.foldl (stepS y) ⟨0, none, []⟩) p).res)
    (hgo : ∀ s'' : Shared, (∀ b o, (b = Lg ∨ GA + 1 ≤ b) → h1.get? b = some o → s''.heap.get? b = some o) → (∀ b o, g.get? b = some o → s''.heap.get? b = some o) → gs'.Goes (model prog w) A (gR (GA + 1) Lg) (GY g (GA + 1) Lg (esc 0 false y.cps.toList)) post.length (.send .none) s'')
    (O1 : ∀ b o, (b = Lg ∨ GA + 1 ≤ b) → b ≠ L → g.get? b = none → h1.get? b = some o → (b, o) ∈ own) (hLL : L < Lg) (hLg : Lg < GA) (hgL : g.objs.size ≤ Lg)
    (F : Fr g L h5 (cM D (stepS y (pre.foldl (stepS y) ⟨0, none, []⟩) p) t1 t2 pv cv y ty)) (N : News g L h5 ((D, W.listOf vs.toArray k5) :: (T, oT) :: (GA, og) :: (own ++ news))) :
    ∃ m, m < (p :: post).length + 1 ∧ CInv w A y ty g L D GA Lg og s9 news m s5 := by
  subst hs
  refine ⟨post.length + 1, Nat.lt_succ_self _, pre ++ [p], post, h5, tk5, k5, gs', t1, t2, pv, cv, vs, rfl, by rw [hY, List.append_assoc]; rfl, rfl, by rw [List.foldl_append]; exact hvs, ?_, by rw [List.foldl_append]; exact F, ?_⟩
  · refine hgo _ (fun b o hb x => ?_) F.keep
    have hbg : Lg ≤ b := hb.elim (fun e => Nat.le_of_eq e.symm) (fun e => Nat.le_trans (Nat.le_of_lt (Nat.lt_succ_of_lt hLg)) e)
    exact (N _ (.tail _ (.tail _ (.tail _ (List.mem_append_left _ (O1 b o hb (Nat.ne_of_gt (Nat.lt_of_lt_of_le hLL hbg)) (Heap.get?_none_of_le (Nat.le_trans hgL hbg)) x)))))).1
  · intro q hq
    rcases List.mem_cons.mp hq with e | hq
    · exact N q (List.mem_cons.mpr (.inl e))
    rcases List.mem_cons.mp hq with e | hq
    · exact N q (.tail _ (.tail _ (List.mem_cons.mpr (.inl e))))
    · exact N q (.tail _ (.tail _ (.tail _ (List.mem_append_right _ hq))))
theorem names1 {D : Addr} {st o : Nat} {res : List Str} {t1 t : Tok} {pv cv pv' cv' w' : Option Value} {y : Str} {ty : Tok} (z : Str) : (if z = Str.ofString "open_pos" then some (Value.int (o : Int) t) else if z = Str.ofString "ch" then cv' else if z = Str.ofString "pos" then pv' else if z = Str.ofString "ch" then cv else if z = Str.ofString "pos" then pv else if z = Str.ofString "open_pos" then w' else
    if z = Str.ofString "start" then some (Value.int (st : Int) t1) else if z = Str.ofString "result" then some (Value.ref D) else if z = Str.ofString "addr" then some (Value.str y ty) else none) = cM D ⟨st, some o, res⟩ t1 t pv' cv' y ty z := by
  unfold cM opV
  by_cases hz : z = Str.ofString "open_pos"
  · subst hz
    rw [if_pos rfl, if_neg (by decide +kernel), if_neg (by decide +kernel), if_pos rfl]
  · simp only [if_neg hz]
    (repeat' split) <;> first | rfl | contradiction
theorem names2 {D : Addr} {st o : Nat} {pos : Nat} {res : List Str} {t1 t t2 : Tok} {pv cv pv' cv' : Option Value} {y : Str} {ty : Tok} (z : Str) : (if z = Str.ofString "open_pos" then some Value.none else if z = Str.ofString "start" then some (Value.int ((pos : Int) + 1) t1) else if z = Str.ofString "ch" then cv' else if z = Str.ofString "pos" then pv' else if z = Str.ofString "ch" then cv else if z = Str.ofString "pos" then pv else if z = Str.ofString "open_pos" then some (Value.int (o : Int) t2) else
    if z = Str.ofString "start" then some (Value.int (st : Int) t) else if z = Str.ofString "result" then some (Value.ref D) else if z = Str.ofString "addr" then some (Value.str y ty) else none) = cM D ⟨pos + 1, none, res⟩ t1 t2 pv' cv' y ty z := by
  unfold cM opV
  by_cases hz : z = Str.ofString "open_pos"
  · subst hz
    rw [if_pos rfl, if_neg (by decide +kernel), if_neg (by decide +kernel), if_pos rfl]
  · simp only [if_neg hz]
    by_cases hz : z = Str.ofString "start"
    · subst hz
      rw [if_pos rfl, if_neg (by decide +kernel), if_neg (by decide +kernel), if_pos rfl]
      rfl
    · simp only [if_neg hz]
      (repeat' split) <;> first | rfl | contradiction
theorem res_len (y : Str) : ∀ (pre : List (Nat × Str)) (c : CS), (pre.foldl (stepS y) c).res.length ≤ c.res.length + pre.length
  | [], c => Nat.le_refl _
  | p :: r, c => by
    have ih := res_len y r (stepS y c p)
    have h : (stepS y c p).res.length ≤ c.res.length + 1 := by
      unfold stepS
      split
      · split
        · exact Nat.le_succ _
        · dsimp only
          split
          · simp
          · exact Nat.le_succ _
      · exact Nat.le_succ _
    simp only [List.foldl_cons, List.length_cons]
    omega
theorem esc_len : ∀ (l : List Nat) (i : Nat) (b : Bool), (esc i b l).length ≤ l.length
  | [], i, b => by unfold esc; exact Nat.le_refl _
  | c :: r, i, true => by
    unfold esc
    simp only [List.length_cons]
    exact Nat.succ_le_succ (esc_len r (i + 1) false)
  | c :: r, i, false => by
    unfold esc
    split
    · exact Nat.le_trans (esc_len r (i + 1) true) (Nat.le_succ _)
    · simp only [List.length_cons]
      exact Nat.succ_le_succ (esc_len r (i + 1) false)
local macro_rules | `(tactic| walk_at "call builtin:list.append") => `(tactic| (k_here; k_dflt (refine' append_K ?k1 ?k2 (Upd.head ?u3) ?_ ?z; (case k1 => k_asm); (case k2 => k_asm); (case u3 => with_reducible assumption); (case z => with_reducible assumption); k_whole); intro h' F' N'))
local macro_rules | `(tactic| walk_at "Exists") => `(tactic| (k_here; refine hold ?_))
theorem strip_loop {w : World} {A : Around} {y : Str} {ty : Tok} {g : Heap} {L D GA Lg : Addr} {og : Obj} {s9 : Shared} {news : List (Addr × Obj)} {R : Result → Shared → Prop} (hA : A.handled = none) (hroom : A.depth < recursionLimit) (hlim : g.NoLimit) (X : (K w.params).In g)
    (hog : ∃ nm qn, og.cls = .type "generator" ∧ og.data = .fields #[.int ((s9.gens.size : Nat) : Int) 0, nm, qn] ∧ og.slots = #[]) (hLg : Lg < GA) (hDL : D < Lg) (hgL : g.objs.size ≤ Lg) (hnw : ∀ q ∈ news, q.1 < Lg) (hDn : ∀ q ∈ news, q.1 ≠ D) (hLL : L < Lg) (hyl : y.length ≤ 100)
    (done : ∀ (h : Heap) (tk k : Nat) (t1 t2 : Tok) (pv cv : Option Value) (vs : List Value), StrsAre vs ((esc 0 false y.cps.toList).foldl (stepS y) ⟨0, none, []⟩).res → Fr g L h (cM D ((esc 0 false y.cps.toList).foldl (stepS y) ⟨0, none, []⟩) t1 t2 pv cv y ty) → News g L h ((D, W.listOf vs.toArray k) :: news) → R (.ok .next) { s9 with heap := h, toks := tk, gens := s9.gens.push .finished })
    (n : Nat) (s : Shared) (hI : CInv w A.in1 y ty g L D GA Lg og s9 news n s) : codeAny (model prog w) A (.forLoop (forT sFor) (.ref GA) (forB sFor) [] (sEnv L)) R s := by
  refine codeAny_forLoop_any (CInv w A.in1 y ty g L D GA Lg og s9 news) ?_ n hI
  rintro n s ⟨pre, rem, h, tk, k, gs, t1, t2, pv, cv, vs, rfl, hY, rfl, hvs, hgo, F, N⟩
  have hgs : (s9.gens.push gs)[s9.gens.size]? = some gs := by simp
  have hig : h.IsGen GA s9.gens.size := by
    obtain ⟨nm, qn, h1, h2, h3⟩ := hog
    exact ⟨og, nm, qn, (N _ (.tail _ (.head _))).1, h1, h2, h3⟩
  refine wpAny_pyNext_gen (n := rem.length) (gs := gs) (P := GP (GA + 1) Lg) (Y := GY g (GA + 1) Lg (esc 0 false y.cps.toList)) hA (hlim.keeps F.keep) hroom hig hgs hgo ?_ ?_
  · rintro v s₁ gs' ⟨h1, tk1, T, pos, ch, t, u, pre', post, rfl, eY, hpost, rfl, hT, hTo, hkeep, hgo'⟩
    have hg1 : ∀ b o, g.get? b = some o → h1.get? b = some o := fun b o x => hkeep b o (Nat.lt_succ_of_lt (Nat.lt_trans (Nat.lt_of_lt_of_le (Heap.lt_size x) hgL) hLg)) (Nat.ne_of_lt (Nat.lt_of_lt_of_le (Heap.lt_size x) hgL)) (F.keep b o x)
    by_cases hr : rem = []
    · subst hr
      exact (hgo' { s9 with heap := h1 } (fun _ _ _ x => x) hg1).elim
    · obtain ⟨rfl, rfl⟩ := next_one hY eY hpost hr
      have up : ∀ b o, b < GA + 1 → b ≠ Lg → h.get? b = some o → h1.get? b = some o := hkeep
      obtain ⟨own, O1, O2, O3⟩ := own_make (fun b => b = Lg ∨ GA + 1 ≤ b) g h1 L
      dsimp only
      obtain ⟨nm, qn, hgc, hgd, hgs2⟩ := hog
      have hG1 := up GA og (Nat.lt_succ_self _) (Nat.ne_of_gt hLg) (N _ (.tail _ (.head _))).1
      (with_unfolding_all refine letOwned_gen hG1 hgc hgd ?_)
      have F2 := fr_up F (fun o x => up _ _ (Nat.lt_succ_of_lt (Nat.lt_trans hLL hLg)) (Nat.ne_of_lt hLL) x) hg1
      have N2 : News g L h1 ((D, W.listOf vs.toArray k) :: (T, ({ cls := .type "tuple", data := .seq #[.int ((pos : Nat) : Int) t, .str ch u] } : Obj)) :: (GA, og) :: (own ++ news)) := by
        refine List.forall_mem_cons.mpr ⟨⟨up D _ (Nat.lt_succ_of_lt (Nat.lt_trans hDL hLg)) (Nat.ne_of_lt hDL) (N _ (.head _)).1, (N _ (.head _)).2⟩, List.forall_mem_cons.mpr ⟨⟨hTo, Nat.ne_of_gt (Nat.lt_of_lt_of_le (Nat.lt_succ_of_lt (Nat.lt_trans hLL hLg)) hT), Heap.get?_none_of_le (Nat.le_trans hgL (Nat.le_trans (Nat.le_of_lt (Nat.lt_succ_of_lt hLg)) hT))⟩, List.forall_mem_cons.mpr ⟨⟨hG1, (N _ (.tail _ (.head _))).2⟩, fun q hq => ?_⟩⟩⟩
        rcases List.mem_append.mp hq with hq | hq
        · exact O3 q hq
        · exact ⟨up _ _ (Nat.lt_succ_of_lt (Nat.lt_trans (hnw q hq) hLg)) (Nat.ne_of_lt (hnw q hq)) (N q (.tail _ (.tail _ hq))).1, (N q (.tail _ (.tail _ hq))).2⟩
      (with_unfolding_all refine unpackN_ F2 N2 (News.isTup N2 (.tail _ (.head _))) hA (by exact rfl) (by exact rfl) ?_)
      intro h3 F3 N3
      clear F2 N2
      generalize hcs : List.foldl (stepS y) ⟨0, none, []⟩ pre' = c at hvs F3
      obtain ⟨st, op, res⟩ := c
      cases op with
      | none =>
        replace F3 : Fr g L h3 (fun z => if z = Str.ofString "ch" then cv else if z = Str.ofString "pos" then pv else if z = Str.ofString "open_pos" then some .none else if z = Str.ofString "start" then some (.int (st : Int) t1) else
          if z = Str.ofString "result" then some (.ref D) else if z = Str.ofString "addr" then some (.str y ty) else none) := F3
        k_steps
        · rename _ = true => c5
          rename Fr _ _ _ _ => F5
          rename News _ _ _ _ => N5
          refine unhold ?_
          have e5 : stepS y ⟨st, none, res⟩ (pos, ch) = ⟨st, some pos, res⟩ := if_pos (beq_iff_eq.mp c5)
          refine cinv_close (t1 := t1) (t2 := t) (pv := some (.int ((pos : Nat) : Int) t)) (cv := some (.str ch u)) (by simp [Shared.setGen, push_set]; rfl) hY (by rw [hcs, e5]; exact hvs) hgo' O1 hLL hLg hgL (by rw [hcs, e5]; exact fr_cong F5 names1) N5
        · rename _ = false => c5
          rename Fr _ _ _ _ => F5
          rename News _ _ _ _ => N5
          refine unhold ?_
          have e5 : stepS y ⟨st, none, res⟩ (pos, ch) = ⟨st, none, res⟩ := if_neg (fun e => by rw [beq_iff_eq.mpr e] at c5; cases c5)
          exact cinv_close (t1 := t1) (t2 := t2) (pv := some (.int ((pos : Nat) : Int) t)) (cv := some (.str ch u)) (by simp [Shared.setGen, push_set]; rfl) hY (by rw [hcs, e5]; exact hvs) hgo' O1 hLL hLg hgL (by rw [hcs, e5]; exact fr_cong F5 (by intro z; unfold cM opV; (repeat' split) <;> first | rfl | contradiction)) N5
      | some o =>
        replace F3 : Fr g L h3 (fun z => if z = Str.ofString "ch" then cv else if z = Str.ofString "pos" then pv else if z = Str.ofString "open_pos" then some (.int (o : Int) t2) else if z = Str.ofString "start" then some (.int (st : Int) t1) else
          if z = Str.ofString "result" then some (.ref D) else if z = Str.ofString "addr" then some (.str y ty) else none) := F3
        have hoff : ∀ p ∈ (T, ({ cls := .type "tuple", data := .seq #[.int ((pos : Nat) : Int) t, .str ch u] } : Obj)) :: (GA, og) :: (own ++ news), p.1 ≠ D := by
          refine List.forall_mem_cons.mpr ⟨Nat.ne_of_gt (Nat.lt_of_lt_of_le (Nat.lt_succ_of_lt (Nat.lt_trans hDL hLg)) hT), List.forall_mem_cons.mpr ⟨Nat.ne_of_gt (Nat.lt_trans hDL hLg), fun q hq => ?_⟩⟩
          rcases List.mem_append.mp hq with hq | hq
          · rcases O2 q hq with e | e
            · rw [e]; exact Nat.ne_of_gt hDL
            · exact Nat.ne_of_gt (Nat.lt_of_lt_of_le (Nat.lt_succ_of_lt (Nat.lt_trans hDL hLg)) e)
          · exact hDn q hq
        have hvz : vs.toArray.size ≤ sizeLine := by
          rw [List.size_toArray, strs_len hvs]
          have h1 := res_len y pre' ⟨0, none, []⟩
          rw [hcs] at h1
          have h2 := esc_len y.cps.toList 0 false
          rw [eY, List.length_append, Array.length_toList] at h2
          have h3 : y.cps.size ≤ 100 := hyl
          have h4 : 100 ≤ sizeLine := by decide
          simp only [List.length_nil, Nat.zero_add] at h1
          exact Nat.le_trans h1 (Nat.le_trans (Nat.le_trans (Nat.le_add_right _ _) h2) (Nat.le_trans h3 h4))
        k_steps
        · rename (_ == _) = true => c5
          rename (st : Int) ≠ (o : Int) => c6
          rename Fr _ _ _ _ => F5
          rename News _ _ _ _ => N5
          refine unhold ?_
          have e5 : stepS y ⟨st, some o, res⟩ (pos, ch) = ⟨pos + 1, none, res ++ [Txt.slice y (some (st : Int)) (some (o : Int))]⟩ := by
            refine (if_pos (beq_iff_eq.mp c5)).trans ?_
            show CS.mk _ _ (if st ≠ o then _ else _) = _
            rw [if_pos (fun e => c6 (by rw [e]))]
          rw [List.push_toArray] at N5
          refine cinv_close (t1 := _) (t2 := t) (pv := some (.int ((pos : Nat) : Int) t)) (cv := some (.str ch u)) (by simp [Shared.setGen, push_set]; rfl) hY (by rw [hcs, e5]; exact strs_snoc hvs) hgo' O1 hLL hLg hgL (by rw [hcs, e5]; exact fr_cong F5 names2) N5
        · rename (_ == _) = true => c5
          rename Fr _ _ _ _ => F5
          rename News _ _ _ _ => N5
          refine unhold ?_
          have e5 : stepS y ⟨st, some o, res⟩ (pos, ch) = ⟨pos + 1, none, res⟩ := by
            refine (if_pos (beq_iff_eq.mp c5)).trans ?_
            show CS.mk _ _ (if st ≠ o then _ else _) = _
            rw [if_neg (by omega)]
          refine cinv_close (t1 := _) (t2 := t) (pv := some (.int ((pos : Nat) : Int) t)) (cv := some (.str ch u)) (by simp [Shared.setGen, push_set]; rfl) hY (by rw [hcs, e5]; exact hvs) hgo' O1 hLL hLg hgL (by rw [hcs, e5]; exact fr_cong F5 names2) N5
        · rename _ = false => c5
          rename Fr _ _ _ _ => F5
          rename News _ _ _ _ => N5
          refine unhold ?_
          have e5 : stepS y ⟨st, some o, res⟩ (pos, ch) = ⟨st, some o, res⟩ := if_neg (fun e => by rw [beq_iff_eq.mpr e] at c5; cases c5)
          exact cinv_close (t1 := t1) (t2 := t2) (pv := some (.int ((pos : Nat) : Int) t)) (cv := some (.str ch u)) (by simp [Shared.setGen, push_set]; rfl) hY (by rw [hcs, e5]; exact hvs) hgo' O1 hLL hLg hgL (by rw [hcs, e5]; exact fr_cong F5 (by intro z; unfold cM; dsimp only [opV]; (repeat' split) <;> first | rfl | contradiction)) N5
  · rintro s₁ ⟨hn, h1, tk1, rfl, hk1⟩ h2 hk2
    have hr : rem = [] := List.length_eq_zero_iff.mp hn
    subst hr
    rw [List.append_nil] at hY
    rw [← hY] at hvs F
    have up : ∀ b o, b < Lg → h.get? b = some o → h2.get? b = some o := fun b o hb x => hk2 _ _ (hk1 b o (Nat.lt_succ_of_lt (Nat.lt_trans hb hLg)) (Nat.ne_of_lt hb) x)
    refine wpAny_execs_nil ?_
    have z := done h2 tk1 k t1 t2 pv cv vs hvs (fr_up F (fun o x => up _ _ hLL x) (fun b o x => up b o (Nat.lt_of_lt_of_le (Heap.lt_size x) hgL) (F.keep b o x))) (List.forall_mem_cons.mpr ⟨⟨up D _ hDL (N _ (.head _)).1, (N _ (.head _)).2⟩, fun q hq => ⟨up _ _ (hnw q hq) (N q (.tail _ (.tail _ hq))).1, (N q (.tail _ (.tail _ hq))).2⟩⟩)
    refine (congrArg (R (.ok .next)) ?_).mp z
    simp [Shared.setGen, push_set]
end Mine
namespace Mine
open PySem PySem.W PySem.Calls PyProof.Rows PyProof.V PyProof.Rows.LCt PyProof.Rows.LCg
theorem regStrip2 (w : World) (h : Heap) (X : (K w.params).In h) : PySem.Challenge.rw_wf0109_01.row.prog = PySem.Challenge.rw_wf0109_01.row.prog → (K w.params).In h := by
  k_fill
  exact fun _ => X
noncomputable def stripC (y : Str) : CS := (esc 0 false y.cps.toList).foldl (stepS y) ⟨0, none, []⟩
noncomputable def stripF (y : Str) : Str := if (Builtin.Str.occurrences y (Str.ofString "\"") 0 y.length 1).isEmpty then y
  else Txt.join (Str.ofString "") (if (stripC y).start < y.length then (stripC y).res ++ [Txt.slice y (some ((stripC y).start : Int)) none] else (stripC y).res)
theorem res_each (y : Str) : ∀ (pre : List (Nat × Str)) (c : CS), (∀ p ∈ c.res, p.length ≤ y.length) → ∀ p ∈ (pre.foldl (stepS y) c).res, p.length ≤ y.length
  | [], c, h => h
  | q :: r, c, h => by
    refine res_each y r (stepS y c q) ?_
    unfold stepS
    split
    · split
      · exact h
      · dsimp only
        split
        · intro p hp
          rcases List.mem_append.mp hp with hp | hp
          · exact h p hp
          · rw [List.mem_singleton.mp hp]; exact PyProof.Txt.length_slice_le _ _ _
        · exact h
    · exact h
theorem sum_le {n : Nat} : ∀ (l : List Nat), (∀ p ∈ l, p ≤ n) → l.sum ≤ n * l.length
  | [], _ => Nat.le_refl _
  | a :: r, h => by
    have ih := sum_le r fun p hp => h p (.tail _ hp)
    have h1 := h a (.head _)
    rw [List.sum_cons, List.length_cons, Nat.mul_succ]
    omega
theorem fit_of {res : List Str} (h1 : ∀ p ∈ res, p.length ≤ 100) (h2 : res.length ≤ 101) : (res.map (·.length)).sum + res.length ≤ 1048576 := by
  have h := sum_le (n := 100) (res.map (·.length)) (by intro p hp; obtain ⟨q, hq, rfl⟩ := List.mem_map.mp hp; exact h1 q hq)
  rw [List.length_map] at h
  omega
theorem strip_sz (y : Str) (hl : y.length ≤ 100) : (stripC y).res.length ≤ 100 := by
  have h1 := res_len y (esc 0 false y.cps.toList) ⟨0, none, []⟩
  have h2 := esc_len y.cps.toList 0 false
  rw [Array.length_toList] at h2
  simp only [List.length_nil, Nat.zero_add] at h1
  exact Nat.le_trans h1 (Nat.le_trans h2 hl)
theorem names0 {D : Addr} {t1 t2 : Tok} {y : Str} {ty : Tok} (z : Str) : (if z = Str.ofString "result" then some (Value.ref D) else if z = Str.ofString "open_pos" then some Value.none else if z = Str.ofString "start" then some (Value.int 0 t1) else List.lookup z [(Str.ofString "addr", Value.str y ty)]) = cM D ⟨0, none, []⟩ t1 t2 none none y ty z := by
  have e : List.lookup z [(Str.ofString "addr", Value.str y ty)] = if z = Str.ofString "addr" then some (Value.str y ty) else none := by
    rw [List.lookup_cons]
    by_cases hz : z = Str.ofString "addr"
    · rw [if_pos hz, hz]; simp
    · rw [if_neg hz, show (z == Str.ofString "addr") = false from by simpa using hz]; rfl
  rw [e]
  unfold cM
  dsimp only [opV]
  by_cases h1 : z = Str.ofString "ch"
  · subst h1; rw [if_neg (by decide +kernel), if_neg (by decide +kernel), if_neg (by decide +kernel), if_neg (by decide +kernel), if_pos rfl]
  by_cases h2 : z = Str.ofString "pos"
  · subst h2; rw [if_neg (by decide +kernel), if_neg (by decide +kernel), if_neg (by decide +kernel), if_neg (by decide +kernel), if_neg (by decide +kernel), if_pos rfl]
  simp only [if_neg h1, if_neg h2]
  by_cases h3 : z = Str.ofString "result"
  · subst h3; rw [if_pos rfl, if_neg (by decide +kernel), if_neg (by decide +kernel), if_pos rfl]
  simp only [if_neg h3]
  rfl
theorem cM_open {D : Addr} {st : Nat} {op : Option Nat} {res : List Str} {t1 t2 : Tok} {pv cv : Option Value} {y : Str} {ty : Tok} (z : Str) : cM D ⟨st, op, res⟩ t1 t2 pv cv y ty z = if z = Str.ofString "ch" then cv else if z = Str.ofString "pos" then pv else if z = Str.ofString "open_pos" then some (opV op t2) else if z = Str.ofString "start" then some (.int (st : Int) t1) else
    if z = Str.ofString "result" then some (.ref D) else if z = Str.ofString "addr" then some (.str y ty) else none := rfl
local macro_rules | `(tactic| walk_at "call ref") => `(tactic| (k_here; (with_reducible show wpAny _ _ (call (Value.ref 59) _) _ _ _); refine hold ?_))
local macro_rules | `(tactic| walk_at "exec For") => `(tactic| (k_here; refine hold ?_))
local macro_rules | `(tactic| walk_at "exec If") => `(tactic| (k_here; refine wpAny_If ?_))
local macro_rules | `(tactic| walk_at "call builtin:list.append") => `(tactic| (k_here; k_dflt (refine' append_K ?k1 ?k2 (Upd.head ?u3) ?_ ?z; (case k1 => k_asm); (case k2 => k_asm); (case u3 => with_reducible assumption); (case z => with_reducible assumption); k_whole); intro h' F' N'))
local macro_rules | `(tactic| walk_at "call builtin:str.join") => `(tactic| (k_here; refine hold ?_))
theorem c_strip (w : World) (news : List (Addr × Obj)) (y : Str) (ty : Tok) (hE : escEnd false y.cps.toList = false) (hl : y.length ≤ 100) : CtG w 2 66 news [.str y ty] fun v xs => ∃ u, v = .str (stripF y) u := by
  unfold CtG; intros
  rename_i hret
  refine wpAny_call ?_
  cell_enter
  k_steps
  · rename _ = true => c5
    exact hret _ [] _ _ _ ⟨_, by rw [stripF, if_pos c5]⟩ (.inl rfl) (by assumption) (by assumption)
  · rename _ = false => c5
    refine unhold ?_
    refine wpAny_For ?_ (fun _ => rfl)
    k_steps
    refine unhold ?_
    rename Fr _ _ _ _ => F1
    rename News _ _ _ _ => N1
    rename (K w.params).In _ => X1
    rename Top _ _ _ _ _ _ => T1
    rename ∀ p ∈ news, _ => l1
    refine gen_call (X1.keeps F1.keep) (T1.nolimit.keeps F1.keep) (by ktr_room) fun h2 tk2 ns2 ig2 up2 => ?_
    refine wpAny_pyIter_gen ig2 ?_
    rename Fr _ _ _ _ => F1
    rename News _ _ _ _ => N1
    rename Heap => h1
    rename Shared => s0
    obtain ⟨og, nm, qn, hG, hgc, hgd, hgs⟩ := ig2
    dsimp only at ns2 up2 hG hgd ⊢
    have hgL := Nat.le_trans F1.above (Nat.le_of_lt F1.ns.lt)
    have F2 := fr_up F1 (fun o x => up2 _ _ x) (fun b o x => up2 _ _ (F1.keep b o x))
    have F3 : Fr _ _ _ (cM _ ⟨0, none, []⟩ _ 0 none none y ty) := (by with_unfolding_all exact fr_cong F2 names0)
    have N3 := N1.grown up2
    (with_unfolding_all show codeAny _ _ (.forLoop (forT sFor) _ (forB sFor) [] (sEnv _)) _ _)
    refine strip_loop (s9 := s0) (og := og) (by rfl) (by ktr_room) T1.nolimit X1 ⟨nm, qn, hgc, hgd, hgs⟩ (Nat.lt_succ_self _) (Heap.lt_size (N1 _ (.head _)).1) hgL (fun q hq => Heap.lt_size (N1 q (.tail _ hq)).1) (fun q hq => Nat.ne_of_lt (l1 q hq)) F1.ns.lt hl ?_ ((esc 0 false y.cps.toList).length + 1) _ ⟨[], _, _, _, 0, _, _, _, _, _, [], rfl, rfl, rfl, .nil, ⟨rfl, gen_start (by rfl) X1 T1 hG rfl (Nat.le_succ_of_le hgL) (Nat.lt_succ_self _) hE ⟨ns2, F2.keep, hgL⟩⟩, F3, ?_⟩
    · intro h7 tk7 k7 t1 t2 pv cv vs hvs F7 N7
      dsimp only at F7 N7 ⊢
      have hsz := strip_sz y hl
      have hea := res_each y (esc 0 false y.cps.toList) ⟨0, none, []⟩ (by intro p hp; cases hp)
      have hoff : ∀ p ∈ news, p.1 ≠ _ := fun q hq => Nat.ne_of_lt (l1 q hq)
      have hvz : vs.toArray.size ≤ sizeLine := by
        rw [List.size_toArray, strs_len hvs]
        exact Nat.le_trans hsz (by decide)
      clear F1 F2 F3 N1 N3
      have hS : stripF y = Txt.join (Str.ofString "") (if (stripC y).start < y.length then (stripC y).res ++ [Txt.slice y (some ((stripC y).start : Int)) none] else (stripC y).res) := by
        unfold stripF
        rw [c5]
        rfl
      change StrsAre vs (stripC y).res at hvs
      change Fr _ _ h7 (cM _ (stripC y) t1 t2 pv cv y ty) at F7
      change ∀ p ∈ (stripC y).res, _ at hea
      generalize stripC y = c at hvs F7 hsz hea hS
      obtain ⟨st, op, res⟩ := c
      dsimp only at hvs hsz hea hS
      replace F7 := fr_cong F7 cM_open
      generalize opV op t2 = vo at F7
      k_steps
      · rename (st : Int) < _ => c6
        rename News _ _ _ _ => N8
        rw [List.push_toArray] at N8
        refine unhold ?_
        refine join_listW (News.isList N8 (.head _)) (join_toList (strs_snoc hvs)) (by decide) (fit_of ?_ ?_) ?_
        · intro p hp
          rcases List.mem_append.mp hp with hp | hp
          · exact Nat.le_trans (hea p hp) hl
          · rw [List.mem_singleton.mp hp]; exact Nat.le_trans (PyProof.Txt.length_slice_le _ _ _) hl
        · rw [List.length_append, List.length_singleton]; omega
        intro tj5 kj5
        k_steps
        rw [if_pos (by omega)] at hS
        exact hret _ [(_, _)] _ _ _ ⟨_, by rw [hS]⟩ (.inr rfl) (by assumption) (by assumption)
      · rename ¬ (st : Int) < _ => c6
        rename News _ _ _ _ => N8
        refine unhold ?_
        refine join_listW (News.isList N8 (.head _)) (join_toList hvs) (by decide) (fit_of (fun p hp => Nat.le_trans (hea p hp) hl) (Nat.le_succ_of_le hsz)) ?_
        intro tj5 kj5
        k_steps
        rw [if_neg (by omega)] at hS
        exact hret _ [(_, _)] _ _ _ ⟨_, by rw [hS]⟩ (.inr rfl) (by assumption) (by assumption)
    · exact List.forall_mem_cons.mpr ⟨N3 _ (.head _), List.forall_mem_cons.mpr ⟨⟨hG, Nat.ne_of_gt (Nat.lt_succ_of_lt F1.ns.lt), Heap.get?_none_of_le (Nat.le_succ_of_le hgL)⟩, fun q hq => N3 q (.tail _ hq)⟩⟩
end Mine
namespace Mine
open PySem PySem.W PySem.Calls PyProof.Rows PyProof.V PyProof.Rows.LCt PyProof.Rows.LCg
theorem regLine (w : World) (h : Heap) (X : (K w.params).In h) : PySem.Challenge.rw_wf0109_01.row.prog = PySem.Challenge.rw_wf0109_01.row.prog → (K w.params).In h := by
  k_fill
  exact fun _ => X
noncomputable abbrev letP (p : Int) : Str := Txt.item (Str.ofString "bgcrmyw") p
noncomputable abbrev boldP (p : Int) : Str := ⟨#[(119711 + ([98, 103, 99, 114, 109, 121, 119] : List Int).getD p.toNat 0).toNat]⟩
noncomputable abbrev formsP (p : Int) : List Str := [letP p, Txt.upper (letP p), boldP p, Str.ofString "­" ++ boldP p]
noncomputable abbrev placeL (mark : Int) (i : Nat) : Int := Int.fmod (Int.fdiv mark 2097152 + (0 + (i : Int))) 7
noncomputable abbrev formL (mark : Int) (i : Nat) : Int := Int.fmod (Int.fdiv (Int.fdiv mark 128) (4 ^ (placeL mark i).toNat)) 4
noncomputable abbrev signL (mark : Int) (i : Nat) : Str := (formsP (placeL mark i)).getD (formL mark i).toNat Str.empty
noncomputable def lineS (mark : Int) : Nat → Str
  | 0 => Str.ofString ""
  | i + 1 => if Int.fmod (Int.fdiv mark (2 ^ (placeL mark i).toNat)) 2 = 1 then lineS mark i ++ signL mark i
    else lineS mark i ++ Str.ofString "\"" ++ (if 1 < formL mark i then Str.ofString "\\\"" else Str.ofString "") ++ signL mark i ++ Str.ofString "\""
noncomputable def seenS (mark : Int) : Nat → Str
  | 0 => Str.ofString ""
  | i + 1 => if Int.fmod (Int.fdiv mark (2 ^ (placeL mark i).toNat)) 2 = 1 then seenS mark i ++ letP (placeL mark i) else seenS mark i
theorem fm4 (x : Int) : 0 ≤ Int.fmod x 4 ∧ Int.fmod x 4 < 4 := by
  rw [Int.fmod_eq_emod_of_nonneg _ (by decide)]
  exact ⟨Int.emod_nonneg _ (by decide), Int.emod_lt_of_pos _ (by decide)⟩
theorem fm7 (x : Int) : 0 ≤ Int.fmod x 7 ∧ Int.fmod x 7 < 7 := by
  rw [Int.fmod_eq_emod_of_nonneg _ (by decide)]
  exact ⟨Int.emod_nonneg _ (by decide), Int.emod_lt_of_pos _ (by decide)⟩
theorem seven {p : Int} (h0 : 0 ≤ p) (h1 : p < 7) : p = 0 ∨ p = 1 ∨ p = 2 ∨ p = 3 ∨ p = 4 ∨ p = 5 ∨ p = 6 := by omega
theorem let_len {p : Int} (h0 : 0 ≤ p) (h1 : p < 7) : (letP p).length = 1 := by
  rcases seven h0 h1 with rfl | rfl | rfl | rfl | rfl | rfl | rfl <;> decide +kernel
theorem sign_len {p : Int} (h0 : 0 ≤ p) (h1 : p < 7) (n : Nat) : ((formsP p).getD n Str.empty).length ≤ 2 := by
  rcases seven h0 h1 with rfl | rfl | rfl | rfl | rfl | rfl | rfl <;> (match n with
    | 0 => decide +kernel
    | 1 => decide +kernel
    | 2 => decide +kernel
    | 3 => decide +kernel
    | n + 4 => exact Nat.zero_le _)
theorem app_len (x y : Str) : (x ++ y).length = x.length + y.length := PySem.Str.length_append x y
theorem q_len : (Str.ofString "\"").length = 1 := by decide +kernel
theorem bq_len (c : Prop) [Decidable c] : (if c then Str.ofString "\\\"" else Str.ofString "").length ≤ 2 := by
  split <;> decide +kernel
theorem lineS_len (mark : Int) : ∀ i, (lineS mark i).length ≤ 6 * i
  | 0 => by show (Str.ofString "").length ≤ 0; decide +kernel
  | i + 1 => by
    have ih := lineS_len mark i
    have h1 : (signL mark i).length ≤ 2 := sign_len (fm7 (Int.fdiv mark 2097152 + (0 + (i : Int)))).1 (fm7 _).2 (formL mark i).toNat
    have h2 := bq_len (1 < formL mark i)
    have h3 := q_len
    show (if _ then lineS mark i ++ signL mark i else lineS mark i ++ Str.ofString "\"" ++ (if 1 < formL mark i then Str.ofString "\\\"" else Str.ofString "") ++ signL mark i ++ Str.ofString "\"").length ≤ _
    generalize signL mark i = sg at *
    generalize (if 1 < formL mark i then Str.ofString "\\\"" else Str.ofString "") = bq at *
    split
    · rw [app_len]; omega
    · rw [app_len, app_len, app_len, app_len]; omega
theorem seenS_len (mark : Int) : ∀ i, (seenS mark i).length ≤ i
  | 0 => by show (Str.ofString "").length ≤ 0; decide +kernel
  | i + 1 => by
    have ih := seenS_len mark i
    have h1 : (letP (placeL mark i)).length = 1 := let_len (fm7 (Int.fdiv mark 2097152 + (0 + (i : Int)))).1 (fm7 _).2
    show (if _ then seenS mark i ++ letP (placeL mark i) else seenS mark i).length ≤ _
    generalize letP (placeL mark i) = sg at *
    split
    · rw [app_len]; omega
    · omega
theorem line_yes {mark : Int} {i : Nat} {sg : Str} (h : Int.fmod (Int.fdiv mark (2 ^ (placeL mark i).toNat)) 2 = 1) (e : signL mark i = sg) : lineS mark i ++ sg = lineS mark (i + 1) := by
  show _ = (if _ then _ else _)
  rw [if_pos h, e]
theorem line_no1 {mark : Int} {i : Nat} {sg : Str} (h : Int.fmod (Int.fdiv mark (2 ^ (placeL mark i).toNat)) 2 ≠ 1) (hf : 1 < formL mark i) (e : signL mark i = sg) : lineS mark i ++ Str.ofString "\"" ++ Str.ofString "\\\"" ++ sg ++ Str.ofString "\"" = lineS mark (i + 1) := by
  show _ = (if _ then _ else _)
  rw [if_neg h, if_pos hf, e]
theorem line_no2 {mark : Int} {i : Nat} {sg : Str} (h : Int.fmod (Int.fdiv mark (2 ^ (placeL mark i).toNat)) 2 ≠ 1) (hf : ¬ 1 < formL mark i) (e : signL mark i = sg) : lineS mark i ++ Str.ofString "\"" ++ Str.ofString "" ++ sg ++ Str.ofString "\"" = lineS mark (i + 1) := by
  show _ = (if _ then _ else _)
  rw [if_neg h, if_neg hf, e]
theorem seen_yes {mark : Int} {i : Nat} (h : Int.fmod (Int.fdiv mark (2 ^ (placeL mark i).toNat)) 2 = 1) : seenS mark i ++ letP (placeL mark i) = seenS mark (i + 1) := by
  show _ = (if _ then _ else _)
  rw [if_pos h]
theorem seen_no {mark : Int} {i : Nat} (h : Int.fmod (Int.fdiv mark (2 ^ (placeL mark i).toNat)) 2 ≠ 1) : seenS mark i = seenS mark (i + 1) := by
  show _ = (if _ then _ else _)
  rw [if_neg h]
theorem drop2 {h₀ h : Heap} {L : Addr} {a b : Addr × Obj} {r : List (Addr × Obj)} (N : News h₀ L h (b :: a :: r)) : News h₀ L h (a :: r) := fun q hq => N q (.tail _ hq)
structure LSt where
  l : Str
  a : Tok
  s : Str
  b : Tok
theorem pow4_ne {n : Nat} : (4 : Int) ^ n ≠ 0 := Int.ne_of_gt (Int.pow_pos (by decide))
theorem pow4_lt {n : Nat} (h : n ≤ 7) : ((4 : Int) ^ n).natAbs < 1073741824 := by
  have : n = 0 ∨ n = 1 ∨ n = 2 ∨ n = 3 ∨ n = 4 ∨ n = 5 ∨ n = 6 ∨ n = 7 := by omega
  rcases this with rfl | rfl | rfl | rfl | rfl | rfl | rfl | rfl <;> decide
local macro_rules | `(tactic| walk_at "binaryOp FloorDiv int int") => `(tactic| (k_here; (with_reducible show wpAny _ _ (binaryOp Operator.FloorDiv (Value.int _ _) (Value.int (4 ^ _) _)) _ _ _); refine floordiv_int pow4_ne ?_ (Or.inl (PyProof.noPylong_small (pow4_lt (by omega))))))
theorem cod_bd {n : Nat} (h : n < 7) : 98 ≤ ([98, 103, 99, 114, 109, 121, 119] : List Int).getD n 0 ∧ ([98, 103, 99, 114, 109, 121, 119] : List Int).getD n 0 ≤ 121 := by
  have : n = 0 ∨ n = 1 ∨ n = 2 ∨ n = 3 ∨ n = 4 ∨ n = 5 ∨ n = 6 := by omega
  rcases this with rfl | rfl | rfl | rfl | rfl | rfl | rfl <;> decide
theorem chr_lo {n : Nat} (h : n < 7) : 0 ≤ 119711 + ([98, 103, 99, 114, 109, 121, 119] : List Int).getD n 0 := by have := cod_bd h; omega
theorem chr_hi {n : Nat} (h : n < 7) : 119711 + ([98, 103, 99, 114, 109, 121, 119] : List Int).getD n 0 ≤ 1114111 := by have := cod_bd h; omega
local macro_rules | `(tactic| walk_at "call builtin:chr") => `(tactic| (k_here; (with_reducible show wpAny _ _ (call (Value.builtin "chr") [Value.int (119711 + _) _]) _ _ _); refine chr_of_range (chr_lo (by omega)) (chr_hi (by omega)) ?_))
theorem strs_item {w : World} {A : Around} {E : Value → Shared → Prop} {s : Shared} {Q : Value → Shared → Prop} {value slice : PySem.Expr} {h₀ : Heap} {L l : Addr} {vs : List Value} {ns : List Str} {k : Int} {u : Tok} {n : Nat} {news : List (Addr × Obj)} (N : News h₀ L s.heap news) (hm : (l, ({ cls := .type "list", data := .seq vs.toArray n } : Obj)) ∈ news) (hi : StrsAre vs ns)
    (h0 : 0 ≤ k) (h1 : k < ns.length) (hz : k < 2 ^ 63) (h : ∀ t, Q (.str (ns.getD k.toNat Str.empty) t) s)
    (hs : subscripted slice false (.ref l) (.int k u) = operate [.ref l, .int k u] (getItem (.ref l) (.int k u)) := by with_unfolding_all rfl) :
    wpAny (model prog w) A (subscriptTail value slice (.ref l) (.int k u)) Q E s := by
  have hl : s.heap.IsList l vs.toArray := ⟨_, (N _ hm).1, rfl, n, rfl⟩
  have hlt : k.toNat < ns.length := by omega
  obtain ⟨t, ht⟩ := hi.get k.toNat ns[k.toNat] (List.getElem?_eq_getElem hlt)
  have e : ns.getD k.toNat Str.empty = ns[k.toNat] := by rw [List.getD_eq_getElem?_getD, List.getElem?_eq_getElem hlt]; rfl
  have h' := h t
  rw [e] at h'
  exact tail_any hl.typeIs slot_list_getitem.lookup (wpAny_getItem_list hl h0 hz (by simpa using ht) h') hs
theorem four_lt {a b c d : Str} {k : Int} (h : k < 4) : k < (([a, b, c, d] : List Str).length : Int) := h
local macro_rules | `(tactic| walk_at "subscriptTail") => `(tactic| (k_here; (with_reducible show wpAny _ _ (subscriptTail _ _ (Value.ref _) (Value.int (Int.fmod _ 4) _)) _ _ _); refine hold ?_))
local macro_rules | `(tactic| walk_at "ks_h2") => `(tactic| (intro z hz1 hz2; (try dsimp only); (repeat (first | with_reducible rfl | (refine Eq.trans (if_neg ?k) ?_; (case k => first | (intro e; subst e; first | exact absurd hz2 (by decide) | exact hz1 _ (List.Mem.head _) rfl | exact hz1 _ (List.Mem.tail _ (List.Mem.head _)) rfl) | (rw [hz2]; exact Bool.false_ne_true) | (intro e; (have e' := List.mem_singleton.mp (List.contains_iff_mem.mp e)); subst e'; exact absurd hz2 (by decide))))))))
local macro_rules | `(tactic| walk_at "UnrEnd") => `(tactic| (k_here; refine hold ?_))
local macro_rules | `(tactic| walk_at "exec If") => `(tactic| (k_here; refine wpAny_If ?_))
local macro_rules | `(tactic| walk_at "pyIter ref") => `(tactic| (k_here; refine hold ?_))
theorem len0 {n : Nat} : (Str.ofString "").length ≤ n := Nat.le_trans (show (Str.ofString "").length ≤ 0 by decide +kernel) (Nat.zero_le _)
theorem start2 {h₀ h : Heap} {L : Addr} {m : Str → Option Value} {x y X Y : Str} (F : Fr h₀ L h m) (hh : ∃ a b, m x = some (.str X a) ∧ m y = some (.str Y b)) : ∃ a b, ∀ p ∈ [(x, Value.str X a), (y, Value.str Y b)], m p.1 = some p.2 := by
  obtain ⟨a, b, h1, h2⟩ := hh
  exact ⟨a, b, List.forall_mem_cons.mpr ⟨h1, List.forall_mem_cons.mpr ⟨h2, List.forall_mem_nil _⟩⟩⟩
theorem c_line (w : World) (news : List (Addr × Obj)) (mark : Int) (t : Tok) (h0 : 0 ≤ mark) (h1 : mark < 14680064) : Ct w 1 287 news [.int mark t] fun v xs => ∃ D a b, v = .ref D ∧ xs = [(D, ({ cls := .type "tuple", data := .seq #[.str (lineS mark 7) a, .str (seenS mark 7) b] } : Obj))] := by
  unfold Ct; intros
  rename_i hret
  refine wpAny_call ?_
  cell_enter
  k_steps
  refine unhold ?_
  rename IsRange _ _ _ _ _ _ _ _ => R9
  rename Fr _ _ _ _ => kF9
  rename News _ _ _ _ => kN9
  refine iter_rangeUnr (n := 7) (by rfl) R9 (by decide) (by decide) kF9 kN9 ?_
  intro I9 l9
  obtain ⟨ta, tb, hst⟩ := start2 (x := Str.ofString "line") (y := Str.ofString "seen") (X := Str.ofString "") (Y := Str.ofString "") kF9 ⟨_, _, rfl, rfl⟩
  refine rrest_inv (σ := LSt) (fun c => news) (fun c => [(Str.ofString "line", .str c.l c.a), (Str.ofString "seen", .str c.s c.b)]) [S "k", S "place", S "letter", S "form", S "bold", S "sign"] (fun i c => c.l = lineS mark i ∧ c.s = seenS mark i) ⟨Str.ofString "", ta, Str.ofString "", tb⟩ rfl hst ⟨rfl, rfl⟩ ?_ ?_
  · rintro i ⟨ln, a, sn, b⟩ u9 t9 h9 tk9 hi9 ⟨hl9, hs9⟩ F9 N9
    dsimp only [kstB] at F9 N9 hl9 hs9
    subst hl9
    subst hs9
    have hl9 := lineS_len mark i
    have hs9 := seenS_len mark i
    have hj0 : (0 : Int) ≤ 0 + (i : Int) := by omega
    have hj1 : 0 + (i : Int) < 7 := by omega
    k_steps
    refine unhold ?_
    (rename News _ _ _ _ => N8)
    refine strs_item N8 (.head _) (.cons _ _ (.cons _ _ (.cons _ _ (.cons _ _ .nil)))) (fm4 _).1 (four_lt (fm4 _).2) (Int.lt_trans (fm4 _).2 (by decide)) ?_
    intro t9
    have hsl := sign_len (fm7 (Int.fdiv mark 2097152 + (0 + (i : Int)))).1 (fm7 _).2 (formL mark i).toNat
    have hll := let_len (fm7 (Int.fdiv mark 2097152 + (0 + (i : Int)))).1 (fm7 _).2
    generalize hsg : List.getD [_, _, _, _] _ Str.empty = sg at hsl
    dsimp only
    k_steps
    all_goals refine unhold ?_
    all_goals (rename Fr _ _ _ _ => kF7; rename News _ _ _ _ => kN7; replace kN7 := drop2 kN7)
    · rename Int.fmod _ 2 = 1 => c5
      obtain ⟨a', b', h1⟩ := start2 (x := Str.ofString "line") (y := Str.ofString "seen") (X := lineS mark i ++ sg) (Y := seenS mark i ++ letP (placeL mark i)) kF7 ⟨_, _, rfl, rfl⟩
      refine kss_end ⟨_, a', _, b'⟩ kF7 kN7 (fun p hp => Nat.ne_of_lt (l9 p hp)) h1 ?_ ⟨line_yes c5 hsg, seen_yes c5⟩
      walk_at "ks_h2"
    · rename Int.fmod _ 2 ≠ 1 => c5
      rename 1 < _ => c6
      obtain ⟨a', b', h1⟩ := start2 (x := Str.ofString "line") (y := Str.ofString "seen") (X := lineS mark i ++ Str.ofString "\"" ++ Str.ofString "\\\"" ++ sg ++ Str.ofString "\"") (Y := seenS mark i) kF7 ⟨_, _, rfl, rfl⟩
      refine kss_end ⟨_, a', _, b'⟩ kF7 kN7 (fun p hp => Nat.ne_of_lt (l9 p hp)) h1 ?_ ⟨line_no1 c5 c6 hsg, seen_no c5⟩
      walk_at "ks_h2"
    · rename Int.fmod _ 2 ≠ 1 => c5
      obtain ⟨a', b', h1⟩ := start2 (x := Str.ofString "line") (y := Str.ofString "seen") (X := lineS mark i ++ Str.ofString "\"" ++ Str.ofString "" ++ sg ++ Str.ofString "\"") (Y := seenS mark i) kF7 ⟨_, _, rfl, rfl⟩
      refine kss_end ⟨_, a', _, b'⟩ kF7 kN7 (fun p hp => Nat.ne_of_lt (l9 p hp)) h1 ?_ ⟨line_no2 c5 (by omega) hsg, seen_no c5⟩
      walk_at "ks_h2"
  · rintro ⟨ln, a, sn, b⟩ u9 h9 tk9 ⟨hl9, hs9⟩ F9 N9
    dsimp only [kstB] at F9 N9 hl9 hs9
    k_steps
    exact hret _ [(_, _)] _ _ ⟨_, _, _, rfl, by rw [← hl9, ← hs9]⟩ (by assumption) (by assumption)
end Mine
namespace Mine
open PySem PySem.W PySem.Calls PyProof.Rows PyProof.V
theorem reg0 (w : World) (h : Heap) (X : (K w.params).In h) : PySem.Challenge.rw_wf0109_01.row.prog = PySem.Challenge.rw_wf0109_01.row.prog → (K w.params).In h := by
  k_fill
  exact fun _ => X
local macro_rules | `(tactic| walk_at "compareOp In int ref") => `(tactic| (k_here; k_dflt (refine' b1_in ?F ?X ?_; (case F => k_asm); (case X => k_asm); k_whole)))
theorem c_b1 (w : World) (news : List (Addr × Obj)) (n : Nat) (t : Tok) : Ct w 1 84 news [.str ⟨#[n]⟩ t] fun v xs => v = .bool (b1S w.params n) ∧ xs = [] := by
  unfold Ct; intros
  rename_i hret
  refine wpAny_call ?_
  cell_enter
  k_steps
  exact hret _ [] _ _ ⟨rfl, rfl⟩ (by assumption) (by assumption)
local macro_rules | `(tactic| walk_at "getMethod ref") => `(tactic| (k_here; k_dflt (refine' getMethod_intTab_get (D := tabD) (d := 85) (tab_at (Frag.In.keeps ?X (Fr.keep ?F))) ?_; (case F => k_asm); (case X => k_asm); k_whole)))
theorem flat_str {v : Value} {x : Str} (h : PyProof.V.Flat v (.str x)) : ∃ t, v = .str x t := by
  have := h {}
  cases this
  exact ⟨_, rfl⟩
theorem flat_none {v : Value} (h : PyProof.V.Flat v .none) : v = .none := by
  have := h {}
  cases this
  rfl
section
variable {w : World} {A : Around} {E : Value → Shared → Prop} {s : Shared} {h₀ : Heap} {L : Addr} {m : Str → Option Value} {i : Int} {t : Tok} {Q : Value → Shared → Prop}
theorem b3_hit {x : Str} (F : Fr h₀ L s.heap m) (X : (K w.params).In h₀) (hl : PySem.Spec.lookup (.int i) tabD = some (.str x)) (h : ∀ u, Q (.str x u) { s with toks := s.toks + 1 }) :
    wpAny (model prog w) A (call (.builtin "dict.get") [.ref 85, .int i t]) Q E s :=
  call_get1_intTab (tab_at (X.keeps F.keep)) fun v hv => by
    rw [hl] at hv
    obtain ⟨u, rfl⟩ := flat_str hv
    exact h u
theorem b3_miss (F : Fr h₀ L s.heap m) (X : (K w.params).In h₀) (hl : PySem.Spec.lookup (.int i) tabD = none) (h : Q .none { s with toks := s.toks + 1 }) :
    wpAny (model prog w) A (call (.builtin "dict.get") [.ref 85, .int i t]) Q E s :=
  call_get1_intTab (tab_at (X.keeps F.keep)) fun v hv => by
    rw [hl] at hv
    obtain rfl := flat_none hv
    exact h
end
local macro_rules | `(tactic| walk_at "call builtin:dict.get") => `(tactic| (k_here; k_dflt (first | (refine' b3_hit ?F ?X ?hl ?_; (case F => k_asm); (case X => k_asm); (case hl => assumption); k_whole; intro u9) | (refine' b3_miss ?F ?X ?hl ?_; (case F => k_asm); (case X => k_asm); (case hl => assumption); k_whole))))
local macro_rules | `(tactic| walk_at "call builtin:str.lower") => `(tactic| (k_here; (refine SCL.lower (Nat.le_of_ble_eq_true rfl) ?_); intro _))
theorem c_b3_hit (w : World) (news : List (Addr × Obj)) (n : Nat) (t : Tok) (x : Str) (hl : PySem.Spec.lookup (.int (n : Int)) tabD = some (.str x)) : Ct w 1 130 news [.str ⟨#[n]⟩ t] fun v xs => (∃ u, v = .str x u) ∧ xs = [] := by
  unfold Ct; intros
  rename_i hret
  refine wpAny_call ?_
  cell_enter
  k_steps
  exact hret _ [] _ _ ⟨⟨_, rfl⟩, rfl⟩ (by assumption) (by assumption)
theorem c_b3_miss (w : World) (news : List (Addr × Obj)) (n : Nat) (t : Tok) (hl : PySem.Spec.lookup (.int (n : Int)) tabD = none) : Ct w 1 130 news [.str ⟨#[n]⟩ t] fun v xs => (∃ u, v = .str (Txt.lower ⟨#[n]⟩) u) ∧ xs = [] := by
  unfold Ct; intros
  rename_i hret
  refine wpAny_call ?_
  cell_enter
  k_steps
  exact hret _ [] _ _ ⟨⟨_, rfl⟩, rfl⟩ (by assumption) (by assumption)
end Mine
namespace Mine
open PySem PySem.W PySem.Calls PyProof.Rows PyProof.V
open PySem.SeqAt (EqAt RcAt RcNeAt)
theorem eq_tup {A : Around} {s : Shared} {a b : Addr} {k v : Str} {t u t' u' : Tok} (h1 : s.heap.IsTuple a #[.str k t, .str v u]) (h2 : s.heap.IsTuple b #[.str k t', .str v u']) (hu : A.units < cLine) : EqAt A s (.ref a) (.ref b) true := by
  by_cases e : a = b
  · subst e; exact EqAt.same _
  · refine EqAt.of_refs e ?_
    have z := RcAt.tuples (A := A) (e := fun _ => true) h1 h2 hu (by
      intro j j1 j2
      match j with
      | 0 => have := EqAt.str_str (A := A.in1) (s := s) k t k t'; rw [beq_self_eq_true] at this; exact this
      | 1 => have := EqAt.str_str (A := A.in1) (s := s) v u v u'; rw [beq_self_eq_true] at this; exact this
      | n + 2 => exact absurd j1 (by simp))
    exact z
theorem eq_rows {A : Around} {s : Shared} {a b : Addr} {rs rs2 : List RowT} (h1 : s.heap.IsList a (rowVals rs).toArray) (h2 : s.heap.IsList b (rowVals rs2).toArray) (t1 : ∀ r ∈ rs, s.heap.IsTuple r.a #[.str r.k r.t, .str r.v r.u]) (t2 : ∀ r ∈ rs2, s.heap.IsTuple r.a #[.str r.k r.t, .str r.v r.u])
    (hkv : rs.map (fun r => (r.k, r.v)) = rs2.map fun r => (r.k, r.v)) (hu : A.units + 100 < cLine) : EqAt A s (.ref a) (.ref b) true := by
  by_cases e : a = b
  · subst e; exact EqAt.same _
  · refine EqAt.of_refs e ?_
    have hl : rs.length = rs2.length := by simpa using congrArg List.length hkv
    have z := RcAt.lists (A := A) (e := fun _ => true) h1 h2 (by simp [rowVals, hl]) (by omega) (by
      intro j j1 j2
      have k1 : j < rs.length := by simpa [rowVals] using j1
      have k2 : j < rs2.length := by simpa [rowVals] using j2
      have e1 : (rowVals rs).toArray[j] = .ref rs[j].a := by simp [rowVals]
      have e2 : (rowVals rs2).toArray[j] = .ref rs2[j].a := by simp [rowVals]
      rw [e1, e2]
      have e3 : (rs[j].k, rs[j].v) = (rs2[j].k, rs2[j].v) := by
        have := congrArg (fun l => l[j]?) hkv
        simpa [k1, k2] using this
      have x1 := t1 rs[j] (List.getElem_mem k1)
      have x2 := t2 rs2[j] (List.getElem_mem k2)
      rw [← (Prod.mk.inj e3).1, ← (Prod.mk.inj e3).2] at x2
      exact eq_tup x1 x2 (by rw [units_in1]; omega))
    have e4 : ((List.range (rowVals rs).toArray.size).all fun _ => true) = true := by simp
    rw [e4] at z
    exact z
theorem ne_rows {prog : Program} {w : World} {A : Around} {E : Value → Shared → Prop} {s : Shared} {Q : Value → Shared → Prop} {x y a b : Addr} {rs rs2 : List RowT} (hx : s.heap.IsList x #[.ref a]) (hy : s.heap.IsList y #[.ref b]) (h1 : s.heap.IsList a (rowVals rs).toArray) (h2 : s.heap.IsList b (rowVals rs2).toArray) (t1 : ∀ r ∈ rs, s.heap.IsTuple r.a #[.str r.k r.t, .str r.v r.u]) (t2 : ∀ r ∈ rs2, s.heap.IsTuple r.a #[.str r.k r.t, .str r.v r.u])
    (hkv : rs.map (fun r => (r.k, r.v)) = rs2.map fun r => (r.k, r.v)) (hu : A.units + 110 < cLine) (h : Q (.bool false) s) : wpAny (model prog w) A (compareOp .NotEq (.ref x) (.ref y)) Q E s := by
  have z := RcNeAt.lists (A := A) (e := fun _ => true) hx hy rfl (by omega) (by
    intro j j1 j2
    match j with
    | 0 => exact eq_rows h1 h2 t1 t2 hkv (by rw [units_in1]; omega)
    | n + 1 => exact absurd j1 (by simp))
  exact z prog w E Q h
end Mine
namespace Mine
open PySem PySem.W PySem.Calls PyProof.Rows PyProof.V PyProof.Rows.LCt PyProof.Rows.LCg
theorem regTurn (w : World) (h : Heap) (X : (K w.params).In h) : PySem.Challenge.rw_wf0109_01.row.prog = PySem.Challenge.rw_wf0109_01.row.prog → (K w.params).In h := by
  k_fill
  exact fun _ => X
/- what a comprehension asks of its scope and closure -/
structure FitsC (env : Env) (scope : Scope) (cl : List (Str × Addr)) (x : Str) : Prop where
  clos : closureFor scope env = pure cl
  flat : ∀ p ∈ scope.names, p.2 ≠ .cell
  func : scope.kind = .function
  once : ∀ p ∈ scope.names, p.2 = .local → scope.names.lookup p.1 = some .local
  loc : scope.names.lookup x = some .local
section
variable {prog : Program} {w : World} {A : Around} {E : Value → Shared → Prop} {s : Shared} {h₀ : Heap} {L : Addr} {m : Str → Option Value}
/- a change of the comprehension's own frame leaves the caller's frame and the ledger -/
theorem off_C {C D : Addr} {h g : Heap} {o : Obj} {led : List (Addr × Obj)} (F : Fr h₀ L h m) (N : News h₀ L h ((D, o) :: led)) (new : h₀.get? C = none) (cl : C ≠ L) (cd : C ≠ D) (off : ∀ p ∈ led, p.1 ≠ C) (same : Heap.SameBut C h g) : Fr h₀ L g m ∧ News h₀ L g ((D, o) :: led) := by
  have apart : ∀ p ∈ (D, o) :: led, p.1 ≠ C := by
    intro p hp
    cases hp with
    | head => exact cd.symm
    | tail _ hp => exact off p hp
  exact ⟨F.change same cl new, fun p hp => ⟨same.extBut _ _ (apart p hp) (N p hp).1, (N p hp).2⟩⟩
/- the list made is bound to a name of the frame -/
theorem bind_D {env : Env} {y : Str} {py : Pos} {C D : Addr} {h : Heap} {tk : Nat} {ys : List Value} {led : List (Addr × Obj)} {m' : Str → Option Value} {s₂ : Shared} {Q : Flow → Shared → Prop} (loc : env.kindOf y = some .local) (plain : (env.scope.kind == .class || (env.scope.kind == .module && env.locals != env.globals)) = false)
    (F : Fr h₀ env.locals h m) (N : News h₀ env.locals h ((D, lst ys) :: led)) (o1 : Off1 D led) (own : h.Ns C m') (new : h₀.get? C = none) (c1 : C ≠ env.locals) (c2 : C ≠ D) (off : ∀ p ∈ led, p.1 ≠ C) (fin : FinA h₀ env.locals m s₂ y Q ys led) :
    wpAny (model prog w) A (assign (.Name y py) env (.ref D)) (fun _ s' => ∃ m', s'.heap.Ns C m' ∧ ∀ g, Heap.SameBut C s'.heap g → Q .next { s' with heap := g }) E { s₂ with heap := h, toks := tk } := by
  apply wpAny_assign_Name
  apply wpAny_storeName_local loc F.ns _ plain
  intro g ns same
  refine ⟨m', own.sameBut same c1, fun g' same' => ?_⟩
  have both := off_C (F.set ns same) (N.set same) new c1 c2 off same'
  exact fin D g' _ both.1 both.2 o1
theorem comp_ST {env : Env} {ct elt iter : Expr} {x : Str} {px : Pos} {scope : Scope} {cl : List (Str × Addr)} {pos at_ : Pos} {use : Value → Sem Unit} {Fin : Shared → List Value → List (Addr × Obj) → Prop} {R : Shared → Prop} (fits : FitsC env scope cl x)
    (src : wpAny (model prog w) A (eval iter env) (TextT prog w A h₀ L m env ct elt x scope cl Fin) E s) (plain : ∀ v, foldedSetIterable iter env v = pure v)
    (last : ∀ s₂ C D h tk m' ys led, Fr h₀ L h m → News h₀ L h ((D, lst ys) :: led) → Off1 D led → h.Ns C m' → h₀.get? C = none → C ≠ L → C ≠ D → (∀ p ∈ led, p.1 ≠ C) → Fin s₂ ys led →
      wpAny (model prog w) A (use (.ref D)) (fun _ s' => ∃ m', s'.heap.Ns C m' ∧ ∀ g, Heap.SameBut C s'.heap g → R { s' with heap := g }) E { s₂ with heap := h, toks := tk }) :
    wpAny (model prog w) A (comprehension (.ListComp elt [⟨.Name x px, iter, [ct], 0⟩] scope pos) scope env at_ (newList []) false (eval iter env) (some use)) (fun _ s' => R s') E s := by
  apply wpAny_comprehension_free (g := ⟨.Name x px, iter, [ct], 0⟩) (gs := []) rfl plain fits.clos fits.func fits.once
  apply wpAny_mono src _ (fun _ _ e => e)
  rintro _ s₁ ⟨y, t, led, rfl, hh, F, N, hsz, turns⟩
  apply str_iter _ hh
  intro o T walks st
  have grow : ∀ b q, s₁.heap.get? b = some q → (s₁.heap.push o).get? b = some q := fun b q e => Heap.get?_push_of_some _ e
  have low : ∀ b ∈ [s₁.heap.objs.size], b < (s₁.heap.push o).objs.size := by
    intro b hb
    have := List.mem_singleton.mp hb
    simp only [Heap.size_push]; omega
  refine block_T walks hsz str_io str_keep fits.flat fits.func fits.loc st low (F.keeps grow) (N.grown grow) (Nat.ne_of_lt F.ns.lt) (next_is_new F) N.apart trivial (turns _) ?_
  intro D C h tk m' ys led' F' N' o1 own c0 _ c1 _ c2 off fin
  exact last _ C D h tk m' ys led' F' N' o1 own c0 c1 c2 off fin
end
theorem Assign_ListComp_ST {prog : Program} {w : World} {A : Around} {E : Value → Shared → Prop} {s : Shared} {h₀ : Heap} {L : Addr} {m : Str → Option Value} {env : Env} {ct elt iter : Expr} {x y : Str} {px py : Pos} {scope : Scope} {cl : List (Str × Addr)} {pos spos : Pos} {Q : Flow → Shared → Prop} (_now : Fr h₀ L s.heap m) (isL : env.locals = L)
    (used : swapsWith (.ListComp elt [⟨.Name x px, iter, [ct], 0⟩] scope pos) (some (.Name y py)) spos.line env = pure true) (fits : FitsC env scope cl x) (loc : env.kindOf y = some .local) (plain : (env.scope.kind == .class || (env.scope.kind == .module && env.locals != env.globals)) = false) (nofold : ∀ v, foldedSetIterable iter env v = pure v)
    (src : wpAny (model prog w) A (eval iter env) (TextT prog w A h₀ L m env ct elt x scope cl (fun s₂ => FinA h₀ L m s₂ y Q)) E s) : wpAny (model prog w) A (exec (.Assign [.Name y py] (.ListComp elt [⟨.Name x px, iter, [ct], 0⟩] scope pos) spos) env) Q E s := by
  cases isL
  rw [exec_Assign_Name_used _ _ _ _ used]
  apply wpAny_bind
  apply wpAny_standAt
  apply wpAny_bind
  apply wpAny_bind
  apply wpAny_mono (comp_ST (use := assign (.Name y py) env) (R := Q .next) fits src nofold fun s₂ C D h tk m' ys led F N o1 own c0 c1 c2 off fin => bind_D loc plain F N o1 own c0 c1 c2 off fin) _ (fun _ _ e => e)
  intro _ s' q
  exact wpAny_pure (wpAny_pure q)
noncomputable def lFor : Stmt := (bodyOf (St 25)).getD 0 (.Pass default)
noncomputable abbrev lEnv (L fa : Addr) (cd : Value) : Env := envOfC (S "law") (scopeOf (St 25)) L fa cd
noncomputable abbrev lTop (dp un : Nat) (gd : Option (List Code)) (L fa : Addr) (cd : Value) (outer : List Env) : Around := ktrTop dp un gd (S "law") (scopeOf (St 25)) L fa cd [(S "code", L + 1 + 1), (S "seen", L + 1)] outer
noncomputable def inS (x y : Str) : Bool := !(Builtin.Str.occurrences x y 0 x.length 1).isEmpty
noncomputable def dueF (pre : List Nat) (c : Str) : List (Str × Str) :=
  ((pre.map sg1).filter (fun l => inS c l)).map (fun l => (l, Str.ofString "seen")) ++ ((c.cps.toList.map sg1).filter (fun l => !inS ⟨pre.toArray⟩ l)).map (fun l => (l, Str.ofString "put in"))
noncomputable def b3F (n : Nat) : Str := match PySem.Spec.lookup (.int (n : Int)) tabD with
  | some (.str x) => x
  | _ => Txt.lower ⟨#[n]⟩
theorem b3F_hit {n : Nat} {x : Str} (h : PySem.Spec.lookup (.int (n : Int)) tabD = some (.str x)) : b3F n = x := by unfold b3F; rw [h]
theorem b3F_miss {n : Nat} (h : PySem.Spec.lookup (.int (n : Int)) tabD = none) : b3F n = Txt.lower ⟨#[n]⟩ := by unfold b3F; rw [h]
theorem keep_no {P : Params} {n : Nat} {ps : List Nat} (h : b1S P (n : Int) = true) : ((ps ++ [n]).filter fun (n : Nat) => !b1S P (n : Int)).map b3F = (ps.filter fun (n : Nat) => !b1S P (n : Int)).map b3F := by
  rw [List.filter_append, List.filter_cons_of_neg (by simp [h]), List.filter_nil, List.append_nil]
theorem keep_yes {P : Params} {n : Nat} {ps : List Nat} (h : b1S P (n : Int) = false) : ((ps ++ [n]).filter fun (n : Nat) => !b1S P (n : Int)).map b3F = (ps.filter fun (n : Nat) => !b1S P (n : Int)).map b3F ++ [b3F n] := by
  rw [List.filter_append, List.filter_cons_of_pos (by simp [h]), List.filter_nil, List.map_append]
  rfl
theorem str_cps {x y : Str} (h : x.cps.toList = y.cps.toList) : x = y := by
  obtain ⟨a⟩ := x
  obtain ⟨b⟩ := y
  have h' : a = b := Array.ext' h
  rw [h']
theorem join_sg : ∀ (pre : List Nat), Txt.join (Str.ofString "") (pre.map sg1) = ⟨pre.toArray⟩ := by
  have key : ∀ (pre : List Nat), Str.join (Str.ofString "") (pre.map sg1) = ⟨pre.toArray⟩ := by
    intro pre
    induction pre with
    | nil => rfl
    | cons a r ih =>
      cases r with
      | nil => rfl
      | cons b r =>
        show sg1 a ++ Str.ofString "" ++ Str.join (Str.ofString "") ((b :: r).map sg1) = _
        rw [ih]
        apply str_cps
        have e : (Str.ofString "").cps = #[] := by decide +kernel
        rw [Str.cps_append, Str.cps_append, e]
        simp
  intro pre
  rw [← key pre]
  exact StrLaws.glued_eq_join _ _
theorem sg_fit {pre : List Nat} (h : pre.length ≤ 7) : ((pre.map sg1).map (·.length)).sum + (pre.map sg1).length ≤ 1048576 :=
  fit_of (by intro p hp; obtain ⟨n, _, rfl⟩ := List.mem_map.mp hp; exact (show 1 ≤ 100 by decide)) (by rw [List.length_map]; omega)
structure PLaw (P : Params) (mk : Int) (pre : List Nat) (c : Str) : Prop where
  esc : escEnd false (lineS mk 7).cps.toList = false
  left : (stripF (lineS mk 7)).length ≤ 100
  b3 : ((stripF (lineS mk 7)).cps.toList.filter (fun (n : Nat) => !b1S P (n : Int))).map b3F = pre.map sg1
  seen : seenS mk 7 = ⟨pre.toArray⟩
  set7 : isSet7 ⟨pre.toArray⟩
  near : nearL (Int.fmod mk 128) 16 = [c]
  csz : c.length ≤ 7
  mend : mendF pre = dueF pre c
theorem tabD_str : (tabD.all fun e => match e.2 with | .str _ => true | _ => false) = true := by kernel_rfl
theorem look_str {k : PyData} : ∀ {D : List (PyData × PyData)}, (D.all fun e => match e.2 with | .str _ => true | _ => false) = true → PySem.Spec.lookup k D = none ∨ ∃ x, PySem.Spec.lookup k D = some (.str x)
  | [], _ => .inl rfl
  | (a, b) :: r, h => by
    rw [List.all_cons, Bool.and_eq_true] at h
    unfold PySem.Spec.lookup
    split
    · cases b with
      | str x => exact .inr ⟨x, rfl⟩
      | _ => exact absurd h.1 (by simp)
    · exact look_str h.2
theorem ctg_use {w : World} {lv : Nat} {f : Addr} {news : List (Addr × Obj)} {vs : List Value} {R : Rel} {p : Program} {loose : List Str} {mean : ExcName → Option Value} {mg mb : Str → Option Value} {dp un : Nat} {gd : Option (List Code)} {cn : Str} {cs : Scope} {a : Addr} {ccd : Value} {cl : List (Str × Addr)} {outer : List Env} {A₀ : Around} {base h₀ : Heap} {L : Addr} {m : Str → Option Value} {s : Shared} {Q E : Value → Shared → Prop}
    (C : CtG w lv f news vs R) (B : Below A₀ base outer h₀) (F : Fr h₀ L s.heap m) (X : (K w.params).In h₀) (N : News h₀ L s.heap news) (T : Top p loose mean mg mb h₀) (hk : cs.kind = .function) (hd : dp + 2 * lv < recursionLimit) (hu : un + 20 * lv < cLine)
    (h : ∀ (v : Value) (xs : List (Addr × Obj)) (h' : Heap) (tk' : Nat) (gs' : Array GenState), R v xs → (gs' = s.gens ∨ gs' = s.gens.push .finished) → Fr h₀ L h' m → News h₀ L h' (xs ++ news) → Q v { s with heap := h', toks := tk', gens := gs' }) :
    wpAny (model prog w) (ktrTop dp un gd cn cs L a ccd cl outer) (call (.ref f) vs) Q E s :=
  C p loose mean mg mb dp un gd cn cs a ccd cl outer A₀ base h₀ L m s Q E B F X N T hk hd hu h
noncomputable def TEnd (g : Heap) (L : Addr) (s : Shared) (news : List (Addr × Obj)) (f : Flow) (s₃ : Shared) : Prop :=
  f = .next ∧ ∃ h' tk' gs' m' c1 c2, s₃ = { s with heap := h', toks := tk', gens := gs' } ∧ (gs' = s.gens ∨ gs' = s.gens.push .finished) ∧ Fr g L h' m' ∧ News g L h' ((L + 1 + 1, c2) :: (L + 1, c1) :: news) ∧ (∃ v, c1.data = .cell v) ∧ ∃ v, c2.data = .cell v
local macro_rules | `(tactic| walk_at "call ref") => `(tactic| (k_here; (with_reducible show wpAny _ _ (call (Value.ref 287) _) _ _ _); k_dflt (refine' ct_use (c_line _ _ _ _ ?z1 ?z2) ?k1 ?k2 ?k3 ?k4 ?k5 ?kK ?kd ?ku ?_; (case z1 => with_reducible assumption); (case z2 => with_reducible assumption); (case k1 => k_asm); (case k2 => k_asm); (case k3 => k_asm); (case k4 => k_asm); (case k5 => k_asm); (case kK => first | exact rfl | assumption); (case kd => ktr_room); (case ku => ((try dsimp only [ktrTop]); omega)); k_whole); intro v9 xs9 h' tk' hR9 F' N'; obtain ⟨D9, a9, b9, e1, e2⟩ := hR9; subst e1; subst e2; (try dsimp only [List.cons_append, List.nil_append] at N')))
local macro_rules | `(tactic| walk_at "call ref") => `(tactic| (k_here; (with_reducible show wpAny _ _ (call (Value.ref 66) _) _ _ _); refine hold ?_))
local macro_rules | `(tactic| walk_at "storeName") => `(tactic| (k_here; (with_reducible show wpAny _ _ (storeName _ (Str.ofString "seen") _) _ _ _); refine hold ?_))
local macro_rules | `(tactic| walk_at "storeName") => `(tactic| (k_here; (with_reducible show wpAny _ _ (storeName _ (Str.ofString "code") _) _ _ _); refine hold ?_))
local macro_rules | `(tactic| walk_at "eval ListComp") => `(tactic| (k_here; (with_reducible show wpAny _ _ (eval (Expr.ListComp _ [⟨_, _, [_], _⟩] _ _) _) _ _ _); k_dflt (refine ListComp_ST (F₀ := by k_asm) (by with_unfolding_all rfl) (by decide) (by rfl) (by decide) (by rfl) ?_)))
local macro_rules | `(tactic| walk_at "TextT") => `(tactic| (k_here; refine hold ?_))
local macro_rules | `(tactic| walk_at "call ref") => `(tactic| (k_here; (with_reducible show wpAny _ _ (call (Value.ref 84) _) _ _ _); refine hold ?_))
local macro_rules | `(tactic| walk_at "call ref") => `(tactic| (k_here; (with_reducible show wpAny _ _ (call (Value.ref 130) _) _ _ _); refine hold ?_))
local macro_rules | `(tactic| walk_at "call builtin:str.join") => `(tactic| (k_here; refine hold ?_))
local macro_rules | `(tactic| walk_at "exec If") => `(tactic| (k_here; refine wpAny_If ?_))
local macro_rules | `(tactic| walk_at "call ref") => `(tactic| (k_here; (with_reducible show wpAny _ _ (call (Value.ref 311) _) _ _ _); refine hold ?_))
local macro_rules | `(tactic| walk_at "exec For") => `(tactic| (k_here; (rename Fr _ _ _ _ => lF'); (refine For_turns lF' ?_ ?hs9 ?hE9; (case hs9 => (intro _; with_unfolding_all rfl)); (case hE9 => exact fun _ _ h => h.elim)); k_whole))
local macro_rules | `(tactic| walk_at "pyIter ref") => `(tactic| (k_here; refine hold ?_))
local macro_rules | `(tactic| walk_at "exec Assign cons ListComp") => `(tactic| (k_here; (with_reducible show wpAny _ _ (exec (Stmt.Assign [Expr.Name (Str.ofString "stay") _] _ _) _) _ _ _); refine hold ?_))
theorem strs_one {vs : List Value} {c : Str} (h : StrsAre vs [c]) : ∃ u, vs = [.str c u] := by
  cases h with
  | cons x t r => cases r; exact ⟨t, rfl⟩
theorem m128_lo (n : Int) : 0 ≤ Int.fmod n 128 := by
  rw [Int.fmod_eq_emod_of_nonneg _ (by decide)]
  exact Int.emod_nonneg _ (by decide)
theorem m128_hi (n : Int) : Int.fmod n 128 < 128 := by
  rw [Int.fmod_eq_emod_of_nonneg _ (by decide)]
  exact Int.emod_lt_of_pos _ (by decide)
noncomputable def RowInv (base : List (Addr × Obj)) (keep : Str → Bool) (v : Str) (ps : List Nat) (ys : List Value) (ns : List (Addr × Obj)) : Prop :=
  ∃ rs : List RowT, ns = base ++ rowLed rs ∧ ys = rowVals rs ∧ rowKV rs = ((ps.map sg1).filter keep).map (fun l => (l, v))
theorem row_no {base : List (Addr × Obj)} {keep : Str → Bool} {v : Str} {ps : List Nat} {n : Nat} {rs : List RowT} (h : rowKV rs = ((ps.map sg1).filter keep).map (fun l => (l, v))) (hk : keep (sg1 n) = false) : RowInv base keep v (ps ++ [n]) (rowVals rs) (base ++ rowLed rs) := by
  refine ⟨rs, rfl, rfl, ?_⟩
  rw [h, List.map_append, List.filter_append, List.map_cons, List.map_nil, List.filter_cons_of_neg (by rw [hk]; exact Bool.false_ne_true), List.filter_nil, List.append_nil]
theorem comp_yes {h₀ h' : Heap} {L I C D T : Addr} {m : Str → Option Value} {s₁ : Shared} {oI oC oD : Obj} {base : List (Addr × Obj)} {keep : Str → Bool} {k v : Str} {t u : Tok} {ps : List Nat} {n : Nat} {rs : List RowT} {tk : Nat} (F : Fr h₀ L h' m)
    (N : News h₀ L h' ((T, tup2 k t v u) :: (I, oI) :: (C, oC) :: (D, oD) :: (base ++ rowLed rs))) (off : Off3 I C D (base ++ rowLed rs)) (lt : I < T ∧ C < T ∧ D < T) (h : rowKV rs = ((ps.map sg1).filter keep).map (fun l => (l, v))) (hk : keep (sg1 n) = true) (he : k = sg1 n := by rfl) :
    CompEnd h₀ L m s₁ I oI C oC D oD (fun _ => True) (fun y ns' => RowInv base keep v (ps ++ [n]) (rowVals rs ++ [y]) ns') (.ref T) { s₁ with heap := h', toks := tk } := by
  refine CompEnd.intro F N (base ++ rowLed (rs ++ [⟨T, k, t, v, u⟩])) ?_ (Off3.of ?_) trivial ⟨rs ++ [⟨T, k, t, v, u⟩], rfl, by simp [rowVals], ?_⟩
  · intro p hp
    have e : rowLed (rs ++ [(⟨T, k, t, v, u⟩ : RowT)]) = rowLed rs ++ [(T, tup2 k t v u)] := by simp [rowLed]
    rw [e] at hp
    simp only [List.mem_cons, List.mem_append, List.not_mem_nil, or_false] at hp ⊢
    rcases hp with h | h | h | h | h | h
    · exact .inr (.inl h)
    · exact .inr (.inr (.inl h))
    · exact .inr (.inr (.inr (.inl h)))
    · exact .inr (.inr (.inr (.inr (.inl h))))
    · exact .inr (.inr (.inr (.inr (.inr h))))
    · exact .inl h
  · intro p hp
    have e : rowLed (rs ++ [(⟨T, k, t, v, u⟩ : RowT)]) = rowLed rs ++ [(T, tup2 k t v u)] := by simp [rowLed]
    rw [e, ← List.append_assoc] at hp
    rcases List.mem_append.mp hp with hp | hp
    · exact off.mem p hp
    · rw [List.mem_singleton.mp hp]
      exact ⟨Nat.ne_of_gt lt.1, Nat.ne_of_gt lt.2.1, Nat.ne_of_gt lt.2.2⟩
  · subst he
    have e : rowKV (rs ++ [(⟨T, sg1 n, t, v, u⟩ : RowT)]) = rowKV rs ++ [(sg1 n, v)] := by simp [rowKV]
    rw [e, h, List.map_append, List.filter_append, List.map_cons, List.map_nil, List.filter_cons_of_pos hk, List.filter_nil, List.map_append]
    rfl
local macro_rules | `(tactic| walk_at "binaryOp Add ref ref") => `(tactic| (k_here; refine hold ?_))
local macro_rules | `(tactic| walk_at "call builtin:list.append") => `(tactic| (k_here; refine hold ?_))
local macro_rules | `(tactic| walk_at "UnrEnd") => `(tactic| (k_here; refine hold ?_))
local macro_rules | `(tactic| walk_at "UnrEndW") => `(tactic| (k_here; refine hold ?_))
theorem rows_count {l : List Nat} {keep : Str → Bool} {v : Str} {rs : List RowT} (h : rowKV rs = ((l.map sg1).filter keep).map (fun l => (l, v))) : rs.length ≤ l.length := by
  have h1 := congrArg List.length h
  rw [List.length_map, List.length_map] at h1
  have h2 := List.length_filter_le keep (l.map sg1)
  rw [List.length_map] at h2
  rw [h1]
  exact h2
theorem cut2 {h₀ h : Heap} {L : Addr} {a b c : Addr × Obj} {r : List (Addr × Obj)} (N : News h₀ L h (a :: b :: c :: r)) : News h₀ L h (a :: r) := fun q hq => N q (by
  rcases List.mem_cons.mp hq with e | hq
  · exact List.mem_cons.mpr (.inl e)
  · exact .tail _ (.tail _ (.tail _ hq)))
theorem swap12 {h₀ h : Heap} {L : Addr} {a b : Addr × Obj} {r : List (Addr × Obj)} (N : News h₀ L h (a :: b :: r)) : News h₀ L h (b :: a :: r) := fun q hq => N q (by
  rcases List.mem_cons.mp hq with e | hq
  · exact .tail _ (List.mem_cons.mpr (.inl e))
  rcases List.mem_cons.mp hq with e | hq
  · exact List.mem_cons.mpr (.inl e)
  · exact .tail _ (.tail _ hq))
theorem rows_tup {rs rs2 : List RowT} {p : Addr × Obj} (hp : p ∈ rowLed rs ++ rowLed rs2) : p.2.cls = .type "tuple" := by
  rcases List.mem_append.mp hp with hp | hp
  · obtain ⟨r, _, rfl⟩ := List.mem_map.mp hp; rfl
  · obtain ⟨r, _, rfl⟩ := List.mem_map.mp hp; rfl
theorem obj_ne {h₀ h : Heap} {L : Addr} {news : List (Addr × Obj)} (N : News h₀ L h news) {p q : Addr × Obj} (hp : p ∈ news) (hq : q ∈ news) (ho : p.2 ≠ q.2) : p.1 ≠ q.1 := fun e => by
  have h1 := (N p hp).1
  have h2 := (N q hq).1
  rw [e, h2] at h1
  exact ho (Option.some.inj h1).symm
local macro_rules | `(tactic| walk_at "newList") => `(tactic| (k_here; (with_reducible show wpAny _ _ (newList [Value.ref _]) _ _ _); refine hold ?_))
local macro_rules | `(tactic| walk_at "compareOp NotEq ref ref") => `(tactic| (k_here; refine hold ?_))
theorem mod_lo (n : Int) : 0 ≤ Int.fmod n 14680064 := by
  rw [Int.fmod_eq_emod_of_nonneg _ (by decide)]
  exact Int.emod_nonneg _ (by decide)
theorem mod_hi (n : Int) : Int.fmod n 14680064 < 14680064 := by
  rw [Int.fmod_eq_emod_of_nonneg _ (by decide)]
  exact Int.emod_lt_of_pos _ (by decide)
theorem law_turn (w : World) (p : Program) (loose : List Str) (mean : ExcName → Option Value) (mg mb : Str → Option Value) (dp un : Nat) (gd : Option (List Code)) (fa : Addr) (cd : Value) (outer : List Env) (A₀ : Around) (base g : Heap) (L X I : Addr) (m : Str → Option Value) (s : Shared) (oX oI c1 c2 : Obj) (num : Int) (t : Tok)
    (B : Below A₀ base outer g) (F : Fr g L s.heap m) (KX : (K w.params).In g) (N : News g L s.heap [(L + 1 + 1, c2), (L + 1, c1), (I, oI), (X, oX)]) (T : Top p loose mean mg mb g) (hd : dp + 2 * 10 < recursionLimit) (hu : un + 20 * 10 < cLine)
    (d1 : ∃ v, c1.data = .cell v) (d2 : ∃ v, c2.data = .cell v) (hX : L + 1 + 1 < X) (hI : X < I) (nX : ∀ v, oX.data ≠ .cell v) (nI : ∀ v, oI.data ≠ .cell v) (pre : List Nat) (c : Str) (PL : PLaw w.params (Int.fmod num 14680064) pre c) :
    wpAny (model prog w) (lTop dp un gd L fa cd outer) (assign (forT lFor) (lEnv L fa cd) (.int num t)) (fun _ s₂ => wpAny (model prog w) (lTop dp un gd L fa cd outer) (execs (forB lFor) (lEnv L fa cd)) (TEnd g L s [(I, oI), (X, oX)]) (fun _ _ => False) s₂) (fun _ _ => False) s := by
  obtain ⟨v1, d1⟩ := d1
  obtain ⟨v2, d2⟩ := d2
  (with_unfolding_all show wpAny _ _ (assign (.Name (Str.ofString "number") _) _ _) _ _ _)
  have hm0 := mod_lo num
  have hm1 := mod_hi num
  have hLn : (lineS (Int.fmod num 14680064) 7).length ≤ 100 := Nat.le_trans (lineS_len (Int.fmod num 14680064) 7) (by decide)
  k_steps
  refine unhold ?_
  (rename Fr _ _ _ _ => F1); (rename News _ _ _ _ => N1)
  refine storeX_C F1 N1 rfl (UpdF.tail (cell_ne N1 (.tail _ (.tail _ (.head _))) d1 (.head _) (by intro v e; cases e)) (UpdF.tail (Nat.succ_ne_self _) (UpdF.head ?_))) d1 (fun h2 o2 F2 N2 d1' => ?_)
  · intro p hp
    rcases List.mem_cons.mp hp with rfl | hp
    · exact Nat.ne_of_gt (Nat.lt_trans (Nat.lt_trans (Nat.lt_succ_self _) hX) hI)
    · rw [List.mem_singleton.mp hp]; exact Nat.ne_of_gt (Nat.lt_trans (Nat.lt_succ_self _) hX)
  clear F1 N1
  replace N2 := ndrop N2
  k_steps
  refine unhold ?_
  (rename Fr _ _ _ _ => F1); (rename News _ _ _ _ => N1)
  refine ctg_use (c_strip w _ _ _ PL.esc hLn) B F1 KX N1 T rfl (by ktr_room) (by omega) fun v xs h3 tk3 gs3 hR hg3 F3 N3 => ?_
  obtain ⟨u3, rfl⟩ := hR
  replace N3 : News g L h3 [(L + 1 + 1, c2), (L + 1, o2), (I, oI), (X, oX)] := fun q hq => N3 q (List.mem_append_right _ hq)
  clear F1 N1
  k_steps
  refine unhold ?_
  (rename Fr _ _ _ _ => F1); (rename News _ _ _ _ => N1)
  refine textT_all (fun _ => True) (fun ps ys ns => ns = [(L + 1 + 1, c2), (L + 1, o2), (I, oI), (X, oX)] ∧ StrsAre ys ((ps.filter fun (n : Nat) => !b1S w.params (n : Int)).map b3F)) rfl F1 N1 (Nat.le_trans PL.left (by decide)) ⟨rfl, .nil⟩ (fun _ _ => trivial) ?_ ?_
  · rintro n ps u I5 oI5 C5 oC5 D5 m5 ys5 ns5 h5 tk5 E5 _ ⟨rfl, hp5⟩ hC5 hx5 F5 N5 off5 ne5
    clear F1 N1
    k_steps
    refine unhold ?_
    refine ct_use (c_b1 w _ n u) B F5 KX N5 T rfl (by ktr_room) (by omega) fun v9 xs9 h6 tk6 hR9 F6 N6 => ?_
    obtain ⟨rfl, rfl⟩ := hR9
    clear F5 N5
    dsimp only [List.nil_append] at N6
    cases hb : b1S w.params (n : Int) with
    | true =>
      k_steps
      exact CompEnd.intro F6 N6 _ (fun _ hp => hp) off5 trivial ⟨rfl, by rw [keep_no hb]; exact hp5⟩
    | false =>
      k_steps
      refine unhold ?_
      rcases look_str (k := .int (n : Int)) tabD_str with hl | ⟨x, hl⟩
      · refine ct_use (c_b3_miss w _ n u hl) B F6 KX N6 T rfl (by ktr_room) (by omega) fun v9 xs9 h7 tk7 hR9 F7 N7 => ?_
        obtain ⟨⟨u9, rfl⟩, rfl⟩ := hR9
        dsimp only [List.nil_append] at N7
        exact CompEnd.intro F7 N7 _ (fun _ hp => hp) off5 trivial ⟨rfl, by rw [keep_yes hb, b3F_miss hl]; exact strs_snoc hp5⟩
      · refine ct_use (c_b3_hit w _ n u x hl) B F6 KX N6 T rfl (by ktr_room) (by omega) fun v9 xs9 h7 tk7 hR9 F7 N7 => ?_
        obtain ⟨⟨u9, rfl⟩, rfl⟩ := hR9
        dsimp only [List.nil_append] at N7
        exact CompEnd.intro F7 N7 _ (fun _ hp => hp) off5 trivial ⟨rfl, by rw [keep_yes hb, b3F_hit hl]; exact strs_snoc hp5⟩
  · rintro g5 ys5 ns5 ⟨rfl, hp5⟩ D5 h5 tk5 F5 N5 o5
    clear F1 N1
    rw [PL.b3] at hp5
    have hp7 : pre.length ≤ 7 := PL.set7.1
    have hps : (⟨pre.toArray⟩ : Str).length ≤ 7 := hp7
    rw [PL.seen] at d1'
    k_steps
    refine unhold ?_
    refine join_listW (News.isList N5 (.head _)) (join_toList hp5) (by decide) (sg_fit hp7) ?_
    intro tj kj
    rw [join_sg]
    replace N5 := ndrop N5
    k_steps
    · rename (_ != _) = true => b9
      exact absurd b9 (by simp)
    · refine unhold ?_
      (rename Fr _ _ _ _ => F1); (rename News _ _ _ _ => N1)
      rename_i Du y1 y2 y3
      rename _ < Du ∧ _ < Du ∧ _ < Du ∧ _ < Du => lDu
      refine ct_use (c_near w _ _ _ (m128_lo _) (m128_hi _)) B F1 KX N1 T rfl (by ktr_room) (by omega) fun v9 xs9 h7 tk7 hR9 F7 N7 => ?_
      obtain ⟨Dn, vs, kn, rfl, rfl, hvs⟩ := hR9
      rw [PL.near] at hvs
      obtain ⟨un9, rfl⟩ := strs_one hvs
      dsimp only [List.nil_append, List.cons_append] at N7
      clear F1 N1
      k_steps
      refine unhold ?_
      refine iter_listTurns (lo := W.listOf [.str c un9].toArray kn) (vs := [.str c un9]) (n := kn) rfl F7 N7 (.head _) rfl rfl ?_
      intro I9 l9
      refine ItemsRest.val fun h8 tk8 F8 => AllObj.cons (fun o9 hc9 => AllObj.nil (fun N8 => ?_))
      clear F7
      dsimp only [List.cons_append, List.nil_append] at N8
      k_steps
      refine unhold ?_
      (rename Fr _ _ _ _ => F1); (rename News _ _ _ _ => N1)
      have cA := fun (q : Addr × Obj) hq (hk : ∀ v, q.2.data ≠ Data.cell v) => cell_ne N1 (.tail _ (.tail _ (.tail _ (.head _)))) d2 (p := q) hq hk
      refine storeX_C F1 N1 rfl (UpdF.tail (Nat.ne_of_gt (l9 _ (.tail _ (.tail _ (.head _))))) (UpdF.tail (cA _ (.tail _ (.head _)) (by intro v e; cases e)) (UpdF.tail (cA _ (.tail _ (.tail _ (.head _))) (by intro v e; cases e)) (UpdF.head ?_)))) d2 (fun h6 o6 F6 N6 d2' => ?_)
      · intro q hq
        rcases List.mem_cons.mp hq with rfl | hq
        · exact Nat.ne_of_lt (Nat.lt_succ_self _)
        rcases List.mem_cons.mp hq with rfl | hq
        · exact Nat.ne_of_gt (Nat.lt_trans hX hI)
        · rw [List.mem_singleton.mp hq]; exact Nat.ne_of_gt hX
      clear F1 N1 cA
      (try dsimp only at N6)
      k_steps
      refine unhold ?_
      refine Assign_ListComp_ST F6 (cl := [(S "code", L + 1 + 1)]) rfl (by with_unfolding_all rfl) ⟨by with_unfolding_all rfl, by decide, by rfl, by decide, by rfl⟩ (by with_unfolding_all rfl) (by with_unfolding_all rfl) (fun _ => rfl) ?_
      k_steps
      refine unhold ?_
      (rename Fr _ _ _ _ => F1); (rename News _ _ _ _ => N1)
      refine textT_all (fun _ => True) (RowInv _ (fun l => inS c l) (Str.ofString "seen")) rfl F1 N1 (Nat.le_trans hps (by decide)) ⟨[], (List.append_nil _).symm, rfl, rfl⟩ (fun _ _ => trivial) ?_ ?_
      · rintro n ps u I5 oI5 C5 oC5 D5 m5 ys5 ns5 h5 tk5 E5 _ ⟨rs, rfl, rfl, hrs⟩ hC5 hx5 F5 N5 off5 ne5
        clear F1 N1
        simp only [List.cons_append, List.nil_append] at N5
        k_steps
        · rename _ = true => b9
          exact CompEnd.intro F5 N5 _ (fun _ hp => hp) off5 trivial (row_no hrs (by unfold inS; rw [b9]; rfl))
        · rename _ = false => b9
          (rename Fr _ _ _ _ => F4); (rename News _ _ _ _ => N4)
          rename _ ∧ _ ∧ _ ∧ _ ∧ _ => l4
          exact comp_yes (k := sg1 n) F4 N4 off5 ⟨l4.1, l4.2.1, l4.2.2.1⟩ hrs (by unfold inS; rw [b9]; rfl)
      · rintro g6 ys6 ns6 ⟨rs, rfl, rfl, hrs⟩ Ds h4 tk4 F4 N4 os4
        clear F1 N1
        simp only [List.cons_append, List.nil_append] at N4
        k_steps
        refine unhold ?_
        refine textT_all (fun _ => True) (RowInv _ (fun l => !inS ⟨pre.toArray⟩ l) (Str.ofString "put in")) rfl F4 N4 (Nat.le_trans PL.csz (by decide)) ⟨[], (List.append_nil _).symm, rfl, rfl⟩ (fun _ _ => trivial) ?_ ?_
        · rintro n ps u I5 oI5 C5 oC5 D5 m5 ys5 ns5 h5 tk5 E5 _ ⟨rs2, rfl, rfl, hrs2⟩ hC5 hx5 F5 N5 off5 ne5
          clear F4 N4
          simp only [List.cons_append, List.nil_append] at N5
          k_steps
          · rename _ = true => b9
            (rename Fr _ _ _ _ => F4); (rename News _ _ _ _ => N4)
            rename _ ∧ _ ∧ _ ∧ _ ∧ _ => l4
            exact comp_yes (k := sg1 n) F4 N4 off5 ⟨l4.1, l4.2.1, l4.2.2.1⟩ hrs2 (by unfold inS; rw [b9]; rfl)
          · rename _ = false => b9
            exact CompEnd.intro F5 N5 _ (fun _ hp => hp) off5 trivial (row_no hrs2 (by unfold inS; rw [b9]; rfl))
        · rintro g7 ys7 ns7 ⟨rs2, rfl, rfl, hrs2⟩ Dp h5 tk5 F5 N5 os5
          clear F4 N4
          simp only [List.cons_append, List.nil_append] at N5
          k_steps
          refine unhold ?_
          (rename Fr _ _ _ _ => F4); (rename News _ _ _ _ => N4)
          have hr1 : rs.length ≤ 7 := Nat.le_trans (rows_count hrs) hp7
          have hr2 : rs2.length ≤ 7 := Nat.le_trans (rows_count hrs2) PL.csz
          refine add_arrays F4 N4 (News.isList N4 (.tail _ (.head _))) (News.isList N4 (.head _)) ?_ (by rw [List.size_toArray, List.size_toArray, List.length_map, List.length_map]; exact Nat.le_trans (Nat.add_le_add hr1 hr2) (by decide))
          intro h6 F6 N6
          have lA := fun q hq => Heap.lt_size (N4 q hq).1
          dsimp only at N6 lA
          generalize h5.objs.size = Ad at N6 lA
          clear F4 N4
          k_steps
          refine unhold ?_
          (rename Fr _ _ _ _ => F4); (rename News _ _ _ _ => N4)
          have N6 := cut2 N4
          clear N4
          have hDn : Dn ≠ Du := obj_ne N6 (.tail _ (.tail _ (.head _))) (.tail _ (.tail _ (.tail _ (.head _)))) (by intro e; simp [W.listOf] at e)
          refine append_K F4 N6 (Upd.tail (Nat.ne_of_gt (lA _ (.tail _ (.tail _ (.tail _ (.tail _ (.head _))))))) (Upd.tail (Nat.ne_of_gt (l9 _ (.tail _ (.head _)))) (Upd.tail hDn (Upd.head ?_)))) ?_ (by decide)
          · intro q hq
            rcases List.mem_cons.mp hq with rfl | hq
            · exact Nat.ne_of_lt lDu.1
            rcases List.mem_cons.mp hq with rfl | hq
            · exact Nat.ne_of_lt lDu.2.1
            rcases List.mem_cons.mp hq with rfl | hq
            · exact Nat.ne_of_lt lDu.2.2.1
            rcases List.mem_cons.mp hq with rfl | hq
            · exact Nat.ne_of_lt lDu.2.2.2
            · refine obj_ne N6 (.tail _ (.tail _ (.tail _ (.tail _ (.tail _ (.tail _ (.tail _ (.tail _ hq)))))))) (.tail _ (.tail _ (.tail _ (.head _)))) (fun e => ?_)
              have e1 := rows_tup hq
              rw [e] at e1
              simp [W.listOf] at e1
          intro h7 F7 N7
          have hI9 : ∀ q ∈ rowLed rs ++ rowLed rs2, q.1 ≠ I9 := fun q hq => obj_ne N6 (.tail _ (.tail _ (.tail _ (.tail _ (.tail _ (.tail _ (.tail _ (.tail _ hq)))))))) (.tail _ (.head _)) (fun e => by
            have e1 := rows_tup hq
            rw [e] at e1
            dsimp only at hc9
            rw [hc9] at e1
            simp at e1)
          clear F4 N6
          k_steps
          refine unhold ?_
          (rename Fr _ _ _ _ => F4); (rename News _ _ _ _ => N4)
          refine ⟨_, _, _, _, rfl, F4, swap12 N4, ?_, ⟨.tail _ (.head _), trivial⟩, ItemsRest.zero ?_⟩
          · intro q hq q' hq'
            rw [List.mem_singleton.mp hq']
            rcases List.mem_cons.mp hq with rfl | hq
            · exact Nat.ne_of_gt (lA _ (.tail _ (.tail _ (.head _))))
            rcases List.mem_cons.mp hq with rfl | hq
            · exact Nat.ne_of_lt (l9 _ (.head _))
            rcases List.mem_cons.mp hq with rfl | hq
            · exact Nat.ne_of_lt (l9 (Du, W.listOf #[] 0) (.tail _ (.head _)))
            rcases List.mem_cons.mp hq with rfl | hq
            · exact Nat.ne_of_lt (l9 (L + 1 + 1, c2) (.tail _ (.tail _ (.head _))))
            rcases List.mem_cons.mp hq with rfl | hq
            · exact Nat.ne_of_lt (l9 _ (.tail _ (.tail _ (.tail _ (.head _)))))
            rcases List.mem_cons.mp hq with rfl | hq
            · exact Nat.ne_of_lt (l9 _ (.tail _ (.tail _ (.tail _ (.tail _ (.head _))))))
            rcases List.mem_cons.mp hq with rfl | hq
            · exact Nat.ne_of_lt (l9 _ (.tail _ (.tail _ (.tail _ (.tail _ (.tail _ (.head _)))))))
            · exact hI9 q hq
          · intro h10 tk10 F10 N10
            clear F4 N4
            dsimp only
            k_steps
            (rename Fr _ _ _ _ => F4); (rename News _ _ _ _ => N4)
            refine ct_use (c_mend w _ _ _ PL.set7) B F4 KX N4 T rfl (by ktr_room) (by omega) fun v9 xs9 h11 tk11 hR9 F11 N11 => ?_
            obtain ⟨Dm, km, rs3, rfl, rfl, hm⟩ := hR9
            dsimp only [List.nil_append, List.cons_append] at N11
            clear F4 N4
            k_steps
            refine unhold ?_
            refine newList_K F11 N11 (fun ML h12 F12 N12 lM => ?_) (show 1 ≤ sizeLine by decide)
            clear F11 N11
            k_steps
            refine unhold ?_
            have hkv : rowKV rs3 = rowKV (rs ++ rs2) := by
              have e : rowKV (rs ++ rs2) = rowKV rs ++ rowKV rs2 := by simp [rowKV]
              rw [e, hrs, hrs2, hm]
              exact PL.mend
            have hl2 := News.isList N12 (.tail _ (.tail _ (List.mem_append_right _ (.head _))))
            have e2 : ((rowVals rs).toArray.toList ++ (rowVals rs2).toArray.toList).toArray = (rowVals (rs ++ rs2)).toArray := by simp [rowVals]
            rw [e2] at hl2
            refine ne_rows (rs := rs3) (rs2 := rs ++ rs2) (News.isList N12 (.head _)) (News.isList N12 (.tail _ (.tail _ (List.mem_append_right _ (.tail _ (.tail _ (.head _))))))) (News.isList N12 (.tail _ (.head _))) hl2 ?_ ?_ hkv (by show un + 110 < cLine; omega) ?_
            · intro r hr
              exact News.isTup N12 (.tail _ (.tail _ (List.mem_append_left _ (List.mem_map.mpr ⟨r, hr, rfl⟩))))
            · intro r hr
              have hmem : (r.a, tup2 r.k r.t r.v r.u) ∈ rowLed rs ++ rowLed rs2 := by
                rcases List.mem_append.mp hr with hr | hr
                · exact List.mem_append_left _ (List.mem_map.mpr ⟨r, hr, rfl⟩)
                · exact List.mem_append_right _ (List.mem_map.mpr ⟨r, hr, rfl⟩)
              exact News.isTup N12 (.tail _ (.tail _ (List.mem_append_right _ (.tail _ (.tail _ (.tail _ (.tail _ (.tail _ (.tail _ (.tail _ hmem))))))))))
            · k_steps
              (rename Fr _ _ _ _ => F4); (rename News _ _ _ _ => N4)
              refine ⟨rfl, _, _, gs3, _, o2, o6, rfl, hg3, F4, fun q hq => N4 q (.tail _ (.tail _ (List.mem_append_right _ (.tail _ (.tail _ (.tail _ ?_)))))), ⟨_, d1'⟩, ⟨_, d2'⟩⟩
              exact List.mem_append_left (bs := rowLed rs ++ rowLed rs2) (as := [(L + 1 + 1, o6), (L + 1, o2), (I, oI), (X, oX)]) hq
end Mine
namespace Mine
open PySem PySem.W PySem.Calls PyProof.Rows PyProof.V PyProof.Rows.LCt PyProof.Rows.LCg
noncomputable def LI (g : Heap) (L X I : Addr) (vs : List Value) (s9 : Shared) (n : Nat) (sx : Shared) : Prop :=
  ∃ (i : Nat) (h : Heap) (tk : Nat) (gs : Array GenState) (m : Str → Option Value) (oX oI c1 c2 : Obj), sx = { s9 with heap := h, toks := tk, gens := gs } ∧ n + i = vs.length + 1 ∧ AllBare gs ∧ Fr g L h m ∧
    News g L h [(L + 1 + 1, c2), (L + 1, c1), (I, oI), (X, oX)] ∧ (∃ v, c1.data = .cell v) ∧ (∃ v, c2.data = .cell v) ∧ (oI.cls = .type "list_iterator" ∧ oI.data = .fields #[.ref X, .int (i : Int) 0]) ∧ (oX.cls = .type "list" ∧ ∃ k, oX.data = .seq vs.toArray k)
theorem ints_get {vs : List Value} {ns : List Int} (h : IntsAre vs ns) {i : Nat} (hi : i < vs.length) : ∃ n t, vs[i] = .int n t := by
  induction h generalizing i with
  | nil => exact absurd hi (Nat.not_lt_zero _)
  | cons a t r ih =>
    cases i with
    | zero => exact ⟨a, t, rfl⟩
    | succ i => exact ih (Nat.lt_of_succ_lt_succ hi)
theorem law_loop (w : World) (p : Program) (loose : List Str) (mean : ExcName → Option Value) (mg mb : Str → Option Value) (dp un : Nat) (gd : Option (List Code)) (fa : Addr) (cd : Value) (outer : List Env) (A₀ : Around) (base g : Heap) (L X I : Addr) (s9 : Shared) (vs : List Value) (ns : List Int) (R : Result → Shared → Prop)
    (B : Below A₀ base outer g) (KX : (K w.params).In g) (T : Top p loose mean mg mb g) (hd : dp + 2 * 10 < recursionLimit) (hu : un + 20 * 10 < cLine)
    (hX : L + 1 + 1 < X) (hI : X < I) (hgL : g.objs.size ≤ L) (hi : IntsAre vs ns) (PL : ∀ mk : Int, 0 ≤ mk → mk < 14680064 → ∃ pre c, PLaw w.params mk pre c)
    (done : ∀ (h : Heap) (tk : Nat) (gs : Array GenState) (m : Str → Option Value) (ws : List (Addr × Obj)), AllBare gs → Fr g L h m → News g L h ws → R (.ok .next) { s9 with heap := h, toks := tk, gens := gs })
    (n : Nat) (s : Shared) (hI0 : LI g L X I vs s9 n s) : codeAny (model prog w) (lTop dp un gd L fa cd outer) (.forLoop (forT lFor) (.ref I) (forB lFor) [] (lEnv L fa cd)) R s := by
  refine codeAny_forLoop_any (LI g L X I vs s9) ?_ n hI0
  rintro n s ⟨i, h, tk, gs, m, oX, oI, c1, c2, rfl, hn, hg, F, N, d1, d2, ⟨iI, iI2⟩, xX, kX, xX2⟩
  have hit : h.IsListIter I X i := ⟨oI, (N _ (.tail _ (.tail _ (.head _)))).1, iI, iI2⟩
  have hl : h.IsList X vs.toArray := ⟨oX, (N _ (.tail _ (.tail _ (.tail _ (.head _))))).1, xX, kX, xX2⟩
  have hIL : I ≠ L := (N _ (.tail _ (.tail _ (.head _)))).2.1
  have hIg : g.get? I = none := (N _ (.tail _ (.tail _ (.head _)))).2.2
  by_cases hlt : i < vs.length
  · refine wpAny_pyNext_list_item hit hl (x := vs[i]) (by simp [hlt]) fun h1 hit1 hs1 => ?_
    dsimp only
    refine letGo_listiter (i := i + 1) hit1 ?_
    obtain ⟨num, t, e⟩ := ints_get hi hlt
    rw [e]
    have F1 : Fr g L h1 m := F.change hs1 hIL hIg
    obtain ⟨oI', hI1, iI', iI2'⟩ := hit1
    have hkeep : ∀ q ∈ [(L + 1 + 1, c2), (L + 1, c1), (X, oX)], q ∈ [(L + 1 + 1, c2), (L + 1, c1), (I, oI), (X, oX)] → q.1 ≠ I → h1.get? q.1 = some q.2 := fun q _ hq hne => (hs1.2 q.1 hne).trans (N q hq).1
    have N1 : News g L h1 [(L + 1 + 1, c2), (L + 1, c1), (I, oI'), (X, oX)] := by
      refine List.forall_mem_cons.mpr ⟨⟨hkeep _ (.head _) (.head _) (Nat.ne_of_lt (Nat.lt_trans hX hI)), (N _ (.head _)).2⟩, List.forall_mem_cons.mpr ⟨⟨hkeep _ (.tail _ (.head _)) (.tail _ (.head _)) (Nat.ne_of_lt (Nat.lt_trans (Nat.lt_trans (Nat.lt_succ_self _) hX) hI)), (N _ (.tail _ (.head _))).2⟩, List.forall_mem_cons.mpr ⟨⟨hI1, hIL, hIg⟩, List.forall_mem_cons.mpr ⟨⟨hkeep _ (.tail _ (.tail _ (.head _))) (.tail _ (.tail _ (.tail _ (.head _)))) (Nat.ne_of_lt hI), (N _ (.tail _ (.tail _ (.tail _ (.head _))))).2⟩, List.forall_mem_nil _⟩⟩⟩⟩
    obtain ⟨pre, c, hP⟩ := PL _ (mod_lo num) (mod_hi num)
    have z := law_turn w p loose mean mg mb dp un gd fa cd outer A₀ base g L X I m { s9 with heap := h1, toks := tk, gens := gs } oX oI' c1 c2 num t B F1 KX N1 T hd hu d1 d2 hX hI (by intro v e; rw [xX2] at e; cases e) (by intro v e; rw [iI2'] at e; cases e) pre c hP
    refine wpAny_mono z (fun _ s₂ h₂ => wpAny_mono h₂ (fun f s₃ h₃ => ?_) fun _ _ x => x.elim) fun _ _ x => x.elim
    obtain ⟨rfl, h', tk', gs', m', c1', c2', rfl, hgs, F', N', d1', d2'⟩ := h₃
    refine ⟨n - 1, by omega, i + 1, h', tk', gs', m', oX, oI', c1', c2', rfl, by omega, ?_, F', N', d1', d2', ⟨iI', iI2'⟩, xX, kX, xX2⟩
    rcases hgs with rfl | rfl
    · exact hg
    · exact hg.push rfl
  · refine wpAny_pyNext_list_end (by rfl) hit hl (by simp; omega) fun h1 he1 => ?_
    refine wpAny_execs_nil ?_
    refine done h1 tk gs m [] hg ⟨F.ns.at' fun o e => he1 _ _ (Ne.symm hIL) e, fun b o e => he1 _ _ (fun q => by rw [q, hIg] at e; cases e) (F.keep b o e), F.above⟩ (List.forall_mem_nil _)
theorem li_start {g h : Heap} {L X : Addr} {m : Str → Option Value} {vs : List Value} {s9 : Shared} {tk k : Nat} {p q : Addr × Obj} {c1 c2 : Obj} (F : Fr g L h m) (N : News g L h [(X, W.listOf vs.toArray k), p, q, (L + 1 + 1, c2), (L + 1, c1)]) (hg : AllBare s9.gens) (d1 : ∃ v, c1.data = .cell v) (d2 : ∃ v, c2.data = .cell v) :
    LI g L X h.objs.size vs s9 (vs.length + 1) { s9 with heap := h.push { cls := .type "list_iterator", data := .fields #[.ref X, .int 0 0] }, toks := tk } := by
  have up : ∀ b o, h.get? b = some o → (h.push { cls := .type "list_iterator", data := .fields #[.ref X, .int 0 0] }).get? b = some o := fun b o e => Heap.get?_push_of_some _ e
  have N8 := N.grown up
  exact ⟨0, _, tk, s9.gens, m, _, _, c1, c2, rfl, rfl, hg, F.keeps up, List.forall_mem_cons.mpr ⟨N8 _ (.tail _ (.tail _ (.tail _ (.head _)))), List.forall_mem_cons.mpr ⟨N8 _ (.tail _ (.tail _ (.tail _ (.tail _ (.head _))))), List.forall_mem_cons.mpr ⟨⟨Heap.get?_push_size _ rfl, Nat.ne_of_gt F.ns.lt, Heap.get?_none_of_le (Nat.le_trans F.above (Nat.le_of_lt F.ns.lt))⟩, List.forall_mem_cons.mpr ⟨N8 _ (.head _), List.forall_mem_nil _⟩⟩⟩⟩, d1, d2, ⟨rfl, rfl⟩, rfl, k, rfl⟩
end Mine
namespace Mine
open PySem PySem.W PySem.Calls PyProof.Rows PyProof.V PyProof.Rows.LCt PyProof.Rows.LCg
local macro_rules | `(tactic| walk_at "exec For") => `(tactic| (k_here; refine hold ?_))
local macro_rules | `(tactic| walk_at "pyIter ref") => `(tactic| (k_here; refine hold ?_))
theorem post_ok (args : List WData) : PySem.Challenge.rw_wf0109_01.row.claim.post args (WData.bool true) args = true := by first | kernel_rfl | with_unfolding_all rfl | wrow_post | kc_post
theorem good_true {args : List WData} {s₁ : Shared} {h : Heap} {tk : Nat} {gs : Array GenState} {L : Addr} {m : Str → Option Value} {cl : Str → Option Addr} {mean : ExcName → Option Value} (F : Fr s₁.heap L h m) (hg : s₁.gens = #[]) (hb : AllBare gs) :
    GoodWG (OpenRow.toRowW PySem.Challenge.rw_wf0109_01.row).claim cl mean args s₁ (.ok (.ret (.bool true))) { s₁ with heap := h, toks := tk, gens := gs } := by
  have z := goodW_bool (c := (OpenRow.toRowW PySem.Challenge.rw_wf0109_01.row).claim) (cl := cl) (mean := mean) (args := args) (s' := { s₁ with heap := h, toks := tk }) (b := true) F hg (fun cls => rfl) (post_ok args) rfl
  exact ⟨z.1, .of_keep z.2.1, z.2.2.1, hb⟩
theorem walk_law (PLA : ∀ (P : Params) (mk : Int), 0 ≤ mk → mk < 14680064 → ∃ pre c, PLaw P mk pre c) : ∃ d kwd, defOf qv (OpenRow.toRowW PySem.Challenge.rw_wf0109_01.row).name = some (d, kwd) ∧ WalkO qv lz (XL qv []) (Hook.says HKk) (OpenRow.toRowW PySem.Challenge.rw_wf0109_01.row) d kwd fun f vs => PySem.call f vs := by
  refine ⟨_, _, rfl, ?_⟩
  k_fill
  intro w s₀ s₁ mg mb G Y fa o pm cd doc dV kV ho hd hcd hD hmg hg args vals as hpre hlay hrd hwl hlo
  have KX := kIn_of Y
  refine Ground.open G ?_
  intro T B D TE TW
  clear hmg
  wrow_args hpre hlay hrd hwl hlo
  refine enter_call ?_
  w_top on
  have K0 := below_caller (Top.heap T)
  w_call any ho hd hcd hD T F
  clear hd
  k_drop
  k_steps
  refine unhold ?_
  refine wpAny_For ?_ (fun _ => rfl)
  k_steps
  refine unhold ?_
  (rename Fr _ _ _ _ => F9); (rename News _ _ _ _ => N9)
  rename IntsAre _ ([11505068] ++ _) => hI9
  rename _ ∧ _ ∧ _ ∧ _ => l9
  refine wpAny_pyIter_list (News.isList N9 (.head _)) ?_
  (with_unfolding_all show codeAny _ _ (.forLoop (forT lFor) _ (forB lFor) [] (lEnv _ _ _)) _ _)
  have hg9 : AllBare s₁.gens := AllBare.of_eq hg
  refine law_loop (s9 := s₁) (outer := []) w _ _ _ _ _ _ _ _ _ _ _ _ _ _ _ _ _ _ _ K0 KX T ?_ ?_ l9.2.2.1 (Heap.lt_size (N9 _ (.head _)).1) (Nat.le_refl _) hI9 (PLA w.params) ?_ _ _ (li_start F9 N9 hg9 ⟨_, by assumption⟩ ⟨_, by assumption⟩)
  · decide +kernel
  · decide +kernel
  · intro h tk gs m ws hb F7 N7
    clear F9 N9
    dsimp only
    k_steps
    exact good_true F7 hg hb
end Mine
namespace Mine
open PySem PySem.W PySem.Calls PyProof.Rows PyProof.V PyProof.Rows.LCt PyProof.Rows.LCg
/- the reader's loop over a glued text -/
theorem qt : Str.ofString "\"" = sg1 34 := by decide +kernel
theorem bs : Str.ofString "\\" = sg1 92 := by decide +kernel
theorem escEnd_append : ∀ (A : List Nat) (b : Bool) (B : List Nat), escEnd b (A ++ B) = escEnd (escEnd b A) B
  | [], true, B => rfl
  | [], false, B => rfl
  | c :: r, true, B => escEnd_append r false B
  | c :: r, false, B => escEnd_append r _ B
theorem esc_append : ∀ (A : List Nat) (i : Nat) (b : Bool) (B : List Nat), esc i b (A ++ B) = esc i b A ++ esc (i + A.length) (escEnd b A) B
  | [], i, true, B => by simp [esc, escEnd]
  | [], i, false, B => by simp [esc, escEnd]
  | c :: r, i, true, B => by
    have ih := esc_append r (i + 1) false B
    simp only [List.cons_append, esc, escEnd, List.length_cons]
    rw [ih, show i + 1 + r.length = i + (r.length + 1) by omega]
  | c :: r, i, false, B => by
    have e : i + 1 + r.length = i + (r.length + 1) := by omega
    simp only [List.cons_append, esc, escEnd, List.length_cons]
    by_cases h : sg1 c = Str.ofString "\\"
    · rw [if_pos h, if_pos h, esc_append r (i + 1) true B, e, decide_eq_true h]
    · rw [if_neg h, if_neg h, esc_append r (i + 1) false B, e, decide_eq_false h]
      rfl
theorem esc_noq : ∀ (A : List Nat) (i : Nat) (b : Bool), (∀ c ∈ A, c ≠ 34) → ∀ p ∈ esc i b A, p.2 ≠ Str.ofString "\""
  | [], i, true, _, p, hp => by cases hp
  | [], i, false, _, p, hp => by cases hp
  | c :: r, i, true, h, p, hp => by
    rw [esc] at hp
    rcases List.mem_cons.mp hp with rfl | hp
    · intro e
      have e2 := congrArg (fun s : Str => s.cps.size) e
      have e3 : (Str.ofString "\\" ++ sg1 c).cps.size = (Str.ofString "\\").cps.size + (sg1 c).cps.size := app_len _ _
      dsimp only at e2
      rw [e3, bs, qt] at e2
      exact absurd e2 (show ¬ (1 + 1 = 1) by decide)
    · exact esc_noq r _ _ (fun x hx => h x (.tail _ hx)) p hp
  | c :: r, i, false, h, p, hp => by
    rw [esc] at hp
    split at hp
    · exact esc_noq r _ _ (fun x hx => h x (.tail _ hx)) p hp
    · rcases List.mem_cons.mp hp with rfl | hp
      · intro e
        rw [qt] at e
        exact h c (.head _) (sg1_inj e)
      · exact esc_noq r _ _ (fun x hx => h x (.tail _ hx)) p hp
theorem esc_calm : ∀ (A : List Nat), (∀ c ∈ A, c ≠ 92) → escEnd false A = false
  | [], _ => rfl
  | c :: r, h => by
    rw [escEnd, decide_eq_false (fun e => by rw [bs] at e; exact h c (.head _) (sg1_inj e))]
    exact esc_calm r fun x hx => h x (.tail _ hx)
theorem fold_plain (y : Str) : ∀ (l : List (Nat × Str)) (c : CS), (∀ p ∈ l, p.2 ≠ Str.ofString "\"") → l.foldl (stepS y) c = c
  | [], c, _ => rfl
  | p :: r, c, h => by
    have e : stepS y c p = c := if_neg (h p (.head _))
    rw [List.foldl_cons, e]
    exact fold_plain y r c fun q hq => h q (.tail _ hq)
noncomputable def Rd (y : Str) (A kept : List Nat) : Prop := escEnd false A = false ∧ ∃ st res, (esc 0 false A).foldl (stepS y) ⟨0, none, []⟩ = ⟨st, none, res⟩ ∧ st ≤ A.length ∧ (res.map (fun s : Str => s.cps.toList)).flatten ++ A.drop st = kept
theorem rd_nil (y : Str) : Rd y [] [] := ⟨rfl, 0, [], rfl, Nat.le_refl _, rfl⟩
theorem rd_seen {y : Str} {A kept S : List Nat} (h : Rd y A kept) (hS : ∀ c ∈ S, c ≠ 92 ∧ c ≠ 34) : Rd y (A ++ S) (kept ++ S) := by
  obtain ⟨h1, st, res, h2, h3, h4⟩ := h
  refine ⟨by rw [escEnd_append, h1]; exact esc_calm S fun c hc => (hS c hc).1, st, res, ?_, ?_, ?_⟩
  · rw [esc_append, List.foldl_append, h2, h1]
    exact fold_plain y _ _ (esc_noq S _ _ fun c hc => (hS c hc).2)
  · rw [List.length_append]; omega
  · rw [List.drop_append_of_le_length h3, ← List.append_assoc, h4]
theorem slice_part {y : Str} {A B : List Nat} (hy : y.cps.toList = A ++ B) {st : Nat} (h : st ≤ A.length) : (Txt.slice y (some (st : Int)) (some (A.length : Int))).cps.toList = A.drop st := by
  have hl : y.length = A.length + B.length := by
    show y.cps.size = _
    rw [← Array.length_toList, hy, List.length_append]
  have z := eq_of_beq (slice_closesL (x := y) (i := (st : Int)) (j := (A.length : Int)) (by omega) (by omega) (by omega))
  rw [z]
  show (List.take _ (List.drop _ y.cps.toList)) = _
  rw [hy, show ((st : Int)).toNat = st by omega, List.drop_append_of_le_length h, show ((A.length : Int) - (st : Int)).toNat = (A.drop st).length by rw [List.length_drop]; omega]
  exact List.take_left
theorem rd_hid {y : Str} {A B kept Z : List Nat} (h : Rd y A kept) (hy : y.cps.toList = A ++ B) (hZ : escEnd false Z = false) (hq : ∀ i, ∀ p ∈ esc i false Z, p.2 ≠ Str.ofString "\"") : Rd y (A ++ (34 :: (Z ++ [34]))) kept := by
  obtain ⟨h1, st, res, h2, h3, h4⟩ := h
  have hne : ¬ sg1 34 = Str.ofString "\\" := by rw [bs]; exact fun e => absurd (sg1_inj e) (by decide)
  have e0 : ∀ r, escEnd false (34 :: r) = escEnd false r := fun r => by rw [escEnd, decide_eq_false hne]
  have e1 : ∀ i r, esc i false (34 :: r) = (i, sg1 34) :: esc (i + 1) false r := fun i r => by rw [esc, if_neg hne]
  have e2 : esc (0 + A.length) (escEnd false A) (34 :: (Z ++ [34])) = (A.length, sg1 34) :: (esc (A.length + 1) false Z ++ [(A.length + 1 + Z.length, sg1 34)]) := by
    rw [h1, e1, esc_append, hZ, e1, Nat.zero_add]
    rfl
  have s1 : stepS y ⟨st, none, res⟩ (A.length, sg1 34) = ⟨st, some A.length, res⟩ := if_pos qt.symm
  have s2 : stepS y ⟨st, some A.length, res⟩ (A.length + 1 + Z.length, sg1 34) = ⟨A.length + 1 + Z.length + 1, none, if st ≠ A.length then res ++ [Txt.slice y (some (st : Int)) (some (A.length : Int))] else res⟩ := if_pos qt.symm
  have hlen : (A ++ (34 :: (Z ++ [34]))).length = A.length + 1 + Z.length + 1 := by
    simp only [List.length_append, List.length_cons, List.length_nil]; omega
  refine ⟨by rw [escEnd_append, h1, e0, escEnd_append, hZ, e0]; rfl, A.length + 1 + Z.length + 1, (if st ≠ A.length then res ++ [Txt.slice y (some (st : Int)) (some (A.length : Int))] else res), ?_, Nat.le_of_eq hlen.symm, ?_⟩
  · rw [esc_append, List.foldl_append, h2, e2, List.foldl_cons, s1, List.foldl_append, fold_plain y _ _ (hq _), List.foldl_cons, s2]
    rfl
  · rw [List.drop_of_length_le (Nat.le_of_eq hlen), List.append_nil, ← h4]
    by_cases e : st = A.length
    · rw [if_neg (by omega), List.drop_of_length_le (by omega), List.append_nil]
    · rw [if_pos e, List.map_append, List.flatten_append, List.map_cons, List.map_nil, List.flatten_cons, List.flatten_nil, List.append_nil, slice_part hy h3]
theorem join_flat : ∀ (l : List Str), (Txt.join (Str.ofString "") l).cps.toList = (l.map (fun s : Str => s.cps.toList)).flatten := by
  have key : ∀ (l : List Str), (Str.join (Str.ofString "") l).cps.toList = (l.map (fun s : Str => s.cps.toList)).flatten := by
    intro l
    induction l with
    | nil => rfl
    | cons a r ih =>
      cases r with
      | nil => simp [Str.join]
      | cons b r =>
        show (a ++ Str.ofString "" ++ Str.join (Str.ofString "") (b :: r)).cps.toList = _
        have e : (Str.ofString "").cps = #[] := by decide +kernel
        rw [Str.cps_append, Str.cps_append, e, Array.append_empty, Array.toList_append, ih]
        rfl
  intro l
  rw [← key l]
  exact congrArg (fun s : Str => s.cps.toList) (StrLaws.glued_eq_join _ _)
theorem rd_strip {y : Str} {kept : List Nat} (h : Rd y y.cps.toList kept) : (stripF y).cps.toList = kept := by
  obtain ⟨h1, st, res, h2, h3, h4⟩ := h
  have hl : y.length = y.cps.toList.length := by rw [Array.length_toList]; rfl
  unfold stripF
  rw [qt, empty_one]
  by_cases hm : 34 ∈ y.cps.toList
  · rw [decide_eq_true hm, if_neg (by simp), join_flat]
    have e : stripC y = ⟨st, none, res⟩ := h2
    rw [e, ← h4]
    dsimp only
    by_cases e2 : st < y.length
    · rw [if_pos e2, List.map_append, List.flatten_append, List.map_cons, List.map_nil, List.flatten_cons, List.flatten_nil, List.append_nil]
      congr 1
      have z := eq_of_beq (slice_closes_fromL (x := y) (i := (st : Int)) (b := (y.length : Int)) (by omega) (by omega) rfl)
      rw [z]
      show (List.take _ (List.drop _ y.cps.toList)) = _
      rw [show ((st : Int)).toNat = st by omega]
      exact List.take_of_length_le (by rw [List.length_drop]; omega)
    · rw [if_neg e2, List.drop_of_length_le (by omega), List.append_nil]
  · rw [decide_eq_false hm, if_pos (by rfl), ← h4]
    rw [fold_plain y _ _ (esc_noq _ _ _ fun c hc e => hm (e ▸ hc))] at h2
    obtain ⟨rfl, rfl⟩ : 0 = st ∧ [] = res := by
      injection h2 with a b c
      exact ⟨a, c⟩
    rfl
end Mine
namespace Mine
open PySem PySem.W PySem.Calls PyProof.Rows PyProof.V PyProof.Rows.LCt PyProof.Rows.LCg
/- the law on numbers alone -/
noncomputable def codN (p : Nat) : Nat := [98, 103, 99, 114, 109, 121, 119].getD p 0
noncomputable def seenN (r w : Nat) : Nat → List Nat
  | 0 => []
  | i + 1 => if w / 2 ^ ((r + i) % 7) % 2 = 1 then seenN r w i ++ [codN ((r + i) % 7)] else seenN r w i
noncomputable def nearTab : List (List Nat) := [[], [], [], [98, 103, 99], [], [98, 103, 99], [98, 103, 99], [98, 103, 99], [], [98, 114, 109], [103, 114, 121], [98, 103, 114, 119], [99, 114, 119], [98, 99, 114, 121], [103, 99, 114, 109], [98, 103, 99], [], [98, 114, 109], [103, 109, 119], [98, 103, 109, 121], [99, 109, 121], [98, 99, 109, 119], [103, 99, 114, 109], [98, 103, 99], [98, 114, 109], [98, 114, 109], [103, 99, 114, 109], [98, 114, 109], [103, 99, 114, 109], [98, 114, 109], [103, 99, 114, 109], [103, 99, 114, 109], [], [98, 121, 119], [103, 114, 121], [98, 103, 109, 121], [99, 109, 121], [98, 99, 114, 121], [103, 99, 121, 119], [98, 103, 99], [103, 114, 121], [98, 99, 114, 121], [103, 114, 121], [103, 114, 121], [98, 99, 114, 121], [98, 99, 114, 121], [103, 114, 121], [98, 99, 114, 121], [99, 109, 121], [98, 103, 109, 121], [98, 103, 109, 121], [98, 103, 109, 121], [99, 109, 121], [99, 109, 121], [99, 109, 121], [98, 103, 109, 121], [114, 109, 121, 119], [98, 114, 109], [103, 114, 121], [98, 103, 109, 121], [99, 109, 121], [98, 99, 114, 121], [103, 99, 114, 109], [98, 103, 99, 114, 109, 121, 119], [], [98, 121, 119], [103, 109, 119], [98, 103, 114, 119], [99, 114, 119], [98, 99, 109, 119], [103, 99, 121, 119], [98, 103, 99], [99, 114, 119], [98, 103, 114, 119], [98, 103, 114, 119], [98, 103, 114, 119], [99, 114, 119], [99, 114, 119], [99, 114, 119], [98, 103, 114, 119], [103, 109, 119], [98, 99, 109, 119], [103, 109, 119], [103, 109, 119], [98, 99, 109, 119], [98, 99, 109, 119], [103, 109, 119], [98, 99, 109, 119], [114, 109, 121, 119], [98, 114, 109], [103, 109, 119], [98, 103, 114, 119], [99, 114, 119], [98, 99, 109, 119], [103, 99, 114, 109], [98, 103, 99, 114, 109, 121, 119], [98, 121, 119], [98, 121, 119], [103, 99, 121, 119], [98, 121, 119], [103, 99, 121, 119], [98, 121, 119], [103, 99, 121, 119], [103, 99, 121, 119], [114, 109, 121, 119], [98, 121, 119], [103, 114, 121], [98, 103, 114, 119], [99, 114, 119], [98, 99, 114, 121], [103, 99, 121, 119], [98, 103, 99, 114, 109, 121, 119], [114, 109, 121, 119], [98, 121, 119], [103, 109, 119], [98, 103, 109, 121], [99, 109, 121], [98, 99, 109, 119], [103, 99, 121, 119], [98, 103, 99, 114, 109, 121, 119], [114, 109, 121, 119], [114, 109, 121, 119], [114, 109, 121, 119], [98, 103, 99, 114, 109, 121, 119], [114, 109, 121, 119], [98, 103, 99, 114, 109, 121, 119], [98, 103, 99, 114, 109, 121, 119], [98, 103, 99, 114, 109, 121, 119]]
noncomputable def nearN (w : Nat) : List Nat := nearTab.getD w []
theorem near_all : ((List.range 128).all fun w => decide (nearL (w : Int) 16 = [⟨(nearN w).toArray⟩])) = true := by decide +kernel
theorem near_len : ((List.range 128).all fun w => decide ((nearN w).length ≤ 7)) = true := by decide +kernel
noncomputable def prN (n : Nat) : Nat × Nat × Nat := if n = 98 then (4, 2, 1) else if n = 103 then (2, 1, 4) else if n = 99 then (4, 1, 3) else if n = 114 then (1, 4, 2) else if n = 109 then (3, 4, 1) else if n = 121 then (1, 3, 4) else (3, 3, 3)
theorem pr_eq {n : Nat} (h : isL7 n) : prI n = (((prN n).1 : Int), ((prN n).2.1 : Int), ((prN n).2.2 : Int)) := by
  rcases h with rfl | rfl | rfl | rfl | rfl | rfl | rfl <;> decide +kernel
noncomputable def stepN (a : Nat × Nat × Nat) (n : Nat) : Nat × Nat × Nat := ((a.1 + (prN n).1) % 2, (a.2.1 + (prN n).2.1) % 2, (a.2.2 + (prN n).2.2) % 2)
noncomputable def toL (a : Nat × Nat × Nat) : List Int := [(a.1 : Int), (a.2.1 : Int), (a.2.2 : Int)]
theorem fmod_nat (a b : Nat) : Int.fmod ((a : Int) + (b : Int)) 2 = (((a + b) % 2 : Nat) : Int) := by
  rw [Int.fmod_eq_emod_of_nonneg _ (by decide)]
  omega
theorem step_eq {n : Nat} (h : isL7 n) (a : Nat × Nat × Nat) : stepL (toL a) n = toL (stepN a n) := by
  have e := pr_eq h
  unfold stepL toL stepN
  rw [e]
  simp only [List.getD_cons_zero, List.getD_cons_succ]
  rw [fmod_nat, fmod_nat, fmod_nat]
theorem lights_eq : ∀ (pre : List Nat) (a : Nat × Nat × Nat), (∀ n ∈ pre, isL7 n) → pre.foldl stepL (toL a) = toL (pre.foldl stepN a)
  | [], a, _ => rfl
  | n :: r, a, h => by
    rw [List.foldl_cons, List.foldl_cons, step_eq (h n (.head _))]
    exact lights_eq r _ fun m hm => h m (.tail _ hm)
noncomputable def nameN (a : Nat × Nat × Nat) : Nat :=
  if a.1 = 1 then (if a.2.1 = 1 then (if a.2.2 = 1 then 119 else 121) else (if a.2.2 = 1 then 109 else 114))
  else (if a.2.1 = 1 then (if a.2.2 = 1 then 99 else 103) else (if a.2.2 = 1 then 98 else 0))
noncomputable def strN (n : Nat) : Str := if n = 0 then Str.ofString "" else sg1 n
theorem cast1 (a : Nat) : ((a : Int) = 1) = (a = 1) := by
  apply propext; omega
theorem name_eq (a : Nat × Nat × Nat) : nameL (a.1 : Int) (a.2.1 : Int) (a.2.2 : Int) = strN (nameN a) := by
  obtain ⟨x, y, z⟩ := a
  unfold nameL nameN
  simp only [cast1]
  by_cases h1 : x = 1 <;> by_cases h2 : y = 1 <;> by_cases h3 : z = 1 <;> simp only [h1, h2, h3, if_true, if_false] <;> decide +kernel
noncomputable def mendN (pre : List Nat) : List (Nat × Bool) :=
  let f := nameN (pre.foldl stepN (0, 0, 0))
  if f = 0 then pre.map (·, true) else if f ∈ pre then (pre.filter fun n => decide (n ≠ f)).map (·, true) else pre.map (·, true) ++ [(f, false)]
noncomputable def dueN (pre cs : List Nat) : List (Nat × Bool) := (pre.filter fun n => decide (n ∈ cs)).map (·, true) ++ (cs.filter fun n => !decide (n ∈ pre)).map (·, false)
noncomputable def upN (p : Nat × Bool) : Str × Str := (sg1 p.1, if p.2 then Str.ofString "seen" else Str.ofString "put in")
theorem base_eq (l : List Nat) : baseF l = (l.map (·, true)).map upN := by
  unfold baseF
  rw [List.map_map]
  rfl
theorem mend_eq {pre : List Nat} (h : ∀ n ∈ pre, isL7 n) : mendF pre = (mendN pre).map upN := by
  have e : nameF pre = strN (nameN (pre.foldl stepN (0, 0, 0))) := by
    rw [← name_eq]
    unfold nameF lightsF
    have z := lights_eq pre (0, 0, 0) h
    rw [show toL (0, 0, 0) = [0, 0, 0] from rfl] at z
    rw [z]
    rfl
  unfold mendF mendN
  rw [e]
  generalize nameN (pre.foldl stepN (0, 0, 0)) = f
  dsimp only
  unfold strN
  by_cases hf : f = 0
  · rw [if_pos hf, if_pos rfl, if_pos hf, base_eq]
  · rw [if_neg hf, if_neg (sg_ne f), if_neg hf]
    by_cases hm : f ∈ pre
    · rw [if_pos (mem_sg.mpr hm), if_pos hm]
      unfold baseF
      rw [List.filter_map, List.map_map]
      have e2 : ((fun p : Str × Str => decide (p.1 ≠ sg1 f)) ∘ fun n => (sg1 n, Str.ofString "seen")) = fun n => decide (n ≠ f) := by
        funext n
        show decide (sg1 n ≠ sg1 f) = decide (n ≠ f)
        exact decide_eq_decide.mpr ⟨fun h e => h (by rw [e]), fun h e => h (sg1_inj e)⟩
      rw [e2]
      rfl
    · rw [if_neg (fun q => hm (mem_sg.mp q)), if_neg hm, base_eq, List.map_append]
      rfl
theorem in_eq (x : Str) (n : Nat) : inS x (sg1 n) = decide (n ∈ x.cps.toList) := StrLaws.found_one x n
theorem due_eq (pre cs : List Nat) : dueF pre ⟨cs.toArray⟩ = (dueN pre cs).map upN := by
  unfold dueF dueN
  rw [List.map_append, List.filter_map, List.filter_map, List.map_map, List.map_map, List.map_map, List.map_map]
  have e1 : ((fun l => inS ⟨cs.toArray⟩ l) ∘ sg1) = fun n => decide (n ∈ cs) := by
    funext n
    exact in_eq _ n
  have e2 : ((fun l => !inS ⟨pre.toArray⟩ l) ∘ sg1) = fun n => !decide (n ∈ pre) := by
    funext n
    show (!inS _ (sg1 n)) = _
    rw [in_eq]
  rw [e1, e2]
  rfl
theorem fin_all : ((List.range 7).all fun r => (List.range 128).all fun w => decide (mendN (seenN r w 7) = dueN (seenN r w 7) (nearN w))) = true := by decide +kernel
theorem seen_all : ((List.range 7).all fun r => (List.range 128).all fun w => decide ((seenN r w 7).length ≤ 7) && decide ((seenN r w 7).Nodup) && (seenN r w 7).all fun n => n == 98 || n == 103 || n == 99 || n == 114 || n == 109 || n == 121 || n == 119) = true := by decide +kernel
theorem isL7_of {n : Nat} (h : (n == 98 || n == 103 || n == 99 || n == 114 || n == 109 || n == 121 || n == 119) = true) : isL7 n := by
  unfold isL7
  simpa [or_assoc] using h
theorem seen_at {r w : Nat} (hr : r < 7) (hw : w < 128) : isSet7 ⟨(seenN r w 7).toArray⟩ := by
  have z := List.all_eq_true.mp (List.all_eq_true.mp seen_all r (List.mem_range.mpr hr)) w (List.mem_range.mpr hw)
  rw [Bool.and_eq_true, Bool.and_eq_true] at z
  exact ⟨of_decide_eq_true z.1.1, fun n hn => isL7_of (List.all_eq_true.mp z.2 n hn), of_decide_eq_true z.1.2⟩
theorem fin_at {r w : Nat} (hr : r < 7) (hw : w < 128) : mendF (seenN r w 7) = dueF (seenN r w 7) ⟨(nearN w).toArray⟩ := by
  rw [mend_eq (fun n hn => (seen_at hr hw).2.1 n hn), due_eq]
  exact congrArg _ (of_decide_eq_true (List.all_eq_true.mp (List.all_eq_true.mp fin_all r (List.mem_range.mpr hr)) w (List.mem_range.mpr hw)))
theorem near_at {w : Nat} (hw : w < 128) : nearL (w : Int) 16 = [⟨(nearN w).toArray⟩] := of_decide_eq_true (List.all_eq_true.mp near_all w (List.mem_range.mpr hw))
theorem nlen_at {w : Nat} (hw : w < 128) : (nearN w).length ≤ 7 := of_decide_eq_true (List.all_eq_true.mp near_len w (List.mem_range.mpr hw))
end Mine
namespace Mine
open PySem PySem.W PySem.Calls PyProof.Rows PyProof.V PyProof.Rows.LCt PyProof.Rows.LCg
/- the line, sign by sign -/
noncomputable def signN (p f : Nat) : List Nat := [[codN p], [codN p - 32], [119711 + codN p], [173, 119711 + codN p]].getD f []
theorem signs_ok : ((List.range 7).all fun p => (List.range 4).all fun f => decide (((formsP (p : Int)).getD f Str.empty).cps.toList = signN p f)) = true := by decide +kernel
theorem lets_ok : ((List.range 7).all fun p => decide ((letP (p : Int)).cps.toList = [codN p])) = true := by decide +kernel
theorem plain_ok : ((List.range 7).all fun p => (List.range 4).all fun f => (signN p f).all fun c => decide (c ≠ 92 ∧ c ≠ 34)) = true := by decide +kernel
theorem short_ok : ((List.range 7).all fun p => (List.range 4).all fun f => decide ((signN p f).length ≤ 2)) = true := by decide +kernel
noncomputable def allC : List Nat := [98, 103, 99, 114, 109, 121, 119, 66, 71, 67, 82, 77, 89, 87, 119809, 119814, 119810, 119825, 119820, 119832, 119830, 173]
theorem chars_ok : ((List.range 7).all fun p => (List.range 4).all fun f => (signN p f).all fun c => allC.contains c) = true := by decide +kernel
theorem b1_ok2 (P : Params) : (allC.all fun n => b1S P (n : Int) == decide (n = 173)) = true := by kernel_rfl
theorem b3_ok : ((List.range 7).all fun p => (List.range 4).all fun f => decide (((signN p f).filter fun n => !decide (n = 173)).map b3F = [sg1 (codN p)])) = true := by decide +kernel
theorem two {q : Nat → Nat → Bool} (h : ((List.range 7).all fun p => (List.range 4).all fun f => q p f) = true) {p f : Nat} (hp : p < 7) (hf : f < 4) : q p f = true :=
  List.all_eq_true.mp (List.all_eq_true.mp h p (List.mem_range.mpr hp)) f (List.mem_range.mpr hf)
theorem sign_letters (P : Params) {p f : Nat} (hp : p < 7) (hf : f < 4) : ((signN p f).filter fun (n : Nat) => !b1S P (n : Int)).map b3F = [sg1 (codN p)] := by
  have e : ((signN p f).filter fun (n : Nat) => !b1S P (n : Int)) = (signN p f).filter fun n => !decide (n = 173) := by
    refine List.filter_congr fun n hn => ?_
    have h1 := List.all_eq_true.mp (two chars_ok hp hf) n hn
    have h2 := List.all_eq_true.mp (b1_ok2 P) n (List.contains_iff_mem.mp h1)
    rw [eq_of_beq h2]
  rw [e]
  exact of_decide_eq_true (two b3_ok hp hf)
theorem place_eq (M i : Nat) : placeL (M : Int) i = (((M / 2097152 + i) % 7 : Nat) : Int) := by
  unfold placeL
  rw [Int.fdiv_eq_ediv_of_nonneg _ (by decide), Int.fmod_eq_emod_of_nonneg _ (by decide)]
  omega
theorem bit_eq (M : Nat) {p : Nat} (hp : p < 7) : (Int.fmod (Int.fdiv (M : Int) (2 ^ p)) 2 = 1) ↔ M % 128 / 2 ^ p % 2 = 1 := by
  have h : p = 0 ∨ p = 1 ∨ p = 2 ∨ p = 3 ∨ p = 4 ∨ p = 5 ∨ p = 6 := by omega
  rcases h with rfl | rfl | rfl | rfl | rfl | rfl | rfl <;> (rw [Int.fdiv_eq_ediv_of_nonneg _ (by decide), Int.fmod_eq_emod_of_nonneg _ (by decide)]; simp only [Int.reducePow, Nat.reducePow]; omega)
noncomputable abbrev plN (M i : Nat) : Nat := (M / 2097152 + i) % 7
noncomputable abbrev foN (M i : Nat) : Nat := (formL (M : Int) i).toNat
theorem pl_lt (M i : Nat) : plN M i < 7 := Nat.mod_lt _ (by decide)
theorem fo_lt (M i : Nat) : foN M i < 4 := by
  have h := fm4 (Int.fdiv (Int.fdiv (M : Int) 128) (4 ^ (placeL (M : Int) i).toNat))
  show (Int.fmod _ 4).toNat < 4
  omega
theorem fo_gt (M i : Nat) : (1 < formL (M : Int) i) ↔ 1 < foN M i := by
  have h := fm4 (Int.fdiv (Int.fdiv (M : Int) 128) (4 ^ (placeL (M : Int) i).toNat))
  show (1 < Int.fmod _ 4) ↔ 1 < (Int.fmod _ 4).toNat
  omega
theorem sign_eq (M i : Nat) : (signL (M : Int) i).cps.toList = signN (plN M i) (foN M i) := by
  have z := of_decide_eq_true (two signs_ok (pl_lt M i) (fo_lt M i))
  rw [← z]
  show ((formsP (placeL (M : Int) i)).getD (formL (M : Int) i).toNat Str.empty).cps.toList = _
  rw [place_eq]
noncomputable abbrev seeN (M i : Nat) : Prop := M % 128 / 2 ^ (plN M i) % 2 = 1
theorem see_iff (M i : Nat) : (Int.fmod (Int.fdiv (M : Int) (2 ^ (placeL (M : Int) i).toNat)) 2 = 1) ↔ seeN M i := by
  rw [place_eq, show ((((M / 2097152 + i) % 7 : Nat) : Int)).toNat = plN M i from Int.toNat_natCast _]
  exact bit_eq M (pl_lt M i)
noncomputable def segN (M i : Nat) : List Nat := if seeN M i then signN (plN M i) (foN M i) else 34 :: (((if 1 < foN M i then [92, 34] else []) ++ signN (plN M i) (foN M i)) ++ [34])
theorem app_cps (x y : Str) : (x ++ y).cps.toList = x.cps.toList ++ y.cps.toList := by
  rw [Str.cps_append, Array.toList_append]
theorem line_step (M i : Nat) : (lineS (M : Int) (i + 1)).cps.toList = (lineS (M : Int) i).cps.toList ++ segN M i := by
  show (if _ then _ else _ : Str).cps.toList = _
  unfold segN
  by_cases h : seeN M i
  · rw [if_pos ((see_iff M i).mpr h), if_pos h, app_cps, sign_eq]
  · rw [if_neg (fun q => h ((see_iff M i).mp q)), if_neg h, app_cps, app_cps, app_cps, app_cps, sign_eq]
    have e1 : (Str.ofString "\"").cps.toList = [34] := by decide +kernel
    have e2 : (if 1 < formL (M : Int) i then Str.ofString "\\\"" else Str.ofString "").cps.toList = if 1 < foN M i then [92, 34] else [] := by
      by_cases h2 : 1 < foN M i
      · rw [if_pos ((fo_gt M i).mpr h2), if_pos h2]; decide +kernel
      · rw [if_neg (fun q => h2 ((fo_gt M i).mp q)), if_neg h2]; decide +kernel
    rw [e1, e2]
    simp only [List.append_assoc, List.cons_append, List.nil_append]
theorem line_pre (M i : Nat) : ∀ j, ∃ B, (lineS (M : Int) (i + j)).cps.toList = (lineS (M : Int) i).cps.toList ++ B
  | 0 => ⟨[], (List.append_nil _).symm⟩
  | j + 1 => by
    obtain ⟨B, h⟩ := line_pre M i j
    refine ⟨B ++ segN M (i + j), ?_⟩
    rw [← Nat.add_assoc, line_step, h, List.append_assoc]
noncomputable def keptN (M : Nat) : Nat → List Nat
  | 0 => []
  | i + 1 => if seeN M i then keptN M i ++ signN (plN M i) (foN M i) else keptN M i
theorem plain_at (M i : Nat) : ∀ c ∈ signN (plN M i) (foN M i), c ≠ 92 ∧ c ≠ 34 := fun c hc => of_decide_eq_true (List.all_eq_true.mp (two plain_ok (pl_lt M i) (fo_lt M i)) c hc)
theorem hid_calm (M i : Nat) : escEnd false ((if 1 < foN M i then [92, 34] else []) ++ signN (plN M i) (foN M i)) = false := by
  rw [escEnd_append]
  have e : escEnd false (if 1 < foN M i then [92, 34] else []) = false := by split <;> decide +kernel
  rw [e]
  exact esc_calm _ fun c hc => (plain_at M i c hc).1
theorem hid_noq (M i : Nat) (k : Nat) : ∀ p ∈ esc k false ((if 1 < foN M i then [92, 34] else []) ++ signN (plN M i) (foN M i)), p.2 ≠ Str.ofString "\"" := by
  intro p hp
  rw [esc_append] at hp
  have hb : Str.ofString "\\" = sg1 92 := bs
  rcases List.mem_append.mp hp with hp | hp
  · split at hp
    · rw [esc, if_pos bs.symm, esc, esc] at hp
      rw [List.mem_singleton.mp hp]
      show Str.ofString "\\" ++ sg1 34 ≠ Str.ofString "\""
      decide +kernel
    · cases hp
  · exact esc_noq _ _ _ (fun c hc => (plain_at M i c hc).2) p hp
theorem rd_line (M : Nat) : ∀ i, i ≤ 7 → Rd (lineS (M : Int) 7) (lineS (M : Int) i).cps.toList (keptN M i)
  | 0, _ => by
    have e : (lineS (M : Int) 0).cps.toList = [] := by show (Str.ofString "").cps.toList = []; decide +kernel
    rw [e]
    exact rd_nil _
  | i + 1, h => by
    have ih := rd_line M i (Nat.le_of_succ_le h)
    rw [line_step]
    show Rd _ _ (if _ then _ else _)
    unfold segN
    by_cases hs : seeN M i
    · rw [if_pos hs, if_pos hs]
      exact rd_seen ih (plain_at M i)
    · rw [if_neg hs, if_neg hs]
      obtain ⟨B, hB⟩ := line_pre M i (7 - i)
      rw [show i + (7 - i) = 7 by omega] at hB
      exact rd_hid ih hB (hid_calm M i) (hid_noq M i)
theorem kept_len (M : Nat) : ∀ i, (keptN M i).length ≤ 2 * i
  | 0 => Nat.le_refl _
  | i + 1 => by
    have ih := kept_len M i
    show (if _ then _ else _ : List Nat).length ≤ _
    have h2 : (signN (plN M i) (foN M i)).length ≤ 2 := of_decide_eq_true (two short_ok (pl_lt M i) (fo_lt M i))
    split
    · rw [List.length_append]; omega
    · omega
theorem kept_letters (P : Params) (M : Nat) : ∀ i, ((keptN M i).filter fun (n : Nat) => !b1S P (n : Int)).map b3F = (seenN (M / 2097152) (M % 128) i).map sg1
  | 0 => rfl
  | i + 1 => by
    have ih := kept_letters P M i
    show ((if _ then _ else _ : List Nat).filter _).map _ = (if _ then _ else _ : List Nat).map _
    by_cases hs : seeN M i
    · rw [if_pos hs, if_pos hs, List.filter_append, List.map_append, ih, sign_letters P (pl_lt M i) (fo_lt M i), List.map_append]
      rfl
    · rw [if_neg hs, if_neg hs]
      exact ih
theorem seen_eq (M : Nat) : ∀ i, (seenS (M : Int) i).cps.toList = seenN (M / 2097152) (M % 128) i
  | 0 => by show (Str.ofString "").cps.toList = []; decide +kernel
  | i + 1 => by
    have ih := seen_eq M i
    show (if _ then _ else _ : Str).cps.toList = (if _ then _ else _ : List Nat)
    by_cases hs : seeN M i
    · rw [if_pos ((see_iff M i).mpr hs), if_pos hs, app_cps, ih, place_eq]
      exact congrArg _ (of_decide_eq_true (List.all_eq_true.mp lets_ok _ (List.mem_range.mpr (pl_lt M i))))
    · rw [if_neg (fun q => hs ((see_iff M i).mp q)), if_neg hs]
      exact ih
theorem plaw (P : Params) (mk : Int) (h0 : 0 ≤ mk) (h1 : mk < 14680064) : ∃ pre c, PLaw P mk pre c := by
  obtain ⟨M, rfl⟩ := Int.eq_ofNat_of_zero_le h0
  have hM : M < 14680064 := by omega
  have hr : M / 2097152 < 7 := by omega
  have hw : M % 128 < 128 := Nat.mod_lt _ (by decide)
  have hR := rd_line M 7 (Nat.le_refl _)
  have hS := rd_strip hR
  refine ⟨seenN (M / 2097152) (M % 128) 7, ⟨(nearN (M % 128)).toArray⟩, hR.1, ?_, ?_, ?_, seen_at hr hw, ?_, nlen_at hw, fin_at hr hw⟩
  · show (stripF (lineS (M : Int) 7)).cps.size ≤ 100
    rw [← Array.length_toList, hS]
    exact Nat.le_trans (kept_len M 7) (by decide)
  · rw [hS]
    exact kept_letters P M 7
  · exact str_cps (seen_eq M 7)
  · have e : Int.fmod (M : Int) 128 = ((M % 128 : Nat) : Int) := by
      rw [Int.fmod_eq_emod_of_nonneg _ (by decide)]
      omega
    rw [e]
    exact near_at hw
end Mine
namespace Mine
open PySem PySem.W PySem.Calls PyProof.Rows
noncomputable abbrev bdR : List Stmt := PySem.Challenge.rw_wf0109_01.row.prog.main.body
theorem strict_off : (!(importedModules bdR).all cThrough.contains) = false := by decide +kernel
theorem out_vars : readsOut PySem.Challenge.rw_wf0109_01.row.prog bdR "vars" = false := by decide +kernel
theorem out_dir : readsOut PySem.Challenge.rw_wf0109_01.row.prog bdR "dir" = false := by decide +kernel
theorem out_locals : readsOut PySem.Challenge.rw_wf0109_01.row.prog bdR "locals" = false := by decide +kernel
theorem none_of3 {α : Type} {f : α → Bool} {a b c : α} (x : f a = false) (y : f b = false) (z : f c = false) : [a, b, c].filter f = [] := by simp [List.filter, x, y, z]
theorem road_free : noRoadLSs { strict := false, foot := none, bare := [] } bdR = true := by decide +kernel
theorem look_eq : ({ strict := !(importedModules bdR).all cThrough.contains, foot := none, bare := (["vars", "dir", "locals"] : List Str).filter (readsOut PySem.Challenge.rw_wf0109_01.row.prog bdR) } : Look) = { strict := false, foot := none, bare := [] } := by
  rw [strict_off, none_of3 out_vars out_dir out_locals]
theorem road_ok : noRoadLSs { strict := !(importedModules bdR).all cThrough.contains, foot := none, bare := (["vars", "dir", "locals"] : List Str).filter (readsOut PySem.Challenge.rw_wf0109_01.row.prog bdR) } bdR = true := by
  rw [look_eq]; exact road_free
theorem law_said : PySem.Challenge.rw_wf0109_01.wellSaid = true := by
  unfold OpenLaw.wellSaid
  repeat' (with_reducible refine look_both ?_ ?_)
  all_goals first
    | (with_reducible show OpenRow.wellSaid _ = true
       unfold OpenRow.wellSaid OpenRow.partSaid looksOpen
       repeat' (with_reducible refine look_both ?_ ?_)
       all_goals first
         | (with_reducible show noRoadLSs _ _ = true
            exact road_ok)
         | decide +kernel)
    | decide +kernel
end Mine
namespace Mine
open PySem PySem.W PySem.Calls PyProof.Rows
theorem walk_all (d : DefRec) (kwd : List (Str × Expr)) (h : defOf qv (OpenRow.toRowW PySem.Challenge.rw_wf0109_01.row).name = some (d, kwd)) : WalkO qv lz (XL qv []) (Hook.says HKk) (OpenRow.toRowW PySem.Challenge.rw_wf0109_01.row) d kwd fun f vs => PySem.call f vs := by
  obtain ⟨d', k', h1, h2⟩ := walk_law plaw
  obtain ⟨rfl, rfl⟩ : d' = d ∧ k' = kwd := by
    have e := h1.symm.trans h
    injection e with e
    injection e with a b
    exact ⟨a, b⟩
  exact h2
theorem main_holds : PySem.Challenge.rw_wf0109_01.Holds := by
  w_on
  refine holds_law law_said fun said => ?_
  refine holds_open (r := PySem.Challenge.rw_wf0109_01.row) (q := qv) (loose := lz) (Xt := XtF) (XP := XL qv []) (Yf := Hook.obs HKk) (Ya := Hook.val HKk) (YP := Hook.says HKk) (N := 30050) left_top (Hook.of HKk) (Hook.keeps HKk) (fun s e => xl_of s (Bool.and_eq_true_iff.mp e).1) XL.keeps (by rfl) (by rfl) (by rfl) (fun s e => recFacts_of (Bool.and_eq_true_iff.mp e).2) (by rfl) (by first | assumption | decide +kernel) (by decide +kernel) ⟨rfl, rfl, rfl, rfl, rfl, by decide +kernel⟩ ?hw ?hc
  case hw => w_witness2
  case hc => exact walk_all _ _ rfl
end Mine
theorem PySem.Challenge.cw_wf0109_01_holds : PySem.Challenge.rw_wf0109_01.Holds :=
  Mine.main_holds
