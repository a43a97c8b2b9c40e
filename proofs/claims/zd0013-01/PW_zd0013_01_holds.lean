import PyProof.Rows.All
import Wide.All
import OpenK.AllK
import Wide.FinOn
import PySem.Challenge.RW_zd0013_01
section
open PySem PySem.W PyProof.Rows
set_option Elab.async false
set_option maxRecDepth 1000000
set_option linter.unusedVariables false
namespace Mine
noncomputable def noPos : Pos := ⟨0, 0, 0, 0⟩
noncomputable def stm (i : Nat) : Stmt := PySem.Challenge.pw_zd0013_01.main.body.getD i (.Pass noPos)
noncomputable def clsBody : Stmt → List Stmt
  | .ClassDef _ _ _ b _ _ _ _ _ _ _ => b
  | _ => []
noncomputable def stm2 (i j : Nat) : Stmt := (clsBody (stm i)).getD j (.Pass noPos)
noncomputable def noArgs : Arguments := { posonlyargs := [], args := [], vararg := none, kwonlyargs := [], kw_defaults := [], kwarg := none, defaults := [] }
noncomputable def noScope : Scope := { kind := .function, names := [], isGenerator := false, isCoroutine := false }
noncomputable def fArgs : Stmt → Arguments
  | .FunctionDef _ a _ _ _ _ _ _ _ _ => a
  | _ => noArgs
noncomputable def fBody : Stmt → List Stmt
  | .FunctionDef _ _ b _ _ _ _ _ _ _ => b
  | _ => []
noncomputable def fScope : Stmt → Scope
  | .FunctionDef _ _ _ _ _ _ sc _ _ _ => sc
  | _ => noScope
noncomputable def o0 (P : Params) : Obj := ⟨(.type "dict"), none, .dict #[⟨PyData.keyHash P (PySem.Str.ofString "__name__"), (.str (PySem.Str.ofString "__name__") 1), (.str (PySem.Str.ofString "builtins") 160)⟩, ⟨PyData.keyHash P (PySem.Str.ofString "__doc__"), (.str (PySem.Str.ofString "__doc__") 2), (.builtin "builtins.__doc__:str#opaque")⟩, ⟨PyData.keyHash P (PySem.Str.ofString "__package__"), (.str (PySem.Str.ofString "__package__") 3), (.builtin "builtins.__package__:str#opaque")⟩, ⟨PyData.keyHash P (PySem.Str.ofString "__loader__"), (.str (PySem.Str.ofString "__loader__") 4), (.builtin "builtins.__loader__:shared#opaque")⟩, ⟨PyData.keyHash P (PySem.Str.ofString "__spec__"), (.str (PySem.Str.ofString "__spec__") 5), (.builtin "builtins.__spec__#opaque")⟩, ⟨PyData.keyHash P (PySem.Str.ofString "__build_class__"), (.str (PySem.Str.ofString "__build_class__") 6), (.builtin "__build_class__")⟩, ⟨PyData.keyHash P (PySem.Str.ofString "__import__"), (.str (PySem.Str.ofString "__import__") 7), (.builtin "__import__")⟩, ⟨PyData.keyHash P (PySem.Str.ofString "abs"), (.str (PySem.Str.ofString "abs") 8), (.builtin "abs")⟩, ⟨PyData.keyHash P (PySem.Str.ofString "all"), (.str (PySem.Str.ofString "all") 9), (.builtin "all")⟩, ⟨PyData.keyHash P (PySem.Str.ofString "any"), (.str (PySem.Str.ofString "any") 10), (.builtin "any")⟩, ⟨PyData.keyHash P (PySem.Str.ofString "ascii"), (.str (PySem.Str.ofString "ascii") 11), (.builtin "ascii")⟩, ⟨PyData.keyHash P (PySem.Str.ofString "bin"), (.str (PySem.Str.ofString "bin") 12), (.builtin "bin")⟩, ⟨PyData.keyHash P (PySem.Str.ofString "breakpoint"), (.str (PySem.Str.ofString "breakpoint") 13), (.builtin "breakpoint")⟩, ⟨PyData.keyHash P (PySem.Str.ofString "callable"), (.str (PySem.Str.ofString "callable") 14), (.builtin "callable")⟩, ⟨PyData.keyHash P (PySem.Str.ofString "chr"), (.str (PySem.Str.ofString "chr") 15), (.builtin "chr")⟩, ⟨PyData.keyHash P (PySem.Str.ofString "compile"), (.str (PySem.Str.ofString "compile") 16), (.builtin "compile")⟩, ⟨PyData.keyHash P (PySem.Str.ofString "delattr"), (.str (PySem.Str.ofString "delattr") 17), (.builtin "delattr")⟩, ⟨PyData.keyHash P (PySem.Str.ofString "dir"), (.str (PySem.Str.ofString "dir") 18), (.builtin "dir")⟩, ⟨PyData.keyHash P (PySem.Str.ofString "divmod"), (.str (PySem.Str.ofString "divmod") 19), (.builtin "divmod")⟩, ⟨PyData.keyHash P (PySem.Str.ofString "eval"), (.str (PySem.Str.ofString "eval") 20), (.builtin "eval")⟩, ⟨PyData.keyHash P (PySem.Str.ofString "exec"), (.str (PySem.Str.ofString "exec") 21), (.builtin "exec")⟩, ⟨PyData.keyHash P (PySem.Str.ofString "format"), (.str (PySem.Str.ofString "format") 22), (.builtin "format")⟩, ⟨PyData.keyHash P (PySem.Str.ofString "getattr"), (.str (PySem.Str.ofString "getattr") 23), (.builtin "getattr")⟩, ⟨PyData.keyHash P (PySem.Str.ofString "globals"), (.str (PySem.Str.ofString "globals") 24), (.builtin "globals")⟩, ⟨PyData.keyHash P (PySem.Str.ofString "hasattr"), (.str (PySem.Str.ofString "hasattr") 25), (.builtin "hasattr")⟩, ⟨PyData.keyHash P (PySem.Str.ofString "hash"), (.str (PySem.Str.ofString "hash") 26), (.builtin "hash")⟩, ⟨PyData.keyHash P (PySem.Str.ofString "hex"), (.str (PySem.Str.ofString "hex") 27), (.builtin "hex")⟩, ⟨PyData.keyHash P (PySem.Str.ofString "id"), (.str (PySem.Str.ofString "id") 28), (.builtin "id")⟩, ⟨PyData.keyHash P (PySem.Str.ofString "input"), (.str (PySem.Str.ofString "input") 29), (.builtin "input")⟩, ⟨PyData.keyHash P (PySem.Str.ofString "isinstance"), (.str (PySem.Str.ofString "isinstance") 30), (.builtin "isinstance")⟩, ⟨PyData.keyHash P (PySem.Str.ofString "issubclass"), (.str (PySem.Str.ofString "issubclass") 31), (.builtin "issubclass")⟩, ⟨PyData.keyHash P (PySem.Str.ofString "iter"), (.str (PySem.Str.ofString "iter") 32), (.builtin "iter")⟩, ⟨PyData.keyHash P (PySem.Str.ofString "aiter"), (.str (PySem.Str.ofString "aiter") 33), (.builtin "aiter")⟩, ⟨PyData.keyHash P (PySem.Str.ofString "len"), (.str (PySem.Str.ofString "len") 34), (.builtin "len")⟩, ⟨PyData.keyHash P (PySem.Str.ofString "locals"), (.str (PySem.Str.ofString "locals") 35), (.builtin "locals")⟩, ⟨PyData.keyHash P (PySem.Str.ofString "max"), (.str (PySem.Str.ofString "max") 36), (.builtin "max")⟩, ⟨PyData.keyHash P (PySem.Str.ofString "min"), (.str (PySem.Str.ofString "min") 37), (.builtin "min")⟩, ⟨PyData.keyHash P (PySem.Str.ofString "next"), (.str (PySem.Str.ofString "next") 38), (.builtin "next")⟩, ⟨PyData.keyHash P (PySem.Str.ofString "anext"), (.str (PySem.Str.ofString "anext") 39), (.builtin "anext")⟩, ⟨PyData.keyHash P (PySem.Str.ofString "oct"), (.str (PySem.Str.ofString "oct") 40), (.builtin "oct")⟩, ⟨PyData.keyHash P (PySem.Str.ofString "ord"), (.str (PySem.Str.ofString "ord") 41), (.builtin "ord")⟩, ⟨PyData.keyHash P (PySem.Str.ofString "pow"), (.str (PySem.Str.ofString "pow") 42), (.builtin "pow")⟩, ⟨PyData.keyHash P (PySem.Str.ofString "print"), (.str (PySem.Str.ofString "print") 43), (.builtin "print")⟩, ⟨PyData.keyHash P (PySem.Str.ofString "repr"), (.str (PySem.Str.ofString "repr") 44), (.builtin "repr")⟩, ⟨PyData.keyHash P (PySem.Str.ofString "round"), (.str (PySem.Str.ofString "round") 45), (.builtin "round")⟩, ⟨PyData.keyHash P (PySem.Str.ofString "setattr"), (.str (PySem.Str.ofString "setattr") 46), (.builtin "setattr")⟩, ⟨PyData.keyHash P (PySem.Str.ofString "sorted"), (.str (PySem.Str.ofString "sorted") 47), (.builtin "sorted")⟩, ⟨PyData.keyHash P (PySem.Str.ofString "sum"), (.str (PySem.Str.ofString "sum") 48), (.builtin "sum")⟩, ⟨PyData.keyHash P (PySem.Str.ofString "vars"), (.str (PySem.Str.ofString "vars") 49), (.builtin "vars")⟩, ⟨PyData.keyHash P (PySem.Str.ofString "None"), (.str (PySem.Str.ofString "None") 50), .none⟩, ⟨PyData.keyHash P (PySem.Str.ofString "Ellipsis"), (.str (PySem.Str.ofString "Ellipsis") 51), .ellipsis⟩, ⟨PyData.keyHash P (PySem.Str.ofString "NotImplemented"), (.str (PySem.Str.ofString "NotImplemented") 52), .notImplemented⟩, ⟨PyData.keyHash P (PySem.Str.ofString "False"), (.str (PySem.Str.ofString "False") 53), (.bool false)⟩, ⟨PyData.keyHash P (PySem.Str.ofString "True"), (.str (PySem.Str.ofString "True") 54), (.bool true)⟩, ⟨PyData.keyHash P (PySem.Str.ofString "bool"), (.str (PySem.Str.ofString "bool") 55), (.type "bool")⟩, ⟨PyData.keyHash P (PySem.Str.ofString "memoryview"), (.str (PySem.Str.ofString "memoryview") 56), (.type "memoryview")⟩, ⟨PyData.keyHash P (PySem.Str.ofString "bytearray"), (.str (PySem.Str.ofString "bytearray") 57), (.type "bytearray")⟩, ⟨PyData.keyHash P (PySem.Str.ofString "bytes"), (.str (PySem.Str.ofString "bytes") 58), (.type "bytes")⟩, ⟨PyData.keyHash P (PySem.Str.ofString "classmethod"), (.str (PySem.Str.ofString "classmethod") 59), (.type "classmethod")⟩, ⟨PyData.keyHash P (PySem.Str.ofString "complex"), (.str (PySem.Str.ofString "complex") 60), (.type "complex")⟩, ⟨PyData.keyHash P (PySem.Str.ofString "dict"), (.str (PySem.Str.ofString "dict") 61), (.type "dict")⟩, ⟨PyData.keyHash P (PySem.Str.ofString "enumerate"), (.str (PySem.Str.ofString "enumerate") 62), (.type "enumerate")⟩, ⟨PyData.keyHash P (PySem.Str.ofString "filter"), (.str (PySem.Str.ofString "filter") 63), (.type "filter")⟩, ⟨PyData.keyHash P (PySem.Str.ofString "float"), (.str (PySem.Str.ofString "float") 64), (.type "float")⟩, ⟨PyData.keyHash P (PySem.Str.ofString "frozenset"), (.str (PySem.Str.ofString "frozenset") 65), (.type "frozenset")⟩, ⟨PyData.keyHash P (PySem.Str.ofString "property"), (.str (PySem.Str.ofString "property") 66), (.type "property")⟩, ⟨PyData.keyHash P (PySem.Str.ofString "int"), (.str (PySem.Str.ofString "int") 67), (.type "int")⟩, ⟨PyData.keyHash P (PySem.Str.ofString "list"), (.str (PySem.Str.ofString "list") 68), (.type "list")⟩, ⟨PyData.keyHash P (PySem.Str.ofString "map"), (.str (PySem.Str.ofString "map") 69), (.type "map")⟩, ⟨PyData.keyHash P (PySem.Str.ofString "object"), (.str (PySem.Str.ofString "object") 70), (.type "object")⟩, ⟨PyData.keyHash P (PySem.Str.ofString "range"), (.str (PySem.Str.ofString "range") 71), (.type "range")⟩, ⟨PyData.keyHash P (PySem.Str.ofString "reversed"), (.str (PySem.Str.ofString "reversed") 72), (.type "reversed")⟩, ⟨PyData.keyHash P (PySem.Str.ofString "set"), (.str (PySem.Str.ofString "set") 73), (.type "set")⟩, ⟨PyData.keyHash P (PySem.Str.ofString "slice"), (.str (PySem.Str.ofString "slice") 74), (.type "slice")⟩, ⟨PyData.keyHash P (PySem.Str.ofString "staticmethod"), (.str (PySem.Str.ofString "staticmethod") 75), (.type "staticmethod")⟩, ⟨PyData.keyHash P (PySem.Str.ofString "str"), (.str (PySem.Str.ofString "str") 76), (.type "str")⟩, ⟨PyData.keyHash P (PySem.Str.ofString "super"), (.str (PySem.Str.ofString "super") 77), (.type "super")⟩, ⟨PyData.keyHash P (PySem.Str.ofString "tuple"), (.str (PySem.Str.ofString "tuple") 78), (.type "tuple")⟩, ⟨PyData.keyHash P (PySem.Str.ofString "type"), (.str (PySem.Str.ofString "type") 79), (.type "type")⟩, ⟨PyData.keyHash P (PySem.Str.ofString "zip"), (.str (PySem.Str.ofString "zip") 80), (.type "zip")⟩, ⟨PyData.keyHash P (PySem.Str.ofString "__debug__"), (.str (PySem.Str.ofString "__debug__") 81), (.bool true)⟩, ⟨PyData.keyHash P (PySem.Str.ofString "BaseException"), (.str (PySem.Str.ofString "BaseException") 82), (.type "BaseException")⟩, ⟨PyData.keyHash P (PySem.Str.ofString "BaseExceptionGroup"), (.str (PySem.Str.ofString "BaseExceptionGroup") 83), (.type "BaseExceptionGroup")⟩, ⟨PyData.keyHash P (PySem.Str.ofString "Exception"), (.str (PySem.Str.ofString "Exception") 84), (.type "Exception")⟩, ⟨PyData.keyHash P (PySem.Str.ofString "GeneratorExit"), (.str (PySem.Str.ofString "GeneratorExit") 85), (.type "GeneratorExit")⟩, ⟨PyData.keyHash P (PySem.Str.ofString "KeyboardInterrupt"), (.str (PySem.Str.ofString "KeyboardInterrupt") 86), (.type "KeyboardInterrupt")⟩, ⟨PyData.keyHash P (PySem.Str.ofString "SystemExit"), (.str (PySem.Str.ofString "SystemExit") 87), (.type "SystemExit")⟩, ⟨PyData.keyHash P (PySem.Str.ofString "ArithmeticError"), (.str (PySem.Str.ofString "ArithmeticError") 88), (.type "ArithmeticError")⟩, ⟨PyData.keyHash P (PySem.Str.ofString "AssertionError"), (.str (PySem.Str.ofString "AssertionError") 89), (.type "AssertionError")⟩, ⟨PyData.keyHash P (PySem.Str.ofString "AttributeError"), (.str (PySem.Str.ofString "AttributeError") 90), (.type "AttributeError")⟩, ⟨PyData.keyHash P (PySem.Str.ofString "BufferError"), (.str (PySem.Str.ofString "BufferError") 91), (.type "BufferError")⟩, ⟨PyData.keyHash P (PySem.Str.ofString "EOFError"), (.str (PySem.Str.ofString "EOFError") 92), (.type "EOFError")⟩, ⟨PyData.keyHash P (PySem.Str.ofString "ImportError"), (.str (PySem.Str.ofString "ImportError") 93), (.type "ImportError")⟩, ⟨PyData.keyHash P (PySem.Str.ofString "LookupError"), (.str (PySem.Str.ofString "LookupError") 94), (.type "LookupError")⟩, ⟨PyData.keyHash P (PySem.Str.ofString "MemoryError"), (.str (PySem.Str.ofString "MemoryError") 95), (.type "MemoryError")⟩, ⟨PyData.keyHash P (PySem.Str.ofString "NameError"), (.str (PySem.Str.ofString "NameError") 96), (.type "NameError")⟩, ⟨PyData.keyHash P (PySem.Str.ofString "OSError"), (.str (PySem.Str.ofString "OSError") 97), (.type "OSError")⟩, ⟨PyData.keyHash P (PySem.Str.ofString "ReferenceError"), (.str (PySem.Str.ofString "ReferenceError") 98), (.type "ReferenceError")⟩, ⟨PyData.keyHash P (PySem.Str.ofString "RuntimeError"), (.str (PySem.Str.ofString "RuntimeError") 99), (.type "RuntimeError")⟩, ⟨PyData.keyHash P (PySem.Str.ofString "StopAsyncIteration"), (.str (PySem.Str.ofString "StopAsyncIteration") 100), (.type "StopAsyncIteration")⟩, ⟨PyData.keyHash P (PySem.Str.ofString "StopIteration"), (.str (PySem.Str.ofString "StopIteration") 101), (.type "StopIteration")⟩, ⟨PyData.keyHash P (PySem.Str.ofString "SyntaxError"), (.str (PySem.Str.ofString "SyntaxError") 102), (.type "SyntaxError")⟩, ⟨PyData.keyHash P (PySem.Str.ofString "SystemError"), (.str (PySem.Str.ofString "SystemError") 103), (.type "SystemError")⟩, ⟨PyData.keyHash P (PySem.Str.ofString "TypeError"), (.str (PySem.Str.ofString "TypeError") 104), (.type "TypeError")⟩, ⟨PyData.keyHash P (PySem.Str.ofString "ValueError"), (.str (PySem.Str.ofString "ValueError") 105), (.type "ValueError")⟩, ⟨PyData.keyHash P (PySem.Str.ofString "Warning"), (.str (PySem.Str.ofString "Warning") 106), (.type "Warning")⟩, ⟨PyData.keyHash P (PySem.Str.ofString "FloatingPointError"), (.str (PySem.Str.ofString "FloatingPointError") 107), (.type "FloatingPointError")⟩, ⟨PyData.keyHash P (PySem.Str.ofString "OverflowError"), (.str (PySem.Str.ofString "OverflowError") 108), (.type "OverflowError")⟩, ⟨PyData.keyHash P (PySem.Str.ofString "ZeroDivisionError"), (.str (PySem.Str.ofString "ZeroDivisionError") 109), (.type "ZeroDivisionError")⟩, ⟨PyData.keyHash P (PySem.Str.ofString "BytesWarning"), (.str (PySem.Str.ofString "BytesWarning") 110), (.type "BytesWarning")⟩, ⟨PyData.keyHash P (PySem.Str.ofString "DeprecationWarning"), (.str (PySem.Str.ofString "DeprecationWarning") 111), (.type "DeprecationWarning")⟩, ⟨PyData.keyHash P (PySem.Str.ofString "EncodingWarning"), (.str (PySem.Str.ofString "EncodingWarning") 112), (.type "EncodingWarning")⟩, ⟨PyData.keyHash P (PySem.Str.ofString "FutureWarning"), (.str (PySem.Str.ofString "FutureWarning") 113), (.type "FutureWarning")⟩, ⟨PyData.keyHash P (PySem.Str.ofString "ImportWarning"), (.str (PySem.Str.ofString "ImportWarning") 114), (.type "ImportWarning")⟩, ⟨PyData.keyHash P (PySem.Str.ofString "PendingDeprecationWarning"), (.str (PySem.Str.ofString "PendingDeprecationWarning") 115), (.type "PendingDeprecationWarning")⟩, ⟨PyData.keyHash P (PySem.Str.ofString "ResourceWarning"), (.str (PySem.Str.ofString "ResourceWarning") 116), (.type "ResourceWarning")⟩, ⟨PyData.keyHash P (PySem.Str.ofString "RuntimeWarning"), (.str (PySem.Str.ofString "RuntimeWarning") 117), (.type "RuntimeWarning")⟩, ⟨PyData.keyHash P (PySem.Str.ofString "SyntaxWarning"), (.str (PySem.Str.ofString "SyntaxWarning") 118), (.type "SyntaxWarning")⟩, ⟨PyData.keyHash P (PySem.Str.ofString "UnicodeWarning"), (.str (PySem.Str.ofString "UnicodeWarning") 119), (.type "UnicodeWarning")⟩, ⟨PyData.keyHash P (PySem.Str.ofString "UserWarning"), (.str (PySem.Str.ofString "UserWarning") 120), (.type "UserWarning")⟩, ⟨PyData.keyHash P (PySem.Str.ofString "BlockingIOError"), (.str (PySem.Str.ofString "BlockingIOError") 121), (.type "BlockingIOError")⟩, ⟨PyData.keyHash P (PySem.Str.ofString "ChildProcessError"), (.str (PySem.Str.ofString "ChildProcessError") 122), (.type "ChildProcessError")⟩, ⟨PyData.keyHash P (PySem.Str.ofString "ConnectionError"), (.str (PySem.Str.ofString "ConnectionError") 123), (.type "ConnectionError")⟩, ⟨PyData.keyHash P (PySem.Str.ofString "FileExistsError"), (.str (PySem.Str.ofString "FileExistsError") 124), (.type "FileExistsError")⟩, ⟨PyData.keyHash P (PySem.Str.ofString "FileNotFoundError"), (.str (PySem.Str.ofString "FileNotFoundError") 125), (.type "FileNotFoundError")⟩, ⟨PyData.keyHash P (PySem.Str.ofString "InterruptedError"), (.str (PySem.Str.ofString "InterruptedError") 126), (.type "InterruptedError")⟩, ⟨PyData.keyHash P (PySem.Str.ofString "IsADirectoryError"), (.str (PySem.Str.ofString "IsADirectoryError") 127), (.type "IsADirectoryError")⟩, ⟨PyData.keyHash P (PySem.Str.ofString "NotADirectoryError"), (.str (PySem.Str.ofString "NotADirectoryError") 128), (.type "NotADirectoryError")⟩, ⟨PyData.keyHash P (PySem.Str.ofString "PermissionError"), (.str (PySem.Str.ofString "PermissionError") 129), (.type "PermissionError")⟩, ⟨PyData.keyHash P (PySem.Str.ofString "ProcessLookupError"), (.str (PySem.Str.ofString "ProcessLookupError") 130), (.type "ProcessLookupError")⟩, ⟨PyData.keyHash P (PySem.Str.ofString "TimeoutError"), (.str (PySem.Str.ofString "TimeoutError") 131), (.type "TimeoutError")⟩, ⟨PyData.keyHash P (PySem.Str.ofString "IndentationError"), (.str (PySem.Str.ofString "IndentationError") 132), (.type "IndentationError")⟩, ⟨PyData.keyHash P (PySem.Str.ofString "_IncompleteInputError"), (.str (PySem.Str.ofString "_IncompleteInputError") 133), (.type "_IncompleteInputError")⟩, ⟨PyData.keyHash P (PySem.Str.ofString "IndexError"), (.str (PySem.Str.ofString "IndexError") 134), (.type "IndexError")⟩, ⟨PyData.keyHash P (PySem.Str.ofString "KeyError"), (.str (PySem.Str.ofString "KeyError") 135), (.type "KeyError")⟩, ⟨PyData.keyHash P (PySem.Str.ofString "ModuleNotFoundError"), (.str (PySem.Str.ofString "ModuleNotFoundError") 136), (.type "ModuleNotFoundError")⟩, ⟨PyData.keyHash P (PySem.Str.ofString "NotImplementedError"), (.str (PySem.Str.ofString "NotImplementedError") 137), (.type "NotImplementedError")⟩, ⟨PyData.keyHash P (PySem.Str.ofString "PythonFinalizationError"), (.str (PySem.Str.ofString "PythonFinalizationError") 138), (.type "PythonFinalizationError")⟩, ⟨PyData.keyHash P (PySem.Str.ofString "RecursionError"), (.str (PySem.Str.ofString "RecursionError") 139), (.type "RecursionError")⟩, ⟨PyData.keyHash P (PySem.Str.ofString "UnboundLocalError"), (.str (PySem.Str.ofString "UnboundLocalError") 140), (.type "UnboundLocalError")⟩, ⟨PyData.keyHash P (PySem.Str.ofString "UnicodeError"), (.str (PySem.Str.ofString "UnicodeError") 141), (.type "UnicodeError")⟩, ⟨PyData.keyHash P (PySem.Str.ofString "BrokenPipeError"), (.str (PySem.Str.ofString "BrokenPipeError") 142), (.type "BrokenPipeError")⟩, ⟨PyData.keyHash P (PySem.Str.ofString "ConnectionAbortedError"), (.str (PySem.Str.ofString "ConnectionAbortedError") 143), (.type "ConnectionAbortedError")⟩, ⟨PyData.keyHash P (PySem.Str.ofString "ConnectionRefusedError"), (.str (PySem.Str.ofString "ConnectionRefusedError") 144), (.type "ConnectionRefusedError")⟩, ⟨PyData.keyHash P (PySem.Str.ofString "ConnectionResetError"), (.str (PySem.Str.ofString "ConnectionResetError") 145), (.type "ConnectionResetError")⟩, ⟨PyData.keyHash P (PySem.Str.ofString "TabError"), (.str (PySem.Str.ofString "TabError") 146), (.type "TabError")⟩, ⟨PyData.keyHash P (PySem.Str.ofString "UnicodeDecodeError"), (.str (PySem.Str.ofString "UnicodeDecodeError") 147), (.type "UnicodeDecodeError")⟩, ⟨PyData.keyHash P (PySem.Str.ofString "UnicodeEncodeError"), (.str (PySem.Str.ofString "UnicodeEncodeError") 148), (.type "UnicodeEncodeError")⟩, ⟨PyData.keyHash P (PySem.Str.ofString "UnicodeTranslateError"), (.str (PySem.Str.ofString "UnicodeTranslateError") 149), (.type "UnicodeTranslateError")⟩, ⟨PyData.keyHash P (PySem.Str.ofString "ExceptionGroup"), (.str (PySem.Str.ofString "ExceptionGroup") 150), (.type "ExceptionGroup")⟩, ⟨PyData.keyHash P (PySem.Str.ofString "EnvironmentError"), (.str (PySem.Str.ofString "EnvironmentError") 151), (.type "OSError")⟩, ⟨PyData.keyHash P (PySem.Str.ofString "IOError"), (.str (PySem.Str.ofString "IOError") 152), (.type "OSError")⟩, ⟨PyData.keyHash P (PySem.Str.ofString "open"), (.str (PySem.Str.ofString "open") 153), (.builtin "open")⟩, ⟨PyData.keyHash P (PySem.Str.ofString "quit"), (.str (PySem.Str.ofString "quit") 154), (.builtin "builtins.quit#opaque")⟩, ⟨PyData.keyHash P (PySem.Str.ofString "exit"), (.str (PySem.Str.ofString "exit") 155), (.builtin "builtins.exit#opaque")⟩, ⟨PyData.keyHash P (PySem.Str.ofString "copyright"), (.str (PySem.Str.ofString "copyright") 156), (.builtin "builtins.copyright#opaque")⟩, ⟨PyData.keyHash P (PySem.Str.ofString "credits"), (.str (PySem.Str.ofString "credits") 157), (.builtin "builtins.credits#opaque")⟩, ⟨PyData.keyHash P (PySem.Str.ofString "license"), (.str (PySem.Str.ofString "license") 158), (.builtin "builtins.license#opaque")⟩, ⟨PyData.keyHash P (PySem.Str.ofString "help"), (.str (PySem.Str.ofString "help") 159), (.builtin "builtins.help#opaque")⟩] 159, #[]⟩
noncomputable def o1 (P : Params) : Obj := ⟨(.type "dict"), none, .dict #[⟨PyData.keyHash P (PySem.Str.ofString "builtins"), (.str (PySem.Str.ofString "builtins") 162), (.ref 4)⟩, ⟨PyData.keyHash P (PySem.Str.ofString "__main__"), (.str (PySem.Str.ofString "__main__") 163), (.ref 5)⟩, ⟨PyData.keyHash P (PySem.Str.ofString "_sre"), (.str (PySem.Str.ofString "_sre") 244), (.ref 12)⟩] 3, #[]⟩
noncomputable def o2 (P : Params) : Obj := ⟨.none, none, .dict #[⟨PyData.keyHash P (PySem.Str.ofString "\x69mport.loaded._sre"), (.str (PySem.Str.ofString "\x69mport.loaded._sre") 183), (.bool true)⟩, ⟨PyData.keyHash P (PySem.Str.ofString "class._frozen_importlib.BuiltinImporter"), (.str (PySem.Str.ofString "class._frozen_importlib.BuiltinImporter") 185), (.ref 14)⟩, ⟨PyData.keyHash P (PySem.Str.ofString "watched.\x69mport"), (.str (PySem.Str.ofString "watched.\x69mport") 206), (.ref 18)⟩, ⟨PyData.keyHash P (PySem.Str.ofString "class._frozen_importlib.ModuleSpec"), (.str (PySem.Str.ofString "class._frozen_importlib.ModuleSpec") 216), (.ref 22)⟩, ⟨PyData.keyHash P (PySem.Str.ofString "sys.modules.booked-epoch"), (.str (PySem.Str.ofString "sys.modules.booked-epoch") 245), (.int 3 0)⟩, ⟨PyData.keyHash P (PySem.Str.ofString "\x69mport.later-laid._sre"), (.str (PySem.Str.ofString "\x69mport.later-laid._sre") 270), (.bool true)⟩, ⟨PyData.keyHash P (PySem.Str.ofString "watched.library"), (.str (PySem.Str.ofString "watched.library") 272), (.ref 27)⟩, ⟨PyData.keyHash P (PySem.Str.ofString "watched.library-objects"), (.str (PySem.Str.ofString "watched.library-objects") 0), (.str (PySem.Str.mk #[12]) 0)⟩, ⟨PyData.keyHash P (PySem.Str.ofString "watched.library-deep._sre"), (.str (PySem.Str.ofString "watched.library-deep._sre") 273), (.str (PySem.Str.mk #[4, 0, 0, 11, 4, 0, 0, 11, 4, 0, 0, 3, 4, 0, 0, 11, 8, 4, 100, 105, 99, 116, 2]) 0)⟩] 9, #[]⟩
noncomputable def o3 (P : Params) : Obj := ⟨(.type "dict"), none, .dict #[⟨PyData.keyHash P (PySem.Str.ofString "__name__"), (.str (PySem.Str.ofString "__name__") 165), (.str (PySem.Str.ofString "law_zd0013_01") 666)⟩, ⟨PyData.keyHash P (PySem.Str.ofString "__doc__"), (.str (PySem.Str.ofString "__doc__") 166), .none⟩, ⟨PyData.keyHash P (PySem.Str.ofString "__package__"), (.str (PySem.Str.ofString "__package__") 167), .none⟩, ⟨PyData.keyHash P (PySem.Str.ofString "__loader__"), (.str (PySem.Str.ofString "__loader__") 168), (.builtin "__main__.__loader__#opaque")⟩, ⟨PyData.keyHash P (PySem.Str.ofString "__spec__"), (.str (PySem.Str.ofString "__spec__") 169), .none⟩, ⟨PyData.keyHash P (PySem.Str.ofString "__annotations__"), (.str (PySem.Str.ofString "__annotations__") 170), (.ref 6)⟩, ⟨PyData.keyHash P (PySem.Str.ofString "__builtins__"), (.str (PySem.Str.ofString "__builtins__") 171), (.ref 4)⟩, ⟨PyData.keyHash P (PySem.Str.ofString "__file__"), (.str (PySem.Str.ofString "__file__") 173), (.str (PySem.Str.ofString "/claim/cut.py") 172)⟩, ⟨PyData.keyHash P (PySem.Str.ofString "__cached__"), (.str (PySem.Str.ofString "__cached__") 174), .none⟩, ⟨PyData.keyHash P (PySem.Str.ofString "_sre"), (.str (PySem.Str.ofString "_sre") 275), (.ref 12)⟩, ⟨PyData.keyHash P (PySem.Str.ofString "_wall"), (.str (PySem.Str.ofString "_wall") 288), (.ref 38)⟩, ⟨PyData.keyHash P (PySem.Str.ofString "c8_set"), (.str (PySem.Str.ofString "c8_set") 331), (.ref 52)⟩, ⟨PyData.keyHash P (PySem.Str.ofString "in_table_c8"), (.str (PySem.Str.ofString "in_table_c8") 338), (.ref 62)⟩, ⟨PyData.keyHash P (PySem.Str.ofString "TupleComp"), (.str (PySem.Str.ofString "TupleComp") 382), (.ref 86)⟩, ⟨PyData.keyHash P (PySem.Str.ofString "add_callers"), (.str (PySem.Str.ofString "add_callers") 393), (.ref 97)⟩, ⟨PyData.keyHash P (PySem.Str.ofString "count_calls"), (.str (PySem.Str.ofString "count_calls") 402), (.ref 104)⟩, ⟨PyData.keyHash P (PySem.Str.ofString "tspecials"), (.str (PySem.Str.ofString "tspecials") 438), (.ref 109)⟩, ⟨PyData.keyHash P (PySem.Str.ofString "_name_disallowed_re"), (.str (PySem.Str.ofString "_name_disallowed_re") 464), (.ref 114)⟩, ⟨PyData.keyHash P (PySem.Str.ofString "_value_disallowed_re"), (.str (PySem.Str.ofString "_value_disallowed_re") 498), (.ref 119)⟩, ⟨PyData.keyHash P (PySem.Str.ofString "_formatparam"), (.str (PySem.Str.ofString "_formatparam") 508), (.ref 127)⟩, ⟨PyData.keyHash P (PySem.Str.ofString "Headers"), (.str (PySem.Str.ofString "Headers") 665), (.ref 248)⟩, ⟨PyData.keyHash P (PySem.Str.ofString "_law_written"), (.str (PySem.Str.ofString "_law_written") 673), (.ref 257)⟩, ⟨PyData.keyHash P (PySem.Str.ofString "_law_filed"), (.str (PySem.Str.ofString "_law_filed") 687), (.ref 264)⟩, ⟨PyData.keyHash P (PySem.Str.ofString "_law_table"), (.str (PySem.Str.ofString "_law_table") 693), (.ref 269)⟩, ⟨PyData.keyHash P (PySem.Str.ofString "_law_prunings"), (.str (PySem.Str.ofString "_law_prunings") 707), (.ref 276)⟩, ⟨PyData.keyHash P (PySem.Str.ofString "_law_form"), (.str (PySem.Str.ofString "_law_form") 716), (.ref 283)⟩, ⟨PyData.keyHash P (PySem.Str.ofString "law"), (.str (PySem.Str.ofString "law") 722), (.ref 288)⟩] 27, #[]⟩
noncomputable def o4 (P : Params) : Obj := ⟨(.type "module"), (some 0), .plain, #[]⟩
noncomputable def o5 (P : Params) : Obj := ⟨(.type "module"), (some 3), .plain, #[]⟩
noncomputable def o6 (P : Params) : Obj := ⟨(.type "dict"), none, .dict #[] 0, #[]⟩
noncomputable def o7 (P : Params) : Obj := ⟨(.type "tuple"), none, .seq #[] 0, #[]⟩
noncomputable def o8 (P : Params) : Obj := ⟨.none, none, .fields #[], #[]⟩
noncomputable def o9 (P : Params) : Obj := ⟨(.type "code"), none, .fields #[(.str (PySem.Str.ofString "<module>") 176), (.str (PySem.Str.ofString "<module>") 177), (.str (PySem.Str.ofString "/claim/cut.py") 178), (.int 1 0), (.int 0 0), (.int 0 0), (.int 0 0), (.int 0 0), (.ref 7), (.bool false), (.int 175 0), (.ref 8), .none, .none, .none, .none, (.int 179 0), (.int 1 0), (.str (PySem.Str.ofString "/claim/cut.py") 180)], #[]⟩
noncomputable def o10 (P : Params) : Obj := ⟨(.type "frame"), none, .plain, #[(some (.ref 9)), (some (.ref 3)), (some (.ref 3)), none, (some (.str (PySem.Str.ofString "__main__") 164)), none, (some (.ref 0))]⟩
noncomputable def o11 (P : Params) : Obj := ⟨(.type "dict"), none, .dict #[⟨PyData.keyHash P (PySem.Str.ofString "__name__"), (.str (PySem.Str.ofString "__name__") 247), (.str (PySem.Str.ofString "_sre") 246)⟩, ⟨PyData.keyHash P (PySem.Str.ofString "__doc__"), (.str (PySem.Str.ofString "__doc__") 248), .none⟩, ⟨PyData.keyHash P (PySem.Str.ofString "__package__"), (.str (PySem.Str.ofString "__package__") 250), (.str (PySem.Str.ofString "") 249)⟩, ⟨PyData.keyHash P (PySem.Str.ofString "__loader__"), (.str (PySem.Str.ofString "__loader__") 251), (.builtin "off-the-table:_sre.__loader__:shared#opaque")⟩, ⟨PyData.keyHash P (PySem.Str.ofString "__spec__"), (.str (PySem.Str.ofString "__spec__") 252), (.builtin "off-the-table:_sre.__spec__:shared#opaque")⟩, ⟨PyData.keyHash P (PySem.Str.ofString "compile"), (.str (PySem.Str.ofString "compile") 253), (.builtin "_sre.compile")⟩, ⟨PyData.keyHash P (PySem.Str.ofString "template"), (.str (PySem.Str.ofString "template") 254), (.builtin "off-the-table:_sre.template:shared#opaque")⟩, ⟨PyData.keyHash P (PySem.Str.ofString "getcodesize"), (.str (PySem.Str.ofString "getcodesize") 255), (.builtin "off-the-table:_sre.getcodesize:shared#opaque")⟩, ⟨PyData.keyHash P (PySem.Str.ofString "ascii_iscased"), (.str (PySem.Str.ofString "ascii_iscased") 256), (.builtin "off-the-table:_sre.ascii_iscased:shared#opaque")⟩, ⟨PyData.keyHash P (PySem.Str.ofString "unicode_iscased"), (.str (PySem.Str.ofString "unicode_iscased") 257), (.builtin "off-the-table:_sre.unicode_iscased:shared#opaque")⟩, ⟨PyData.keyHash P (PySem.Str.ofString "ascii_tolower"), (.str (PySem.Str.ofString "ascii_tolower") 258), (.builtin "off-the-table:_sre.ascii_tolower:shared#opaque")⟩, ⟨PyData.keyHash P (PySem.Str.ofString "unicode_tolower"), (.str (PySem.Str.ofString "unicode_tolower") 259), (.builtin "off-the-table:_sre.unicode_tolower:shared#opaque")⟩, ⟨PyData.keyHash P (PySem.Str.ofString "MAGIC"), (.str (PySem.Str.ofString "MAGIC") 261), (.int 20230612 260)⟩, ⟨PyData.keyHash P (PySem.Str.ofString "CODESIZE"), (.str (PySem.Str.ofString "CODESIZE") 263), (.int 4 262)⟩, ⟨PyData.keyHash P (PySem.Str.ofString "MAXREPEAT"), (.str (PySem.Str.ofString "MAXREPEAT") 265), (.int 4294967295 264)⟩, ⟨PyData.keyHash P (PySem.Str.ofString "MAXGROUPS"), (.str (PySem.Str.ofString "MAXGROUPS") 267), (.int 1073741823 266)⟩, ⟨PyData.keyHash P (PySem.Str.ofString "copyright"), (.str (PySem.Str.ofString "copyright") 269), (.str (PySem.Str.ofString " SRE 2.2.2 Copyright (c) 1997-2002 by Secret Labs AB ") 268)⟩] 17, #[]⟩
noncomputable def o12 (P : Params) : Obj := ⟨(.type "module"), (some 11), .plain, #[]⟩
noncomputable def o13 (P : Params) : Obj := ⟨(.type "dict"), none, .dict #[⟨PyData.keyHash P (PySem.Str.ofString "__module__"), (.str (PySem.Str.ofString "__module__") 189), (.str (PySem.Str.ofString "_frozen_importlib") 186)⟩, ⟨PyData.keyHash P (PySem.Str.ofString "__firstlineno__"), (.str (PySem.Str.ofString "__firstlineno__") 190), (.int 971 187)⟩, ⟨PyData.keyHash P (PySem.Str.ofString "__doc__"), (.str (PySem.Str.ofString "__doc__") 191), (.builtin "_frozen_importlib.BuiltinImporter.__doc__:str#opaque")⟩, ⟨PyData.keyHash P (PySem.Str.ofString "_ORIGIN"), (.str (PySem.Str.ofString "_ORIGIN") 192), (.str (PySem.Str.ofString "built-in") 188)⟩, ⟨PyData.keyHash P (PySem.Str.ofString "find_spec"), (.str (PySem.Str.ofString "find_spec") 193), (.builtin "_frozen_importlib.BuiltinImporter.find_spec#opaque")⟩, ⟨PyData.keyHash P (PySem.Str.ofString "create_module"), (.str (PySem.Str.ofString "create_module") 194), (.builtin "_frozen_importlib.BuiltinImporter.create_module#opaque")⟩, ⟨PyData.keyHash P (PySem.Str.ofString "exec_module"), (.str (PySem.Str.ofString "exec_module") 195), (.builtin "_frozen_importlib.BuiltinImporter.exec_module#opaque")⟩, ⟨PyData.keyHash P (PySem.Str.ofString "get_code"), (.str (PySem.Str.ofString "get_code") 196), (.builtin "_frozen_importlib.BuiltinImporter.get_code#opaque")⟩, ⟨PyData.keyHash P (PySem.Str.ofString "get_source"), (.str (PySem.Str.ofString "get_source") 197), (.builtin "_frozen_importlib.BuiltinImporter.get_source#opaque")⟩, ⟨PyData.keyHash P (PySem.Str.ofString "is_package"), (.str (PySem.Str.ofString "is_package") 198), (.builtin "_frozen_importlib.BuiltinImporter.is_package#opaque")⟩, ⟨PyData.keyHash P (PySem.Str.ofString "load_module"), (.str (PySem.Str.ofString "load_module") 199), (.builtin "_frozen_importlib.BuiltinImporter.load_module#opaque")⟩, ⟨PyData.keyHash P (PySem.Str.ofString "__static_attributes__"), (.str (PySem.Str.ofString "__static_attributes__") 200), (.ref 15)⟩, ⟨PyData.keyHash P (PySem.Str.ofString "__dict__"), (.str (PySem.Str.ofString "__dict__") 202), (.ref 16)⟩, ⟨PyData.keyHash P (PySem.Str.ofString "__weakref__"), (.str (PySem.Str.ofString "__weakref__") 204), (.ref 17)⟩] 14, #[]⟩
noncomputable def o14 (P : Params) : Obj := ⟨(.type "type"), none, .cls ⟨(PySem.Str.ofString "BuiltinImporter"), [(.type "object")], [(.ref 14), (.type "object")], 13, (PySem.Str.ofString "BuiltinImporter"), true, [], [], false, none, false⟩, #[]⟩
noncomputable def o15 (P : Params) : Obj := ⟨(.type "tuple"), none, .seq #[] 0, #[]⟩
noncomputable def o16 (P : Params) : Obj := ⟨(.type "getset_descriptor"), none, .fields #[(.str (PySem.Str.ofString "__dict__") 201), (.ref 14), (.builtin "function.__dict__"), (.builtin "function.__dict__#set")], #[]⟩
noncomputable def o17 (P : Params) : Obj := ⟨(.type "getset_descriptor"), none, .fields #[(.str (PySem.Str.ofString "__weakref__") 203), (.ref 14), (.builtin "ExceptionGroup.__weakref__"), .none], #[]⟩
noncomputable def o18 (P : Params) : Obj := ⟨.none, none, .seq #[(.int 13 0), (.str (PySem.Str.mk #[6, 189, 10, 95, 95, 109, 111, 100, 117, 108, 101, 95, 95, 6, 186, 17, 95, 102, 114, 111, 122, 101, 110, 95, 105, 109, 112, 111, 114, 116, 108, 105, 98, 6, 190, 15, 95, 95, 102, 105, 114, 115, 116, 108, 105, 110, 101, 110, 111, 95, 95, 4, 187, 0, 971, 6, 191, 7, 95, 95, 100, 111, 99, 95, 95, 9, 52, 95, 102, 114, 111, 122, 101, 110, 95, 105, 109, 112, 111, 114, 116, 108, 105, 98, 46, 66, 117, 105, 108, 116, 105, 110, 73, 109, 112, 111, 114, 116, 101, 114, 46, 95, 95, 100, 111, 99, 95, 95, 58, 115, 116, 114, 35, 111, 112, 97, 113, 117, 101, 6, 192, 7, 95, 79, 82, 73, 71, 73, 78, 6, 188, 8, 98, 117, 105, 108, 116, 45, 105, 110, 6, 193, 9, 102, 105, 110, 100, 95, 115, 112, 101, 99, 9, 50, 95, 102, 114, 111, 122, 101, 110, 95, 105, 109, 112, 111, 114, 116, 108, 105, 98, 46, 66, 117, 105, 108, 116, 105, 110, 73, 109, 112, 111, 114, 116, 101, 114, 46, 102, 105, 110, 100, 95, 115, 112, 101, 99, 35, 111, 112, 97, 113, 117, 101, 6, 194, 13, 99, 114, 101, 97, 116, 101, 95, 109, 111, 100, 117, 108, 101, 9, 54, 95, 102, 114, 111, 122, 101, 110, 95, 105, 109, 112, 111, 114, 116, 108, 105, 98, 46, 66, 117, 105, 108, 116, 105, 110, 73, 109, 112, 111, 114, 116, 101, 114, 46, 99, 114, 101, 97, 116, 101, 95, 109, 111, 100, 117, 108, 101, 35, 111, 112, 97, 113, 117, 101, 6, 195, 11, 101, 120, 101, 99, 95, 109, 111, 100, 117, 108, 101, 9, 52, 95, 102, 114, 111, 122, 101, 110, 95, 105, 109, 112, 111, 114, 116, 108, 105, 98, 46, 66, 117, 105, 108, 116, 105, 110, 73, 109, 112, 111, 114, 116, 101, 114, 46, 101, 120, 101, 99, 95, 109, 111, 100, 117, 108, 101, 35, 111, 112, 97, 113, 117, 101, 6, 196, 8, 103, 101, 116, 95, 99, 111, 100, 101, 9, 49, 95, 102, 114, 111, 122, 101, 110, 95, 105, 109, 112, 111, 114, 116, 108, 105, 98, 46, 66, 117, 105, 108, 116, 105, 110, 73, 109, 112, 111, 114, 116, 101, 114, 46, 103, 101, 116, 95, 99, 111, 100, 101, 35, 111, 112, 97, 113, 117, 101, 6, 197, 10, 103, 101, 116, 95, 115, 111, 117, 114, 99, 101, 9, 51, 95, 102, 114, 111, 122, 101, 110, 95, 105, 109, 112, 111, 114, 116, 108, 105, 98, 46, 66, 117, 105, 108, 116, 105, 110, 73, 109, 112, 111, 114, 116, 101, 114, 46, 103, 101, 116, 95, 115, 111, 117, 114, 99, 101, 35, 111, 112, 97, 113, 117, 101, 6, 198, 10, 105, 115, 95, 112, 97, 99, 107, 97, 103, 101, 9, 51, 95, 102, 114, 111, 122, 101, 110, 95, 105, 109, 112, 111, 114, 116, 108, 105, 98, 46, 66, 117, 105, 108, 116, 105, 110, 73, 109, 112, 111, 114, 116, 101, 114, 46, 105, 115, 95, 112, 97, 99, 107, 97, 103, 101, 35, 111, 112, 97, 113, 117, 101, 6, 199, 11, 108, 111, 97, 100, 95, 109, 111, 100, 117, 108, 101, 9, 52, 95, 102, 114, 111, 122, 101, 110, 95, 105, 109, 112, 111, 114, 116, 108, 105, 98, 46, 66, 117, 105, 108, 116, 105, 110, 73, 109, 112, 111, 114, 116, 101, 114, 46, 108, 111, 97, 100, 95, 109, 111, 100, 117, 108, 101, 35, 111, 112, 97, 113, 117, 101, 6, 200, 21, 95, 95, 115, 116, 97, 116, 105, 99, 95, 97, 116, 116, 114, 105, 98, 117, 116, 101, 115, 95, 95, 4, 0, 0, 15, 6, 202, 8, 95, 95, 100, 105, 99, 116, 95, 95, 4, 0, 0, 16, 6, 204, 11, 95, 95, 119, 101, 97, 107, 114, 101, 102, 95, 95, 4, 0, 0, 17]) 0), (.bool true), (.bool true), (.str (PySem.Str.ofString "") 205), (.int 21 0), (.str (PySem.Str.mk #[6, 227, 10, 95, 95, 109, 111, 100, 117, 108, 101, 95, 95, 6, 217, 17, 95, 102, 114, 111, 122, 101, 110, 95, 105, 109, 112, 111, 114, 116, 108, 105, 98, 6, 228, 15, 95, 95, 102, 105, 114, 115, 116, 108, 105, 110, 101, 110, 111, 95, 95, 4, 218, 0, 562, 6, 229, 7, 95, 95, 100, 111, 99, 95, 95, 9, 47, 95, 102, 114, 111, 122, 101, 110, 95, 105, 109, 112, 111, 114, 116, 108, 105, 98, 46, 77, 111, 100, 117, 108, 101, 83, 112, 101, 99, 46, 95, 95, 100, 111, 99, 95, 95, 58, 115, 116, 114, 35, 111, 112, 97, 113, 117, 101, 6, 230, 8, 95, 95, 105, 110, 105, 116, 95, 95, 9, 44, 95, 102, 114, 111, 122, 101, 110, 95, 105, 109, 112, 111, 114, 116, 108, 105, 98, 46, 77, 111, 100, 117, 108, 101, 83, 112, 101, 99, 46, 95, 95, 105, 110, 105, 116, 95, 95, 35, 111, 112, 97, 113, 117, 101, 6, 231, 8, 95, 95, 114, 101, 112, 114, 95, 95, 9, 44, 95, 102, 114, 111, 122, 101, 110, 95, 105, 109, 112, 111, 114, 116, 108, 105, 98, 46, 77, 111, 100, 117, 108, 101, 83, 112, 101, 99, 46, 95, 95, 114, 101, 112, 114, 95, 95, 35, 111, 112, 97, 113, 117, 101, 6, 232, 6, 95, 95, 101, 113, 95, 95, 9, 42, 95, 102, 114, 111, 122, 101, 110, 95, 105, 109, 112, 111, 114, 116, 108, 105, 98, 46, 77, 111, 100, 117, 108, 101, 83, 112, 101, 99, 46, 95, 95, 101, 113, 95, 95, 35, 111, 112, 97, 113, 117, 101, 6, 233, 6, 99, 97, 99, 104, 101, 100, 9, 42, 95, 102, 114, 111, 122, 101, 110, 95, 105, 109, 112, 111, 114, 116, 108, 105, 98, 46, 77, 111, 100, 117, 108, 101, 83, 112, 101, 99, 46, 99, 97, 99, 104, 101, 100, 35, 111, 112, 97, 113, 117, 101, 6, 234, 6, 112, 97, 114, 101, 110, 116, 9, 42, 95, 102, 114, 111, 122, 101, 110, 95, 105, 109, 112, 111, 114, 116, 108, 105, 98, 46, 77, 111, 100, 117, 108, 101, 83, 112, 101, 99, 46, 112, 97, 114, 101, 110, 116, 35, 111, 112, 97, 113, 117, 101, 6, 235, 12, 104, 97, 115, 95, 108, 111, 99, 97, 116, 105, 111, 110, 9, 48, 95, 102, 114, 111, 122, 101, 110, 95, 105, 109, 112, 111, 114, 116, 108, 105, 98, 46, 77, 111, 100, 117, 108, 101, 83, 112, 101, 99, 46, 104, 97, 115, 95, 108, 111, 99, 97, 116, 105, 111, 110, 35, 111, 112, 97, 113, 117, 101, 6, 236, 21, 95, 95, 115, 116, 97, 116, 105, 99, 95, 97, 116, 116, 114, 105, 98, 117, 116, 101, 115, 95, 95, 4, 0, 0, 23, 6, 238, 8, 95, 95, 100, 105, 99, 116, 95, 95, 4, 0, 0, 24, 6, 240, 11, 95, 95, 119, 101, 97, 107, 114, 101, 102, 95, 95, 4, 0, 0, 25, 6, 241, 8, 95, 95, 104, 97, 115, 104, 95, 95, 0]) 0), (.bool true), (.bool true), (.str (PySem.Str.ofString "") 242)] 1, #[]⟩
noncomputable def o19 (P : Params) : Obj := ⟨(.type "list"), none, .seq #[] 0, #[]⟩
noncomputable def o20 (P : Params) : Obj := ⟨(.type "dict"), none, .dict #[⟨PyData.keyHash P (PySem.Str.ofString "name"), (.str (PySem.Str.ofString "name") 208), (.str (PySem.Str.ofString "_sre") 207)⟩, ⟨PyData.keyHash P (PySem.Str.ofString "loader"), (.str (PySem.Str.ofString "loader") 209), (.ref 14)⟩, ⟨PyData.keyHash P (PySem.Str.ofString "origin"), (.str (PySem.Str.ofString "origin") 210), (.str (PySem.Str.ofString "built-in") 184)⟩, ⟨PyData.keyHash P (PySem.Str.ofString "loader_state"), (.str (PySem.Str.ofString "loader_state") 211), .none⟩, ⟨PyData.keyHash P (PySem.Str.ofString "submodule_search_locations"), (.str (PySem.Str.ofString "submodule_search_locations") 212), .none⟩, ⟨PyData.keyHash P (PySem.Str.ofString "_uninitialized_submodules"), (.str (PySem.Str.ofString "_uninitialized_submodules") 213), (.ref 19)⟩, ⟨PyData.keyHash P (PySem.Str.ofString "_set_fileattr"), (.str (PySem.Str.ofString "_set_fileattr") 214), (.bool false)⟩, ⟨PyData.keyHash P (PySem.Str.ofString "_cached"), (.str (PySem.Str.ofString "_cached") 215), .none⟩, ⟨PyData.keyHash P (PySem.Str.ofString "_initializing"), (.str (PySem.Str.ofString "_initializing") 243), (.bool false)⟩] 9, #[]⟩
noncomputable def o21 (P : Params) : Obj := ⟨(.type "dict"), none, .dict #[⟨PyData.keyHash P (PySem.Str.ofString "__module__"), (.str (PySem.Str.ofString "__module__") 227), (.str (PySem.Str.ofString "_frozen_importlib") 217)⟩, ⟨PyData.keyHash P (PySem.Str.ofString "__firstlineno__"), (.str (PySem.Str.ofString "__firstlineno__") 228), (.int 562 218)⟩, ⟨PyData.keyHash P (PySem.Str.ofString "__doc__"), (.str (PySem.Str.ofString "__doc__") 229), (.builtin "_frozen_importlib.ModuleSpec.__doc__:str#opaque")⟩, ⟨PyData.keyHash P (PySem.Str.ofString "__init__"), (.str (PySem.Str.ofString "__init__") 230), (.builtin "_frozen_importlib.ModuleSpec.__init__#opaque")⟩, ⟨PyData.keyHash P (PySem.Str.ofString "__repr__"), (.str (PySem.Str.ofString "__repr__") 231), (.builtin "_frozen_importlib.ModuleSpec.__repr__#opaque")⟩, ⟨PyData.keyHash P (PySem.Str.ofString "__eq__"), (.str (PySem.Str.ofString "__eq__") 232), (.builtin "_frozen_importlib.ModuleSpec.__eq__#opaque")⟩, ⟨PyData.keyHash P (PySem.Str.ofString "cached"), (.str (PySem.Str.ofString "cached") 233), (.builtin "_frozen_importlib.ModuleSpec.cached#opaque")⟩, ⟨PyData.keyHash P (PySem.Str.ofString "parent"), (.str (PySem.Str.ofString "parent") 234), (.builtin "_frozen_importlib.ModuleSpec.parent#opaque")⟩, ⟨PyData.keyHash P (PySem.Str.ofString "has_location"), (.str (PySem.Str.ofString "has_location") 235), (.builtin "_frozen_importlib.ModuleSpec.has_location#opaque")⟩, ⟨PyData.keyHash P (PySem.Str.ofString "__static_attributes__"), (.str (PySem.Str.ofString "__static_attributes__") 236), (.ref 23)⟩, ⟨PyData.keyHash P (PySem.Str.ofString "__dict__"), (.str (PySem.Str.ofString "__dict__") 238), (.ref 24)⟩, ⟨PyData.keyHash P (PySem.Str.ofString "__weakref__"), (.str (PySem.Str.ofString "__weakref__") 240), (.ref 25)⟩, ⟨PyData.keyHash P (PySem.Str.ofString "__hash__"), (.str (PySem.Str.ofString "__hash__") 241), .none⟩] 13, #[]⟩
noncomputable def o22 (P : Params) : Obj := ⟨(.type "type"), none, .cls ⟨(PySem.Str.ofString "ModuleSpec"), [(.type "object")], [(.ref 22), (.type "object")], 21, (PySem.Str.ofString "ModuleSpec"), true, [], [], false, none, false⟩, #[]⟩
noncomputable def o23 (P : Params) : Obj := ⟨(.type "tuple"), none, .seq #[(.str (PySem.Str.ofString "_cached") 219), (.str (PySem.Str.ofString "_set_fileattr") 220), (.str (PySem.Str.ofString "_uninitialized_submodules") 221), (.str (PySem.Str.ofString "loader") 222), (.str (PySem.Str.ofString "loader_state") 223), (.str (PySem.Str.ofString "name") 224), (.str (PySem.Str.ofString "origin") 225), (.str (PySem.Str.ofString "submodule_search_locations") 226)] 0, #[]⟩
noncomputable def o24 (P : Params) : Obj := ⟨(.type "getset_descriptor"), none, .fields #[(.str (PySem.Str.ofString "__dict__") 237), (.ref 22), (.builtin "function.__dict__"), (.builtin "function.__dict__#set")], #[]⟩
noncomputable def o25 (P : Params) : Obj := ⟨(.type "getset_descriptor"), none, .fields #[(.str (PySem.Str.ofString "__weakref__") 239), (.ref 22), (.builtin "ExceptionGroup.__weakref__"), .none], #[]⟩
noncomputable def o26 (P : Params) : Obj := ⟨(.ref 22), (some 20), .plain, #[]⟩
noncomputable def o27 (P : Params) : Obj := ⟨.none, none, .seq #[(.int 11 0), (.str (PySem.Str.mk #[6, 247, 8, 95, 95, 110, 97, 109, 101, 95, 95, 6, 246, 4, 95, 115, 114, 101, 6, 248, 7, 95, 95, 100, 111, 99, 95, 95, 0, 6, 250, 11, 95, 95, 112, 97, 99, 107, 97, 103, 101, 95, 95, 6, 249, 0, 6, 251, 10, 95, 95, 108, 111, 97, 100, 101, 114, 95, 95, 4, 0, 0, 14, 6, 252, 8, 95, 95, 115, 112, 101, 99, 95, 95, 4, 0, 0, 26, 6, 253, 7, 99, 111, 109, 112, 105, 108, 101, 9, 12, 95, 115, 114, 101, 46, 99, 111, 109, 112, 105, 108, 101, 6, 254, 8, 116, 101, 109, 112, 108, 97, 116, 101, 9, 13, 95, 115, 114, 101, 46, 116, 101, 109, 112, 108, 97, 116, 101, 6, 255, 11, 103, 101, 116, 99, 111, 100, 101, 115, 105, 122, 101, 9, 16, 95, 115, 114, 101, 46, 103, 101, 116, 99, 111, 100, 101, 115, 105, 122, 101, 6, 256, 13, 97, 115, 99, 105, 105, 95, 105, 115, 99, 97, 115, 101, 100, 9, 18, 95, 115, 114, 101, 46, 97, 115, 99, 105, 105, 95, 105, 115, 99, 97, 115, 101, 100, 6, 257, 15, 117, 110, 105, 99, 111, 100, 101, 95, 105, 115, 99, 97, 115, 101, 100, 9, 20, 95, 115, 114, 101, 46, 117, 110, 105, 99, 111, 100, 101, 95, 105, 115, 99, 97, 115, 101, 100, 6, 258, 13, 97, 115, 99, 105, 105, 95, 116, 111, 108, 111, 119, 101, 114, 9, 18, 95, 115, 114, 101, 46, 97, 115, 99, 105, 105, 95, 116, 111, 108, 111, 119, 101, 114, 6, 259, 15, 117, 110, 105, 99, 111, 100, 101, 95, 116, 111, 108, 111, 119, 101, 114, 9, 20, 95, 115, 114, 101, 46, 117, 110, 105, 99, 111, 100, 101, 95, 116, 111, 108, 111, 119, 101, 114, 6, 261, 5, 77, 65, 71, 73, 67, 4, 260, 0, 20230612, 6, 263, 8, 67, 79, 68, 69, 83, 73, 90, 69, 4, 262, 0, 4, 6, 265, 9, 77, 65, 88, 82, 69, 80, 69, 65, 84, 4, 264, 0, 4294967295, 6, 267, 9, 77, 65, 88, 71, 82, 79, 85, 80, 83, 4, 266, 0, 1073741823, 6, 269, 9, 99, 111, 112, 121, 114, 105, 103, 104, 116, 6, 268, 53, 32, 83, 82, 69, 32, 50, 46, 50, 46, 50, 32, 67, 111, 112, 121, 114, 105, 103, 104, 116, 32, 40, 99, 41, 32, 49, 57, 57, 55, 45, 50, 48, 48, 50, 32, 98, 121, 32, 83, 101, 99, 114, 101, 116, 32, 76, 97, 98, 115, 32, 65, 66, 32]) 0), (.bool true), (.bool false), (.str (PySem.Str.ofString "_sre") 271)] 0, #[]⟩
noncomputable def o28 (P : Params) : Obj := ⟨(.type "tuple"), none, .seq #[] 0, #[]⟩
noncomputable def o29 (P : Params) : Obj := ⟨.none, none, .fields #[(.int 2 0), (.int 0 0), (.ref 37), (.int 7 0), (.int 0 0), (.ref 61), (.int 10 0), (.int 0 0), (.ref 68), (.int 24 0), (.int 0 0), (.ref 96), (.int 37 0), (.int 0 0), (.ref 103), (.int 46 0), (.int 0 0), (.ref 126), (.int 55 0), (.int 0 0), (.ref 133), (.int 138 0), (.int 0 0), (.ref 256), (.int 154 0), (.int 0 0), (.ref 263), (.int 175 0), (.int 0 0), (.ref 268), (.int 184 0), (.int 0 0), (.ref 275), (.int 200 0), (.int 0 0), (.ref 282), (.int 205 0), (.int 0 0), (.ref 287)], #[]⟩
noncomputable def o30 (P : Params) : Obj := ⟨(.type "code"), none, .fields #[(.str (PySem.Str.ofString "<module>") 277), (.str (PySem.Str.ofString "<module>") 278), (.str (PySem.Str.ofString "/claim/cut.py") 279), (.int 1 0), (.int 0 0), (.int 0 0), (.int 0 0), (.int 0 0), (.ref 28), (.bool false), (.int 276 0), (.ref 29), .none, .none, .none, .none, (.int 280 0), (.int 1 0), (.str (PySem.Str.ofString "/claim/cut.py") 281)], #[]⟩
noncomputable def o31 (P : Params) : Obj := ⟨(.type "frame"), none, .plain, #[(some (.ref 30)), (some (.ref 3)), (some (.ref 3)), none, (some (.str (PySem.Str.ofString "__main__") 164)), none, (some (.ref 0))]⟩
noncomputable def o32 (P : Params) : Obj := ⟨(.type "tuple"), none, .seq #[] 0, #[]⟩
noncomputable def o33 (P : Params) : Obj := ⟨.none, none, .fields #[], #[]⟩
noncomputable def o34 (P : Params) : Obj := ⟨(.type "tuple"), none, .seq #[(.str (PySem.Str.ofString "k") 285)] 0, #[]⟩
noncomputable def o35 (P : Params) : Obj := ⟨(.type "tuple"), none, .seq #[] 0, #[]⟩
noncomputable def o36 (P : Params) : Obj := ⟨.none, none, .func { (fnOf (PySem.Str.ofString "_wall") (PySem.Str.ofString "_wall") (fArgs (stm 1)) (fBody (stm 1)) (fScope (stm 1)) .none .none .none .none none .none .none : FuncData) with globals := 0, builtins := 0 }, #[]⟩
noncomputable def o37 (P : Params) : Obj := ⟨(.type "code"), none, .fields #[(.str (PySem.Str.ofString "_wall") 282), (.str (PySem.Str.ofString "_wall") 283), (.str (PySem.Str.ofString "/claim/cut.py") 284), (.int 2 0), (.int 1 0), (.int 0 0), (.int 0 0), (.int 3 0), (.ref 32), (.bool true), (.int 276 0), (.ref 33), .none, (.ref 34), (.ref 35), (.ref 36), (.int 286 0), (.int 2 0), (.str (PySem.Str.ofString "/claim/cut.py") 287)], #[]⟩
noncomputable def o38 (P : Params) : Obj := ⟨(.type "function"), none, .func (fnOf (PySem.Str.ofString "_wall") (PySem.Str.ofString "_wall") (fArgs (stm 1)) (fBody (stm 1)) (fScope (stm 1)) .none .none .none (.str (PySem.Str.ofString "__main__") 164) none (.ref 37) .none), #[]⟩
noncomputable def o39 (P : Params) : Obj := ⟨(.type "list"), none, .seq #[(.int 832 291), (.int 833 292), (.int 8206 293), (.int 8207 294)] 0, #[]⟩
noncomputable def o40 (P : Params) : Obj := ⟨(.type "range"), none, .fields #[(.int 8234 295), (.int 8239 296), (.int 1 297)], #[]⟩
noncomputable def o41 (P : Params) : Obj := ⟨(.type "list"), none, .seq #[(.int 8234 300), (.int 8235 301), (.int 8236 302), (.int 8237 303), (.int 8238 304)] 7, #[]⟩
noncomputable def o42 (P : Params) : Obj := ⟨(.type "range_iterator"), none, .fields #[(.int 8239 0), (.int 0 0), (.int 1 0)], #[]⟩
noncomputable def o43 (P : Params) : Obj := ⟨(.type "tuple"), none, .seq #[] 0, #[]⟩
noncomputable def o44 (P : Params) : Obj := ⟨(.type "StopIteration"), none, .fields #[(.ref 43), .none, .none, .none, (.bool false), .none], #[]⟩
noncomputable def o45 (P : Params) : Obj := ⟨(.type "list"), none, .seq #[(.int 832 291), (.int 833 292), (.int 8206 293), (.int 8207 294), (.int 8234 300), (.int 8235 301), (.int 8236 302), (.int 8237 303), (.int 8238 304)] 0, #[]⟩
noncomputable def o46 (P : Params) : Obj := ⟨(.type "range"), none, .fields #[(.int 8298 305), (.int 8304 306), (.int 1 307)], #[]⟩
noncomputable def o47 (P : Params) : Obj := ⟨(.type "list"), none, .seq #[(.int 8298 310), (.int 8299 311), (.int 8300 312), (.int 8301 313), (.int 8302 314), (.int 8303 315)] 8, #[]⟩
noncomputable def o48 (P : Params) : Obj := ⟨(.type "range_iterator"), none, .fields #[(.int 8304 0), (.int 0 0), (.int 1 0)], #[]⟩
noncomputable def o49 (P : Params) : Obj := ⟨(.type "tuple"), none, .seq #[] 0, #[]⟩
noncomputable def o50 (P : Params) : Obj := ⟨(.type "StopIteration"), none, .fields #[(.ref 49), .none, .none, .none, (.bool false), .none], #[]⟩
noncomputable def o51 (P : Params) : Obj := ⟨(.type "list"), none, .seq #[(.int 832 291), (.int 833 292), (.int 8206 293), (.int 8207 294), (.int 8234 300), (.int 8235 301), (.int 8236 302), (.int 8237 303), (.int 8238 304), (.int 8298 310), (.int 8299 311), (.int 8300 312), (.int 8301 313), (.int 8302 314), (.int 8303 315)] 0, #[]⟩
noncomputable def o52 (P : Params) : Obj := ⟨(.type "set"), none, .set #[(832, (.int 832 291)), (833, (.int 833 292)), (8234, (.int 8234 300)), (8235, (.int 8235 301)), (8236, (.int 8236 302)), (8237, (.int 8237 303)), (8206, (.int 8206 293)), (8207, (.int 8207 294)), (8238, (.int 8238 304)), (8298, (.int 8298 310)), (8299, (.int 8299 311)), (8300, (.int 8300 312)), (8301, (.int 8301 313)), (8302, (.int 8302 314)), (8303, (.int 8303 315))] 16 ⟨31, #[0, 1, 10, 11, 12, 13, 14, 15, 16, 17, 18, 19, 20, 21, 22], #[], 0, (!P.followText "set-order"), 1, true⟩, #[]⟩
noncomputable def o53 (P : Params) : Obj := ⟨(.type "list_iterator"), none, .fields #[.none, (.int 15 0)], #[]⟩
noncomputable def o54 (P : Params) : Obj := ⟨(.type "tuple"), none, .seq #[] 0, #[]⟩
noncomputable def o55 (P : Params) : Obj := ⟨(.type "StopIteration"), none, .fields #[(.ref 54), .none, .none, .none, (.bool false), .none], #[]⟩
noncomputable def o56 (P : Params) : Obj := ⟨(.type "tuple"), none, .seq #[] 0, #[]⟩
noncomputable def o57 (P : Params) : Obj := ⟨.none, none, .fields #[], #[]⟩
noncomputable def o58 (P : Params) : Obj := ⟨(.type "tuple"), none, .seq #[(.str (PySem.Str.ofString "code") 335)] 0, #[]⟩
noncomputable def o59 (P : Params) : Obj := ⟨(.type "tuple"), none, .seq #[] 0, #[]⟩
noncomputable def o60 (P : Params) : Obj := ⟨.none, none, .func { (fnOf (PySem.Str.ofString "in_table_c8") (PySem.Str.ofString "in_table_c8") (fArgs (stm 4)) (fBody (stm 4)) (fScope (stm 4)) .none .none .none .none none .none .none : FuncData) with globals := 0, builtins := 0 }, #[]⟩
noncomputable def o61 (P : Params) : Obj := ⟨(.type "code"), none, .fields #[(.str (PySem.Str.ofString "in_table_c8") 332), (.str (PySem.Str.ofString "in_table_c8") 333), (.str (PySem.Str.ofString "/claim/cut.py") 334), (.int 7 0), (.int 1 0), (.int 0 0), (.int 0 0), (.int 3 0), (.ref 56), (.bool true), (.int 276 0), (.ref 57), .none, (.ref 58), (.ref 59), (.ref 60), (.int 336 0), (.int 7 0), (.str (PySem.Str.ofString "/claim/cut.py") 337)], #[]⟩
noncomputable def o62 (P : Params) : Obj := ⟨(.type "function"), none, .func (fnOf (PySem.Str.ofString "in_table_c8") (PySem.Str.ofString "in_table_c8") (fArgs (stm 4)) (fBody (stm 4)) (fScope (stm 4)) .none .none .none (.str (PySem.Str.ofString "cpy313.stringprep") 289) none (.ref 61) .none), #[]⟩
noncomputable def o63 (P : Params) : Obj := ⟨(.type "tuple"), none, .seq #[] 0, #[]⟩
noncomputable def o64 (P : Params) : Obj := ⟨(.type "builtin_function_or_method"), none, .fields #[(.builtin "type.__prepare__"), (.type "type")], #[]⟩
noncomputable def o65 (P : Params) : Obj := ⟨(.type "dict"), none, .dict #[⟨PyData.keyHash P (PySem.Str.ofString "__module__"), (.str (PySem.Str.ofString "__module__") 348), (.str (PySem.Str.ofString "cpy313.pstats") 339)⟩, ⟨PyData.keyHash P (PySem.Str.ofString "__qualname__"), (.str (PySem.Str.ofString "__qualname__") 350), (.str (PySem.Str.ofString "TupleComp") 349)⟩, ⟨PyData.keyHash P (PySem.Str.ofString "__firstlineno__"), (.str (PySem.Str.ofString "__firstlineno__") 352), (.int 10 351)⟩, ⟨PyData.keyHash P (PySem.Str.ofString "__init__"), (.str (PySem.Str.ofString "__init__") 360), (.ref 76)⟩, ⟨PyData.keyHash P (PySem.Str.ofString "compare"), (.str (PySem.Str.ofString "compare") 373), (.ref 83)⟩, ⟨PyData.keyHash P (PySem.Str.ofString "__static_attributes__"), (.str (PySem.Str.ofString "__static_attributes__") 375), (.ref 84)⟩] 6, #[]⟩
noncomputable def o66 (P : Params) : Obj := ⟨(.type "tuple"), none, .seq #[] 0, #[]⟩
noncomputable def o67 (P : Params) : Obj := ⟨.none, none, .fields #[(.int 12 0), (.int 4 0), (.ref 75), (.int 15 0), (.int 4 0), (.ref 82)], #[]⟩
noncomputable def o68 (P : Params) : Obj := ⟨(.type "code"), none, .fields #[(.str (PySem.Str.ofString "TupleComp") 343), (.str (PySem.Str.ofString "TupleComp") 344), (.str (PySem.Str.ofString "/claim/cut.py") 345), (.int 10 0), (.int 0 0), (.int 0 0), (.int 0 0), (.int 0 0), (.ref 66), (.bool false), (.int 276 0), (.ref 67), .none, .none, .none, .none, (.int 346 0), (.int 10 0), (.str (PySem.Str.ofString "/claim/cut.py") 347)], #[]⟩
noncomputable def o69 (P : Params) : Obj := ⟨(.type "frame"), none, .plain, #[(some (.ref 68)), (some (.ref 3)), (some (.ref 65)), none, (some (.str (PySem.Str.ofString "cpy313.pstats") 339)), none, (some (.ref 0))]⟩
noncomputable def o70 (P : Params) : Obj := ⟨(.type "tuple"), none, .seq #[] 0, #[]⟩
noncomputable def o71 (P : Params) : Obj := ⟨.none, none, .fields #[], #[]⟩
noncomputable def o72 (P : Params) : Obj := ⟨(.type "tuple"), none, .seq #[(.str (PySem.Str.ofString "self") 356), (.str (PySem.Str.ofString "comp_select_list") 357)] 0, #[]⟩
noncomputable def o73 (P : Params) : Obj := ⟨(.type "tuple"), none, .seq #[] 0, #[]⟩
noncomputable def o74 (P : Params) : Obj := ⟨.none, none, .func { (fnOf (PySem.Str.ofString "__init__") (PySem.Str.ofString "TupleComp.__init__") (fArgs (stm2 6 0)) (fBody (stm2 6 0)) (fScope (stm2 6 0)) .none .none .none .none none .none .none : FuncData) with globals := 0, builtins := 0 }, #[]⟩
noncomputable def o75 (P : Params) : Obj := ⟨(.type "code"), none, .fields #[(.str (PySem.Str.ofString "__init__") 353), (.str (PySem.Str.ofString "TupleComp.__init__") 354), (.str (PySem.Str.ofString "/claim/cut.py") 355), (.int 12 0), (.int 2 0), (.int 0 0), (.int 0 0), (.int 3 0), (.ref 70), (.bool true), (.int 276 0), (.ref 71), .none, (.ref 72), (.ref 73), (.ref 74), (.int 358 0), (.int 12 0), (.str (PySem.Str.ofString "/claim/cut.py") 359)], #[]⟩
noncomputable def o76 (P : Params) : Obj := ⟨(.type "function"), none, .func (fnOf (PySem.Str.ofString "__init__") (PySem.Str.ofString "TupleComp.__init__") (fArgs (stm2 6 0)) (fBody (stm2 6 0)) (fScope (stm2 6 0)) .none .none .none (.str (PySem.Str.ofString "cpy313.pstats") 339) none (.ref 75) .none), #[]⟩
noncomputable def o77 (P : Params) : Obj := ⟨(.type "tuple"), none, .seq #[] 0, #[]⟩
noncomputable def o78 (P : Params) : Obj := ⟨.none, none, .fields #[], #[]⟩
noncomputable def o79 (P : Params) : Obj := ⟨(.type "tuple"), none, .seq #[(.str (PySem.Str.ofString "self") 364), (.str (PySem.Str.ofString "left") 365), (.str (PySem.Str.ofString "right") 366), (.str (PySem.Str.ofString "index") 367), (.str (PySem.Str.ofString "direction") 368), (.str (PySem.Str.ofString "l") 369), (.str (PySem.Str.ofString "r") 370)] 0, #[]⟩
noncomputable def o80 (P : Params) : Obj := ⟨(.type "tuple"), none, .seq #[] 0, #[]⟩
noncomputable def o81 (P : Params) : Obj := ⟨.none, none, .func { (fnOf (PySem.Str.ofString "compare") (PySem.Str.ofString "TupleComp.compare") (fArgs (stm2 6 1)) (fBody (stm2 6 1)) (fScope (stm2 6 1)) .none .none .none .none none .none .none : FuncData) with globals := 0, builtins := 0 }, #[]⟩
noncomputable def o82 (P : Params) : Obj := ⟨(.type "code"), none, .fields #[(.str (PySem.Str.ofString "compare") 361), (.str (PySem.Str.ofString "TupleComp.compare") 362), (.str (PySem.Str.ofString "/claim/cut.py") 363), (.int 15 0), (.int 3 0), (.int 0 0), (.int 0 0), (.int 3 0), (.ref 77), (.bool true), (.int 276 0), (.ref 78), .none, (.ref 79), (.ref 80), (.ref 81), (.int 371 0), (.int 15 0), (.str (PySem.Str.ofString "/claim/cut.py") 372)], #[]⟩
noncomputable def o83 (P : Params) : Obj := ⟨(.type "function"), none, .func (fnOf (PySem.Str.ofString "compare") (PySem.Str.ofString "TupleComp.compare") (fArgs (stm2 6 1)) (fBody (stm2 6 1)) (fScope (stm2 6 1)) .none .none .none (.str (PySem.Str.ofString "cpy313.pstats") 339) none (.ref 82) .none), #[]⟩
noncomputable def o84 (P : Params) : Obj := ⟨(.type "tuple"), none, .seq #[(.str (PySem.Str.ofString "comp_select_list") 374)] 0, #[]⟩
noncomputable def o85 (P : Params) : Obj := ⟨(.type "dict"), none, .dict #[⟨PyData.keyHash P (PySem.Str.ofString "__module__"), (.str (PySem.Str.ofString "__module__") 348), (.str (PySem.Str.ofString "cpy313.pstats") 339)⟩, ⟨PyData.keyHash P (PySem.Str.ofString "__firstlineno__"), (.str (PySem.Str.ofString "__firstlineno__") 352), (.int 10 351)⟩, ⟨PyData.keyHash P (PySem.Str.ofString "__init__"), (.str (PySem.Str.ofString "__init__") 360), (.ref 76)⟩, ⟨PyData.keyHash P (PySem.Str.ofString "compare"), (.str (PySem.Str.ofString "compare") 373), (.ref 83)⟩, ⟨PyData.keyHash P (PySem.Str.ofString "__static_attributes__"), (.str (PySem.Str.ofString "__static_attributes__") 375), (.ref 84)⟩, ⟨PyData.keyHash P (PySem.Str.ofString "__dict__"), (.str (PySem.Str.ofString "__dict__") 377), (.ref 87)⟩, ⟨PyData.keyHash P (PySem.Str.ofString "__weakref__"), (.str (PySem.Str.ofString "__weakref__") 379), (.ref 88)⟩, ⟨PyData.keyHash P (PySem.Str.ofString "__doc__"), (.str (PySem.Str.ofString "__doc__") 380), .none⟩] 4, #[]⟩
noncomputable def o86 (P : Params) : Obj := ⟨(.type "type"), none, .cls ⟨(PySem.Str.ofString "TupleComp"), [(.type "object")], [(.ref 86), (.type "object")], 85, (PySem.Str.ofString "TupleComp"), true, [], [], false, none, false⟩, #[none, none, (some (.str (PySem.Str.ofString "TupleComp") 341)), (some (.str (PySem.Str.ofString "TupleComp") 349)), (some (.builtin "object.__new__")), (some (.bool true))]⟩
noncomputable def o87 (P : Params) : Obj := ⟨(.type "getset_descriptor"), none, .fields #[(.str (PySem.Str.ofString "__dict__") 376), (.ref 86), (.builtin "function.__dict__"), (.builtin "function.__dict__#set")], #[]⟩
noncomputable def o88 (P : Params) : Obj := ⟨(.type "getset_descriptor"), none, .fields #[(.str (PySem.Str.ofString "__weakref__") 378), (.ref 86), (.builtin "ExceptionGroup.__weakref__"), .none], #[]⟩
noncomputable def o89 (P : Params) : Obj := ⟨(.type "super"), none, .fields #[(.ref 86), (.ref 86), (.ref 86)], #[]⟩
noncomputable def o90 (P : Params) : Obj := ⟨(.type "builtin_function_or_method"), none, .fields #[(.builtin "object.__init_subclass__"), (.ref 86)], #[]⟩
noncomputable def o91 (P : Params) : Obj := ⟨(.type "tuple"), none, .seq #[] 0, #[]⟩
noncomputable def o92 (P : Params) : Obj := ⟨.none, none, .fields #[], #[]⟩
noncomputable def o93 (P : Params) : Obj := ⟨(.type "tuple"), none, .seq #[(.str (PySem.Str.ofString "target") 386), (.str (PySem.Str.ofString "source") 387), (.str (PySem.Str.ofString "new_callers") 388), (.str (PySem.Str.ofString "func") 389), (.str (PySem.Str.ofString "caller") 390)] 0, #[]⟩
noncomputable def o94 (P : Params) : Obj := ⟨(.type "tuple"), none, .seq #[] 0, #[]⟩
noncomputable def o95 (P : Params) : Obj := ⟨.none, none, .func { (fnOf (PySem.Str.ofString "add_callers") (PySem.Str.ofString "add_callers") (fArgs (stm 7)) (fBody (stm 7)) (fScope (stm 7)) .none .none .none .none none .none .none : FuncData) with globals := 0, builtins := 0 }, #[]⟩
noncomputable def o96 (P : Params) : Obj := ⟨(.type "code"), none, .fields #[(.str (PySem.Str.ofString "add_callers") 383), (.str (PySem.Str.ofString "add_callers") 384), (.str (PySem.Str.ofString "/claim/cut.py") 385), (.int 24 0), (.int 2 0), (.int 0 0), (.int 0 0), (.int 3 0), (.ref 91), (.bool true), (.int 276 0), (.ref 92), .none, (.ref 93), (.ref 94), (.ref 95), (.int 391 0), (.int 24 0), (.str (PySem.Str.ofString "/claim/cut.py") 392)], #[]⟩
noncomputable def o97 (P : Params) : Obj := ⟨(.type "function"), none, .func (fnOf (PySem.Str.ofString "add_callers") (PySem.Str.ofString "add_callers") (fArgs (stm 7)) (fBody (stm 7)) (fScope (stm 7)) .none .none .none (.str (PySem.Str.ofString "cpy313.pstats") 339) none (.ref 96) .none), #[]⟩
noncomputable def o98 (P : Params) : Obj := ⟨(.type "tuple"), none, .seq #[] 0, #[]⟩
noncomputable def o99 (P : Params) : Obj := ⟨.none, none, .fields #[], #[]⟩
noncomputable def o100 (P : Params) : Obj := ⟨(.type "tuple"), none, .seq #[(.str (PySem.Str.ofString "callers") 397), (.str (PySem.Str.ofString "nc") 398), (.str (PySem.Str.ofString "calls") 399)] 0, #[]⟩
noncomputable def o101 (P : Params) : Obj := ⟨(.type "tuple"), none, .seq #[] 0, #[]⟩
noncomputable def o102 (P : Params) : Obj := ⟨.none, none, .func { (fnOf (PySem.Str.ofString "count_calls") (PySem.Str.ofString "count_calls") (fArgs (stm 8)) (fBody (stm 8)) (fScope (stm 8)) .none .none .none .none none .none .none : FuncData) with globals := 0, builtins := 0 }, #[]⟩
noncomputable def o103 (P : Params) : Obj := ⟨(.type "code"), none, .fields #[(.str (PySem.Str.ofString "count_calls") 394), (.str (PySem.Str.ofString "count_calls") 395), (.str (PySem.Str.ofString "/claim/cut.py") 396), (.int 37 0), (.int 1 0), (.int 0 0), (.int 0 0), (.int 3 0), (.ref 98), (.bool true), (.int 276 0), (.ref 99), .none, (.ref 100), (.ref 101), (.ref 102), (.int 400 0), (.int 37 0), (.str (PySem.Str.ofString "/claim/cut.py") 401)], #[]⟩
noncomputable def o104 (P : Params) : Obj := ⟨(.type "function"), none, .func (fnOf (PySem.Str.ofString "count_calls") (PySem.Str.ofString "count_calls") (fArgs (stm 8)) (fBody (stm 8)) (fScope (stm 8)) .none .none .none (.str (PySem.Str.ofString "cpy313.pstats") 339) none (.ref 103) .none), #[]⟩
noncomputable def o105 (P : Params) : Obj := ⟨(.type "list"), none, .seq #[(.int 14 408), (.int 14 409), (.int 4 410), (.int 1 411), (.int 1 412), (.int 9 413), (.int 0 414), (.int 4227896069 415), (.int 939524097 416), (.int 0 417), (.int 0 418), (.int 0 419), (.int 0 420), (.int 0 421), (.int 0 422), (.int 13 423), (.int 11 424), (.int 9 425), (.int 0 426), (.int 4227896069 427), (.int 939524097 428), (.int 0 429), (.int 0 430), (.int 0 431), (.int 0 432), (.int 0 433), (.int 0 434), (.int 1 435)] 0, #[]⟩
noncomputable def o106 (P : Params) : Obj := ⟨(.type "dict"), none, .dict #[] 0, #[]⟩
noncomputable def o107 (P : Params) : Obj := ⟨(.type "tuple"), none, .seq #[.none] 0, #[]⟩
noncomputable def o108 (P : Params) : Obj := ⟨(.type "tuple"), none, .seq #[(.int 14 0), (.int 14 0), (.int 4 0), (.int 1 0), (.int 1 0), (.int 9 0), (.int 0 0), (.int 4227896069 0), (.int 939524097 0), (.int 0 0), (.int 0 0), (.int 0 0), (.int 0 0), (.int 0 0), (.int 0 0), (.int 13 0), (.int 11 0), (.int 9 0), (.int 0 0), (.int 4227896069 0), (.int 939524097 0), (.int 0 0), (.int 0 0), (.int 0 0), (.int 0 0), (.int 0 0), (.int 0 0), (.int 1 0)] 0, #[]⟩
noncomputable def o109 (P : Params) : Obj := ⟨(.type "re.Pattern"), none, .fields #[(.str (PySem.Str.ofString "[ \\(\\)<>@,;:\\\\\"/\\[\\]\\?=]") 406), (.int 32 437), (.int 0 0), .none, .none, (.ref 108), (.int 0 0)], #[]⟩
noncomputable def o110 (P : Params) : Obj := ⟨(.type "list"), none, .seq #[(.int 14 442), (.int 10 443), (.int 4 444), (.int 1 445), (.int 1 446), (.int 22 447), (.int 0 448), (.int 31 449), (.int 16 450), (.int 127 451), (.int 0 452), (.int 13 453), (.int 7 454), (.int 22 455), (.int 0 456), (.int 31 457), (.int 16 458), (.int 127 459), (.int 0 460), (.int 1 461)] 0, #[]⟩
noncomputable def o111 (P : Params) : Obj := ⟨(.type "dict"), none, .dict #[] 0, #[]⟩
noncomputable def o112 (P : Params) : Obj := ⟨(.type "tuple"), none, .seq #[.none] 0, #[]⟩
noncomputable def o113 (P : Params) : Obj := ⟨(.type "tuple"), none, .seq #[(.int 14 0), (.int 10 0), (.int 4 0), (.int 1 0), (.int 1 0), (.int 22 0), (.int 0 0), (.int 31 0), (.int 16 0), (.int 127 0), (.int 0 0), (.int 13 0), (.int 7 0), (.int 22 0), (.int 0 0), (.int 31 0), (.int 16 0), (.int 127 0), (.int 0 0), (.int 1 0)] 0, #[]⟩
noncomputable def o114 (P : Params) : Obj := ⟨(.type "re.Pattern"), none, .fields #[(.str (PySem.Str.ofString "[\\x00-\\x1F\\x7F]") 440), (.int 32 463), (.int 0 0), .none, .none, (.ref 113), (.int 0 0)], #[]⟩
noncomputable def o115 (P : Params) : Obj := ⟨(.type "list"), none, .seq #[(.int 14 468), (.int 14 469), (.int 4 470), (.int 1 471), (.int 1 472), (.int 9 473), (.int 4294966783 474), (.int 0 475), (.int 0 476), (.int 2147483648 477), (.int 0 478), (.int 0 479), (.int 0 480), (.int 0 481), (.int 0 482), (.int 13 483), (.int 11 484), (.int 9 485), (.int 4294966783 486), (.int 0 487), (.int 0 488), (.int 2147483648 489), (.int 0 490), (.int 0 491), (.int 0 492), (.int 0 493), (.int 0 494), (.int 1 495)] 0, #[]⟩
noncomputable def o116 (P : Params) : Obj := ⟨(.type "dict"), none, .dict #[] 0, #[]⟩
noncomputable def o117 (P : Params) : Obj := ⟨(.type "tuple"), none, .seq #[.none] 0, #[]⟩
noncomputable def o118 (P : Params) : Obj := ⟨(.type "tuple"), none, .seq #[(.int 14 0), (.int 14 0), (.int 4 0), (.int 1 0), (.int 1 0), (.int 9 0), (.int 4294966783 0), (.int 0 0), (.int 0 0), (.int 2147483648 0), (.int 0 0), (.int 0 0), (.int 0 0), (.int 0 0), (.int 0 0), (.int 13 0), (.int 11 0), (.int 9 0), (.int 4294966783 0), (.int 0 0), (.int 0 0), (.int 2147483648 0), (.int 0 0), (.int 0 0), (.int 0 0), (.int 0 0), (.int 0 0), (.int 1 0)] 0, #[]⟩
noncomputable def o119 (P : Params) : Obj := ⟨(.type "re.Pattern"), none, .fields #[(.str (PySem.Str.ofString "[\\x00-\\x08\\x0A-\\x1F\\x7F]") 466), (.int 32 497), (.int 0 0), .none, .none, (.ref 118), (.int 0 0)], #[]⟩
noncomputable def o120 (P : Params) : Obj := ⟨(.type "tuple"), none, .seq #[.none, (.int 1 499)] 0, #[]⟩
noncomputable def o121 (P : Params) : Obj := ⟨(.type "tuple"), none, .seq #[] 0, #[]⟩
noncomputable def o122 (P : Params) : Obj := ⟨.none, none, .fields #[], #[]⟩
noncomputable def o123 (P : Params) : Obj := ⟨(.type "tuple"), none, .seq #[(.str (PySem.Str.ofString "param") 503), (.str (PySem.Str.ofString "value") 504), (.str (PySem.Str.ofString "quote") 505)] 0, #[]⟩
noncomputable def o124 (P : Params) : Obj := ⟨(.type "tuple"), none, .seq #[] 0, #[]⟩
noncomputable def o125 (P : Params) : Obj := ⟨.none, none, .func { (fnOf (PySem.Str.ofString "_formatparam") (PySem.Str.ofString "_formatparam") (fArgs (stm 13)) (fBody (stm 13)) (fScope (stm 13)) .none .none .none .none none .none .none : FuncData) with globals := 0, builtins := 0 }, #[]⟩
noncomputable def o126 (P : Params) : Obj := ⟨(.type "code"), none, .fields #[(.str (PySem.Str.ofString "_formatparam") 500), (.str (PySem.Str.ofString "_formatparam") 501), (.str (PySem.Str.ofString "/claim/cut.py") 502), (.int 46 0), (.int 3 0), (.int 0 0), (.int 0 0), (.int 3 0), (.ref 121), (.bool true), (.int 276 0), (.ref 122), .none, (.ref 123), (.ref 124), (.ref 125), (.int 506 0), (.int 46 0), (.str (PySem.Str.ofString "/claim/cut.py") 507)], #[]⟩
noncomputable def o127 (P : Params) : Obj := ⟨(.type "function"), none, .func (fnOf (PySem.Str.ofString "_formatparam") (PySem.Str.ofString "_formatparam") (fArgs (stm 13)) (fBody (stm 13)) (fScope (stm 13)) (.ref 120) .none .none (.str (PySem.Str.ofString "cpy313.wsgiref.headers") 403) none (.ref 126) .none), #[]⟩
noncomputable def o128 (P : Params) : Obj := ⟨(.type "tuple"), none, .seq #[] 0, #[]⟩
noncomputable def o129 (P : Params) : Obj := ⟨(.type "builtin_function_or_method"), none, .fields #[(.builtin "type.__prepare__"), (.type "type")], #[]⟩
noncomputable def o130 (P : Params) : Obj := ⟨(.type "dict"), none, .dict #[⟨PyData.keyHash P (PySem.Str.ofString "__module__"), (.str (PySem.Str.ofString "__module__") 516), (.str (PySem.Str.ofString "cpy313.wsgiref.headers") 403)⟩, ⟨PyData.keyHash P (PySem.Str.ofString "__qualname__"), (.str (PySem.Str.ofString "__qualname__") 518), (.str (PySem.Str.ofString "Headers") 517)⟩, ⟨PyData.keyHash P (PySem.Str.ofString "__firstlineno__"), (.str (PySem.Str.ofString "__firstlineno__") 520), (.int 55 519)⟩, ⟨PyData.keyHash P (PySem.Str.ofString "__init__"), (.str (PySem.Str.ofString "__init__") 530), (.ref 142)⟩, ⟨PyData.keyHash P (PySem.Str.ofString "_convert_string_type"), (.str (PySem.Str.ofString "_convert_string_type") 540), (.ref 149)⟩, ⟨PyData.keyHash P (PySem.Str.ofString "__len__"), (.str (PySem.Str.ofString "__len__") 547), (.ref 156)⟩, ⟨PyData.keyHash P (PySem.Str.ofString "__setitem__"), (.str (PySem.Str.ofString "__setitem__") 556), (.ref 163)⟩, ⟨PyData.keyHash P (PySem.Str.ofString "__delitem__"), (.str (PySem.Str.ofString "__delitem__") 562), (.ref 168)⟩, ⟨PyData.keyHash P (PySem.Str.ofString "__getitem__"), (.str (PySem.Str.ofString "__getitem__") 570), (.ref 175)⟩, ⟨PyData.keyHash P (PySem.Str.ofString "__contains__"), (.str (PySem.Str.ofString "__contains__") 578), (.ref 182)⟩, ⟨PyData.keyHash P (PySem.Str.ofString "get_all"), (.str (PySem.Str.ofString "get_all") 584), (.ref 187)⟩, ⟨PyData.keyHash P (PySem.Str.ofString "get"), (.str (PySem.Str.ofString "get") 595), (.ref 195)⟩, ⟨PyData.keyHash P (PySem.Str.ofString "keys"), (.str (PySem.Str.ofString "keys") 601), (.ref 200)⟩, ⟨PyData.keyHash P (PySem.Str.ofString "values"), (.str (PySem.Str.ofString "values") 607), (.ref 205)⟩, ⟨PyData.keyHash P (PySem.Str.ofString "items"), (.str (PySem.Str.ofString "items") 614), (.ref 212)⟩, ⟨PyData.keyHash P (PySem.Str.ofString "__repr__"), (.str (PySem.Str.ofString "__repr__") 621), (.ref 219)⟩, ⟨PyData.keyHash P (PySem.Str.ofString "__str__"), (.str (PySem.Str.ofString "__str__") 627), (.ref 224)⟩, ⟨PyData.keyHash P (PySem.Str.ofString "__bytes__"), (.str (PySem.Str.ofString "__bytes__") 634), (.ref 231)⟩, ⟨PyData.keyHash P (PySem.Str.ofString "setdefault"), (.str (PySem.Str.ofString "setdefault") 643), (.ref 238)⟩, ⟨PyData.keyHash P (PySem.Str.ofString "add_header"), (.str (PySem.Str.ofString "add_header") 656), (.ref 245)⟩, ⟨PyData.keyHash P (PySem.Str.ofString "__static_attributes__"), (.str (PySem.Str.ofString "__static_attributes__") 658), (.ref 246)⟩] 21, #[]⟩
noncomputable def o131 (P : Params) : Obj := ⟨(.type "tuple"), none, .seq #[] 0, #[]⟩
noncomputable def o132 (P : Params) : Obj := ⟨.none, none, .fields #[(.int 57 0), (.int 4 0), (.ref 141), (.int 67 0), (.int 4 0), (.ref 148), (.int 75 0), (.int 4 0), (.ref 155), (.int 78 0), (.int 4 0), (.ref 162), (.int 82 0), (.int 4 0), (.ref 167), (.int 86 0), (.int 4 0), (.ref 174), (.int 89 0), (.int 4 0), (.ref 181), (.int 92 0), (.int 4 0), (.ref 186), (.int 96 0), (.int 4 0), (.ref 194), (.int 103 0), (.int 4 0), (.ref 199), (.int 106 0), (.int 4 0), (.ref 204), (.int 109 0), (.int 4 0), (.ref 211), (.int 112 0), (.int 4 0), (.ref 218), (.int 115 0), (.int 4 0), (.ref 223), (.int 118 0), (.int 4 0), (.ref 230), (.int 121 0), (.int 4 0), (.ref 237), (.int 124 0), (.int 4 0), (.ref 244)], #[]⟩
noncomputable def o133 (P : Params) : Obj := ⟨(.type "code"), none, .fields #[(.str (PySem.Str.ofString "Headers") 511), (.str (PySem.Str.ofString "Headers") 512), (.str (PySem.Str.ofString "/claim/cut.py") 513), (.int 55 0), (.int 0 0), (.int 0 0), (.int 0 0), (.int 0 0), (.ref 131), (.bool false), (.int 276 0), (.ref 132), .none, .none, .none, .none, (.int 514 0), (.int 55 0), (.str (PySem.Str.ofString "/claim/cut.py") 515)], #[]⟩
noncomputable def o134 (P : Params) : Obj := ⟨(.type "frame"), none, .plain, #[(some (.ref 133)), (some (.ref 3)), (some (.ref 130)), none, (some (.str (PySem.Str.ofString "cpy313.wsgiref.headers") 403)), none, (some (.ref 0))]⟩
noncomputable def o135 (P : Params) : Obj := ⟨(.type "tuple"), none, .seq #[.none] 0, #[]⟩
noncomputable def o136 (P : Params) : Obj := ⟨(.type "tuple"), none, .seq #[] 0, #[]⟩
noncomputable def o137 (P : Params) : Obj := ⟨.none, none, .fields #[], #[]⟩
noncomputable def o138 (P : Params) : Obj := ⟨(.type "tuple"), none, .seq #[(.str (PySem.Str.ofString "self") 524), (.str (PySem.Str.ofString "headers") 525), (.str (PySem.Str.ofString "k") 526), (.str (PySem.Str.ofString "v") 527)] 0, #[]⟩
noncomputable def o139 (P : Params) : Obj := ⟨(.type "tuple"), none, .seq #[] 0, #[]⟩
noncomputable def o140 (P : Params) : Obj := ⟨.none, none, .func { (fnOf (PySem.Str.ofString "__init__") (PySem.Str.ofString "Headers.__init__") (fArgs (stm2 14 0)) (fBody (stm2 14 0)) (fScope (stm2 14 0)) .none .none .none .none none .none .none : FuncData) with globals := 0, builtins := 0 }, #[]⟩
noncomputable def o141 (P : Params) : Obj := ⟨(.type "code"), none, .fields #[(.str (PySem.Str.ofString "__init__") 521), (.str (PySem.Str.ofString "Headers.__init__") 522), (.str (PySem.Str.ofString "/claim/cut.py") 523), (.int 57 0), (.int 2 0), (.int 0 0), (.int 0 0), (.int 3 0), (.ref 136), (.bool true), (.int 276 0), (.ref 137), .none, (.ref 138), (.ref 139), (.ref 140), (.int 528 0), (.int 57 0), (.str (PySem.Str.ofString "/claim/cut.py") 529)], #[]⟩
noncomputable def o142 (P : Params) : Obj := ⟨(.type "function"), none, .func (fnOf (PySem.Str.ofString "__init__") (PySem.Str.ofString "Headers.__init__") (fArgs (stm2 14 0)) (fBody (stm2 14 0)) (fScope (stm2 14 0)) (.ref 135) .none .none (.str (PySem.Str.ofString "cpy313.wsgiref.headers") 403) none (.ref 141) .none), #[]⟩
noncomputable def o143 (P : Params) : Obj := ⟨(.type "tuple"), none, .seq #[] 0, #[]⟩
noncomputable def o144 (P : Params) : Obj := ⟨.none, none, .fields #[], #[]⟩
noncomputable def o145 (P : Params) : Obj := ⟨(.type "tuple"), none, .seq #[(.str (PySem.Str.ofString "self") 534), (.str (PySem.Str.ofString "value") 535), (.str (PySem.Str.ofString "name") 536), (.str (PySem.Str.ofString "regex") 537)] 0, #[]⟩
noncomputable def o146 (P : Params) : Obj := ⟨(.type "tuple"), none, .seq #[] 0, #[]⟩
noncomputable def o147 (P : Params) : Obj := ⟨.none, none, .func { (fnOf (PySem.Str.ofString "_convert_string_type") (PySem.Str.ofString "Headers._convert_string_type") (fArgs (stm2 14 1)) (fBody (stm2 14 1)) (fScope (stm2 14 1)) .none .none .none .none none .none .none : FuncData) with globals := 0, builtins := 0 }, #[]⟩
noncomputable def o148 (P : Params) : Obj := ⟨(.type "code"), none, .fields #[(.str (PySem.Str.ofString "_convert_string_type") 531), (.str (PySem.Str.ofString "Headers._convert_string_type") 532), (.str (PySem.Str.ofString "/claim/cut.py") 533), (.int 67 0), (.int 2 0), (.int 0 0), (.int 1 0), (.int 3 0), (.ref 143), (.bool true), (.int 276 0), (.ref 144), .none, (.ref 145), (.ref 146), (.ref 147), (.int 538 0), (.int 67 0), (.str (PySem.Str.ofString "/claim/cut.py") 539)], #[]⟩
noncomputable def o149 (P : Params) : Obj := ⟨(.type "function"), none, .func (fnOf (PySem.Str.ofString "_convert_string_type") (PySem.Str.ofString "Headers._convert_string_type") (fArgs (stm2 14 1)) (fBody (stm2 14 1)) (fScope (stm2 14 1)) .none .none .none (.str (PySem.Str.ofString "cpy313.wsgiref.headers") 403) none (.ref 148) .none), #[]⟩
noncomputable def o150 (P : Params) : Obj := ⟨(.type "tuple"), none, .seq #[] 0, #[]⟩
noncomputable def o151 (P : Params) : Obj := ⟨.none, none, .fields #[], #[]⟩
noncomputable def o152 (P : Params) : Obj := ⟨(.type "tuple"), none, .seq #[(.str (PySem.Str.ofString "self") 544)] 0, #[]⟩
noncomputable def o153 (P : Params) : Obj := ⟨(.type "tuple"), none, .seq #[] 0, #[]⟩
noncomputable def o154 (P : Params) : Obj := ⟨.none, none, .func { (fnOf (PySem.Str.ofString "__len__") (PySem.Str.ofString "Headers.__len__") (fArgs (stm2 14 2)) (fBody (stm2 14 2)) (fScope (stm2 14 2)) .none .none .none .none none .none .none : FuncData) with globals := 0, builtins := 0 }, #[]⟩
noncomputable def o155 (P : Params) : Obj := ⟨(.type "code"), none, .fields #[(.str (PySem.Str.ofString "__len__") 541), (.str (PySem.Str.ofString "Headers.__len__") 542), (.str (PySem.Str.ofString "/claim/cut.py") 543), (.int 75 0), (.int 1 0), (.int 0 0), (.int 0 0), (.int 3 0), (.ref 150), (.bool true), (.int 276 0), (.ref 151), .none, (.ref 152), (.ref 153), (.ref 154), (.int 545 0), (.int 75 0), (.str (PySem.Str.ofString "/claim/cut.py") 546)], #[]⟩
noncomputable def o156 (P : Params) : Obj := ⟨(.type "function"), none, .func (fnOf (PySem.Str.ofString "__len__") (PySem.Str.ofString "Headers.__len__") (fArgs (stm2 14 2)) (fBody (stm2 14 2)) (fScope (stm2 14 2)) .none .none .none (.str (PySem.Str.ofString "cpy313.wsgiref.headers") 403) none (.ref 155) .none), #[]⟩
noncomputable def o157 (P : Params) : Obj := ⟨(.type "tuple"), none, .seq #[] 0, #[]⟩
noncomputable def o158 (P : Params) : Obj := ⟨.none, none, .fields #[], #[]⟩
noncomputable def o159 (P : Params) : Obj := ⟨(.type "tuple"), none, .seq #[(.str (PySem.Str.ofString "self") 551), (.str (PySem.Str.ofString "name") 552), (.str (PySem.Str.ofString "val") 553)] 0, #[]⟩
noncomputable def o160 (P : Params) : Obj := ⟨(.type "tuple"), none, .seq #[] 0, #[]⟩
noncomputable def o161 (P : Params) : Obj := ⟨.none, none, .func { (fnOf (PySem.Str.ofString "__setitem__") (PySem.Str.ofString "Headers.__setitem__") (fArgs (stm2 14 3)) (fBody (stm2 14 3)) (fScope (stm2 14 3)) .none .none .none .none none .none .none : FuncData) with globals := 0, builtins := 0 }, #[]⟩
noncomputable def o162 (P : Params) : Obj := ⟨(.type "code"), none, .fields #[(.str (PySem.Str.ofString "__setitem__") 548), (.str (PySem.Str.ofString "Headers.__setitem__") 549), (.str (PySem.Str.ofString "/claim/cut.py") 550), (.int 78 0), (.int 3 0), (.int 0 0), (.int 0 0), (.int 3 0), (.ref 157), (.bool true), (.int 276 0), (.ref 158), .none, (.ref 159), (.ref 160), (.ref 161), (.int 554 0), (.int 78 0), (.str (PySem.Str.ofString "/claim/cut.py") 555)], #[]⟩
noncomputable def o163 (P : Params) : Obj := ⟨(.type "function"), none, .func (fnOf (PySem.Str.ofString "__setitem__") (PySem.Str.ofString "Headers.__setitem__") (fArgs (stm2 14 3)) (fBody (stm2 14 3)) (fScope (stm2 14 3)) .none .none .none (.str (PySem.Str.ofString "cpy313.wsgiref.headers") 403) none (.ref 162) .none), #[]⟩
noncomputable def o164 (P : Params) : Obj := ⟨(.type "tuple"), none, .seq #[] 0, #[]⟩
noncomputable def o165 (P : Params) : Obj := ⟨.none, none, .fields #[], #[]⟩
noncomputable def o166 (P : Params) : Obj := ⟨.none, none, .func { (fnOf (PySem.Str.ofString "__delitem__") (PySem.Str.ofString "Headers.__delitem__") (fArgs (stm2 14 4)) (fBody (stm2 14 4)) (fScope (stm2 14 4)) .none .none .none .none none .none .none : FuncData) with globals := 0, builtins := 0 }, #[]⟩
noncomputable def o167 (P : Params) : Obj := ⟨(.type "code"), none, .fields #[(.str (PySem.Str.ofString "__delitem__") 557), (.str (PySem.Str.ofString "Headers.__delitem__") 558), (.str (PySem.Str.ofString "/claim/cut.py") 559), (.int 82 0), (.int 2 0), (.int 0 0), (.int 0 0), (.int 3 0), (.ref 164), (.bool true), (.int 276 0), (.ref 165), .none, .none, .none, (.ref 166), (.int 560 0), (.int 82 0), (.str (PySem.Str.ofString "/claim/cut.py") 561)], #[]⟩
noncomputable def o168 (P : Params) : Obj := ⟨(.type "function"), none, .func (fnOf (PySem.Str.ofString "__delitem__") (PySem.Str.ofString "Headers.__delitem__") (fArgs (stm2 14 4)) (fBody (stm2 14 4)) (fScope (stm2 14 4)) .none .none .none (.str (PySem.Str.ofString "cpy313.wsgiref.headers") 403) none (.ref 167) .none), #[]⟩
noncomputable def o169 (P : Params) : Obj := ⟨(.type "tuple"), none, .seq #[] 0, #[]⟩
noncomputable def o170 (P : Params) : Obj := ⟨.none, none, .fields #[], #[]⟩
noncomputable def o171 (P : Params) : Obj := ⟨(.type "tuple"), none, .seq #[(.str (PySem.Str.ofString "self") 566), (.str (PySem.Str.ofString "name") 567)] 0, #[]⟩
noncomputable def o172 (P : Params) : Obj := ⟨(.type "tuple"), none, .seq #[] 0, #[]⟩
noncomputable def o173 (P : Params) : Obj := ⟨.none, none, .func { (fnOf (PySem.Str.ofString "__getitem__") (PySem.Str.ofString "Headers.__getitem__") (fArgs (stm2 14 5)) (fBody (stm2 14 5)) (fScope (stm2 14 5)) .none .none .none .none none .none .none : FuncData) with globals := 0, builtins := 0 }, #[]⟩
noncomputable def o174 (P : Params) : Obj := ⟨(.type "code"), none, .fields #[(.str (PySem.Str.ofString "__getitem__") 563), (.str (PySem.Str.ofString "Headers.__getitem__") 564), (.str (PySem.Str.ofString "/claim/cut.py") 565), (.int 86 0), (.int 2 0), (.int 0 0), (.int 0 0), (.int 3 0), (.ref 169), (.bool true), (.int 276 0), (.ref 170), .none, (.ref 171), (.ref 172), (.ref 173), (.int 568 0), (.int 86 0), (.str (PySem.Str.ofString "/claim/cut.py") 569)], #[]⟩
noncomputable def o175 (P : Params) : Obj := ⟨(.type "function"), none, .func (fnOf (PySem.Str.ofString "__getitem__") (PySem.Str.ofString "Headers.__getitem__") (fArgs (stm2 14 5)) (fBody (stm2 14 5)) (fScope (stm2 14 5)) .none .none .none (.str (PySem.Str.ofString "cpy313.wsgiref.headers") 403) none (.ref 174) .none), #[]⟩
noncomputable def o176 (P : Params) : Obj := ⟨(.type "tuple"), none, .seq #[] 0, #[]⟩
noncomputable def o177 (P : Params) : Obj := ⟨.none, none, .fields #[], #[]⟩
noncomputable def o178 (P : Params) : Obj := ⟨(.type "tuple"), none, .seq #[(.str (PySem.Str.ofString "self") 574), (.str (PySem.Str.ofString "name") 575)] 0, #[]⟩
noncomputable def o179 (P : Params) : Obj := ⟨(.type "tuple"), none, .seq #[] 0, #[]⟩
noncomputable def o180 (P : Params) : Obj := ⟨.none, none, .func { (fnOf (PySem.Str.ofString "__contains__") (PySem.Str.ofString "Headers.__contains__") (fArgs (stm2 14 6)) (fBody (stm2 14 6)) (fScope (stm2 14 6)) .none .none .none .none none .none .none : FuncData) with globals := 0, builtins := 0 }, #[]⟩
noncomputable def o181 (P : Params) : Obj := ⟨(.type "code"), none, .fields #[(.str (PySem.Str.ofString "__contains__") 571), (.str (PySem.Str.ofString "Headers.__contains__") 572), (.str (PySem.Str.ofString "/claim/cut.py") 573), (.int 89 0), (.int 2 0), (.int 0 0), (.int 0 0), (.int 3 0), (.ref 176), (.bool true), (.int 276 0), (.ref 177), .none, (.ref 178), (.ref 179), (.ref 180), (.int 576 0), (.int 89 0), (.str (PySem.Str.ofString "/claim/cut.py") 577)], #[]⟩
noncomputable def o182 (P : Params) : Obj := ⟨(.type "function"), none, .func (fnOf (PySem.Str.ofString "__contains__") (PySem.Str.ofString "Headers.__contains__") (fArgs (stm2 14 6)) (fBody (stm2 14 6)) (fScope (stm2 14 6)) .none .none .none (.str (PySem.Str.ofString "cpy313.wsgiref.headers") 403) none (.ref 181) .none), #[]⟩
noncomputable def o183 (P : Params) : Obj := ⟨(.type "tuple"), none, .seq #[] 0, #[]⟩
noncomputable def o184 (P : Params) : Obj := ⟨.none, none, .fields #[], #[]⟩
noncomputable def o185 (P : Params) : Obj := ⟨.none, none, .func { (fnOf (PySem.Str.ofString "get_all") (PySem.Str.ofString "Headers.get_all") (fArgs (stm2 14 7)) (fBody (stm2 14 7)) (fScope (stm2 14 7)) .none .none .none .none none .none .none : FuncData) with globals := 0, builtins := 0 }, #[]⟩
noncomputable def o186 (P : Params) : Obj := ⟨(.type "code"), none, .fields #[(.str (PySem.Str.ofString "get_all") 579), (.str (PySem.Str.ofString "Headers.get_all") 580), (.str (PySem.Str.ofString "/claim/cut.py") 581), (.int 92 0), (.int 2 0), (.int 0 0), (.int 0 0), (.int 3 0), (.ref 183), (.bool true), (.int 276 0), (.ref 184), .none, .none, .none, (.ref 185), (.int 582 0), (.int 92 0), (.str (PySem.Str.ofString "/claim/cut.py") 583)], #[]⟩
noncomputable def o187 (P : Params) : Obj := ⟨(.type "function"), none, .func (fnOf (PySem.Str.ofString "get_all") (PySem.Str.ofString "Headers.get_all") (fArgs (stm2 14 7)) (fBody (stm2 14 7)) (fScope (stm2 14 7)) .none .none .none (.str (PySem.Str.ofString "cpy313.wsgiref.headers") 403) none (.ref 186) .none), #[]⟩
noncomputable def o188 (P : Params) : Obj := ⟨(.type "tuple"), none, .seq #[.none] 0, #[]⟩
noncomputable def o189 (P : Params) : Obj := ⟨(.type "tuple"), none, .seq #[] 0, #[]⟩
noncomputable def o190 (P : Params) : Obj := ⟨.none, none, .fields #[], #[]⟩
noncomputable def o191 (P : Params) : Obj := ⟨(.type "tuple"), none, .seq #[(.str (PySem.Str.ofString "self") 588), (.str (PySem.Str.ofString "name") 589), (.str (PySem.Str.ofString "default") 590), (.str (PySem.Str.ofString "k") 591), (.str (PySem.Str.ofString "v") 592)] 0, #[]⟩
noncomputable def o192 (P : Params) : Obj := ⟨(.type "tuple"), none, .seq #[] 0, #[]⟩
noncomputable def o193 (P : Params) : Obj := ⟨.none, none, .func { (fnOf (PySem.Str.ofString "get") (PySem.Str.ofString "Headers.get") (fArgs (stm2 14 8)) (fBody (stm2 14 8)) (fScope (stm2 14 8)) .none .none .none .none none .none .none : FuncData) with globals := 0, builtins := 0 }, #[]⟩
noncomputable def o194 (P : Params) : Obj := ⟨(.type "code"), none, .fields #[(.str (PySem.Str.ofString "get") 585), (.str (PySem.Str.ofString "Headers.get") 586), (.str (PySem.Str.ofString "/claim/cut.py") 587), (.int 96 0), (.int 3 0), (.int 0 0), (.int 0 0), (.int 3 0), (.ref 189), (.bool true), (.int 276 0), (.ref 190), .none, (.ref 191), (.ref 192), (.ref 193), (.int 593 0), (.int 96 0), (.str (PySem.Str.ofString "/claim/cut.py") 594)], #[]⟩
noncomputable def o195 (P : Params) : Obj := ⟨(.type "function"), none, .func (fnOf (PySem.Str.ofString "get") (PySem.Str.ofString "Headers.get") (fArgs (stm2 14 8)) (fBody (stm2 14 8)) (fScope (stm2 14 8)) (.ref 188) .none .none (.str (PySem.Str.ofString "cpy313.wsgiref.headers") 403) none (.ref 194) .none), #[]⟩
noncomputable def o196 (P : Params) : Obj := ⟨(.type "tuple"), none, .seq #[] 0, #[]⟩
noncomputable def o197 (P : Params) : Obj := ⟨.none, none, .fields #[], #[]⟩
noncomputable def o198 (P : Params) : Obj := ⟨.none, none, .func { (fnOf (PySem.Str.ofString "keys") (PySem.Str.ofString "Headers.keys") (fArgs (stm2 14 9)) (fBody (stm2 14 9)) (fScope (stm2 14 9)) .none .none .none .none none .none .none : FuncData) with globals := 0, builtins := 0 }, #[]⟩
noncomputable def o199 (P : Params) : Obj := ⟨(.type "code"), none, .fields #[(.str (PySem.Str.ofString "keys") 596), (.str (PySem.Str.ofString "Headers.keys") 597), (.str (PySem.Str.ofString "/claim/cut.py") 598), (.int 103 0), (.int 1 0), (.int 0 0), (.int 0 0), (.int 3 0), (.ref 196), (.bool true), (.int 276 0), (.ref 197), .none, .none, .none, (.ref 198), (.int 599 0), (.int 103 0), (.str (PySem.Str.ofString "/claim/cut.py") 600)], #[]⟩
noncomputable def o200 (P : Params) : Obj := ⟨(.type "function"), none, .func (fnOf (PySem.Str.ofString "keys") (PySem.Str.ofString "Headers.keys") (fArgs (stm2 14 9)) (fBody (stm2 14 9)) (fScope (stm2 14 9)) .none .none .none (.str (PySem.Str.ofString "cpy313.wsgiref.headers") 403) none (.ref 199) .none), #[]⟩
noncomputable def o201 (P : Params) : Obj := ⟨(.type "tuple"), none, .seq #[] 0, #[]⟩
noncomputable def o202 (P : Params) : Obj := ⟨.none, none, .fields #[], #[]⟩
noncomputable def o203 (P : Params) : Obj := ⟨.none, none, .func { (fnOf (PySem.Str.ofString "values") (PySem.Str.ofString "Headers.values") (fArgs (stm2 14 10)) (fBody (stm2 14 10)) (fScope (stm2 14 10)) .none .none .none .none none .none .none : FuncData) with globals := 0, builtins := 0 }, #[]⟩
noncomputable def o204 (P : Params) : Obj := ⟨(.type "code"), none, .fields #[(.str (PySem.Str.ofString "values") 602), (.str (PySem.Str.ofString "Headers.values") 603), (.str (PySem.Str.ofString "/claim/cut.py") 604), (.int 106 0), (.int 1 0), (.int 0 0), (.int 0 0), (.int 3 0), (.ref 201), (.bool true), (.int 276 0), (.ref 202), .none, .none, .none, (.ref 203), (.int 605 0), (.int 106 0), (.str (PySem.Str.ofString "/claim/cut.py") 606)], #[]⟩
noncomputable def o205 (P : Params) : Obj := ⟨(.type "function"), none, .func (fnOf (PySem.Str.ofString "values") (PySem.Str.ofString "Headers.values") (fArgs (stm2 14 10)) (fBody (stm2 14 10)) (fScope (stm2 14 10)) .none .none .none (.str (PySem.Str.ofString "cpy313.wsgiref.headers") 403) none (.ref 204) .none), #[]⟩
noncomputable def o206 (P : Params) : Obj := ⟨(.type "tuple"), none, .seq #[] 0, #[]⟩
noncomputable def o207 (P : Params) : Obj := ⟨.none, none, .fields #[], #[]⟩
noncomputable def o208 (P : Params) : Obj := ⟨(.type "tuple"), none, .seq #[(.str (PySem.Str.ofString "self") 611)] 0, #[]⟩
noncomputable def o209 (P : Params) : Obj := ⟨(.type "tuple"), none, .seq #[] 0, #[]⟩
noncomputable def o210 (P : Params) : Obj := ⟨.none, none, .func { (fnOf (PySem.Str.ofString "items") (PySem.Str.ofString "Headers.items") (fArgs (stm2 14 11)) (fBody (stm2 14 11)) (fScope (stm2 14 11)) .none .none .none .none none .none .none : FuncData) with globals := 0, builtins := 0 }, #[]⟩
noncomputable def o211 (P : Params) : Obj := ⟨(.type "code"), none, .fields #[(.str (PySem.Str.ofString "items") 608), (.str (PySem.Str.ofString "Headers.items") 609), (.str (PySem.Str.ofString "/claim/cut.py") 610), (.int 109 0), (.int 1 0), (.int 0 0), (.int 0 0), (.int 3 0), (.ref 206), (.bool true), (.int 276 0), (.ref 207), .none, (.ref 208), (.ref 209), (.ref 210), (.int 612 0), (.int 109 0), (.str (PySem.Str.ofString "/claim/cut.py") 613)], #[]⟩
noncomputable def o212 (P : Params) : Obj := ⟨(.type "function"), none, .func (fnOf (PySem.Str.ofString "items") (PySem.Str.ofString "Headers.items") (fArgs (stm2 14 11)) (fBody (stm2 14 11)) (fScope (stm2 14 11)) .none .none .none (.str (PySem.Str.ofString "cpy313.wsgiref.headers") 403) none (.ref 211) .none), #[]⟩
noncomputable def o213 (P : Params) : Obj := ⟨(.type "tuple"), none, .seq #[] 0, #[]⟩
noncomputable def o214 (P : Params) : Obj := ⟨.none, none, .fields #[], #[]⟩
noncomputable def o215 (P : Params) : Obj := ⟨(.type "tuple"), none, .seq #[(.str (PySem.Str.ofString "self") 618)] 0, #[]⟩
noncomputable def o216 (P : Params) : Obj := ⟨(.type "tuple"), none, .seq #[] 0, #[]⟩
noncomputable def o217 (P : Params) : Obj := ⟨.none, none, .func { (fnOf (PySem.Str.ofString "__repr__") (PySem.Str.ofString "Headers.__repr__") (fArgs (stm2 14 12)) (fBody (stm2 14 12)) (fScope (stm2 14 12)) .none .none .none .none none .none .none : FuncData) with globals := 0, builtins := 0 }, #[]⟩
noncomputable def o218 (P : Params) : Obj := ⟨(.type "code"), none, .fields #[(.str (PySem.Str.ofString "__repr__") 615), (.str (PySem.Str.ofString "Headers.__repr__") 616), (.str (PySem.Str.ofString "/claim/cut.py") 617), (.int 112 0), (.int 1 0), (.int 0 0), (.int 0 0), (.int 3 0), (.ref 213), (.bool true), (.int 276 0), (.ref 214), .none, (.ref 215), (.ref 216), (.ref 217), (.int 619 0), (.int 112 0), (.str (PySem.Str.ofString "/claim/cut.py") 620)], #[]⟩
noncomputable def o219 (P : Params) : Obj := ⟨(.type "function"), none, .func (fnOf (PySem.Str.ofString "__repr__") (PySem.Str.ofString "Headers.__repr__") (fArgs (stm2 14 12)) (fBody (stm2 14 12)) (fScope (stm2 14 12)) .none .none .none (.str (PySem.Str.ofString "cpy313.wsgiref.headers") 403) none (.ref 218) .none), #[]⟩
noncomputable def o220 (P : Params) : Obj := ⟨(.type "tuple"), none, .seq #[] 0, #[]⟩
noncomputable def o221 (P : Params) : Obj := ⟨.none, none, .fields #[], #[]⟩
noncomputable def o222 (P : Params) : Obj := ⟨.none, none, .func { (fnOf (PySem.Str.ofString "__str__") (PySem.Str.ofString "Headers.__str__") (fArgs (stm2 14 13)) (fBody (stm2 14 13)) (fScope (stm2 14 13)) .none .none .none .none none .none .none : FuncData) with globals := 0, builtins := 0 }, #[]⟩
noncomputable def o223 (P : Params) : Obj := ⟨(.type "code"), none, .fields #[(.str (PySem.Str.ofString "__str__") 622), (.str (PySem.Str.ofString "Headers.__str__") 623), (.str (PySem.Str.ofString "/claim/cut.py") 624), (.int 115 0), (.int 1 0), (.int 0 0), (.int 0 0), (.int 3 0), (.ref 220), (.bool true), (.int 276 0), (.ref 221), .none, .none, .none, (.ref 222), (.int 625 0), (.int 115 0), (.str (PySem.Str.ofString "/claim/cut.py") 626)], #[]⟩
noncomputable def o224 (P : Params) : Obj := ⟨(.type "function"), none, .func (fnOf (PySem.Str.ofString "__str__") (PySem.Str.ofString "Headers.__str__") (fArgs (stm2 14 13)) (fBody (stm2 14 13)) (fScope (stm2 14 13)) .none .none .none (.str (PySem.Str.ofString "cpy313.wsgiref.headers") 403) none (.ref 223) .none), #[]⟩
noncomputable def o225 (P : Params) : Obj := ⟨(.type "tuple"), none, .seq #[] 0, #[]⟩
noncomputable def o226 (P : Params) : Obj := ⟨.none, none, .fields #[], #[]⟩
noncomputable def o227 (P : Params) : Obj := ⟨(.type "tuple"), none, .seq #[(.str (PySem.Str.ofString "self") 631)] 0, #[]⟩
noncomputable def o228 (P : Params) : Obj := ⟨(.type "tuple"), none, .seq #[] 0, #[]⟩
noncomputable def o229 (P : Params) : Obj := ⟨.none, none, .func { (fnOf (PySem.Str.ofString "__bytes__") (PySem.Str.ofString "Headers.__bytes__") (fArgs (stm2 14 14)) (fBody (stm2 14 14)) (fScope (stm2 14 14)) .none .none .none .none none .none .none : FuncData) with globals := 0, builtins := 0 }, #[]⟩
noncomputable def o230 (P : Params) : Obj := ⟨(.type "code"), none, .fields #[(.str (PySem.Str.ofString "__bytes__") 628), (.str (PySem.Str.ofString "Headers.__bytes__") 629), (.str (PySem.Str.ofString "/claim/cut.py") 630), (.int 118 0), (.int 1 0), (.int 0 0), (.int 0 0), (.int 3 0), (.ref 225), (.bool true), (.int 276 0), (.ref 226), .none, (.ref 227), (.ref 228), (.ref 229), (.int 632 0), (.int 118 0), (.str (PySem.Str.ofString "/claim/cut.py") 633)], #[]⟩
noncomputable def o231 (P : Params) : Obj := ⟨(.type "function"), none, .func (fnOf (PySem.Str.ofString "__bytes__") (PySem.Str.ofString "Headers.__bytes__") (fArgs (stm2 14 14)) (fBody (stm2 14 14)) (fScope (stm2 14 14)) .none .none .none (.str (PySem.Str.ofString "cpy313.wsgiref.headers") 403) none (.ref 230) .none), #[]⟩
noncomputable def o232 (P : Params) : Obj := ⟨(.type "tuple"), none, .seq #[] 0, #[]⟩
noncomputable def o233 (P : Params) : Obj := ⟨.none, none, .fields #[], #[]⟩
noncomputable def o234 (P : Params) : Obj := ⟨(.type "tuple"), none, .seq #[(.str (PySem.Str.ofString "self") 638), (.str (PySem.Str.ofString "name") 639), (.str (PySem.Str.ofString "value") 640)] 0, #[]⟩
noncomputable def o235 (P : Params) : Obj := ⟨(.type "tuple"), none, .seq #[] 0, #[]⟩
noncomputable def o236 (P : Params) : Obj := ⟨.none, none, .func { (fnOf (PySem.Str.ofString "setdefault") (PySem.Str.ofString "Headers.setdefault") (fArgs (stm2 14 15)) (fBody (stm2 14 15)) (fScope (stm2 14 15)) .none .none .none .none none .none .none : FuncData) with globals := 0, builtins := 0 }, #[]⟩
noncomputable def o237 (P : Params) : Obj := ⟨(.type "code"), none, .fields #[(.str (PySem.Str.ofString "setdefault") 635), (.str (PySem.Str.ofString "Headers.setdefault") 636), (.str (PySem.Str.ofString "/claim/cut.py") 637), (.int 121 0), (.int 3 0), (.int 0 0), (.int 0 0), (.int 3 0), (.ref 232), (.bool true), (.int 276 0), (.ref 233), .none, (.ref 234), (.ref 235), (.ref 236), (.int 641 0), (.int 121 0), (.str (PySem.Str.ofString "/claim/cut.py") 642)], #[]⟩
noncomputable def o238 (P : Params) : Obj := ⟨(.type "function"), none, .func (fnOf (PySem.Str.ofString "setdefault") (PySem.Str.ofString "Headers.setdefault") (fArgs (stm2 14 15)) (fBody (stm2 14 15)) (fScope (stm2 14 15)) .none .none .none (.str (PySem.Str.ofString "cpy313.wsgiref.headers") 403) none (.ref 237) .none), #[]⟩
noncomputable def o239 (P : Params) : Obj := ⟨(.type "tuple"), none, .seq #[] 0, #[]⟩
noncomputable def o240 (P : Params) : Obj := ⟨.none, none, .fields #[], #[]⟩
noncomputable def o241 (P : Params) : Obj := ⟨(.type "tuple"), none, .seq #[(.str (PySem.Str.ofString "self") 647), (.str (PySem.Str.ofString "_name") 648), (.str (PySem.Str.ofString "_value") 649), (.str (PySem.Str.ofString "_params") 650), (.str (PySem.Str.ofString "parts") 651), (.str (PySem.Str.ofString "k") 652), (.str (PySem.Str.ofString "v") 653)] 0, #[]⟩
noncomputable def o242 (P : Params) : Obj := ⟨(.type "tuple"), none, .seq #[] 0, #[]⟩
noncomputable def o243 (P : Params) : Obj := ⟨.none, none, .func { (fnOf (PySem.Str.ofString "add_header") (PySem.Str.ofString "Headers.add_header") (fArgs (stm2 14 16)) (fBody (stm2 14 16)) (fScope (stm2 14 16)) .none .none .none .none none .none .none : FuncData) with globals := 0, builtins := 0 }, #[]⟩
noncomputable def o244 (P : Params) : Obj := ⟨(.type "code"), none, .fields #[(.str (PySem.Str.ofString "add_header") 644), (.str (PySem.Str.ofString "Headers.add_header") 645), (.str (PySem.Str.ofString "/claim/cut.py") 646), (.int 124 0), (.int 3 0), (.int 0 0), (.int 0 0), (.int 11 0), (.ref 239), (.bool true), (.int 276 0), (.ref 240), .none, (.ref 241), (.ref 242), (.ref 243), (.int 654 0), (.int 124 0), (.str (PySem.Str.ofString "/claim/cut.py") 655)], #[]⟩
noncomputable def o245 (P : Params) : Obj := ⟨(.type "function"), none, .func (fnOf (PySem.Str.ofString "add_header") (PySem.Str.ofString "Headers.add_header") (fArgs (stm2 14 16)) (fBody (stm2 14 16)) (fScope (stm2 14 16)) .none .none .none (.str (PySem.Str.ofString "cpy313.wsgiref.headers") 403) none (.ref 244) .none), #[]⟩
noncomputable def o246 (P : Params) : Obj := ⟨(.type "tuple"), none, .seq #[(.str (PySem.Str.ofString "_headers") 657)] 0, #[]⟩
noncomputable def o247 (P : Params) : Obj := ⟨(.type "dict"), none, .dict #[⟨PyData.keyHash P (PySem.Str.ofString "__module__"), (.str (PySem.Str.ofString "__module__") 516), (.str (PySem.Str.ofString "cpy313.wsgiref.headers") 403)⟩, ⟨PyData.keyHash P (PySem.Str.ofString "__firstlineno__"), (.str (PySem.Str.ofString "__firstlineno__") 520), (.int 55 519)⟩, ⟨PyData.keyHash P (PySem.Str.ofString "__init__"), (.str (PySem.Str.ofString "__init__") 530), (.ref 142)⟩, ⟨PyData.keyHash P (PySem.Str.ofString "_convert_string_type"), (.str (PySem.Str.ofString "_convert_string_type") 540), (.ref 149)⟩, ⟨PyData.keyHash P (PySem.Str.ofString "__len__"), (.str (PySem.Str.ofString "__len__") 547), (.ref 156)⟩, ⟨PyData.keyHash P (PySem.Str.ofString "__setitem__"), (.str (PySem.Str.ofString "__setitem__") 556), (.ref 163)⟩, ⟨PyData.keyHash P (PySem.Str.ofString "__delitem__"), (.str (PySem.Str.ofString "__delitem__") 562), (.ref 168)⟩, ⟨PyData.keyHash P (PySem.Str.ofString "__getitem__"), (.str (PySem.Str.ofString "__getitem__") 570), (.ref 175)⟩, ⟨PyData.keyHash P (PySem.Str.ofString "__contains__"), (.str (PySem.Str.ofString "__contains__") 578), (.ref 182)⟩, ⟨PyData.keyHash P (PySem.Str.ofString "get_all"), (.str (PySem.Str.ofString "get_all") 584), (.ref 187)⟩, ⟨PyData.keyHash P (PySem.Str.ofString "get"), (.str (PySem.Str.ofString "get") 595), (.ref 195)⟩, ⟨PyData.keyHash P (PySem.Str.ofString "keys"), (.str (PySem.Str.ofString "keys") 601), (.ref 200)⟩, ⟨PyData.keyHash P (PySem.Str.ofString "values"), (.str (PySem.Str.ofString "values") 607), (.ref 205)⟩, ⟨PyData.keyHash P (PySem.Str.ofString "items"), (.str (PySem.Str.ofString "items") 614), (.ref 212)⟩, ⟨PyData.keyHash P (PySem.Str.ofString "__repr__"), (.str (PySem.Str.ofString "__repr__") 621), (.ref 219)⟩, ⟨PyData.keyHash P (PySem.Str.ofString "__str__"), (.str (PySem.Str.ofString "__str__") 627), (.ref 224)⟩, ⟨PyData.keyHash P (PySem.Str.ofString "__bytes__"), (.str (PySem.Str.ofString "__bytes__") 634), (.ref 231)⟩, ⟨PyData.keyHash P (PySem.Str.ofString "setdefault"), (.str (PySem.Str.ofString "setdefault") 643), (.ref 238)⟩, ⟨PyData.keyHash P (PySem.Str.ofString "add_header"), (.str (PySem.Str.ofString "add_header") 656), (.ref 245)⟩, ⟨PyData.keyHash P (PySem.Str.ofString "__static_attributes__"), (.str (PySem.Str.ofString "__static_attributes__") 658), (.ref 246)⟩, ⟨PyData.keyHash P (PySem.Str.ofString "__dict__"), (.str (PySem.Str.ofString "__dict__") 660), (.ref 249)⟩, ⟨PyData.keyHash P (PySem.Str.ofString "__weakref__"), (.str (PySem.Str.ofString "__weakref__") 662), (.ref 250)⟩, ⟨PyData.keyHash P (PySem.Str.ofString "__doc__"), (.str (PySem.Str.ofString "__doc__") 663), .none⟩] 4, #[]⟩
noncomputable def o248 (P : Params) : Obj := ⟨(.type "type"), none, .cls ⟨(PySem.Str.ofString "Headers"), [(.type "object")], [(.ref 248), (.type "object")], 247, (PySem.Str.ofString "Headers"), true, [], [], false, none, false⟩, #[none, none, (some (.str (PySem.Str.ofString "Headers") 509)), (some (.str (PySem.Str.ofString "Headers") 517)), (some (.builtin "object.__new__")), (some (.bool true))]⟩
noncomputable def o249 (P : Params) : Obj := ⟨(.type "getset_descriptor"), none, .fields #[(.str (PySem.Str.ofString "__dict__") 659), (.ref 248), (.builtin "function.__dict__"), (.builtin "function.__dict__#set")], #[]⟩
noncomputable def o250 (P : Params) : Obj := ⟨(.type "getset_descriptor"), none, .fields #[(.str (PySem.Str.ofString "__weakref__") 661), (.ref 248), (.builtin "ExceptionGroup.__weakref__"), .none], #[]⟩
noncomputable def o251 (P : Params) : Obj := ⟨(.type "super"), none, .fields #[(.ref 248), (.ref 248), (.ref 248)], #[]⟩
noncomputable def o252 (P : Params) : Obj := ⟨(.type "builtin_function_or_method"), none, .fields #[(.builtin "object.__init_subclass__"), (.ref 248)], #[]⟩
noncomputable def o253 (P : Params) : Obj := ⟨(.type "tuple"), none, .seq #[] 0, #[]⟩
noncomputable def o254 (P : Params) : Obj := ⟨.none, none, .fields #[], #[]⟩
noncomputable def o255 (P : Params) : Obj := ⟨.none, none, .func { (fnOf (PySem.Str.ofString "_law_written") (PySem.Str.ofString "_law_written") (fArgs (stm 16)) (fBody (stm 16)) (fScope (stm 16)) .none .none .none .none none .none .none : FuncData) with globals := 0, builtins := 0 }, #[]⟩
noncomputable def o256 (P : Params) : Obj := ⟨(.type "code"), none, .fields #[(.str (PySem.Str.ofString "_law_written") 668), (.str (PySem.Str.ofString "_law_written") 669), (.str (PySem.Str.ofString "/claim/cut.py") 670), (.int 138 0), (.int 4 0), (.int 0 0), (.int 0 0), (.int 3 0), (.ref 253), (.bool true), (.int 276 0), (.ref 254), .none, .none, .none, (.ref 255), (.int 671 0), (.int 138 0), (.str (PySem.Str.ofString "/claim/cut.py") 672)], #[]⟩
noncomputable def o257 (P : Params) : Obj := ⟨(.type "function"), none, .func (fnOf (PySem.Str.ofString "_law_written") (PySem.Str.ofString "_law_written") (fArgs (stm 16)) (fBody (stm 16)) (fScope (stm 16)) .none .none .none (.str (PySem.Str.ofString "law_zd0013_01") 666) none (.ref 256) .none), #[]⟩
noncomputable def o258 (P : Params) : Obj := ⟨(.type "tuple"), none, .seq #[] 0, #[]⟩
noncomputable def o259 (P : Params) : Obj := ⟨.none, none, .fields #[], #[]⟩
noncomputable def o260 (P : Params) : Obj := ⟨(.type "tuple"), none, .seq #[(.str (PySem.Str.ofString "text") 677), (.str (PySem.Str.ofString "head") 678), (.str (PySem.Str.ofString "still_open") 679), (.str (PySem.Str.ofString "seen") 680), (.str (PySem.Str.ofString "sign") 681), (.str (PySem.Str.ofString "inside") 682), (.str (PySem.Str.ofString "part") 683), (.str (PySem.Str.ofString "above") 684)] 0, #[]⟩
noncomputable def o261 (P : Params) : Obj := ⟨(.type "tuple"), none, .seq #[] 0, #[]⟩
noncomputable def o262 (P : Params) : Obj := ⟨.none, none, .func { (fnOf (PySem.Str.ofString "_law_filed") (PySem.Str.ofString "_law_filed") (fArgs (stm 17)) (fBody (stm 17)) (fScope (stm 17)) .none .none .none .none none .none .none : FuncData) with globals := 0, builtins := 0 }, #[]⟩
noncomputable def o263 (P : Params) : Obj := ⟨(.type "code"), none, .fields #[(.str (PySem.Str.ofString "_law_filed") 674), (.str (PySem.Str.ofString "_law_filed") 675), (.str (PySem.Str.ofString "/claim/cut.py") 676), (.int 154 0), (.int 1 0), (.int 0 0), (.int 0 0), (.int 3 0), (.ref 258), (.bool true), (.int 276 0), (.ref 259), .none, (.ref 260), (.ref 261), (.ref 262), (.int 685 0), (.int 154 0), (.str (PySem.Str.ofString "/claim/cut.py") 686)], #[]⟩
noncomputable def o264 (P : Params) : Obj := ⟨(.type "function"), none, .func (fnOf (PySem.Str.ofString "_law_filed") (PySem.Str.ofString "_law_filed") (fArgs (stm 17)) (fBody (stm 17)) (fScope (stm 17)) .none .none .none (.str (PySem.Str.ofString "law_zd0013_01") 666) none (.ref 263) .none), #[]⟩
noncomputable def o265 (P : Params) : Obj := ⟨(.type "tuple"), none, .seq #[] 0, #[]⟩
noncomputable def o266 (P : Params) : Obj := ⟨.none, none, .fields #[], #[]⟩
noncomputable def o267 (P : Params) : Obj := ⟨.none, none, .func { (fnOf (PySem.Str.ofString "_law_table") (PySem.Str.ofString "_law_table") (fArgs (stm 18)) (fBody (stm 18)) (fScope (stm 18)) .none .none .none .none none .none .none : FuncData) with globals := 0, builtins := 0 }, #[]⟩
noncomputable def o268 (P : Params) : Obj := ⟨(.type "code"), none, .fields #[(.str (PySem.Str.ofString "_law_table") 688), (.str (PySem.Str.ofString "_law_table") 689), (.str (PySem.Str.ofString "/claim/cut.py") 690), (.int 175 0), (.int 2 0), (.int 0 0), (.int 0 0), (.int 3 0), (.ref 265), (.bool true), (.int 276 0), (.ref 266), .none, .none, .none, (.ref 267), (.int 691 0), (.int 175 0), (.str (PySem.Str.ofString "/claim/cut.py") 692)], #[]⟩
noncomputable def o269 (P : Params) : Obj := ⟨(.type "function"), none, .func (fnOf (PySem.Str.ofString "_law_table") (PySem.Str.ofString "_law_table") (fArgs (stm 18)) (fBody (stm 18)) (fScope (stm 18)) .none .none .none (.str (PySem.Str.ofString "law_zd0013_01") 666) none (.ref 268) .none), #[]⟩
noncomputable def o270 (P : Params) : Obj := ⟨(.type "tuple"), none, .seq #[] 0, #[]⟩
noncomputable def o271 (P : Params) : Obj := ⟨.none, none, .fields #[], #[]⟩
noncomputable def o272 (P : Params) : Obj := ⟨(.type "tuple"), none, .seq #[(.str (PySem.Str.ofString "ups") 697), (.str (PySem.Str.ofString "choices") 698), (.str (PySem.Str.ofString "k") 699), (.str (PySem.Str.ofString "longer") 700), (.str (PySem.Str.ofString "kept") 701), (.str (PySem.Str.ofString "cut") 702), (.str (PySem.Str.ofString "counts") 703), (.str (PySem.Str.ofString "key") 704)] 0, #[]⟩
noncomputable def o273 (P : Params) : Obj := ⟨(.type "tuple"), none, .seq #[] 0, #[]⟩
noncomputable def o274 (P : Params) : Obj := ⟨.none, none, .func { (fnOf (PySem.Str.ofString "_law_prunings") (PySem.Str.ofString "_law_prunings") (fArgs (stm 19)) (fBody (stm 19)) (fScope (stm 19)) .none .none .none .none none .none .none : FuncData) with globals := 0, builtins := 0 }, #[]⟩
noncomputable def o275 (P : Params) : Obj := ⟨(.type "code"), none, .fields #[(.str (PySem.Str.ofString "_law_prunings") 694), (.str (PySem.Str.ofString "_law_prunings") 695), (.str (PySem.Str.ofString "/claim/cut.py") 696), (.int 184 0), (.int 1 0), (.int 0 0), (.int 0 0), (.int 3 0), (.ref 270), (.bool true), (.int 276 0), (.ref 271), .none, (.ref 272), (.ref 273), (.ref 274), (.int 705 0), (.int 184 0), (.str (PySem.Str.ofString "/claim/cut.py") 706)], #[]⟩
noncomputable def o276 (P : Params) : Obj := ⟨(.type "function"), none, .func (fnOf (PySem.Str.ofString "_law_prunings") (PySem.Str.ofString "_law_prunings") (fArgs (stm 19)) (fBody (stm 19)) (fScope (stm 19)) .none .none .none (.str (PySem.Str.ofString "law_zd0013_01") 666) none (.ref 275) .none), #[]⟩
noncomputable def o277 (P : Params) : Obj := ⟨(.type "tuple"), none, .seq #[] 0, #[]⟩
noncomputable def o278 (P : Params) : Obj := ⟨.none, none, .fields #[], #[]⟩
noncomputable def o279 (P : Params) : Obj := ⟨(.type "tuple"), none, .seq #[(.str (PySem.Str.ofString "ups") 711), (.str (PySem.Str.ofString "forms") 712), (.str (PySem.Str.ofString "k") 713)] 0, #[]⟩
noncomputable def o280 (P : Params) : Obj := ⟨(.type "tuple"), none, .seq #[] 0, #[]⟩
noncomputable def o281 (P : Params) : Obj := ⟨.none, none, .func { (fnOf (PySem.Str.ofString "_law_form") (PySem.Str.ofString "_law_form") (fArgs (stm 20)) (fBody (stm 20)) (fScope (stm 20)) .none .none .none .none none .none .none : FuncData) with globals := 0, builtins := 0 }, #[]⟩
noncomputable def o282 (P : Params) : Obj := ⟨(.type "code"), none, .fields #[(.str (PySem.Str.ofString "_law_form") 708), (.str (PySem.Str.ofString "_law_form") 709), (.str (PySem.Str.ofString "/claim/cut.py") 710), (.int 200 0), (.int 1 0), (.int 0 0), (.int 0 0), (.int 3 0), (.ref 277), (.bool true), (.int 276 0), (.ref 278), .none, (.ref 279), (.ref 280), (.ref 281), (.int 714 0), (.int 200 0), (.str (PySem.Str.ofString "/claim/cut.py") 715)], #[]⟩
noncomputable def o283 (P : Params) : Obj := ⟨(.type "function"), none, .func (fnOf (PySem.Str.ofString "_law_form") (PySem.Str.ofString "_law_form") (fArgs (stm 20)) (fBody (stm 20)) (fScope (stm 20)) .none .none .none (.str (PySem.Str.ofString "law_zd0013_01") 666) none (.ref 282) .none), #[]⟩
noncomputable def o284 (P : Params) : Obj := ⟨(.type "tuple"), none, .seq #[] 0, #[]⟩
noncomputable def o285 (P : Params) : Obj := ⟨.none, none, .fields #[], #[]⟩
noncomputable def o286 (P : Params) : Obj := ⟨.none, none, .func { (fnOf (PySem.Str.ofString "law") (PySem.Str.ofString "law") (fArgs (stm 21)) (fBody (stm 21)) (fScope (stm 21)) .none .none .none .none none .none .none : FuncData) with globals := 0, builtins := 0 }, #[]⟩
noncomputable def o287 (P : Params) : Obj := ⟨(.type "code"), none, .fields #[(.str (PySem.Str.ofString "law") 717), (.str (PySem.Str.ofString "law") 718), (.str (PySem.Str.ofString "/claim/cut.py") 719), (.int 205 0), (.int 1 0), (.int 0 0), (.int 0 0), (.int 3 0), (.ref 284), (.bool true), (.int 276 0), (.ref 285), .none, .none, .none, (.ref 286), (.int 720 0), (.int 205 0), (.str (PySem.Str.ofString "/claim/cut.py") 721)], #[]⟩
noncomputable def o288 (P : Params) : Obj := ⟨(.type "function"), none, .func (fnOf (PySem.Str.ofString "law") (PySem.Str.ofString "law") (fArgs (stm 21)) (fBody (stm 21)) (fScope (stm 21)) .none .none .none (.str (PySem.Str.ofString "law_zd0013_01") 666) none (.ref 287) .none), #[]⟩
noncomputable def h3S0 (P : Params) : Obj := ⟨(.type "dict"), none, .dict #[⟨PyData.keyHash P (PySem.Str.ofString "__name__"), (.str (PySem.Str.ofString "__name__") 165), (.str (PySem.Str.ofString "__main__") 164)⟩, ⟨PyData.keyHash P (PySem.Str.ofString "__doc__"), (.str (PySem.Str.ofString "__doc__") 166), .none⟩, ⟨PyData.keyHash P (PySem.Str.ofString "__package__"), (.str (PySem.Str.ofString "__package__") 167), .none⟩, ⟨PyData.keyHash P (PySem.Str.ofString "__loader__"), (.str (PySem.Str.ofString "__loader__") 168), (.builtin "__main__.__loader__#opaque")⟩, ⟨PyData.keyHash P (PySem.Str.ofString "__spec__"), (.str (PySem.Str.ofString "__spec__") 169), .none⟩, ⟨PyData.keyHash P (PySem.Str.ofString "__annotations__"), (.str (PySem.Str.ofString "__annotations__") 170), (.ref 6)⟩, ⟨PyData.keyHash P (PySem.Str.ofString "__builtins__"), (.str (PySem.Str.ofString "__builtins__") 171), (.ref 4)⟩, ⟨PyData.keyHash P (PySem.Str.ofString "__file__"), (.str (PySem.Str.ofString "__file__") 173), (.str (PySem.Str.ofString "/claim/cut.py") 172)⟩, ⟨PyData.keyHash P (PySem.Str.ofString "__cached__"), (.str (PySem.Str.ofString "__cached__") 174), .none⟩, ⟨PyData.keyHash P (PySem.Str.ofString "_sre"), (.str (PySem.Str.ofString "_sre") 275), (.ref 12)⟩] 10, #[]⟩
noncomputable def lifeS0 : Life := ⟨[], [], [], 0, [], [], false, #[], [], 0, false, false, false, 0, [2000, 10, 10], false, 0, true, [], [], 0, false⟩
noncomputable def gensS0 : Array GenState := #[]
noncomputable def drawnS0 : Drawn := ⟨0, 0, 0, 0⟩
noncomputable def toksS0 : Nat := 276
noncomputable def sizeS0 : Nat := 28
noncomputable def heapS0 (P : Params) : Heap := ⟨⟨o0 P :: o1 P :: o2 P :: h3S0 P :: o4 P :: o5 P :: o6 P :: o7 P :: o8 P :: o9 P :: o10 P :: o11 P :: o12 P :: o13 P :: o14 P :: o15 P :: o16 P :: o17 P :: o18 P :: o19 P :: o20 P :: o21 P :: o22 P :: o23 P :: o24 P :: o25 P :: o26 P :: o27 P :: []⟩, lifeS0⟩
noncomputable def h29Sa (P : Params) : Obj := ⟨.none, none, .fields #[], #[]⟩
noncomputable def lifeSa : Life := ⟨[], [], [], 0, [], [], false, #[], [], 0, false, false, false, 0, [2000, 10, 10], false, 0, true, [], [], 0, false⟩
noncomputable def gensSa : Array GenState := #[]
noncomputable def drawnSa : Drawn := ⟨0, 0, 0, 0⟩
noncomputable def toksSa : Nat := 282
noncomputable def sizeSa : Nat := 32
noncomputable def heapSa (P : Params) : Heap := ⟨⟨o0 P :: o1 P :: o2 P :: h3S0 P :: o4 P :: o5 P :: o6 P :: o7 P :: o8 P :: o9 P :: o10 P :: o11 P :: o12 P :: o13 P :: o14 P :: o15 P :: o16 P :: o17 P :: o18 P :: o19 P :: o20 P :: o21 P :: o22 P :: o23 P :: o24 P :: o25 P :: o26 P :: o27 P :: o28 P :: h29Sa P :: o30 P :: o31 P :: []⟩, lifeSa⟩
noncomputable def lifeSb : Life := ⟨[], [], [], 0, [], [], false, #[], [], 0, false, false, false, 0, [2000, 10, 10], false, 0, true, [], [], 0, false⟩
noncomputable def gensSb : Array GenState := #[]
noncomputable def drawnSb : Drawn := ⟨0, 0, 0, 0⟩
noncomputable def toksSb : Nat := 282
noncomputable def sizeSb : Nat := 32
noncomputable def tSb_15 (P : Params) : BT := (.node (o15 P) (.node (o31 P) .nil .nil) .nil)
noncomputable def tSb_23 (P : Params) : BT := (.node (o23 P) .nil .nil)
noncomputable def tSb_19 (P : Params) : BT := (.node (o19 P) .nil .nil)
noncomputable def tSb_27 (P : Params) : BT := (.node (o27 P) .nil .nil)
noncomputable def tSb_17 (P : Params) : BT := (.node (o17 P) .nil .nil)
noncomputable def tSb_25 (P : Params) : BT := (.node (o25 P) .nil .nil)
noncomputable def tSb_21 (P : Params) : BT := (.node (o21 P) .nil .nil)
noncomputable def tSb_29 (P : Params) : BT := (.node (h29Sa P) .nil .nil)
noncomputable def tSb_16 (P : Params) : BT := (.node (o16 P) .nil .nil)
noncomputable def tSb_24 (P : Params) : BT := (.node (o24 P) .nil .nil)
noncomputable def tSb_20 (P : Params) : BT := (.node (o20 P) .nil .nil)
noncomputable def tSb_28 (P : Params) : BT := (.node (o28 P) .nil .nil)
noncomputable def tSb_18 (P : Params) : BT := (.node (o18 P) .nil .nil)
noncomputable def tSb_26 (P : Params) : BT := (.node (o26 P) .nil .nil)
noncomputable def tSb_22 (P : Params) : BT := (.node (o22 P) .nil .nil)
noncomputable def tSb_30 (P : Params) : BT := (.node (o30 P) .nil .nil)
noncomputable def treeSb (P : Params) : BT := (.node (o0 P) (.node (o1 P) (.node (h3S0 P) (.node (o7 P) (tSb_15 P) (tSb_23 P)) (.node (o11 P) (tSb_19 P) (tSb_27 P))) (.node (o5 P) (.node (o9 P) (tSb_17 P) (tSb_25 P)) (.node (o13 P) (tSb_21 P) (tSb_29 P)))) (.node (o2 P) (.node (o4 P) (.node (o8 P) (tSb_16 P) (tSb_24 P)) (.node (o12 P) (tSb_20 P) (tSb_28 P))) (.node (o6 P) (.node (o10 P) (tSb_18 P) (tSb_26 P)) (.node (o14 P) (tSb_22 P) (tSb_30 P)))))
noncomputable def h3S1 (P : Params) : Obj := ⟨(.type "dict"), none, .dict #[⟨PyData.keyHash P (PySem.Str.ofString "__name__"), (.str (PySem.Str.ofString "__name__") 165), (.str (PySem.Str.ofString "cpy313.stringprep") 289)⟩, ⟨PyData.keyHash P (PySem.Str.ofString "__doc__"), (.str (PySem.Str.ofString "__doc__") 166), .none⟩, ⟨PyData.keyHash P (PySem.Str.ofString "__package__"), (.str (PySem.Str.ofString "__package__") 167), .none⟩, ⟨PyData.keyHash P (PySem.Str.ofString "__loader__"), (.str (PySem.Str.ofString "__loader__") 168), (.builtin "__main__.__loader__#opaque")⟩, ⟨PyData.keyHash P (PySem.Str.ofString "__spec__"), (.str (PySem.Str.ofString "__spec__") 169), .none⟩, ⟨PyData.keyHash P (PySem.Str.ofString "__annotations__"), (.str (PySem.Str.ofString "__annotations__") 170), (.ref 6)⟩, ⟨PyData.keyHash P (PySem.Str.ofString "__builtins__"), (.str (PySem.Str.ofString "__builtins__") 171), (.ref 4)⟩, ⟨PyData.keyHash P (PySem.Str.ofString "__file__"), (.str (PySem.Str.ofString "__file__") 173), (.str (PySem.Str.ofString "/claim/cut.py") 172)⟩, ⟨PyData.keyHash P (PySem.Str.ofString "__cached__"), (.str (PySem.Str.ofString "__cached__") 174), .none⟩, ⟨PyData.keyHash P (PySem.Str.ofString "_sre"), (.str (PySem.Str.ofString "_sre") 275), (.ref 12)⟩, ⟨PyData.keyHash P (PySem.Str.ofString "_wall"), (.str (PySem.Str.ofString "_wall") 288), (.ref 38)⟩] 11, #[]⟩
noncomputable def h29S1 (P : Params) : Obj := ⟨.none, none, .fields #[(.int 2 0), (.int 0 0), (.ref 37)], #[]⟩
noncomputable def lifeS1 : Life := ⟨[], [], [], 0, [], [], false, #[], [], 0, false, false, false, 0, [2000, 10, 10], false, 0, true, [], [], 0, false⟩
noncomputable def gensS1 : Array GenState := #[]
noncomputable def drawnS1 : Drawn := ⟨0, 0, 0, 0⟩
noncomputable def toksS1 : Nat := 291
noncomputable def sizeS1 : Nat := 39
noncomputable def tS1_15 (P : Params) : BT := (.node (o15 P) (.node (o31 P) .nil .nil) .nil)
noncomputable def tS1_23 (P : Params) : BT := (.node (o23 P) .nil .nil)
noncomputable def tS1_19 (P : Params) : BT := (.node (o19 P) (.node (o35 P) .nil .nil) .nil)
noncomputable def tS1_27 (P : Params) : BT := (.node (o27 P) .nil .nil)
noncomputable def tS1_17 (P : Params) : BT := (.node (o17 P) (.node (o33 P) .nil .nil) .nil)
noncomputable def tS1_25 (P : Params) : BT := (.node (o25 P) .nil .nil)
noncomputable def tS1_21 (P : Params) : BT := (.node (o21 P) (.node (o37 P) .nil .nil) .nil)
noncomputable def tS1_29 (P : Params) : BT := (.node (h29S1 P) .nil .nil)
noncomputable def tS1_16 (P : Params) : BT := (.node (o16 P) (.node (o32 P) .nil .nil) .nil)
noncomputable def tS1_24 (P : Params) : BT := (.node (o24 P) .nil .nil)
noncomputable def tS1_20 (P : Params) : BT := (.node (o20 P) (.node (o36 P) .nil .nil) .nil)
noncomputable def tS1_28 (P : Params) : BT := (.node (o28 P) .nil .nil)
noncomputable def tS1_18 (P : Params) : BT := (.node (o18 P) (.node (o34 P) .nil .nil) .nil)
noncomputable def tS1_26 (P : Params) : BT := (.node (o26 P) .nil .nil)
noncomputable def tS1_22 (P : Params) : BT := (.node (o22 P) (.node (o38 P) .nil .nil) .nil)
noncomputable def tS1_30 (P : Params) : BT := (.node (o30 P) .nil .nil)
noncomputable def treeS1 (P : Params) : BT := (.node (o0 P) (.node (o1 P) (.node (h3S1 P) (.node (o7 P) (tS1_15 P) (tS1_23 P)) (.node (o11 P) (tS1_19 P) (tS1_27 P))) (.node (o5 P) (.node (o9 P) (tS1_17 P) (tS1_25 P)) (.node (o13 P) (tS1_21 P) (tS1_29 P)))) (.node (o2 P) (.node (o4 P) (.node (o8 P) (tS1_16 P) (tS1_24 P)) (.node (o12 P) (tS1_20 P) (tS1_28 P))) (.node (o6 P) (.node (o10 P) (tS1_18 P) (tS1_26 P)) (.node (o14 P) (tS1_22 P) (tS1_30 P)))))
noncomputable def h3S2 (P : Params) : Obj := ⟨(.type "dict"), none, .dict #[⟨PyData.keyHash P (PySem.Str.ofString "__name__"), (.str (PySem.Str.ofString "__name__") 165), (.str (PySem.Str.ofString "cpy313.stringprep") 289)⟩, ⟨PyData.keyHash P (PySem.Str.ofString "__doc__"), (.str (PySem.Str.ofString "__doc__") 166), .none⟩, ⟨PyData.keyHash P (PySem.Str.ofString "__package__"), (.str (PySem.Str.ofString "__package__") 167), .none⟩, ⟨PyData.keyHash P (PySem.Str.ofString "__loader__"), (.str (PySem.Str.ofString "__loader__") 168), (.builtin "__main__.__loader__#opaque")⟩, ⟨PyData.keyHash P (PySem.Str.ofString "__spec__"), (.str (PySem.Str.ofString "__spec__") 169), .none⟩, ⟨PyData.keyHash P (PySem.Str.ofString "__annotations__"), (.str (PySem.Str.ofString "__annotations__") 170), (.ref 6)⟩, ⟨PyData.keyHash P (PySem.Str.ofString "__builtins__"), (.str (PySem.Str.ofString "__builtins__") 171), (.ref 4)⟩, ⟨PyData.keyHash P (PySem.Str.ofString "__file__"), (.str (PySem.Str.ofString "__file__") 173), (.str (PySem.Str.ofString "/claim/cut.py") 172)⟩, ⟨PyData.keyHash P (PySem.Str.ofString "__cached__"), (.str (PySem.Str.ofString "__cached__") 174), .none⟩, ⟨PyData.keyHash P (PySem.Str.ofString "_sre"), (.str (PySem.Str.ofString "_sre") 275), (.ref 12)⟩, ⟨PyData.keyHash P (PySem.Str.ofString "_wall"), (.str (PySem.Str.ofString "_wall") 288), (.ref 38)⟩, ⟨PyData.keyHash P (PySem.Str.ofString "c8_set"), (.str (PySem.Str.ofString "c8_set") 331), (.ref 52)⟩] 12, #[]⟩
noncomputable def lifeS2 : Life := ⟨[], [], [], 0, [], [], false, #[], [], 0, false, false, false, 0, [2000, 10, 10], false, 0, true, [], [], 0, false⟩
noncomputable def gensS2 : Array GenState := #[]
noncomputable def drawnS2 : Drawn := ⟨0, 0, 0, 0⟩
noncomputable def toksS2 : Nat := 332
noncomputable def sizeS2 : Nat := 56
noncomputable def tS2_15 (P : Params) : BT := (.node (o15 P) (.node (o31 P) .nil .nil) (.node (o47 P) .nil .nil))
noncomputable def tS2_23 (P : Params) : BT := (.node (o23 P) (.node (o39 P) .nil .nil) (.node (o55 P) .nil .nil))
noncomputable def tS2_19 (P : Params) : BT := (.node (o19 P) (.node (o35 P) .nil .nil) (.node (o51 P) .nil .nil))
noncomputable def tS2_27 (P : Params) : BT := (.node (o27 P) (.node (o43 P) .nil .nil) .nil)
noncomputable def tS2_17 (P : Params) : BT := (.node (o17 P) (.node (o33 P) .nil .nil) (.node (o49 P) .nil .nil))
noncomputable def tS2_25 (P : Params) : BT := (.node (o25 P) (.node (o41 P) .nil .nil) .nil)
noncomputable def tS2_21 (P : Params) : BT := (.node (o21 P) (.node (o37 P) .nil .nil) (.node (o53 P) .nil .nil))
noncomputable def tS2_29 (P : Params) : BT := (.node (h29S1 P) (.node (o45 P) .nil .nil) .nil)
noncomputable def tS2_16 (P : Params) : BT := (.node (o16 P) (.node (o32 P) .nil .nil) (.node (o48 P) .nil .nil))
noncomputable def tS2_24 (P : Params) : BT := (.node (o24 P) (.node (o40 P) .nil .nil) .nil)
noncomputable def tS2_20 (P : Params) : BT := (.node (o20 P) (.node (o36 P) .nil .nil) (.node (o52 P) .nil .nil))
noncomputable def tS2_28 (P : Params) : BT := (.node (o28 P) (.node (o44 P) .nil .nil) .nil)
noncomputable def tS2_18 (P : Params) : BT := (.node (o18 P) (.node (o34 P) .nil .nil) (.node (o50 P) .nil .nil))
noncomputable def tS2_26 (P : Params) : BT := (.node (o26 P) (.node (o42 P) .nil .nil) .nil)
noncomputable def tS2_22 (P : Params) : BT := (.node (o22 P) (.node (o38 P) .nil .nil) (.node (o54 P) .nil .nil))
noncomputable def tS2_30 (P : Params) : BT := (.node (o30 P) (.node (o46 P) .nil .nil) .nil)
noncomputable def treeS2 (P : Params) : BT := (.node (o0 P) (.node (o1 P) (.node (h3S2 P) (.node (o7 P) (tS2_15 P) (tS2_23 P)) (.node (o11 P) (tS2_19 P) (tS2_27 P))) (.node (o5 P) (.node (o9 P) (tS2_17 P) (tS2_25 P)) (.node (o13 P) (tS2_21 P) (tS2_29 P)))) (.node (o2 P) (.node (o4 P) (.node (o8 P) (tS2_16 P) (tS2_24 P)) (.node (o12 P) (tS2_20 P) (tS2_28 P))) (.node (o6 P) (.node (o10 P) (tS2_18 P) (tS2_26 P)) (.node (o14 P) (tS2_22 P) (tS2_30 P)))))
noncomputable def h3S3 (P : Params) : Obj := ⟨(.type "dict"), none, .dict #[⟨PyData.keyHash P (PySem.Str.ofString "__name__"), (.str (PySem.Str.ofString "__name__") 165), (.str (PySem.Str.ofString "cpy313.wsgiref.headers") 403)⟩, ⟨PyData.keyHash P (PySem.Str.ofString "__doc__"), (.str (PySem.Str.ofString "__doc__") 166), .none⟩, ⟨PyData.keyHash P (PySem.Str.ofString "__package__"), (.str (PySem.Str.ofString "__package__") 167), .none⟩, ⟨PyData.keyHash P (PySem.Str.ofString "__loader__"), (.str (PySem.Str.ofString "__loader__") 168), (.builtin "__main__.__loader__#opaque")⟩, ⟨PyData.keyHash P (PySem.Str.ofString "__spec__"), (.str (PySem.Str.ofString "__spec__") 169), .none⟩, ⟨PyData.keyHash P (PySem.Str.ofString "__annotations__"), (.str (PySem.Str.ofString "__annotations__") 170), (.ref 6)⟩, ⟨PyData.keyHash P (PySem.Str.ofString "__builtins__"), (.str (PySem.Str.ofString "__builtins__") 171), (.ref 4)⟩, ⟨PyData.keyHash P (PySem.Str.ofString "__file__"), (.str (PySem.Str.ofString "__file__") 173), (.str (PySem.Str.ofString "/claim/cut.py") 172)⟩, ⟨PyData.keyHash P (PySem.Str.ofString "__cached__"), (.str (PySem.Str.ofString "__cached__") 174), .none⟩, ⟨PyData.keyHash P (PySem.Str.ofString "_sre"), (.str (PySem.Str.ofString "_sre") 275), (.ref 12)⟩, ⟨PyData.keyHash P (PySem.Str.ofString "_wall"), (.str (PySem.Str.ofString "_wall") 288), (.ref 38)⟩, ⟨PyData.keyHash P (PySem.Str.ofString "c8_set"), (.str (PySem.Str.ofString "c8_set") 331), (.ref 52)⟩, ⟨PyData.keyHash P (PySem.Str.ofString "in_table_c8"), (.str (PySem.Str.ofString "in_table_c8") 338), (.ref 62)⟩, ⟨PyData.keyHash P (PySem.Str.ofString "TupleComp"), (.str (PySem.Str.ofString "TupleComp") 382), (.ref 86)⟩, ⟨PyData.keyHash P (PySem.Str.ofString "add_callers"), (.str (PySem.Str.ofString "add_callers") 393), (.ref 97)⟩, ⟨PyData.keyHash P (PySem.Str.ofString "count_calls"), (.str (PySem.Str.ofString "count_calls") 402), (.ref 104)⟩] 16, #[]⟩
noncomputable def h29S3 (P : Params) : Obj := ⟨.none, none, .fields #[(.int 2 0), (.int 0 0), (.ref 37), (.int 7 0), (.int 0 0), (.ref 61), (.int 10 0), (.int 0 0), (.ref 68), (.int 24 0), (.int 0 0), (.ref 96), (.int 37 0), (.int 0 0), (.ref 103)], #[]⟩
noncomputable def lifeS3 : Life := ⟨[], [], [], 0, [], [], false, #[], [], 0, false, false, false, 0, [2000, 10, 10], false, 0, true, [], [], 0, false⟩
noncomputable def gensS3 : Array GenState := #[]
noncomputable def drawnS3 : Drawn := ⟨0, 0, 0, 0⟩
noncomputable def toksS3 : Nat := 405
noncomputable def sizeS3 : Nat := 105
noncomputable def tS3_15 (P : Params) : BT := (.node (o15 P) (.node (o31 P) (.node (o63 P) .nil .nil) (.node (o95 P) .nil .nil)) (.node (o47 P) (.node (o79 P) .nil .nil) .nil))
noncomputable def tS3_23 (P : Params) : BT := (.node (o23 P) (.node (o39 P) (.node (o71 P) .nil .nil) (.node (o103 P) .nil .nil)) (.node (o55 P) (.node (o87 P) .nil .nil) .nil))
noncomputable def tS3_19 (P : Params) : BT := (.node (o19 P) (.node (o35 P) (.node (o67 P) .nil .nil) (.node (o99 P) .nil .nil)) (.node (o51 P) (.node (o83 P) .nil .nil) .nil))
noncomputable def tS3_27 (P : Params) : BT := (.node (o27 P) (.node (o43 P) (.node (o75 P) .nil .nil) .nil) (.node (o59 P) (.node (o91 P) .nil .nil) .nil))
noncomputable def tS3_17 (P : Params) : BT := (.node (o17 P) (.node (o33 P) (.node (o65 P) .nil .nil) (.node (o97 P) .nil .nil)) (.node (o49 P) (.node (o81 P) .nil .nil) .nil))
noncomputable def tS3_25 (P : Params) : BT := (.node (o25 P) (.node (o41 P) (.node (o73 P) .nil .nil) .nil) (.node (o57 P) (.node (o89 P) .nil .nil) .nil))
noncomputable def tS3_21 (P : Params) : BT := (.node (o21 P) (.node (o37 P) (.node (o69 P) .nil .nil) (.node (o101 P) .nil .nil)) (.node (o53 P) (.node (o85 P) .nil .nil) .nil))
noncomputable def tS3_29 (P : Params) : BT := (.node (h29S3 P) (.node (o45 P) (.node (o77 P) .nil .nil) .nil) (.node (o61 P) (.node (o93 P) .nil .nil) .nil))
noncomputable def tS3_16 (P : Params) : BT := (.node (o16 P) (.node (o32 P) (.node (o64 P) .nil .nil) (.node (o96 P) .nil .nil)) (.node (o48 P) (.node (o80 P) .nil .nil) .nil))
noncomputable def tS3_24 (P : Params) : BT := (.node (o24 P) (.node (o40 P) (.node (o72 P) .nil .nil) (.node (o104 P) .nil .nil)) (.node (o56 P) (.node (o88 P) .nil .nil) .nil))
noncomputable def tS3_20 (P : Params) : BT := (.node (o20 P) (.node (o36 P) (.node (o68 P) .nil .nil) (.node (o100 P) .nil .nil)) (.node (o52 P) (.node (o84 P) .nil .nil) .nil))
noncomputable def tS3_28 (P : Params) : BT := (.node (o28 P) (.node (o44 P) (.node (o76 P) .nil .nil) .nil) (.node (o60 P) (.node (o92 P) .nil .nil) .nil))
noncomputable def tS3_18 (P : Params) : BT := (.node (o18 P) (.node (o34 P) (.node (o66 P) .nil .nil) (.node (o98 P) .nil .nil)) (.node (o50 P) (.node (o82 P) .nil .nil) .nil))
noncomputable def tS3_26 (P : Params) : BT := (.node (o26 P) (.node (o42 P) (.node (o74 P) .nil .nil) .nil) (.node (o58 P) (.node (o90 P) .nil .nil) .nil))
noncomputable def tS3_22 (P : Params) : BT := (.node (o22 P) (.node (o38 P) (.node (o70 P) .nil .nil) (.node (o102 P) .nil .nil)) (.node (o54 P) (.node (o86 P) .nil .nil) .nil))
noncomputable def tS3_30 (P : Params) : BT := (.node (o30 P) (.node (o46 P) (.node (o78 P) .nil .nil) .nil) (.node (o62 P) (.node (o94 P) .nil .nil) .nil))
noncomputable def treeS3 (P : Params) : BT := (.node (o0 P) (.node (o1 P) (.node (h3S3 P) (.node (o7 P) (tS3_15 P) (tS3_23 P)) (.node (o11 P) (tS3_19 P) (tS3_27 P))) (.node (o5 P) (.node (o9 P) (tS3_17 P) (tS3_25 P)) (.node (o13 P) (tS3_21 P) (tS3_29 P)))) (.node (o2 P) (.node (o4 P) (.node (o8 P) (tS3_16 P) (tS3_24 P)) (.node (o12 P) (tS3_20 P) (tS3_28 P))) (.node (o6 P) (.node (o10 P) (tS3_18 P) (tS3_26 P)) (.node (o14 P) (tS3_22 P) (tS3_30 P)))))
noncomputable def h3S4 (P : Params) : Obj := ⟨(.type "dict"), none, .dict #[⟨PyData.keyHash P (PySem.Str.ofString "__name__"), (.str (PySem.Str.ofString "__name__") 165), (.str (PySem.Str.ofString "cpy313.wsgiref.headers") 403)⟩, ⟨PyData.keyHash P (PySem.Str.ofString "__doc__"), (.str (PySem.Str.ofString "__doc__") 166), .none⟩, ⟨PyData.keyHash P (PySem.Str.ofString "__package__"), (.str (PySem.Str.ofString "__package__") 167), .none⟩, ⟨PyData.keyHash P (PySem.Str.ofString "__loader__"), (.str (PySem.Str.ofString "__loader__") 168), (.builtin "__main__.__loader__#opaque")⟩, ⟨PyData.keyHash P (PySem.Str.ofString "__spec__"), (.str (PySem.Str.ofString "__spec__") 169), .none⟩, ⟨PyData.keyHash P (PySem.Str.ofString "__annotations__"), (.str (PySem.Str.ofString "__annotations__") 170), (.ref 6)⟩, ⟨PyData.keyHash P (PySem.Str.ofString "__builtins__"), (.str (PySem.Str.ofString "__builtins__") 171), (.ref 4)⟩, ⟨PyData.keyHash P (PySem.Str.ofString "__file__"), (.str (PySem.Str.ofString "__file__") 173), (.str (PySem.Str.ofString "/claim/cut.py") 172)⟩, ⟨PyData.keyHash P (PySem.Str.ofString "__cached__"), (.str (PySem.Str.ofString "__cached__") 174), .none⟩, ⟨PyData.keyHash P (PySem.Str.ofString "_sre"), (.str (PySem.Str.ofString "_sre") 275), (.ref 12)⟩, ⟨PyData.keyHash P (PySem.Str.ofString "_wall"), (.str (PySem.Str.ofString "_wall") 288), (.ref 38)⟩, ⟨PyData.keyHash P (PySem.Str.ofString "c8_set"), (.str (PySem.Str.ofString "c8_set") 331), (.ref 52)⟩, ⟨PyData.keyHash P (PySem.Str.ofString "in_table_c8"), (.str (PySem.Str.ofString "in_table_c8") 338), (.ref 62)⟩, ⟨PyData.keyHash P (PySem.Str.ofString "TupleComp"), (.str (PySem.Str.ofString "TupleComp") 382), (.ref 86)⟩, ⟨PyData.keyHash P (PySem.Str.ofString "add_callers"), (.str (PySem.Str.ofString "add_callers") 393), (.ref 97)⟩, ⟨PyData.keyHash P (PySem.Str.ofString "count_calls"), (.str (PySem.Str.ofString "count_calls") 402), (.ref 104)⟩, ⟨PyData.keyHash P (PySem.Str.ofString "tspecials"), (.str (PySem.Str.ofString "tspecials") 438), (.ref 109)⟩, ⟨PyData.keyHash P (PySem.Str.ofString "_name_disallowed_re"), (.str (PySem.Str.ofString "_name_disallowed_re") 464), (.ref 114)⟩, ⟨PyData.keyHash P (PySem.Str.ofString "_value_disallowed_re"), (.str (PySem.Str.ofString "_value_disallowed_re") 498), (.ref 119)⟩, ⟨PyData.keyHash P (PySem.Str.ofString "_formatparam"), (.str (PySem.Str.ofString "_formatparam") 508), (.ref 127)⟩] 20, #[]⟩
noncomputable def h29S4 (P : Params) : Obj := ⟨.none, none, .fields #[(.int 2 0), (.int 0 0), (.ref 37), (.int 7 0), (.int 0 0), (.ref 61), (.int 10 0), (.int 0 0), (.ref 68), (.int 24 0), (.int 0 0), (.ref 96), (.int 37 0), (.int 0 0), (.ref 103), (.int 46 0), (.int 0 0), (.ref 126)], #[]⟩
noncomputable def lifeS4 : Life := ⟨[], [], [], 0, [], [], false, #[], [], 0, false, false, false, 0, [2000, 10, 10], false, 0, true, [], [], 0, false⟩
noncomputable def gensS4 : Array GenState := #[]
noncomputable def drawnS4 : Drawn := ⟨0, 0, 0, 0⟩
noncomputable def toksS4 : Nat := 509
noncomputable def sizeS4 : Nat := 128
noncomputable def tS4_15 (P : Params) : BT := (.node (o15 P) (.node (o31 P) (.node (o63 P) (.node (o127 P) .nil .nil) .nil) (.node (o95 P) .nil .nil)) (.node (o47 P) (.node (o79 P) .nil .nil) (.node (o111 P) .nil .nil)))
noncomputable def tS4_23 (P : Params) : BT := (.node (o23 P) (.node (o39 P) (.node (o71 P) .nil .nil) (.node (o103 P) .nil .nil)) (.node (o55 P) (.node (o87 P) .nil .nil) (.node (o119 P) .nil .nil)))
noncomputable def tS4_19 (P : Params) : BT := (.node (o19 P) (.node (o35 P) (.node (o67 P) .nil .nil) (.node (o99 P) .nil .nil)) (.node (o51 P) (.node (o83 P) .nil .nil) (.node (o115 P) .nil .nil)))
noncomputable def tS4_27 (P : Params) : BT := (.node (o27 P) (.node (o43 P) (.node (o75 P) .nil .nil) (.node (o107 P) .nil .nil)) (.node (o59 P) (.node (o91 P) .nil .nil) (.node (o123 P) .nil .nil)))
noncomputable def tS4_17 (P : Params) : BT := (.node (o17 P) (.node (o33 P) (.node (o65 P) .nil .nil) (.node (o97 P) .nil .nil)) (.node (o49 P) (.node (o81 P) .nil .nil) (.node (o113 P) .nil .nil)))
noncomputable def tS4_25 (P : Params) : BT := (.node (o25 P) (.node (o41 P) (.node (o73 P) .nil .nil) (.node (o105 P) .nil .nil)) (.node (o57 P) (.node (o89 P) .nil .nil) (.node (o121 P) .nil .nil)))
noncomputable def tS4_21 (P : Params) : BT := (.node (o21 P) (.node (o37 P) (.node (o69 P) .nil .nil) (.node (o101 P) .nil .nil)) (.node (o53 P) (.node (o85 P) .nil .nil) (.node (o117 P) .nil .nil)))
noncomputable def tS4_29 (P : Params) : BT := (.node (h29S4 P) (.node (o45 P) (.node (o77 P) .nil .nil) (.node (o109 P) .nil .nil)) (.node (o61 P) (.node (o93 P) .nil .nil) (.node (o125 P) .nil .nil)))
noncomputable def tS4_16 (P : Params) : BT := (.node (o16 P) (.node (o32 P) (.node (o64 P) .nil .nil) (.node (o96 P) .nil .nil)) (.node (o48 P) (.node (o80 P) .nil .nil) (.node (o112 P) .nil .nil)))
noncomputable def tS4_24 (P : Params) : BT := (.node (o24 P) (.node (o40 P) (.node (o72 P) .nil .nil) (.node (o104 P) .nil .nil)) (.node (o56 P) (.node (o88 P) .nil .nil) (.node (o120 P) .nil .nil)))
noncomputable def tS4_20 (P : Params) : BT := (.node (o20 P) (.node (o36 P) (.node (o68 P) .nil .nil) (.node (o100 P) .nil .nil)) (.node (o52 P) (.node (o84 P) .nil .nil) (.node (o116 P) .nil .nil)))
noncomputable def tS4_28 (P : Params) : BT := (.node (o28 P) (.node (o44 P) (.node (o76 P) .nil .nil) (.node (o108 P) .nil .nil)) (.node (o60 P) (.node (o92 P) .nil .nil) (.node (o124 P) .nil .nil)))
noncomputable def tS4_18 (P : Params) : BT := (.node (o18 P) (.node (o34 P) (.node (o66 P) .nil .nil) (.node (o98 P) .nil .nil)) (.node (o50 P) (.node (o82 P) .nil .nil) (.node (o114 P) .nil .nil)))
noncomputable def tS4_26 (P : Params) : BT := (.node (o26 P) (.node (o42 P) (.node (o74 P) .nil .nil) (.node (o106 P) .nil .nil)) (.node (o58 P) (.node (o90 P) .nil .nil) (.node (o122 P) .nil .nil)))
noncomputable def tS4_22 (P : Params) : BT := (.node (o22 P) (.node (o38 P) (.node (o70 P) .nil .nil) (.node (o102 P) .nil .nil)) (.node (o54 P) (.node (o86 P) .nil .nil) (.node (o118 P) .nil .nil)))
noncomputable def tS4_30 (P : Params) : BT := (.node (o30 P) (.node (o46 P) (.node (o78 P) .nil .nil) (.node (o110 P) .nil .nil)) (.node (o62 P) (.node (o94 P) .nil .nil) (.node (o126 P) .nil .nil)))
noncomputable def treeS4 (P : Params) : BT := (.node (o0 P) (.node (o1 P) (.node (h3S4 P) (.node (o7 P) (tS4_15 P) (tS4_23 P)) (.node (o11 P) (tS4_19 P) (tS4_27 P))) (.node (o5 P) (.node (o9 P) (tS4_17 P) (tS4_25 P)) (.node (o13 P) (tS4_21 P) (tS4_29 P)))) (.node (o2 P) (.node (o4 P) (.node (o8 P) (tS4_16 P) (tS4_24 P)) (.node (o12 P) (tS4_20 P) (tS4_28 P))) (.node (o6 P) (.node (o10 P) (tS4_18 P) (tS4_26 P)) (.node (o14 P) (tS4_22 P) (tS4_30 P)))))
noncomputable def h3S5 (P : Params) : Obj := ⟨(.type "dict"), none, .dict #[⟨PyData.keyHash P (PySem.Str.ofString "__name__"), (.str (PySem.Str.ofString "__name__") 165), (.str (PySem.Str.ofString "cpy313.wsgiref.headers") 403)⟩, ⟨PyData.keyHash P (PySem.Str.ofString "__doc__"), (.str (PySem.Str.ofString "__doc__") 166), .none⟩, ⟨PyData.keyHash P (PySem.Str.ofString "__package__"), (.str (PySem.Str.ofString "__package__") 167), .none⟩, ⟨PyData.keyHash P (PySem.Str.ofString "__loader__"), (.str (PySem.Str.ofString "__loader__") 168), (.builtin "__main__.__loader__#opaque")⟩, ⟨PyData.keyHash P (PySem.Str.ofString "__spec__"), (.str (PySem.Str.ofString "__spec__") 169), .none⟩, ⟨PyData.keyHash P (PySem.Str.ofString "__annotations__"), (.str (PySem.Str.ofString "__annotations__") 170), (.ref 6)⟩, ⟨PyData.keyHash P (PySem.Str.ofString "__builtins__"), (.str (PySem.Str.ofString "__builtins__") 171), (.ref 4)⟩, ⟨PyData.keyHash P (PySem.Str.ofString "__file__"), (.str (PySem.Str.ofString "__file__") 173), (.str (PySem.Str.ofString "/claim/cut.py") 172)⟩, ⟨PyData.keyHash P (PySem.Str.ofString "__cached__"), (.str (PySem.Str.ofString "__cached__") 174), .none⟩, ⟨PyData.keyHash P (PySem.Str.ofString "_sre"), (.str (PySem.Str.ofString "_sre") 275), (.ref 12)⟩, ⟨PyData.keyHash P (PySem.Str.ofString "_wall"), (.str (PySem.Str.ofString "_wall") 288), (.ref 38)⟩, ⟨PyData.keyHash P (PySem.Str.ofString "c8_set"), (.str (PySem.Str.ofString "c8_set") 331), (.ref 52)⟩, ⟨PyData.keyHash P (PySem.Str.ofString "in_table_c8"), (.str (PySem.Str.ofString "in_table_c8") 338), (.ref 62)⟩, ⟨PyData.keyHash P (PySem.Str.ofString "TupleComp"), (.str (PySem.Str.ofString "TupleComp") 382), (.ref 86)⟩, ⟨PyData.keyHash P (PySem.Str.ofString "add_callers"), (.str (PySem.Str.ofString "add_callers") 393), (.ref 97)⟩, ⟨PyData.keyHash P (PySem.Str.ofString "count_calls"), (.str (PySem.Str.ofString "count_calls") 402), (.ref 104)⟩, ⟨PyData.keyHash P (PySem.Str.ofString "tspecials"), (.str (PySem.Str.ofString "tspecials") 438), (.ref 109)⟩, ⟨PyData.keyHash P (PySem.Str.ofString "_name_disallowed_re"), (.str (PySem.Str.ofString "_name_disallowed_re") 464), (.ref 114)⟩, ⟨PyData.keyHash P (PySem.Str.ofString "_value_disallowed_re"), (.str (PySem.Str.ofString "_value_disallowed_re") 498), (.ref 119)⟩, ⟨PyData.keyHash P (PySem.Str.ofString "_formatparam"), (.str (PySem.Str.ofString "_formatparam") 508), (.ref 127)⟩, ⟨PyData.keyHash P (PySem.Str.ofString "Headers"), (.str (PySem.Str.ofString "Headers") 665), (.ref 248)⟩] 21, #[]⟩
noncomputable def h29S5 (P : Params) : Obj := ⟨.none, none, .fields #[(.int 2 0), (.int 0 0), (.ref 37), (.int 7 0), (.int 0 0), (.ref 61), (.int 10 0), (.int 0 0), (.ref 68), (.int 24 0), (.int 0 0), (.ref 96), (.int 37 0), (.int 0 0), (.ref 103), (.int 46 0), (.int 0 0), (.ref 126), (.int 55 0), (.int 0 0), (.ref 133)], #[]⟩
noncomputable def lifeS5 : Life := ⟨[], [], [], 0, [], [], false, #[], [], 0, false, false, false, 0, [2000, 10, 10], false, 0, true, [], [], 0, false⟩
noncomputable def gensS5 : Array GenState := #[]
noncomputable def drawnS5 : Drawn := ⟨0, 0, 0, 0⟩
noncomputable def toksS5 : Nat := 666
noncomputable def sizeS5 : Nat := 253
noncomputable def tS5_15 (P : Params) : BT := (.node (o15 P) (.node (o31 P) (.node (o63 P) (.node (o127 P) .nil .nil) (.node (o191 P) .nil .nil)) (.node (o95 P) (.node (o159 P) .nil .nil) (.node (o223 P) .nil .nil))) (.node (o47 P) (.node (o79 P) (.node (o143 P) .nil .nil) (.node (o207 P) .nil .nil)) (.node (o111 P) (.node (o175 P) .nil .nil) (.node (o239 P) .nil .nil))))
noncomputable def tS5_23 (P : Params) : BT := (.node (o23 P) (.node (o39 P) (.node (o71 P) (.node (o135 P) .nil .nil) (.node (o199 P) .nil .nil)) (.node (o103 P) (.node (o167 P) .nil .nil) (.node (o231 P) .nil .nil))) (.node (o55 P) (.node (o87 P) (.node (o151 P) .nil .nil) (.node (o215 P) .nil .nil)) (.node (o119 P) (.node (o183 P) .nil .nil) (.node (o247 P) .nil .nil))))
noncomputable def tS5_19 (P : Params) : BT := (.node (o19 P) (.node (o35 P) (.node (o67 P) (.node (o131 P) .nil .nil) (.node (o195 P) .nil .nil)) (.node (o99 P) (.node (o163 P) .nil .nil) (.node (o227 P) .nil .nil))) (.node (o51 P) (.node (o83 P) (.node (o147 P) .nil .nil) (.node (o211 P) .nil .nil)) (.node (o115 P) (.node (o179 P) .nil .nil) (.node (o243 P) .nil .nil))))
noncomputable def tS5_27 (P : Params) : BT := (.node (o27 P) (.node (o43 P) (.node (o75 P) (.node (o139 P) .nil .nil) (.node (o203 P) .nil .nil)) (.node (o107 P) (.node (o171 P) .nil .nil) (.node (o235 P) .nil .nil))) (.node (o59 P) (.node (o91 P) (.node (o155 P) .nil .nil) (.node (o219 P) .nil .nil)) (.node (o123 P) (.node (o187 P) .nil .nil) (.node (o251 P) .nil .nil))))
noncomputable def tS5_17 (P : Params) : BT := (.node (o17 P) (.node (o33 P) (.node (o65 P) (.node (o129 P) .nil .nil) (.node (o193 P) .nil .nil)) (.node (o97 P) (.node (o161 P) .nil .nil) (.node (o225 P) .nil .nil))) (.node (o49 P) (.node (o81 P) (.node (o145 P) .nil .nil) (.node (o209 P) .nil .nil)) (.node (o113 P) (.node (o177 P) .nil .nil) (.node (o241 P) .nil .nil))))
noncomputable def tS5_25 (P : Params) : BT := (.node (o25 P) (.node (o41 P) (.node (o73 P) (.node (o137 P) .nil .nil) (.node (o201 P) .nil .nil)) (.node (o105 P) (.node (o169 P) .nil .nil) (.node (o233 P) .nil .nil))) (.node (o57 P) (.node (o89 P) (.node (o153 P) .nil .nil) (.node (o217 P) .nil .nil)) (.node (o121 P) (.node (o185 P) .nil .nil) (.node (o249 P) .nil .nil))))
noncomputable def tS5_21 (P : Params) : BT := (.node (o21 P) (.node (o37 P) (.node (o69 P) (.node (o133 P) .nil .nil) (.node (o197 P) .nil .nil)) (.node (o101 P) (.node (o165 P) .nil .nil) (.node (o229 P) .nil .nil))) (.node (o53 P) (.node (o85 P) (.node (o149 P) .nil .nil) (.node (o213 P) .nil .nil)) (.node (o117 P) (.node (o181 P) .nil .nil) (.node (o245 P) .nil .nil))))
noncomputable def tS5_29 (P : Params) : BT := (.node (h29S5 P) (.node (o45 P) (.node (o77 P) (.node (o141 P) .nil .nil) (.node (o205 P) .nil .nil)) (.node (o109 P) (.node (o173 P) .nil .nil) (.node (o237 P) .nil .nil))) (.node (o61 P) (.node (o93 P) (.node (o157 P) .nil .nil) (.node (o221 P) .nil .nil)) (.node (o125 P) (.node (o189 P) .nil .nil) .nil)))
noncomputable def tS5_16 (P : Params) : BT := (.node (o16 P) (.node (o32 P) (.node (o64 P) (.node (o128 P) .nil .nil) (.node (o192 P) .nil .nil)) (.node (o96 P) (.node (o160 P) .nil .nil) (.node (o224 P) .nil .nil))) (.node (o48 P) (.node (o80 P) (.node (o144 P) .nil .nil) (.node (o208 P) .nil .nil)) (.node (o112 P) (.node (o176 P) .nil .nil) (.node (o240 P) .nil .nil))))
noncomputable def tS5_24 (P : Params) : BT := (.node (o24 P) (.node (o40 P) (.node (o72 P) (.node (o136 P) .nil .nil) (.node (o200 P) .nil .nil)) (.node (o104 P) (.node (o168 P) .nil .nil) (.node (o232 P) .nil .nil))) (.node (o56 P) (.node (o88 P) (.node (o152 P) .nil .nil) (.node (o216 P) .nil .nil)) (.node (o120 P) (.node (o184 P) .nil .nil) (.node (o248 P) .nil .nil))))
noncomputable def tS5_20 (P : Params) : BT := (.node (o20 P) (.node (o36 P) (.node (o68 P) (.node (o132 P) .nil .nil) (.node (o196 P) .nil .nil)) (.node (o100 P) (.node (o164 P) .nil .nil) (.node (o228 P) .nil .nil))) (.node (o52 P) (.node (o84 P) (.node (o148 P) .nil .nil) (.node (o212 P) .nil .nil)) (.node (o116 P) (.node (o180 P) .nil .nil) (.node (o244 P) .nil .nil))))
noncomputable def tS5_28 (P : Params) : BT := (.node (o28 P) (.node (o44 P) (.node (o76 P) (.node (o140 P) .nil .nil) (.node (o204 P) .nil .nil)) (.node (o108 P) (.node (o172 P) .nil .nil) (.node (o236 P) .nil .nil))) (.node (o60 P) (.node (o92 P) (.node (o156 P) .nil .nil) (.node (o220 P) .nil .nil)) (.node (o124 P) (.node (o188 P) .nil .nil) (.node (o252 P) .nil .nil))))
noncomputable def tS5_18 (P : Params) : BT := (.node (o18 P) (.node (o34 P) (.node (o66 P) (.node (o130 P) .nil .nil) (.node (o194 P) .nil .nil)) (.node (o98 P) (.node (o162 P) .nil .nil) (.node (o226 P) .nil .nil))) (.node (o50 P) (.node (o82 P) (.node (o146 P) .nil .nil) (.node (o210 P) .nil .nil)) (.node (o114 P) (.node (o178 P) .nil .nil) (.node (o242 P) .nil .nil))))
noncomputable def tS5_26 (P : Params) : BT := (.node (o26 P) (.node (o42 P) (.node (o74 P) (.node (o138 P) .nil .nil) (.node (o202 P) .nil .nil)) (.node (o106 P) (.node (o170 P) .nil .nil) (.node (o234 P) .nil .nil))) (.node (o58 P) (.node (o90 P) (.node (o154 P) .nil .nil) (.node (o218 P) .nil .nil)) (.node (o122 P) (.node (o186 P) .nil .nil) (.node (o250 P) .nil .nil))))
noncomputable def tS5_22 (P : Params) : BT := (.node (o22 P) (.node (o38 P) (.node (o70 P) (.node (o134 P) .nil .nil) (.node (o198 P) .nil .nil)) (.node (o102 P) (.node (o166 P) .nil .nil) (.node (o230 P) .nil .nil))) (.node (o54 P) (.node (o86 P) (.node (o150 P) .nil .nil) (.node (o214 P) .nil .nil)) (.node (o118 P) (.node (o182 P) .nil .nil) (.node (o246 P) .nil .nil))))
noncomputable def tS5_30 (P : Params) : BT := (.node (o30 P) (.node (o46 P) (.node (o78 P) (.node (o142 P) .nil .nil) (.node (o206 P) .nil .nil)) (.node (o110 P) (.node (o174 P) .nil .nil) (.node (o238 P) .nil .nil))) (.node (o62 P) (.node (o94 P) (.node (o158 P) .nil .nil) (.node (o222 P) .nil .nil)) (.node (o126 P) (.node (o190 P) .nil .nil) .nil)))
noncomputable def treeS5 (P : Params) : BT := (.node (o0 P) (.node (o1 P) (.node (h3S5 P) (.node (o7 P) (tS5_15 P) (tS5_23 P)) (.node (o11 P) (tS5_19 P) (tS5_27 P))) (.node (o5 P) (.node (o9 P) (tS5_17 P) (tS5_25 P)) (.node (o13 P) (tS5_21 P) (tS5_29 P)))) (.node (o2 P) (.node (o4 P) (.node (o8 P) (tS5_16 P) (tS5_24 P)) (.node (o12 P) (tS5_20 P) (tS5_28 P))) (.node (o6 P) (.node (o10 P) (tS5_18 P) (tS5_26 P)) (.node (o14 P) (tS5_22 P) (tS5_30 P)))))
noncomputable def lifeS6 : Life := ⟨[], [], [], 0, [], [], false, #[], [], 0, false, false, false, 0, [2000, 10, 10], false, 0, true, [], [], 0, false⟩
noncomputable def gensS6 : Array GenState := #[]
noncomputable def drawnS6 : Drawn := ⟨0, 0, 0, 0⟩
noncomputable def toksS6 : Nat := 723
noncomputable def sizeS6 : Nat := 289
noncomputable def tS6_15 (P : Params) : BT := (.node (o15 P) (.node (o31 P) (.node (o63 P) (.node (o127 P) (.node (o255 P) .nil .nil) .nil) (.node (o191 P) .nil .nil)) (.node (o95 P) (.node (o159 P) (.node (o287 P) .nil .nil) .nil) (.node (o223 P) .nil .nil))) (.node (o47 P) (.node (o79 P) (.node (o143 P) (.node (o271 P) .nil .nil) .nil) (.node (o207 P) .nil .nil)) (.node (o111 P) (.node (o175 P) .nil .nil) (.node (o239 P) .nil .nil))))
noncomputable def tS6_23 (P : Params) : BT := (.node (o23 P) (.node (o39 P) (.node (o71 P) (.node (o135 P) (.node (o263 P) .nil .nil) .nil) (.node (o199 P) .nil .nil)) (.node (o103 P) (.node (o167 P) .nil .nil) (.node (o231 P) .nil .nil))) (.node (o55 P) (.node (o87 P) (.node (o151 P) (.node (o279 P) .nil .nil) .nil) (.node (o215 P) .nil .nil)) (.node (o119 P) (.node (o183 P) .nil .nil) (.node (o247 P) .nil .nil))))
noncomputable def tS6_19 (P : Params) : BT := (.node (o19 P) (.node (o35 P) (.node (o67 P) (.node (o131 P) (.node (o259 P) .nil .nil) .nil) (.node (o195 P) .nil .nil)) (.node (o99 P) (.node (o163 P) .nil .nil) (.node (o227 P) .nil .nil))) (.node (o51 P) (.node (o83 P) (.node (o147 P) (.node (o275 P) .nil .nil) .nil) (.node (o211 P) .nil .nil)) (.node (o115 P) (.node (o179 P) .nil .nil) (.node (o243 P) .nil .nil))))
noncomputable def tS6_27 (P : Params) : BT := (.node (o27 P) (.node (o43 P) (.node (o75 P) (.node (o139 P) (.node (o267 P) .nil .nil) .nil) (.node (o203 P) .nil .nil)) (.node (o107 P) (.node (o171 P) .nil .nil) (.node (o235 P) .nil .nil))) (.node (o59 P) (.node (o91 P) (.node (o155 P) (.node (o283 P) .nil .nil) .nil) (.node (o219 P) .nil .nil)) (.node (o123 P) (.node (o187 P) .nil .nil) (.node (o251 P) .nil .nil))))
noncomputable def tS6_17 (P : Params) : BT := (.node (o17 P) (.node (o33 P) (.node (o65 P) (.node (o129 P) (.node (o257 P) .nil .nil) .nil) (.node (o193 P) .nil .nil)) (.node (o97 P) (.node (o161 P) .nil .nil) (.node (o225 P) .nil .nil))) (.node (o49 P) (.node (o81 P) (.node (o145 P) (.node (o273 P) .nil .nil) .nil) (.node (o209 P) .nil .nil)) (.node (o113 P) (.node (o177 P) .nil .nil) (.node (o241 P) .nil .nil))))
noncomputable def tS6_25 (P : Params) : BT := (.node (o25 P) (.node (o41 P) (.node (o73 P) (.node (o137 P) (.node (o265 P) .nil .nil) .nil) (.node (o201 P) .nil .nil)) (.node (o105 P) (.node (o169 P) .nil .nil) (.node (o233 P) .nil .nil))) (.node (o57 P) (.node (o89 P) (.node (o153 P) (.node (o281 P) .nil .nil) .nil) (.node (o217 P) .nil .nil)) (.node (o121 P) (.node (o185 P) .nil .nil) (.node (o249 P) .nil .nil))))
noncomputable def tS6_21 (P : Params) : BT := (.node (o21 P) (.node (o37 P) (.node (o69 P) (.node (o133 P) (.node (o261 P) .nil .nil) .nil) (.node (o197 P) .nil .nil)) (.node (o101 P) (.node (o165 P) .nil .nil) (.node (o229 P) .nil .nil))) (.node (o53 P) (.node (o85 P) (.node (o149 P) (.node (o277 P) .nil .nil) .nil) (.node (o213 P) .nil .nil)) (.node (o117 P) (.node (o181 P) .nil .nil) (.node (o245 P) .nil .nil))))
noncomputable def tS6_29 (P : Params) : BT := (.node (o29 P) (.node (o45 P) (.node (o77 P) (.node (o141 P) (.node (o269 P) .nil .nil) .nil) (.node (o205 P) .nil .nil)) (.node (o109 P) (.node (o173 P) .nil .nil) (.node (o237 P) .nil .nil))) (.node (o61 P) (.node (o93 P) (.node (o157 P) (.node (o285 P) .nil .nil) .nil) (.node (o221 P) .nil .nil)) (.node (o125 P) (.node (o189 P) .nil .nil) (.node (o253 P) .nil .nil))))
noncomputable def tS6_16 (P : Params) : BT := (.node (o16 P) (.node (o32 P) (.node (o64 P) (.node (o128 P) (.node (o256 P) .nil .nil) .nil) (.node (o192 P) .nil .nil)) (.node (o96 P) (.node (o160 P) (.node (o288 P) .nil .nil) .nil) (.node (o224 P) .nil .nil))) (.node (o48 P) (.node (o80 P) (.node (o144 P) (.node (o272 P) .nil .nil) .nil) (.node (o208 P) .nil .nil)) (.node (o112 P) (.node (o176 P) .nil .nil) (.node (o240 P) .nil .nil))))
noncomputable def tS6_24 (P : Params) : BT := (.node (o24 P) (.node (o40 P) (.node (o72 P) (.node (o136 P) (.node (o264 P) .nil .nil) .nil) (.node (o200 P) .nil .nil)) (.node (o104 P) (.node (o168 P) .nil .nil) (.node (o232 P) .nil .nil))) (.node (o56 P) (.node (o88 P) (.node (o152 P) (.node (o280 P) .nil .nil) .nil) (.node (o216 P) .nil .nil)) (.node (o120 P) (.node (o184 P) .nil .nil) (.node (o248 P) .nil .nil))))
noncomputable def tS6_20 (P : Params) : BT := (.node (o20 P) (.node (o36 P) (.node (o68 P) (.node (o132 P) (.node (o260 P) .nil .nil) .nil) (.node (o196 P) .nil .nil)) (.node (o100 P) (.node (o164 P) .nil .nil) (.node (o228 P) .nil .nil))) (.node (o52 P) (.node (o84 P) (.node (o148 P) (.node (o276 P) .nil .nil) .nil) (.node (o212 P) .nil .nil)) (.node (o116 P) (.node (o180 P) .nil .nil) (.node (o244 P) .nil .nil))))
noncomputable def tS6_28 (P : Params) : BT := (.node (o28 P) (.node (o44 P) (.node (o76 P) (.node (o140 P) (.node (o268 P) .nil .nil) .nil) (.node (o204 P) .nil .nil)) (.node (o108 P) (.node (o172 P) .nil .nil) (.node (o236 P) .nil .nil))) (.node (o60 P) (.node (o92 P) (.node (o156 P) (.node (o284 P) .nil .nil) .nil) (.node (o220 P) .nil .nil)) (.node (o124 P) (.node (o188 P) .nil .nil) (.node (o252 P) .nil .nil))))
noncomputable def tS6_18 (P : Params) : BT := (.node (o18 P) (.node (o34 P) (.node (o66 P) (.node (o130 P) (.node (o258 P) .nil .nil) .nil) (.node (o194 P) .nil .nil)) (.node (o98 P) (.node (o162 P) .nil .nil) (.node (o226 P) .nil .nil))) (.node (o50 P) (.node (o82 P) (.node (o146 P) (.node (o274 P) .nil .nil) .nil) (.node (o210 P) .nil .nil)) (.node (o114 P) (.node (o178 P) .nil .nil) (.node (o242 P) .nil .nil))))
noncomputable def tS6_26 (P : Params) : BT := (.node (o26 P) (.node (o42 P) (.node (o74 P) (.node (o138 P) (.node (o266 P) .nil .nil) .nil) (.node (o202 P) .nil .nil)) (.node (o106 P) (.node (o170 P) .nil .nil) (.node (o234 P) .nil .nil))) (.node (o58 P) (.node (o90 P) (.node (o154 P) (.node (o282 P) .nil .nil) .nil) (.node (o218 P) .nil .nil)) (.node (o122 P) (.node (o186 P) .nil .nil) (.node (o250 P) .nil .nil))))
noncomputable def tS6_22 (P : Params) : BT := (.node (o22 P) (.node (o38 P) (.node (o70 P) (.node (o134 P) (.node (o262 P) .nil .nil) .nil) (.node (o198 P) .nil .nil)) (.node (o102 P) (.node (o166 P) .nil .nil) (.node (o230 P) .nil .nil))) (.node (o54 P) (.node (o86 P) (.node (o150 P) (.node (o278 P) .nil .nil) .nil) (.node (o214 P) .nil .nil)) (.node (o118 P) (.node (o182 P) .nil .nil) (.node (o246 P) .nil .nil))))
noncomputable def tS6_30 (P : Params) : BT := (.node (o30 P) (.node (o46 P) (.node (o78 P) (.node (o142 P) (.node (o270 P) .nil .nil) .nil) (.node (o206 P) .nil .nil)) (.node (o110 P) (.node (o174 P) .nil .nil) (.node (o238 P) .nil .nil))) (.node (o62 P) (.node (o94 P) (.node (o158 P) (.node (o286 P) .nil .nil) .nil) (.node (o222 P) .nil .nil)) (.node (o126 P) (.node (o190 P) .nil .nil) (.node (o254 P) .nil .nil))))
noncomputable def treeS6 (P : Params) : BT := (.node (o0 P) (.node (o1 P) (.node (o3 P) (.node (o7 P) (tS6_15 P) (tS6_23 P)) (.node (o11 P) (tS6_19 P) (tS6_27 P))) (.node (o5 P) (.node (o9 P) (tS6_17 P) (tS6_25 P)) (.node (o13 P) (tS6_21 P) (tS6_29 P)))) (.node (o2 P) (.node (o4 P) (.node (o8 P) (tS6_16 P) (tS6_24 P)) (.node (o12 P) (tS6_20 P) (tS6_28 P))) (.node (o6 P) (.node (o10 P) (tS6_18 P) (tS6_26 P)) (.node (o14 P) (tS6_22 P) (tS6_30 P)))))
noncomputable def lifeSf : Life := ⟨[], [], [], 0, [], [], false, #[], [], 0, false, false, false, 0, [2000, 10, 10], false, 0, true, [], [], 0, false⟩
noncomputable def gensSf : Array GenState := #[]
noncomputable def drawnSf : Drawn := ⟨0, 0, 0, 0⟩
noncomputable def toksSf : Nat := 723
noncomputable def sizeSf : Nat := 289
noncomputable def heapSf (P : Params) : Heap := ⟨⟨o0 P :: o1 P :: o2 P :: o3 P :: o4 P :: o5 P :: o6 P :: o7 P :: o8 P :: o9 P :: o10 P :: o11 P :: o12 P :: o13 P :: o14 P :: o15 P :: o16 P :: o17 P :: o18 P :: o19 P :: o20 P :: o21 P :: o22 P :: o23 P :: o24 P :: o25 P :: o26 P :: o27 P :: o28 P :: o29 P :: o30 P :: o31 P :: o32 P :: o33 P :: o34 P :: o35 P :: o36 P :: o37 P :: o38 P :: o39 P :: o40 P :: o41 P :: o42 P :: o43 P :: o44 P :: o45 P :: o46 P :: o47 P :: o48 P :: o49 P :: o50 P :: o51 P :: o52 P :: o53 P :: o54 P :: o55 P :: o56 P :: o57 P :: o58 P :: o59 P :: o60 P :: o61 P :: o62 P :: o63 P :: o64 P :: o65 P :: o66 P :: o67 P :: o68 P :: o69 P :: o70 P :: o71 P :: o72 P :: o73 P :: o74 P :: o75 P :: o76 P :: o77 P :: o78 P :: o79 P :: o80 P :: o81 P :: o82 P :: o83 P :: o84 P :: o85 P :: o86 P :: o87 P :: o88 P :: o89 P :: o90 P :: o91 P :: o92 P :: o93 P :: o94 P :: o95 P :: o96 P :: o97 P :: o98 P :: o99 P :: o100 P :: o101 P :: o102 P :: o103 P :: o104 P :: o105 P :: o106 P :: o107 P :: o108 P :: o109 P :: o110 P :: o111 P :: o112 P :: o113 P :: o114 P :: o115 P :: o116 P :: o117 P :: o118 P :: o119 P :: o120 P :: o121 P :: o122 P :: o123 P :: o124 P :: o125 P :: o126 P :: o127 P :: o128 P :: o129 P :: o130 P :: o131 P :: o132 P :: o133 P :: o134 P :: o135 P :: o136 P :: o137 P :: o138 P :: o139 P :: o140 P :: o141 P :: o142 P :: o143 P :: o144 P :: o145 P :: o146 P :: o147 P :: o148 P :: o149 P :: o150 P :: o151 P :: o152 P :: o153 P :: o154 P :: o155 P :: o156 P :: o157 P :: o158 P :: o159 P :: o160 P :: o161 P :: o162 P :: o163 P :: o164 P :: o165 P :: o166 P :: o167 P :: o168 P :: o169 P :: o170 P :: o171 P :: o172 P :: o173 P :: o174 P :: o175 P :: o176 P :: o177 P :: o178 P :: o179 P :: o180 P :: o181 P :: o182 P :: o183 P :: o184 P :: o185 P :: o186 P :: o187 P :: o188 P :: o189 P :: o190 P :: o191 P :: o192 P :: o193 P :: o194 P :: o195 P :: o196 P :: o197 P :: o198 P :: o199 P :: o200 P :: o201 P :: o202 P :: o203 P :: o204 P :: o205 P :: o206 P :: o207 P :: o208 P :: o209 P :: o210 P :: o211 P :: o212 P :: o213 P :: o214 P :: o215 P :: o216 P :: o217 P :: o218 P :: o219 P :: o220 P :: o221 P :: o222 P :: o223 P :: o224 P :: o225 P :: o226 P :: o227 P :: o228 P :: o229 P :: o230 P :: o231 P :: o232 P :: o233 P :: o234 P :: o235 P :: o236 P :: o237 P :: o238 P :: o239 P :: o240 P :: o241 P :: o242 P :: o243 P :: o244 P :: o245 P :: o246 P :: o247 P :: o248 P :: o249 P :: o250 P :: o251 P :: o252 P :: o253 P :: o254 P :: o255 P :: o256 P :: o257 P :: o258 P :: o259 P :: o260 P :: o261 P :: o262 P :: o263 P :: o264 P :: o265 P :: o266 P :: o267 P :: o268 P :: o269 P :: o270 P :: o271 P :: o272 P :: o273 P :: o274 P :: o275 P :: o276 P :: o277 P :: o278 P :: o279 P :: o280 P :: o281 P :: o282 P :: o283 P :: o284 P :: o285 P :: o286 P :: o287 P :: o288 P :: []⟩, lifeSf⟩
noncomputable def tSf_15 (P : Params) : BT := (.node (o15 P) (.node (o31 P) (.node (o63 P) (.node (o127 P) (.node (o255 P) .nil .nil) .nil) (.node (o191 P) .nil .nil)) (.node (o95 P) (.node (o159 P) (.node (o287 P) .nil .nil) .nil) (.node (o223 P) .nil .nil))) (.node (o47 P) (.node (o79 P) (.node (o143 P) (.node (o271 P) .nil .nil) .nil) (.node (o207 P) .nil .nil)) (.node (o111 P) (.node (o175 P) .nil .nil) (.node (o239 P) .nil .nil))))
noncomputable def tSf_23 (P : Params) : BT := (.node (o23 P) (.node (o39 P) (.node (o71 P) (.node (o135 P) (.node (o263 P) .nil .nil) .nil) (.node (o199 P) .nil .nil)) (.node (o103 P) (.node (o167 P) .nil .nil) (.node (o231 P) .nil .nil))) (.node (o55 P) (.node (o87 P) (.node (o151 P) (.node (o279 P) .nil .nil) .nil) (.node (o215 P) .nil .nil)) (.node (o119 P) (.node (o183 P) .nil .nil) (.node (o247 P) .nil .nil))))
noncomputable def tSf_19 (P : Params) : BT := (.node (o19 P) (.node (o35 P) (.node (o67 P) (.node (o131 P) (.node (o259 P) .nil .nil) .nil) (.node (o195 P) .nil .nil)) (.node (o99 P) (.node (o163 P) .nil .nil) (.node (o227 P) .nil .nil))) (.node (o51 P) (.node (o83 P) (.node (o147 P) (.node (o275 P) .nil .nil) .nil) (.node (o211 P) .nil .nil)) (.node (o115 P) (.node (o179 P) .nil .nil) (.node (o243 P) .nil .nil))))
noncomputable def tSf_27 (P : Params) : BT := (.node (o27 P) (.node (o43 P) (.node (o75 P) (.node (o139 P) (.node (o267 P) .nil .nil) .nil) (.node (o203 P) .nil .nil)) (.node (o107 P) (.node (o171 P) .nil .nil) (.node (o235 P) .nil .nil))) (.node (o59 P) (.node (o91 P) (.node (o155 P) (.node (o283 P) .nil .nil) .nil) (.node (o219 P) .nil .nil)) (.node (o123 P) (.node (o187 P) .nil .nil) (.node (o251 P) .nil .nil))))
noncomputable def tSf_17 (P : Params) : BT := (.node (o17 P) (.node (o33 P) (.node (o65 P) (.node (o129 P) (.node (o257 P) .nil .nil) .nil) (.node (o193 P) .nil .nil)) (.node (o97 P) (.node (o161 P) .nil .nil) (.node (o225 P) .nil .nil))) (.node (o49 P) (.node (o81 P) (.node (o145 P) (.node (o273 P) .nil .nil) .nil) (.node (o209 P) .nil .nil)) (.node (o113 P) (.node (o177 P) .nil .nil) (.node (o241 P) .nil .nil))))
noncomputable def tSf_25 (P : Params) : BT := (.node (o25 P) (.node (o41 P) (.node (o73 P) (.node (o137 P) (.node (o265 P) .nil .nil) .nil) (.node (o201 P) .nil .nil)) (.node (o105 P) (.node (o169 P) .nil .nil) (.node (o233 P) .nil .nil))) (.node (o57 P) (.node (o89 P) (.node (o153 P) (.node (o281 P) .nil .nil) .nil) (.node (o217 P) .nil .nil)) (.node (o121 P) (.node (o185 P) .nil .nil) (.node (o249 P) .nil .nil))))
noncomputable def tSf_21 (P : Params) : BT := (.node (o21 P) (.node (o37 P) (.node (o69 P) (.node (o133 P) (.node (o261 P) .nil .nil) .nil) (.node (o197 P) .nil .nil)) (.node (o101 P) (.node (o165 P) .nil .nil) (.node (o229 P) .nil .nil))) (.node (o53 P) (.node (o85 P) (.node (o149 P) (.node (o277 P) .nil .nil) .nil) (.node (o213 P) .nil .nil)) (.node (o117 P) (.node (o181 P) .nil .nil) (.node (o245 P) .nil .nil))))
noncomputable def tSf_29 (P : Params) : BT := (.node (o29 P) (.node (o45 P) (.node (o77 P) (.node (o141 P) (.node (o269 P) .nil .nil) .nil) (.node (o205 P) .nil .nil)) (.node (o109 P) (.node (o173 P) .nil .nil) (.node (o237 P) .nil .nil))) (.node (o61 P) (.node (o93 P) (.node (o157 P) (.node (o285 P) .nil .nil) .nil) (.node (o221 P) .nil .nil)) (.node (o125 P) (.node (o189 P) .nil .nil) (.node (o253 P) .nil .nil))))
noncomputable def tSf_16 (P : Params) : BT := (.node (o16 P) (.node (o32 P) (.node (o64 P) (.node (o128 P) (.node (o256 P) .nil .nil) .nil) (.node (o192 P) .nil .nil)) (.node (o96 P) (.node (o160 P) (.node (o288 P) .nil .nil) .nil) (.node (o224 P) .nil .nil))) (.node (o48 P) (.node (o80 P) (.node (o144 P) (.node (o272 P) .nil .nil) .nil) (.node (o208 P) .nil .nil)) (.node (o112 P) (.node (o176 P) .nil .nil) (.node (o240 P) .nil .nil))))
noncomputable def tSf_24 (P : Params) : BT := (.node (o24 P) (.node (o40 P) (.node (o72 P) (.node (o136 P) (.node (o264 P) .nil .nil) .nil) (.node (o200 P) .nil .nil)) (.node (o104 P) (.node (o168 P) .nil .nil) (.node (o232 P) .nil .nil))) (.node (o56 P) (.node (o88 P) (.node (o152 P) (.node (o280 P) .nil .nil) .nil) (.node (o216 P) .nil .nil)) (.node (o120 P) (.node (o184 P) .nil .nil) (.node (o248 P) .nil .nil))))
noncomputable def tSf_20 (P : Params) : BT := (.node (o20 P) (.node (o36 P) (.node (o68 P) (.node (o132 P) (.node (o260 P) .nil .nil) .nil) (.node (o196 P) .nil .nil)) (.node (o100 P) (.node (o164 P) .nil .nil) (.node (o228 P) .nil .nil))) (.node (o52 P) (.node (o84 P) (.node (o148 P) (.node (o276 P) .nil .nil) .nil) (.node (o212 P) .nil .nil)) (.node (o116 P) (.node (o180 P) .nil .nil) (.node (o244 P) .nil .nil))))
noncomputable def tSf_28 (P : Params) : BT := (.node (o28 P) (.node (o44 P) (.node (o76 P) (.node (o140 P) (.node (o268 P) .nil .nil) .nil) (.node (o204 P) .nil .nil)) (.node (o108 P) (.node (o172 P) .nil .nil) (.node (o236 P) .nil .nil))) (.node (o60 P) (.node (o92 P) (.node (o156 P) (.node (o284 P) .nil .nil) .nil) (.node (o220 P) .nil .nil)) (.node (o124 P) (.node (o188 P) .nil .nil) (.node (o252 P) .nil .nil))))
noncomputable def tSf_18 (P : Params) : BT := (.node (o18 P) (.node (o34 P) (.node (o66 P) (.node (o130 P) (.node (o258 P) .nil .nil) .nil) (.node (o194 P) .nil .nil)) (.node (o98 P) (.node (o162 P) .nil .nil) (.node (o226 P) .nil .nil))) (.node (o50 P) (.node (o82 P) (.node (o146 P) (.node (o274 P) .nil .nil) .nil) (.node (o210 P) .nil .nil)) (.node (o114 P) (.node (o178 P) .nil .nil) (.node (o242 P) .nil .nil))))
noncomputable def tSf_26 (P : Params) : BT := (.node (o26 P) (.node (o42 P) (.node (o74 P) (.node (o138 P) (.node (o266 P) .nil .nil) .nil) (.node (o202 P) .nil .nil)) (.node (o106 P) (.node (o170 P) .nil .nil) (.node (o234 P) .nil .nil))) (.node (o58 P) (.node (o90 P) (.node (o154 P) (.node (o282 P) .nil .nil) .nil) (.node (o218 P) .nil .nil)) (.node (o122 P) (.node (o186 P) .nil .nil) (.node (o250 P) .nil .nil))))
noncomputable def tSf_22 (P : Params) : BT := (.node (o22 P) (.node (o38 P) (.node (o70 P) (.node (o134 P) (.node (o262 P) .nil .nil) .nil) (.node (o198 P) .nil .nil)) (.node (o102 P) (.node (o166 P) .nil .nil) (.node (o230 P) .nil .nil))) (.node (o54 P) (.node (o86 P) (.node (o150 P) (.node (o278 P) .nil .nil) .nil) (.node (o214 P) .nil .nil)) (.node (o118 P) (.node (o182 P) .nil .nil) (.node (o246 P) .nil .nil))))
noncomputable def tSf_30 (P : Params) : BT := (.node (o30 P) (.node (o46 P) (.node (o78 P) (.node (o142 P) (.node (o270 P) .nil .nil) .nil) (.node (o206 P) .nil .nil)) (.node (o110 P) (.node (o174 P) .nil .nil) (.node (o238 P) .nil .nil))) (.node (o62 P) (.node (o94 P) (.node (o158 P) (.node (o286 P) .nil .nil) .nil) (.node (o222 P) .nil .nil)) (.node (o126 P) (.node (o190 P) .nil .nil) (.node (o254 P) .nil .nil))))
noncomputable def treeSf (P : Params) : BT := (.node (o0 P) (.node (o1 P) (.node (o3 P) (.node (o7 P) (tSf_15 P) (tSf_23 P)) (.node (o11 P) (tSf_19 P) (tSf_27 P))) (.node (o5 P) (.node (o9 P) (tSf_17 P) (tSf_25 P)) (.node (o13 P) (tSf_21 P) (tSf_29 P)))) (.node (o2 P) (.node (o4 P) (.node (o8 P) (tSf_16 P) (tSf_24 P)) (.node (o12 P) (tSf_20 P) (tSf_28 P))) (.node (o6 P) (.node (o10 P) (tSf_18 P) (tSf_26 P)) (.node (o14 P) (tSf_22 P) (tSf_30 P)))))
-- steps pre 12 block 0 pieces [29, 9, 774, 29, 9, 259, 33, 31, 9, 77, 69, 77, 33, 726, 9, 26, 36, 26, 36, 31, 26] fin 1
noncomputable def annH : Option Value := some (.ref 6)
noncomputable def framePos : Pos := ⟨0, 0, 0, 0⟩
noncomputable def codeH : Value := (.ref 30)
noncomputable def frameH : Addr := 31
noncomputable def posSa : Pos := ⟨0, 0, 0, 0⟩
noncomputable def posSb : Pos := ⟨0, 0, 0, 0⟩
noncomputable def posS1 : Pos := ⟨5, 0, 5, 8⟩
noncomputable def posS2 : Pos := ⟨6, 0, 6, 6⟩
noncomputable def posS3 : Pos := ⟨42, 0, 42, 8⟩
noncomputable def posS4 : Pos := ⟨46, 0, 54, 20⟩
noncomputable def posS5 : Pos := ⟨55, 0, 136, 93⟩
noncomputable def posS6 : Pos := ⟨205, 0, 229, 93⟩
noncomputable def posSf : Pos := ⟨205, 0, 229, 93⟩
noncomputable def K (P : Params) : Frag := (nat_lit 2, o2 P) :: (nat_lit 3, o3 P) :: (nat_lit 32, o32 P) :: (nat_lit 34, o34 P) :: (nat_lit 35, o35 P) :: (nat_lit 37, o37 P) :: (nat_lit 38, o38 P) :: (nat_lit 52, o52 P) :: (nat_lit 56, o56 P) :: (nat_lit 58, o58 P) :: (nat_lit 59, o59 P) :: (nat_lit 61, o61 P) :: (nat_lit 62, o62 P) :: (nat_lit 70, o70 P) :: (nat_lit 72, o72 P) :: (nat_lit 73, o73 P) :: (nat_lit 75, o75 P) :: (nat_lit 76, o76 P) :: (nat_lit 77, o77 P) :: (nat_lit 79, o79 P) :: (nat_lit 80, o80 P) :: (nat_lit 82, o82 P) :: (nat_lit 83, o83 P) :: (nat_lit 84, o84 P) :: (nat_lit 85, o85 P) :: (nat_lit 86, o86 P) :: (nat_lit 87, o87 P) :: (nat_lit 88, o88 P) :: (nat_lit 91, o91 P) :: (nat_lit 93, o93 P) :: (nat_lit 94, o94 P) :: (nat_lit 96, o96 P) :: (nat_lit 97, o97 P) :: (nat_lit 98, o98 P) :: (nat_lit 100, o100 P) :: (nat_lit 101, o101 P) :: (nat_lit 103, o103 P) :: (nat_lit 104, o104 P) :: (nat_lit 108, o108 P) :: (nat_lit 109, o109 P) :: (nat_lit 113, o113 P) :: (nat_lit 114, o114 P) :: (nat_lit 118, o118 P) :: (nat_lit 119, o119 P) :: (nat_lit 120, o120 P) :: (nat_lit 121, o121 P) :: (nat_lit 123, o123 P) :: (nat_lit 124, o124 P) :: (nat_lit 126, o126 P) :: (nat_lit 127, o127 P) :: (nat_lit 135, o135 P) :: (nat_lit 136, o136 P) :: (nat_lit 138, o138 P) :: (nat_lit 139, o139 P) :: (nat_lit 141, o141 P) :: (nat_lit 142, o142 P) :: (nat_lit 143, o143 P) :: (nat_lit 145, o145 P) :: (nat_lit 146, o146 P) :: (nat_lit 148, o148 P) :: (nat_lit 149, o149 P) :: (nat_lit 150, o150 P) :: (nat_lit 152, o152 P) :: (nat_lit 153, o153 P) :: (nat_lit 155, o155 P) :: (nat_lit 156, o156 P) :: (nat_lit 157, o157 P) :: (nat_lit 159, o159 P) :: (nat_lit 160, o160 P) :: (nat_lit 162, o162 P) :: (nat_lit 163, o163 P) :: (nat_lit 164, o164 P) :: (nat_lit 167, o167 P) :: (nat_lit 168, o168 P) :: (nat_lit 169, o169 P) :: (nat_lit 171, o171 P) :: (nat_lit 172, o172 P) :: (nat_lit 174, o174 P) :: (nat_lit 175, o175 P) :: (nat_lit 176, o176 P) :: (nat_lit 178, o178 P) :: (nat_lit 179, o179 P) :: (nat_lit 181, o181 P) :: (nat_lit 182, o182 P) :: (nat_lit 183, o183 P) :: (nat_lit 186, o186 P) :: (nat_lit 187, o187 P) :: (nat_lit 188, o188 P) :: (nat_lit 189, o189 P) :: (nat_lit 191, o191 P) :: (nat_lit 192, o192 P) :: (nat_lit 194, o194 P) :: (nat_lit 195, o195 P) :: (nat_lit 196, o196 P) :: (nat_lit 199, o199 P) :: (nat_lit 200, o200 P) :: (nat_lit 201, o201 P) :: (nat_lit 204, o204 P) :: (nat_lit 205, o205 P) :: (nat_lit 206, o206 P) :: (nat_lit 208, o208 P) :: (nat_lit 209, o209 P) :: (nat_lit 211, o211 P) :: (nat_lit 212, o212 P) :: (nat_lit 213, o213 P) :: (nat_lit 215, o215 P) :: (nat_lit 216, o216 P) :: (nat_lit 218, o218 P) :: (nat_lit 219, o219 P) :: (nat_lit 220, o220 P) :: (nat_lit 223, o223 P) :: (nat_lit 224, o224 P) :: (nat_lit 225, o225 P) :: (nat_lit 227, o227 P) :: (nat_lit 228, o228 P) :: (nat_lit 230, o230 P) :: (nat_lit 231, o231 P) :: (nat_lit 232, o232 P) :: (nat_lit 234, o234 P) :: (nat_lit 235, o235 P) :: (nat_lit 237, o237 P) :: (nat_lit 238, o238 P) :: (nat_lit 239, o239 P) :: (nat_lit 241, o241 P) :: (nat_lit 242, o242 P) :: (nat_lit 244, o244 P) :: (nat_lit 245, o245 P) :: (nat_lit 246, o246 P) :: (nat_lit 247, o247 P) :: (nat_lit 248, o248 P) :: (nat_lit 249, o249 P) :: (nat_lit 250, o250 P) :: (nat_lit 253, o253 P) :: (nat_lit 256, o256 P) :: (nat_lit 257, o257 P) :: (nat_lit 258, o258 P) :: (nat_lit 260, o260 P) :: (nat_lit 261, o261 P) :: (nat_lit 263, o263 P) :: (nat_lit 264, o264 P) :: (nat_lit 265, o265 P) :: (nat_lit 268, o268 P) :: (nat_lit 269, o269 P) :: (nat_lit 270, o270 P) :: (nat_lit 272, o272 P) :: (nat_lit 273, o273 P) :: (nat_lit 275, o275 P) :: (nat_lit 276, o276 P) :: (nat_lit 277, o277 P) :: (nat_lit 279, o279 P) :: (nat_lit 280, o280 P) :: (nat_lit 282, o282 P) :: (nat_lit 283, o283 P) :: (nat_lit 284, o284 P) :: (nat_lit 287, o287 P) :: (nat_lit 288, o288 P) :: []
noncomputable def Kas : List Addr := 2 :: 3 :: 32 :: 34 :: 35 :: 37 :: 38 :: 52 :: 56 :: 58 :: 59 :: 61 :: 62 :: 70 :: 72 :: 73 :: 75 :: 76 :: 77 :: 79 :: 80 :: 82 :: 83 :: 84 :: 85 :: 86 :: 87 :: 88 :: 91 :: 93 :: 94 :: 96 :: 97 :: 98 :: 100 :: 101 :: 103 :: 104 :: 108 :: 109 :: 113 :: 114 :: 118 :: 119 :: 120 :: 121 :: 123 :: 124 :: 126 :: 127 :: 135 :: 136 :: 138 :: 139 :: 141 :: 142 :: 143 :: 145 :: 146 :: 148 :: 149 :: 150 :: 152 :: 153 :: 155 :: 156 :: 157 :: 159 :: 160 :: 162 :: 163 :: 164 :: 167 :: 168 :: 169 :: 171 :: 172 :: 174 :: 175 :: 176 :: 178 :: 179 :: 181 :: 182 :: 183 :: 186 :: 187 :: 188 :: 189 :: 191 :: 192 :: 194 :: 195 :: 196 :: 199 :: 200 :: 201 :: 204 :: 205 :: 206 :: 208 :: 209 :: 211 :: 212 :: 213 :: 215 :: 216 :: 218 :: 219 :: 220 :: 223 :: 224 :: 225 :: 227 :: 228 :: 230 :: 231 :: 232 :: 234 :: 235 :: 237 :: 238 :: 239 :: 241 :: 242 :: 244 :: 245 :: 246 :: 247 :: 248 :: 249 :: 250 :: 253 :: 256 :: 257 :: 258 :: 260 :: 261 :: 263 :: 264 :: 265 :: 268 :: 269 :: 270 :: 272 :: 273 :: 275 :: 276 :: 277 :: 279 :: 280 :: 282 :: 283 :: 284 :: 287 :: 288 :: []
noncomputable abbrev pw : Program := PySem.Challenge.pw_zd0013_01
noncomputable def bH : List Stmt := behindTheImports pw
noncomputable def envH : Env := { scope := pw.main.scope, locals := mainNs, globals := mainNs, cells := [], code := codeH, frame := some frameH }
noncomputable def cH : Code := .body bH envH
noncomputable def BH : List Frame := [topFrame framePos]
noncomputable abbrev segQ := PySem.W.Fast.tw10110043849684766642
noncomputable abbrev tabQ := PySem.W.Fast.tw14364793385576792824
noncomputable def TSb (w : World) (os : OsState) : SharedT := ⟨treeSb w.params, sizeSb, lifeSb, gensSb, drawnSb, toksSb, os⟩
noncomputable def TS1 (w : World) (os : OsState) : SharedT := ⟨treeS1 w.params, sizeS1, lifeS1, gensS1, drawnS1, toksS1, os⟩
noncomputable def TS2 (w : World) (os : OsState) : SharedT := ⟨treeS2 w.params, sizeS2, lifeS2, gensS2, drawnS2, toksS2, os⟩
noncomputable def TS3 (w : World) (os : OsState) : SharedT := ⟨treeS3 w.params, sizeS3, lifeS3, gensS3, drawnS3, toksS3, os⟩
noncomputable def TS4 (w : World) (os : OsState) : SharedT := ⟨treeS4 w.params, sizeS4, lifeS4, gensS4, drawnS4, toksS4, os⟩
noncomputable def TS5 (w : World) (os : OsState) : SharedT := ⟨treeS5 w.params, sizeS5, lifeS5, gensS5, drawnS5, toksS5, os⟩
noncomputable def TS6 (w : World) (os : OsState) : SharedT := ⟨treeS6 w.params, sizeS6, lifeS6, gensS6, drawnS6, toksS6, os⟩
noncomputable def l1 : List Stmt := [stm 1, stm 2]
noncomputable def l2 : List Stmt := [stm 3]
noncomputable def l3 : List Stmt := [stm 4, stm 5, stm 6, stm 7, stm 8, stm 9]
noncomputable def l4 : List Stmt := [stm 10, stm 11, stm 12, stm 13]
noncomputable def l5 : List Stmt := [stm 14]
noncomputable def l6 : List Stmt := [stm 15, stm 16, stm 17, stm 18, stm 19, stm 20, stm 21]
noncomputable abbrev goQ := PySem.W.Fast.tw15667345088766844465
noncomputable abbrev runQ := PySem.W.Fast.tw14082659384304107361
noncomputable abbrev denQ := PySem.W.Fast.tw11892475500146522536
theorem den_tw : @denote = denQ := PySem.W.Fast.te11892475500146522536
noncomputable abbrev srQ := PySem.W.Fast.tw14374325043358763698
theorem seg_tw : @segRunT = segQ := PySem.W.Fast.te10110043849684766642
theorem go_tw : @topGo = goQ := PySem.W.Fast.te15667345088766844465
theorem run_tw : @topRun = runQ := PySem.W.Fast.te14082659384304107361
theorem sr_tw : @segRun = srQ := PySem.W.Fast.te14374325043358763698
theorem tab_tw : treeTable = tabQ := PySem.W.Fast.te14364793385576792824
noncomputable abbrev P2 (w : World) : Prop := (fun os => segQ tabQ pw w sizeS0 annH 1 775 (TS1 w os) (piecesOf l2 envH cH posS1 BH)) = fun os => some (.next, TS2 w os, cH, posS2)
theorem p2ff (w : World) : P2 ((w.withFollow "special-get-raises" false).withFollow "set-order" false) := by kernel_rfl
theorem p2ft (w : World) : P2 ((w.withFollow "special-get-raises" true).withFollow "set-order" false) := by kernel_rfl
theorem p2tf (w : World) : P2 ((w.withFollow "special-get-raises" false).withFollow "set-order" true) := by kernel_rfl
theorem p2tt (w : World) : P2 ((w.withFollow "special-get-raises" true).withFollow "set-order" true) := by kernel_rfl
theorem p2 (w : World) : P2 w :=
  byRow2 "set-order" (P := P2) (byRow2 "special-get-raises" (P := fun w => P2 (w.withFollow "set-order" false)) p2ff p2ft) (byRow2 "special-get-raises" (P := fun w => P2 (w.withFollow "set-order" true)) p2tf p2tt) w
theorem p1 (w : World) : (fun os => segQ tabQ pw w sizeS0 annH 1 39 (TSb w os) (piecesOf l1 envH cH posSb BH)) = fun os => some (.next, TS1 w os, cH, posS1) := by kernel_rfl
theorem p3 (w : World) : (fun os => segQ tabQ pw w sizeS0 annH 1 371 (TS2 w os) (piecesOf l3 envH cH posS2 BH)) = fun os => some (.next, TS3 w os, cH, posS3) := by kernel_rfl
theorem p4 (w : World) : (fun os => segQ tabQ pw w sizeS0 annH 1 257 (TS3 w os) (piecesOf l4 envH cH posS3 BH)) = fun os => some (.next, TS4 w os, cH, posS4) := by kernel_rfl
theorem p5 (w : World) : (fun os => segQ tabQ pw w sizeS0 annH 1 727 (TS4 w os) (piecesOf l5 envH cH posS4 BH)) = fun os => some (.next, TS5 w os, cH, posS5) := by kernel_rfl
theorem p6 (w : World) : (fun os => segQ tabQ pw w sizeS0 annH 1 191 (TS5 w os) (piecesOf l6 envH cH posS5 BH)) = fun os => some (.next, TS6 w os, cH, posS6) := by kernel_rfl
noncomputable def AS0 (w : World) (os : OsState) : Shared := ⟨heapS0 w.params, gensS0, drawnS0, toksS0, os⟩
noncomputable def ASa (w : World) (os : OsState) : Shared := ⟨heapSa w.params, gensSa, drawnSa, toksSa, os⟩
noncomputable def ASf (w : World) (os : OsState) : Shared := ⟨heapSf w.params, gensSf, drawnSf, toksSf, os⟩
theorem q0 (w : World) : (fun os => goQ tabQ pw w sizeS0 annH 12 (AS0 w os) (topStub pw)) = fun os => some (ASa w os, ⟨denQ tabQ cH, cH, posSa, BH⟩) := by kernel_rfl
theorem qb (w : World) : (fun os => srQ tabQ pw w sizeS0 annH 1 1 (ASa w os) (blockOf bH envH cH posSa BH)) = fun os => some (.next, (TSb w os).abs, cH, posSb) := by kernel_rfl
theorem qf (w : World) : (fun os => runQ tabQ pw w sizeS0 annH 2 (TS6 w os).abs (restOf [] envH cH posS6 BH)) = fun os => some (ASf w os) := by kernel_rfl
theorem seg_of {w : World} {N : Nat} {S T : World → OsState → SharedT} {l : List Stmt} {q q' : Pos} (h : (fun os => segQ tabQ pw w sizeS0 annH 1 N (S w os) (piecesOf l envH cH q BH)) = fun os => some (.next, T w os, cH, q')) (os : OsState) :
    segRun treeTable pw w sizeS0 annH 1 N (S w os).abs (piecesOf l envH cH q BH) = some (.next, (T w os).abs, cH, q') := by
  have h1 := congrFun h os
  rw [← seg_tw, ← tab_tw] at h1
  exact segRun_of h1
theorem body_is : bH = l1 ++ (l2 ++ (l3 ++ (l4 ++ (l5 ++ (l6 ++ []))))) := by kernel_rfl
theorem run_is (w : World) (os : OsState) : topRun treeTable pw w sizeS0 annH (12 + (1 + (39 + (775 + (371 + (257 + (727 + (191 + 2)))))))) (AS0 w os) (topStub pw) = some (ASf w os) := by
  have e0 := congrFun (q0 w) os
  have eb := congrFun (qb w) os
  have ef := congrFun (qf w) os
  rw [← go_tw, ← tab_tw, ← den_tw] at e0
  rw [← sr_tw, ← tab_tw] at eb
  rw [← run_tw, ← tab_tw] at ef
  refine go_top e0 (piece_block eb ?_)
  rw [body_is]
  exact piece_app (seg_of (p1 w) os) (piece_app (seg_of (p2 w) os) (piece_app (seg_of (p3 w) os) (piece_app (seg_of (p4 w) os) (piece_app (seg_of (p5 w) os) (piece_app (seg_of (p6 w) os) ef)))))
theorem open_is (w : World) : (fencedOpening treeTable pw w 4834).map (fun s => (s.heap, s.gens, s.drawn, s.toks)) = some (heapS0 w.params, gensS0, drawnS0, toksS0) := by kernel_rfl
theorem size_is (w : World) : ((heapS0 w.params).isNs mainGlobals && gensS0.size == 0, (heapS0 w.params).objs.size, (heapS0 w.params).nsMap mainGlobals "__annotations__") = (true, sizeS0, annH) := by kernel_rfl
noncomputable def qv : Program := view PySem.Challenge.pw_zd0013_01 [0, 1, 3, 4, 6, 7, 8, 10, 11, 12, 14, 16, 17, 18, 19, 20, 21]
noncomputable def lsv : List Str := ["c8_set", "tspecials", "_name_disallowed_re", "_value_disallowed_re", "_formatparam"]
end Mine
end
section
open PySem PySem.W PySem.Calls PyProof.Rows
set_option Elab.async false
set_option linter.unusedVariables false
namespace Mine
set_option maxRecDepth 1000000
set_option maxHeartbeats 0
noncomputable abbrev seenQ := PySem.W.Fast.tw4187177175401517315
theorem seen_tw : @openSeen = seenQ := PySem.W.Fast.te4187177175401517315
noncomputable abbrev HK : Hook := kHook K Kas (fun _ => by kernel_rfl)
noncomputable abbrev XtL : Shared → Bool := fun s => xlAt qv [] s && recOk [] s
theorem looks1 (w : World) : (fun os => (staticsOk (importedModules pw.main.body) (heapS0 w.params) (heapSf w.params) && namesBound pw (heapSf w.params) && gensDone (ASf w os) && laidKept (heapS0 w.params) (heapSf w.params))) = fun _ => true := by kernel_rfl
theorem looks2 (w : World) : (fun os => openSeen qv lsv (importedModules pw.main.body) XtL true (ASf w os)) = fun _ => openGood qv lsv := by
  rw [seen_tw]; kernel_rfl
theorem looks3 (w : World) : (fun os => HK.obs (ASf w os)) = fun _ => HK.val w := by kernel_rfl
theorem left : LeftO pw qv lsv XtL HK.obs HK.val 4834 := by
  refine LeftO.of_pieces (H₀ := heapS0) (H₁ := heapSf) (gs₀ := gensS0) (gs₁ := gensSf) (d₀ := drawnS0) (d₁ := drawnSf) (k₀ := toksS0) (k₁ := toksSf) (m₀ := sizeS0) (ann := annH) (M := 12 + (1 + (39 + (775 + (371 + (257 + (727 + (191 + 2)))))))) open_is size_is run_is (by decide) (fun w => funext fun os => ?_)
  have h1 := congrFun (looks1 w) os
  have h2 := congrFun (looks2 w) os
  have h3 := congrFun (looks3 w) os
  exact Prod.ext h1 (Prod.ext h2 h3)
end Mine
end
section
open PySem PySem.W PySem.Calls PyProof.Rows PySem.Spec
set_option Elab.async false
set_option linter.unusedVariables false
namespace Mine
noncomputable abbrev MW (w : World) : Model := model PySem.Challenge.rw_zd0013_01.row.prog w
noncomputable abbrev arA (dp un : Nat) (fr : Option (List Env)) (gd : Option (List Code)) : Around := { handled := none, depth := dp, frames := fr, guards := gd, units := un }
noncomputable abbrev Sub (h h' : Heap) : Prop := ∀ b o, h.get? b = some o → h'.get? b = some o
theorem Sub.rfl' {h : Heap} : Sub h h := fun _ _ e => e
theorem Sub.trans {a b c : Heap} (x : Sub a b) (y : Sub b c) : Sub a c := fun p o e => y p o (x p o e)
structure Cx (w : World) (h : Heap) : Prop where
  k : (K w.params).In h
  t : ∃ mean mg mb, Top qv (looseW qv lsv) mean mg mb h
theorem Cx.sub {w : World} {h h' : Heap} (C : Cx w h) (k : Sub h h') : Cx w h' :=
  ⟨C.k.keeps k, let ⟨a, b, c, t⟩ := C.t; ⟨a, b, c, t.keeps k⟩⟩
noncomputable def retOf (fl : Flow) : Value := match fl with | .ret v => v | _ => .none
theorem enter0 {w : World} {dp un : Nat} {fr : Option (List Env)} {gd : Option (List Code)} {s : Shared} {Q E : Value → Shared → Prop} {name qual : Str} {params : Arguments} {body : List Stmt} {scope : Scope} {dV kV doc pm cdv ct oc : Value} {an od : Option Addr} {osl : Array (Option Value)} {f : Addr} {args : List Value} (binds : List (Str × Value))
    (C : Cx w s.heap) (hroom : dp < recursionLimit)
    (ho : (K w.params).lookup f = some ⟨oc, od, .func (fnOf name qual params body scope dV kV doc pm an cdv ct), osl⟩) (hcd : codeIn (K w.params) cdv qual = true)
    (hbind : bindArgs (fnOf name qual params body scope dV kV doc pm an cdv ct) ⟨args, []⟩ = pure binds) (hloc : (binds.all fun y => decide (scope.names.lookup y.1 = some .local)) = true)
    (h : ∀ h₁, Fr s.heap s.heap.objs.size h₁ (fun y => binds.reverse.lookup y) → (K w.params).In s.heap →
      wpAny (MW w) ((arA dp un fr gd).deeper (envOf qual scope s.heap.objs.size f cdv)) (execs body (envOf qual scope s.heap.objs.size f cdv))
        (fun fl s' => Q (retOf fl) s') (fun _ _ => False) { s with heap := h₁, toks := s.toks + binds.length })
    (hco : scope.isCoroutine = false := by rfl) (hgen : scope.isGenerator = false := by rfl) (hk : scope.kind = .function := by rfl)
    (hcell : (scope.names.all fun x => decide (x.2 ≠ .cell)) = true := by rfl) :
    wpAny (MW w) (arA dp un fr gd) (call (.ref f) args) Q E s := by
  obtain ⟨mean, mg, mb, T⟩ := C.t
  refine wpAny_call ?_
  refine codeAny_call_def (fd := fnOf name qual params body scope dV kV doc pm an cdv ct) (body := body) (binds := binds) hroom (C.k _ _ ho) rfl T.nolimit (codeRec_of C.k hcd) rfl (BindsTo.of_eq hbind)
    (fun x hx => of_decide_eq_true (List.all_eq_true.mp hcell x hx)) (fun x hx => of_decide_eq_true (List.all_eq_true.mp hloc x hx)) (fun h₁ hns hk₁ => ?_) hco hgen hk
  refine wpAny_mono (h h₁ ⟨hns, hk₁, Nat.le_refl _⟩ C.k) (fun fl s' q => ?_) fun e s' q => q.elim
  cases fl <;> exact q
end Mine
end
section
open PySem PySem.W PySem.Calls PyProof.Rows PySem.Spec
set_option Elab.async false
set_option linter.unusedVariables false
set_option maxRecDepth 100000
namespace Mine
/-- all but the object at a is kept -/
noncomputable abbrev But (a : Addr) (h h' : Heap) : Prop := ∀ b o, b ≠ a → h.get? b = some o → h'.get? b = some o
theorem Sub.but {h h' : Heap} (k : Sub h h') (a : Addr) : But a h h' := fun b o _ e => k b o e
theorem fr_but {g h h' : Heap} {L a : Addr} {m : Str → Option Value} (F : Fr g L h m) (k : But a h h') (ha : g.get? a = none) (hL : a ≠ L) : Fr g L h' m :=
  ⟨F.ns.at' fun o e => k L o (Ne.symm hL) e, fun b o e => k b o (fun q => by rw [q, ha] at e; cases e) (F.keep b o e), F.above⟩
theorem fr_sub {g h h' : Heap} {L : Addr} {m : Str → Option Value} (F : Fr g L h m) (k : Sub h h') : Fr g L h' m :=
  ⟨F.ns.at' fun o e => k L o e, fun b o e => k b o (F.keep b o e), F.above⟩
theorem news_but {g h h' : Heap} {L a : Addr} {news : List (Addr × Obj)} (N : News g L h news) (k : But a h h') (hn : ∀ p ∈ news, p.1 ≠ a) : News g L h' news :=
  fun p hp => ⟨k p.1 p.2 (hn p hp) (N p hp).1, (N p hp).2⟩
theorem news_sub {g h h' : Heap} {L : Addr} {news : List (Addr × Obj)} (N : News g L h news) (k : Sub h h') : News g L h' news :=
  fun p hp => ⟨k p.1 p.2 (N p hp).1, (N p hp).2⟩
theorem news_cons {g h : Heap} {L a : Addr} {o : Obj} {news : List (Addr × Obj)} (N : News g L h news) (ho : h.get? a = some o) (hL : a ≠ L) (hg : g.get? a = none) : News g L h ((a, o) :: news) :=
  fun p hp => by rcases List.mem_cons.mp hp with rfl | hp; exact ⟨ho, hL, hg⟩; exact N p hp
theorem news_tail {g h : Heap} {L : Addr} {p : Addr × Obj} {news : List (Addr × Obj)} (N : News g L h (p :: news)) : News g L h news := fun q hq => N q (.tail _ hq)
theorem news_head {g h : Heap} {L : Addr} {p : Addr × Obj} {news : List (Addr × Obj)} (N : News g L h (p :: news)) : h.get? p.1 = some p.2 ∧ p.1 ≠ L ∧ g.get? p.1 = none := N p (.head _)
theorem news_lt {g h : Heap} {L : Addr} {news : List (Addr × Obj)} (N : News g L h news) : ∀ p ∈ news, p.1 < h.objs.size := fun p hp => Heap.lt_size (N p hp).1
theorem none_of_size {g h : Heap} (k : Sub g h) {a : Addr} (ha : h.get? a = none) : g.get? a = none := by
  cases q : g.get? a with
  | none => rfl
  | some o => rw [k a o q] at ha; cases ha
theorem none_ge {h : Heap} {a : Addr} (ha : h.objs.size ≤ a) : h.get? a = none := by
  cases q : h.get? a with
  | none => rfl
  | some o => exact absurd (Heap.lt_size q) (Nat.not_lt.mpr ha)
noncomputable def TurnPost (g : Heap) (L it : Addr) (oit : Obj) (J : (Str → Option Value) → List (Addr × Obj) → Prop) (s : Shared) (Q : Flow → Shared → Prop) (f : Flow) (s₂ : Shared) : Prop :=
  match f with
  | .ret v => Q (.ret v) s₂
  | .brk => Q .next s₂
  | _ => ∃ h' tk m₂ news₂, s₂ = { s with heap := h', toks := tk } ∧ Fr g L h' m₂ ∧ News g L h' ((it, oit) :: news₂) ∧ (∀ p ∈ news₂, p.1 ≠ it) ∧ J m₂ news₂
section
variable {prog : Program} {w : World} {K : Type} [DecidableEq K] {knd : KeyKind prog w K} {A : Around} {s : Shared} {env : Env}
theorem forItems {Q : Flow → Shared → Prop} {g : Heap} {xk xv : Str} {pk pv pt pos apos cpos : Pos} {x1} {o : Expr} {body : List Stmt} {d : Addr} {kvs : List (K × Value)} {ep : Nat} {m : Str → Option Value} {news : List (Addr × Obj)}
    (J : Nat → (Str → Option Value) → List (Addr × Obj) → Prop)
    (hh : A.handled = none) (hxk : env.kindOf xk = some .local) (hxv : env.kindOf xv = some .local)
    (hp : (env.scope.kind == .class || (env.scope.kind == .module && env.locals != env.globals)) = false)
    (hdS : (d == sysModules) = false) (F : Fr g env.locals s.heap m) (N : News g env.locals s.heap news) (hm : s.heap.DictAt knd d kvs ep)
    (hsrc : ∀ i m' news' h', J i m' news' → Fr g env.locals h' m' → News g env.locals h' news' → h'.DictAt knd d kvs ep)
    (hbase : attributeBase o "items" env (eval o env) = eval o env) (hline : (apos.endLine == cpos.line) = true)
    (ho : ∀ Q' E', Q' (.ref d) s → wpAny (model prog w) A (eval o env) Q' E' s)
    (h0 : J 0 m news)
    (turn : ∀ i k v key m₁ news₁ it oit s₁, kvs[i]? = some (k, v) → knd.is k key = true → J i m₁ news₁ → (∀ p ∈ news₁, p.1 ≠ it) → (∃ h tk, s₁ = { s with heap := h, toks := tk }) →
      Fr g env.locals s₁.heap (fun y => if y = xv then some v else if y = xk then some key else m₁ y) → News g env.locals s₁.heap ((it, oit) :: news₁) →
      wpAny (model prog w) A (execs body env) (TurnPost g env.locals it oit (J (i + 1)) s Q) (fun _ _ => False) s₁)
    (done : ∀ h' tk m' news', Fr g env.locals h' m' → News g env.locals h' news' → J kvs.length m' news' → Q .next { s with heap := h', toks := tk })
    (hs : ∀ x, foldedSetIterable (.Call (.Attribute o "items" apos) [] [] cpos) env x = pure x := by intro _; rfl) :
    wpAny (model prog w) A (exec (.For (.Tuple [.Name xk pk, .Name xv pv] x1 pt) (.Call (.Attribute o "items" apos) [] [] cpos) body [] pos) env) Q (fun _ _ => False) s := by
  refine wpAny_For (wpAny_Call_items hdS hm.dictOf hbase hline (fun Q' q => ho Q' _ q) ?_) hs
  refine wpAny_pyIter_items (knd := knd) (d := d) (kvs := kvs) (ep := ep) ⟨_, Heap.get?_push_size _ rfl, rfl, rfl⟩ (hm.push _) ?_
  have hsz : (s.heap.push { cls := .type "dict_items", data := .fields #[.ref d] }).objs.size = s.heap.objs.size + 1 := Heap.size_push ..
  generalize hH : s.heap.push { cls := .type "dict_items", data := .fields #[.ref d] } = H at hsz
  have kH : Sub s.heap H := by subst hH; exact fun b o e => Heap.get?_push_of_some _ e
  have FH : Fr g env.locals H m := fr_sub F kH
  have NH : News g env.locals H news := news_sub N kH
  show codeAny _ _ (.forLoop _ (.ref H.objs.size) _ _ _) _ { s with heap := H.push _ }
  generalize hI : H.push { cls := .type "dict_itemiterator", data := .fields #[.none, .bool false, .ref d, .int 0 0, .int kvs.length 0, .int ep 0, .none, .none] } = H2
  have kI : Sub H H2 := by subst hI; exact fun b o e => Heap.get?_push_of_some _ e
  have hit0 : IsItemIter H2 H.objs.size d 0 kvs.length ep .none .none := by subst hI; exact Heap.get?_push_size _ rfl
  have hgit : g.get? H.objs.size = none := none_of_size FH.keep (none_ge (Nat.le_refl _))
  have hLit : H.objs.size ≠ env.locals := Nat.ne_of_gt FH.ns.lt
  have hnit : ∀ p ∈ news, p.1 ≠ H.objs.size := fun p hp => Nat.ne_of_lt (news_lt NH p hp)
  generalize H.objs.size = it at hit0 hgit hLit hnit
  refine codeAny_forLoop_any
    (fun n s' => ∃ h' tk m' news' i ok ov, s' = { s with heap := h', toks := tk } ∧ IsItemIter h' it d i kvs.length ep ok ov ∧ Fr g env.locals h' m' ∧ News g env.locals h' news' ∧ (∀ p ∈ news', p.1 ≠ it) ∧ J i m' news' ∧ i ≤ kvs.length ∧
      n = kvs.length + 1 - i) ?_ (kvs.length + 1)
    ⟨H2, s.toks, m, news, 0, .none, .none, rfl, hit0, fr_sub FH kI, news_sub NH kI, hnit, h0, Nat.zero_le _, rfl⟩
  rintro n s' ⟨H3, tk, m', news', i, ok, ov, rfl, hit', F', N', hn', hJ, hi, rfl⟩
  have hm' := hsrc i m' news' H3 hJ F' N'
  have hdi : d ≠ it := by
    rintro rfl
    obtain ⟨oo, es, he, hc, _⟩ := hm'
    rw [hit'] at he; cases he; exact absurd hc.1 (by simp)
  cases hv : kvs[i]? with
  | none =>
    have hsz : i = kvs.length := Nat.le_antisymm hi (by simpa using hv)
    refine wpAny_pyNext_items_end hh hit' hm' hv fun h₁ he₁ => wpAny_execs_nil ?_
    have kb : But it H3 h₁ := fun b o hb e => he₁ b o hb e
    exact done h₁ tk m' news' (fr_but F' kb hgit hLit) (news_but N' kb hn') (hsz ▸ hJ)
  | some kv =>
    obtain ⟨k, v⟩ := kv
    have hlt : i < kvs.length := (List.getElem?_eq_some_iff.mp hv).1
    refine wpAny_pyNext_items_item hit' hm' hv fun key h₁ hkey heo ht₁ hz₁ hk₁ => ?_
    refine wpAny_letOwnedTupleGo_items heo fun h₂ he₂ hs₂ => ?_
    replace hs₂ : Heap.SameBut it h₁ h₂ := hs₂
    have hiH : it < H3.objs.size := Heap.lt_size hit'
    have ht₂ : h₂.IsTuple H3.objs.size #[key, v] := ⟨_, (hs₂.2 _ (Nat.ne_of_gt hiH)).trans ht₁, rfl, _, rfl⟩
    refine wpAny_assign_Tuple hh ht₂ rfl rfl fun h₃ hx₃ => ?_
    have k3 : Sub h₂ h₃ := fun b o e => hx₃ b o (Nat.ne_of_lt (Heap.lt_size e)) e
    have kb3 : But it H3 h₃ := fun b o hb e => k3 b o (hs₂.extBut b o hb (hk₁ b o hb e))
    have F3 : Fr g env.locals h₃ m' := fr_but F' kb3 hgit hLit
    have N3 : News g env.locals h₃ news' := news_but N' kb3 hn'
    have hit3 : IsItemIter h₃ it d (i + 1) kvs.length ep key v := k3 _ _ he₂
    have N4 := news_cons N3 hit3 hLit hgit
    show wpAny _ _ (do holding [v] (assign (.Name xk pk) env key); do holding [] (assign (.Name xv pv) env v); pure ()) _ _ _
    refine wpAny_bind (wpAny_holding (wpAny_assign_Name (wpAny_storeName_local hxk F3.ns (fun h₄ hn₄ hs₄ => ?_) hp)))
    have F4 := F3.set hn₄ hs₄
    have N5 := N4.set hs₄
    refine wpAny_bind (wpAny_holding (wpAny_assign_Name (wpAny_storeName_local hxv hn₄ (fun h₅ hn₅ hs₅ => wpAny_pure ?_) hp)))
    have F5 := F4.set hn₅ hs₅
    have N6 := N5.set hs₅
    refine wpAny_mono (turn i k v key m' news' it _ _ hv hkey hJ hn' ⟨_, _, rfl⟩ F5 N6) (fun f s₃ h₆ => ?_) fun _ _ x => x.elim
    cases f with
    | ret v => exact h₆
    | brk => exact h₆
    | next => exact by obtain ⟨h', tk', m₂, news₂, rfl, F6, N6, hne, hJ6⟩ := h₆; exact ⟨kvs.length + 1 - (i + 1), by omega, h', tk', m₂, news₂, i + 1, key, v, rfl, (N6 _ (.head _)).1, F6, news_tail N6, hne, hJ6, hlt, rfl⟩
    | cont => exact by obtain ⟨h', tk', m₂, news₂, rfl, F6, N6, hne, hJ6⟩ := h₆; exact ⟨kvs.length + 1 - (i + 1), by omega, h', tk', m₂, news₂, i + 1, key, v, rfl, (N6 _ (.head _)).1, F6, news_tail N6, hne, hJ6, hlt, rfl⟩
end
end Mine
end
section
open PySem PySem.W PySem.Calls PyProof.Rows PySem.Spec
set_option Elab.async false
set_option linter.unusedVariables false
set_option maxRecDepth 100000
namespace Mine
section
variable {prog : Program} {w : World} {A : Around} {s : Shared} {env : Env}
theorem loopWalk {Q : Flow → Shared → Prop} {g : Heap} {target : Expr} {body : List Stmt} {I : Addr} {fp wr : List Addr} {n : Nat} {P : Nat → Value → Prop} {St : Nat → Heap → Prop} {ob : Nat → Obj → Prop} {Src : Heap → Prop} {m : Str → Option Value} {news : List (Addr × Obj)}
    (W : Walks prog w A I fp wr n P St) (hwr : ∀ b ∈ wr, b = I) (hst : ∀ i h, St i h ↔ (∃ o, h.get? I = some o ∧ ob i o) ∧ Src h)
    (J : Nat → (Str → Option Value) → List (Addr × Obj) → Prop)
    (hgo : ∀ i (s' : Shared) v (Q' : Unit → Shared → Prop) (E' : Value → Shared → Prop), St i s'.heap → Q' () s' → wpAny (model prog w) A (letOwnedTupleGo target (.ref I) v) Q' E' s')
    (F : Fr g env.locals s.heap m) (N : News g env.locals s.heap news) (hgit : g.get? I = none) (hLit : I ≠ env.locals) (hnit : ∀ p ∈ news, p.1 ≠ I)
    (hs0 : St 0 s.heap)
    (hsrc : ∀ i m' news' h', J i m' news' → Fr g env.locals h' m' → News g env.locals h' news' → Src h')
    (h0 : J 0 m news)
    (turn : ∀ i v m₁ news₁ oit s₁, i < n → P i v → J i m₁ news₁ → (∀ p ∈ news₁, p.1 ≠ I) → (∃ h tk, s₁ = { s with heap := h, toks := tk }) →
      Fr g env.locals s₁.heap m₁ → News g env.locals s₁.heap ((I, oit) :: news₁) →
      wpAny (model prog w) A (assign target env v) (fun _ s₂ => wpAny (model prog w) A (execs body env) (TurnPost g env.locals I oit (J (i + 1)) s Q) (fun _ _ => False) s₂) (fun _ _ => False) s₁)
    (done : ∀ h' tk m' news', Fr g env.locals h' m' → News g env.locals h' news' → J n m' news' → Q .next { s with heap := h', toks := tk }) :
    codeAny (model prog w) A (.forLoop target (.ref I) body [] env) (fun r s' => match r with | .ok f => Q f s' | .error e => cameBackBy (model prog w) A env (fun _ _ => False) e s') s := by
  refine codeAny_forLoop_any
    (fun k s' => ∃ h' tk m' news' i oit, s' = { s with heap := h', toks := tk } ∧ h'.get? I = some oit ∧ ob i oit ∧ Fr g env.locals h' m' ∧ News g env.locals h' news' ∧ (∀ p ∈ news', p.1 ≠ I) ∧ J i m' news' ∧ i ≤ n ∧ k = n + 1 - i) ?_ (n + 1) ?_
  · rintro k s' ⟨H, tk, m', news', i, oit, rfl, hI, hob, F', N', hne, hJ, hi, rfl⟩
    have hS : St i H := (hst i H).mpr ⟨⟨oit, hI, hob⟩, hsrc i m' news' H hJ F' N'⟩
    by_cases hlt : i < n
    · refine W.item i _ _ _ hlt hS fun v h' tk' hP hS' hk => ?_
      have kb : But I H h' := fun b o hb e => hk b o (fun q => hb (hwr b q)) e
      have F1 : Fr g env.locals h' m' := fr_but F' kb hgit hLit
      have N1 : News g env.locals h' news' := news_but N' kb hne
      obtain ⟨⟨oit', hI', hob'⟩, hS2⟩ := (hst (i + 1) h').mp hS'
      refine hgo (i + 1) { s with heap := h', toks := tk' } v _ _ hS' ?_
      refine wpAny_mono (turn i v m' news' oit' { s with heap := h', toks := tk' } hlt hP hJ hne ⟨_, _, rfl⟩ F1 (news_cons N1 hI' hLit hgit)) (fun _ s₂ h₂ => ?_) fun _ _ x => x.elim
      refine wpAny_mono h₂ (fun f s₃ h₃ => ?_) fun _ _ x => x.elim
      cases f with
      | ret v => exact h₃
      | brk => exact h₃
      | next => obtain ⟨h6, tk6, m₂, news₂, rfl, F6, N6, hne6, hJ6⟩ := h₃; exact ⟨n + 1 - (i + 1), by omega, h6, tk6, m₂, news₂, i + 1, oit', rfl, (N6 _ (.head _)).1, hob', F6, news_tail N6, hne6, hJ6, hlt, rfl⟩
      | cont => obtain ⟨h6, tk6, m₂, news₂, rfl, F6, N6, hne6, hJ6⟩ := h₃; exact ⟨n + 1 - (i + 1), by omega, h6, tk6, m₂, news₂, i + 1, oit', rfl, (N6 _ (.head _)).1, hob', F6, news_tail N6, hne6, hJ6, hlt, rfl⟩
    · have he : i = n := Nat.le_antisymm hi (Nat.not_lt.mp hlt)
      subst he
      refine W.done _ _ _ hS fun h' tk' hk => wpAny_execs_nil ?_
      have kb : But I H h' := fun b o hb e => hk b o (fun q => hb (hwr b q)) e
      exact done h' tk' m' news' (fr_but F' kb hgit hLit) (news_but N' kb hne) hJ
  · obtain ⟨⟨o, ho, hob⟩, _⟩ := (hst 0 _).mp hs0
    exact ⟨s.heap, s.toks, m, news, 0, o, rfl, ho, hob, F, N, hnit, h0, Nat.zero_le _, rfl⟩
end
end Mine
end
section
open PySem PySem.W PySem.Calls PyProof.Rows PySem.Spec
set_option Elab.async false
set_option linter.unusedVariables false
set_option maxRecDepth 100000
namespace Mine
noncomputable def bs (i j : Nat) : Stmt := (fBody (stm i)).getD j (.Pass noPos)
/-- entries of a table of ints -/
inductive IV : List (Int × Value) → List (Int × Int) → Prop
  | nil : IV [] []
  | cons (k n : Int) (t : Tok) {kvs : List (Int × Value)} {es : List (Int × Int)} : IV kvs es → IV ((k, .int n t) :: kvs) ((k, n) :: es)
noncomputable def iput (es : List (Int × Int)) (k n : Int) : List (Int × Int) := if es.any (fun e => e.1 = k) then es.map (fun e => if e.1 = k then (e.1, n) else e) else es ++ [(k, n)]
noncomputable def ilook (es : List (Int × Int)) (k : Int) : Option Int := (es.find? fun e => e.1 = k).map (·.2)
theorem IV.len {kvs : List (Int × Value)} {es : List (Int × Int)} (x : IV kvs es) : kvs.length = es.length := by induction x <;> simp_all
theorem IV.any {kvs : List (Int × Value)} {es : List (Int × Int)} (x : IV kvs es) (k : Int) : kvs.any (fun e => e.1 = k) = es.any (fun e => e.1 = k) := by induction x <;> simp_all
theorem IV.app {a b : List (Int × Value)} {c d : List (Int × Int)} (x : IV a c) (y : IV b d) : IV (a ++ b) (c ++ d) := by
  induction x with
  | nil => exact y
  | cons k n t _ ih => exact .cons k n t ih
theorem IV.mapPut {kvs : List (Int × Value)} {es : List (Int × Int)} (x : IV kvs es) (k n : Int) (t : Tok) : IV (kvs.map fun e => if e.1 = k then (e.1, .int n t) else e) (es.map fun e => if e.1 = k then (e.1, n) else e) := by
  induction x with
  | nil => exact .nil
  | cons k' n' t' _ ih =>
    simp only [List.map_cons]
    by_cases h : k' = k
    · simp only [h, if_true]; exact .cons _ _ _ (by simpa [h] using ih)
    · simp only [h, if_false]; exact .cons _ _ _ ih
theorem IV.put {kvs : List (Int × Value)} {es : List (Int × Int)} (x : IV kvs es) (k n : Int) (t : Tok) : IV (stored kvs k (.int n t)) (iput es k n) := by
  unfold stored iput
  rw [x.any k]
  split
  · exact x.mapPut k n t
  · exact x.app (.cons _ _ _ .nil)
theorem IV.look {kvs : List (Int × Value)} {es : List (Int × Int)} (x : IV kvs es) (k : Int) : (valueAt kvs k = none ∧ ilook es k = none) ∨ ∃ n t, valueAt kvs k = some (.int n t) ∧ ilook es k = some n := by
  induction x with
  | nil => exact .inl ⟨rfl, rfl⟩
  | cons k' n' t' _ ih =>
    by_cases h : k' = k
    · exact .inr ⟨n', t', by simp [valueAt, h], by simp [ilook, h]⟩
    · simpa [valueAt, ilook, h] using ih
theorem IV.get {kvs : List (Int × Value)} {es : List (Int × Int)} (x : IV kvs es) : ∀ {i : Nat} {k : Int} {v : Value}, kvs[i]? = some (k, v) → ∃ n t, v = .int n t ∧ es[i]? = some (k, n) := by
  induction x with
  | nil => intro i k v h; simp at h
  | cons k' n' t' _ ih =>
    intro i k v h
    cases i with
    | zero => simp at h; obtain ⟨rfl, rfl⟩ := h; exact ⟨_, _, rfl, rfl⟩
    | succ i => simpa using ih (by simpa using h)
section
variable (prog : Program) (w : World)
noncomputable def IntD (h : Heap) (d : Addr) (es : List (Int × Int)) : Prop := ∃ kvs, h.DictOf (intKind prog w) d kvs ∧ IV kvs es
noncomputable def IsIntD (o : Obj) (es : List (Int × Int)) : Prop := ∃ kvs, o.IsDictOf (intKind prog w) kvs ∧ IV kvs es
end
theorem IntD.keep {prog : Program} {w : World} {h h' : Heap} {d : Addr} {es : List (Int × Int)} (x : IntD prog w h d es) (k : Sub h h') : IntD prog w h' d es := let ⟨kvs, a, b⟩ := x; ⟨kvs, a.keep k, b⟩
theorem intD_iff {prog : Program} {w : World} {h : Heap} {d : Addr} {es : List (Int × Int)} : IntD prog w h d es ↔ ∃ o, h.get? d = some o ∧ IsIntD prog w o es :=
  ⟨fun ⟨kvs, a, b⟩ => let ⟨o, ho, c⟩ := Heap.dictOf_iff.mp a; ⟨o, ho, kvs, c, b⟩, fun ⟨o, ho, kvs, c, b⟩ => ⟨kvs, Heap.dictOf_iff.mpr ⟨o, ho, c⟩, b⟩⟩
theorem Cx.size {w : World} {h : Heap} (C : Cx w h) : 288 < h.objs.size := Heap.lt_size (C.k 288 _ rfl)
/-- an address that is not sys.modules -/
theorem ne_sys {w : World} {h : Heap} (C : Cx w h) {d : Addr} (hd : h.objs.size ≤ d) : (d == sysModules) = false := by
  have h1 := Nat.lt_of_lt_of_le C.size hd
  refine beq_eq_false_iff_ne.mpr fun e => ?_
  rw [e] at h1
  exact absurd h1 (by decide)
theorem iput_len (es : List (Int × Int)) (k n : Int) : (iput es k n).length ≤ es.length + 1 := by unfold iput; split <;> simp
theorem fold_len {f : List (Int × Int) → Int × Int → List (Int × Int)} (hf : ∀ a e, (f a e).length ≤ a.length + 1) : ∀ (l : List (Int × Int)) (a : List (Int × Int)), (l.foldl f a).length ≤ a.length + l.length
  | [], a => by simp
  | e :: l, a => by have := fold_len hf l (f a e); have := hf a e; simp only [List.foldl_cons, List.length_cons]; omega
theorem fold_take {α β : Type} (f : β → α → β) (z : β) {l : List α} {i : Nat} {x : α} (h : l[i]? = some x) : (l.take (i + 1)).foldl f z = f ((l.take i).foldl f z) x := by rw [List.take_add_one, h]; simp
/-- the object at d of the ledger is turned -/
theorem led_set {g h h' : Heap} {L d : Addr} {m : Str → Option Value} {pre post : List (Addr × Obj)} {o o' : Obj} (F : Fr g L h m) (N : News g L h (pre ++ (d, o) :: post)) (h1 : ∀ p ∈ pre, p.1 ≠ d) (h2 : ∀ p ∈ post, p.1 ≠ d)
    (hs : Heap.SameBut d h h') (ho : h'.get? d = some o') : Fr g L h' m ∧ News g L h' (pre ++ (d, o') :: post) := by
  have hd := N (d, o) (by simp)
  exact ⟨fr_but F (fun b x hb e => hs.extBut b x hb e) hd.2.2 hd.2.1, N.setAt h1 h2 hs ho⟩
noncomputable def add1 (acc : List (Int × Int)) (e : Int × Int) : List (Int × Int) := iput acc e.1 e.2
noncomputable def add2 (acc : List (Int × Int)) (e : Int × Int) : List (Int × Int) := match ilook acc e.1 with
  | some m => iput acc e.1 (m + e.2)
  | none => iput acc e.1 e.2
noncomputable def addE (a b : List (Int × Int)) : List (Int × Int) := b.foldl add2 (a.foldl add1 [])
local macro_rules | `(tactic| walk_at "eval Name") => `(tactic| (k_here; k_dflt (refine' nameX_L ?F ?v ?_ ?a ?b; (case F => k_asm); (case a => rfl); (case b => rfl); (case v => assumption); k_whole)))
local macro_rules | `(tactic| walk_at "getItem ref") => `(tactic| (k_here; (refine' wpAny_getItem_of (knd := intKind _ _) (f := valueAt _) ?a ?b ?c ?_; (case a => assumption); (case b => exact Heap.DictOf.mapOf (by assumption)); (case c => assumption))))
local macro_rules | `(tactic| walk_at "setItem ref int") => `(tactic| (k_here; (refine' wpAny_setItem_pairs (knd := intKind _ _) ?a ?b ?_ ?c; (case a => assumption); (case b => assumption); (case c => assumption))))
set_option maxHeartbeats 4000000
theorem c_add {w : World} {dp un : Nat} {fr : Option (List Env)} {gd : Option (List Code)} {s : Shared} {Q E : Value → Shared → Prop} {T S : Addr} {e1 e2 : List (Int × Int)}
    (C : Cx w s.heap) (hd : dp + 5 < recursionLimit) (hu : un + 50 < cLine)
    (hT : IntD PySem.Challenge.rw_zd0013_01.row.prog w s.heap T e1) (hS : IntD PySem.Challenge.rw_zd0013_01.row.prog w s.heap S e2) (sT : (T == sysModules) = false) (sS : (S == sysModules) = false)
    (hl : e1.length + e2.length ≤ 100000)
    (ret : ∀ r h' tk', Sub s.heap h' → s.heap.get? r = none → (r == sysModules) = false → IntD PySem.Challenge.rw_zd0013_01.row.prog w h' r (addE e1 e2) → Q (.ref r) { s with heap := h', toks := tk' }) :
    wpAny (MW w) (arA dp un fr gd) (call (.ref 97) [.ref T, .ref S]) Q E s := by
  obtain ⟨mean, mg, mb, Tp⟩ := id C.t
  obtain ⟨k1, d1, i1⟩ := hT
  obtain ⟨k2, d2, i2⟩ := hS
  obtain ⟨ep1, d1⟩ := d1.dictAt
  obtain ⟨ep2, d2⟩ := d2.dictAt
  refine enter0 [(Str.ofString "target", .ref T), (Str.ofString "source", .ref S)] C (by omega) rfl rfl rfl rfl fun h₁ F X => ?_
  have N : News s.heap s.heap.objs.size h₁ [] := News.nil
  dsimp only [List.length_cons, List.length_nil]
  unfold MW
  show wpAny _ _ (execs [bs 7 0, bs 7 1, bs 7 2, bs 7 3] _) _ _ _
  revert X; k_fill; intro X
  k_steps
  conv in bs 7 0 => whnf
  k_steps
  rename_i D h2 o2 lo hs2 fs2 hi2 fi2 _ h3 F3 N3
  refine forItems (knd := intKind _ w) (d := T) (kvs := k1) (ep := ep1) (fun i m' news' => (∃ od, news' = [(D, od)] ∧ IsIntD PySem.Challenge.rw_zd0013_01.row.prog w od ((e1.take i).foldl add1 [])) ∧ m' (Str.ofString "new_callers") = some (.ref D) ∧ m' (Str.ofString "source") = some (.ref S))
    rfl rfl rfl rfl sT F3 N3 (d1.keep F3.keep) (fun i m' news' h' hJ F' N' => d1.keep F'.keep) rfl rfl (fun Q' E' q => nameX_L (cl := []) F3 rfl q) ⟨⟨o2, rfl, [], hi2, .nil⟩, rfl, rfl⟩ ?_ ?_
  · rintro i k v key m₁ news₁ it oit ⟨H, g1, g2, g3, g4⟩ hv hkey ⟨⟨od, rfl, hod⟩, hm1, hm2⟩ hne ⟨h5, tk5, e5⟩ F5 N5
    cases e5
    obtain ⟨n, t, rfl, hn⟩ := i1.get hv
    obtain ⟨kvs, hk0, hiv⟩ := hod
    have hlen := hiv.len
    have hfl := fold_len (f := add1) (fun a e => iput_len _ _ _) (e1.take i) []
    simp only [List.length_take, List.length_nil] at hfl
    have hsz : kvs.length ≤ sizeLine := Nat.le_trans (show kvs.length ≤ 100000 by omega) (by decide)
    have hD : Heap.DictOf (intKind PySem.Challenge.rw_zd0013_01.row.prog w) H D kvs := Heap.dictOf_iff.mpr ⟨od, (N5 (D, od) (by simp)).1, hk0⟩
    k_steps
    rename_i h6 hd6 hs6
    obtain ⟨od6, ho6, hi6⟩ := Heap.dictOf_iff.mp hd6
    obtain ⟨F6, N6⟩ := led_set (pre := [(it, oit)]) (post := []) F5 N5 (by intro p hp; simp at hp; subst hp; exact (hne (D, od) (by simp)).symm) (by simp) hs6 ho6
    refine ⟨h6, _, _, [(D, od6)], rfl, F6, N6, by intro p hp; simp at hp; subst hp; exact hne (D, od) (by simp), ⟨od6, rfl, stored kvs k (.int n t), hi6, ?_⟩, hm1, hm2⟩
    rw [fold_take add1 [] hn]
    exact hiv.put k n t
  · rintro h4 tk4 m4 news4 F4 N4 ⟨⟨o4, rfl, ho4⟩, hm1, hm2⟩
    rw [i1.len, List.take_length] at ho4
    dsimp only
    k_steps
    refine forItems (knd := intKind _ w) (d := S) (kvs := k2) (ep := ep2) (fun i m' news' => (∃ od, news' = [(D, od)] ∧ IsIntD PySem.Challenge.rw_zd0013_01.row.prog w od ((e2.take i).foldl add2 (e1.foldl add1 []))) ∧ m' (Str.ofString "new_callers") = some (.ref D))
      rfl rfl rfl rfl sS F4 N4 (d2.keep F4.keep) (fun i m' news' h' hJ F' N' => d2.keep F'.keep) rfl rfl (fun Q' E' q => nameX_L (cl := []) F4 hm2 q) ⟨⟨o4, rfl, ho4⟩, hm1⟩ ?_ ?_
    · rintro i k v key m₁ news₁ it oit ⟨H, g1, g2, g3, g4⟩ hv hkey ⟨⟨od, rfl, hod⟩, hm1⟩ hne ⟨h5, tk5, e5⟩ F5 N5
      cases e5
      obtain ⟨n, t, rfl, hn⟩ := i2.get hv
      obtain ⟨kvs, hk0, hiv⟩ := hod
      have hlen := hiv.len
      have hfl := fold_len (f := add2) (fun a e => by unfold add2; split <;> exact iput_len _ _ _) (e2.take i) (e1.foldl add1 [])
      have hfl1 := fold_len (f := add1) (fun a e => iput_len _ _ _) e1 []
      simp only [List.length_take, List.length_nil] at hfl hfl1
      have hsz : kvs.length ≤ sizeLine := Nat.le_trans (show kvs.length ≤ 100000 by omega) (by decide)
      have hD : Heap.DictOf (intKind PySem.Challenge.rw_zd0013_01.row.prog w) H D kvs := Heap.dictOf_iff.mpr ⟨od, (N5 (D, od) (by simp)).1, hk0⟩
      have fin : ∀ n' t' tk6 h6, Heap.DictOf (intKind PySem.Challenge.rw_zd0013_01.row.prog w) h6 D (stored kvs k (.int n' t')) → Heap.SameBut D H h6 → iput ((e2.take i).foldl add2 (e1.foldl add1 [])) k n' = (e2.take (i + 1)).foldl add2 (e1.foldl add1 []) →
          TurnPost s.heap s.heap.objs.size it oit (fun m' news' => (∃ od, news' = [(D, od)] ∧ IsIntD PySem.Challenge.rw_zd0013_01.row.prog w od ((e2.take (i + 1)).foldl add2 (e1.foldl add1 []))) ∧ m' (Str.ofString "new_callers") = some (.ref D)) { s with heap := h4, toks := tk4 } (fun f s' => match f with | .next => wpAny (MW w) ((arA dp un fr gd).deeper (envOf (Str.ofString "add_callers") (fScope (stm 7)) s.heap.objs.size 97 (Value.ref 96))) (execs [bs 7 3] (envOf (Str.ofString "add_callers") (fScope (stm 7)) s.heap.objs.size 97 (Value.ref 96))) (fun fl s' => Q (retOf fl) s') (fun _ _ => False) s' | f => Q (retOf f) s') .next { s with heap := h6, toks := tk6 } := by
        intro n' t' tk6 h6 hd6 hs6 he
        obtain ⟨od6, ho6, hi6⟩ := Heap.dictOf_iff.mp hd6
        obtain ⟨F6, N6⟩ := led_set (pre := [(it, oit)]) (post := []) F5 N5 (by intro p hp; simp at hp; subst hp; exact (hne (D, od) (by simp)).symm) (by simp) hs6 ho6
        refine ⟨h6, _, _, [(D, od6)], rfl, F6, N6, by intro p hp; simp at hp; subst hp; exact hne (D, od) (by simp), ⟨od6, rfl, stored kvs k (.int n' t'), hi6, ?_⟩, hm1⟩
        rw [← he]
        exact hiv.put k n' t'
      have hft := fold_take add2 (e1.foldl add1 []) hn
      rcases hiv.look k with ⟨hv1, hv2⟩ | ⟨n1, t1, hv1, hv2⟩
      · k_steps
        refine wpAny_in_of (knd := intKind _ w) (f := valueAt kvs) (k := k) hkey lo hD.mapOf ?_
        rw [hv1]
        dsimp only [Option.isSome]
        k_steps
        rename_i h6 hd6 hs6
        exact fin _ _ _ _ hd6 hs6 (by rw [hft]; simp only [add2, hv2])
      · k_steps
        refine wpAny_in_of (knd := intKind _ w) (f := valueAt kvs) (k := k) hkey lo hD.mapOf ?_
        rw [hv1]
        dsimp only [Option.isSome]
        k_steps
        rename_i h6 hd6 hs6
        exact fin _ _ _ _ hd6 hs6 (by rw [hft]; simp only [add2, hv2])
    · rintro h5 tk5 m5 news5 F5 N5 ⟨⟨o5, rfl, ho5⟩, hm1⟩
      rw [i2.len, List.take_length] at ho5
      dsimp only
      k_steps
      conv in bs 7 3 => whnf
      k_steps
      refine ret D _ _ F5.keep (N5 (D, o5) (by simp)).2.2 lo (intD_iff.mpr ⟨o5, (N5 (D, o5) (by simp)).1, ho5⟩)
end Mine
end
section
open PySem PySem.W PySem.Calls PyProof.Rows PySem.Spec
set_option Elab.async false
set_option linter.unusedVariables false
set_option maxRecDepth 100000
namespace Mine
section
variable {prog : Program} {w : World} {K : Type} [DecidableEq K] {knd : KeyKind prog w K} {A : Around} {E : Value → Shared → Prop} {s : Shared} {env : Env}
theorem call_values {o : Expr} {apos pos : Pos} {d : Addr} {kvs : List (K × Value)} {Q : Value → Shared → Prop} (hdS : (d == sysModules) = false) (hm : s.heap.DictOf knd d kvs)
    (hbase : attributeBase o "values" env (eval o env) = eval o env) (hline : (apos.endLine == pos.line) = true)
    (ho : ∀ Q', Q' (.ref d) s → wpAny (model prog w) A (eval o env) Q' E s)
    (hQ : Q (.ref s.heap.objs.size) { s with heap := s.heap.push { cls := .type "dict_values", data := .fields #[.ref d] } }) :
    wpAny (model prog w) A (eval (.Call (.Attribute o "values" apos) [] [] pos) env) Q E s := by
  refine wpAny_Call_method (T := "dict") (id := "dict.values") hbase rfl hline F.plainAttrs_dict F.slot_dict_values F.type_dict_values (ho _ ⟨hm.typeIs, hm.mapOf.noDict, ?_⟩)
  show wpAny _ _ (callWith pos (.builtin "dict.values") [.ref d] [] []) Q E s
  exact method_meetsIn F.slot_dict_values F.entry_dict_values rfl (PySem.evalArgs_none ⟨rfl, hm.typeIs, F.args_dict_values_1 _, _, meets_dict_values knd d hdS, ⟨kvs, hm⟩, hQ⟩)
theorem letGo_name {x : Str} {p : Pos} {it v : Value} {Q : Unit → Shared → Prop} {M : Model} (h : Q () s) : wpAny M A (letOwnedTupleGo (.Name x p) it v) Q E s := wpAny_pure h
/-- a new object, and the ledger kept -/
theorem push_sub (h : Heap) (o : Obj) : Sub h (h.push o) := fun _ _ e => Heap.get?_push_of_some _ e
theorem fresh_it {g h : Heap} {L : Addr} {m : Str → Option Value} {news : List (Addr × Obj)} (F : Fr g L h m) (N : News g L h news) : g.get? h.objs.size = none ∧ h.objs.size ≠ L ∧ ∀ p ∈ news, p.1 ≠ h.objs.size :=
  ⟨none_of_size F.keep (none_ge (Nat.le_refl _)), Nat.ne_of_gt F.ns.lt, fun p hp => Nat.ne_of_lt (news_lt N p hp)⟩
theorem forValues {Q : Flow → Shared → Prop} {g : Heap} {x : Str} {px pos apos cpos : Pos} {o : Expr} {body : List Stmt} {d : Addr} {kvs : List (K × Value)} {ep : Nat} {m : Str → Option Value} {news : List (Addr × Obj)}
    (J : Nat → (Str → Option Value) → List (Addr × Obj) → Prop)
    (hh : A.handled = none) (hx : env.kindOf x = some .local)
    (hp : (env.scope.kind == .class || (env.scope.kind == .module && env.locals != env.globals)) = false)
    (hdS : (d == sysModules) = false) (F : Fr g env.locals s.heap m) (N : News g env.locals s.heap news) (hm : s.heap.DictAt knd d kvs ep)
    (hsrc : ∀ i m' news' h', J i m' news' → Fr g env.locals h' m' → News g env.locals h' news' → h'.DictAt knd d kvs ep)
    (hbase : attributeBase o "values" env (eval o env) = eval o env) (hline : (apos.endLine == cpos.line) = true)
    (ho : ∀ Q' E', Q' (.ref d) s → wpAny (model prog w) A (eval o env) Q' E' s)
    (h0 : J 0 m news)
    (turn : ∀ i k v m₁ news₁ it oit s₁, kvs[i]? = some (k, v) → J i m₁ news₁ → (∀ p ∈ news₁, p.1 ≠ it) → (∃ h tk, s₁ = { s with heap := h, toks := tk }) →
      Fr g env.locals s₁.heap (fun y => if y = x then some v else m₁ y) → News g env.locals s₁.heap ((it, oit) :: news₁) →
      wpAny (model prog w) A (execs body env) (TurnPost g env.locals it oit (J (i + 1)) s Q) (fun _ _ => False) s₁)
    (done : ∀ h' tk m' news', Fr g env.locals h' m' → News g env.locals h' news' → J kvs.length m' news' → Q .next { s with heap := h', toks := tk })
    (hs : ∀ x, foldedSetIterable (.Call (.Attribute o "values" apos) [] [] cpos) env x = pure x := by intro _; rfl) :
    wpAny (model prog w) A (exec (.For (.Name x px) (.Call (.Attribute o "values" apos) [] [] cpos) body [] pos) env) Q (fun _ _ => False) s := by
  refine wpAny_For (call_values hdS hm.dictOf hbase hline (fun Q' q => ho Q' _ q) ?_) hs
  refine wpAny_pyIter_values (knd := knd) (d := d) (kvs := kvs) (ep := ep) ⟨_, Heap.get?_push_size _ rfl, rfl, rfl⟩ (hm.push _) ?_
  generalize hH : s.heap.push { cls := .type "dict_values", data := .fields #[.ref d] } = H
  have kH : Sub s.heap H := by subst hH; exact push_sub _ _
  have FH := fr_sub F kH
  have NH := news_sub N kH
  obtain ⟨z1, z2, z3⟩ := fresh_it FH NH
  have k2 := push_sub H { cls := .type "dict_valueiterator", data := .fields #[.ref d, .int 0 0, .int kvs.length 0, .int ep 0] }
  have hdi : d ≠ H.objs.size := Nat.ne_of_lt (Heap.DictAt.lt_size (hm.keep kH))
  refine loopWalk (W := Walks.dictValues (knd := knd) hh H.objs.size d hdi kvs ep) (ob := fun i o => o.cls = .type "dict_valueiterator" ∧ o.data = .fields #[.ref d, .int i 0, .int kvs.length 0, .int ep 0]) (Src := fun h => h.DictAt knd d kvs ep)
    (fun b hb => by simpa using hb) (fun i h => ⟨fun ⟨⟨o, a, b, c⟩, e⟩ => ⟨⟨o, a, b, c⟩, e⟩, fun ⟨⟨o, a, b, c⟩, e⟩ => ⟨⟨o, a, b, c⟩, e⟩⟩) J (fun i s' v Q' E' _ q => letGo_name q)
    (fr_sub FH k2) (news_sub NH k2) z1 z2 z3 ⟨⟨_, Heap.get?_push_size _ rfl, rfl, rfl⟩, (hm.keep kH).keep k2⟩ hsrc h0 ?_ ?_
  · rintro i v m₁ news₁ oit ⟨H1, a1, a2, a3, a4⟩ hi ⟨k, hk⟩ hJ hne ⟨h5, tk5, e5⟩ F5 N5
    cases e5
    refine wpAny_assign_Name (wpAny_storeName_local hx F5.ns (fun h6 hn6 hs6 => ?_) hp)
    exact turn i k v m₁ news₁ _ oit _ hk hJ hne ⟨_, _, rfl⟩ (F5.set hn6 hs6) (N5.set hs6)
  · exact done
end
theorem loadX_L {M : Model} {A : Around} {E : Value → Shared → Prop} {s : Shared} {g : Heap} {L a : Addr} {m : Str → Option Value} {cn : Str} {cs : Scope} {ccd : Value} {cl : List (Str × Addr)} {x : Str} {v : Value} {Q : Value → Shared → Prop} (F : Fr g L s.heap m) (hv : m x = some v) (h : Q v s)
    (hk : cs.kind = .function := by rfl) (hx : (envX cn cs L a ccd cl).kindOf x = some .local := by rfl) : wpAny M A (loadName (envX cn cs L a ccd cl) x) Q E s := wpAny_loadName_local hk hx F.ns hv h
local macro_rules | `(tactic| walk_at "loadName") => `(tactic| (k_here; k_dflt (refine' loadX_L ?F ?v ?_ ?a ?b; (case F => k_asm); (case a => rfl); (case b => rfl); (case v => assumption); k_whole)))
local macro_rules | `(tactic| walk_at "eval Name") => `(tactic| (k_here; k_dflt (refine' nameX_L ?F ?v ?_ ?a ?b; (case F => k_asm); (case a => rfl); (case b => rfl); (case v => assumption); k_whole)))
noncomputable def valSum (es : List (Int × Int)) : Int := es.foldl (fun a e => a + e.2) 0
set_option maxHeartbeats 4000000
theorem c_count {w : World} {dp un : Nat} {fr : Option (List Env)} {gd : Option (List Code)} {s : Shared} {Q E : Value → Shared → Prop} {T : Addr} {e1 : List (Int × Int)}
    (C : Cx w s.heap) (hd : dp + 5 < recursionLimit) (hu : un + 50 < cLine)
    (hT : IntD PySem.Challenge.rw_zd0013_01.row.prog w s.heap T e1) (sT : (T == sysModules) = false)
    (ret : ∀ t h' tk', Sub s.heap h' → Q (.int (valSum e1) t) { s with heap := h', toks := tk' }) :
    wpAny (MW w) (arA dp un fr gd) (call (.ref 104) [.ref T]) Q E s := by
  obtain ⟨mean, mg, mb, Tp⟩ := id C.t
  obtain ⟨k1, d1, i1⟩ := hT
  obtain ⟨ep1, d1⟩ := d1.dictAt
  refine enter0 [(Str.ofString "callers", .ref T)] C (by omega) rfl rfl rfl rfl fun h₁ F X => ?_
  have N : News s.heap s.heap.objs.size h₁ [] := News.nil
  dsimp only [List.length_cons, List.length_nil]
  unfold MW
  show wpAny _ _ (execs [bs 8 0, bs 8 1, bs 8 2] _) _ _ _
  revert X; k_fill; intro X
  k_steps
  conv in bs 8 0 => whnf
  k_steps
  rename_i h2 F2 N2
  refine forValues (knd := intKind _ w) (d := T) (kvs := k1) (ep := ep1) (fun i m' news' => news' = [] ∧ ∃ t, m' (Str.ofString "nc") = some (.int ((e1.take i).foldl (fun a e => a + e.2) 0) t))
    rfl rfl rfl sT F2 N2 (d1.keep F2.keep) (fun i m' news' h' hJ F' N' => d1.keep F'.keep) rfl rfl (fun Q' E' q => nameX_L (cl := []) F2 rfl q) ⟨rfl, _, rfl⟩ ?_ ?_
  · rintro i k v m₁ news₁ it oit ⟨H, g1, g2, g3, g4⟩ hv ⟨rfl, t0, hm1⟩ hne ⟨h5, tk5, e5⟩ F5 N5
    cases e5
    obtain ⟨n, t, rfl, hn⟩ := i1.get hv
    k_steps
    rename_i h6 F6 N6
    exact ⟨h6, _, _, [], rfl, F6, N6, by simp, rfl, g3, by rw [fold_take _ _ hn]; rfl⟩
  · rintro h4 tk4 m4 news4 F4 N4 ⟨rfl, t0, hm1⟩
    rw [i1.len, List.take_length] at hm1
    dsimp only
    k_steps
    conv in bs 8 2 => whnf
    k_steps
    exact ret _ _ _ F4.keep
end Mine
end
section
open PySem PySem.W PySem.Calls PyProof.Rows PySem.Spec
set_option Elab.async false
set_option linter.unusedVariables false
set_option maxRecDepth 100000
namespace Mine
theorem re_plain : PlainAttrs "re.Pattern" :=
  ⟨⟨"object.__getattribute__", by rw [typeLookup_type, builtinLookup_eq_fast]; kernel_rfl, by decide +kernel⟩, by rw [typeLookup_type, builtinLookup_eq_fast]; kernel_rfl⟩
theorem re_slot : Slot "re.Pattern" "search" "re.Pattern.search" :=
  .of (owner := "re.Pattern") (n := "search") (by rw [typeLookup_type, builtinLookup_eq_fast]; kernel_rfl) (by decide +kernel) (by decide +kernel) (by decide +kernel)
    (by first | exact .inl (by decide +kernel) | exact .inr (by decide +kernel)) (by rw [isSubtype_type]; kernel_rfl)
theorem re_type : typeOf (.builtin "re.Pattern.search") = pure (.type "method_descriptor") := by show builtinType _ = _; rw [builtinType_eq_fast]; kernel_rfl
theorem re_entry : entryFor table "re.Pattern.search" = some Builtin.«re.Pattern.search» := entryFor_of_tree (by kernel_rfl)
theorem re_args (a b : Value) : argsOk "re.Pattern.search" ⟨[a, b], []⟩ := by kernel_rfl
noncomputable def letters : List Nat := [97, 98, 99, 100, 101, 102, 103]
noncomputable def lettersU : List Nat := [65, 66, 67, 68, 69, 70, 71]
theorem pk_name (P : Params) (prog : Program) (t : Tok) : ∀ c ∈ letters ++ lettersU, peek (K P) ⟨prog, P⟩ (Builtin.«re.Pattern.search» ⟨[.ref 114, .str ⟨#[c]⟩ t], []⟩) = some (.done (.ret .none)) := by
  intro c hc
  simp only [letters, lettersU, List.cons_append, List.nil_append, List.mem_cons, List.not_mem_nil, or_false] at hc
  rcases hc with rfl | rfl | rfl | rfl | rfl | rfl | rfl | rfl | rfl | rfl | rfl | rfl | rfl | rfl <;> kernel_rfl
theorem pk_value (P : Params) (prog : Program) (t : Tok) : ∀ c ∈ letters, peek (K P) ⟨prog, P⟩ (Builtin.«re.Pattern.search» ⟨[.ref 119, .str ⟨#[c]⟩ t], []⟩) = some (.done (.ret .none)) := by
  intro c hc
  simp only [letters, List.mem_cons, List.not_mem_nil, or_false] at hc
  rcases hc with rfl | rfl | rfl | rfl | rfl | rfl | rfl <;> kernel_rfl
section
variable {w : World} {A : Around} {E : Value → Shared → Prop} {s : Shared}
theorem re_getMethod {p : Addr} {o : Obj} {pl : Sem Bool} {Q : Value × List Value → Shared → Prop} (ho : s.heap.get? p = some o) (hc : o.cls = .type "re.Pattern") (hd : o.dict = none)
    (h : Q (.builtin "re.Pattern.search", [.ref p]) s) : wpAny (MW w) A (getMethod (.ref p) "search" pl) Q E s :=
  getMethod_builtin (T := "re.Pattern") ⟨o, ho, hc⟩ re_plain re_slot re_type (fun a e => by cases e; exact ⟨o, ho, hd⟩) h
theorem re_call {p : Addr} {o : Obj} {c : Nat} {t : Tok} {Q : Value → Shared → Prop} (X : (K w.params).In s.heap) (ho : s.heap.get? p = some o) (hc : o.cls = .type "re.Pattern")
    (hp : peek (K w.params) ⟨PySem.Challenge.rw_zd0013_01.row.prog, w.params⟩ (Builtin.«re.Pattern.search» ⟨[.ref p, .str ⟨#[c]⟩ t], []⟩) = some (.done (.ret .none)))
    (h : Q .none s) : wpAny (MW w) A (call (.builtin "re.Pattern.search") [.ref p, .str ⟨#[c]⟩ t]) Q E s :=
  wpAny_call_entry re_slot ⟨o, ho, hc⟩ re_entry ((Looks.of_peek (M := MW w) X hp).here ⟨_, rfl, h⟩) (re_args _ _)
end
/-- entering with keywords -/
theorem enterKw {w : World} {dp un : Nat} {fr : Option (List Env)} {gd : Option (List Code)} {s : Shared} {Q E : Value → Shared → Prop} {name qual : Str} {params : Arguments} {body : List Stmt} {scope : Scope} {dV kV doc pm cdv ct oc : Value} {an od : Option Addr} {osl : Array (Option Value)} {f : Addr} {args : List Value} {kw : List (Str × Value)} (binds : List (Str × Value))
    (C : Cx w s.heap) (hroom : dp < recursionLimit)
    (ho : (K w.params).lookup f = some ⟨oc, od, .func (fnOf name qual params body scope dV kV doc pm an cdv ct), osl⟩) (hcd : codeIn (K w.params) cdv qual = true)
    (hbind : BindsTo s (fnOf name qual params body scope dV kV doc pm an cdv ct) ⟨args, kw⟩ binds) (hloc : (binds.all fun y => decide (scope.names.lookup y.1 = some .local)) = true)
    (h : ∀ h₁, Fr s.heap s.heap.objs.size h₁ (fun y => binds.reverse.lookup y) → (K w.params).In s.heap →
      wpAny (MW w) ((arA dp un fr gd).deeper (envOf qual scope s.heap.objs.size f cdv)) (execs body (envOf qual scope s.heap.objs.size f cdv))
        (fun fl s' => Q (retOf fl) s') (fun _ _ => False) { s with heap := h₁, toks := s.toks + binds.length })
    (hco : scope.isCoroutine = false := by rfl) (hgen : scope.isGenerator = false := by rfl) (hk : scope.kind = .function := by rfl)
    (hcell : (scope.names.all fun x => decide (x.2 ≠ .cell)) = true := by rfl) :
    wpAny (MW w) (arA dp un fr gd) (call (.ref f) args kw) Q E s := by
  obtain ⟨mean, mg, mb, T⟩ := C.t
  refine wpAny_call ?_
  refine codeAny_call_def (fd := fnOf name qual params body scope dV kV doc pm an cdv ct) (body := body) (binds := binds) hroom (C.k _ _ ho) rfl T.nolimit (codeRec_of C.k hcd) rfl hbind
    (fun x hx => of_decide_eq_true (List.all_eq_true.mp hcell x hx)) (fun x hx => of_decide_eq_true (List.all_eq_true.mp hloc x hx)) (fun h₁ hns hk₁ => ?_) hco hgen hk
  refine wpAny_mono (h h₁ ⟨hns, hk₁, Nat.le_refl _⟩ C.k) (fun fl s' q => ?_) fun e s' q => q.elim
  cases fl <;> exact q
noncomputable def bm (i k j : Nat) : Stmt := (fBody (stm2 i k)).getD j (.Pass noPos)
set_option maxHeartbeats 4000000
theorem c_conv {w : World} {dp un : Nat} {fr : Option (List Env)} {gd : Option (List Code)} {s : Shared} {Q E : Value → Shared → Prop} {self : Addr} {c : Nat} {t : Tok} {b : Bool}
    (C : Cx w s.heap) (hd : dp + 5 < recursionLimit) (hu : un + 50 < cLine)
    (hc : c ∈ if b = true then letters ++ lettersU else letters)
    (ret : ∀ h' tk', Sub s.heap h' → Q (.str ⟨#[c]⟩ t) { s with heap := h', toks := tk' }) :
    wpAny (MW w) (arA dp un fr gd) (call (.ref 149) [.ref self, .str ⟨#[c]⟩ t] [(Str.ofString "name", .bool b)]) Q E s := by
  obtain ⟨mean, mg, mb, Tp⟩ := id C.t
  refine enterKw [(Str.ofString "self", .ref self), (Str.ofString "value", .str ⟨#[c]⟩ t), (Str.ofString "name", .bool b)] C (by omega) rfl rfl (BindsTo.of_eq rfl) rfl fun h₁ F X => ?_
  have N : News s.heap s.heap.objs.size h₁ [] := News.nil
  dsimp only [List.length_cons, List.length_nil]
  unfold MW
  show wpAny _ _ (execs [bm 14 1 0, bm 14 1 1] _) _ _ _
  revert X; k_fill; intro X
  k_steps
  conv in bm 14 1 0 => whnf
  cases b
  · k_steps
    rename_i h2 F2 N2
    have X2 := X.keeps F2.keep
    refine re_getMethod (o := o119 w.params) (X2 119 _ rfl) rfl rfl ?_
    k_steps
    refine re_call (o := o119 w.params) X2 (X2 119 _ rfl) rfl (pk_value _ _ _ _ hc) ?_
    k_steps
    exact ret _ _ F2.keep
  · k_steps
    rename_i h2 F2 N2
    have X2 := X.keeps F2.keep
    refine re_getMethod (o := o114 w.params) (X2 114 _ rfl) rfl rfl ?_
    k_steps
    refine re_call (o := o114 w.params) X2 (X2 114 _ rfl) rfl (pk_name _ _ _ _ hc) ?_
    k_steps
    exact ret _ _ F2.keep
end Mine
end
section
open PySem PySem.W PySem.Calls PyProof.Rows PySem.Spec
set_option Elab.async false
set_option linter.unusedVariables false
set_option maxRecDepth 100000
namespace Mine
theorem rebase {H h₁ : Heap} {L : Addr} {m : Str → Option Value} (ls : List (Addr × Obj)) (F : Fr H L h₁ m) (hl : ∀ p ∈ ls, H.get? p.1 = some p.2) :
    Fr (hideAll H (ls.map (·.1))) L h₁ m ∧ News (hideAll H (ls.map (·.1))) L h₁ ls :=
  ⟨⟨F.ns, fun b o e => F.keep b o (of_hideAll _ e), by rw [hideAll_size]; exact F.above⟩,
   fun p hp => ⟨F.keep _ _ (hl p hp), Nat.ne_of_lt (Nat.lt_of_lt_of_le (Heap.lt_size (hl p hp)) F.above), hideAll_none _ (List.mem_map_of_mem hp)⟩⟩
theorem in_hide {K : Frag} {H : Heap} (ls : List Addr) (X : K.In H) (hl : ∀ a ∈ ls, K.lookup a = none) : K.In (hideAll H ls) := fun a o e => hideAll_get ls (X a o e) fun q => by rw [hl a q] at e; cases e
theorem keep_hide {H h' : Heap} (ls : List Addr) (k : Sub (hideAll H ls) h') : ∀ b o, b ∉ ls → H.get? b = some o → h'.get? b = some o := fun b o hb e => k b o (hideAll_get ls e hb)
/-- entering a def, from its code -/
theorem enterCode {w : World} {A : Around} {s : Shared} {R : Result → Shared → Prop} {name qual : Str} {params : Arguments} {body : List Stmt} {scope : Scope} {dV kV doc pm cdv ct oc : Value} {an od : Option Addr} {osl : Array (Option Value)} {f : Addr} {args : Args} (binds : List (Str × Value))
    (X : (K w.params).In s.heap) (hlim : s.heap.NoLimit) (hroom : A.depth < recursionLimit)
    (ho : (K w.params).lookup f = some ⟨oc, od, .func (fnOf name qual params body scope dV kV doc pm an cdv ct), osl⟩) (hcd : codeIn (K w.params) cdv qual = true)
    (hbind : BindsTo s (fnOf name qual params body scope dV kV doc pm an cdv ct) args binds) (hloc : (binds.all fun y => decide (scope.names.lookup y.1 = some .local)) = true)
    (h : ∀ h₁ tk, Fr s.heap s.heap.objs.size h₁ (fun y => binds.reverse.lookup y) →
      wpAny (MW w) (A.deeper (envOf qual scope s.heap.objs.size f cdv)) (execs body (envOf qual scope s.heap.objs.size f cdv))
        (fun fl s' => R (.ok (.ret (retOf fl))) s') (fun _ _ => False) { s with heap := h₁, toks := tk })
    (hco : scope.isCoroutine = false := by rfl) (hgen : scope.isGenerator = false := by rfl) (hk : scope.kind = .function := by rfl)
    (hcell : (scope.names.all fun x => decide (x.2 ≠ .cell)) = true := by rfl) :
    codeAny (MW w) A (.call (.ref f) args) R s := by
  refine codeAny_call_def (fd := fnOf name qual params body scope dV kV doc pm an cdv ct) (body := body) (binds := binds) hroom (X _ _ ho) rfl hlim (codeRec_of X hcd) rfl hbind
    (fun x hx => of_decide_eq_true (List.all_eq_true.mp hcell x hx)) (fun x hx => of_decide_eq_true (List.all_eq_true.mp hloc x hx)) (fun h₁ hns hk₁ => ?_) hco hgen hk
  refine wpAny_mono (h h₁ _ ⟨hns, hk₁, Nat.le_refl _⟩) (fun fl s' q => ?_) fun e s' q => q.elim
  cases fl <;> exact q
/-- binding with one new object (a dict of keywords) -/
theorem wp_peek1 {α : Type} {K : Frag} {M : Model} {A : Around} {E : Value → Shared → Prop} {Q : α → Shared → Prop} {s : Shared} {o : Obj} {r : Addr → α} (X : K.In s.heap)
    (q : Q (r s.heap.objs.size) { s with heap := s.heap.push o }) :
    ∀ (t : Sem α) (g : Addr → Option α), peek1 K ⟨M.prog, M.w.params⟩ t = some (o, g) → (∀ D, g D = some (r D)) → wpAny M A t Q E s := by
  intro t
  induction t with
  | rule _ k ih => intro g e hg Γ p hΓ; exact ih () g e hg Γ p hΓ
  | point _ k ih => intro g e hg Γ p hΓ; exact ih () g e hg Γ p hΓ
  | ask k ih => intro g e hg Γ p hΓ; exact ih _ g e hg Γ p hΓ
  | load a _ k ih =>
    intro g e hg Γ p hΓ
    simp only [peek1] at e
    split at e
    · rename_i ob ho; exact ⟨ob, X _ _ ho, ih ob g e hg Γ p hΓ⟩
    · cases e
  | alloc ob k _ =>
    intro g e hg
    have e : some (ob, fun D => peek K ⟨M.prog, M.w.params⟩ (k D)) = some (o, g) := e
    obtain ⟨e1, e2⟩ := Prod.mk.inj (Option.some.inj e)
    subst e1
    subst e2
    have X' : K.In (s.heap.push ob) := X.keeps fun b x hb => Heap.get?_push_of_some _ hb
    show wpAny M A (alloc ob >>= k) Q E s
    refine wpAny_bind (wpAny_alloc ?_)
    exact (Looks.of_peek (M := M) (h := s.heap.push ob) X' (hg s.heap.objs.size)).here (s := { s with heap := s.heap.push ob }) q
  | _ => intro g e; cases e
theorem enterCode1 {w : World} {A : Around} {s : Shared} {R : Result → Shared → Prop} {name qual : Str} {params : Arguments} {body : List Stmt} {scope : Scope} {dV kV doc pm cdv ct oc : Value} {an od : Option Addr} {osl : Array (Option Value)} {f : Addr} {args : Args} {g₁ : Addr → Option (List (Str × Value))} (binds : Addr → List (Str × Value)) (o : Obj)
    (X : (K w.params).In s.heap) (hlim : s.heap.NoLimit) (hroom : A.depth < recursionLimit)
    (ho : (K w.params).lookup f = some ⟨oc, od, .func (fnOf name qual params body scope dV kV doc pm an cdv ct), osl⟩) (hcd : codeIn (K w.params) cdv qual = true)
    (hp : peek1 (K w.params) ⟨PySem.Challenge.rw_zd0013_01.row.prog, w.params⟩ (bindArgs (fnOf name qual params body scope dV kV doc pm an cdv ct) args) = some (o, g₁)) (hg : ∀ D, g₁ D = some (binds D))
    (hloc : ∀ D, ((binds D).all fun y => decide (scope.names.lookup y.1 = some .local)) = true)
    (h : ∀ h₁ tk, Fr (s.heap.push o) (s.heap.push o).objs.size h₁ (fun y => (binds s.heap.objs.size).reverse.lookup y) →
      wpAny (MW w) (A.deeper (envOf qual scope (s.heap.push o).objs.size f cdv)) (execs body (envOf qual scope (s.heap.push o).objs.size f cdv))
        (fun fl s' => R (.ok (.ret (retOf fl))) s') (fun _ _ => False) { s with heap := h₁, toks := tk })
    (hco : scope.isCoroutine = false := by rfl) (hgen : scope.isGenerator = false := by rfl) (hk : scope.kind = .function := by rfl)
    (hcell : (scope.names.all fun x => decide (x.2 ≠ .cell)) = true := by rfl) :
    codeAny (MW w) A (.call (.ref f) args) R s := by
  refine codeAny_call_function (fd := fnOf name qual params body scope dV kV doc pm an cdv ct) (body := body) hroom (X _ _ ho) rfl hco hgen rfl (codeRec_of X hcd) ?_
  refine wp_peek1 (o := o) X (r := binds) ?_ _ g₁ hp hg
  refine wpAny_newFunctionEnv (s := { s with heap := s.heap.push o }) (fun x hx => of_decide_eq_true (List.all_eq_true.mp hcell x hx)) (fun x hx => of_decide_eq_true (List.all_eq_true.mp (hloc _) x hx)) (fun h₁ hns hsb => ⟨(hlim.keeps (push_sub _ _)).fresh _ hsb, codeAny_func ?_⟩) hk
  have hk₁ : Sub (s.heap.push o) h₁ := fun b x e => hsb.extBut b x (Nat.ne_of_lt (Heap.lt_size e)) (Heap.get?_push_of_some _ e)
  refine wpAny_mono (h h₁ _ ⟨hns, hk₁, Nat.le_refl _⟩) (fun fl s' q => ?_) fun e s' q => q.elim
  cases fl <;> exact q
end Mine
end
section
open PySem PySem.W PySem.Calls PyProof.Rows PySem.Spec
set_option Elab.async false
set_option linter.unusedVariables false
set_option maxRecDepth 100000
namespace Mine
noncomputable abbrev hdrTok (w : World) : Int := PyData.keyHash w.params "_headers"
theorem Cx.unhide {w : World} {h : Heap} {ls : List Addr} (C : Cx w (hideAll h ls)) : Cx w h := C.sub fun b o e => of_hideAll _ e
set_option maxHeartbeats 4000000
theorem c_hinit {w : World} {dp un : Nat} {fr : Option (List Env)} {gd : Option (List Code)} {s : Shared} {R : Result → Shared → Prop} {x dx : Addr}
    (C : Cx w (hideAll s.heap [x, dx])) (hd : dp + 5 < recursionLimit) (hu : un + 50 < cLine)
    (hx : s.heap.get? x = some (instObj 248 dx)) (hdx : s.heap.get? dx = some (dictOf [] 0)) (hlt : dx < x)
    (ret : ∀ l tkn h' tk', Sub (hideAll s.heap [x, dx]) h' → s.heap.get? l = none → (x : Nat) < l → h'.get? l = some (W.listOf #[] 0) → h'.get? x = some (instObj 248 dx) → h'.get? dx = some (dictOf [⟨hdrTok w, .str "_headers" tkn, .ref l⟩] 1) → R (.ok (.ret .none)) { s with heap := h', toks := tk' }) :
    codeAny (MW w) (arA dp un fr gd) (.call (.ref 142) ⟨[.ref x], []⟩) R s := by
  obtain ⟨mean, mg, mb, Tp⟩ := id C.t
  have X := C.k
  have X0 := C.unhide.k
  refine enterCode [(Str.ofString "self", .ref x), (Str.ofString "headers", .none)] X0 (Tp.keeps fun b o e => of_hideAll _ e).nolimit (by show dp < _; omega) rfl rfl (kp_binds X0 (fun S => by rfl)) rfl fun h₁ tk F => ?_
  obtain ⟨F, N⟩ := rebase [(x, instObj 248 dx), (dx, dictOf [] 0)] F (by intro p hp; simp at hp; rcases hp with rfl | rfl; exact hx; exact hdx)
  have hfresh : ∀ {l : Addr}, l ≠ x → l ≠ dx → (hideAll s.heap [x, dx]).get? l = none → s.heap.get? l = none := fun a b c => by
    cases q : s.heap.get? _ with
    | none => rfl
    | some o => rw [hideAll_get [x, dx] q (by simp [a, b])] at c; cases c
  have F : Fr (hideAll s.heap [x, dx]) s.heap.objs.size h₁ _ := F
  have N : News (hideAll s.heap [x, dx]) s.heap.objs.size h₁ _ := N
  revert ret hfresh
  generalize hideAll s.heap [x, dx] = g at C F N X Tp
  intro ret hfresh
  replace hlt := ltN hlt
  unfold MW
  show wpAny _ _ (execs [bm 14 0 0, bm 14 0 1, bm 14 0 2, bm 14 0 3] _) _ _ _
  revert X; k_fill; intro X
  k_steps
  conv in bm 14 0 0 => whnf
  k_steps
  conv in bm 14 0 1 => whnf
  k_steps
  conv in bm 14 0 2 => whnf
  k_steps
  conv in bm 14 0 3 => whnf
  k_steps
  rename_i l' h0 l1 h2 tk2 h3 N3 i5 l5 h5 tk5 F5 N5
  have n0 := N5 _ (.head _)
  exact ret l' _ h5 _ F5.keep (hfresh (Nat.ne_of_gt l1.1) (Nat.ne_of_gt l1.2) n0.2.2) l1.1 n0.1 (N5 _ (.tail _ (.head _))).1 (N5 _ (.tail _ (.tail _ (.head _)))).1
end Mine
end
section
open PySem PySem.W PySem.Calls PyProof.Rows PySem.Spec
set_option Elab.async false
set_option linter.unusedVariables false
set_option maxRecDepth 100000
namespace Mine
local macro_rules | `(tactic| walk_at "eval Name") => `(tactic| (k_here; k_dflt (refine' nameX_L ?F ?v ?_ ?a ?b; (case F => k_asm); (case a => rfl); (case b => rfl); (case v => assumption); k_whole)))
noncomputable abbrev tup2 (a b : Nat) (ta tb : Tok) : Obj := { cls := .type "tuple", data := .seq #[.str ⟨#[a]⟩ ta, .str ⟨#[b]⟩ tb] }
noncomputable abbrev hdrD (w : World) (tkn : Tok) (l : Addr) : Obj := dictOf [⟨hdrTok w, .str "_headers" tkn, .ref l⟩] 1
theorem hide_push {h : Heap} {o : Obj} {ls : List Addr} : Sub (hideAll h ls) (hideAll (h.push o) (h.objs.size :: ls)) := fun b x e => by
  have e1 := of_hideAll _ e
  refine hideAll_get _ (Heap.get?_push_of_some _ e1) fun q => ?_
  rcases List.mem_cons.mp q with rfl | q
  · exact absurd (Heap.lt_size e1) (Nat.lt_irrefl _)
  · rw [hideAll_none _ q] at e; cases e
set_option maxHeartbeats 4000000
theorem c_addh {w : World} {dp un : Nat} {fr : Option (List Env)} {gd : Option (List Code)} {s : Shared} {R : Result → Shared → Prop} {l x dx : Addr} {vs : Array Value} {n : Nat} {tkn ta tb : Tok} {a b : Nat}
    (C : Cx w (hideAll s.heap [l, x, dx])) (hd : dp + 20 < recursionLimit) (hu : un + 200 < cLine)
    (hl : s.heap.get? l = some (W.listOf vs n)) (hx : s.heap.get? x = some (instObj 248 dx)) (hdx : s.heap.get? dx = some (hdrD w tkn l)) (hlt : dx < x) (hlt2 : x < l)
    (ha : a ∈ letters ++ lettersU) (hb : b ∈ letters) (hvs : vs.size ≤ 1000)
    (ret : ∀ t tb' h' tk', Sub (hideAll s.heap [l, x, dx]) h' → (hideAll s.heap [l, x, dx]).get? t = none → l < t → h'.get? l = some (W.listOf (vs.push (.ref t)) (n + 1)) → h'.get? x = some (instObj 248 dx) → h'.get? dx = some (hdrD w tkn l) →
      h'.get? t = some (tup2 a b ta tb') → R (.ok (.ret .none)) { s with heap := h', toks := tk' }) :
    codeAny (MW w) (arA dp un fr gd) (.call (.ref 245) ⟨[.ref x, .str ⟨#[a]⟩ ta, .str ⟨#[b]⟩ tb], []⟩) R s := by
  obtain ⟨mean, mg, mb, Tp⟩ := id C.t
  have X0 := C.unhide.k
  refine enterCode1 (fun D => [(Str.ofString "self", .ref x), (Str.ofString "_name", .str ⟨#[a]⟩ ta), (Str.ofString "_value", .str ⟨#[b]⟩ tb), (Str.ofString "_params", .ref D)]) (dictOf [] 0) X0 (Tp.keeps fun b o e => of_hideAll _ e).nolimit (by show dp < _; omega) rfl rfl rfl (fun D => rfl) (fun D => rfl) fun h₁ tk F => ?_
  have hlD : l < s.heap.objs.size := Heap.lt_size hl
  have hDs := ne_sys C.unhide (Nat.le_refl _)
  obtain ⟨F, N⟩ := rebase [(s.heap.objs.size, dictOf [] 0), (l, W.listOf vs n), (x, instObj 248 dx), (dx, hdrD w tkn l)] F
    (by intro p hp; simp only [List.mem_cons, List.not_mem_nil, or_false] at hp; rcases hp with rfl | rfl | rfl | rfl; exact Heap.get?_push_size _ rfl; exact Heap.get?_push_of_some _ hl; exact Heap.get?_push_of_some _ hx; exact Heap.get?_push_of_some _ hdx)
  have F : Fr (hideAll (s.heap.push (dictOf [] 0)) [s.heap.objs.size, l, x, dx]) (s.heap.push (dictOf [] 0)).objs.size h₁ _ := F
  have N : News (hideAll (s.heap.push (dictOf [] 0)) [s.heap.objs.size, l, x, dx]) (s.heap.push (dictOf [] 0)).objs.size h₁ _ := N
  have kg : Sub (hideAll s.heap [l, x, dx]) (hideAll (s.heap.push (dictOf [] 0)) [s.heap.objs.size, l, x, dx]) := hide_push
  replace C := C.sub kg
  replace Tp := Tp.keeps kg
  have X := C.k
  revert hlD hDs
  generalize hideAll (s.heap.push (dictOf [] 0)) [s.heap.objs.size, l, x, dx] = g at C F N X Tp kg
  generalize s.heap.objs.size = D at F N
  generalize (s.heap.push (dictOf [] 0)).objs.size = L at F N
  intro hlD hDs
  replace hlt := ltN hlt
  replace hlt2 := ltN hlt2
  replace hlD := ltN hlD
  have hsz : vs.size ≤ sizeLine := Nat.le_trans hvs (by decide)
  unfold MW
  show wpAny _ _ (execs [bm 14 16 0, bm 14 16 1, bm 14 16 2, bm 14 16 3] _) _ _ _
  revert X; k_fill; intro X
  k_steps
  conv in bm 14 16 0 => whnf
  k_steps
  conv in bm 14 16 1 => whnf
  k_steps
  rename_i l1 h2 lt1 h3 F3 N3
  refine c_conv (w := w) (b := false) (C.sub F3.keep) (by show dp + 1 + 5 < _; omega) (by show un + 3 + 50 < _; omega) hb fun h4 tk4 k4 => ?_
  have F4 := fr_sub F3 k4
  have N4 := news_sub N3 k4
  clear F3 N3
  k_steps
  conv in bm 14 16 2 => whnf
  k_steps
  rename_i h5 tk5 h6 F6 N6
  refine forItems (knd := intKind _ w) (d := D) (kvs := []) (ep := 0) (fun i m' news' => news' = [(l1, W.listOf (#[].push (Value.str { cps := #[b] } tb)) (0 + 1)), (D, dictOf [] 0), (l, W.listOf vs n), (x, instObj 248 dx), (dx, hdrD w tkn l)] ∧ m' (Str.ofString "parts") = some (.ref l1) ∧ m' (Str.ofString "self") = some (.ref x) ∧ m' (Str.ofString "_name") = some (.str ⟨#[a]⟩ ta))
    rfl rfl rfl rfl hDs F6 N6 ⟨_, _, (N6 (D, dictOf [] 0) (by simp)).1, ⟨rfl, rfl, rfl⟩, rfl, by intro e he; simp at he, by exact .nil, by simp⟩
      (fun i m' news' h' hJ F' N' => by rw [hJ.1] at N'; exact ⟨_, _, (N' (D, dictOf [] 0) (by simp)).1, ⟨rfl, rfl, rfl⟩, rfl, by intro e he; simp at he, by exact .nil, by simp⟩) rfl rfl (fun Q' E' q => nameX_L (cl := []) F6 rfl q) ⟨rfl, rfl, rfl, rfl⟩ ?_ ?_
  · rintro i k v key m₁ news₁ it oit s₁ hv
    simp at hv
  · rintro h7 tk7 m7 news7 F7 N7 ⟨rfl, hm1, hm2, hm3⟩
    dsimp only
    k_steps
    conv in bm 14 16 3 => whnf
    k_steps
    refine c_conv (w := w) (b := true) (C.sub F7.keep) (by show dp + 1 + 5 < _; omega) (by show un + 3 + 50 < _; omega) ha fun h8 tk8 k8 => ?_
    have F8 := fr_sub F7 k8
    have N8 := news_sub N7 k8
    clear F7 N7
    k_steps
    refine SC.join (l := [(⟨#[b]⟩, tb)]) (texts := [⟨#[b]⟩]) ⟨_, (N8 _ (.head _)).1, rfl, _, rfl⟩ rfl ?_ fun t9 k9 => ?_
    · clear ret N8 F8 k8
      simp only [letters, List.mem_cons, List.not_mem_nil, or_false] at hb
      rcases hb with rfl | rfl | rfl | rfl | rfl | rfl | rfl <;> decide
    have ej : Txt.join (Str.ofString "; ") [⟨#[b]⟩] = ⟨#[b]⟩ := rfl
    rw [ej]
    dsimp only
    k_steps
    rename_i t h8' lt9 h9 F9 N9
    have n0 := N9 _ (.head _)
    exact ret t _ h9 _ (kg.trans F9.keep) (none_of_size kg n0.2.2) lt9.2.2.1 (N9 _ (.tail _ (.tail _ (.tail _ (.head _))))).1 (N9 _ (.tail _ (.tail _ (.tail _ (.tail _ (.head _)))))).1 (N9 _ (.tail _ (.tail _ (.tail _ (.tail _ (.tail _ (.head _))))))).1 n0.1
end Mine
end
section
open PySem PySem.W PySem.Calls PyProof.Rows PySem.Spec
set_option Elab.async false
set_option linter.unusedVariables false
set_option maxRecDepth 100000
namespace Mine
open PyProof.Rows.LCg (NsObj ns_obj lst)
/-- entering a def with cells -/
theorem enterCodeC {w : World} {A : Around} {s : Shared} {R : Result → Shared → Prop} {name qual : Str} {params : Arguments} {body : List Stmt} {scope : Scope} {dV kV doc pm cdv ct oc : Value} {an od : Option Addr} {osl : Array (Option Value)} {f : Addr} {args : Args} (binds : List (Str × Value))
    (X : (K w.params).In s.heap) (hlim : s.heap.NoLimit) (hroom : A.depth < recursionLimit)
    (ho : (K w.params).lookup f = some ⟨oc, od, .func (fnOf name qual params body scope dV kV doc pm an cdv ct), osl⟩) (hcd : codeIn (K w.params) cdv qual = true)
    (hbind : BindsTo s (fnOf name qual params body scope dV kV doc pm an cdv ct) args binds)
    (hkind : ∀ n, ∀ x ∈ binds, scope.names.lookup x.1 = some .local ∨ (scope.names.lookup x.1 = some .cell ∧ ((cellsFrom n scope.names []).lookup x.1).isSome = true))
    (hnd : ((cellsFrom 0 scope.names []).map (·.1)).Nodup)
    (h : ∀ h₁ tk cells, Fr s.heap s.heap.objs.size h₁ (bindL (envOfC qual scope s.heap.objs.size f cdv).kindOf binds fun _ => none) → News s.heap s.heap.objs.size h₁ cells →
      CellsAre (bindC (envOfC qual scope s.heap.objs.size f cdv).kindOf binds fun _ => none) (cellsFrom (s.heap.objs.size + 1) scope.names []) cells →
      wpAny (MW w) (A.deeper (envOfC qual scope s.heap.objs.size f cdv)) (execs body (envOfC qual scope s.heap.objs.size f cdv))
        (fun fl s' => R (.ok (.ret (retOf fl))) s') (fun _ _ => False) { s with heap := h₁, toks := tk })
    (hco : scope.isCoroutine = false := by rfl) (hgen : scope.isGenerator = false := by rfl) (hk : scope.kind = .function := by rfl) :
    codeAny (MW w) A (.call (.ref f) args) R s := by
  refine codeAny_call_function (fd := fnOf name qual params body scope dV kV doc pm an cdv ct) (body := body) hroom (X _ _ ho) rfl hco hgen rfl (codeRec_of X hcd) (hbind _ _ _ _ ?_)
  refine wpAny_newFunctionEnv_cells hk (hkind _) fun env' he s' x => ?_
  subst he
  refine ⟨hlim.keeps x.toInCall.keep, codeAny_func ?_⟩
  obtain ⟨h₁, tk, rfl, _⟩ := x.done
  obtain ⟨cells, NC, Y⟩ := Cl.news (h₀ := s.heap) (Nat.le_refl _) fun n c hm => ⟨x.cell n c (lookup_of_mem_nodup (cellsFrom_names scope.names 0 (s.heap.objs.size + 1) [] [] rfl ▸ hnd) hm), x.above n c hm⟩
  refine wpAny_mono (h h₁ tk cells ⟨x.toInCall.ns, x.toInCall.keep, Nat.le_refl _⟩ NC Y) (fun fl s' q => ?_) fun e s' q => q.elim
  cases fl <;> exact q
noncomputable def FF : Value → Shared → Prop := fun _ _ => False
theorem toE {M : Model} {A : Around} {α : Type} {t : Sem α} {Q : α → Shared → Prop} {E : Value → Shared → Prop} {s : Shared} (h : wpAny M A t Q FF s) : wpAny M A t Q E s := wpAny_mono h (fun _ _ q => q) fun _ _ q => q.elim
/-- a turn of a comprehension -/
noncomputable def CEnd (g : Heap) (L : Addr) (m : Str → Option Value) (I : Addr) (oit : Obj) (J : List (Addr × Obj) → Prop) (s : Shared) (s₂ : Shared) : Prop :=
  ∃ h' tk news₂, s₂ = { s with heap := h', toks := tk } ∧ Fr g L h' m ∧ News g L h' ((I, oit) :: news₂) ∧ (∀ p ∈ news₂, p.1 ≠ I) ∧ J news₂
/-- what an iterator gives, with the tuple of an items' iterator let go -/
structure Stepper (prog : Program) (w : World) (A : Around) (target : Expr) (I : Addr) (n : Nat) (P : Nat → Value → Heap → Prop) (St : Nat → Heap → Prop) : Prop where
  item : ∀ i (s : Shared) (Q : Value → Shared → Prop) (E : Value → Shared → Prop), i < n → St i s.heap → (∀ v h' tk, P i v h' → St (i + 1) h' → But I s.heap h' → Q v { s with heap := h', toks := tk }) →
    wpAny (model prog w) A (pyNext (.ref I)) (fun r s₁ => match r with | none => False | some v => wpAny (model prog w) A (letOwnedTupleGo target (.ref I) v) (fun _ s₂ => Q v s₂) FF s₁) E s
  done : ∀ (s : Shared) (Q : Option Value → Shared → Prop) (E : Value → Shared → Prop), St n s.heap → (∀ h' tk, But I s.heap h' → Q none { s with heap := h', toks := tk }) → wpAny (model prog w) A (pyNext (.ref I)) Q E s
  self : ∀ i (s : Shared) (Q : Value → Shared → Prop) (E : Value → Shared → Prop), St i s.heap → Q (.ref I) s → wpAny (model prog w) A (pyIter (.ref I)) Q E s
section
variable {prog : Program} {w : World} {A : Around} {s : Shared} {env : Env}
theorem Stepper.of {I : Addr} {fp wr : List Addr} {n : Nat} {P : Nat → Value → Prop} {St : Nat → Heap → Prop} {x : Str} {px : Pos} (W : Walks prog w A I fp wr n P St) (hwr : ∀ b ∈ wr, b = I) : Stepper prog w A (.Name x px) I n (fun i v _ => P i v) St where
  item i s Q E hi st h := W.item i s _ E hi st fun v h' tk hP hS hk => wpAny_pure (h v h' tk hP hS fun b o hb e => hk b o (fun q => hb (hwr b q)) e)
  done s Q E st h := W.done s Q E st fun h' tk hk => h h' tk fun b o hb e => hk b o (fun q => hb (hwr b q)) e
  self := W.self
theorem Stepper.items {K : Type} [DecidableEq K] {knd : KeyKind prog w K} (hh : A.handled = none) {elts : List Expr} {x1} {pos : Pos} (I d : Addr) (kvs : List (K × Value)) (ep : Nat) :
    Stepper prog w A (.Tuple elts x1 pos) I kvs.length (fun i v h => ∃ k x key t, kvs[i]? = some (k, x) ∧ knd.is k key = true ∧ v = .ref t ∧ h.IsTuple t #[key, x]) (fun i h => (∃ ok ov, IsItemIter h I d i kvs.length ep ok ov) ∧ h.DictAt knd d kvs ep) where
  item i s Q E hi st h := by
    obtain ⟨⟨ok, ov, hit⟩, hm⟩ := st
    have hdi : d ≠ I := by
      rintro rfl
      obtain ⟨oo, es, he, hc, _⟩ := hm
      rw [hit] at he; cases he; exact absurd hc.1 (by simp)
    obtain ⟨⟨k, v⟩, hv⟩ : ∃ kv, kvs[i]? = some kv := ⟨_, List.getElem?_eq_getElem hi⟩
    refine wpAny_pyNext_items_item hit hm hv fun key h₁ hkey heo ht₁ hz₁ hk₁ => ?_
    refine wpAny_letOwnedTupleGo_items heo fun h₂ he₂ hs₂ => ?_
    replace hs₂ : Heap.SameBut I h₁ h₂ := hs₂
    have hiH : I < s.heap.objs.size := Heap.lt_size hit
    have ht₂ : h₂.IsTuple s.heap.objs.size #[key, v] := ⟨_, (hs₂.2 _ (Nat.ne_of_gt hiH)).trans ht₁, rfl, _, rfl⟩
    have kb : But I s.heap h₂ := fun b o hb e => hs₂.extBut b o hb (hk₁ b o hb e)
    exact h _ h₂ _ ⟨k, v, key, _, hv, hkey, rfl, ht₂⟩ ⟨⟨_, _, he₂⟩, by obtain ⟨o, es, he, r⟩ := hm; exact ⟨o, es, kb _ _ hdi he, r⟩⟩ kb
  done s Q E st h := by
    obtain ⟨⟨ok, ov, hit⟩, hm⟩ := st
    exact wpAny_pyNext_items_end hh hit hm (by simp) fun h₁ he₁ => h h₁ _ fun b o hb e => he₁ b o hb e
  self i s Q E st h := by
    obtain ⟨⟨ok, ov, hit⟩, hm⟩ := st
    exact kcp_self hit h
structure LoopOf (prog : Program) (w : World) (A : Around) (e target : Expr) (it acc : Value) (cenv : Env) (T : Value → (Shared → Prop) → Shared → Prop) : Prop where
  mono : ∀ v K K' s, (∀ s, K s → K' s) → T v K s → T v K' s
  loop : ∀ (R : Result → Shared → Prop) (Inv : Nat → Shared → Prop) n s, (∀ n s, Inv n s → wpAny (model prog w) A (pyNext it) (fun r s₁ => match r with | none => R (.ok .next) s₁ | some v => wpAny (model prog w) A (letOwnedTupleGo target it v) (fun _ s₂ => T v (fun s₅ => ∃ m, m < n ∧ Inv m s₅) s₂) FF s₁) FF s) → Inv n s →
    codeAny (model prog w) A (.compLoop e 0 it acc cenv) R s
  start : ∀ (R : Result → Shared → Prop) s, codeAny (model prog w) A (.compLoop e 0 it acc cenv) R s → (∀ (Q : Value → Shared → Prop) E, Q it s → wpAny (model prog w) A (pyIter it) Q E s) → codeAny (model prog w) A (.compStart e 0 it acc cenv) R s
theorem compWalk {R : Result → Shared → Prop} {g : Heap} {L : Addr} {e target : Expr} {cenv : Env} {acc : Value} {T : Value → (Shared → Prop) → Shared → Prop} {I : Addr} {n : Nat} {P : Nat → Value → Heap → Prop} {St : Nat → Heap → Prop} {ob : Nat → Obj → Prop} {Src : Heap → Prop} {m : Str → Option Value} {news : List (Addr × Obj)}
    (LO : LoopOf prog w A e target (.ref I) acc cenv T)
    (W : Stepper prog w A target I n P St) (hst : ∀ i h, St i h ↔ (∃ o, h.get? I = some o ∧ ob i o) ∧ Src h)
    (J : Nat → List (Addr × Obj) → Prop)
    (F : Fr g L s.heap m) (N : News g L s.heap news) (hgit : g.get? I = none) (hLit : I ≠ L) (hnit : ∀ p ∈ news, p.1 ≠ I)
    (hs0 : St 0 s.heap)
    (hsrc : ∀ i news' h', J i news' → Fr g L h' m → News g L h' news' → Src h')
    (h0 : J 0 news)
    (turn : ∀ i v news₁ oit s₁, i < n → P i v s₁.heap → J i news₁ → (∀ p ∈ news₁, p.1 ≠ I) → (∃ h tk, s₁ = { s with heap := h, toks := tk }) →
      Fr g L s₁.heap m → News g L s₁.heap ((I, oit) :: news₁) → T v (CEnd g L m I oit (J (i + 1)) s) s₁)
    (done : ∀ h' tk news', Fr g L h' m → News g L h' news' → J n news' → R (.ok .next) { s with heap := h', toks := tk }) :
    codeAny (model prog w) A (.compStart e 0 (.ref I) acc cenv) R s := by
  refine LO.start R s ?_ (fun Q E q => W.self 0 _ _ _ hs0 q)
  obtain ⟨Inv, hInv⟩ : ∃ Inv : Nat → Shared → Prop, ∀ k s', Inv k s' ↔ (∃ h' tk news' i oit, s' = { s with heap := h', toks := tk } ∧ h'.get? I = some oit ∧ ob i oit ∧ Fr g L h' m ∧ News g L h' news' ∧ (∀ p ∈ news', p.1 ≠ I) ∧ J i news' ∧ i ≤ n ∧ k = n + 1 - i) := ⟨_, fun _ _ => Iff.rfl⟩
  refine LO.loop R Inv (n + 1) s ?_ ((hInv _ _).mpr ?_)
  · intro k s' hIv
    obtain ⟨H, tk, news', i, oit, rfl, hI, hob, F', N', hne, hJ, hi, rfl⟩ := (hInv _ _).mp hIv
    have hS : St i H := (hst i H).mpr ⟨⟨oit, hI, hob⟩, hsrc i news' H hJ F' N'⟩
    by_cases hlt : i < n
    · refine wpAny_mono (W.item i _ (fun v s₂ => T v (fun s₅ => ∃ m, m < n + 1 - i ∧ Inv m s₅) s₂) _ hlt hS fun v h' tk' hP hS' kb => ?_) (fun r s₁ q => ?_) (fun _ _ q => q)
      · have F1 : Fr g L h' m := fr_but F' kb hgit hLit
        have N1 : News g L h' news' := news_but N' kb hne
        obtain ⟨⟨oit', hI', hob'⟩, hS2⟩ := (hst (i + 1) h').mp hS'
        refine LO.mono _ _ _ _ ?_ (turn i v news' oit' { s with heap := h', toks := tk' } hlt hP hJ hne ⟨_, _, rfl⟩ F1 (news_cons N1 hI' hLit hgit))
        rintro s₃ ⟨h6, tk6, news₂, rfl, F6, N6, hne6, hJ6⟩
        exact ⟨n + 1 - (i + 1), by omega, (hInv _ _).mpr ⟨h6, tk6, news₂, i + 1, oit', rfl, (N6 _ (.head _)).1, hob', F6, news_tail N6, hne6, hJ6, hlt, rfl⟩⟩
      · cases r with
        | none => exact q.elim
        | some v => exact q
    · have he : i = n := Nat.le_antisymm hi (Nat.not_lt.mp hlt)
      subst he
      refine W.done _ _ _ hS fun h' tk' kb => ?_
      exact done h' tk' news' (fr_but F' kb hgit hLit) (news_but N' kb hne) hJ
  · obtain ⟨⟨o, ho, hob⟩, _⟩ := (hst 0 _).mp hs0
    exact ⟨s.heap, s.toks, news, 0, o, rfl, ho, hob, F, N, hnit, h0, Nat.zero_le _, rfl⟩
/-- a for loop, any target -/
theorem forStep {Q : Flow → Shared → Prop} {g : Heap} {target : Expr} {body : List Stmt} {I : Addr} {n : Nat} {P : Nat → Value → Heap → Prop} {St : Nat → Heap → Prop} {ob : Nat → Obj → Prop} {Src : Heap → Prop} {m : Str → Option Value} {news : List (Addr × Obj)}
    (W : Stepper prog w A target I n P St) (hst : ∀ i h, St i h ↔ (∃ o, h.get? I = some o ∧ ob i o) ∧ Src h)
    (J : Nat → (Str → Option Value) → List (Addr × Obj) → Prop)
    (F : Fr g env.locals s.heap m) (N : News g env.locals s.heap news) (hgit : g.get? I = none) (hLit : I ≠ env.locals) (hnit : ∀ p ∈ news, p.1 ≠ I)
    (hs0 : St 0 s.heap)
    (hsrc : ∀ i m' news' h', J i m' news' → Fr g env.locals h' m' → News g env.locals h' news' → Src h')
    (h0 : J 0 m news)
    (turn : ∀ i v m₁ news₁ oit s₁, i < n → P i v s₁.heap → J i m₁ news₁ → (∀ p ∈ news₁, p.1 ≠ I) → (∃ h tk, s₁ = { s with heap := h, toks := tk }) →
      Fr g env.locals s₁.heap m₁ → News g env.locals s₁.heap ((I, oit) :: news₁) →
      wpAny (model prog w) A (assign target env v) (fun _ s₂ => wpAny (model prog w) A (execs body env) (TurnPost g env.locals I oit (J (i + 1)) s Q) (fun _ _ => False) s₂) (fun _ _ => False) s₁)
    (done : ∀ h' tk m' news', Fr g env.locals h' m' → News g env.locals h' news' → J n m' news' → Q .next { s with heap := h', toks := tk }) :
    codeAny (model prog w) A (.forLoop target (.ref I) body [] env) (fun r s' => match r with | .ok f => Q f s' | .error e => cameBackBy (model prog w) A env (fun _ _ => False) e s') s := by
  obtain ⟨Inv, hInv⟩ : ∃ Inv : Nat → Shared → Prop, ∀ k s', Inv k s' ↔ (∃ h' tk m' news' i oit, s' = { s with heap := h', toks := tk } ∧ h'.get? I = some oit ∧ ob i oit ∧ Fr g env.locals h' m' ∧ News g env.locals h' news' ∧ (∀ p ∈ news', p.1 ≠ I) ∧ J i m' news' ∧ i ≤ n ∧ k = n + 1 - i) := ⟨_, fun _ _ => Iff.rfl⟩
  refine codeAny_forLoop_any Inv ?_ (n + 1) ((hInv _ _).mpr ?_)
  · intro k s' hIv
    obtain ⟨H, tk, m', news', i, oit, rfl, hI, hob, F', N', hne, hJ, hi, rfl⟩ := (hInv _ _).mp hIv
    have hS : St i H := (hst i H).mpr ⟨⟨oit, hI, hob⟩, hsrc i m' news' H hJ F' N'⟩
    by_cases hlt : i < n
    · refine wpAny_mono (W.item i _ (fun v s₂ => wpAny (model prog w) A (assign target env v) (fun _ s₂ => wpAny (model prog w) A (execs body env) (fun f s₃ => match f with
            | .next | .cont => ∃ m, m < n + 1 - i ∧ Inv m s₃
            | .brk => Q .next s₃
            | .ret v => Q (.ret v) s₃) (fun _ _ => False) s₂) (fun _ _ => False) s₂) _ hlt hS fun v h' tk' hP hS' kb => ?_) (fun r s₁ q => ?_) (fun _ _ q => q)
      · have F1 : Fr g env.locals h' m' := fr_but F' kb hgit hLit
        have N1 : News g env.locals h' news' := news_but N' kb hne
        obtain ⟨⟨oit', hI', hob'⟩, hS2⟩ := (hst (i + 1) h').mp hS'
        refine wpAny_mono (turn i v m' news' oit' { s with heap := h', toks := tk' } hlt hP hJ hne ⟨_, _, rfl⟩ F1 (news_cons N1 hI' hLit hgit)) (fun _ s₂ h₂ => ?_) fun _ _ x => x.elim
        refine wpAny_mono h₂ (fun f s₃ h₃ => ?_) fun _ _ x => x.elim
        cases f with
        | ret v => exact h₃
        | brk => exact h₃
        | next => obtain ⟨h6, tk6, m₂, news₂, rfl, F6, N6, hne6, hJ6⟩ := h₃; exact ⟨n + 1 - (i + 1), by omega, (hInv _ _).mpr ⟨h6, tk6, m₂, news₂, i + 1, oit', rfl, (N6 _ (.head _)).1, hob', F6, news_tail N6, hne6, hJ6, hlt, rfl⟩⟩
        | cont => obtain ⟨h6, tk6, m₂, news₂, rfl, F6, N6, hne6, hJ6⟩ := h₃; exact ⟨n + 1 - (i + 1), by omega, (hInv _ _).mpr ⟨h6, tk6, m₂, news₂, i + 1, oit', rfl, (N6 _ (.head _)).1, hob', F6, news_tail N6, hne6, hJ6, hlt, rfl⟩⟩
      · cases r with
        | none => exact q.elim
        | some v => exact toE (wpAny_mono q (fun _ s₂ h => toE (wpAny_mono h (fun _ s₃ h => toE (wpAny_mono h (fun f s₄ h => by cases f <;> exact h) fun _ _ x => x.elim)) fun _ _ x => x.elim)) fun _ _ x => x)
    · have he : i = n := Nat.le_antisymm hi (Nat.not_lt.mp hlt)
      subst he
      refine W.done _ _ _ hS fun h' tk' kb => wpAny_execs_nil ?_
      exact done h' tk' m' news' (fr_but F' kb hgit hLit) (news_but N' kb hne) hJ
  · obtain ⟨⟨o, ho, hob⟩, _⟩ := (hst 0 _).mp hs0
    exact ⟨s.heap, s.toks, m, news, 0, o, rfl, ho, hob, F, N, hnit, h0, Nat.zero_le _, rfl⟩
/-- turns of a list's comprehension with one test, and with none; of a dict's -/
noncomputable def TL1 (prog : Program) (w : World) (A : Around) (target c elt : Expr) (acc : Value) (env : Env) (v : Value) (K : Shared → Prop) (s : Shared) : Prop :=
  wpAny (model prog w) A (assign target env v) (fun _ s₂ =>
    wpAny (model prog w) A (isTrue c env (eval c env)) (fun ok s₃ => if ok = true then wpAny (model prog w) A (eval elt env) (fun x s₄ =>
      wpAny (model prog w) A (call (.builtin "list.append") [acc, x]) (fun _ s₅ => K s₅) FF s₄) FF s₃ else K s₃) FF s₂) FF s
noncomputable def TL0 (prog : Program) (w : World) (A : Around) (target elt : Expr) (acc : Value) (env : Env) (v : Value) (K : Shared → Prop) (s : Shared) : Prop :=
  wpAny (model prog w) A (assign target env v) (fun _ s₂ =>
    wpAny (model prog w) A (eval elt env) (fun x s₄ => wpAny (model prog w) A (call (.builtin "list.append") [acc, x]) (fun _ s₅ => K s₅) FF s₄) FF s₂) FF s
noncomputable def TD0 (prog : Program) (w : World) (A : Around) (target kx vx : Expr) (D : Addr) (env : Env) (v : Value) (K : Shared → Prop) (s : Shared) : Prop :=
  wpAny (model prog w) A (assign target env v) (fun _ s₂ =>
    wpAny (model prog w) A (eval kx env) (fun k s₄ => wpAny (model prog w) A (eval vx env) (fun y s₅ => wpAny (model prog w) A (dictSet D k y) (fun _ s₆ => K s₆) FF s₅) FF s₄) FF s₂) FF s
theorem loop_L1 {elt target iter c : Expr} {scope : Scope} {pos : Pos} {it acc : Value} : LoopOf prog w A (.ListComp elt [⟨target, iter, [c], 0⟩] scope pos) target it acc env (TL1 prog w A target c elt acc env) where
  mono v K K' s k h := wpAny_mono h (fun _ s₂ h => wpAny_mono h (fun ok s₃ h => by cases ok; exact k _ h; exact wpAny_mono h (fun x s₄ h => wpAny_mono h (fun _ s₅ h => k _ h) fun _ _ q => q) fun _ _ q => q) fun _ _ q => q) fun _ _ q => q
  loop R Inv n s turn h := by
    refine kct_loop Inv (fun n s hI => toE (wpAny_mono (turn n s hI) (fun r s₁ h₁ => ?_) fun _ _ q => q)) n h
    cases r with
    | none => exact h₁
    | some v => exact toE (wpAny_mono h₁ (fun _ s₀ h => toE (wpAny_mono h (fun _ s₂ h => toE (wpAny_mono h (fun ok s₃ h => by cases ok; exact h; exact toE (wpAny_mono h (fun x s₄ h => toE h) fun _ _ q => q)) fun _ _ q => q)) fun _ _ q => q)) fun _ _ q => q)
  start R s h q := codeAny_compStart_list h (q _ _ h)
theorem loop_L0 {elt target iter : Expr} {scope : Scope} {pos : Pos} {it acc : Value} : LoopOf prog w A (.ListComp elt [⟨target, iter, [], 0⟩] scope pos) target it acc env (TL0 prog w A target elt acc env) where
  mono v K K' s k h := wpAny_mono h (fun _ s₂ h => wpAny_mono h (fun x s₄ h => wpAny_mono h (fun _ s₅ h => k _ h) fun _ _ q => q) fun _ _ q => q) fun _ _ q => q
  loop R Inv n s turn h := by
    refine kcp_loop Inv (fun n s hI => toE (wpAny_mono (turn n s hI) (fun r s₁ h₁ => ?_) fun _ _ q => q)) n h
    cases r with
    | none => exact h₁
    | some v => exact toE (wpAny_mono h₁ (fun _ s₀ h => toE (wpAny_mono h (fun _ s₂ h => toE (wpAny_mono h (fun x s₄ h => toE h) fun _ _ q => q)) fun _ _ q => q)) fun _ _ q => q)
  start R s h q := codeAny_compStart_list h (q _ _ h)
theorem loop_D0 {kx vx target iter : Expr} {scope : Scope} {pos : Pos} {it : Value} {D : Addr} : LoopOf prog w A (.DictComp kx vx [⟨target, iter, [], 0⟩] scope pos) target it (.ref D) env (TD0 prog w A target kx vx D env) where
  mono v K K' s k h := wpAny_mono h (fun _ s₂ h => wpAny_mono h (fun x s₄ h => wpAny_mono h (fun _ s₅ h => wpAny_mono h (fun _ s₅ h => k _ h) fun _ _ q => q) fun _ _ q => q) fun _ _ q => q) fun _ _ q => q
  loop R Inv n s turn h := by
    refine codeAny_loop rfl Inv (fun n s hI => ?_) n h
    show wpAny _ A ((compTurn (.DictComp kx vx [⟨target, iter, [], 0⟩] scope pos) 0 it (.ref D) env).onRaise (fun x => do noteFrame x env; theTreesLotGoes x)) _ _ s
    refine wpAny_noted ?_
    rw [compTurn_dict]
    refine wpAny_bind (wpAny_standAt (wpAny_bind (toE (wpAny_mono (turn n s hI) (fun r s₁ h₁ => ?_) fun _ _ h' => h'))))
    cases r with
    | none => exact wpAny_pure h₁
    | some v =>
      refine wpAny_bind (toE (wpAny_mono h₁ (fun _ s₀ h₀' => ?_) fun _ _ h' => h'))
      refine wpAny_bind (toE (wpAny_mono h₀' (fun _ s₂ h₂ => ?_) fun _ _ h' => h'))
      refine wpAny_bind (wpAny_tests_nil ?_)
      exact wpAny_bind (wpAny_bind (toE (wpAny_mono h₂ (fun kv s₄ h₄ => wpAny_bind (wpAny_holding (toE (wpAny_mono h₄ (fun vv s₅ h₅ => wpAny_bind (wpAny_standAt (wpAny_holding (toE (wpAny_mono h₅ (fun _ s₆ h₆ => wpAny_pure ⟨rfl, h₆⟩) fun _ _ h' => h'))))) fun _ _ h' => h')))) fun _ _ h' => h')))
  start R s h q := codeAny_compStart_dict h (q _ _ h)
end
end Mine
end
section
open PySem PySem.W PySem.Calls PyProof.Rows PySem.Spec
set_option Elab.async false
set_option linter.unusedVariables false
set_option maxRecDepth 100000
namespace Mine
open PyProof.Rows.LCg (NsObj ns_obj lst)
section
variable {prog : Program} {w : World} {A : Around} {s : Shared} {env : Env} {E : Value → Shared → Prop}
theorem compBlock {RR : Value → Addr → Result → Shared → Prop} {g : Heap} {L : Addr} {e target : Expr} {scope : Scope} {cl : List (Str × Addr)} {newAcc : Sem Value} {o0 : Obj} {T : Addr → Addr → Value → (Shared → Prop) → Shared → Prop} {I : Addr} {n : Nat} {P : Nat → Value → Heap → Prop} {St : Nat → Heap → Prop} {ob : Nat → Obj → Prop} {Src : Heap → Prop} {m : Str → Option Value} {news : List (Addr × Obj)}
    (hof : o0.isFreed = false) (hAcc : ∀ (s : Shared) (Q : Value → Shared → Prop) E, Q (.ref s.heap.objs.size) { s with heap := s.heap.push o0 } → wpAny (model prog w) A newAcc Q E s)
    (LO : ∀ C D, LoopOf prog w A e target (.ref I) (.ref D) (compEnvC scope cl C env) (T C D))
    (W : Stepper prog w A target I n P St) (hst : ∀ i h, St i h ↔ (∃ o, h.get? I = some o ∧ ob i o) ∧ Src h)
    (hSrcK : ∀ h h', Sub h h' → Src h → Src h')
    (J : Addr → Addr → Nat → List (Addr × Obj) → Prop)
    (hcell : ∀ y ∈ scope.names, y.2 ≠ .cell) (hkind : scope.kind = .function)
    (F : Fr g L s.heap m) (N : News g L s.heap news) (hgit : g.get? I = none) (hLit : I ≠ L) (hnit : ∀ p ∈ news, p.1 ≠ I)
    (hs0 : St 0 s.heap)
    (hsrc : ∀ C D i news' h', J C D i news' → Fr g L h' m → News g L h' news' → Src h')
    (h0 : ∀ C D oC, NsObj oC (fun _ => none) → (D : Nat) < C → (I : Nat) < D → (L : Nat) < D → (∀ p ∈ news, (p.1 : Nat) < D) → J C D 0 ((C, oC) :: (D, o0) :: news))
    (turn : ∀ C D i v news₁ oit s₁, i < n → P i v s₁.heap → J C D i news₁ → (∀ p ∈ news₁, p.1 ≠ I) → (∃ h tk, s₁ = { s with heap := h, toks := tk }) →
      Fr g L s₁.heap m → News g L s₁.heap ((I, oit) :: news₁) → T C D v (CEnd g L m I oit (J C D (i + 1)) s) s₁)
    (done : ∀ C D h' tk news', Fr g L h' m → News g L h' news' → J C D n news' → RR (.ref D) C (.ok .next) { s with heap := h', toks := tk }) :
    wpAny (model prog w) A newAcc (fun acc s₃ => wpAny (model prog w) A (newFunctionEnv scope env.globals cl [] env.qual none .none (some env)) (fun cenv s₄ =>
      codeAny (model prog w) A (.compStart e 0 (.ref I) acc { cenv with scope := relabel scope env }) (RR acc cenv.locals) s₄) E s₃) E s := by
  refine hAcc _ _ _ (wpAny_newFunctionEnv hcell (by intro y hy; simp at hy) (fun h₁ hns₁ hsb₁ => ?_) hkind)
  dsimp only at hns₁ hsb₁ ⊢
  generalize hD : s.heap.objs.size = D at hns₁ hsb₁ ⊢
  have hH : (s.heap.push o0).objs.size = D + 1 := by rw [Heap.size_push, hD]
  have hDo : (s.heap.push o0).get? D = some o0 := by rw [← hD]; exact Heap.get?_push_size _ hof
  have kH : Sub s.heap (s.heap.push o0) := fun b o e => Heap.get?_push_of_some _ e
  have hlt : ∀ b o, s.heap.get? b = some o → (b : Nat) < D := fun b o e => by rw [← hD]; exact Heap.lt_size e
  generalize s.heap.push o0 = H at hns₁ hsb₁ hH hDo kH ⊢
  generalize hC : H.objs.size = C at hns₁ hsb₁ ⊢
  have hDC : (D : Nat) < C := by rw [← hC, hH]; exact Nat.lt_succ_self _
  have k1 : Sub H h₁ := fun b o e => hsb₁.extBut b o (by rw [← hC]; exact Nat.ne_of_lt (Heap.lt_size e)) (Heap.get?_push_of_some _ e)
  have kk : Sub s.heap h₁ := kH.trans k1
  have hLD : (L : Nat) < D := by rw [← hD]; exact F.ns.lt
  have hI : ∃ o, s.heap.get? I = some o := by obtain ⟨⟨o, ho, _⟩, _⟩ := (hst 0 _).mp hs0; exact ⟨o, ho⟩
  obtain ⟨oI, hI⟩ := hI
  have gC : g.get? C = none := none_of_size F.keep (none_ge (by rw [hD]; exact Nat.le_of_lt hDC))
  have gD : g.get? D = none := none_of_size F.keep (none_ge (by rw [hD]; exact Nat.le_refl _))
  obtain ⟨oC, heC, hoC⟩ := ns_obj hns₁
  have N1 : News g L h₁ ((C, oC) :: (D, o0) :: news) := news_cons (news_cons (news_sub N kk) (k1 _ _ hDo) (Nat.ne_of_gt hLD) gD) heC (Nat.ne_of_gt (Nat.lt_trans hLD hDC)) gC
  have hs1 : St 0 h₁ := (hst 0 _).mpr ⟨(by obtain ⟨⟨o, ho, hb⟩, _⟩ := (hst 0 _).mp hs0; exact ⟨o, kk _ _ ho, hb⟩), hSrcK _ _ kk ((hst 0 _).mp hs0).2⟩
  have hlI := hlt _ _ hI
  have hoC' : NsObj oC (fun _ => none) := hoC
  refine compWalk (s := { s with heap := h₁, toks := s.toks + ([] : List (Str × Value)).length }) (LO := LO C D) W hst (J C D) (fr_sub F kk) N1 hgit hLit ?_ hs1 (fun i news' h' j f n => hsrc C D i news' h' j f n) (h0 C D oC hoC' hDC hlI hLD fun p hp => hlt _ _ (N p hp).1) ?_ ?_
  · intro p hp
    rcases List.mem_cons.mp hp with rfl | hp
    · exact Nat.ne_of_gt (Nat.lt_trans hlI hDC)
    · rcases List.mem_cons.mp hp with rfl | hp
      · exact Nat.ne_of_gt hlI
      · exact hnit p hp
  · intro i v news₁ oit s₁ hi hP hJ hne hs F1 N2
    exact turn C D i v news₁ oit s₁ hi hP hJ hne hs F1 N2
  · intro h' tk news' F1 N2 hJ
    exact done C D h' tk news' F1 N2 hJ
theorem drop_C {g h' h'' : Heap} {L C : Addr} {m : Str → Option Value} {oC : Obj} {rest : List (Addr × Obj)} (F : Fr g L h' m) (N : News g L h' ((C, oC) :: rest)) (hne : ∀ p ∈ rest, p.1 ≠ C) (hs : Heap.SameBut C h' h'') :
    Fr g L h'' m ∧ News g L h'' rest := by
  have n0 := N _ (.head _)
  exact ⟨fr_but F (fun b o hb e => hs.extBut b o hb e) n0.2.2 n0.2.1, news_but (news_tail N) (fun b o hb e => hs.extBut b o hb e) hne⟩
noncomputable def CompGo (prog : Program) (w : World) (A : Around) (g : Heap) (L : Addr) (m : Str → Option Value) (o0 : Obj) (target : Expr) (T : Addr → Addr → Addr → Value → (Shared → Prop) → Shared → Prop) (mf : Addr → Str → Option Value) (Fin : Addr → Shared → Prop) (it : Value) (s : Shared) : Prop :=
  ∃ I n P St, ∃ ob : Nat → Obj → Prop, ∃ Src : Heap → Prop, ∃ news, ∃ J : Addr → Addr → Nat → List (Addr × Obj) → Prop, it = .ref I ∧ Stepper prog w A target I n P St ∧ (∀ i h, St i h ↔ (∃ o, h.get? I = some o ∧ ob i o) ∧ Src h) ∧ (∀ h h', Sub h h' → Src h → Src h') ∧
        Fr g L s.heap m ∧ News g L s.heap news ∧ g.get? I = none ∧ I ≠ L ∧ (∀ p ∈ news, p.1 ≠ I) ∧ St 0 s.heap ∧
        (∀ C D i news' h', J C D i news' → Fr g L h' m → News g L h' news' → Src h') ∧
        (∀ C D oC, NsObj oC (fun _ => none) → (D : Nat) < C → (I : Nat) < D → (L : Nat) < D → (∀ p ∈ news, (p.1 : Nat) < D) → J C D 0 ((C, oC) :: (D, o0) :: news)) ∧
        (∀ C D i v news₁ oit s₁, i < n → P i v s₁.heap → J C D i news₁ → (∀ p ∈ news₁, p.1 ≠ I) → (∃ h tk, s₁ = { s with heap := h, toks := tk }) →
          Fr g L s₁.heap m → News g L s₁.heap ((I, oit) :: news₁) → T I C D v (CEnd g L m I oit (J C D (i + 1)) s) s₁) ∧
        (∀ C D news', J C D n news' → ∃ oC mC rest, news' = (C, oC) :: rest ∧ NsObj oC mC ∧ (∀ p ∈ rest, p.1 ≠ C) ∧ ∀ h'' tk, Fr g L h'' (mf D) → News g L h'' rest → Fin D { s with heap := h'', toks := tk })
/-- a comprehension's value; `use` is none -/
theorem evalComp {g : Heap} {L : Addr} {e target : Expr} {gc : Comprehension} {gs : List Comprehension} {scope : Scope} {cl : List (Str × Addr)} {pos : Pos} {newAcc first : Sem Value} {o0 : Obj} {T : Addr → Addr → Addr → Value → (Shared → Prop) → Shared → Prop} {m : Str → Option Value} {Q : Value → Shared → Prop}
    (hof : o0.isFreed = false) (hAcc : ∀ (s : Shared) (Q : Value → Shared → Prop) E, Q (.ref s.heap.objs.size) { s with heap := s.heap.push o0 } → wpAny (model prog w) A newAcc Q E s)
    (LO : ∀ I C D, LoopOf prog w A e target (.ref I) (.ref D) (compEnvC scope cl C env) (T I C D))
    (hcl : clausesOf e = gc :: gs) (hs : ∀ x, foldedSetIterable gc.iter env x = pure x) (hclos : closureFor scope env = pure cl)
    (hcell : ∀ y ∈ scope.names, y.2 ≠ .cell) (hkind : scope.kind = .function) (hnames : ∀ x ∈ scope.names, x.2 = .local → scope.names.lookup x.1 = some .local)
    (h : wpAny (model prog w) A first (fun x s₁ => wpAny (model prog w) A (pyIter x) (CompGo prog w A g L m o0 target T (fun _ => m) (fun D => Q (.ref D))) E s₁) E s) :
    wpAny (model prog w) A (comprehension e scope env pos newAcc false first) Q E s := by
  refine wpAny_comprehension_free (use := none) hcl hs hclos hkind hnames (wpAny_mono h (fun x s₁ h₁ => wpAny_mono h₁ (fun it s h => ?_) fun _ _ q => q) fun _ _ q => q)
  obtain ⟨I, n, P, St, ob, Src, news, J, rfl, W, hst, hSK, F, N, hg, hL, hn, hs0, hsrc, h0, turn, done⟩ := h
  refine compBlock hof hAcc (LO I) W hst hSK J hcell hkind F N hg hL hn hs0 hsrc h0 turn fun C D h' tk news' F' N' hJ => ?_
  obtain ⟨oC, mC, rest, rfl, hoC, hr, q⟩ := done C D news' hJ
  exact ⟨mC, hoC.ns (N' _ (.head _)).1, fun h'' hs'' => by obtain ⟨F2, N2⟩ := drop_C F' N' hr hs''; exact q h'' tk F2 N2⟩
theorem useComp {g : Heap} {e target : Expr} {gc : Comprehension} {gs : List Comprehension} {scope : Scope} {cl : List (Str × Addr)} {pos : Pos} {newAcc first : Sem Value} {o0 : Obj} {T : Addr → Addr → Addr → Value → (Shared → Prop) → Shared → Prop} {m : Str → Option Value} {Q : Value → Shared → Prop} {y : Str} {py : Pos}
    (hy : env.kindOf y = some .local) (hp : (env.scope.kind == .class || (env.scope.kind == .module && env.locals != env.globals)) = false)
    (hof : o0.isFreed = false) (hAcc : ∀ (s : Shared) (Q : Value → Shared → Prop) E, Q (.ref s.heap.objs.size) { s with heap := s.heap.push o0 } → wpAny (model prog w) A newAcc Q E s)
    (LO : ∀ I C D, LoopOf prog w A e target (.ref I) (.ref D) (compEnvC scope cl C env) (T I C D))
    (hcl : clausesOf e = gc :: gs) (hs : ∀ x, foldedSetIterable gc.iter env x = pure x) (hclos : closureFor scope env = pure cl)
    (hcell : ∀ y ∈ scope.names, y.2 ≠ .cell) (hkind : scope.kind = .function) (hnames : ∀ x ∈ scope.names, x.2 = .local → scope.names.lookup x.1 = some .local)
    (h : wpAny (model prog w) A first (fun x s₁ => wpAny (model prog w) A (pyIter x) (CompGo prog w A g env.locals m o0 target T (fun D z => if z = y then some (.ref D) else m z) (fun _ => Q .none)) E s₁) E s) :
    wpAny (model prog w) A (comprehension e scope env pos newAcc false first (some (assign (.Name y py) env))) Q E s := by
  refine wpAny_comprehension_free hcl hs hclos hkind hnames (wpAny_mono h (fun x s₁ h₁ => wpAny_mono h₁ (fun it s h => ?_) fun _ _ q => q) fun _ _ q => q)
  obtain ⟨I, n, P, St, ob, Src, news, J, rfl, W, hst, hSK, F, N, hg, hL, hn, hs0, hsrc, h0, turn, done⟩ := h
  refine compBlock hof hAcc (LO I) W hst hSK J hcell hkind F N hg hL hn hs0 hsrc h0 turn fun C D h' tk news' F' N' hJ => ?_
  obtain ⟨oC, mC, rest, rfl, hoC, hr, q⟩ := done C D news' hJ
  show wpAny _ A (assign (.Name y py) env (.ref D)) _ _ _
  refine wpAny_assign_Name (wpAny_storeName_local hy F'.ns (fun h₂ hn₂ hs₂ => ?_) hp)
  have F2 := F'.set hn₂ hs₂
  have N2 := N'.set hs₂
  exact ⟨mC, hoC.ns (N2 _ (.head _)).1, fun h'' hs'' => by obtain ⟨F3, N3⟩ := drop_C F2 N2 hr hs''; exact q h'' _ F3 N3⟩
/-- the source is a list of the ledger -/
theorem CompGo.list {g : Heap} {L l : Addr} {m : Str → Option Value} {o0 : Obj} {x : Str} {px : Pos} {T : Addr → Addr → Addr → Value → (Shared → Prop) → Shared → Prop} {mf : Addr → Str → Option Value} {Fin : Addr → Shared → Prop} {vs : Array Value} {n : Nat} {news : List (Addr × Obj)}
    (J : Addr → Addr → Nat → List (Addr × Obj) → Prop) (hh : A.handled = none) (F : Fr g L s.heap m) (N : News g L s.heap news) (hm : (l, W.listOf vs n) ∈ news) (hmem : ∀ C D i news', J C D i news' → (l, W.listOf vs n) ∈ news')
    (h0 : ∀ (I C D : Addr) oC, NsObj oC (fun _ => none) → (D : Nat) < C → (I : Nat) < D → (L : Nat) < D → (∀ p ∈ news, (p.1 : Nat) < D) → J C D 0 ((C, oC) :: (D, o0) :: news))
    (turn : ∀ I C D i v news₁ oit s₁, vs[i]? = some v → J C D i news₁ → (∀ p ∈ news₁, p.1 ≠ I) → (∃ h tk, s₁ = { s with heap := h, toks := tk }) →
          Fr g L s₁.heap m → News g L s₁.heap ((I, oit) :: news₁) → T I C D v (CEnd g L m I oit (J C D (i + 1)) { s with heap := s.heap.push { cls := .type "list_iterator", data := .fields #[.ref l, .int 0 0] } }) s₁)
    (done : ∀ C D news', J C D vs.size news' → ∃ oC mC rest, news' = (C, oC) :: rest ∧ NsObj oC mC ∧ (∀ p ∈ rest, p.1 ≠ C) ∧ ∀ h'' tk, Fr g L h'' (mf D) → News g L h'' rest → Fin D { s with heap := h'', toks := tk }) :
    CompGo prog w A g L m o0 (.Name x px) T mf Fin (.ref s.heap.objs.size) { s with heap := s.heap.push { cls := .type "list_iterator", data := .fields #[.ref l, .int 0 0] } } := by
  have hlt : (l : Nat) < s.heap.objs.size := Heap.lt_size (N _ hm).1
  obtain ⟨z1, z2, z3⟩ := fresh_it F N
  have kp := push_sub s.heap { cls := .type "list_iterator", data := .fields #[.ref l, .int 0 0] }
  refine ⟨s.heap.objs.size, _, _, _, (fun i o => o.cls = .type "list_iterator" ∧ o.data = .fields #[.ref l, .int i 0]), (fun h => h.IsList l vs), news, J, rfl, Stepper.of (Walks.list hh s.heap.objs.size l (Nat.ne_of_lt hlt) vs) (fun b hb => by simpa using hb),
    fun i h => ⟨fun ⟨⟨o, a, b, c⟩, e⟩ => ⟨⟨o, a, b, c⟩, e⟩, fun ⟨⟨o, a, b, c⟩, e⟩ => ⟨⟨o, a, b, c⟩, e⟩⟩, fun h h' k ⟨o, e, r⟩ => ⟨o, k _ _ e, r⟩, fr_sub F kp, news_sub N kp, z1, z2, z3,
    ⟨⟨_, Heap.get?_push_size _ rfl, rfl, rfl⟩, ⟨_, kp _ _ (N _ hm).1, rfl, _, rfl⟩⟩, fun C D i news' h' j _ n => ⟨_, (n _ (hmem C D i news' j)).1, rfl, _, rfl⟩, fun C D oC => h0 _ C D oC, fun C D i v news₁ oit s₁ hi hP hJ hne ⟨h, tk, e⟩ => turn _ C D i v news₁ oit s₁ hP hJ hne ⟨h, tk, e⟩, done⟩
/-- the source is `d.items()` -/
theorem CompGo.items {K : Type} [DecidableEq K] {knd : KeyKind prog w K} {g : Heap} {L d : Addr} {m : Str → Option Value} {o0 : Obj} {elts : List Expr} {x1} {tp : Pos} {T : Addr → Addr → Addr → Value → (Shared → Prop) → Shared → Prop} {mf : Addr → Str → Option Value} {Fin : Addr → Shared → Prop} {kvs : List (K × Value)} {ep : Nat} {news : List (Addr × Obj)}
    (J : Addr → Addr → Nat → List (Addr × Obj) → Prop) (hh : A.handled = none) (F : Fr g L s.heap m) (N : News g L s.heap news) (hm : s.heap.DictAt knd d kvs ep) (hsrc : ∀ C D i news' h', J C D i news' → Fr g L h' m → News g L h' news' → h'.DictAt knd d kvs ep)
    (h0 : ∀ (I C D : Addr) oC, NsObj oC (fun _ => none) → (D : Nat) < C → (I : Nat) < D → (L : Nat) < D → (∀ p ∈ news, (p.1 : Nat) < D) → J C D 0 ((C, oC) :: (D, o0) :: news))
    (turn : ∀ I C D i k v key t news₁ oit s₁, kvs[i]? = some (k, v) → knd.is k key = true → s₁.heap.IsTuple t #[key, v] → J C D i news₁ → (∀ p ∈ news₁, p.1 ≠ I) → (∃ h tk, s₁ = { s with heap := h, toks := tk }) →
          Fr g L s₁.heap m → News g L s₁.heap ((I, oit) :: news₁) → T I C D (.ref t) (CEnd g L m I oit (J C D (i + 1)) s) s₁)
    (done : ∀ C D news', J C D kvs.length news' → ∃ oC mC rest, news' = (C, oC) :: rest ∧ NsObj oC mC ∧ (∀ p ∈ rest, p.1 ≠ C) ∧ ∀ h'' tk, Fr g L h'' (mf D) → News g L h'' rest → Fin D { s with heap := h'', toks := tk }) :
    CompGo prog w A g L m o0 (.Tuple elts x1 tp) T mf Fin (.ref s.heap.objs.size) { s with heap := s.heap.push { cls := .type "dict_itemiterator", data := .fields #[.none, .bool false, .ref d, .int 0 0, .int kvs.length 0, .int ep 0, .none, .none] } } := by
  obtain ⟨z1, z2, z3⟩ := fresh_it F N
  have kp := push_sub s.heap { cls := .type "dict_itemiterator", data := .fields #[.none, .bool false, .ref d, .int 0 0, .int kvs.length 0, .int ep 0, .none, .none] }
  refine ⟨s.heap.objs.size, _, _, _, (fun i o => ∃ ok ov, o = { cls := .type "dict_itemiterator", data := .fields #[.none, .bool false, .ref d, .int i 0, .int kvs.length 0, .int ep 0, ok, ov] }), (fun h => h.DictAt knd d kvs ep), news, J, rfl, Stepper.items (knd := knd) hh s.heap.objs.size d kvs ep,
    fun i h => ⟨fun ⟨⟨ok, ov, a⟩, e⟩ => ⟨⟨_, a, ok, ov, rfl⟩, e⟩, fun ⟨⟨o, a, ok, ov, b⟩, e⟩ => ⟨⟨ok, ov, a.trans (congrArg some b)⟩, e⟩⟩, fun h h' k x => x.keep k, fr_sub F kp, news_sub N kp, z1, z2, z3,
    ⟨⟨_, _, Heap.get?_push_size _ rfl⟩, hm.keep kp⟩, hsrc, fun C D oC => h0 _ C D oC, fun C D i v news₁ oit s₁ hi hP hJ hne ⟨h, tk, e⟩ => ?_, done⟩
  obtain ⟨k, x, key, t, hkv, hkey, rfl, ht⟩ := hP
  exact turn _ C D i k x key t news₁ oit s₁ hkv hkey ht hJ hne ⟨h, tk, e⟩
/-- a for loop over a list of the ledger -/
theorem forList {Q : Flow → Shared → Prop} {g : Heap} {l : Addr} {x : Str} {px : Pos} {body : List Stmt} {m : Str → Option Value} {vs : Array Value} {n : Nat} {news : List (Addr × Obj)}
    (J : Nat → (Str → Option Value) → List (Addr × Obj) → Prop) (hh : A.handled = none) (F : Fr g env.locals s.heap m) (N : News g env.locals s.heap news) (hm : (l, W.listOf vs n) ∈ news) (hmem : ∀ i m' news', J i m' news' → (l, W.listOf vs n) ∈ news')
    (h0 : J 0 m news)
    (turn : ∀ I i v m₁ news₁ oit s₁, vs[i]? = some v → J i m₁ news₁ → (∀ p ∈ news₁, p.1 ≠ I) → (∃ h tk, s₁ = { s with heap := h, toks := tk }) →
      Fr g env.locals s₁.heap m₁ → News g env.locals s₁.heap ((I, oit) :: news₁) →
      wpAny (model prog w) A (assign (.Name x px) env v) (fun _ s₂ => wpAny (model prog w) A (execs body env) (TurnPost g env.locals I oit (J (i + 1)) { s with heap := s.heap.push { cls := .type "list_iterator", data := .fields #[.ref l, .int 0 0] } } Q) (fun _ _ => False) s₂) (fun _ _ => False) s₁)
    (done : ∀ h' tk m' news', Fr g env.locals h' m' → News g env.locals h' news' → J vs.size m' news' → Q .next { s with heap := h', toks := tk }) :
    codeAny (model prog w) A (.forLoop (.Name x px) (.ref s.heap.objs.size) body [] env) (fun r s' => match r with | .ok f => Q f s' | .error e => cameBackBy (model prog w) A env (fun _ _ => False) e s') { s with heap := s.heap.push { cls := .type "list_iterator", data := .fields #[.ref l, .int 0 0] } } := by
  have hlt : (l : Nat) < s.heap.objs.size := Heap.lt_size (N _ hm).1
  obtain ⟨z1, z2, z3⟩ := fresh_it F N
  have kp := push_sub s.heap { cls := .type "list_iterator", data := .fields #[.ref l, .int 0 0] }
  exact forStep (Stepper.of (Walks.list hh s.heap.objs.size l (Nat.ne_of_lt hlt) vs) (fun b hb => by simpa using hb)) (ob := fun i o => o.cls = .type "list_iterator" ∧ o.data = .fields #[.ref l, .int i 0]) (Src := fun h => h.IsList l vs)
    (fun i h => ⟨fun ⟨⟨o, a, b, c⟩, e⟩ => ⟨⟨o, a, b, c⟩, e⟩, fun ⟨⟨o, a, b, c⟩, e⟩ => ⟨⟨o, a, b, c⟩, e⟩⟩) J (fr_sub F kp) (news_sub N kp) z1 z2 z3
    ⟨⟨_, Heap.get?_push_size _ rfl, rfl, rfl⟩, ⟨_, kp _ _ (N _ hm).1, rfl, _, rfl⟩⟩ (fun i m' news' h' j _ n => ⟨_, (n _ (hmem i m' news' j)).1, rfl, _, rfl⟩) h0
    (fun i v m₁ news₁ oit s₁ hi hP hJ hne ⟨h, tk, e⟩ => turn _ i v m₁ news₁ oit s₁ hP hJ hne ⟨h, tk, e⟩) done
/-- a for loop over a text -/
theorem forStr {E : Value → Shared → Prop} {Q : Flow → Shared → Prop} {g : Heap} {y : Str} {py : Pos} {body : List Stmt} {m : Str → Option Value} {x : Str} {t : Tok} {news : List (Addr × Obj)}
    (J : Nat → (Str → Option Value) → List (Addr × Obj) → Prop) (hh : A.handled = none) (F : Fr g env.locals s.heap m) (N : News g env.locals s.heap news)
    (h0 : J 0 m news)
    (turn : ∀ I i c u m₁ news₁ oit s₁, x.cps[i]? = some c → J i m₁ news₁ → (∀ p ∈ news₁, p.1 ≠ I) → (∃ h tk, s₁ = { s with heap := h, toks := tk }) →
      Fr g env.locals s₁.heap m₁ → News g env.locals s₁.heap ((I, oit) :: news₁) →
      wpAny (model prog w) A (assign (.Name y py) env (.str ⟨#[c]⟩ u)) (fun _ s₂ => wpAny (model prog w) A (execs body env) (TurnPost g env.locals I oit (J (i + 1)) { s with heap := s.heap.push { cls := .type (strIterType x), data := .fields #[.str x t, .int 0 0] } } Q) (fun _ _ => False) s₂) (fun _ _ => False) s₁)
    (done : ∀ h' tk m' news', Fr g env.locals h' m' → News g env.locals h' news' → J x.cps.size m' news' → Q .next { s with heap := h', toks := tk }) :
    wpAny (model prog w) A (pyIter (.str x t)) (fun it s₂ => codeAny (model prog w) A (.forLoop (.Name y py) it body [] env) (fun r s' => match r with | .ok f => Q f s' | .error e => cameBackBy (model prog w) A env (fun _ _ => False) e s') s₂) E s := by
  refine wpAny_pyIter_strU ?_
  obtain ⟨z1, z2, z3⟩ := fresh_it F N
  have kp := push_sub s.heap { cls := .type (strIterType x), data := .fields #[.str x t, .int 0 0] }
  have go : ∀ ty : String, Walks prog w A s.heap.objs.size [s.heap.objs.size] [s.heap.objs.size] x.cps.size (SignAt x) (fun i h => h.IsStrIter s.heap.objs.size ty x t i) → strIterType x = ty →
      codeAny (model prog w) A (.forLoop (.Name y py) (.ref s.heap.objs.size) body [] env) (fun r s' => match r with | .ok f => Q f s' | .error e => cameBackBy (model prog w) A env (fun _ _ => False) e s') { s with heap := s.heap.push { cls := .type (strIterType x), data := .fields #[.str x t, .int 0 0] } } := by
    intro ty W e
    refine forStep (Stepper.of W (fun b hb => by simpa using hb)) (ob := fun i o => o.cls = .type ty ∧ o.data = .fields #[.str x t, .int i 0]) (Src := fun _ => True)
      (fun i h => ⟨fun ⟨o, a, b, c⟩ => ⟨⟨o, a, b, c⟩, trivial⟩, fun ⟨⟨o, a, b, c⟩, _⟩ => ⟨o, a, b, c⟩⟩) J (fr_sub F kp) (news_sub N kp) z1 z2 z3
      ⟨_, Heap.get?_push_size _ rfl, by rw [e], rfl⟩ (fun i m' news' h' j _ n => trivial) h0
      (fun i v m₁ news₁ oit s₁ hi hP hJ hne ⟨h, tk, e⟩ => ?_) done
    obtain ⟨c, u, hc, rfl⟩ := hP
    exact turn _ i c u m₁ news₁ oit s₁ hc hJ hne ⟨h, tk, e⟩
  cases ha : x.cps.all (· < 128)
  · exact go "str_iterator" (Walks.strWide hh _ x t) (by simp [strIterType, ha])
  · exact go "str_ascii_iterator" (Walks.strAscii hh _ x t) (by simp [strIterType, ha])
/-- a for loop over the items of a dict, any tuple target -/
theorem forPairs {K : Type} [DecidableEq K] {knd : KeyKind prog w K} {Q : Flow → Shared → Prop} {g : Heap} {d : Addr} {elts : List Expr} {x1} {tp : Pos} {body : List Stmt} {m : Str → Option Value} {kvs : List (K × Value)} {ep : Nat} {news : List (Addr × Obj)}
    (J : Nat → (Str → Option Value) → List (Addr × Obj) → Prop) (hh : A.handled = none) (F : Fr g env.locals s.heap m) (N : News g env.locals s.heap news) (hm : s.heap.DictAt knd d kvs ep) (hsrc : ∀ i m' news' h', J i m' news' → Fr g env.locals h' m' → News g env.locals h' news' → h'.DictAt knd d kvs ep)
    (h0 : J 0 m news)
    (turn : ∀ I i k v key t m₁ news₁ oit s₁, kvs[i]? = some (k, v) → knd.is k key = true → s₁.heap.IsTuple t #[key, v] → J i m₁ news₁ → (∀ p ∈ news₁, p.1 ≠ I) → (∃ h tk, s₁ = { s with heap := h, toks := tk }) →
      Fr g env.locals s₁.heap m₁ → News g env.locals s₁.heap ((I, oit) :: news₁) →
      wpAny (model prog w) A (assign (.Tuple elts x1 tp) env (.ref t)) (fun _ s₂ => wpAny (model prog w) A (execs body env) (TurnPost g env.locals I oit (J (i + 1)) s Q) (fun _ _ => False) s₂) (fun _ _ => False) s₁)
    (done : ∀ h' tk m' news', Fr g env.locals h' m' → News g env.locals h' news' → J kvs.length m' news' → Q .next { s with heap := h', toks := tk }) :
    codeAny (model prog w) A (.forLoop (.Tuple elts x1 tp) (.ref s.heap.objs.size) body [] env) (fun r s' => match r with | .ok f => Q f s' | .error e => cameBackBy (model prog w) A env (fun _ _ => False) e s')
      { s with heap := s.heap.push { cls := .type "dict_itemiterator", data := .fields #[.none, .bool false, .ref d, .int 0 0, .int kvs.length 0, .int ep 0, .none, .none] } } := by
  obtain ⟨z1, z2, z3⟩ := fresh_it F N
  have kp := push_sub s.heap { cls := .type "dict_itemiterator", data := .fields #[.none, .bool false, .ref d, .int 0 0, .int kvs.length 0, .int ep 0, .none, .none] }
  refine forStep (Stepper.items (knd := knd) hh s.heap.objs.size d kvs ep) (ob := fun i o => ∃ ok ov, o = { cls := .type "dict_itemiterator", data := .fields #[.none, .bool false, .ref d, .int i 0, .int kvs.length 0, .int ep 0, ok, ov] }) (Src := fun h => h.DictAt knd d kvs ep)
    (fun i h => ⟨fun ⟨⟨ok, ov, a⟩, e⟩ => ⟨⟨_, a, ok, ov, rfl⟩, e⟩, fun ⟨⟨o, a, ok, ov, b⟩, e⟩ => ⟨⟨ok, ov, a.trans (congrArg some b)⟩, e⟩⟩) J (fr_sub F kp) (news_sub N kp) z1 z2 z3
    ⟨⟨_, _, Heap.get?_push_size _ rfl⟩, hm.keep kp⟩ hsrc h0 (fun i v m₁ news₁ oit s₁ hi hP hJ hne ⟨h, tk, e⟩ => ?_) done
  obtain ⟨k, x, key, t, hkv, hkey, rfl, ht⟩ := hP
  exact turn _ i k x key t m₁ news₁ oit s₁ hkv hkey ht hJ hne ⟨h, tk, e⟩
/-- the target's name in the comprehension's own space -/
theorem compStore {g : Heap} {L C : Addr} {oC : Obj} {scope : Scope} {cl : List (Str × Addr)} {m mC : Str → Option Value} {x : Str} {px : Pos} {v : Value} {pre post : List (Addr × Obj)} {Q : Unit → Shared → Prop}
    (hkind : scope.kind = .function) (hx : scope.names.lookup x = some .local)
    (F : Fr g L s.heap m) (N : News g L s.heap (pre ++ (C, oC) :: post)) (h1 : ∀ p ∈ pre, p.1 ≠ C) (h2 : ∀ p ∈ post, p.1 ≠ C) (hoC : NsObj oC mC)
    (q : ∀ h' tk oC', Fr g L h' m → News g L h' (pre ++ (C, oC') :: post) → NsObj oC' (fun y => if y = x then some v else mC y) → Q () { s with heap := h', toks := tk }) :
    wpAny (model prog w) A (assign (.Name x px) (compEnvC scope cl C env) v) Q E s := by
  have n0 := N (C, oC) (by simp)
  refine wpAny_assign_Name (wpAny_storeName_local (env := compEnvC scope cl C env) (lookup_relabel_local hx) (hoC.ns n0.1) (fun h₂ hn₂ hs₂ => ?_) (by simp [compEnvC, relabel, hkind]))
  obtain ⟨o', ho', hno⟩ := ns_obj hn₂
  obtain ⟨F2, N2⟩ := led_set F N h1 h2 hs₂ ho'
  exact q h₂ _ o' F2 N2 hno
theorem compAppend {g : Heap} {L D : Addr} {m : Str → Option Value} {ys : List Value} {y : Value} {pre post : List (Addr × Obj)} {Q : Value → Shared → Prop}
    (F : Fr g L s.heap m) (N : News g L s.heap (pre ++ (D, lst ys) :: post)) (h1 : ∀ p ∈ pre, p.1 ≠ D) (h2 : ∀ p ∈ post, p.1 ≠ D) (hsz : ys.length ≤ sizeLine)
    (q : ∀ h', Fr g L h' m → News g L h' (pre ++ (D, lst (ys ++ [y])) :: post) → Q .none { s with heap := h' }) :
    wpAny (model prog w) A (call (.builtin "list.append") [.ref D, y]) Q E s := by
  have n0 := N (D, lst ys) (by simp)
  refine append_at (hsz := by rw [List.size_toArray]; exact hsz) n0.1 fun h₅ hs₅ hD₅ => ?_
  obtain ⟨F2, N2⟩ := led_set F N h1 h2 hs₅ (hD₅.trans (congrArg some (LCg.lst_snoc ys y)))
  exact q h₅ F2 N2
end
end Mine
end
section
open PySem PySem.W PySem.Calls PyProof.Rows PySem.Spec
set_option Elab.async false
set_option linter.unusedVariables false
set_option maxRecDepth 100000
namespace Mine
open PyProof.Rows.LCg (NsObj ns_obj lst)
noncomputable def lowN (c : Nat) : Nat := if c < 97 then c + 32 else c
noncomputable def upN (c : Nat) : Nat := if c < 97 then c else c - 32
/-- a header list, built up: its objects are not the base's -/
noncomputable def HdrAt (w : World) (h : Heap) (x : Addr) (es : List (Nat × Nat)) : Prop :=
  ∃ (dx l : Addr) (tkn : Tok) (vs : Array Value) (n : Nat), h.get? x = some (instObj 248 dx) ∧ h.get? dx = some (hdrD w tkn l) ∧ h.get? l = some (W.listOf vs n) ∧ (dx : Nat) < x ∧ (x : Nat) < l ∧ vs.size = es.length ∧
    (∀ (i : Nat) a b, es[i]? = some (a, b) → ∃ t ta tb, vs[i]? = some (Value.ref t) ∧ (hideAll h [l, x, dx]).get? t = some (tup2 a b ta tb)) ∧
    Cx w (hideAll h [l, x, dx]) ∧ (∀ a b, (a, b) ∈ es → a ∈ letters ++ lettersU ∧ b ∈ letters) ∧ es.length ≤ 1000
theorem hide_mono {h h' : Heap} {ls : List Addr} (k : Sub h h') : Sub (hideAll h ls) (hideAll h' ls) := fun b o e => hideAll_get _ (k b o (of_hideAll _ e)) fun q => by rw [hideAll_none _ q] at e; cases e
theorem HdrAt.keep {w : World} {h h' : Heap} {x : Addr} {es : List (Nat × Nat)} (H : HdrAt w h x es) (k : Sub h h') : HdrAt w h' x es :=
  let ⟨dx, l, tkn, vs, n, a, b, c, d, e, f, g, C, r⟩ := H
  ⟨dx, l, tkn, vs, n, k _ _ a, k _ _ b, k _ _ c, d, e, f, fun i a b hi => let ⟨t, ta, tb, p, q⟩ := g i a b hi; ⟨t, ta, tb, p, hide_mono k _ _ q⟩, C.sub (hide_mono k), r⟩
theorem rebase2 {H h₁ : Heap} {L : Addr} {m : Str → Option Value} {cells : List (Addr × Obj)} (ls : List (Addr × Obj)) (F : Fr H L h₁ m) (N : News H L h₁ cells) (hl : ∀ p ∈ ls, H.get? p.1 = some p.2) :
    Fr (hideAll H (ls.map (·.1))) L h₁ m ∧ News (hideAll H (ls.map (·.1))) L h₁ (cells ++ ls) := by
  obtain ⟨F2, N2⟩ := rebase ls F hl
  refine ⟨F2, fun p hp => ?_⟩
  rcases List.mem_append.mp hp with hp | hp
  · have := N p hp
    refine ⟨this.1, this.2.1, ?_⟩
    cases q : (hideAll H (ls.map (·.1))).get? p.1 with
    | none => rfl
    | some o => rw [of_hideAll _ q] at this; cases this.2.2
  · exact N2 p hp
theorem low_call {prog : Program} {w : World} {A : Around} {E : Value → Shared → Prop} {s : Shared} {c : Nat} {t : Tok} {Q : Value → Shared → Prop} (hc : c ∈ letters ++ lettersU)
    (h : ∀ t' k, Q (.str ⟨#[lowN c]⟩ t') { s with toks := k }) : wpAny (model prog w) A (call (.builtin "str.lower") [.str ⟨#[c]⟩ t]) Q E s := by
  simp only [letters, lettersU, List.cons_append, List.nil_append, List.mem_cons, List.not_mem_nil, or_false] at hc
  rcases hc with rfl | rfl | rfl | rfl | rfl | rfl | rfl | rfl | rfl | rfl | rfl | rfl | rfl | rfl <;> exact SC.lower (by decide +kernel) (h _ _)
theorem up_call {prog : Program} {w : World} {A : Around} {E : Value → Shared → Prop} {s : Shared} {c : Nat} {t : Tok} {Q : Value → Shared → Prop} (hc : c ∈ letters ++ lettersU)
    (h : ∀ t' k, Q (.str ⟨#[upN c]⟩ t') { s with toks := k }) : wpAny (model prog w) A (call (.builtin "str.upper") [.str ⟨#[c]⟩ t]) Q E s := by
  simp only [letters, lettersU, List.cons_append, List.nil_append, List.mem_cons, List.not_mem_nil, or_false] at hc
  rcases hc with rfl | rfl | rfl | rfl | rfl | rfl | rfl | rfl | rfl | rfl | rfl | rfl | rfl | rfl <;> exact SC.upper (by decide +kernel) (h _ _)
local macro_rules | `(tactic| walk_at "call builtin:str.lower") => `(tactic| (k_here; (refine' low_call ?a ?_; (case a => assumption)); intro _ _))
theorem iterL {prog : Program} {w : World} {A : Around} {E : Value → Shared → Prop} {s : Shared} {g : Heap} {L l : Addr} {news : List (Addr × Obj)} {vs : Array Value} {n : Nat} {Q : Value → Shared → Prop} (N : News g L s.heap news) (hm : (l, W.listOf vs n) ∈ news)
    (h : Q (.ref s.heap.objs.size) { s with heap := s.heap.push { cls := .type "list_iterator", data := .fields #[.ref l, .int 0 0] } }) : wpAny (model prog w) A (pyIter (.ref l)) Q E s :=
  wpAny_pyIter_list ⟨_, (N _ hm).1, rfl, _, rfl⟩ h
theorem tupTail {prog : Program} {w : World} {A : Around} {E : Value → Shared → Prop} {s : Shared} {g : Heap} {L t : Addr} {m : Str → Option Value} {a b : Nat} {ta tb : Tok} {i : Int} {u : Tok} {k : Nat} {y : Value} {value slice : Expr} {Q : Value → Shared → Prop} (F : Fr g L s.heap m) (ht : g.get? t = some (tup2 a b ta tb))
    (hlo : -2 ^ 63 ≤ i) (hhi : i < 2 ^ 63) (hk : seqIndex? i 2 = some k) (hy : (#[.str ⟨#[a]⟩ ta, .str ⟨#[b]⟩ tb] : Array Value)[k]? = some y) (h : Q y s)
    (hs : subscripted slice false (.ref t) (.int i u) = operate [(.ref t), (.int i u)] (getItem (.ref t) (.int i u)) := by with_unfolding_all rfl) (hg : ∀ r, letTemporaryGo value (.ref t) r = pure () := by intro _; with_unfolding_all rfl) :
    wpAny (model prog w) A (subscriptTail value slice (.ref t) (.int i u)) Q E s :=
  subscriptTail_builtin ⟨_, F.keep _ _ ht, rfl⟩ PySem.F.slot_tuple_getitem.lookup (P.getItem_tuple (F.keep _ _ ht) hlo hhi hk hy h) hs hg
theorem tup0 {prog : Program} {w : World} {A : Around} {E : Value → Shared → Prop} {s : Shared} {g : Heap} {L t : Addr} {m : Str → Option Value} {a b : Nat} {ta tb u : Tok} {value slice : Expr} {Q : Value → Shared → Prop} (F : Fr g L s.heap m) (ht : g.get? t = some (tup2 a b ta tb)) (h : Q (.str ⟨#[a]⟩ ta) s)
    (hs : subscripted slice false (.ref t) (.int 0 u) = operate [(.ref t), (.int 0 u)] (getItem (.ref t) (.int 0 u)) := by with_unfolding_all rfl) (hg : ∀ r, letTemporaryGo value (.ref t) r = pure () := by intro _; with_unfolding_all rfl) :
    wpAny (model prog w) A (subscriptTail value slice (.ref t) (.int 0 u)) Q E s := tupTail F ht (by decide) (by decide) rfl rfl h hs hg
theorem tup1 {prog : Program} {w : World} {A : Around} {E : Value → Shared → Prop} {s : Shared} {g : Heap} {L t : Addr} {m : Str → Option Value} {a b : Nat} {ta tb u : Tok} {value slice : Expr} {Q : Value → Shared → Prop} (F : Fr g L s.heap m) (ht : g.get? t = some (tup2 a b ta tb)) (h : Q (.str ⟨#[b]⟩ tb) s)
    (hs : subscripted slice false (.ref t) (.int 1 u) = operate [(.ref t), (.int 1 u)] (getItem (.ref t) (.int 1 u)) := by with_unfolding_all rfl) (hg : ∀ r, letTemporaryGo value (.ref t) r = pure () := by intro _; with_unfolding_all rfl) :
    wpAny (model prog w) A (subscriptTail value slice (.ref t) (.int 1 u)) Q E s := tupTail F ht (by decide) (by decide) rfl rfl h hs hg
local macro_rules | `(tactic| walk_at "CompGo") => `(tactic| fail)
local macro_rules | `(tactic| walk_at "pyIter ref") => `(tactic| (k_here; (refine' iterL ?N ?m ?_; (case N => k_asm); (case m => k_mem))))
local macro_rules | `(tactic| walk_at "subscriptTail Name Constant ref int") => `(tactic| (k_here; (first | (refine' tup0 ?F ?t ?_; (case F => k_asm); (case t => assumption)) | (refine' tup1 ?F ?t ?_; (case F => k_asm); (case t => assumption)))))
local macro_rules | `(tactic| walk_at "eval ListComp") => `(tactic| (k_here; rw [eval_ListComp]))
theorem low_mem {c : Nat} (h : c ∈ letters ++ lettersU) : lowN c ∈ letters ++ lettersU := by
  simp only [letters, lettersU, List.cons_append, List.nil_append, List.mem_cons, List.not_mem_nil, or_false] at h
  rcases h with rfl | rfl | rfl | rfl | rfl | rfl | rfl | rfl | rfl | rfl | rfl | rfl | rfl | rfl <;> decide
inductive SL : List Value → List Nat → Prop
  | nil : SL [] []
  | cons (b : Nat) (t : Tok) {ys : List Value} {bs : List Nat} : SL ys bs → SL (.str ⟨#[b]⟩ t :: ys) (b :: bs)
theorem SL.snoc {ys : List Value} {bs : List Nat} (x : SL ys bs) (b : Nat) (t : Tok) : SL (ys ++ [.str ⟨#[b]⟩ t]) (bs ++ [b]) := by
  induction x with
  | nil => exact .cons _ _ .nil
  | cons b' t' _ ih => exact .cons _ _ ih
noncomputable def gets (es : List (Nat × Nat)) (c : Nat) : List Nat := (es.filter fun e => lowN e.1 = c).map (·.2)
theorem gets_take {es : List (Nat × Nat)} {i : Nat} {a b c : Nat} (h : es[i]? = some (a, b)) : gets (es.take (i + 1)) c = if lowN a = c then gets (es.take i) c ++ [b] else gets (es.take i) c := by
  unfold gets
  rw [List.take_add_one, h]
  by_cases q : lowN a = c <;> simp [q]
set_option maxHeartbeats 4000000
theorem c_getall {w : World} {dp un : Nat} {fr : Option (List Env)} {gd : Option (List Code)} {s : Shared} {R : Result → Shared → Prop} {x : Addr} {es : List (Nat × Nat)} {c : Nat} {t : Tok}
    (hd : dp + 20 < recursionLimit) (hu : un + 200 < cLine) (H : HdrAt w s.heap x es) (hc : c ∈ letters ++ lettersU)
    (ret : ∀ D ys h' tk', Sub s.heap h' → (s.heap.objs.size : Nat) < D → h'.get? D = some (lst ys) → SL ys (gets es (lowN c)) → R (.ok (.ret (.ref D))) { s with heap := h', toks := tk' }) :
    codeAny (MW w) (arA dp un fr gd) (.call (.ref 187) ⟨[.ref x, .str ⟨#[c]⟩ t], []⟩) R s := by
  obtain ⟨dx, l, tkn, vs, n, hx, hdx, hl, lt1, lt2, hvs, hes, C, hok, hlen⟩ := H
  obtain ⟨mean, mg, mb, Tp⟩ := id C.t
  have X0 := C.unhide.k
  refine enterCodeC [(Str.ofString "self", .ref x), (Str.ofString "name", .str ⟨#[c]⟩ t)] X0 (Tp.keeps fun b o e => of_hideAll _ e).nolimit (by show dp < _; omega) rfl rfl (BindsTo.of_eq rfl) (by intro n x hx; simp at hx; rcases hx with rfl | rfl; exact .inl rfl; exact .inr ⟨rfl, rfl⟩) (by decide) fun h₁ tk cells F N Y => ?_
  replace F : Fr s.heap s.heap.objs.size h₁ (fun y => if y = Str.ofString "self" then some (.ref x) else none) := F
  replace Y : CellsAre (fun y => if y = Str.ofString "name" then some (.str ⟨#[c]⟩ t) else none) [(Str.ofString "name", s.heap.objs.size + 1)] cells := Y
  obtain ⟨oc, rfl, hoc⟩ := Y.one
  replace hoc : oc.data = .cell (some (.str ⟨#[c]⟩ t)) := hoc
  have hxs : (x : Nat) < s.heap.objs.size := Heap.lt_size hx
  have hls : (l : Nat) < s.heap.objs.size := Heap.lt_size hl
  replace ⟨F, N⟩ := rebase2 [(l, W.listOf vs n), (x, instObj 248 dx), (dx, hdrD w tkn l)] F N (by intro p hp; simp only [List.mem_cons, List.not_mem_nil, or_false] at hp; rcases hp with rfl | rfl | rfl; exact hl; exact hx; exact hdx)
  replace F : Fr (hideAll s.heap [l, x, dx]) s.heap.objs.size h₁ _ := F
  replace N : News (hideAll s.heap [l, x, dx]) s.heap.objs.size h₁ ((s.heap.objs.size + 1, oc) :: [(l, W.listOf vs n), (x, instObj 248 dx), (dx, hdrD w tkn l)]) := N
  have X := C.k
  revert ret
  have ug : ∀ h', Sub (hideAll s.heap [l, x, dx]) h' → h'.get? l = some (W.listOf vs n) → h'.get? x = some (instObj 248 dx) → h'.get? dx = some (hdrD w tkn l) → Sub s.heap h' := fun h' k e1 e2 e3 b o e => by
    by_cases hb : b ∈ [l, x, dx]
    · simp only [List.mem_cons, List.not_mem_nil, or_false] at hb
      rcases hb with rfl | rfl | rfl
      · rw [e1, ← hl, e]
      · rw [e2, ← hx, e]
      · rw [e3, ← hdx, e]
    · exact k _ _ (hideAll_get _ e hb)
  have ud : ∀ D : Addr, (s.heap.objs.size : Nat) < D → s.heap.get? D = none := fun D h => none_ge (Nat.le_of_lt h)
  revert ug
  generalize hideAll s.heap [l, x, dx] = g at C F N X Tp hes
  intro ug
  intro ret
  show wpAny _ _ (execs [bm 14 7 0, bm 14 7 1] _) _ _ _
  obtain ⟨L, hL⟩ : ∃ L : Nat, L = s.heap.objs.size := ⟨_, rfl⟩
  rw [← hL] at F N hxs hls ud ⊢
  have hl1 : (l : Nat) < L + 1 := Nat.lt_succ_of_lt hls
  have hx1 : (x : Nat) < L + 1 := Nat.lt_succ_of_lt hxs
  have hdx1 : (dx : Nat) < L + 1 := Nat.lt_trans (ltN lt1) hx1
  replace lt1 := ltN lt1
  replace lt2 := ltN lt2
  unfold MW
  revert X; k_fill; intro X
  k_steps
  clear Y
  conv in bm 14 7 0 => whnf
  k_steps
  refine c_conv (w := w) (b := true) (C.sub F.keep) (by show dp + 1 + 5 < _; omega) (by show un + 3 + 50 < _; omega) (low_mem hc) fun h8 tk8 k8 => ?_
  replace F := fr_sub F k8
  replace N := news_sub N k8
  k_steps
  conv in bm 14 7 1 => whnf
  k_steps
  rename_i h9 o9 F9 N9 hc9
  replace N9 : News g L h9 [(L + 1, o9), (l, W.listOf vs n), (x, instObj 248 dx), (dx, hdrD w tkn l)] := N9
  refine evalComp (g := g) (L := L) (m := (fun y => if y = Str.ofString "self" then some (Value.ref x) else none)) (o0 := lst []) (cl := [(Str.ofString "name", L + 1)]) rfl (fun s Q E q => wpAny_newObj_type q) (fun I C D => loop_L1) rfl (by intro _; rfl) (by with_unfolding_all rfl) (by decide) rfl (by decide) ?_
  show wpAny _ _ (eval (.Attribute (.Name _ _) _ _) _) _ _ _
  k_steps
  refine CompGo.list (s := { s with heap := h9, toks := tk + 1 }) (fun C D i news' => ∃ oC mC ys, news' = (C, oC) :: (D, lst ys) :: [(L + 1, o9), (l, W.listOf vs n), (x, instObj 248 dx), (dx, hdrD w tkn l)] ∧ NsObj oC mC ∧ SL ys (gets (es.take i) (lowN c)) ∧ ys.length ≤ i ∧ (L : Nat) + 1 < D ∧ (D : Nat) < C) rfl F9 N9 (.tail _ (.head _)) ?_ ?_ ?_ ?_
  · rintro C D i news' ⟨oC, mC, ys, rfl, _⟩; exact .tail _ (.tail _ (.tail _ (.head _)))
  · intro I C D oC hoC h1 h2 h3 h4
    exact ⟨oC, _, [], rfl, hoC, .nil, Nat.zero_le _, h4 (L + 1, o9) (.head _), h1⟩
  · rintro I C D i v news₁ oit ⟨H, g1, g2, g3, g4⟩ hv ⟨oC, mC, ys, rfl, hoC, hys, hyl, q1, q2⟩ hne ⟨h5, tk5, e5⟩ F5 N5
    cases e5
    have hilt : i < es.length := by rw [← hvs]; exact (Array.getElem?_eq_some_iff.mp hv).1
    have hesi : es[i]? = some es[i] := List.getElem?_eq_getElem hilt
    have hem : es[i] ∈ es := List.getElem_mem hilt
    generalize es[i] = ab at hesi hem
    obtain ⟨a, b⟩ := ab
    obtain ⟨t1, ta, tb, hv1, ht1⟩ := hes i a b hesi
    rw [hv1] at hv
    cases hv
    obtain ⟨ha, hb⟩ := hok a b hem
    unfold TL1
    have r1 : (L : Nat) + 1 < C := Nat.lt_trans q1 q2
    have r2 : (l : Nat) < D := Nat.lt_trans hl1 q1
    have r3 : (x : Nat) < D := Nat.lt_trans hx1 q1
    have r4 : (dx : Nat) < D := Nat.lt_trans hdx1 q1
    refine compStore (pre := [(I, oit)]) (post := (D, lst ys) :: [(L + 1, o9), (l, W.listOf vs n), (x, instObj 248 dx), (dx, hdrD w tkn l)]) rfl rfl F5 N5 (by intro p hp; simp at hp; subst hp; exact (hne (C, oC) (.head _)).symm) ?_ hoC fun h6 tk6 oC6 F6 N6 hoC6 => ?_
    · intro p hp
      simp only [List.mem_cons, List.not_mem_nil, or_false] at hp
      rcases hp with rfl | rfl | rfl | rfl | rfl
      · exact Nat.ne_of_lt q2
      · exact Nat.ne_of_lt r1
      · exact Nat.ne_of_lt (Nat.lt_trans r2 q2)
      · exact Nat.ne_of_lt (Nat.lt_trans r3 q2)
      · exact Nat.ne_of_lt (Nat.lt_trans r4 q2)
    have hne6 : ∀ o ys', ∀ p ∈ (C, o) :: (D, lst ys') :: [(L + 1, o9), (l, W.listOf vs n), (x, instObj 248 dx), (dx, hdrD w tkn l)], p.1 ≠ I := by
      intro o ys' p hp
      simp only [List.mem_cons, List.not_mem_nil, or_false] at hp
      rcases hp with rfl | rfl | rfl | rfl | rfl | rfl
      · exact hne (C, oC) (.head _)
      · exact hne (D, lst ys) (.tail _ (.head _))
      · exact hne (L + 1, o9) (.tail _ (.tail _ (.head _)))
      · exact hne (l, W.listOf vs n) (.tail _ (.tail _ (.tail _ (.head _))))
      · exact hne (x, instObj 248 dx) (.tail _ (.tail _ (.tail _ (.tail _ (.head _)))))
      · exact hne (dx, hdrD w tkn l) (.tail _ (.tail _ (.tail _ (.tail _ (.tail _ (.head _))))))
    have hkv : (fun y => if y = Str.ofString "kv" then some (Value.ref t1) else mC y) (Str.ofString "kv") = some (.ref t1) := rfl
    generalize (fun y => if y = Str.ofString "kv" then some (Value.ref t1) else mC y) = m6 at hoC6 hkv
    have hsz : ys.toArray.size ≤ sizeLine := Nat.le_trans (show ys.toArray.size ≤ 1000 by rw [List.size_toArray]; omega) (by decide)
    have hgt := gets_take (c := lowN c) hesi
    dsimp only
    k_steps
    · rename_i hb
      have hne2 : lowN a = lowN c := by simpa using hb
      rw [if_pos hne2] at hgt
      refine compAppend (pre := [(I, oit), (C, oC6)]) (post := [(L + 1, o9), (l, W.listOf vs n), (x, instObj 248 dx), (dx, hdrD w tkn l)]) F6 N6 ?_ ?_ (by rw [List.size_toArray] at hsz; exact hsz) fun h7 F7 N7 => ?_
      · intro p hp
        simp only [List.mem_cons, List.not_mem_nil, or_false] at hp
        rcases hp with rfl | rfl
        · exact (hne (D, lst ys) (.tail _ (.head _))).symm
        · exact Nat.ne_of_gt q2
      · intro p hp
        simp only [List.mem_cons, List.not_mem_nil, or_false] at hp
        rcases hp with rfl | rfl | rfl | rfl
        · exact Nat.ne_of_lt q1
        · exact Nat.ne_of_lt r2
        · exact Nat.ne_of_lt r3
        · exact Nat.ne_of_lt r4
      · exact ⟨h7, _, _, rfl, F7, N7, hne6 oC6 _, oC6, _, _, rfl, hoC6, hgt ▸ hys.snoc b tb, by rw [List.length_append]; exact Nat.succ_le_succ hyl, q1, q2⟩
    · rename_i hb
      have hne2 : lowN a ≠ lowN c := fun q => by rw [q] at hb; simp at hb
      rw [if_neg hne2] at hgt
      exact ⟨h6, _, _, rfl, F6, N6, hne6 oC6 ys, oC6, _, ys, rfl, hoC6, hgt ▸ hys, Nat.le_succ_of_le hyl, q1, q2⟩
  · rintro C D news' ⟨oC, mC, ys, rfl, hoC, hys, hyl, q1, q2⟩
    have r1 : (L : Nat) + 1 < C := Nat.lt_trans q1 q2
    refine ⟨oC, mC, _, rfl, hoC, ?_, fun h'' tk F'' N'' => ?_⟩
    · intro p hp
      simp only [List.mem_cons, List.not_mem_nil, or_false] at hp
      rcases hp with rfl | rfl | rfl | rfl | rfl
      · exact Nat.ne_of_lt q2
      · exact Nat.ne_of_lt r1
      · exact Nat.ne_of_lt (Nat.lt_trans hl1 r1)
      · exact Nat.ne_of_lt (Nat.lt_trans hx1 r1)
      · exact Nat.ne_of_lt (Nat.lt_trans hdx1 r1)
    · rw [hvs, List.take_length] at hys
      exact ret D ys h'' tk (ug h'' F''.keep (N'' _ (.tail _ (.tail _ (.head _)))).1 (N'' _ (.tail _ (.tail _ (.tail _ (.head _))))).1 (N'' _ (.tail _ (.tail _ (.tail _ (.tail _ (.head _)))))).1) (hL ▸ Nat.lt_of_succ_lt q1) (N'' _ (.head _)).1 hys
end Mine
end
section
open PySem PySem.W PySem.Calls PyProof.Rows PySem.Spec
set_option Elab.async false
set_option linter.unusedVariables false
set_option maxRecDepth 100000
namespace Mine
open PyProof.Rows.LCg (NsObj ns_obj lst)
noncomputable abbrev PR : Program := PySem.Challenge.rw_zd0013_01.row.prog
section
variable {prog : Program} {w : World} {A : Around} {s : Shared} {env : Env} {E : Value → Shared → Prop}
/-- the two names of a tuple target in the comprehension's own space -/
theorem compPair {g : Heap} {L C : Addr} {oC : Obj} {scope : Scope} {cl : List (Str × Addr)} {m mC : Str → Option Value} {a b : Str} {pa pb tp : Pos} {kk : Nat} {x y : Value} {t : Addr} {pre post : List (Addr × Obj)} {Q : Unit → Shared → Prop}
    (hh : A.handled = none) (ht : s.heap.IsTuple t #[x, y]) (hkind : scope.kind = .function) (ha : scope.names.lookup a = some .local) (hb : scope.names.lookup b = some .local)
    (F : Fr g L s.heap m) (N : News g L s.heap (pre ++ (C, oC) :: post)) (h1 : ∀ p ∈ pre, p.1 ≠ C) (h2 : ∀ p ∈ post, p.1 ≠ C) (hoC : NsObj oC mC)
    (q : ∀ h' tk oC', Fr g L h' m → News g L h' (pre ++ (C, oC') :: post) → NsObj oC' (fun z => if z = b then some y else if z = a then some x else mC z) → Q () { s with heap := h', toks := tk }) :
    wpAny (model prog w) A (assign (.Tuple [.Name a pa, .Name b pb] kk tp) (compEnvC scope cl C env) (.ref t)) Q E s := by
  have n0 := N (C, oC) (by simp)
  refine kcp_assign (env := compEnvC scope cl C env) hh ht (lookup_relabel_local ha) (lookup_relabel_local hb) (by simp [compEnvC, relabel, hkind]) (hoC.ns n0.1) fun h' tk hn hk => ?_
  obtain ⟨o', ho', hno⟩ := ns_obj hn
  have kb : But C s.heap h' := fun b o hb e => hk b o hb e
  refine q h' tk o' (fr_but F kb n0.2.2 n0.2.1) (fun p hp => ?_) hno
  rcases List.mem_append.mp hp with hp | hp
  · have := N p (List.mem_append_left _ hp); exact ⟨kb _ _ (h1 p hp) this.1, this.2⟩
  · rcases List.mem_cons.mp hp with rfl | hp
    · exact ⟨ho', n0.2⟩
    · have := N p (List.mem_append_right _ (.tail _ hp)); exact ⟨kb _ _ (h2 p hp) this.1, this.2⟩
/-- a table of the ledger is written -/
theorem putInt {g : Heap} {L D : Addr} {oD : Obj} {es : List (Int × Int)} {m : Str → Option Value} {k n : Int} {kv : Value} {t : Tok} {pre post : List (Addr × Obj)} {Q : Unit → Shared → Prop}
    (F : Fr g L s.heap m) (N : News g L s.heap (pre ++ (D, oD) :: post)) (h1 : ∀ p ∈ pre, p.1 ≠ D) (h2 : ∀ p ∈ post, p.1 ≠ D) (hD : IsIntD prog w oD es) (hl : es.length ≤ 100000) (hk : (intKind prog w).is k kv = true)
    (q : ∀ h' tk oD', Fr g L h' m → News g L h' (pre ++ (D, oD') :: post) → IsIntD prog w oD' (iput es k n) → Q () { s with heap := h', toks := tk }) :
    wpAny (model prog w) A (dictSet D kv (.int n t)) Q E s := by
  have n0 := N (D, oD) (by simp)
  obtain ⟨kvs, hd, hi⟩ := hD
  have hsz : kvs.length ≤ sizeLine := Nat.le_trans (show kvs.length ≤ 100000 by rw [hi.len]; exact hl) (by decide)
  refine wpAny_dictSet_pairs (knd := intKind prog w) hk (Heap.dictOf_iff.mpr ⟨oD, n0.1, hd⟩) (fun h' hd' hs' => ?_) hsz
  obtain ⟨o', ho', hi'⟩ := Heap.dictOf_iff.mp hd'
  obtain ⟨F2, N2⟩ := led_set F N h1 h2 hs' ho'
  exact q h' _ o' F2 N2 ⟨_, hi', hi.put k n t⟩
end
/-- apart -/
noncomputable def Ap (news : List (Addr × Obj)) : Prop := (news.map (·.1)).Nodup
theorem Ap.cons {news : List (Addr × Obj)} {a : Addr} {o : Obj} (x : Ap news) (h : ∀ p ∈ news, p.1 ≠ a) : Ap ((a, o) :: news) :=
  List.nodup_cons.mpr ⟨fun q => by obtain ⟨p, hp, e⟩ := List.mem_map.mp q; exact h p hp e, x⟩
theorem Ap.tail {news : List (Addr × Obj)} {p : Addr × Obj} (x : Ap (p :: news)) : Ap news := (List.nodup_cons.mp x).2
theorem Ap.head {news : List (Addr × Obj)} {p : Addr × Obj} (x : Ap (p :: news)) : ∀ q ∈ news, q.1 ≠ p.1 := fun q hq e => (List.nodup_cons.mp x).1 (List.mem_map.mpr ⟨q, hq, e⟩)
theorem Ap.left {pre post : List (Addr × Obj)} {d : Addr} {o : Obj} (x : Ap (pre ++ (d, o) :: post)) : ∀ p ∈ pre, p.1 ≠ d := fun p hp e => by
  unfold Ap at x
  rw [List.map_append, List.nodup_append] at x
  exact x.2.2 p.1 (List.mem_map_of_mem hp) d (List.mem_map.mpr ⟨(d, o), .head _, rfl⟩) e
theorem Ap.right {pre post : List (Addr × Obj)} {d : Addr} {o : Obj} (x : Ap (pre ++ (d, o) :: post)) : ∀ p ∈ post, p.1 ≠ d := fun p hp e => by
  unfold Ap at x
  rw [List.map_append, List.nodup_append] at x
  exact (List.nodup_cons.mp x.2.1).1 (List.mem_map.mpr ⟨p, hp, e⟩)
theorem Ap.set {pre post : List (Addr × Obj)} {d : Addr} {o o' : Obj} (x : Ap (pre ++ (d, o) :: post)) : Ap (pre ++ (d, o') :: post) := by
  unfold Ap at x ⊢
  simpa using x
theorem Ap.sub {a b : List (Addr × Obj)} (h : a.Sublist b) (x : Ap b) : Ap a := List.Nodup.sublist (h.map _) x
/-- a new object is apart from the ledger -/
theorem ap_new {g h : Heap} {L a : Addr} {news : List (Addr × Obj)} (N : News g L h news) (ha : h.get? a = none) : ∀ p ∈ news, p.1 ≠ a := fun p hp e => by
  have := (N p hp).1; rw [e, ha] at this; cases this
theorem led_new {g h h' : Heap} {L a : Addr} {m : Str → Option Value} {o : Obj} {news : List (Addr × Obj)} (F : Fr g L h m) (N : News g L h news) (ap : Ap news) (k : Sub h h') (ha : h.get? a = none) (ho : h'.get? a = some o) :
    Fr g L h' m ∧ News g L h' ((a, o) :: news) ∧ Ap ((a, o) :: news) := by
  refine ⟨fr_sub F k, news_cons (news_sub N k) ho (fun e => ?_) (none_of_size F.keep ha), ap.cons (ap_new N ha)⟩
  obtain ⟨oL, _, _, hL, _⟩ := F.ns
  rw [← e, ha] at hL; cases hL
noncomputable def forBody : Stmt → List Stmt | .For _ _ b _ _ => b | _ => []
noncomputable def bl (i j k : Nat) : Stmt := (forBody ((fBody (stm i)).getD j (.Pass noPos))).getD k (.Pass noPos)
theorem execDictComp {prog : Program} {w : World} {A : Around} {s : Shared} {env : Env} {E : Value → Shared → Prop} {g : Heap} {kx vx target iter : Expr} {scope : Scope} {cl : List (Str × Addr)} {pos spos py : Pos} {m : Str → Option Value} {Q : Flow → Shared → Prop} {y : Str} (F₀ : Fr g env.locals s.heap m)
    (hsw : swapsWith (.DictComp kx vx [⟨target, iter, [], 0⟩] scope pos) (some (.Name y py)) spos.line env = pure true)
    (hy : env.kindOf y = some .local) (hp : (env.scope.kind == .class || (env.scope.kind == .module && env.locals != env.globals)) = false) (hclos : closureFor scope env = pure cl)
    (hcell : ∀ y ∈ scope.names, y.2 ≠ .cell) (hkind : scope.kind = .function) (hnames : ∀ x ∈ scope.names, x.2 = .local → scope.names.lookup x.1 = some .local)
    (h : wpAny (model prog w) A (eval iter env) (fun x s₁ => wpAny (model prog w) A (pyIter x) (CompGo prog w A g env.locals m { cls := .type "dict", data := .dict #[] } target (fun _ C D => TD0 prog w A target kx vx D (compEnvC scope cl C env)) (fun D z => if z = y then some (.ref D) else m z) (fun _ => Q .next)) E s₁) E s)
    (hs : ∀ x, foldedSetIterable iter env x = pure x := by intro _; rfl) :
    wpAny (model prog w) A (exec (.Assign [.Name y py] (.DictComp kx vx [⟨target, iter, [], 0⟩] scope pos) spos) env) Q E s := by
  rw [exec_Assign_Name_used _ _ _ _ hsw]
  refine wpAny_bind (wpAny_standAt (wpAny_bind ?_))
  show wpAny _ A (do let _ ← comprehension (.DictComp kx vx [⟨target, iter, [], 0⟩] scope pos) scope env _ newDict false (eval iter env) (some (assign (.Name y py) env))) _ _ s
  refine wpAny_bind (wpAny_mono (useComp (Q := fun _ s' => Q .next s') hy hp rfl (fun s Q E q => wpAny_newObj_type q) (fun I C D => loop_D0) rfl hs hclos hcell hkind hnames h) (fun _ s' hq => wpAny_pure (wpAny_pure hq)) fun _ _ e => e)
theorem evalDictComp {prog : Program} {w : World} {A : Around} {s : Shared} {env : Env} {E : Value → Shared → Prop} {g : Heap} {L : Addr} {kx vx target iter : Expr} {scope : Scope} {cl : List (Str × Addr)} {pos : Pos} {m : Str → Option Value} {Q : Value → Shared → Prop} (F₀ : Fr g L s.heap m)
    (hclos : closureFor scope env = pure cl)
    (hcell : ∀ y ∈ scope.names, y.2 ≠ .cell) (hkind : scope.kind = .function) (hnames : ∀ x ∈ scope.names, x.2 = .local → scope.names.lookup x.1 = some .local)
    (h : wpAny (model prog w) A (eval iter env) (fun x s₁ => wpAny (model prog w) A (pyIter x) (CompGo prog w A g L m { cls := .type "dict", data := .dict #[] } target (fun _ C D => TD0 prog w A target kx vx D (compEnvC scope cl C env)) (fun _ => m) (fun D => Q (.ref D))) E s₁) E s)
    (hs : ∀ x, foldedSetIterable iter env x = pure x := by intro _; rfl) :
    wpAny (model prog w) A (eval (.DictComp kx vx [⟨target, iter, [], 0⟩] scope pos) env) Q E s := by
  rw [arm_eval_DictComp]
  exact evalComp rfl (fun s Q E q => wpAny_newObj_type q) (fun I C D => loop_D0) rfl hs hclos hcell hkind hnames h
/-- a tuple target of two cells -/
theorem assignCells {prog : Program} {w : World} {A : Around} {E : Value → Shared → Prop} {s : Shared} {g : Heap} {L a ca cb t : Addr} {m : Str → Option Value} {cn : Str} {cs : Scope} {ccd : Value} {cl : List (Str × Addr)} {x y : Str} {px py tp : Pos} {kk : Nat} {u v : Value} {oa ob : Obj} {va vb : Option Value} {pre post : List (Addr × Obj)} {Q : Unit → Shared → Prop}
    (hh : A.handled = none) (ht : s.heap.IsTuple t #[u, v]) (F : Fr g L s.heap m) (N : News g L s.heap (pre ++ (cb, ob) :: (ca, oa) :: post)) (ap : Ap (pre ++ (cb, ob) :: (ca, oa) :: post)) (ha : oa.data = .cell va) (hb : ob.data = .cell vb)
    (hca : cl.lookup x = some ca) (hcb : cl.lookup y = some cb)
    (h : ∀ h' tk oa' ob', Fr g L h' m → News g L h' (pre ++ (cb, ob') :: (ca, oa') :: post) → Ap (pre ++ (cb, ob') :: (ca, oa') :: post) → oa'.data = .cell (some u) → ob'.data = .cell (some v) → Q () { s with heap := h', toks := tk })
    (hk : cs.kind = .function := by rfl) (hx : (envX cn cs L a ccd cl).kindOf x = some .cell := by rfl) (hy : (envX cn cs L a ccd cl).kindOf y = some .cell := by rfl) :
    wpAny (model prog w) A (assign (.Tuple [.Name x px, .Name y py] kk tp) (envX cn cs L a ccd cl) (.ref t)) Q E s := by
  refine wpAny_assign_Tuple hh ht rfl rfl fun h₁ he₁ => ?_
  have k1 : Sub s.heap h₁ := fun c o e => he₁ c o (Nat.ne_of_lt (Heap.lt_size e)) e
  have F1 := fr_sub F k1
  have N1 := news_sub N k1
  have ea : pre ++ (cb, ob) :: (ca, oa) :: post = (pre ++ [(cb, ob)]) ++ (ca, oa) :: post := by simp
  show wpAny _ _ (assignInOrder [assign (.Name x px) _, assign (.Name y py) _] [u, v]) _ _ _
  refine assignInOrder_cons ?_
  have na := N1 (ca, oa) (by simp)
  refine wpAny_assign_Name (wpAny_storeName_cell hk hx hca ⟨oa, na.1, ha⟩ fun h₂ hv₂ hs₂ => ?_)
  obtain ⟨oa', hoa', hda'⟩ := hv₂
  rw [ea] at N1 ap
  obtain ⟨F2, N2⟩ := led_set F1 N1 ap.left ap.right hs₂ hoa'
  have ap2 := ap.set (o' := oa')
  have eb : (pre ++ [(cb, ob)]) ++ (ca, oa') :: post = pre ++ (cb, ob) :: (ca, oa') :: post := by simp
  rw [eb] at N2 ap2
  refine assignInOrder_cons ?_
  have nb := N2 (cb, ob) (by simp)
  refine wpAny_assign_Name (wpAny_storeName_cell hk hy hcb ⟨ob, nb.1, hb⟩ fun h₃ hv₃ hs₃ => ?_)
  obtain ⟨ob', hob', hdb'⟩ := hv₃
  obtain ⟨F3, N3⟩ := led_set F2 N2 ap2.left ap2.right hs₃ hob'
  refine assignInOrder_nil ?_
  exact h h₃ _ oa' ob' F3 N3 (ap2.set (o' := ob')) hda' hdb'
/-- the table of a place, with every size looked at -/
noncomputable def mapE (es : List (Int × Int)) (f v : Int → Int) : List (Int × Int) := es.foldl (fun acc e => iput acc (f e.1) (v e.2)) []
noncomputable def grow (tb : List (Int × Int)) (acc : Option (List (Int × Int))) (e : Int × Int) : Option (List (Int × Int)) := acc.bind fun a =>
  let b := mapE tb (fun k => k + e.1 + 16) (fun m => m * e.2)
  if a.length + b.length ≤ 1000 ∧ 0 ≤ e.2 ∧ e.2 ≤ 1000000 then some (addE a b) else none
noncomputable def tabStep (tab : Nat → Option (List (Int × Int))) (acc : Option (List (Int × Int))) (b : Nat) : Option (List (Int × Int)) :=
  acc.bind fun tb => (tab b).bind fun inner => if tb.length ≤ 1000 ∧ inner.length ≤ 1000 then inner.foldl (grow tb) (some (mapE tb (fun k => k + 1) (fun m => m))) else none
noncomputable def tabE (es : List (Nat × Nat)) : Nat → Nat → Option (List (Int × Int))
  | 0, _ => none
  | fuel + 1, c => (gets es c).foldl (tabStep (tabE es fuel)) (some [(0, 1)])
theorem unhide3 {H h' : Heap} {a b c : Addr} {x y z : Obj} (k : Sub (hideAll H [a, b, c]) h') (h1 : H.get? a = some x) (h2 : H.get? b = some y) (h3 : H.get? c = some z) (e1 : h'.get? a = some x) (e2 : h'.get? b = some y) (e3 : h'.get? c = some z) : Sub H h' := fun q o e => by
  by_cases hb : q ∈ [a, b, c]
  · simp only [List.mem_cons, List.not_mem_nil, or_false] at hb
    rcases hb with rfl | rfl | rfl
    · rw [e1, ← h1, e]
    · rw [e2, ← h2, e]
    · rw [e3, ← h3, e]
  · exact k _ _ (hideAll_get _ e hb)
theorem SL.get {ys : List Value} {bs : List Nat} (x : SL ys bs) : ∀ {i : Nat} {v : Value}, ys[i]? = some v → ∃ b t, v = .str ⟨#[b]⟩ t ∧ bs[i]? = some b := by
  induction x with
  | nil => intro i v h; simp at h
  | cons b t _ ih =>
    intro i v h
    cases i with
    | zero => simp at h; subst h; exact ⟨_, _, rfl, rfl⟩
    | succ i => simpa using ih (by simpa using h)
theorem SL.len {ys : List Value} {bs : List Nat} (x : SL ys bs) : ys.length = bs.length := by induction x <;> simp_all
theorem fold_none {α : Type} {f : Option α → Nat → Option α} (hf : ∀ b, f none b = none) : ∀ l : List Nat, l.foldl f none = none
  | [] => rfl
  | b :: l => by rw [List.foldl_cons, hf]; exact fold_none hf l
theorem fold_some {α β : Type} {f : Option α → β → Option α} (hf : ∀ b, f none b = none) : ∀ (l : List β) (z : Option α) (y : α), l.foldl f z = some y → ∀ i, ∃ u, (l.take i).foldl f z = some u
  | [], z, y, h, i => ⟨y, by simpa using h⟩
  | b :: l, z, y, h, 0 => by
    cases z with
    | some u => exact ⟨u, rfl⟩
    | none =>
      have hn : ∀ l : List β, l.foldl f none = none := fun l => by induction l with
        | nil => rfl
        | cons b l ih => rw [List.foldl_cons, hf]; exact ih
      rw [hn] at h; cases h
  | b :: l, z, y, h, i + 1 => by
    rw [List.foldl_cons] at h
    simpa using fold_some hf l (f z b) y h i
theorem up_mem {c : Nat} (h : c ∈ letters) : c ∈ letters ++ lettersU ∧ upN c ∈ letters ++ lettersU ∧ lowN (upN c) = c := by
  simp only [letters, List.mem_cons, List.not_mem_nil, or_false] at h
  rcases h with rfl | rfl | rfl | rfl | rfl | rfl | rfl <;> decide
theorem dictAt_of {prog : Program} {w : World} {K : Type} [DecidableEq K] {knd : KeyKind prog w K} {o : Obj} {kvs : List (K × Value)} (h : o.IsDictOf knd kvs) : ∃ ep, ∀ (H : Heap) d, H.get? d = some o → H.DictAt knd d kvs ep := by
  obtain ⟨es, ep, r⟩ := h
  exact ⟨ep, fun H d e => ⟨o, es, e, r⟩⟩
theorem iterItems {prog : Program} {w : World} {A : Around} {E : Value → Shared → Prop} {s : Shared} {K : Type} [DecidableEq K] {knd : KeyKind prog w K} {g : Heap} {L a d : Addr} {m : Str → Option Value} {cn : Str} {cs : Scope} {ccd : Value} {cl : List (Str × Addr)} {x : Str} {px apos cpos : Pos} {kvs : List (K × Value)} {ep : Nat} {Q : Value → Shared → Prop}
    (F : Fr g L s.heap m) (hx : m x = some (.ref d)) (hdS : (d == sysModules) = false) (hm : s.heap.DictAt knd d kvs ep)
    (h : ∀ H, Sub s.heap H → Q (.ref H.objs.size) { s with heap := H.push { cls := .type "dict_itemiterator", data := .fields #[.none, .bool false, .ref d, .int 0 0, .int kvs.length 0, .int ep 0, .none, .none] } })
    (hline : (apos.endLine == cpos.line) = true := by rfl) (hk : cs.kind = .function := by rfl) (hkx : (envX cn cs L a ccd cl).kindOf x = some .local := by rfl) (hd : (x == ("__debug__" : Str)) = false := by decide) (hbase : attributeBase (.Name x px) "items" (envX cn cs L a ccd cl) (eval (.Name x px) (envX cn cs L a ccd cl)) = eval (.Name x px) (envX cn cs L a ccd cl) := by rfl) :
    wpAny (model prog w) A (eval (.Call (.Attribute (.Name x px) "items" apos) [] [] cpos) (envX cn cs L a ccd cl)) (fun v s₁ => wpAny (model prog w) A (pyIter v) Q E s₁) E s := by
  refine wpAny_Call_items (knd := knd) hdS hm.dictOf hbase hline (fun Q' q => nameX_L F hx q hk hkx hd) ?_
  refine wpAny_pyIter_items (knd := knd) (d := d) (kvs := kvs) (ep := ep) ⟨_, Heap.get?_push_size _ rfl, rfl, rfl⟩ (hm.push _) ?_
  exact h _ (push_sub _ _)
/-- a table made from a table -/
theorem compTable {prog : Program} {w : World} {A : Around} {s : Shared} {env : Env} {g : Heap} {L Tb : Addr} {oT : Obj} {tb : List (Int × Int)} {f v : Int → Int} {kx vx : Expr} {pa pb tp : Pos} {kk : Nat} {scope : Scope} {cl : List (Str × Addr)} {m : Str → Option Value} {a b : Str} {mf : Addr → Str → Option Value} {Fin : Addr → Shared → Prop} {base : List (Addr × Obj)} {kvs : List (Int × Value)} {ep : Nat}
    (hh : A.handled = none) (hkind : scope.kind = .function) (ha : scope.names.lookup a = some .local) (hb : scope.names.lookup b = some .local) (hab : a ≠ b)
    (F : Fr g L s.heap m) (N : News g L s.heap base) (ap : Ap base) (hT : (Tb, oT) ∈ base) (hdat : ∀ (H : Heap) d, H.get? d = some oT → H.DictAt (intKind prog w) d kvs ep) (hiv : IV kvs tb) (hl : tb.length ≤ 1000)
    (hev : ∀ (I C D : Addr) oit oC oD mC k n tk tn h tk' (Kp : Value → Value → Shared → Prop), NsObj oC mC → mC a = some (.int k tk) → mC b = some (.int n tn) → Fr g L h m → News g L h ((I, oit) :: (C, oC) :: (D, oD) :: base) → (∀ t1 t2 tk2, Kp (.int (f k) t1) (.int (v n) t2) { s with heap := h, toks := tk2 }) →
      wpAny (model prog w) A (eval kx (compEnvC scope cl C env)) (fun kv s₄ => wpAny (model prog w) A (eval vx (compEnvC scope cl C env)) (fun y s₅ => Kp kv y s₅) FF s₄) FF { s with heap := h, toks := tk' })
    (done : ∀ (D : Addr) oD, Ap ((D, oD) :: base) → IsIntD prog w oD (mapE tb f v) → (L : Nat) < D → ∀ h'' tk, Fr g L h'' (mf D) → News g L h'' ((D, oD) :: base) → Fin D { s with heap := h'', toks := tk }) :
    CompGo prog w A g L m { cls := .type "dict", data := .dict #[] } (.Tuple [.Name a pa, .Name b pb] kk tp) (fun _ C D => TD0 prog w A (.Tuple [.Name a pa, .Name b pb] kk tp) kx vx D (compEnvC scope cl C env)) mf Fin (.ref s.heap.objs.size)
      { s with heap := s.heap.push { cls := .type "dict_itemiterator", data := .fields #[.none, .bool false, .ref Tb, .int 0 0, .int kvs.length 0, .int ep 0, .none, .none] } } := by
  refine CompGo.items (knd := intKind prog w) (fun C D i news' => ∃ oC mC oD, news' = (C, oC) :: (D, oD) :: base ∧ Ap news' ∧ NsObj oC mC ∧ IsIntD prog w oD (mapE (tb.take i) f v) ∧ (L : Nat) < D) hh F N (hdat _ _ (N _ hT).1) ?_ ?_ ?_ ?_
  · rintro C D i news' h' ⟨oC, mC, oD, rfl, _⟩ F' N'
    exact hdat _ _ (N' _ (.tail _ (.tail _ hT))).1
  · intro I C D oC hoC h1 h2 h3 h4
    refine ⟨oC, _, _, rfl, ?_, hoC, ⟨[], ?_, .nil⟩, h3⟩
    · refine (ap.cons fun p hp => Nat.ne_of_lt (h4 p hp)).cons fun p hp => ?_
      rcases List.mem_cons.mp hp with rfl | hp
      · exact Nat.ne_of_lt h1
      · exact Nat.ne_of_lt (Nat.lt_trans (h4 p hp) h1)
    · obtain ⟨o, ho, hd⟩ := Heap.dictOf_iff.mp (Heap.DictOf.new (knd := intKind prog w) s.heap)
      rw [Heap.get?_push_size _ rfl] at ho
      cases ho; exact hd
  · rintro I C D i k x key t news₁ oit ⟨H, g1, g2, g3, g4⟩ hkv hkey ht ⟨oC, mC, oD, rfl, ap1, hoC, hD, hLD⟩ hne ⟨h5, tk5, e5⟩ F5 N5
    cases e5
    obtain ⟨n, tn, rfl, hn⟩ := hiv.get hkv
    obtain ⟨tk0, rfl⟩ : ∃ tk0, key = .int k tk0 := Value.isInt_shape (by simpa [intKind] using hkey)
    unfold TD0
    refine compPair (pre := [(I, oit)]) (post := (D, oD) :: base) hh ht hkind ha hb F5 N5 (fun p hp => ?_) (fun p hp => ap1.head p hp) hoC fun h6 tk6 oC6 F6 N6 hoC6 => ?_
    · rcases List.mem_singleton.mp hp with rfl
      exact (hne (C, oC) (.head _)).symm
    refine hev I C D oit oC6 oD _ k n tk0 tn h6 tk6 _ hoC6 (by rw [if_neg hab, if_pos rfl]) (by rw [if_pos rfl]) F6 N6 fun t1 t2 tk7 => ?_
    have apI : Ap ((I, oit) :: (C, oC6) :: (D, oD) :: base) := (Ap.set (pre := []) ap1).cons fun p hp => by
      rcases List.mem_cons.mp hp with rfl | hp
      · exact hne (C, oC) (.head _)
      · exact hne p (.tail _ hp)
    have hfl := fold_len (f := fun acc (e : Int × Int) => iput acc (f e.1) (v e.2)) (fun a e => iput_len _ _ _) (tb.take i) []
    simp only [List.length_take, List.length_nil] at hfl
    refine putInt (k := f k) (n := v n) (pre := [(I, oit), (C, oC6)]) (post := base) F6 N6 (Ap.left (o := oD) (post := base) apI) (Ap.right (pre := [(I, oit), (C, oC6)]) apI) hD (Nat.le_trans hfl (by omega)) (by simp [intKind, Value.isInt]) fun h8 tk8 oD8 F8 N8 hD8 => ?_
    have apI8 : Ap ((I, oit) :: (C, oC6) :: (D, oD8) :: base) := Ap.set (pre := [(I, oit), (C, oC6)]) apI
    refine ⟨h8, tk8, _, rfl, F8, N8, apI8.head, oC6, _, oD8, rfl, apI8.tail, hoC6, ?_, hLD⟩
    unfold mapE
    rw [fold_take _ _ hn]
    exact hD8
  · rintro C D news' ⟨oC, mC, oD, rfl, ap1, hoC, hD, hLD⟩
    rw [hiv.len, List.take_length] at hD
    exact ⟨oC, mC, _, rfl, hoC, ap1.head, fun h'' tk F'' N'' => done D oD ap1.tail hD hLD h'' tk F'' N''⟩
/-- a post kept out of sight -/
theorem hideF {α β : Type} {M M' : Model} {A A' : Around} {m : Sem α} {m' : Sem β} {Q : β → Shared → Prop} {E E' : Value → Shared → Prop} {s : Shared}
    (h : ∀ P : β → Shared → Prop, (∀ v s, Q v s → P v s) → wpAny M A m (fun _ s₂ => wpAny M' A' m' P E' s₂) E s) : wpAny M A m (fun _ s₂ => wpAny M' A' m' Q E' s₂) E s := h Q fun _ _ q => q
theorem hide0 {α : Type} {M : Model} {A : Around} {m : Sem α} {Q : α → Shared → Prop} {E : Value → Shared → Prop} {s : Shared}
    (h : ∀ P : α → Shared → Prop, (∀ v s, Q v s → P v s) → wpAny M A m P E s) : wpAny M A m Q E s := h Q fun _ _ q => q
end Mine
end
section
open PySem PySem.W PySem.Calls PyProof.Rows PySem.Spec
set_option Elab.async false
set_option linter.unusedVariables false
set_option maxRecDepth 100000
namespace Mine
open PyProof.Rows.LCg (NsObj ns_obj lst)
local macro_rules | `(tactic| walk_at "call builtin:str.upper") => `(tactic| (k_here; (refine' up_call ?a ?_; (case a => assumption)); intro _ _))
local macro_rules | `(tactic| walk_at "eval Name") => `(tactic| (k_here; k_dflt (refine' nameX_L ?F ?v ?_ ?a ?b; (case F => k_asm); (case a => rfl); (case b => rfl); (case v => assumption); k_whole)))
set_option maxHeartbeats 4000000
theorem c_table {w : World} {x : Addr} {es : List (Nat × Nat)} : ∀ (fuel : Nat) {dp un : Nat} {fr : Option (List Env)} {gd : Option (List Code)} {s : Shared} {Q E : Value → Shared → Prop} {c : Nat} {t : Tok} {T0 : List (Int × Int)}
    (ht : tabE es fuel c = some T0) (hc : c ∈ letters) (hd : dp + 2 * fuel + 30 < recursionLimit) (hu : un + 20 * fuel + 300 < cLine) (H : HdrAt w s.heap x es)
    (ret : ∀ r h' tk', Sub s.heap h' → s.heap.get? r = none → (r == sysModules) = false → IntD PR w h' r T0 → Q (.ref r) { s with heap := h', toks := tk' }),
    wpAny (MW w) (arA dp un fr gd) (call (.ref 269) [.ref x, .str ⟨#[c]⟩ t]) Q E s := by
  intro fuel
  induction fuel with
  | zero => intro dp un fr gd s Q E c t T0 ht; cases ht
  | succ fuel IH =>
  intro dp un fr gd s Q E c t T0 ht hc hd hu H ret
  obtain ⟨dx, l, tkn, vs, n, hx, hdx, hl, lt1, lt2, hvs, hes, C, hok, hlen⟩ := id H
  obtain ⟨mean, mg, mb, Tp⟩ := id C.t
  have Cs := C.unhide
  have X0 := Cs.k
  refine wpAny_call ?_
  refine enterCodeC [(Str.ofString "head", .ref x), (Str.ofString "place", .str ⟨#[c]⟩ t)] X0 (Tp.keeps fun b o e => of_hideAll _ e).nolimit (by show dp < _; omega) rfl rfl (BindsTo.of_eq rfl) (by intro n x hx; simp at hx; rcases hx with rfl | rfl <;> exact .inl rfl) (by decide) fun h₁ tk cells F N Y => ?_
  replace F : Fr s.heap s.heap.objs.size h₁ (fun y => if y = Str.ofString "place" then some (.str ⟨#[c]⟩ t) else if y = Str.ofString "head" then some (.ref x) else none) := F
  replace Y : CellsAre (fun y => none) [(Str.ofString "much", s.heap.objs.size + 2), (Str.ofString "low", s.heap.objs.size + 1)] cells := Y
  obtain ⟨oc, od, rfl, hoc, hod⟩ := Y.two
  have hxs : (x : Nat) < s.heap.objs.size := Heap.lt_size hx
  have hls : (l : Nat) < s.heap.objs.size := Heap.lt_size hl
  replace ⟨F, N⟩ := rebase2 [(l, W.listOf vs n), (x, instObj 248 dx), (dx, hdrD w tkn l)] F N (by intro p hp; simp only [List.mem_cons, List.not_mem_nil, or_false] at hp; rcases hp with rfl | rfl | rfl; exact hl; exact hx; exact hdx)
  replace F : Fr (hideAll s.heap [l, x, dx]) s.heap.objs.size h₁ _ := F
  replace N : News (hideAll s.heap [l, x, dx]) s.heap.objs.size h₁ ((s.heap.objs.size + 2, oc) :: (s.heap.objs.size + 1, od) :: [(l, W.listOf vs n), (x, instObj 248 dx), (dx, hdrD w tkn l)]) := N
  have X := C.k
  have ug : ∀ h', Sub (hideAll s.heap [l, x, dx]) h' → h'.get? l = some (W.listOf vs n) → h'.get? x = some (instObj 248 dx) → h'.get? dx = some (hdrD w tkn l) → Sub s.heap h' := fun h' k e1 e2 e3 => unhide3 k hl hx hdx e1 e2 e3
  have ud : ∀ D : Addr, (s.heap.objs.size : Nat) < D → s.heap.get? D = none := fun D h => none_ge (Nat.le_of_lt h)
  revert ret ug
  generalize hideAll s.heap [l, x, dx] = g at C F N X Tp hes
  intro ret ug
  show wpAny _ _ (execs [bs 18 0, bs 18 1, bs 18 2] _) _ _ _
  obtain ⟨L, hL⟩ : ∃ L : Nat, L = s.heap.objs.size := ⟨_, rfl⟩
  rw [← hL] at F N hxs hls ud ⊢
  have hl1 : (l : Nat) < L + 1 := Nat.lt_succ_of_lt hls
  have hx1 : (x : Nat) < L + 1 := Nat.lt_succ_of_lt hxs
  have hdx1 : (dx : Nat) < L + 1 := Nat.lt_trans (ltN lt1) hx1
  replace lt1 := ltN lt1
  replace lt2 := ltN lt2
  have h12 : L + 1 < L + 2 := Nat.lt_succ_self _
  clear Y
  unfold MW
  revert X; k_fill; intro X
  k_steps
  conv in bs 18 0 => whnf
  k_steps
  rename_i o1 so1 hi1 fp1 ap1 lo1 h2 F2 N2
  dsimp only at F2
  replace hi1 : IsIntD PR w o1 [(0, 1)] := ⟨_, hi1, .cons _ _ _ .nil⟩
  have hD1 : (L : Nat) + 2 < h₁.objs.size := lo1.1
  obtain ⟨T1, hT1⟩ : ∃ T1 : Nat, T1 = h₁.objs.size := ⟨_, rfl⟩
  rw [← hT1] at F2 N2 hD1
  clear fp1 ap1 lo1 so1
  have hsysm : ∀ D : Addr, (L : Nat) < D → (D == sysModules) = false := fun D h => ne_sys Cs (by rw [← hL]; exact Nat.le_of_lt h)
  obtain ⟨hc1, hc2, hc3⟩ := up_mem hc
  have Hd : ∀ {h' m' nw}, Fr g L h' m' → News g L h' nw → (l, W.listOf vs n) ∈ nw → (x, instObj 248 dx) ∈ nw → (dx, hdrD w tkn l) ∈ nw → HdrAt w h' x es := fun F' N' a b c => H.keep (ug _ F'.keep (N' _ a).1 (N' _ b).1 (N' _ c).1)
  conv in bs 18 1 => whnf
  refine wpAny_For ?_ (by intro _; rfl)
  k_steps
  refine wpAny_call ?_
  refine c_getall (by show dp + 1 + 20 < _; omega) (by show un + 3 + 200 < _; omega) (Hd F2 N2 (.tail _ (.tail _ (.tail _ (.head _)))) (.tail _ (.tail _ (.tail _ (.tail _ (.head _))))) (.tail _ (.tail _ (.tail _ (.tail _ (.tail _ (.head _))))))) hc2 fun D ys h3 tk3 k3 hD3 ho3 hys => ?_
  rw [hc3] at hys
  dsimp only at hD3 k3 ⊢
  have A2 : Ap [(T1, o1), (L + 2, oc), (L + 1, od), (l, W.listOf vs n), (x, instObj 248 dx), (dx, hdrD w tkn l)] := by
    have e1 : @LT.lt Nat _ (L + 1) T1 := Nat.lt_trans h12 hD1
    have e2 : @LT.lt Nat _ l T1 := Nat.lt_trans hl1 e1
    have e3 : @LT.lt Nat _ x T1 := Nat.lt_trans hx1 e1
    have e4 : @LT.lt Nat _ dx T1 := Nat.lt_trans hdx1 e1
    have e5 : @LT.lt Nat _ l (L + 2) := Nat.lt_succ_of_lt hl1
    have e6 : @LT.lt Nat _ x (L + 2) := Nat.lt_succ_of_lt hx1
    have e7 : @LT.lt Nat _ dx (L + 2) := Nat.lt_succ_of_lt hdx1
    have e8 : @LT.lt Nat _ dx l := Nat.lt_trans lt1 lt2
    simp only [Ap, List.map_cons, List.map_nil, List.nodup_cons, List.mem_cons, List.not_mem_nil, or_false, not_or, List.nodup_nil, and_true, not_false_eq_true]
    exact ⟨⟨Nat.ne_of_gt hD1, Nat.ne_of_gt e1, Nat.ne_of_gt e2, Nat.ne_of_gt e3, Nat.ne_of_gt e4⟩, ⟨Nat.ne_of_gt h12, Nat.ne_of_gt e5, Nat.ne_of_gt e6, Nat.ne_of_gt e7⟩, ⟨Nat.ne_of_gt hl1, Nat.ne_of_gt hx1, Nat.ne_of_gt hdx1⟩, ⟨Nat.ne_of_gt lt2, Nat.ne_of_gt e8⟩, Nat.ne_of_gt lt1⟩
  obtain ⟨F3, N3, A3⟩ := led_new F2 N2 A2 k3 (none_ge (Nat.le_of_lt hD3)) ho3
  have htab := ht
  unfold tabE at htab
  have hbm : ∀ (i : Nat) b, (gets es c)[i]? = some b → b ∈ letters := fun i b h => by
    have := List.mem_of_getElem? h
    obtain ⟨e, he, rfl⟩ := List.mem_map.mp this
    exact (hok e.1 e.2 (List.mem_filter.mp he).1).2
  have A3' : Ap ((T1, o1) :: (D, lst ys) :: (L + 2, oc) :: (L + 1, od) :: [(l, W.listOf vs n), (x, instObj 248 dx), (dx, hdrD w tkn l)]) := (List.Perm.swap _ _ _).nodup_iff.mp A3
  refine iterL (vs := ys.toArray) N3 (.head _) ?_
  refine forList (s := { s with heap := h3, toks := tk3 }) (vs := ys.toArray) (n := ys.length) (l := D) (news := (T1, o1) :: (D, lst ys) :: (L + 2, oc) :: (L + 1, od) :: [(l, W.listOf vs n), (x, instObj 248 dx), (dx, hdrD w tkn l)])
    (fun i m' news' => ∃ Tb oT o2 o1' tb, news' = (Tb, oT) :: (D, lst ys) :: (L + 2, o2) :: (L + 1, o1') :: [(l, W.listOf vs n), (x, instObj 248 dx), (dx, hdrD w tkn l)] ∧ Ap news' ∧ (∃ v2, o2.data = .cell v2) ∧ (∃ v1, o1'.data = .cell v1) ∧ IsIntD PR w oT tb ∧
      ((gets es c).take i).foldl (tabStep (tabE es fuel)) (some [(0, 1)]) = some tb ∧ m' (Str.ofString "table") = some (.ref Tb) ∧ m' (Str.ofString "head") = some (.ref x) ∧ (Tb == sysModules) = false ∧ s.heap.get? Tb = none)
    rfl F3 (fun p hp => N3 p ((List.Perm.swap _ _ _).mem_iff.mp hp)) (.tail _ (.head _)) ?_ ⟨T1, o1, oc, od, _, rfl, A3', ⟨_, hoc⟩, ⟨_, hod⟩, hi1, rfl, rfl, rfl, hsysm _ (Nat.lt_trans (Nat.lt_succ_of_lt (Nat.lt_succ_self _)) hD1), ud _ (Nat.lt_trans (Nat.lt_succ_of_lt (Nat.lt_succ_self _)) hD1)⟩ ?_ ?_
  · rintro i m' news' ⟨Tb, oT, o2, o1', tb, rfl, _⟩; exact .tail _ (.head _)
  · rintro I i v m₁ news₁ oit ⟨H5, g1, g2, g3, g4⟩ hv ⟨Tb, oT, o2, o1', tb, rfl, ap, ⟨v2, hv2⟩, ⟨v1, hv1⟩, hT, hfold, hmt, hmh, hTs, hTn⟩ hne ⟨h5, tk5, e5⟩ F5 N5
    cases e5
    obtain ⟨b, tb0, rfl, hb⟩ := hys.get (by simpa using hv)
    have hbl := hbm i b hb
    obtain ⟨tb', htb'⟩ := fold_some (fun _ => rfl) _ _ _ htab (i + 1)
    rw [fold_take _ _ hb, hfold] at htb'
    dsimp only [tabStep, Option.bind_some] at htb'
    obtain ⟨inner, hin⟩ : ∃ inner, tabE es fuel b = some inner := by
      cases q : tabE es fuel b with
      | none => rw [q] at htb'; cases htb'
      | some inner => exact ⟨inner, rfl⟩
    rw [hin, Option.bind_some] at htb'
    by_cases hsz : tb.length ≤ 1000 ∧ inner.length ≤ 1000
    case neg => rw [if_neg hsz] at htb'; cases htb'
    rw [if_pos hsz] at htb'
    dsimp only
    show wpAny _ _ _ (fun _ s₂ => wpAny _ _ (execs [bl 18 1 0, bl 18 1 1, bl 18 1 2, bl 18 1 3] _) _ _ s₂) _ _
    refine hideF fun P hP => ?_
    k_steps
    conv in bl 18 1 0 => whnf
    k_steps
    rename_i h6 F6 N6
    have apI : Ap ((I, oit) :: (Tb, oT) :: (D, lst ys) :: (L + 2, o2) :: (L + 1, o1') :: [(l, W.listOf vs n), (x, instObj 248 dx), (dx, hdrD w tkn l)]) := ap.cons hne
    refine IH hin hbl (by show dp + 1 + 2 * fuel + 30 < _; omega) (by show un + 3 + 20 * fuel + 300 < _; omega) (Hd F6 N6 (.tail _ (.tail _ (.tail _ (.tail _ (.tail _ (.head _)))))) (.tail _ (.tail _ (.tail _ (.tail _ (.tail _ (.tail _ (.head _))))))) (.tail _ (.tail _ (.tail _ (.tail _ (.tail _ (.tail _ (.tail _ (.head _))))))))) fun Ti h7 tk7 k7 hTi hTis hTid => ?_
    obtain ⟨oi, hoi, hii⟩ := intD_iff.mp hTid
    obtain ⟨F7, N7, ap7⟩ := led_new F6 N6 apI k7 hTi hoi
    dsimp only
    k_steps
    conv in bl 18 1 1 => whnf
    rename_i h8 F8 N8
    obtain ⟨kvs, hkd, hiv⟩ := id hT
    obtain ⟨ep, hdat⟩ := dictAt_of hkd
    refine execDictComp (cl := []) F8 (by with_unfolding_all rfl) rfl rfl (by with_unfolding_all rfl) (by decide) rfl (by decide) ?_ (by intro _; rfl)
    refine iterItems F8 hmt hTs (hdat _ _ (N8 _ (.tail _ (.tail _ (.head _)))).1) fun H9 k9 => ?_
    refine compTable (s := { s with heap := H9, toks := _ }) (tb := tb) (f := fun k => k + 1) (v := fun m => m) rfl rfl rfl rfl (by decide) (fr_sub F8 k9) (news_sub N8 k9) ap7 (.tail _ (.tail _ (.head _))) hdat hiv hsz.1 ?_ ?_
    · intro I' C' D' oit' oC oD mC k n1 tk1 tn1 h9 tk9 Kp hoC hk hn F9 N9 hK
      k_steps
      exact hK _ _ _
    · intro D' oD apD hD hLD h9 tk9 F9 N9
      dsimp only
      k_steps
      conv in bl 18 1 2 => whnf
      obtain ⟨kvi, hkdi, hivi⟩ := id hii
      obtain ⟨epi, hdati⟩ := dictAt_of hkdi
      refine wpAny_For ?_ (by intro _; rfl)
      refine iterItems F9 rfl hTis (hdati _ _ (N9 _ (.tail _ (.head _))).1) fun H10 k10 => ?_
      refine forPairs (s := { s with heap := H10, toks := tk9 }) (knd := intKind PR w) (fun j m' news' => ∃ G oG o2 o1' a, news' = (G, oG) :: (Ti, oi) :: (I, oit) :: (Tb, oT) :: (D, lst ys) :: (L + 2, o2) :: (L + 1, o1') :: [(l, W.listOf vs n), (x, instObj 248 dx), (dx, hdrD w tkn l)] ∧ Ap news' ∧ (∃ v2, o2.data = .cell v2) ∧ (∃ v1, o1'.data = .cell v1) ∧ IsIntD PR w oG a ∧
          (inner.take j).foldl (grow tb) (some (mapE tb (fun k => k + 1) (fun m => m))) = some a ∧ m' (Str.ofString "grown") = some (.ref G) ∧ m' (Str.ofString "table") = some (.ref Tb) ∧ m' (Str.ofString "head") = some (.ref x) ∧ (G == sysModules) = false ∧ s.heap.get? G = none)
        rfl (fr_sub F9 k10) (news_sub N9 k10) (hdati _ _ (k10 _ _ (N9 _ (.tail _ (.head _))).1)) ?_ ⟨D', oD, o2, o1', _, rfl, apD, ⟨_, hv2⟩, ⟨_, hv1⟩, hD, rfl, rfl, hmt, hmh, hsysm _ hLD, ud _ hLD⟩ ?_ ?_
      · rintro j m' news' h' ⟨G, oG, o2, o1', a, rfl, _⟩ F' N'
        exact hdati _ _ (N' _ (.tail _ (.head _))).1
      · rintro I2 j k v key t2 m₂ news₂ oit2 ⟨H11, g11, g12, g13, g14⟩ hkv hkey ht2 ⟨G, oG, o2, o1', a, rfl, apG, ⟨v2, hv2⟩, ⟨v1, hv1⟩, hG, hfg, hmg, hmt, hmh, hGs, hGn⟩ hne2 ⟨h11, tk11, e11⟩ F11 N11
        cases e11
        obtain ⟨nv, tnv, rfl, hnj⟩ := hivi.get hkv
        obtain ⟨tkk, rfl⟩ : ∃ tk0, key = .int k tk0 := Value.isInt_shape (by simpa [intKind] using hkey)
        obtain ⟨a', ha'⟩ := fold_some (fun _ => rfl) _ _ _ htb' (j + 1)
        rw [fold_take _ _ hnj, hfg] at ha'
        dsimp only [grow, Option.bind_some] at ha'
        by_cases hsg : a.length + (mapE tb (fun q => q + k + 16) (fun m => m * nv)).length ≤ 1000 ∧ 0 ≤ nv ∧ nv ≤ 1000000
        case neg => rw [if_neg hsg] at ha'; cases ha'
        rw [if_pos hsg] at ha'
        have apI2 : Ap ((I2, oit2) :: (G, oG) :: (Ti, oi) :: (I, oit) :: (Tb, oT) :: (D, lst ys) :: (L + 2, o2) :: (L + 1, o1') :: [(l, W.listOf vs n), (x, instObj 248 dx), (dx, hdrD w tkn l)]) := apG.cons hne2
        refine assignCells (pre := [(I2, oit2), (G, oG), (Ti, oi), (I, oit), (Tb, oT), (D, lst ys)]) (post := [(l, W.listOf vs n), (x, instObj 248 dx), (dx, hdrD w tkn l)]) rfl ht2 F11 N11 apI2 hv1 hv2 rfl rfl fun h12' tk12 oa ob F12 N12 ap12 hoa hob => ?_
        have F12 : Fr g L h12' m₂ := F12
        have N12 : News g L h12' ((I2, oit2) :: (G, oG) :: (Ti, oi) :: (I, oit) :: (Tb, oT) :: (D, lst ys) :: (L + 2, ob) :: (L + 1, oa) :: [(l, W.listOf vs n), (x, instObj 248 dx), (dx, hdrD w tkn l)]) := N12
        dsimp only
        refine hide0 fun P2 hP2 => ?_
        k_steps
        refine evalDictComp F12 (by with_unfolding_all rfl) (by decide) rfl (by decide) ?_ (by intro _; rfl)
        refine iterItems F12 hmt hTs (hdat _ _ (N12 _ (.tail _ (.tail _ (.tail _ (.tail _ (.head _)))))).1) fun H14 k14 => ?_
        refine compTable (s := { s with heap := H14, toks := tk12 }) (tb := tb) (f := fun q => q + k + 16) (v := fun m => m * nv) rfl rfl rfl rfl (by decide) (fr_sub F12 k14) (news_sub N12 k14) ap12 (.tail _ (.tail _ (.tail _ (.tail _ (.head _))))) hdat hiv hsz.1 ?_ ?_
        · intro I' C' D3 oit' oC oD3 mC k3 n3 tk3' tn3 h9 tk9 Kp hoC hk hn F9 N9 hK
          have hnv : IntMulOk n3 nv := IntMulOk.of_right (intBits_le_64 (by omega) (by omega))
          k_steps
          exact hK _ _ _
        · intro D3 oD3 apD3 hD3' hLD3 h15 tk15 F15 N15
          dsimp only
          k_steps
          refine c_add (C.sub F15.keep) (by show dp + 1 + 5 < _; omega) (by show un + 3 + 50 < _; omega) (intD_iff.mpr ⟨oG, (N15 _ (.tail _ (.tail _ (.head _)))).1, hG⟩) (intD_iff.mpr ⟨oD3, (N15 _ (.head _)).1, hD3'⟩) hGs (hsysm _ hLD3) (by omega) fun G2 h16 tk16 k16 hG2 hG2s hG2d => ?_
          have hG0 : s.heap.get? G2 = none := none_of_size (ug _ F15.keep (N15 _ (.tail _ (.tail _ (.tail _ (.tail _ (.tail _ (.tail _ (.tail _ (.tail _ (.tail _ (.head _))))))))))).1 (N15 _ (.tail _ (.tail _ (.tail _ (.tail _ (.tail _ (.tail _ (.tail _ (.tail _ (.tail _ (.tail _ (.head _)))))))))))).1 (N15 _ (.tail _ (.tail _ (.tail _ (.tail _ (.tail _ (.tail _ (.tail _ (.tail _ (.tail _ (.tail _ (.tail _ (.head _))))))))))))).1) hG2
          obtain ⟨oG2, hoG2, hiG2⟩ := intD_iff.mp hG2d
          obtain ⟨F16, N16, ap16⟩ := led_new F15 N15 apD3 k16 hG2 hoG2
          dsimp only
          k_steps
          rename_i h17 F17 N17
          have sub : List.Sublist ((G2, oG2) :: (Ti, oi) :: (I, oit) :: (Tb, oT) :: (D, lst ys) :: (L + 2, ob) :: (L + 1, oa) :: [(l, W.listOf vs n), (x, instObj 248 dx), (dx, hdrD w tkn l)]) ((G2, oG2) :: (D3, oD3) :: (I2, oit2) :: (G, oG) :: (Ti, oi) :: (I, oit) :: (Tb, oT) :: (D, lst ys) :: (L + 2, ob) :: (L + 1, oa) :: [(l, W.listOf vs n), (x, instObj 248 dx), (dx, hdrD w tkn l)]) :=
            (((List.Sublist.refl _).cons _).cons _ |>.cons _).cons_cons _
          refine hP2 _ _ ⟨h17, _, _, _, rfl, F17, fun p hp => N17 p ?_, fun p hp => ?_, G2, oG2, ob, oa, _, rfl, Ap.sub sub ap16, ⟨_, hob⟩, ⟨_, hoa⟩, hiG2, ?_, rfl, hmt, hmh, hG2s, hG0⟩
          · rcases List.mem_cons.mp hp with rfl | hp
            · exact .tail _ (.tail _ (.head _))
            · exact sub.subset hp
          · rcases List.mem_cons.mp hp with rfl | hp
            · exact Ap.left (pre := [(G2, oG2), (D3, oD3)]) ap16 _ (.head _)
            · exact Ap.right (pre := [(G2, oG2), (D3, oD3)]) ap16 _ (.tail _ hp)
          · rw [fold_take _ _ hnj, hfg]
            dsimp only [grow, Option.bind_some]
            rw [if_pos hsg]
      · rintro h10 tk10 m10 news10 F10 N10 ⟨G, oG, o2, o1', a, rfl, apG, hv2, hv1, hG, hfg, hmg, hmt, hmh, hGs, hGn⟩
        rw [hivi.len, List.take_length] at hfg
        dsimp only
        k_steps
        conv in bl 18 1 3 => whnf
        k_steps
        rename_i h13 F13 N13
        have sub : List.Sublist ((G, oG) :: (D, lst ys) :: (L + 2, o2) :: (L + 1, o1') :: [(l, W.listOf vs n), (x, instObj 248 dx), (dx, hdrD w tkn l)]) ((G, oG) :: (Ti, oi) :: (I, oit) :: (Tb, oT) :: (D, lst ys) :: (L + 2, o2) :: (L + 1, o1') :: [(l, W.listOf vs n), (x, instObj 248 dx), (dx, hdrD w tkn l)]) :=
          (((List.Sublist.refl _).cons _).cons _ |>.cons _).cons_cons _
        refine hP _ _ ⟨h13, _, _, _, rfl, F13, fun p hp => N13 p ?_, fun p hp => ?_, G, oG, o2, o1', a, rfl, Ap.sub sub apG, hv2, hv1, hG, ?_, rfl, hmh, hGs, hGn⟩
        · rcases List.mem_cons.mp hp with rfl | hp
          · exact .tail _ (.tail _ (.head _))
          · exact sub.subset hp
        · rcases List.mem_cons.mp hp with rfl | hp
          · exact Ap.left (pre := [(G, oG), (Ti, oi)]) apG _ (.head _)
          · exact Ap.right (pre := [(G, oG), (Ti, oi)]) apG _ (.tail _ hp)
        · rw [fold_take _ _ hb, hfold]
          dsimp only [tabStep, Option.bind_some]
          rw [hin, Option.bind_some, if_pos hsz, hfg]
  · rintro h' tk' m' news' F' N' ⟨Tb, oT, o2, o1', tb, rfl, ap, _, _, hT, hfold, hmt, hmh, hTs, hTn⟩
    rw [List.size_toArray, hys.len, List.take_length, htab] at hfold
    cases hfold
    dsimp only
    k_steps
    conv in bs 18 2 => whnf
    k_steps
    exact ret Tb h' _ (ug h' F'.keep (N' _ (.tail _ (.tail _ (.tail _ (.tail _ (.head _)))))).1 (N' _ (.tail _ (.tail _ (.tail _ (.tail _ (.tail _ (.head _))))))).1 (N' _ (.tail _ (.tail _ (.tail _ (.tail _ (.tail _ (.tail _ (.head _)))))))).1) hTn hTs (intD_iff.mpr ⟨oT, (N' _ (.head _)).1, hT⟩)
end Mine
end
section
open PySem PySem.W PySem.Calls PyProof.Rows PySem.Spec
set_option Elab.async false
set_option linter.unusedVariables false
set_option maxRecDepth 100000
namespace Mine
set_option maxHeartbeats 2000000
noncomputable def c8L : List Int := [832, 833, 8234, 8235, 8236, 8237, 8206, 8207, 8238, 8298, 8299, 8300, 8301, 8302, 8303]
noncomputable def c8 (c : Int) : Bool := c8L.contains c
noncomputable def c8E : List (Int × Value) := [(832, (.int 832 291)), (833, (.int 833 292)), (8234, (.int 8234 300)), (8235, (.int 8235 301)), (8236, (.int 8236 302)), (8237, (.int 8237 303)), (8206, (.int 8206 293)), (8207, (.int 8207 294)), (8238, (.int 8238 304)), (8298, (.int 8298 310)), (8299, (.int 8299 311)), (8300, (.int 8300 312)), (8301, (.int 8301 313)), (8302, (.int 8302 314)), (8303, (.int 8303 315))]
theorem c8_set {w : World} {h : Heap} (prog : Program) (C : (K w.params).In h) : h.SetOf (intKind prog w) 52 c8 15 := by
  refine ⟨o52 w.params, c8E.toArray, _, _, C 52 _ rfl, ⟨rfl, rfl, rfl⟩, rfl, ?_, ?_, by decide, by rfl, rfl⟩
  · intro e he
    have h1 : (c8E.all fun e => e.2.scannable && (match e.2 with | .int i _ => decide (e.1 = hashInt i) | _ => false)) = true := by decide +kernel
    have h2 := List.all_eq_true.mp h1 e (by simpa using he)
    obtain ⟨a, v⟩ := e
    rw [Bool.and_eq_true] at h2
    refine ⟨?_, h2.1⟩
    cases v <;> first | (exfalso; exact Bool.false_ne_true h2.2) | skip
    rename_i i t
    exact ⟨i, by simp [intKind, Value.isInt], of_decide_eq_true h2.2⟩
  · intro k
    show c8L.contains k = true ↔ _
    rw [List.contains_iff_mem]
    have e1 : c8L = c8E.map (·.1) := rfl
    constructor
    · intro hk
      rw [e1] at hk
      obtain ⟨e, he, rfl⟩ := List.mem_map.mp hk
      refine ⟨e, by simpa using he, ?_⟩
      have h1 : (c8E.all fun e => Value.isInt e.1 e.2) = true := by decide +kernel
      exact List.all_eq_true.mp h1 e he
    · rintro ⟨e, he, hk⟩
      have he' : e ∈ c8E := by simpa using he
      obtain ⟨a, v⟩ := e
      obtain ⟨t, rfl⟩ := Value.isInt_shape hk
      have h1 : (c8E.all fun e => match e.2 with | .int i _ => c8L.contains i | _ => false) = true := by decide +kernel
      have := List.all_eq_true.mp h1 _ he'
      exact List.contains_iff_mem.mp this
theorem c_in_table {w : World} {dp un : Nat} {fr : Option (List Env)} {gd : Option (List Code)} {s : Shared} {Q E : Value → Shared → Prop} {c : Nat} {tk : Tok}
    (C : Cx w s.heap) (hd : dp + 3 < recursionLimit) (hu : un + 30 < cLine)
    (ret : ∀ h' tk', Sub s.heap h' → Q (.bool (c8 c)) { s with heap := h', toks := tk' }) :
    wpAny (MW w) (arA dp un fr gd) (call (.ref 62) [.str ⟨#[c]⟩ tk]) Q E s := by
  obtain ⟨mean, mg, mb, T⟩ := id C.t
  refine enter0 [(Str.ofString "code", .str ⟨#[c]⟩ tk)] C (by omega) rfl rfl rfl rfl fun h₁ F X => ?_
  have N : News s.heap s.heap.objs.size h₁ [] := News.nil
  dsimp only [List.length_cons, List.length_nil]
  revert X; unfold MW; k_fill; intro X
  k_steps
  refine wpAny_inSet_of (knd := intKind _ w) (k := (c : Int)) (S := c8) (n := 15) (by simp [intKind, Value.isInt]) rfl (c8_set _ (X.keeps F.keep)) ?_
  exact ret _ _ F.keep
end Mine
end
section
open PySem PySem.W PySem.Calls PyProof.Rows PySem.Spec
set_option Elab.async false
set_option linter.unusedVariables false
set_option maxRecDepth 100000
namespace Mine
open PyProof.Rows.LCg (NsObj ns_obj lst)
structure FS where
  stack : List Nat
  seen : Nat
  es : List (Nat × Nat)
noncomputable def partStep (s : FS) (c : Nat) : Option FS :=
  if 1 ≤ s.seen ∧ s.seen ≤ 6 then s.stack.getLast?.map fun a => ⟨if 8233 < c ∧ c < 8239 then s.stack ++ [97 + s.seen] else s.stack, s.seen + 1, s.es ++ [(if s.seen % 2 = 1 then upN a else a, 97 + s.seen)]⟩ else none
noncomputable def fileStep (st : Option FS) (c : Nat) : Option FS := st.bind fun s =>
  if c8 c then
    if c = 8236 then (if s.stack = [] then none else some ⟨s.stack.dropLast, s.seen, s.es⟩) else partStep s c
  else some s
noncomputable def filedE (cs : List Nat) : Option (List (Nat × Nat)) := (cs.foldl fileStep (some ⟨[97], 1, []⟩)).map (·.es)
/-- the tuples of the header list -/
inductive TA : List (Addr × Obj) → List Value → List (Nat × Nat) → Prop
  | nil : TA [] [] []
  | snoc (t : Addr) (a b : Nat) (ta tb : Tok) {tups : List (Addr × Obj)} {vs : List Value} {es : List (Nat × Nat)} : TA tups vs es → TA ((t, tup2 a b ta tb) :: tups) (vs ++ [.ref t]) (es ++ [(a, b)])
theorem TA.len {tups : List (Addr × Obj)} {vs : List Value} {es : List (Nat × Nat)} (x : TA tups vs es) : vs.length = es.length := by induction x <;> simp_all
theorem TA.get {tups : List (Addr × Obj)} {vs : List Value} {es : List (Nat × Nat)} (x : TA tups vs es) : ∀ (i : Nat) a b, es[i]? = some (a, b) → ∃ t ta tb, vs[i]? = some (Value.ref t) ∧ (t, tup2 a b ta tb) ∈ tups := by
  induction x with
  | nil => intro i a b h; simp at h
  | @snoc t a b ta tb tups vs es x ih =>
    intro i a' b' h
    by_cases hi : i < es.length
    · rw [List.getElem?_append_left hi] at h
      obtain ⟨t', ta', tb', h1, h2⟩ := ih i a' b' h
      exact ⟨t', ta', tb', by rw [List.getElem?_append_left (by rw [x.len]; exact hi)]; exact h1, .tail _ h2⟩
    · have hi' : i = es.length := by
        have := (List.getElem?_eq_some_iff.mp h).1
        simp at this; omega
      subst hi'
      simp at h
      obtain ⟨rfl, rfl⟩ := h
      exact ⟨t, ta, tb, by rw [← x.len]; simp, .head _⟩
theorem sub_hide {g h : Heap} {ls : List Addr} (k : Sub g h) (hn : ∀ a ∈ ls, g.get? a = none) : Sub g (hideAll h ls) := fun b o e => hideAll_get _ (k b o e) fun q => by rw [hn b q] at e; cases e
theorem SL.mem_len {ys : List Value} {bs : List Nat} (x : SL ys bs) : ys.length = bs.length := by induction x <;> simp_all
theorem SL.unsnoc {a : Nat} : ∀ {stk : List Nat} {ys : List Value}, SL ys (stk ++ [a]) → ∃ ys' ta, ys = ys' ++ [.str ⟨#[a]⟩ ta] ∧ SL ys' stk
  | [], ys, h => by
    cases h with
    | cons b t h' => cases h'; exact ⟨[], t, rfl, .nil⟩
  | b :: stk, ys, h => by
    cases h with
    | cons b t h' =>
      obtain ⟨ys', ta, rfl, h2⟩ := SL.unsnoc h'
      exact ⟨_ :: ys', ta, rfl, .cons _ _ h2⟩
theorem kl_last_snoc (y : Value) : ∀ l : List Value, kl_last (l ++ [y]) = some (l, y)
  | [] => rfl
  | x :: l => by rw [List.cons_append, kl_last, kl_last_snoc y l]
theorem ledPop {prog : Program} {w : World} {A : Around} {E : Value → Shared → Prop} {s : Shared} {g : Heap} {L D : Addr} {m : Str → Option Value} {ys : List Value} {y : Value} {n : Nat} {pre post : List (Addr × Obj)} {Q : Value → Shared → Prop}
    (F : Fr g L s.heap m) (N : News g L s.heap (pre ++ (D, W.listOf (ys ++ [y]).toArray n) :: post)) (ap : Ap (pre ++ (D, W.listOf (ys ++ [y]).toArray n) :: post)) (hl : ys.length ≤ 1000)
    (h : ∀ h', Fr g L h' m → News g L h' (pre ++ (D, W.listOf ys.toArray (n + 1)) :: post) → Q y { s with heap := h' }) : wpAny (model prog w) A (call (.builtin "list.pop") [.ref D]) Q E s := by
  have U : ∀ pre : List (Addr × Obj), (∀ p ∈ pre, p.1 ≠ D) → Upd D (W.listOf (ys ++ [y]).toArray n) (W.listOf ys.toArray (n + 1)) (pre ++ (D, W.listOf (ys ++ [y]).toArray n) :: post) (pre ++ (D, W.listOf ys.toArray (n + 1)) :: post) := by
    intro pre hp
    induction pre with
    | nil => exact .head ap.right
    | cons p r ih => exact .tail (hp p (.head _)) (ih fun q hq => hp q (.tail _ hq))
  refine kl_pop (p := ys) (y := y) F N (by rw [List.toList_toArray]; exact kl_last_snoc y ys) (U pre ap.left) ?_ h
  have : ((ys ++ [y]).toArray.toList.length) ≤ 1001 := by simp; omega
  exact Nat.le_trans this (by decide)
theorem ledAppend {prog : Program} {w : World} {A : Around} {E : Value → Shared → Prop} {s : Shared} {g : Heap} {L D : Addr} {m : Str → Option Value} {ys : List Value} {y : Value} {n : Nat} {pre post : List (Addr × Obj)} {Q : Value → Shared → Prop}
    (F : Fr g L s.heap m) (N : News g L s.heap (pre ++ (D, W.listOf ys.toArray n) :: post)) (ap : Ap (pre ++ (D, W.listOf ys.toArray n) :: post)) (hl : ys.length ≤ 1000)
    (h : ∀ h', Fr g L h' m → News g L h' (pre ++ (D, W.listOf (ys ++ [y]).toArray (n + 1)) :: post) → Ap (pre ++ (D, W.listOf (ys ++ [y]).toArray (n + 1)) :: post) → Q .none { s with heap := h' }) : wpAny (model prog w) A (call (.builtin "list.append") [.ref D, y]) Q E s := by
  have n0 := N (D, W.listOf ys.toArray n) (by simp)
  refine append_at (hsz := Nat.le_trans (show ys.toArray.size ≤ 1000 by rw [List.size_toArray]; exact hl) (by decide)) n0.1 fun h₅ hs₅ hD₅ => ?_
  obtain ⟨F2, N2⟩ := led_set (o' := W.listOf (ys ++ [y]).toArray (n + 1)) F N ap.left ap.right hs₅ (hD₅.trans (by rw [List.push_toArray]))
  exact h h₅ F2 N2 ap.set
theorem addh_led {g h h' : Heap} {L l x dx t : Addr} {m : Str → Option Value} {o1 o1' o2 o3 ot : Obj} {A tups : List (Addr × Obj)} (F : Fr g L h m) (N : News g L h (A ++ (l, o1) :: (x, o2) :: (dx, o3) :: tups)) (ap : Ap (A ++ (l, o1) :: (x, o2) :: (dx, o3) :: tups))
    (k : Sub (hideAll h [l, x, dx]) h') (ht : (hideAll h [l, x, dx]).get? t = none) (t1 : t ≠ l) (t2 : t ≠ x) (t3 : t ≠ dx) (e1 : h'.get? l = some o1') (e2 : h'.get? x = some o2) (e3 : h'.get? dx = some o3) (et : h'.get? t = some ot) :
    Fr g L h' m ∧ News g L h' (A ++ (l, o1') :: (x, o2) :: (dx, o3) :: (t, ot) :: tups) ∧ Ap (A ++ (l, o1') :: (x, o2) :: (dx, o3) :: (t, ot) :: tups) := by
  have nl := N (l, o1) (by simp)
  have nx := N (x, o2) (by simp)
  have ndx := N (dx, o3) (by simp)
  have kk : ∀ (b : Addr) o, b ≠ l → b ≠ x → b ≠ dx → h.get? b = some o → h'.get? b = some o := fun b o q1 q2 q3 e => k b o (hideAll_get _ e (by simp [q1, q2, q3]))
  have tn : ∀ (b : Addr) o, h.get? b = some o → b ≠ t := fun b o e q => by
    subst q
    rw [hideAll_get _ e (by simp [t1, t2, t3])] at ht; cases ht
  obtain ⟨oL, es, ep, hL, r⟩ := F.ns
  have F' : Fr g L h' m := ⟨⟨oL, es, ep, kk _ _ nl.2.1.symm nx.2.1.symm ndx.2.1.symm hL, r⟩, fun b o e => kk b o (fun q => by rw [q, nl.2.2] at e; cases e) (fun q => by rw [q, nx.2.2] at e; cases e) (fun q => by rw [q, ndx.2.2] at e; cases e) (F.keep b o e), F.above⟩
  have gt : g.get? t = none := by
    cases q : g.get? t with
    | none => rfl
    | some o => exact absurd rfl (tn t o (F.keep t o q))
  have nt : News g L h' [(t, ot)] := fun p hp => by
    rcases List.mem_singleton.mp hp with rfl
    exact ⟨et, fun q => tn L oL hL q.symm, gt⟩
  have eA : A ++ (l, o1) :: (x, o2) :: (dx, o3) :: tups = (A ++ [(l, o1)]) ++ (x, o2) :: (dx, o3) :: tups := by simp
  have eB : A ++ (l, o1) :: (x, o2) :: (dx, o3) :: tups = (A ++ [(l, o1), (x, o2)]) ++ (dx, o3) :: tups := by simp
  have apx := eA ▸ ap
  have apd := eB ▸ ap
  have NA : ∀ p ∈ A, h'.get? p.1 = some p.2 ∧ p.1 ≠ L ∧ g.get? p.1 = none := fun p hp => by
    have q := N p (by simp [hp])
    exact ⟨kk _ _ (ap.left p hp) (apx.left p (by simp [hp])) (apd.left p (by simp [hp])) q.1, q.2⟩
  have NT : ∀ p ∈ tups, h'.get? p.1 = some p.2 ∧ p.1 ≠ L ∧ g.get? p.1 = none := fun p hp => by
    have q := N p (by simp [hp])
    exact ⟨kk _ _ (ap.right p (by simp [hp])) (apx.right p (by simp [hp])) (apd.right p hp) q.1, q.2⟩
  refine ⟨F', fun p hp => ?_, ?_⟩
  · simp only [List.mem_append, List.mem_cons] at hp
    rcases hp with hp | rfl | rfl | rfl | rfl | hp
    · exact NA p hp
    · exact ⟨e1, nl.2⟩
    · exact ⟨e2, nx.2⟩
    · exact ⟨e3, ndx.2⟩
    · exact nt _ (.head _)
    · exact NT p hp
  · have base : Ap ((t, ot) :: (A ++ (l, o1') :: (x, o2) :: (dx, o3) :: tups)) := (ap.set (o' := o1')).cons fun p hp q => by
      simp only [List.mem_append, List.mem_cons] at hp
      rcases hp with hp | rfl | rfl | rfl | hp
      · exact tn _ _ (N p (by simp [hp])).1 q
      · exact t1 q.symm
      · exact t2 q.symm
      · exact t3 q.symm
      · exact tn _ _ (N p (by simp [hp])).1 q
    have hp : List.Perm ((t, ot) :: (A ++ (l, o1') :: (x, o2) :: (dx, o3) :: tups)) (A ++ (l, o1') :: (x, o2) :: (dx, o3) :: (t, ot) :: tups) := by
      have e1 : A ++ (l, o1') :: (x, o2) :: (dx, o3) :: tups = (A ++ [(l, o1'), (x, o2), (dx, o3)]) ++ tups := by simp
      have e2 : A ++ (l, o1') :: (x, o2) :: (dx, o3) :: (t, ot) :: tups = (A ++ [(l, o1'), (x, o2), (dx, o3)]) ++ (t, ot) :: tups := by simp
      rw [e1, e2]
      exact List.perm_middle.symm
    exact ((hp.map (fun p : Addr × Obj => p.1)).nodup_iff).mp base
theorem lastItem {prog : Program} {w : World} {A : Around} {E : Value → Shared → Prop} {s : Shared} {g : Heap} {L D : Addr} {ys : List Value} {y : Value} {n : Nat} {news : List (Addr × Obj)} {u : Tok} {value slice : Expr} {Q : Value → Shared → Prop}
    (N : News g L s.heap news) (hm : (D, W.listOf (ys ++ [y]).toArray n) ∈ news) (h : Q y s)
    (hs : subscripted slice false (.ref D) (.int (-1) u) = operate [(.ref D), (.int (-1) u)] (getItem (.ref D) (.int (-1) u)) := by with_unfolding_all rfl) (hg : ∀ r, letTemporaryGo value (.ref D) r = pure () := by intro _; with_unfolding_all rfl) :
    wpAny (model prog w) A (subscriptTail value slice (.ref D) (.int (-1) u)) Q E s := by
  have hl : s.heap.IsList D (ys ++ [y]).toArray := ⟨_, (N _ hm).1, rfl, _, rfl⟩
  refine subscriptTail_builtin hl.typeIs PySem.F.slot_list_getitem.lookup (wpAny_getItem_list_neg hl (by decide) (by simp; omega) (by decide) ?_ h) hs hg
  have e : ((-1 : Int) + (((ys ++ [y]).toArray.size : Nat) : Int)).toNat = ys.length := by simp; omega
  rw [e]; simp
theorem neSign {prog : Program} {w : World} {A : Around} {E : Value → Shared → Prop} {s : Shared} {c : Nat} {t u : Tok} {Q : Value → Shared → Prop} (hc : ¬ c = 8236) (h : Q (.bool false) s) : wpAny (model prog w) A (compareOp .Eq (.str ⟨#[c]⟩ t) (.str ⟨#[Int.toNat 8236]⟩ u)) Q E s := by
  refine PyProof.Rows.eq_str ?_
  have e : ((⟨#[c]⟩ : Str) == ⟨#[Int.toNat 8236]⟩) = false := by
    refine beq_eq_false_iff_ne.mpr fun q => hc ?_
    have : (#[c] : Array Nat) = #[8236] := congrArg Str.cps q
    simpa using this
  rw [e]; exact h
theorem seen_even {n : Nat} (h : ¬ (n : Int).fmod 2 = 1) : ¬ n % 2 = 1 := fun q => h (by rw [Int.fmod_eq_emod_of_nonneg _ (by decide)]; omega)
theorem seen_odd {n : Nat} (h : (n : Int).fmod 2 = 1) : n % 2 = 1 := by rw [Int.fmod_eq_emod_of_nonneg _ (by decide)] at h; omega
theorem itemABC {seen : Nat} (hse : 1 ≤ seen ∧ seen ≤ 6) : Txt.item (Str.ofString "abcdefg") (seen : Int) = ⟨#[97 + seen]⟩ := by
  rcases (show seen = 1 ∨ seen = 2 ∨ seen = 3 ∨ seen = 4 ∨ seen = 5 ∨ seen = 6 by omega) with rfl | rfl | rfl | rfl | rfl | rfl <;> decide
theorem abcItem {prog : Program} {w : World} {A : Around} {E : Value → Shared → Prop} {s : Shared} {seen : Nat} {t u : Tok} {value slice : Expr} {Q : Value → Shared → Prop} (hse : 1 ≤ seen ∧ seen ≤ 6)
    (h : ∀ t' k, Q (.str ⟨#[97 + seen]⟩ t') { s with toks := k })
    (hs : subscripted slice false (.str (Str.ofString "abcdefg") t) (.int (seen : Int) u) = operate [.str (Str.ofString "abcdefg") t, .int (seen : Int) u] (getItem (.str (Str.ofString "abcdefg") t) (.int (seen : Int) u)) := by with_unfolding_all rfl)
    (ht : ∀ r, letTemporaryGo value (.str (Str.ofString "abcdefg") t) r = pure () := by intro _; with_unfolding_all rfl) :
    wpAny (model prog w) A (subscriptTail value slice (.str (Str.ofString "abcdefg") t) (.int (seen : Int) u)) Q E s := by
  have e : Txt.item (Str.ofString "abcdefg") (seen : Int) = ⟨#[97 + seen]⟩ := by
    rcases (show seen = 1 ∨ seen = 2 ∨ seen = 3 ∨ seen = 4 ∨ seen = 5 ∨ seen = 6 by omega) with rfl | rfl | rfl | rfl | rfl | rfl <;> decide
  have hl : (Str.ofString "abcdefg").length = 7 := by decide
  refine item_str (fitsSsize_of (N := 9223372036854775808) (by omega) (by omega) (Int.le_refl _)) (by rw [hl]; omega) (by rw [hl]; omega) (fun _ => ?_) hs ht
  rw [e]; exact h _ _
end Mine
end
section
open PySem PySem.W PySem.Calls PyProof.Rows PySem.Spec
set_option Elab.async false
set_option linter.unusedVariables false
set_option maxRecDepth 100000
namespace Mine
open PyProof.Rows.LCg (NsObj ns_obj lst)
local macro_rules | `(tactic| walk_at "eval Name") => `(tactic| (k_here; k_dflt (refine' nameX_L ?F ?v ?_ ?a ?b; (case F => k_asm); (case a => rfl); (case b => rfl); (case v => assumption); k_whole)))
local macro_rules | `(tactic| walk_at "call builtin:str.upper") => `(tactic| (k_here; (refine' up_call ?a ?_; (case a => assumption)); intro _ _))
local macro_rules | `(tactic| walk_at "subscriptTail Constant Name str int") => `(tactic| (k_here; (refine' abcItem ?a ?_; (case a => assumption)); intro _ _))
local macro_rules | `(tactic| walk_at "subscriptTail Name UnaryOp ref int") => `(tactic| (k_here; (refine' lastItem ?N ?m ?_; (case N => k_asm); (case m => k_mem))))
local macro_rules | `(tactic| walk_at "compareOp Eq str str") => `(tactic| (k_here; (refine' neSign ?a ?_; (case a => assumption))))
/-- a header list as a ledger -/
noncomputable def HdrLed (w : World) (es : List (Nat × Nat)) (led : List (Addr × Obj)) (x : Addr) : Prop :=
  ∃ (dx l : Addr) (tkn : Tok) (vs : List Value) (n : Nat) (tups : List (Addr × Obj)), led = (l, W.listOf vs.toArray n) :: (x, instObj 248 dx) :: (dx, hdrD w tkn l) :: tups ∧ TA tups vs es ∧ (∀ a b, (a, b) ∈ es → a ∈ letters ++ lettersU ∧ b ∈ letters) ∧ es.length ≤ 1000 ∧ (dx : Nat) < x ∧ (x : Nat) < l ∧ Ap led
theorem HdrLed.at {w : World} {g h : Heap} {L x : Addr} {es : List (Nat × Nat)} {led : List (Addr × Obj)} (H : HdrLed w es led x) (C : Cx w g) (k : Sub g h) (N : ∀ p ∈ led, h.get? p.1 = some p.2 ∧ g.get? p.1 = none) : HdrAt w h x es := by
  obtain ⟨dx, l, tkn, vs, n, tups, rfl, hTA, hok, hlen, hxd, hxl, ap⟩ := H
  have nl := N (l, W.listOf vs.toArray n) (.head _)
  have nx := N (x, instObj 248 dx) (.tail _ (.head _))
  have ndx := N (dx, hdrD w tkn l) (.tail _ (.tail _ (.head _)))
  have hg : ∀ q ∈ [l, x, dx], g.get? q = none := by intro q hq; simp only [List.mem_cons, List.not_mem_nil, or_false] at hq; rcases hq with rfl | rfl | rfl; exact nl.2; exact nx.2; exact ndx.2
  refine ⟨dx, l, tkn, vs.toArray, n, nx.1, ndx.1, nl.1, hxd, hxl, by rw [List.size_toArray, hTA.len], ?_, C.sub (sub_hide k hg), hok, hlen⟩
  intro i a b hi
  obtain ⟨t2, ta, tb, hv, hm⟩ := hTA.get i a b hi
  refine ⟨t2, ta, tb, by simpa using hv, hideAll_get _ (N _ (.tail _ (.tail _ (.tail _ hm)))).1 ?_⟩
  have a1 := ap.head _ (.tail _ (.tail _ hm))
  have a2 := ap.tail.head _ (.tail _ hm)
  have a3 := ap.tail.tail.head _ hm
  simp only [List.mem_cons, List.not_mem_nil, or_false, not_or]
  exact ⟨a1, a2, a3⟩
set_option maxHeartbeats 4000000
theorem c_filed {w : World} {dp un : Nat} {fr : Option (List Env)} {gd : Option (List Code)} {s : Shared} {Q E : Value → Shared → Prop} {cs : Array Nat} {t : Tok} {es : List (Nat × Nat)}
    (C : Cx w s.heap) (hd : dp + 40 < recursionLimit) (hu : un + 400 < cLine) (hes : filedE cs.toList = some es)
    (ret : ∀ x led h' tk', Sub s.heap h' → HdrLed w es led x → (∀ p ∈ led, h'.get? p.1 = some p.2 ∧ s.heap.get? p.1 = none) → Q (.ref x) { s with heap := h', toks := tk' }) :
    wpAny (MW w) (arA dp un fr gd) (call (.ref 264) [.str ⟨cs⟩ t]) Q E s := by
  obtain ⟨mean, mg, mb, Tp⟩ := id C.t
  refine enter0 [(Str.ofString "text", .str ⟨cs⟩ t)] C (by omega) rfl rfl rfl rfl fun h₁ F X => ?_
  have N : News s.heap s.heap.objs.size h₁ [] := News.nil
  dsimp only [List.length_cons, List.length_nil]
  unfold MW
  show wpAny _ _ (execs [bs 17 0, bs 17 1, bs 17 2, bs 17 3, bs 17 4] _) _ _ _
  revert X; k_fill; intro X
  k_steps
  conv in bs 17 0 => whnf
  k_steps
  refine call_cls (K := K w.params) (fI := 142) F X N (by kernel_rfl) (by rfl) (by rfl) fun x dx h2 F2 N2 _ hxd => ?_
  have hx2 := (N2 _ (.head _)).1
  have hdx2 := (N2 _ (.tail _ (.head _))).1
  have gx := (N2 _ (.head _)).2.2
  have gdx := (N2 _ (.tail _ (.head _))).2.2
  have kg2 : Sub s.heap (hideAll h2 [x, dx]) := sub_hide F2.keep (by intro a ha; simp only [List.mem_cons, List.not_mem_nil, or_false] at ha; rcases ha with rfl | rfl; exact gx; exact gdx)
  refine c_hinit (C.sub kg2) (by first | (show dp + 1 + 1 + 5 < _; omega) | (show dp + 1 + 0 + 5 < _; omega) | (show dp + 1 + 2 + 5 < _; omega)) (by first | (show un + 3 + 0 + 50 < _; omega) | (show un + 3 + 1 + 50 < _; omega) | (show un + 3 + 2 + 50 < _; omega) | (show un + 3 + 3 + 50 < _; omega) | (show un + 3 + 4 + 50 < _; omega)) hx2 hdx2 hxd fun l tkn h3 tk3 k3 hl3 hxl el ex edx => ⟨rfl, ?_⟩
  have hL3 : ∀ (b : Addr) o, b ≠ x → b ≠ dx → h2.get? b = some o → h3.get? b = some o := fun b o h1 h2 e => k3 b o (hideAll_get _ e (by simp [h1, h2]))
  have F3 : Fr s.heap s.heap.objs.size h3 (fun y => List.lookup y [(Str.ofString "text", Value.str { cps := cs } t)].reverse) :=
    ⟨F2.ns.at' fun o e => hL3 _ o (N2 _ (.head _)).2.1.symm (N2 _ (.tail _ (.head _))).2.1.symm e, kg2.trans k3, F2.above⟩
  have hlL : l ≠ s.heap.objs.size := fun e => by
    obtain ⟨oL, _, _, hL, _⟩ := F2.ns
    have hL' : h2.get? s.heap.objs.size = some oL := hL
    rw [e, hL'] at hl3; cases hl3
  have N3 : News s.heap s.heap.objs.size h3 [(l, W.listOf #[] 0), (x, instObj 248 dx), (dx, hdrD w tkn l)] := by
    intro p hp
    simp only [List.mem_cons, List.not_mem_nil, or_false] at hp
    rcases hp with rfl | rfl | rfl
    · exact ⟨el, hlL, none_of_size F2.keep hl3⟩
    · exact ⟨ex, (N2 _ (.head _)).2⟩
    · exact ⟨edx, (N2 _ (.tail _ (.head _))).2⟩
  dsimp only
  clear F2 N2 F N
  have xl' := ltN hxl
  have hxd' := ltN hxd
  k_steps
  conv in bs 17 1 => whnf
  k_steps
  conv in bs 17 2 => whnf
  k_steps
  rename_i h4 tk4 so h5 lo5 h6 h7 F7 N7
  conv in bs 17 3 => whnf
  refine wpAny_For ?_ (by intro _; rfl)
  refine nameX_L (cl := []) F7 rfl ?_
  have A7 : Ap [(so, W.listOf #[Value.str (Str.ofString "a") tk4] 0), (l, W.listOf #[] 0), (x, instObj 248 dx), (dx, hdrD w tkn l)] := by
    have e8 : @LT.lt Nat _ dx l := Nat.lt_trans hxd' xl'
    simp only [Ap, List.map_cons, List.map_nil, List.nodup_cons, List.mem_cons, List.not_mem_nil, or_false, not_or, List.nodup_nil, and_true, not_false_eq_true]
    exact ⟨⟨Nat.ne_of_gt lo5.1, Nat.ne_of_gt lo5.2.1, Nat.ne_of_gt lo5.2.2⟩, ⟨Nat.ne_of_gt xl', Nat.ne_of_gt e8⟩, Nat.ne_of_gt hxd'⟩
  refine forStr (fun i m' news' => ∃ (ys : List Value) (n1 : Nat) (vs : List Value) (n : Nat) (tups : List (Addr × Obj)) (stk : List Nat) (seen : Nat) (es : List (Nat × Nat)) (t1 : Tok), news' = (so, W.listOf ys.toArray n1) :: (l, W.listOf vs.toArray n) :: (x, instObj 248 dx) :: (dx, hdrD w tkn l) :: tups ∧ Ap news' ∧
      (cs.toList.take i).foldl fileStep (some ⟨[97], 1, []⟩) = some ⟨stk, seen, es⟩ ∧ SL ys stk ∧ (∀ a ∈ stk, a ∈ letters) ∧ TA tups vs es ∧ (∀ a b, (a, b) ∈ es → a ∈ letters ++ lettersU ∧ b ∈ letters) ∧ 1 ≤ seen ∧ seen ≤ 7 ∧ es.length + 1 = seen ∧ stk.length ≤ seen ∧
      m' (Str.ofString "head") = some (.ref x) ∧ m' (Str.ofString "still_open") = some (.ref so) ∧ m' (Str.ofString "seen") = some (.int seen t1))
    rfl F7 N7 ⟨[Value.str (Str.ofString "a") tk4], 0, [], 0, [], [97], 1, [], _, rfl, A7, rfl, .cons _ _ .nil, by decide, .nil, by simp, by decide, by decide, rfl, by decide, rfl, rfl, rfl⟩ ?_ ?_
  · rintro I i c u m₁ news₁ oit ⟨H8, g1, g2, g3, g4⟩ hci ⟨ys, n1, vs, n, tups, stk, seen, es', t1, rfl, ap, hfold, hys, hstk, hTA, hok, hs1, hs7, hlen, hslen, hm1, hm2, hm3⟩ hne ⟨h8, tk8, e8⟩ F8 N8
    cases e8
    have hci' : cs.toList[i]? = some c := by simpa using hci
    unfold filedE at hes
    obtain ⟨st0, hst0, hes0⟩ := Option.map_eq_some_iff.mp hes
    obtain ⟨st', hst'⟩ := fold_some (fun _ => rfl) _ _ _ hst0 (i + 1)
    have hft := fold_take fileStep (some ⟨[97], 1, []⟩) hci'
    rw [hfold] at hft
    rw [hft] at hst'
    have apI := ap.cons hne (o := oit)
    dsimp only
    show wpAny _ _ _ (fun _ s₂ => wpAny _ _ (execs [bl 17 3 0, bl 17 3 1] _) _ _ s₂) _ _
    refine hideF fun P hP => ?_
    k_steps
    conv in bl 17 3 0 => whnf
    k_steps
    rename_i h9 F9 N9
    refine c_in_table (C.sub F9.keep) (by show dp + 1 + 3 < _; omega) (by show un + 3 + 30 < _; omega) fun h10 tk10 k10 => ?_
    replace F9 := fr_sub F9 k10
    replace N9 := news_sub N9 k10
    dsimp only
    cases hc8 : c8 c
    · k_steps
      conv in bl 17 3 1 => whnf
      k_steps
      rename_i h11 F11 N11
      have e1 : fileStep (some ⟨stk, seen, es'⟩) c = some ⟨stk, seen, es'⟩ := by simp [fileStep, hc8]
      rw [e1] at hft
      exact hP _ _ ⟨h11, _, _, _, rfl, F11, N11, apI.head, ys, n1, vs, n, tups, stk, seen, es', t1, rfl, ap, hft, hys, hstk, hTA, hok, hs1, hs7, hlen, hslen, hm1, hm2, hm3⟩
    · by_cases hc36 : c = 8236
      · subst hc36
        have e1 : fileStep (some ⟨stk, seen, es'⟩) 8236 = if stk = [] then none else some ⟨stk.dropLast, seen, es'⟩ := by
          simp only [fileStep, Option.bind_some]
          rw [if_pos hc8, if_pos True.intro]
        by_cases hse : stk = []
        · rw [e1, if_pos hse] at hst'; cases hst'
        rw [e1, if_neg hse] at hft
        obtain ⟨pre, a, rfl⟩ : ∃ pre a, stk = pre ++ [a] := ⟨_, _, (List.dropLast_concat_getLast hse).symm⟩
        rw [List.dropLast_concat] at hft
        obtain ⟨ys', ta, rfl, hys'⟩ := hys.unsnoc
        have hyl : ys'.length ≤ 1000 := by have := hys'.mem_len; simp at hslen; omega
        k_steps
        conv in bl 17 3 1 => whnf
        k_steps
        rename_i h11 F11 N11 tk11
        refine ledPop (pre := [(I, oit)]) (ys := ys') F11 N11 apI hyl fun h12 F12 N12 => ?_
        dsimp only
        k_steps
        have ap2 : Ap ([(I, oit)] ++ (so, W.listOf ys'.toArray (n1 + 1)) :: (l, W.listOf vs.toArray n) :: (x, instObj 248 dx) :: (dx, hdrD w tkn l) :: tups) := Ap.set (pre := [(I, oit)]) apI
        exact hP _ _ ⟨_, _, _, _, rfl, F12, N12, ap2.head, ys', n1 + 1, vs, n, tups, pre, seen, es', t1, rfl, ap2.tail, hft, hys', fun a h => hstk a (by simp [h]), hTA, hok, hs1, hs7, hlen, by simp at hslen; omega, hm1, hm2, hm3⟩
      · have e1 : fileStep (some ⟨stk, seen, es'⟩) c = partStep ⟨stk, seen, es'⟩ c := by
          simp only [fileStep, Option.bind_some]
          rw [if_pos hc8, if_neg hc36]
        rw [e1] at hft hst'
        unfold partStep at hft hst'
        dsimp only at hft hst'
        by_cases hse : 1 ≤ seen ∧ seen ≤ 6
        case neg => rw [if_neg hse] at hst'; cases hst'
        rw [if_pos hse] at hft hst'
        cases hgl : stk.getLast? with
        | none => rw [hgl] at hst'; cases hst'
        | some a =>
        rw [hgl, Option.map_some] at hft
        obtain ⟨pre, rfl⟩ := List.getLast?_eq_some_iff.mp hgl
        have hal : a ∈ letters := hstk a (by simp)
        have hal2 := (up_mem hal).1
        have hau := (up_mem hal).2.1
        obtain ⟨ys', ta, rfl, hys'⟩ := hys.unsnoc
        have hyl : (ys' ++ [Value.str ⟨#[a]⟩ ta]).length ≤ 1000 := by have := hys.mem_len; simp at hslen this ⊢; omega
        have hb97 : 97 + seen ∈ letters := by
          rcases (show seen = 1 ∨ seen = 2 ∨ seen = 3 ∨ seen = 4 ∨ seen = 5 ∨ seen = 6 by omega) with rfl | rfl | rfl | rfl | rfl | rfl <;> decide
        k_steps
        conv in bl 17 3 1 => whnf
        k_steps
        · have hpar := seen_odd (by assumption)
          have hft2 := hft
          rw [if_pos hpar] at hft2
          rename_i t14 h13 F13 N13
          rw [itemABC hse] at F13 ⊢
          refine wpAny_call ?_
          have nl := N13 (l, W.listOf vs.toArray n) (.tail _ (.tail _ (.head _)))
          have nx := N13 (x, instObj 248 dx) (.tail _ (.tail _ (.tail _ (.head _))))
          have ndx := N13 (dx, hdrD w tkn l) (.tail _ (.tail _ (.tail _ (.tail _ (.head _)))))
          have hvl : vs.toArray.size ≤ 1000 := by rw [List.size_toArray, hTA.len]; omega
          refine c_addh (w := w) (C.sub (sub_hide F13.keep (by intro q hq; simp only [List.mem_cons, List.not_mem_nil, or_false] at hq; rcases hq with rfl | rfl | rfl; exact nl.2.2; exact nx.2.2; exact ndx.2.2))) (by show dp + 1 + 20 < _; omega) (by show un + 3 + 200 < _; omega) nl.1 nx.1 ndx.1 hxd' xl' hau hb97 hvl fun tt tb' h14 tk14 k14 ht14 hlt14 el ex edx et => ?_
          rw [List.push_toArray] at el
          have hltn := ltN hlt14
          obtain ⟨F15, N15, ap15⟩ := addh_led (A := [(I, oit), (so, W.listOf (ys' ++ [Value.str ⟨#[a]⟩ ta]).toArray n1)]) F13 N13 apI k14 ht14 (Nat.ne_of_gt hltn) (Nat.ne_of_gt (Nat.lt_trans xl' hltn)) (Nat.ne_of_gt (Nat.lt_trans hxd' (Nat.lt_trans xl' hltn))) el ex edx et
          have hok' : ∀ p q, (p, q) ∈ es' ++ [(upN a, 97 + seen)] → p ∈ letters ++ lettersU ∧ q ∈ letters := fun p q h => by
            rcases List.mem_append.mp h with h | h
            · exact hok p q h
            · rcases List.mem_singleton.mp h with h; cases h; exact ⟨hau, hb97⟩
          dsimp only
          k_steps
          · rename_i h16 F16 N16 c1 c2
            rw [if_pos (show 8233 < c ∧ c < 8239 by omega)] at hft2
            refine ledAppend (pre := [(I, oit)]) F16 N16 ap15 hyl fun h17 F17 N17 ap17 => ?_
            dsimp only
            k_steps
            replace ap17 : Ap ((I, oit) :: _) := ap17
            exact hP _ _ ⟨_, _, _, _, rfl, F17, N17, ap17.head, _, n1 + 1, _, n + 1, _, _, seen + 1, _, _, rfl, ap17.tail, hft2, hys.snoc _ _, fun q hq => by rcases List.mem_append.mp hq with h | h; exact hstk q h; rw [List.mem_singleton.mp h]; exact hb97, hTA.snoc tt _ _ _ tb', hok', by omega, by omega, by rw [List.length_append, List.length_singleton]; omega, by rw [List.length_append, List.length_singleton]; omega, hm1, hm2, rfl⟩
          · rename_i h16 F16 N16 c1 c2
            rw [if_neg (show ¬ (8233 < c ∧ c < 8239) by omega)] at hft2
            exact hP _ _ ⟨_, _, _, _, rfl, F16, N16, ap15.head, _, n1, _, n + 1, _, _, seen + 1, _, _, rfl, ap15.tail, hft2, hys, hstk, hTA.snoc tt _ _ _ tb', hok', by omega, by omega, by rw [List.length_append, List.length_singleton]; omega, by omega, hm1, hm2, rfl⟩
          · rename_i h16 F16 N16 c1
            rw [if_neg (show ¬ (8233 < c ∧ c < 8239) by omega)] at hft2
            exact hP _ _ ⟨_, _, _, _, rfl, F16, N16, ap15.head, _, n1, _, n + 1, _, _, seen + 1, _, _, rfl, ap15.tail, hft2, hys, hstk, hTA.snoc tt _ _ _ tb', hok', by omega, by omega, by rw [List.length_append, List.length_singleton]; omega, by omega, hm1, hm2, rfl⟩
        · have hpar := seen_even (by assumption)
          have hft2 := hft
          rw [if_neg hpar] at hft2
          rename_i h13 F13 N13 hp0
          rw [itemABC hse] at F13 ⊢
          refine wpAny_call ?_
          have nl := N13 (l, W.listOf vs.toArray n) (.tail _ (.tail _ (.head _)))
          have nx := N13 (x, instObj 248 dx) (.tail _ (.tail _ (.tail _ (.head _))))
          have ndx := N13 (dx, hdrD w tkn l) (.tail _ (.tail _ (.tail _ (.tail _ (.head _)))))
          have hvl : vs.toArray.size ≤ 1000 := by rw [List.size_toArray, hTA.len]; omega
          refine c_addh (w := w) (C.sub (sub_hide F13.keep (by intro q hq; simp only [List.mem_cons, List.not_mem_nil, or_false] at hq; rcases hq with rfl | rfl | rfl; exact nl.2.2; exact nx.2.2; exact ndx.2.2))) (by show dp + 1 + 20 < _; omega) (by show un + 3 + 200 < _; omega) nl.1 nx.1 ndx.1 hxd' xl' hal2 hb97 hvl fun tt tb' h14 tk14 k14 ht14 hlt14 el ex edx et => ?_
          rw [List.push_toArray] at el
          have hltn := ltN hlt14
          obtain ⟨F15, N15, ap15⟩ := addh_led (A := [(I, oit), (so, W.listOf (ys' ++ [Value.str ⟨#[a]⟩ ta]).toArray n1)]) F13 N13 apI k14 ht14 (Nat.ne_of_gt hltn) (Nat.ne_of_gt (Nat.lt_trans xl' hltn)) (Nat.ne_of_gt (Nat.lt_trans hxd' (Nat.lt_trans xl' hltn))) el ex edx et
          have hok' : ∀ p q, (p, q) ∈ es' ++ [(a, 97 + seen)] → p ∈ letters ++ lettersU ∧ q ∈ letters := fun p q h => by
            rcases List.mem_append.mp h with h | h
            · exact hok p q h
            · rcases List.mem_singleton.mp h with h; cases h; exact ⟨hal2, hb97⟩
          dsimp only
          k_steps
          · rename_i h16 F16 N16 c1 c2
            rw [if_pos (show 8233 < c ∧ c < 8239 by omega)] at hft2
            refine ledAppend (pre := [(I, oit)]) F16 N16 ap15 hyl fun h17 F17 N17 ap17 => ?_
            dsimp only
            k_steps
            replace ap17 : Ap ((I, oit) :: _) := ap17
            exact hP _ _ ⟨_, _, _, _, rfl, F17, N17, ap17.head, _, n1 + 1, _, n + 1, _, _, seen + 1, _, _, rfl, ap17.tail, hft2, hys.snoc _ _, fun q hq => by rcases List.mem_append.mp hq with h | h; exact hstk q h; rw [List.mem_singleton.mp h]; exact hb97, hTA.snoc tt _ _ _ tb', hok', by omega, by omega, by rw [List.length_append, List.length_singleton]; omega, by rw [List.length_append, List.length_singleton]; omega, hm1, hm2, rfl⟩
          · rename_i h16 F16 N16 c1 c2
            rw [if_neg (show ¬ (8233 < c ∧ c < 8239) by omega)] at hft2
            exact hP _ _ ⟨_, _, _, _, rfl, F16, N16, ap15.head, _, n1, _, n + 1, _, _, seen + 1, _, _, rfl, ap15.tail, hft2, hys, hstk, hTA.snoc tt _ _ _ tb', hok', by omega, by omega, by rw [List.length_append, List.length_singleton]; omega, by omega, hm1, hm2, rfl⟩
          · rename_i h16 F16 N16 c1
            rw [if_neg (show ¬ (8233 < c ∧ c < 8239) by omega)] at hft2
            exact hP _ _ ⟨_, _, _, _, rfl, F16, N16, ap15.head, _, n1, _, n + 1, _, _, seen + 1, _, _, rfl, ap15.tail, hft2, hys, hstk, hTA.snoc tt _ _ _ tb', hok', by omega, by omega, by rw [List.length_append, List.length_singleton]; omega, by omega, hm1, hm2, rfl⟩
  · rintro h' tk' m' news' F' N' ⟨ys, n1, vs, n, tups, stk, seen, es', t1, rfl, ap, hfold, hys, hstk, hTA, hok, hs1, hs7, hlen, hslen, hm1, hm2, hm3⟩
    have hee : es' = es := by
      rw [show (⟨cs⟩ : Str).cps.size = cs.toList.length by simp, List.take_length] at hfold
      unfold filedE at hes
      rw [hfold] at hes
      simpa using hes
    subst hee
    dsimp only
    k_steps
    conv in bs 17 4 => whnf
    k_steps
    exact ret x _ h' _ F'.keep ⟨dx, l, tkn, vs, n, tups, rfl, hTA, hok, by omega, hxd', xl', ap.tail⟩ (fun p hp => ⟨(N' p (.tail _ hp)).1, (N' p (.tail _ hp)).2.2⟩)
end Mine
end
section
open PySem PySem.W PySem.Calls PyProof.Rows PySem.Spec
set_option Elab.async false
set_option linter.unusedVariables false
set_option maxRecDepth 100000
namespace Mine
open PyProof.Rows.LCg (NsObj ns_obj lst)
section
variable {prog : Program} {w : World} {A : Around} {s : Shared} {env : Env} {E : Value → Shared → Prop}
theorem Stepper.list {target : Expr} (hh : A.handled = none) (I l : Addr) (hne : l ≠ I) (vs : Array Value) : Stepper prog w A target I vs.size (fun i v _ => vs[i]? = some v) (fun i h => h.IsListIter I l i ∧ h.IsList l vs) where
  item i s Q E hi st h := (Walks.list hh I l hne vs).item i s _ E hi st fun v h' tk hP hS hk => letGo_listiter hS.1 (h v h' tk hP hS fun b o hb e => hk b o (by simpa using hb) e)
  done s Q E st h := (Walks.list hh I l hne vs).done s Q E st fun h' tk hk => h h' tk fun b o hb e => hk b o (by simpa using hb) e
  self := (Walks.list hh I l hne vs).self
/-- a for loop over a list, any target; the list is looked for by a fact of the heap -/
theorem forListT {Q : Flow → Shared → Prop} {g : Heap} {l : Addr} {target : Expr} {body : List Stmt} {m : Str → Option Value} {vs : Array Value} {news : List (Addr × Obj)}
    (J : Nat → (Str → Option Value) → List (Addr × Obj) → Prop) (hh : A.handled = none) (F : Fr g env.locals s.heap m) (N : News g env.locals s.heap news) (hm : s.heap.IsList l vs) (hmem : ∀ i m' news' h', J i m' news' → Fr g env.locals h' m' → News g env.locals h' news' → h'.IsList l vs)
    (h0 : J 0 m news)
    (turn : ∀ I i v m₁ news₁ oit s₁, vs[i]? = some v → J i m₁ news₁ → (∀ p ∈ news₁, p.1 ≠ I) → (∃ h tk, s₁ = { s with heap := h, toks := tk }) →
      Fr g env.locals s₁.heap m₁ → News g env.locals s₁.heap ((I, oit) :: news₁) →
      wpAny (model prog w) A (assign target env v) (fun _ s₂ => wpAny (model prog w) A (execs body env) (TurnPost g env.locals I oit (J (i + 1)) { s with heap := s.heap.push { cls := .type "list_iterator", data := .fields #[.ref l, .int 0 0] } } Q) (fun _ _ => False) s₂) (fun _ _ => False) s₁)
    (done : ∀ h' tk m' news', Fr g env.locals h' m' → News g env.locals h' news' → J vs.size m' news' → Q .next { s with heap := h', toks := tk }) :
    wpAny (model prog w) A (pyIter (.ref l)) (fun it s₂ => codeAny (model prog w) A (.forLoop target it body [] env) (fun r s' => match r with | .ok f => Q f s' | .error e => cameBackBy (model prog w) A env (fun _ _ => False) e s') s₂) E s := by
  refine wpAny_pyIter_list hm ?_
  have hlt : (l : Nat) < s.heap.objs.size := by obtain ⟨o, e, _⟩ := hm; exact Heap.lt_size e
  obtain ⟨z1, z2, z3⟩ := fresh_it F N
  have kp := push_sub s.heap { cls := .type "list_iterator", data := .fields #[.ref l, .int 0 0] }
  exact forStep (Stepper.list hh s.heap.objs.size l (Nat.ne_of_lt hlt) vs) (ob := fun i o => o.cls = .type "list_iterator" ∧ o.data = .fields #[.ref l, .int i 0]) (Src := fun h => h.IsList l vs)
    (fun i h => ⟨fun ⟨⟨o, a, b, c⟩, e⟩ => ⟨⟨o, a, b, c⟩, e⟩, fun ⟨⟨o, a, b, c⟩, e⟩ => ⟨⟨o, a, b, c⟩, e⟩⟩) J (fr_sub F kp) (news_sub N kp) z1 z2 z3
    ⟨⟨_, Heap.get?_push_size _ rfl, rfl, rfl⟩, (by obtain ⟨o, e, r⟩ := hm; exact ⟨o, kp _ _ e, r⟩)⟩ hmem h0
    (fun i v m₁ news₁ oit s₁ hi hP hJ hne ⟨h, tk, e⟩ => turn _ i v m₁ news₁ oit s₁ hP hJ hne ⟨h, tk, e⟩) done
/-- a for loop over a range with step one -/
theorem forRange {Q : Flow → Shared → Prop} {g : Heap} {r : Addr} {a b : Int} {t₁ u₁ v₁ : Tok} {n : Nat} {x : Str} {px : Pos} {body : List Stmt} {m : Str → Option Value} {news : List (Addr × Obj)}
    (J : Nat → (Str → Option Value) → List (Addr × Obj) → Prop) (hh : A.handled = none) (hr : IsRange s.heap r a b 1 t₁ u₁ v₁) (hsm : Builtin.Range.small a b 1 = true) (hn : Builtin.Range.rangeSize a b 1 = ((n : Nat) : Int)) (F : Fr g env.locals s.heap m) (N : News g env.locals s.heap news)
    (h0 : J 0 m news)
    (turn : ∀ I i u m₁ news₁ oit s₁, i < n → J i m₁ news₁ → (∀ p ∈ news₁, p.1 ≠ I) → (∃ h tk, s₁ = { s with heap := h, toks := tk }) →
      Fr g env.locals s₁.heap m₁ → News g env.locals s₁.heap ((I, oit) :: news₁) →
      wpAny (model prog w) A (assign (.Name x px) env (.int (a + (i : Int)) u)) (fun _ s₂ => wpAny (model prog w) A (execs body env) (TurnPost g env.locals I oit (J (i + 1)) { s with heap := s.heap.push { cls := .type "range_iterator", data := .fields #[rawInt a, rawInt n, rawInt 1] } } Q) (fun _ _ => False) s₂) (fun _ _ => False) s₁)
    (done : ∀ h' tk m' news', Fr g env.locals h' m' → News g env.locals h' news' → J n m' news' → Q .next { s with heap := h', toks := tk }) :
    wpAny (model prog w) A (pyIter (.ref r)) (fun it s₂ => codeAny (model prog w) A (.forLoop (.Name x px) it body [] env) (fun r s' => match r with | .ok f => Q f s' | .error e => cameBackBy (model prog w) A env (fun _ _ => False) e s') s₂) E s := by
  refine wpAny_pyIter_range hr hsm ?_
  rw [hn]
  obtain ⟨z1, z2, z3⟩ := fresh_it F N
  have kp := push_sub s.heap { cls := .type "range_iterator", data := .fields #[rawInt a, rawInt n, rawInt 1] }
  refine forStep (Stepper.of (LCg.range_walks hh a n) (fun b hb => by simpa using hb)) (ob := fun i o => o = { cls := .type "range_iterator", data := .fields #[rawInt (a + (i : Nat) * 1), rawInt ((n : Int) - (i : Nat)), rawInt 1] }) (Src := fun _ => True)
    (fun i h => ⟨fun a => ⟨⟨_, a, rfl⟩, trivial⟩, fun ⟨⟨o, a, b⟩, _⟩ => a.trans (congrArg some b)⟩) J (fr_sub F kp) (news_sub N kp) z1 z2 z3
    ?_ (fun i m' news' h' j _ n => trivial) h0
    (fun i v m₁ news₁ oit s₁ hi hP hJ hne ⟨h, tk, e⟩ => ?_) done
  · show Heap.get? _ _ = some _
    rw [Heap.get?_push_size _ rfl]; simp
  · obtain ⟨u, rfl⟩ := hP
    exact turn _ i u m₁ news₁ oit s₁ hi hJ hne ⟨h, tk, e⟩
/-- a tuple target of two locals -/
theorem assignPair {g : Heap} {L a t : Addr} {m : Str → Option Value} {cn : Str} {cs : Scope} {ccd : Value} {cl : List (Str × Addr)} {x y : Str} {px py tp : Pos} {kk : Nat} {u v : Value} {news : List (Addr × Obj)} {Q : Unit → Shared → Prop}
    (hh : A.handled = none) (ht : s.heap.IsTuple t #[u, v]) (F : Fr g L s.heap m) (N : News g L s.heap news)
    (h : ∀ h' tk, Fr g L h' (fun z => if z = y then some v else if z = x then some u else m z) → News g L h' news → Q () { s with heap := h', toks := tk })
    (hk : cs.kind = .function := by rfl) (hx : (envX cn cs L a ccd cl).kindOf x = some .local := by rfl) (hy : (envX cn cs L a ccd cl).kindOf y = some .local := by rfl) :
    wpAny (model prog w) A (assign (.Tuple [.Name x px, .Name y py] kk tp) (envX cn cs L a ccd cl) (.ref t)) Q E s := by
  have hp : ((envX cn cs L a ccd cl).scope.kind == .class || ((envX cn cs L a ccd cl).scope.kind == .module && (envX cn cs L a ccd cl).locals != (envX cn cs L a ccd cl).globals)) = false := by
    show (cs.kind == .class || (cs.kind == .module && L != mainGlobals)) = false
    rw [hk]; rfl
  refine wpAny_assign_Tuple hh ht rfl rfl fun h₁ he₁ => ?_
  have k1 : Sub s.heap h₁ := fun c o e => he₁ c o (Nat.ne_of_lt (Heap.lt_size e)) e
  have F1 := fr_sub F k1
  have N1 := news_sub N k1
  show wpAny _ _ (assignInOrder [assign (.Name x px) _, assign (.Name y py) _] [u, v]) _ _ _
  refine assignInOrder_cons ?_
  refine wpAny_assign_Name (wpAny_storeName_local hx F1.ns (fun h₂ hn₂ hs₂ => ?_) hp)
  have F2 := F1.set hn₂ hs₂
  have N2 := N1.set hs₂
  refine assignInOrder_cons ?_
  refine wpAny_assign_Name (wpAny_storeName_local hy F2.ns (fun h₃ hn₃ hs₃ => ?_) hp)
  refine assignInOrder_nil ?_
  exact h h₃ _ (F2.set hn₃ hs₃) (N2.set hs₃)
end
end Mine
end
section
open PySem PySem.W PySem.Calls PyProof.Rows PySem.Spec
set_option Elab.async false
set_option linter.unusedVariables false
set_option maxRecDepth 100000
namespace Mine
open PyProof.Rows.LCg (NsObj ns_obj lst)
noncomputable def cmpE (way : Int) : List Int → List Int → Int
  | a :: as, b :: bs => if a < b then -way else if b < a then way else cmpE way as bs
  | _, _ => 0
theorem cmpE_skip (way : Int) : ∀ (as bs : List Int) (i : Nat), as.length = bs.length → as.take i = bs.take i → cmpE way as bs = cmpE way (as.drop i) (bs.drop i)
  | [], [], i, _, _ => by simp
  | [], b :: bs, i, h, _ => by simp at h
  | a :: as, [], i, h, _ => by simp at h
  | a :: as, b :: bs, 0, _, _ => rfl
  | a :: as, b :: bs, i + 1, h, e => by
    simp at e h
    obtain ⟨rfl, e⟩ := e
    simp only [cmpE, Int.lt_irrefl, if_false, List.drop_succ_cons]
    exact cmpE_skip way as bs i h e
noncomputable abbrev cmpTok (w : World) : Int := PyData.keyHash w.params "comp_select_list"
noncomputable abbrev cmpD (w : World) (tkn : Tok) (l : Addr) : Obj := dictOf [⟨cmpTok w, .str "comp_select_list" tkn, .ref l⟩] 1
theorem ints_get {vs : List Value} {ns : List Int} (x : IntsAre vs ns) : ∀ {i : Nat} {n : Int}, ns[i]? = some n → ∃ t, vs[i]? = some (.int n t) := by
  induction x with
  | nil => intro i n h; simp at h
  | cons k t _ ih =>
    intro i n h
    cases i with
    | zero => simp at h; subst h; exact ⟨_, rfl⟩
    | succ i => simpa using ih (by simpa using h)
theorem rowItem {prog : Program} {w : World} {A : Around} {E : Value → Shared → Prop} {s : Shared} {g : Heap} {L l : Addr} {m : Str → Option Value} {vs : List Value} {ns : List Int} {n i : Nat} {k : Int} {u : Tok} {value slice : Expr} {Q : Value → Shared → Prop} (F : Fr g L s.heap m) (hl : g.get? l = some (W.listOf vs.toArray n)) (hi : IntsAre vs ns) (hk : ns[i]? = some k) (hsz : i < 1000)
    (h : ∀ t, Q (.int k t) s)
    (hs : subscripted slice false (.ref l) (.int (i : Int) u) = operate [(.ref l), .int (i : Int) u] (getItem (.ref l) (.int (i : Int) u)) := by with_unfolding_all rfl) (hg : ∀ r, letTemporaryGo value (.ref l) r = pure () := by intro _; with_unfolding_all rfl) :
    wpAny (model prog w) A (subscriptTail value slice (.ref l) (.int (i : Int) u)) Q E s := by
  obtain ⟨t, ht⟩ := ints_get hi hk
  have hL : s.heap.IsList l vs.toArray := ⟨_, F.keep _ _ hl, rfl, _, rfl⟩
  exact subscriptTail_builtin hL.typeIs PySem.F.slot_list_getitem.lookup (wpAny_getItem_list hL (by omega) (by omega) (by simpa using ht) (h t)) hs hg
local macro_rules | `(tactic| walk_at "eval Name") => `(tactic| (k_here; k_dflt (refine' nameX_L ?F ?v ?_ ?a ?b; (case F => k_asm); (case a => rfl); (case b => rfl); (case v => assumption); k_whole)))
local macro_rules | `(tactic| walk_at "subscriptTail Name Name ref int") => `(tactic| (k_here; (refine' rowItem ?F ?l ?i ?k ?z ?_; (case F => k_asm); (case l => assumption); (case i => assumption); (case k => assumption); (case z => assumption)); intro _))
set_option maxHeartbeats 4000000
theorem c_compare {w : World} {dp un : Nat} {fr : Option (List Env)} {gd : Option (List Code)} {s : Shared} {R : Result → Shared → Prop} {x dx l A B : Addr} {tkn : Tok} {vs la lb : List Value} {n na nb : Nat} {as bs : List Int} {way : Int}
    (C : Cx w (hideAll s.heap [x, dx])) (hd : dp + 5 < recursionLimit) (hu : un + 50 < cLine)
    (hx : s.heap.get? x = some (instObj 86 dx)) (hdx : s.heap.get? dx = some (cmpD w tkn l)) (hlt : dx < x)
    (hl : (hideAll s.heap [x, dx]).get? l = some (W.listOf vs.toArray n)) (hA : (hideAll s.heap [x, dx]).get? A = some (W.listOf la.toArray na)) (hB : (hideAll s.heap [x, dx]).get? B = some (W.listOf lb.toArray nb)) (ia : IntsAre la as) (ib : IntsAre lb bs)
    (hlen : as.length = bs.length) (hvl : vs.length = as.length) (hsz : as.length ≤ 500)
    (hvs : ∀ i, i < vs.length → ∃ t t1 t2, vs[i]? = some (.ref t) ∧ (hideAll s.heap [x, dx]).get? t = some { cls := .type "tuple", data := .seq #[.int (i : Int) t1, .int way t2] })
    (ret : ∀ t h' tk', Sub s.heap h' → R (.ok (.ret (.int (cmpE way as bs) t))) { s with heap := h', toks := tk' }) :
    codeAny (MW w) (arA dp un fr gd) (.call (.ref 83) ⟨[.ref x, .ref A, .ref B], []⟩) R s := by
  obtain ⟨mean, mg, mb, Tp⟩ := id C.t
  have X := C.k
  have X0 := C.unhide.k
  refine enterCode [(Str.ofString "self", .ref x), (Str.ofString "left", .ref A), (Str.ofString "right", .ref B)] X0 (Tp.keeps fun b o e => of_hideAll _ e).nolimit (by show dp < _; omega) rfl rfl (BindsTo.of_eq rfl) rfl fun h₁ tk F => ?_
  obtain ⟨F, N⟩ := rebase [(x, instObj 86 dx), (dx, cmpD w tkn l)] F (by intro p hp; simp at hp; rcases hp with rfl | rfl; exact hx; exact hdx)
  replace F : Fr (hideAll s.heap [x, dx]) s.heap.objs.size h₁ _ := F
  replace N : News (hideAll s.heap [x, dx]) s.heap.objs.size h₁ _ := N
  have ug : ∀ h', Sub (hideAll s.heap [x, dx]) h' → h'.get? x = some (instObj 86 dx) → h'.get? dx = some (cmpD w tkn l) → Sub s.heap h' := fun h' k e1 e2 b o e => by
    by_cases hb : b ∈ [x, dx]
    · simp only [List.mem_cons, List.not_mem_nil, or_false] at hb
      rcases hb with rfl | rfl
      · rw [e1, ← hx, e]
      · rw [e2, ← hdx, e]
    · exact k _ _ (hideAll_get _ e hb)
  revert ret ug
  generalize hideAll s.heap [x, dx] = g at C F N X Tp hl hA hB hvs
  intro ret ug
  replace hlt := ltN hlt
  unfold MW
  show wpAny _ _ (execs [bm 6 1 0, bm 6 1 1] _) _ _ _
  revert X; k_fill; intro X
  k_steps
  conv in bm 6 1 0 => whnf
  refine wpAny_For ?_ (by intro _; rfl)
  k_steps
  refine forListT (s := { s with heap := h₁, toks := tk + 1 }) (vs := vs.toArray) (fun i m' news' => news' = [(x, instObj 86 dx), (dx, cmpD w tkn l)] ∧ as.take i = bs.take i ∧ m' (Str.ofString "left") = some (.ref A) ∧ m' (Str.ofString "right") = some (.ref B))
    rfl F N ⟨_, F.keep _ _ hl, rfl, _, rfl⟩ (fun i m' news' h' hJ F' N' => ⟨_, F'.keep _ _ hl, rfl, _, rfl⟩) ⟨rfl, rfl, rfl, rfl⟩ ?_ ?_
  · rintro I i v m₁ news₁ oit ⟨H8, g1, g2, g3, g4⟩ hv ⟨rfl, htk, hm1, hm2⟩ hne ⟨h8, tk8, e8⟩ F8 N8
    cases e8
    have hi : i < vs.length := by simpa using (Array.getElem?_eq_some_iff.mp hv).1
    obtain ⟨t, t1, t2, hv1, ht⟩ := hvs i hi
    rw [List.getElem?_toArray, hv1] at hv
    cases hv
    have hia : i < as.length := by omega
    have hib : i < bs.length := by omega
    have ea : as[i]? = some as[i] := List.getElem?_eq_getElem hia
    have eb : bs[i]? = some bs[i] := List.getElem?_eq_getElem hib
    have da : as.drop i = as[i] :: as.drop (i + 1) := List.drop_eq_getElem_cons hia
    have db : bs.drop i = bs[i] :: bs.drop (i + 1) := List.drop_eq_getElem_cons hib
    have hsk := cmpE_skip way as bs i hlen htk
    rw [da, db] at hsk
    have hta : as.take (i + 1) = as.take i ++ [as[i]] := by rw [List.take_add_one, ea]; rfl
    have htb : bs.take (i + 1) = bs.take i ++ [bs[i]] := by rw [List.take_add_one, eb]; rfl
    generalize as[i] = a at ea da hsk hta
    generalize bs[i] = b at eb db hsk htb
    simp only [cmpE] at hsk
    refine assignPair (x := Str.ofString "index") rfl ⟨_, F8.keep _ _ ht, rfl, _, rfl⟩ F8 N8 fun h9 tk9 F9 N9 => ?_
    have hi1000 : i < 1000 := by omega
    dsimp only
    k_steps
    · rename_i h10 F10 N10 c1
      rw [hsk, if_pos c1] at ret
      exact ret _ _ _ (ug _ F10.keep (N10 _ (.tail _ (.head _))).1 (N10 _ (.tail _ (.tail _ (.head _)))).1)
    · rename_i h10 F10 N10 c1 c2
      rw [hsk, if_neg c1, if_pos c2] at ret
      exact ret _ _ _ (ug _ F10.keep (N10 _ (.tail _ (.head _))).1 (N10 _ (.tail _ (.tail _ (.head _)))).1)
    · rename_i h10 F10 N10 c1 c2
      have eab : a = b := by omega
      exact ⟨_, _, _, _, rfl, F10, N10, hne, rfl, by rw [hta, htb, htk, eab], hm1, hm2⟩
  · rintro h' tk' m' news' F' N' ⟨rfl, htk, hm1, hm2⟩
    have e1 : cmpE way as bs = 0 := by
      rw [cmpE_skip way as bs vs.toArray.size hlen htk, List.drop_eq_nil_of_le (by simp; omega)]
      rfl
    rw [e1] at ret
    dsimp only
    k_steps
    conv in bm 6 1 1 => whnf
    k_steps
    exact ret _ _ _ (ug _ F'.keep (N' _ (.head _)).1 (N' _ (.tail _ (.head _))).1)
end Mine
end
section
open PySem PySem.W PySem.Calls PyProof.Rows PySem.Spec
set_option Elab.async false
set_option linter.unusedVariables false
set_option maxRecDepth 100000
namespace Mine
set_option maxHeartbeats 4000000
theorem c_tinit {w : World} {dp un : Nat} {fr : Option (List Env)} {gd : Option (List Code)} {s : Shared} {R : Result → Shared → Prop} {x dx l : Addr}
    (C : Cx w (hideAll s.heap [x, dx])) (hd : dp + 5 < recursionLimit) (hu : un + 50 < cLine)
    (hx : s.heap.get? x = some (instObj 86 dx)) (hdx : s.heap.get? dx = some (dictOf [] 0)) (hlt : dx < x)
    (ret : ∀ tkn h' tk', Sub (hideAll s.heap [x, dx]) h' → h'.get? x = some (instObj 86 dx) → h'.get? dx = some (cmpD w tkn l) → R (.ok (.ret .none)) { s with heap := h', toks := tk' }) :
    codeAny (MW w) (arA dp un fr gd) (.call (.ref 76) ⟨[.ref x, .ref l], []⟩) R s := by
  obtain ⟨mean, mg, mb, Tp⟩ := id C.t
  have X := C.k
  have X0 := C.unhide.k
  refine enterCode [(Str.ofString "self", .ref x), (Str.ofString "comp_select_list", .ref l)] X0 (Tp.keeps fun b o e => of_hideAll _ e).nolimit (by show dp < _; omega) rfl rfl (BindsTo.of_eq rfl) rfl fun h₁ tk F => ?_
  obtain ⟨F, N⟩ := rebase [(x, instObj 86 dx), (dx, dictOf [] 0)] F (by intro p hp; simp at hp; rcases hp with rfl | rfl; exact hx; exact hdx)
  replace F : Fr (hideAll s.heap [x, dx]) s.heap.objs.size h₁ _ := F
  replace N : News (hideAll s.heap [x, dx]) s.heap.objs.size h₁ _ := N
  revert ret
  generalize hideAll s.heap [x, dx] = g at C F N X Tp
  intro ret
  replace hlt := ltN hlt
  unfold MW
  show wpAny _ _ (execs [bm 6 0 0] _) _ _ _
  revert X; k_fill; intro X
  k_steps
  conv in bm 6 0 0 => whnf
  k_steps
  rename_i h2 F2 N2
  exact ret _ h2 _ F2.keep (N2 _ (.head _)).1 (N2 _ (.tail _ (.head _))).1
end Mine
end
section
open PySem PySem.W PySem.Calls PyProof.Rows PySem.Spec
set_option Elab.async false
set_option linter.unusedVariables false
set_option maxRecDepth 100000
namespace Mine
open PyProof.Rows.LCg (NsObj ns_obj lst)
local macro_rules | `(tactic| walk_at "subscriptTail Name Name ref int") => `(tactic| (k_here; (refine' rowItem ?F ?l ?i ?k ?z ?_; (case F => k_asm); (case l => assumption); (case i => assumption); (case k => assumption); (case z => assumption)); intro _))
theorem inLed {prog : Program} {w : World} {A : Around} {E : Value → Shared → Prop} {s : Shared} {g : Heap} {L l : Addr} {news : List (Addr × Obj)} {vs : List Value} {ns : List Int} {n : Nat} {k : Int} {t : Tok} {Q : Value → Shared → Prop} (N : News g L s.heap news) (hm : (l, W.listOf vs.toArray n) ∈ news) (hi : IntsAre vs ns)
    (h : Q (.bool (ns.any (· == k))) s) : wpAny (model prog w) A (compareOp .In (.int k t) (.ref l)) Q E s := in_list_ints ⟨_, (N _ hm).1, rfl, _, rfl⟩ hi h
local macro_rules | `(tactic| walk_at "eval Name") => `(tactic| (k_here; k_dflt (refine' nameX_L ?F ?v ?_ ?a ?b; (case F => k_asm); (case a => rfl); (case b => rfl); (case v => assumption); k_whole)))
theorem allLt {a : Addr} : ∀ {l : List (Addr × Obj)}, AllLt a l → ∀ p ∈ l, (p.1 : Nat) < a
  | [], _, _, h => nomatch h
  | q :: l, x, p, h => by
    rcases List.mem_cons.mp h with rfl | h
    · exact x.1
    · exact allLt x.2 p h
theorem ints_app {vs ws : List Value} {ns ms : List Int} (x : IntsAre vs ns) (y : IntsAre ws ms) : IntsAre (vs ++ ws) (ns ++ ms) := by
  induction x with
  | nil => exact y
  | cons n t _ ih => exact .cons n t ih
theorem ints_len {vs : List Value} {ns : List Int} (x : IntsAre vs ns) : vs.length = ns.length := by induction x <;> simp_all
theorem addLed {prog : Program} {w : World} {A : Around} {E : Value → Shared → Prop} {s : Shared} {g : Heap} {L a b : Addr} {m : Str → Option Value} {news : List (Addr × Obj)} {vs ws : List Value} {n n' : Nat} {Q : Value → Shared → Prop} (F : Fr g L s.heap m) (N : News g L s.heap news) (ap : Ap news) (ha : (a, W.listOf vs.toArray n) ∈ news) (hb : (b, W.listOf ws.toArray n') ∈ news) (hl : vs.length + ws.length ≤ 1000)
    (h : ∀ D h', Fr g L h' m → News g L h' ((D, W.listOf (vs ++ ws).toArray 0) :: news) → Ap ((D, W.listOf (vs ++ ws).toArray 0) :: news) → (∀ p ∈ news, (p.1 : Nat) < D) → Q (.ref D) { s with heap := h' }) :
    wpAny (model prog w) A (binaryOp .Add (.ref a) (.ref b)) Q E s := by
  refine PySem.P.add_list (n := n) (n2 := n') (N _ ha).1 (N _ hb).1 ?_ (Nat.le_trans (show _ ≤ 1000 by simpa using hl) (by decide))
  have kp := push_sub s.heap { cls := .type "list", data := .seq (vs.toArray ++ ws.toArray) }
  obtain ⟨F2, N2, A2⟩ := led_new (o := W.listOf (vs ++ ws).toArray 0) F N ap kp (none_ge (Nat.le_refl _)) (by rw [Heap.get?_push_size _ rfl, List.append_toArray])
  exact h _ _ F2 N2 A2 fun p hp => Heap.lt_size (N p hp).1
theorem Ap.swp {A B T : List (Addr × Obj)} (x : Ap (A ++ (B ++ T))) : Ap (B ++ (A ++ T)) := ((List.perm_append_comm_assoc A B T).map (fun p : Addr × Obj => p.1)).nodup_iff.mp x
theorem news_swp {g h : Heap} {L : Addr} {A B T : List (Addr × Obj)} (x : News g L h (A ++ (B ++ T))) : News g L h (B ++ (A ++ T)) := fun p hp => x p ((List.perm_append_comm_assoc A B T).mem_iff.mpr hp)
theorem lenLed {prog : Program} {w : World} {A : Around} {E : Value → Shared → Prop} {s : Shared} {g : Heap} {L a : Addr} {news : List (Addr × Obj)} {vs : List Value} {n : Nat} {Q : Value → Shared → Prop} (N : News g L s.heap news) (ha : (a, W.listOf vs.toArray n) ∈ news) (hl : vs.length ≤ 1000)
    (h : ∀ t k, Q (.int (vs.length : Int) t) { s with toks := k }) : wpAny (model prog w) A (call (.builtin "len") [.ref a]) Q E s := by
  refine Calls.call_len_list (items := vs.toArray) ⟨_, (N _ ha).1, rfl, _, rfl⟩ (by simp; omega) ?_
  have e : ((vs.toArray.size : Nat) : Int) = (vs.length : Int) := by simp
  rw [e]; exact h _ _
theorem getM {w : World} {A : Around} {E : Value → Shared → Prop} {s : Shared} {d : Addr} {es : List (Int × Int)} {pl : Sem Bool} {Q : Value × List Value → Shared → Prop} (hd : IntD PR w s.heap d es) (h : Q (.builtin "dict.get", [.ref d]) s) : wpAny (MW w) A (getMethod (.ref d) "get" pl) Q E s := by
  obtain ⟨kvs, hm, _⟩ := hd
  exact getMethod_builtin (T := "dict") hm.typeIs PySem.F.plainAttrs_dict PySem.F.slot_dict_get PySem.F.type_dict_get hm.mapOf.noDict h
theorem getC {w : World} {A : Around} {E : Value → Shared → Prop} {s : Shared} {d : Addr} {es : List (Int × Int)} {k n : Int} {t u : Tok} {Q : Value → Shared → Prop} (hs : (d == sysModules) = false) (hd : IntD PR w s.heap d es)
    (h : ∀ t' k', Q (.int ((ilook es k).getD n) t') { s with toks := k' }) : wpAny (MW w) A (call (.builtin "dict.get") [.ref d, .int k t, .int n u]) Q E s := by
  obtain ⟨kvs, hm, hiv⟩ := hd
  refine call_meetsIn PySem.F.slot_dict_get hm.typeIs PySem.F.entry_dict_get (PySem.F.args_dict_get_3 _ _ _) (meets_dict_get_default (intKind PR w) d (k := k) (by simp [intKind, Value.isInt]) hs _) ⟨valueAt kvs, hm.mapOf, ?_⟩
  rcases hiv.look k with ⟨h1, h2⟩ | ⟨n', t', h1, h2⟩
  · rw [h1]; rw [h2] at h; exact h _ _
  · rw [h1]; rw [h2] at h; exact h _ _
noncomputable abbrev Ch := List Int × Int
inductive CHs (led : List (Addr × Obj)) : List Value → List Ch → Prop
  | nil : CHs led [] []
  | cons (t kl : Addr) (ls : List Value) (nl : Nat) (tc : Tok) (c : Ch) {vs : List Value} {cs : List Ch} (h1 : (t, ({ cls := .type "tuple", data := .seq #[.ref kl, .int c.2 tc] } : Obj)) ∈ led) (h2 : (kl, W.listOf ls.toArray nl) ∈ led) (h3 : IntsAre ls c.1) : CHs led vs cs → CHs led (.ref t :: vs) (c :: cs)
theorem CHs.mono {led led' : List (Addr × Obj)} (k : ∀ p ∈ led, p ∈ led') {vs : List Value} {cs : List Ch} (x : CHs led vs cs) : CHs led' vs cs := by
  induction x with
  | nil => exact .nil
  | cons t kl ls nl tc c h1 h2 h3 _ ih => exact .cons t kl ls nl tc c (k _ h1) (k _ h2) h3 ih
theorem CHs.len {led : List (Addr × Obj)} {vs : List Value} {cs : List Ch} (x : CHs led vs cs) : vs.length = cs.length := by induction x <;> simp_all
theorem CHs.app {led : List (Addr × Obj)} {vs vs' : List Value} {cs cs' : List Ch} (x : CHs led vs cs) (y : CHs led vs' cs') : CHs led (vs ++ vs') (cs ++ cs') := by
  induction x with
  | nil => exact y
  | cons t kl ls nl tc c h1 h2 h3 _ ih => exact .cons t kl ls nl tc c h1 h2 h3 ih
theorem CHs.get {led : List (Addr × Obj)} {vs : List Value} {cs : List Ch} (x : CHs led vs cs) : ∀ {i : Nat} {v : Value}, vs[i]? = some v → ∃ t kl ls nl tc c, v = .ref t ∧ cs[i]? = some c ∧ (t, ({ cls := .type "tuple", data := .seq #[.ref kl, .int c.2 tc] } : Obj)) ∈ led ∧ (kl, W.listOf ls.toArray nl) ∈ led ∧ IntsAre ls c.1 := by
  induction x with
  | nil => intro i v h; simp at h
  | cons t kl ls nl tc c h1 h2 h3 _ ih =>
    intro i v h
    cases i with
    | zero => simp at h; subst h; exact ⟨t, kl, ls, nl, tc, c, rfl, rfl, h1, h2, h3⟩
    | succ i => simpa using ih (by simpa using h)
noncomputable def chStep (u k : Int) (acc : List Ch) (c : Ch) : List Ch := if (c.1.any fun x => x == u) = true then acc ++ [(c.1 ++ [k], c.2), (c.1, c.2 + 1)] else acc ++ [c]
theorem chStep_in {u k : Int} {acc : List Ch} {c : Ch} (h : (c.1.any fun x => x == u) = true) : chStep u k acc c = acc ++ [(c.1 ++ [k], c.2), (c.1, c.2 + 1)] := by
  unfold chStep; rw [if_pos h]
theorem chStep_out {u k : Int} {acc : List Ch} {c : Ch} (h : (c.1.any fun x => x == u) = false) : chStep u k acc c = acc ++ [c] := by
  unfold chStep; rw [if_neg (by rw [h]; decide)]
noncomputable def chAll (ups : List Int) (n : Nat) : List Ch := (List.range n).foldl (fun cs i => cs.foldl (chStep (ups.getD (i + 1) 0) ((i + 1 : Nat) : Int)) []) [([0], 0)]
theorem chFold_len {u k : Int} : ∀ (l acc : List Ch), (l.foldl (chStep u k) acc).length ≤ acc.length + 2 * l.length
  | [], acc => by simp
  | c :: l, acc => by
    have h := chFold_len (u := u) (k := k) l (chStep u k acc c)
    have h2 : (chStep u k acc c).length ≤ acc.length + 2 := by unfold chStep; split <;> simp
    simp only [List.foldl_cons, List.length_cons]; omega
theorem chAll_succ (ups : List Int) (i : Nat) : chAll ups (i + 1) = (chAll ups i).foldl (chStep (ups.getD (i + 1) 0) ((i + 1 : Nat) : Int)) [] := by
  unfold chAll; rw [List.range_succ, List.foldl_append]; rfl
theorem chAll_len (ups : List Int) : ∀ i, (chAll ups i).length ≤ 2 ^ i
  | 0 => by simp [chAll]
  | i + 1 => by
    rw [chAll_succ]
    have h := chFold_len (u := ups.getD (i + 1) 0) (k := ((i + 1 : Nat) : Int)) (chAll ups i) []
    have h2 := chAll_len ups i
    simp only [List.length_nil] at h
    rw [Nat.pow_succ]; omega
theorem chFold_kept {u k : Int} {n : Nat} : ∀ (l acc : List Ch), (∀ c ∈ l, c.1.length ≤ n) → (∀ c ∈ acc, c.1.length ≤ n + 1) → ∀ c ∈ l.foldl (chStep u k) acc, c.1.length ≤ n + 1
  | [], acc, _, h2 => h2
  | c :: l, acc, h1, h2 => by
    rw [List.foldl_cons]
    refine chFold_kept l _ (fun c' h => h1 c' (.tail _ h)) ?_
    have hc := h1 c (.head _)
    intro c' h
    unfold chStep at h
    split at h
    · rcases List.mem_append.mp h with h | h
      · exact h2 c' h
      · simp only [List.mem_cons, List.not_mem_nil, or_false] at h
        rcases h with rfl | rfl
        · simp only [List.length_append, List.length_singleton]; omega
        · exact Nat.le_succ_of_le hc
    · rcases List.mem_append.mp h with h | h
      · exact h2 c' h
      · rw [List.mem_singleton.mp h]; exact Nat.le_succ_of_le hc
theorem chAll_kept (ups : List Int) : ∀ i, ∀ c ∈ chAll ups i, c.1.length ≤ i + 1
  | 0 => by intro c h; simp [chAll] at h; subst h; simp
  | i + 1 => by rw [chAll_succ]; exact chFold_kept _ _ (chAll_kept ups i) (by simp)
theorem CHs.len2 {led : List (Addr × Obj)} {vs : List Value} {cs : List Ch} (x : CHs led vs cs) : vs.length = cs.length := x.len
noncomputable def chKey (c : Ch) : Int := 16 * ((c.1.length : Int) - 1) + c.2
noncomputable def cntStep (es : List (Int × Int)) (c : Ch) : List (Int × Int) := iput es (chKey c) ((ilook es (chKey c)).getD 0 + 1)
theorem fold_lenC : ∀ (l : List Ch) (a : List (Int × Int)), (l.foldl cntStep a).length ≤ a.length + l.length
  | [], a => by simp
  | c :: l, a => by
    have h := fold_lenC l (cntStep a c)
    have h2 : (cntStep a c).length ≤ a.length + 1 := iput_len _ _ _
    simp only [List.foldl_cons, List.length_cons]; omega
noncomputable def prunE (ups : List Int) : List (Int × Int) := (chAll ups 6).foldl cntStep []
set_option maxHeartbeats 4000000
theorem c_prun {w : World} {dp un : Nat} {fr : Option (List Env)} {gd : Option (List Code)} {s : Shared} {Q E : Value → Shared → Prop} {U : Addr} {us : List Value} {ups : List Int} {n : Nat}
    (C : Cx w s.heap) (hd : dp + 5 < recursionLimit) (hu : un + 50 < cLine) (hU : s.heap.get? U = some (W.listOf us.toArray n)) (iu : IntsAre us ups) (hl : ups.length = 7)
    (ret : ∀ r h' tk', Sub s.heap h' → s.heap.get? r = none → (r == sysModules) = false → IntD PR w h' r (prunE ups) → Q (.ref r) { s with heap := h', toks := tk' }) :
    wpAny (MW w) (arA dp un fr gd) (call (.ref 276) [.ref U]) Q E s := by
  obtain ⟨mean, mg, mb, Tp⟩ := id C.t
  refine enter0 [(Str.ofString "ups", .ref U)] C (by omega) rfl rfl rfl rfl fun h₁ F X => ?_
  have N : News s.heap s.heap.objs.size h₁ [] := News.nil
  dsimp only [List.length_cons, List.length_nil]
  unfold MW
  show wpAny _ _ (execs [bs 19 0, bs 19 1, bs 19 2, bs 19 3, bs 19 4] _) _ _ _
  revert X; k_fill; intro X
  k_steps
  conv in bs 19 0 => whnf
  k_steps
  rename_i tk0 kl0 h2 lt2 t0 h3 lt3 ch0 h4 lt4 h5 F5 N5
  have A5 : Ap [(ch0, W.listOf #[Value.ref t0] 0), (t0, { cls := Value.type "tuple", data := Data.seq #[Value.ref kl0, Value.int 0 (tk0 + 1)] }), (kl0, W.listOf #[Value.int 0 tk0] 0)] := by
    simp only [Ap, List.map_cons, List.map_nil, List.nodup_cons, List.mem_cons, List.not_mem_nil, or_false, not_or, List.nodup_nil, and_true, not_false_eq_true]
    exact ⟨⟨Nat.ne_of_gt lt4.1, Nat.ne_of_gt lt4.2⟩, Nat.ne_of_gt lt3⟩
  conv in bs 19 1 => whnf
  refine wpAny_For ?_ (by intro _; rfl)
  k_steps
  rename_i tk1 h6 tk2 ta tb tc hr F6 N6 k6
  refine forRange (n := 6) (fun i m' news' => ∃ ch vs n1 tail, news' = (ch, W.listOf vs.toArray n1) :: tail ∧ Ap news' ∧ CHs tail vs (chAll ups i) ∧ m' (Str.ofString "choices") = some (.ref ch) ∧ m' (Str.ofString "ups") = some (.ref U)) rfl hr (by decide) (by decide) F6 N6
    ⟨ch0, [Value.ref t0], 0, _, rfl, A5, .cons t0 kl0 [Value.int 0 tk0] 0 _ ([0], 0) (.head _) (.tail _ (.head _)) (.cons _ _ .nil) .nil, rfl, rfl⟩ ?_ ?_
  · rintro I i u m₁ news₁ oit ⟨H8, g1, g2, g3, g4⟩ hi ⟨ch, vs, n1, tail, rfl, ap, hch, hm1, hm2⟩ hne ⟨h8, tk8, e8⟩ F8 N8
    cases e8
    have e1i : (1 : Int) + (i : Int) = ((i + 1 : Nat) : Int) := by omega
    rw [e1i]
    have hui : ups[i + 1]? = some (ups.getD (i + 1) 0) := by rw [List.getD_eq_getElem?_getD, List.getElem?_eq_getElem (by omega)]; rfl
    have hi1000 : i + 1 < 1000 := by omega
    dsimp only
    show wpAny _ _ _ (fun _ s₂ => wpAny _ _ (execs [bl 19 1 0, bl 19 1 1, bl 19 1 2] _) _ _ s₂) _ _
    refine hideF fun P hP => ?_
    k_steps
    conv in bl 19 1 0 => whnf
    k_steps
    rename_i h9 tk9 lon h10 lt10 h11 F11 N11
    have A11 : Ap ((lon, W.listOf #[] 0) :: (I, oit) :: (ch, W.listOf vs.toArray n1) :: tail) := (ap.cons hne).cons fun p hp => by
      rcases List.mem_cons.mp hp with rfl | hp
      · exact Nat.ne_of_lt lt10.1
      · rcases List.mem_cons.mp hp with rfl | hp
        · exact Nat.ne_of_lt lt10.2.1
        · exact Nat.ne_of_lt (allLt lt10.2.2 p hp)
    generalize ups.getD (i + 1) 0 = uv at hui
    conv in bl 19 1 1 => whnf
    refine wpAny_For ?_ (by intro _; rfl)
    refine nameX_L (cl := []) F11 hm1 ?_
    refine forListT (vs := vs.toArray) (fun j m' news' => ∃ vs2 n2 tail2, news' = (lon, W.listOf vs2.toArray n2) :: (I, oit) :: (ch, W.listOf vs.toArray n1) :: tail2 ∧ Ap news' ∧ (∀ p ∈ tail, p ∈ tail2) ∧ CHs tail2 vs2 (((chAll ups i).take j).foldl (chStep uv ((i + 1 : Nat) : Int)) []) ∧
        m' (Str.ofString "choices") = some (.ref ch) ∧ m' (Str.ofString "ups") = some (.ref U) ∧ m' (Str.ofString "longer") = some (.ref lon) ∧ (∃ tk, m' (Str.ofString "k") = some (.int ((i + 1 : Nat) : Int) tk))) rfl F11 N11 ⟨_, (N11 _ (.tail _ (.tail _ (.head _)))).1, rfl, _, rfl⟩ ?_
      ⟨[], 0, tail, rfl, A11, fun p h => h, .nil, hm1, hm2, rfl, _, rfl⟩ ?_ ?_
    · rintro j m' news' h' ⟨vs2, n2, tail2, rfl, _⟩ F' N'
      exact ⟨_, (N' _ (.tail _ (.tail _ (.head _)))).1, rfl, _, rfl⟩
    · rintro I2 j v m₂ news₂ oit2 ⟨H12, g11, g12, g13, g14⟩ hv ⟨vs2, n2, tail2, rfl, ap2, hsub, hch2, hm1, hm2, hm3, tkk, hm4⟩ hne2 ⟨h12, tk12, e12⟩ F12 N12
      cases e12
      obtain ⟨t, kl, ls, nl, tc, c, rfl, hc, ht1, ht2, hls⟩ := hch.get (by simpa using hv)
      have ht1' := hsub _ ht1
      have ht2' := hsub _ ht2
      refine assignPair (x := Str.ofString "kept") rfl ⟨_, (N12 _ (.tail _ (.tail _ (.tail _ (.tail _ ht1'))))).1, rfl, _, rfl⟩ F12 N12 fun h13 tk13 F13 N13 => ?_
      have hmk : (kl, W.listOf ls.toArray nl) ∈ ((I2, oit2) :: (lon, W.listOf vs2.toArray n2) :: (I, oit) :: (ch, W.listOf vs.toArray n1) :: tail2) := .tail _ (.tail _ (.tail _ (.tail _ ht2')))
      dsimp only
      refine hide0 fun P2 hP2 => ?_
      k_steps
      refine inLed N13 hmk hls ?_
      have hclen : (chAll ups i).length ≤ 32 := Nat.le_trans (chAll_len ups i) (Nat.le_trans (Nat.pow_le_pow_right (by decide) (show i ≤ 5 by omega)) (by decide))
      have hfl2 : vs2.length ≤ 900 := by
        have h1 := hch2.len
        have h2 := chFold_len (u := uv) (k := ((i + 1 : Nat) : Int)) ((chAll ups i).take j) []
        rw [List.length_take, List.length_nil] at h2
        omega
      have hlsl : ls.length ≤ 900 := by
        have h1 := ints_len hls
        have h2 := chAll_kept ups i c (List.mem_of_getElem? hc)
        omega
      have apI2 := ap2.cons hne2 (o := oit2)
      k_steps
      · rename_i tn cin kn h14 F14 N14 lt14
        have A14 : Ap ((kn, W.listOf #[Value.int ((i + 1 : Nat) : Int) tkk] 0) :: (I2, oit2) :: (lon, W.listOf vs2.toArray n2) :: (I, oit) :: (ch, W.listOf vs.toArray n1) :: tail2) := apI2.cons fun p hp => by
          rcases List.mem_cons.mp hp with rfl | hp
          · exact Nat.ne_of_lt lt14.1
          · rcases List.mem_cons.mp hp with rfl | hp
            · exact Nat.ne_of_lt lt14.2.1
            · rcases List.mem_cons.mp hp with rfl | hp
              · exact Nat.ne_of_lt lt14.2.2.1
              · rcases List.mem_cons.mp hp with rfl | hp
                · exact Nat.ne_of_lt lt14.2.2.2.1
                · exact Nat.ne_of_lt (allLt lt14.2.2.2.2 p hp)
        refine addLed (vs := ls) (ws := [Value.int ((i + 1 : Nat) : Int) tkk]) F14 N14 A14 (.tail _ hmk) (.head _) (by simp; omega) fun k2 h15 F15 N15 A15 lt15 => ?_
        dsimp only
        k_steps
        rename_i t2 h16 F16 N16 lt16
        have A16 : Ap ((t2, { cls := Value.type "tuple", data := Data.seq #[Value.ref k2, Value.int c.snd tc] }) :: (k2, W.listOf (ls ++ [Value.int ((i + 1 : Nat) : Int) tkk]).toArray 0) :: (kn, W.listOf #[Value.int ((i + 1 : Nat) : Int) tkk] 0) :: (I2, oit2) :: (lon, W.listOf vs2.toArray n2) :: (I, oit) :: (ch, W.listOf vs.toArray n1) :: tail2) :=
          A15.cons fun p hp => Nat.ne_of_lt (allLt (l := (k2, W.listOf (ls ++ [Value.int ((i + 1 : Nat) : Int) tkk]).toArray 0) :: (kn, W.listOf #[Value.int ((i + 1 : Nat) : Int) tkk] 0) :: (I2, oit2) :: (lon, W.listOf vs2.toArray n2) :: (I, oit) :: (ch, W.listOf vs.toArray n1) :: tail2) lt16 p hp)
        refine ledAppend (pre := [(t2, { cls := Value.type "tuple", data := Data.seq #[Value.ref k2, Value.int c.snd tc] }), (k2, W.listOf (ls ++ [Value.int ((i + 1 : Nat) : Int) tkk]).toArray 0), (kn, W.listOf #[Value.int ((i + 1 : Nat) : Int) tkk] 0), (I2, oit2)]) F16 N16 A16 (by omega) fun h17 F17 N17 A17 => ?_
        dsimp only
        k_steps
        rename_i t3 h18 F18 N18 lt18
        have A18 : Ap ((t3, { cls := Value.type "tuple", data := Data.seq #[Value.ref kl, Value.int (c.snd + 1) (tk13 + 1)] }) :: (t2, { cls := Value.type "tuple", data := Data.seq #[Value.ref k2, Value.int c.snd tc] }) :: (k2, W.listOf (ls ++ [Value.int ((i + 1 : Nat) : Int) tkk]).toArray 0) :: (kn, W.listOf #[Value.int ((i + 1 : Nat) : Int) tkk] 0) :: (I2, oit2) :: (lon, W.listOf (vs2 ++ [Value.ref t2]).toArray (n2 + 1)) :: (I, oit) :: (ch, W.listOf vs.toArray n1) :: tail2) :=
          A17.cons fun p hp => Nat.ne_of_lt (lt18 p hp)
        refine ledAppend (pre := [(t3, { cls := Value.type "tuple", data := Data.seq #[Value.ref kl, Value.int (c.snd + 1) (tk13 + 1)] }), (t2, { cls := Value.type "tuple", data := Data.seq #[Value.ref k2, Value.int c.snd tc] }), (k2, W.listOf (ls ++ [Value.int ((i + 1 : Nat) : Int) tkk]).toArray 0), (kn, W.listOf #[Value.int ((i + 1 : Nat) : Int) tkk] 0), (I2, oit2)]) F18 N18 A18 (by rw [List.length_append, List.length_singleton]; omega) fun h19 F19 N19 A19 => ?_
        dsimp only
        k_steps
        have N20 := news_swp (A := [(t3, { cls := Value.type "tuple", data := Data.seq #[Value.ref kl, Value.int (c.snd + 1) (tk13 + 1)] }), (t2, { cls := Value.type "tuple", data := Data.seq #[Value.ref k2, Value.int c.snd tc] }), (k2, W.listOf (ls ++ [Value.int ((i + 1 : Nat) : Int) tkk]).toArray 0), (kn, W.listOf #[Value.int ((i + 1 : Nat) : Int) tkk] 0)]) (B := [(I2, oit2), (lon, W.listOf ((vs2 ++ [Value.ref t2]) ++ [Value.ref t3]).toArray (n2 + 1 + 1)), (I, oit), (ch, W.listOf vs.toArray n1)]) (T := tail2) N19
        have A20 := Ap.swp (A := [(t3, { cls := Value.type "tuple", data := Data.seq #[Value.ref kl, Value.int (c.snd + 1) (tk13 + 1)] }), (t2, { cls := Value.type "tuple", data := Data.seq #[Value.ref k2, Value.int c.snd tc] }), (k2, W.listOf (ls ++ [Value.int ((i + 1 : Nat) : Int) tkk]).toArray 0), (kn, W.listOf #[Value.int ((i + 1 : Nat) : Int) tkk] 0)]) (B := [(I2, oit2), (lon, W.listOf ((vs2 ++ [Value.ref t2]) ++ [Value.ref t3]).toArray (n2 + 1 + 1)), (I, oit), (ch, W.listOf vs.toArray n1)]) (T := tail2) A19
        refine hP2 _ _ ⟨_, _, _, _, rfl, F19, N20, A20.head, (vs2 ++ [Value.ref t2]) ++ [Value.ref t3], n2 + 1 + 1, (t3, { cls := Value.type "tuple", data := Data.seq #[Value.ref kl, Value.int (c.snd + 1) (tk13 + 1)] }) :: (t2, { cls := Value.type "tuple", data := Data.seq #[Value.ref k2, Value.int c.snd tc] }) :: (k2, W.listOf (ls ++ [Value.int ((i + 1 : Nat) : Int) tkk]).toArray 0) :: (kn, W.listOf #[Value.int ((i + 1 : Nat) : Int) tkk] 0) :: tail2, rfl, A20.tail, fun p hp => .tail _ (.tail _ (.tail _ (.tail _ (hsub p hp)))), ?_, hm1, hm2, hm3, tkk, hm4⟩
        rw [fold_take _ _ hc, chStep_in cin, List.append_assoc]
        exact (hch2.mono fun p hp => .tail _ (.tail _ (.tail _ (.tail _ hp)))).app (.cons t2 k2 (ls ++ [Value.int ((i + 1 : Nat) : Int) tkk]) 0 tc (c.1 ++ [((i + 1 : Nat) : Int)], c.2) (.tail _ (.head _)) (.tail _ (.tail _ (.head _))) (ints_app hls (.cons _ _ .nil)) (.cons t3 kl ls nl _ (c.1, c.2 + 1) (.head _) (.tail _ (.tail _ (.tail _ (.tail _ ht2')))) hls .nil))
      · rename_i hb t2 h14 F14 N14 lt14
        have A14 : Ap ((t2, { cls := Value.type "tuple", data := Data.seq #[Value.ref kl, Value.int c.snd tc] }) :: (I2, oit2) :: (lon, W.listOf vs2.toArray n2) :: (I, oit) :: (ch, W.listOf vs.toArray n1) :: tail2) :=
          apI2.cons fun p hp => Nat.ne_of_lt (allLt (l := (I2, oit2) :: (lon, W.listOf vs2.toArray n2) :: (I, oit) :: (ch, W.listOf vs.toArray n1) :: tail2) lt14 p hp)
        refine ledAppend (pre := [(t2, { cls := Value.type "tuple", data := Data.seq #[Value.ref kl, Value.int c.snd tc] }), (I2, oit2)]) F14 N14 A14 (by omega) fun h15 F15 N15 A15 => ?_
        dsimp only
        k_steps
        have N16 := news_swp (A := [(t2, { cls := Value.type "tuple", data := Data.seq #[Value.ref kl, Value.int c.snd tc] })]) (B := [(I2, oit2), (lon, W.listOf (vs2 ++ [Value.ref t2]).toArray (n2 + 1)), (I, oit), (ch, W.listOf vs.toArray n1)]) (T := tail2) N15
        have A16 := Ap.swp (A := [(t2, { cls := Value.type "tuple", data := Data.seq #[Value.ref kl, Value.int c.snd tc] })]) (B := [(I2, oit2), (lon, W.listOf (vs2 ++ [Value.ref t2]).toArray (n2 + 1)), (I, oit), (ch, W.listOf vs.toArray n1)]) (T := tail2) A15
        refine hP2 _ _ ⟨_, _, _, _, rfl, F15, N16, A16.head, vs2 ++ [Value.ref t2], n2 + 1, (t2, { cls := Value.type "tuple", data := Data.seq #[Value.ref kl, Value.int c.snd tc] }) :: tail2, rfl, A16.tail, fun p hp => .tail _ (hsub p hp), ?_, hm1, hm2, hm3, tkk, hm4⟩
        rw [fold_take _ _ hc, chStep_out hb]
        exact (hch2.mono fun p hp => .tail _ hp).app (.cons t2 kl ls nl tc c (.head _) (.tail _ ht2') hls .nil)
    · rintro h12 tk12 m12 news12 F12 N12 ⟨vs2, n2, tail2, rfl, ap2, hsub, hch2, hm1, hm2, hm3, tkk, hm4⟩
      rw [List.size_toArray, hch.len, List.take_length] at hch2
      dsimp only
      k_steps
      conv in bl 19 1 2 => whnf
      k_steps
      rename_i h13 F13 N13
      have N14 := news_swp (A := [(lon, W.listOf vs2.toArray n2)]) (B := [(I, oit)]) (T := (ch, W.listOf vs.toArray n1) :: tail2) N13
      have A14 := Ap.swp (A := [(lon, W.listOf vs2.toArray n2)]) (B := [(I, oit)]) (T := (ch, W.listOf vs.toArray n1) :: tail2) ap2
      refine hP _ _ ⟨_, _, _, _, rfl, F13, N14, A14.head, lon, vs2, n2, _, rfl, A14.tail, ?_, rfl, hm2⟩
      rw [chAll_succ]
      have huv : uv = ups.getD (i + 1) 0 := by rw [List.getD_eq_getElem?_getD, hui]; rfl
      rw [← huv]
      exact hch2.mono fun p hp => .tail _ hp
  · rintro h8 tk8 m8 news8 F8 N8 ⟨ch, vs, n1, tail, rfl, ap, hch, hm1, hm2⟩
    dsimp only
    k_steps
    conv in bs 19 2 => whnf
    k_steps
    rename_i d h9 od F9 N9 lod hsd fsd hid fid ltd h10 F10 N10
    have A10 : Ap ((d, od) :: (ch, W.listOf vs.toArray n1) :: tail) := ap.cons fun p hp => by
      rcases List.mem_cons.mp hp with rfl | hp
      · exact Nat.ne_of_lt ltd.1
      · exact Nat.ne_of_lt (allLt ltd.2 p hp)
    conv in bs 19 3 => whnf
    refine wpAny_For ?_ (by intro _; rfl)
    refine nameX_L (cl := []) F10 hm1 ?_
    refine forListT (vs := vs.toArray) (fun j m' news' => ∃ oD, news' = (d, oD) :: (ch, W.listOf vs.toArray n1) :: tail ∧ IsIntD PR w oD (((chAll ups 6).take j).foldl cntStep []) ∧ m' (Str.ofString "counts") = some (.ref d)) rfl F10 N10 ⟨_, (N10 _ (.tail _ (.head _))).1, rfl, _, rfl⟩ ?_
      ⟨od, rfl, ⟨[], hid, .nil⟩, rfl⟩ ?_ ?_
    · rintro j m' news' h' ⟨oD, rfl, _⟩ F' N'
      exact ⟨_, (N' _ (.tail _ (.head _))).1, rfl, _, rfl⟩
    · rintro I2 j v m₂ news₂ oit2 ⟨H12, g11, g12, g13, g14⟩ hv ⟨oD, rfl, hD, hm3⟩ hne2 ⟨h12, tk12, e12⟩ F12 N12
      cases e12
      obtain ⟨t, kl, ls, nl, tc, c, rfl, hc, ht1, ht2, hls⟩ := hch.get (by simpa using hv)
      refine assignPair (x := Str.ofString "kept") rfl ⟨_, (N12 _ (.tail _ (.tail _ (.tail _ ht1)))).1, rfl, _, rfl⟩ F12 N12 fun h13 tk13 F13 N13 => ?_
      have hmk : (kl, W.listOf ls.toArray nl) ∈ ((I2, oit2) :: (d, oD) :: (ch, W.listOf vs.toArray n1) :: tail) := .tail _ (.tail _ (.tail _ ht2))
      dsimp only
      refine hide0 fun P3 hP3 => ?_
      have hlsl : ls.length ≤ 900 := by
        have h1 := ints_len hls
        have h2 := chAll_kept ups 6 c (List.mem_of_getElem? hc)
        omega
      k_steps
      refine lenLed N13 hmk (by omega) fun tl kl2 => ?_
      dsimp only
      k_steps
      rename_i h15 F15 N15
      have hDd : IntD PR w h15 d _ := intD_iff.mpr ⟨oD, (N15 _ (.tail _ (.head _))).1, hD⟩
      refine getM hDd ?_
      k_steps
      refine getC lod hDd fun tg kg => ?_
      dsimp only
      k_steps
      obtain ⟨kvs, hdk, hiv⟩ := id hDd
      have hck : 16 * ((ls.length : Int) - 1) + c.2 = chKey c := by unfold chKey; rw [ints_len hls]
      have hkl : kvs.length ≤ sizeLine := by
        have h1 := hiv.len
        have h2 := fold_lenC ((chAll ups 6).take j) []
        have h3 := chAll_len ups 6
        rw [List.length_take, List.length_nil] at h2
        exact Nat.le_trans (show kvs.length ≤ 64 by omega) (by decide)
      rw [hck]
      have hkk : ∀ tq, (intKind PR w).is (chKey c) (.int (chKey c) tq) = true := fun tq => by simp [intKind, Value.isInt]
      refine wpAny_setItem_pairs (knd := intKind PR w) (hkk _) hdk (fun h16 hd16 hs16 => ?_) hkl
      obtain ⟨o16, ho16, hi16⟩ := Heap.dictOf_iff.mp hd16
      have A15 : Ap ((I2, oit2) :: (d, oD) :: (ch, W.listOf vs.toArray n1) :: tail) := (Ap.set (pre := []) A10).cons hne2
      obtain ⟨F16, N16⟩ := led_set (pre := [(I2, oit2)]) (post := (ch, W.listOf vs.toArray n1) :: tail) F15 N15 (Ap.left (pre := [(I2, oit2)]) A15) (Ap.right (pre := [(I2, oit2)]) A15) hs16 ho16
      have A16 : Ap ((I2, oit2) :: (d, o16) :: (ch, W.listOf vs.toArray n1) :: tail) := Ap.set (pre := [(I2, oit2)]) A15
      k_steps
      refine hP3 _ _ ⟨h16, _, _, _, rfl, F16, N16, A16.head, o16, rfl, ⟨_, hi16, ?_⟩, hm3⟩
      rw [fold_take _ _ hc]
      exact hiv.put (chKey c) _ _
    · rintro h12 tk12 m12 news12 F12 N12 ⟨oD, rfl, hD, hm3⟩
      rw [List.size_toArray, hch.len, List.take_length] at hD
      dsimp only
      k_steps
      conv in bs 19 4 => whnf
      k_steps
      exact ret d _ _ F12.keep (N12 (d, oD) (.head _)).2.2 lod (intD_iff.mpr ⟨oD, (N12 _ (.head _)).1, hD⟩)
end Mine
end
section
open PySem PySem.W PySem.Calls PyProof.Rows PySem.Spec
set_option Elab.async false
set_option linter.unusedVariables false
set_option maxRecDepth 100000
namespace Mine
noncomputable def insS (x : List Nat) : List (List Nat) → List (List Nat)
  | [] => [x]
  | y :: l => if ltCps y x = true then y :: insS x l else x :: y :: l
noncomputable def sortS (l : List (List Nat)) : List (List Nat) := l.foldr insS []
theorem insS_perm (x : List Nat) : ∀ l, (insS x l).Perm (x :: l)
  | [] => .refl _
  | y :: l => by
    unfold insS
    split
    · exact ((insS_perm x l).cons y).trans (List.Perm.swap x y l)
    · exact .refl _
theorem sortS_perm : ∀ l, (sortS l).Perm l
  | [] => .refl _
  | x :: l => (insS_perm x (sortS l)).trans ((sortS_perm l).cons x)
theorem insS_rises (x : List Nat) : ∀ l : List (List Nat), l.Pairwise (fun a b => a ≤ b) → (insS x l).Pairwise (fun a b => a ≤ b)
  | [], _ => by simp [insS]
  | y :: l, h => by
    unfold insS
    obtain ⟨h1, h2⟩ := List.pairwise_cons.mp h
    split
    · rename_i q
      rw [ltCps_eq, decide_eq_true_eq] at q
      refine List.pairwise_cons.mpr ⟨fun z hz => ?_, insS_rises x l h2⟩
      rcases List.mem_cons.mp ((insS_perm x l).mem_iff.mp hz) with rfl | hz
      · exact List.le_of_lt q
      · exact h1 z hz
    · rename_i q
      rw [ltCps_eq, decide_eq_true_eq] at q
      have hxy : x ≤ y := List.not_lt.mp q
      refine List.pairwise_cons.mpr ⟨fun z hz => ?_, h⟩
      rcases List.mem_cons.mp hz with rfl | hz
      · exact hxy
      · exact List.le_trans hxy (h1 z hz)
theorem sortS_rises : ∀ l, (sortS l).Pairwise (fun a b => a ≤ b)
  | [] => .nil
  | x :: l => insS_rises x _ (sortS_rises l)
theorem pair_of_rising : ∀ (p : Str) (l : List Str), risingS p l = true → ((p :: l).map fun x => x.cps.toList).Pairwise (fun a b => a ≤ b)
  | p, [], _ => by simp
  | p, x :: r, h => by
    have h' : (!ltCps x.cps.toList p.cps.toList && risingS x r) = true := h
    rw [Bool.and_eq_true, Bool.not_eq_true', ltCps_eq, decide_eq_false_iff_not] at h'
    have hpx : p.cps.toList ≤ x.cps.toList := List.not_lt.mp h'.1
    have ih := pair_of_rising x r h'.2
    rw [List.map_cons]
    refine List.pairwise_cons.mpr ⟨fun z hz => ?_, ih⟩
    rw [List.map_cons] at hz ih
    rcases List.mem_cons.mp hz with rfl | hz
    · exact hpx
    · exact List.le_trans hpx ((List.pairwise_cons.mp ih).1 z hz)
noncomputable def cpsOf (ss : List Str) : List (List Nat) := ss.map fun x => x.cps.toList
theorem sorted_eq {ss ss' : List Str} (hp : ss'.Perm ss) (hs : sortedS ss' = true) : cpsOf ss' = sortS (cpsOf ss) := by
  refine List.Perm.eq_of_pairwise (le := fun a b => a ≤ b) (fun a b _ _ h1 h2 => List.le_antisymm h1 h2) ?_ (sortS_rises _) ((hp.map _).trans (sortS_perm _).symm)
  cases ss' with
  | nil => exact .nil
  | cons p l => exact pair_of_rising p l hs
theorem sjoin_empty {e : Str} (he : e.cps = #[]) : ∀ ss : List Str, (Str.join e ss).cps.toList = (cpsOf ss).flatten
  | [] => rfl
  | [x] => by simp [Str.join, cpsOf]
  | x :: y :: r => by
    have ih := sjoin_empty he (y :: r)
    show (x ++ e ++ Str.join e (y :: r)).cps.toList = _
    rw [PySem.Str.cps_append, PySem.Str.cps_append, he, Array.append_empty, Array.toList_append, ih]
    rfl
theorem join_empty {e : Str} (he : e.cps = #[]) (ss : List Str) : (Txt.join e ss).cps.toList = (cpsOf ss).flatten := by
  unfold Txt.join
  rw [StrLaws.glued_eq_join]
  exact sjoin_empty he ss
end Mine
end
section
open PySem PySem.W PySem.Calls PyProof.Rows PySem.Spec
set_option Elab.async false
set_option linter.unusedVariables false
set_option maxRecDepth 100000
namespace Mine
open PyProof.Rows.LCg (NsObj ns_obj lst)
/-- a for loop over a range, any step -/
theorem forRangeC {prog : Program} {w : World} {A : Around} {s : Shared} {env : Env} {E : Value → Shared → Prop} {Q : Flow → Shared → Prop} {g : Heap} {r : Addr} {a b c : Int} {t₁ u₁ v₁ : Tok} {n : Nat} {x : Str} {px : Pos} {body : List Stmt} {m : Str → Option Value} {news : List (Addr × Obj)}
    (J : Nat → (Str → Option Value) → List (Addr × Obj) → Prop) (hh : A.handled = none) (hr : IsRange s.heap r a b c t₁ u₁ v₁) (hsm : Builtin.Range.small a b c = true) (hn : Builtin.Range.rangeSize a b c = ((n : Nat) : Int)) (F : Fr g env.locals s.heap m) (N : News g env.locals s.heap news)
    (h0 : J 0 m news)
    (turn : ∀ I i u m₁ news₁ oit s₁, i < n → J i m₁ news₁ → (∀ p ∈ news₁, p.1 ≠ I) → (∃ h tk, s₁ = { s with heap := h, toks := tk }) →
      Fr g env.locals s₁.heap m₁ → News g env.locals s₁.heap ((I, oit) :: news₁) →
      wpAny (model prog w) A (assign (.Name x px) env (.int (a + (i : Int) * c) u)) (fun _ s₂ => wpAny (model prog w) A (execs body env) (TurnPost g env.locals I oit (J (i + 1)) { s with heap := s.heap.push { cls := .type "range_iterator", data := .fields #[rawInt a, rawInt n, rawInt c] } } Q) (fun _ _ => False) s₂) (fun _ _ => False) s₁)
    (done : ∀ h' tk m' news', Fr g env.locals h' m' → News g env.locals h' news' → J n m' news' → Q .next { s with heap := h', toks := tk }) :
    wpAny (model prog w) A (pyIter (.ref r)) (fun it s₂ => codeAny (model prog w) A (.forLoop (.Name x px) it body [] env) (fun r s' => match r with | .ok f => Q f s' | .error e => cameBackBy (model prog w) A env (fun _ _ => False) e s') s₂) E s := by
  refine wpAny_pyIter_range hr hsm ?_
  rw [hn]
  obtain ⟨z1, z2, z3⟩ := fresh_it F N
  have kp := push_sub s.heap { cls := .type "range_iterator", data := .fields #[rawInt a, rawInt n, rawInt c] }
  refine forStep (Stepper.of (Walks.range hh s.heap.objs.size a c n) (fun b hb => by simpa using hb)) (ob := fun i o => o = { cls := .type "range_iterator", data := .fields #[rawInt (a + (i : Nat) * c), rawInt ((n : Int) - (i : Nat)), rawInt c] }) (Src := fun _ => True)
    (fun i h => ⟨fun a => ⟨⟨_, a, rfl⟩, trivial⟩, fun ⟨⟨o, a, b⟩, _⟩ => a.trans (congrArg some b)⟩) J (fr_sub F kp) (news_sub N kp) z1 z2 z3
    ?_ (fun i m' news' h' j _ n => trivial) h0
    (fun i v m₁ news₁ oit s₁ hi hP hJ hne ⟨h, tk, e⟩ => ?_) done
  · show Heap.get? _ _ = some _
    rw [Heap.get?_push_size _ rfl]; simp
  · obtain ⟨u, rfl⟩ := hP
    exact turn _ i u m₁ news₁ oit s₁ hi hJ hne ⟨h, tk, e⟩
/-- an item of a list of the ledger -/
theorem ledItem {prog : Program} {w : World} {A : Around} {E : Value → Shared → Prop} {s : Shared} {g : Heap} {L l : Addr} {news : List (Addr × Obj)} {vs : List Value} {n i : Nat} {v : Value} {u : Tok} {value slice : Expr} {Q : Value → Shared → Prop} (N : News g L s.heap news) (hl : (l, W.listOf vs.toArray n) ∈ news) (hk : vs[i]? = some v) (hsz : i < 1000)
    (h : Q v s)
    (hs : subscripted slice false (.ref l) (.int (i : Int) u) = operate [(.ref l), .int (i : Int) u] (getItem (.ref l) (.int (i : Int) u)) := by with_unfolding_all rfl) (hg : ∀ r, letTemporaryGo value (.ref l) r = pure () := by intro _; with_unfolding_all rfl) :
    wpAny (model prog w) A (subscriptTail value slice (.ref l) (.int (i : Int) u)) Q E s := by
  have hL : s.heap.IsList l vs.toArray := ⟨_, (N _ hl).1, rfl, _, rfl⟩
  exact subscriptTail_builtin hL.typeIs PySem.F.slot_list_getitem.lookup (wpAny_getItem_list hL (by omega) (by omega) (by simpa using hk) h) hs hg
local macro_rules | `(tactic| walk_at "subscriptTail Name Name ref int") => `(tactic| (k_here; (first | ((refine' rowItem ?F ?l ?i ?k ?z ?_; (case F => k_asm); (case l => assumption); (case i => assumption); (case k => assumption); (case z => assumption)); intro _) | (refine' ledItem ?N ?m ?k ?z ?_; (case N => k_asm); (case m => k_mem); (case k => assumption); (case z => assumption)))))
local macro_rules | `(tactic| walk_at "subscriptTail Name Subscript ref int") => `(tactic| (k_here; (refine' ledItem ?N ?m ?k ?z ?_; (case N => k_asm); (case m => k_mem); (case k => assumption); (case z => assumption))))
local macro_rules | `(tactic| walk_at "subscriptTail Name Constant ref int") => `(tactic| (k_here; (refine' ledItem (i := 0) ?N ?m ?k (by decide) ?_; (case N => k_asm); (case m => k_mem); (case k => assumption))))
local macro_rules | `(tactic| walk_at "call builtin:sorted") => `(tactic| fail)
local macro_rules | `(tactic| walk_at "call builtin:str.join") => `(tactic| fail)
local macro_rules | `(tactic| walk_at "eval Name") => `(tactic| (k_here; k_dflt (refine' nameX_L ?F ?v ?_ ?a ?b; (case F => k_asm); (case a => rfl); (case b => rfl); (case v => assumption); k_whole)))
/-- the lists of a form -/
inductive FL : List Value → List (Addr × Obj) → List (List (List Nat)) → Prop
  | nil : FL [] [] []
  | cons (a : Addr) (vs : List Value) (n : Nat) (ss : List Str) {rs : List Value} {fs : List (Addr × Obj)} {xs : List (List (List Nat))} (h : StrsAre vs ss) : FL rs fs xs → FL (.ref a :: rs) ((a, W.listOf vs.toArray n) :: fs) (cpsOf ss :: xs)
theorem FL.split {rs : List Value} {fs : List (Addr × Obj)} {xs : List (List (List Nat))} (x : FL rs fs xs) : ∀ {j : Nat}, j < xs.length → ∃ a pre vs n ss post, rs[j]? = some (.ref a) ∧ fs = pre ++ (a, W.listOf vs.toArray n) :: post ∧ StrsAre vs ss ∧ xs[j]? = some (cpsOf ss) ∧
    ∀ vs' n' ss', StrsAre vs' ss' → FL rs (pre ++ (a, W.listOf vs'.toArray n') :: post) (xs.set j (cpsOf ss')) := by
  induction x with
  | nil => intro j h; simp at h
  | cons a vs n ss h hx ih =>
    intro j hj
    cases j with
    | zero => exact ⟨a, [], vs, n, ss, _, rfl, rfl, h, rfl, fun vs' n' ss' h' => .cons a vs' n' ss' h' hx⟩
    | succ j =>
      obtain ⟨a', pre, vs', n', ss', post, h1, h2, h3, h4, h5⟩ := ih (j := j) (by simpa using hj)
      exact ⟨a', _ :: pre, vs', n', ss', post, by simpa using h1, by rw [h2]; rfl, h3, by simpa using h4, fun vs2 n2 ss2 q => .cons a vs n ss h (h5 vs2 n2 ss2 q)⟩
noncomputable def formText (xs : List (List Nat)) : List Nat := 40 :: (sortS xs).flatten ++ [41]
noncomputable def formStep (ups : List Nat) (xs : List (List (List Nat))) (i : Nat) : List (List (List Nat)) :=
  let k := 6 - i
  let u := ups.getD k 0
  xs.set u ((xs.getD u []) ++ [formText (xs.getD k [])])
noncomputable def formE (ups : List Nat) : List (List Nat) := sortS (((List.range 6).foldl (formStep ups) [[], [], [], [], [], [], []]).getD 0 [])
theorem form_len (ups : List Nat) : ∀ i, ((List.range i).foldl (formStep ups) [[], [], [], [], [], [], []]).length = 7
  | 0 => rfl
  | i + 1 => by
    rw [List.range_succ, List.foldl_append]
    show (formStep ups _ i).length = 7
    unfold formStep
    simp only [List.length_set]
    exact form_len ups i
noncomputable def wtL (l : List (List Nat)) : Nat := (l.map List.length).sum + l.length
noncomputable def wtB : Nat → Nat | 0 => 0 | i + 1 => 2 * wtB i + 3
theorem wtL_app (a b : List (List Nat)) : wtL (a ++ b) = wtL a + wtL b := by unfold wtL; simp; omega
theorem wtL_perm {a b : List (List Nat)} (h : a.Perm b) : wtL a = wtL b := by unfold wtL; rw [(h.map List.length).sum_nat, h.length_eq]
theorem flat_le (l : List (List Nat)) : l.flatten.length ≤ wtL l := by unfold wtL; rw [List.length_flatten]; omega
theorem form_wt (ups : List Nat) : ∀ i, i ≤ 6 → ∀ l ∈ (List.range i).foldl (formStep ups) [[], [], [], [], [], [], []], wtL l ≤ wtB i
  | 0, _ => by intro l hl; simp at hl; subst hl; decide
  | i + 1, hi => by
    rw [List.range_succ, List.foldl_append]
    have ih := form_wt ups i (by omega)
    generalize (List.range i).foldl (formStep ups) [[], [], [], [], [], [], []] = xs at ih
    have ihd : ∀ k, wtL (xs.getD k []) ≤ wtB i := fun k => by
      rw [List.getD_eq_getElem?_getD]
      cases hk : xs[k]? with
      | none => exact Nat.zero_le _
      | some l => exact ih l (List.mem_of_getElem? hk)
    show ∀ l ∈ formStep ups xs i, _
    unfold formStep
    intro l hl
    have e : wtB (i + 1) = 2 * wtB i + 3 := rfl
    rcases List.mem_or_eq_of_mem_set hl with hl | rfl
    · have := ih l hl; omega
    · rw [wtL_app]
      have h1 := ihd (ups.getD (6 - i) 0)
      have h2 := ihd (6 - i)
      have h3 := flat_le (sortS (xs.getD (6 - i) []))
      rw [wtL_perm (sortS_perm _)] at h3
      have h4 : wtL [formText (xs.getD (6 - i) [])] = (sortS (xs.getD (6 - i) [])).flatten.length + 3 := by simp [wtL, formText]
      omega
theorem form_cnt (ups : List Nat) : ∀ i, ∀ l ∈ (List.range i).foldl (formStep ups) [[], [], [], [], [], [], []], l.length ≤ i
  | 0 => by intro l hl; simp at hl; subst hl; decide
  | i + 1 => by
    rw [List.range_succ, List.foldl_append]
    have ih := form_cnt ups i
    generalize (List.range i).foldl (formStep ups) [[], [], [], [], [], [], []] = xs at ih
    have ihd : ∀ k, (xs.getD k []).length ≤ i := fun k => by
      rw [List.getD_eq_getElem?_getD]
      cases hk : xs[k]? with
      | none => exact Nat.zero_le _
      | some l => exact ih l (List.mem_of_getElem? hk)
    show ∀ l ∈ formStep ups xs i, _
    unfold formStep
    intro l hl
    rcases List.mem_or_eq_of_mem_set hl with hl | rfl
    · have := ih l hl; omega
    · have := ihd (ups.getD (6 - i) 0)
      rw [List.length_append, List.length_singleton]; omega
theorem cps_sum (ss : List Str) : (ss.map (·.length)).sum + ss.length = wtL (cpsOf ss) := by
  unfold wtL cpsOf
  rw [List.map_map, List.length_map]
  have e : (List.length ∘ fun x : Str => x.cps.toList) = (·.length) := funext fun x => by simp [Str.length]
  rw [e]
theorem news_perm {g h : Heap} {L : Addr} {a b : List (Addr × Obj)} (p : a.Perm b) (x : News g L h a) : News g L h b := fun q hq => x q (p.mem_iff.mpr hq)
theorem Ap.perm {a b : List (Addr × Obj)} (p : a.Perm b) (x : Ap a) : Ap b := ((p.map (fun p : Addr × Obj => p.1)).nodup_iff).mp x
theorem led_form {D I f a : Addr × Obj} {pre post junk : List (Addr × Obj)} : ((D :: I :: f :: pre) ++ a :: (post ++ junk)).Perm (I :: f :: ((pre ++ a :: post) ++ (D :: junk))) := by
  have e : ((D :: I :: f :: pre) ++ a :: (post ++ junk)) = D :: ((I :: f :: (pre ++ a :: post)) ++ junk) := by simp
  rw [e]
  exact (List.perm_middle (l₁ := I :: f :: (pre ++ a :: post))).symm
theorem wtB_le : ∀ i, i ≤ 6 → wtB i ≤ 200 := by decide
local macro_rules | `(tactic| walk_at "getMethod ref") => `(tactic| (k_here; (refine' listMethod_K ?N ?m PySem.F.slot_list_append PySem.F.type_list_append ?_; (case N => k_asm); (case m => assumption))))
local macro_rules | `(tactic| walk_at "callWith") => `(tactic| with_reducible refine callWith_method1 ?_)
set_option maxHeartbeats 4000000
theorem c_form {w : World} {dp un : Nat} {fr : Option (List Env)} {gd : Option (List Code)} {s : Shared} {Q E : Value → Shared → Prop} {U : Addr} {us : List Value} {ius : List Int} {ups : List Nat} {n : Nat}
    (C : Cx w s.heap) (hd : dp + 5 < recursionLimit) (hu : un + 50 < cLine) (hU : s.heap.get? U = some (W.listOf us.toArray n)) (iu : IntsAre us ius) (hix : ∀ k, 1 ≤ k → k < 7 → ius[k]? = some ((ups.getD k 0 : Nat) : Int)) (hlt : ∀ k, 1 ≤ k → k < 7 → ups.getD k 0 < 7)
    (ret : ∀ r vs ss n h' tk', Sub s.heap h' → s.heap.get? r = none → h'.get? r = some (seqObj "list" vs n) → StrsAre vs.toList ss → cpsOf ss = formE ups → Q (.ref r) { s with heap := h', toks := tk' }) :
    wpAny (MW w) (arA dp un fr gd) (call (.ref 283) [.ref U]) Q E s := by
  obtain ⟨mean, mg, mb, Tp⟩ := id C.t
  refine enter0 [(Str.ofString "ups", .ref U)] C (by omega) rfl rfl rfl rfl fun h₁ F X => ?_
  have N : News s.heap s.heap.objs.size h₁ [] := News.nil
  dsimp only [List.length_cons, List.length_nil]
  unfold MW
  show wpAny _ _ (execs [bs 20 0, bs 20 1, bs 20 2] _) _ _ _
  revert X; k_fill; intro X
  k_steps
  conv in bs 20 0 => whnf
  k_steps
  conv in bs 20 1 => whnf
  refine wpAny_For ?_ (by intro _; rfl)
  k_steps
  rename_i tk0 f0 h2 _ f1 h3 lt1 f2 h4 lt2 f3 h5 lt3 f4 h6 lt4 f5 h7 lt5 f6 h8 lt6 fo h9 lt7 h10 F10 N10 h11 tk11 ta tb tc hr F11 N11 k11
  have A11 : Ap [(fo, W.listOf #[Value.ref f0, Value.ref f1, Value.ref f2, Value.ref f3, Value.ref f4, Value.ref f5, Value.ref f6] 0), (f6, W.listOf #[] 0), (f5, W.listOf #[] 0), (f4, W.listOf #[] 0), (f3, W.listOf #[] 0), (f2, W.listOf #[] 0), (f1, W.listOf #[] 0), (f0, W.listOf #[] 0)] := by
    simp only [Ap, List.map_cons, List.map_nil, List.nodup_cons, List.mem_cons, List.not_mem_nil, or_false, not_or, List.nodup_nil, and_true, not_false_eq_true]
    refine ⟨⟨?_, ?_, ?_, ?_, ?_, ?_, ?_⟩, ⟨?_, ?_, ?_, ?_, ?_, ?_⟩, ⟨?_, ?_, ?_, ?_, ?_⟩, ⟨?_, ?_, ?_, ?_⟩, ⟨?_, ?_, ?_⟩, ⟨?_, ?_⟩, ?_⟩ <;> (refine Nat.ne_of_gt ?_; first | exact lt7.1 | exact lt7.2.1 | exact lt7.2.2.1 | exact lt7.2.2.2.1 | exact lt7.2.2.2.2.1 | exact lt7.2.2.2.2.2.1 | exact lt7.2.2.2.2.2.2 | exact lt6.1 | exact lt6.2.1 | exact lt6.2.2.1 | exact lt6.2.2.2.1 | exact lt6.2.2.2.2.1 | exact lt6.2.2.2.2.2 | exact lt5.1 | exact lt5.2.1 | exact lt5.2.2.1 | exact lt5.2.2.2.1 | exact lt5.2.2.2.2 | exact lt4.1 | exact lt4.2.1 | exact lt4.2.2.1 | exact lt4.2.2.2 | exact lt3.1 | exact lt3.2.1 | exact lt3.2.2 | exact lt2.1 | exact lt2.2 | exact lt1)
  have pm : List.Perm [(f0, W.listOf #[] 0), (f1, W.listOf #[] 0), (f2, W.listOf #[] 0), (f3, W.listOf #[] 0), (f4, W.listOf #[] 0), (f5, W.listOf #[] 0), (f6, W.listOf #[] 0)] [(f6, W.listOf #[] 0), (f5, W.listOf #[] 0), (f4, W.listOf #[] 0), (f3, W.listOf #[] 0), (f2, W.listOf #[] 0), (f1, W.listOf #[] 0), (f0, W.listOf #[] 0)] := (List.reverse_perm [(f0, W.listOf #[] 0), (f1, W.listOf #[] 0), (f2, W.listOf #[] 0), (f3, W.listOf #[] 0), (f4, W.listOf #[] 0), (f5, W.listOf #[] 0), (f6, W.listOf #[] 0)]).symm
  have A12 : Ap ((fo, W.listOf [Value.ref f0, Value.ref f1, Value.ref f2, Value.ref f3, Value.ref f4, Value.ref f5, Value.ref f6].toArray 0) :: ([(f0, W.listOf #[] 0), (f1, W.listOf #[] 0), (f2, W.listOf #[] 0), (f3, W.listOf #[] 0), (f4, W.listOf #[] 0), (f5, W.listOf #[] 0), (f6, W.listOf #[] 0)] ++ [])) := (((pm.cons _).map (fun p : Addr × Obj => p.1)).nodup_iff).mpr A11
  have N12 : News s.heap s.heap.objs.size h11 ((fo, W.listOf [Value.ref f0, Value.ref f1, Value.ref f2, Value.ref f3, Value.ref f4, Value.ref f5, Value.ref f6].toArray 0) :: ([(f0, W.listOf #[] 0), (f1, W.listOf #[] 0), (f2, W.listOf #[] 0), (f3, W.listOf #[] 0), (f4, W.listOf #[] 0), (f5, W.listOf #[] 0), (f6, W.listOf #[] 0)] ++ [])) := fun p hp => N11 p ((pm.cons _).mem_iff.mp hp)
  have L12 : FL [Value.ref f0, Value.ref f1, Value.ref f2, Value.ref f3, Value.ref f4, Value.ref f5, Value.ref f6] [(f0, W.listOf #[] 0), (f1, W.listOf #[] 0), (f2, W.listOf #[] 0), (f3, W.listOf #[] 0), (f4, W.listOf #[] 0), (f5, W.listOf #[] 0), (f6, W.listOf #[] 0)] [[], [], [], [], [], [], []] :=
    .cons f0 [] 0 [] .nil (.cons f1 [] 0 [] .nil (.cons f2 [] 0 [] .nil (.cons f3 [] 0 [] .nil (.cons f4 [] 0 [] .nil (.cons f5 [] 0 [] .nil (.cons f6 [] 0 [] .nil .nil))))))
  generalize [Value.ref f0, Value.ref f1, Value.ref f2, Value.ref f3, Value.ref f4, Value.ref f5, Value.ref f6] = refs at A12 N12 L12
  generalize [(f0, W.listOf #[] 0), (f1, W.listOf #[] 0), (f2, W.listOf #[] 0), (f3, W.listOf #[] 0), (f4, W.listOf #[] 0), (f5, W.listOf #[] 0), (f6, W.listOf #[] 0)] = fs0 at A12 N12 L12
  clear pm A11 N11 N10 F10 lt1 lt2 lt3 lt4 lt5 lt6 lt7
  refine forRangeC (n := 6) (fun i m' news' => ∃ fs junk, news' = (fo, W.listOf refs.toArray 0) :: (fs ++ junk) ∧ Ap news' ∧ FL refs fs ((List.range i).foldl (formStep ups) [[], [], [], [], [], [], []]) ∧ m' (Str.ofString "forms") = some (.ref fo) ∧ m' (Str.ofString "ups") = some (.ref U)) rfl hr (by decide) (by decide) F11 N12
    ⟨fs0, [], rfl, A12, L12, rfl, rfl⟩ ?_ ?_
  · rintro I i u m₁ news₁ oit ⟨H8, g1, g2, g3, g4⟩ hi ⟨fs, junk, rfl, ap, hfl, hm1, hm2⟩ hne ⟨h8, tk8, e8⟩ F8 N8
    cases e8
    have e1i : (6 : Int) + (i : Int) * (-1) = ((6 - i : Nat) : Int) := by omega
    rw [e1i]
    have hlen : ((List.range i).foldl (formStep ups) [[], [], [], [], [], [], []]).length = 7 := form_len ups i
    have hstep : (List.range (i + 1)).foldl (formStep ups) [[], [], [], [], [], [], []] = ((List.range i).foldl (formStep ups) [[], [], [], [], [], [], []]).set (ups.getD (6 - i) 0) ((((List.range i).foldl (formStep ups) [[], [], [], [], [], [], []]).getD (ups.getD (6 - i) 0) []) ++ [formText (((List.range i).foldl (formStep ups) [[], [], [], [], [], [], []]).getD (6 - i) [])]) := by rw [List.range_succ, List.foldl_append]; rfl
    have hwt := form_wt ups i (Nat.le_of_lt hi)
    have hcn := form_cnt ups i
    generalize (List.range i).foldl (formStep ups) [[], [], [], [], [], [], []] = xs at hfl hlen hstep hwt hcn
    have hu7 := hlt (6 - i) (by omega) (by omega)
    have hui := hix (6 - i) (by omega) (by omega)
    generalize ups.getD (6 - i) 0 = uv at hui hu7 hstep
    generalize hkk : 6 - i = kv at hui hstep
    have hk7 : kv < 7 := by omega
    have hk1000 : kv < 1000 := by omega
    have hu1000 : uv < 1000 := by omega
    obtain ⟨ak, prek, vsk, nk, ssk, postk, rk, ek, sk, xk, _⟩ := hfl.split (j := kv) (by omega)
    obtain ⟨au, preu, vsu, nu, ssu, postu, ru, eu, su, xu, hset⟩ := hfl.split (j := uv) (by omega)
    dsimp only
    have hmu : (au, W.listOf vsu.toArray nu) ∈ ((I, oit) :: (fo, W.listOf refs.toArray 0) :: (fs ++ junk)) := .tail _ (.tail _ (List.mem_append_left _ (by rw [eu]; simp)))
    have hmk : (ak, W.listOf vsk.toArray nk) ∈ ((I, oit) :: (fo, W.listOf refs.toArray 0) :: (fs ++ junk)) := .tail _ (.tail _ (List.mem_append_left _ (by rw [ek]; simp)))
    k_steps
    rename_i h9 F9 N9 tk9
    have hwk : wtL (cpsOf ssk) ≤ 200 := Nat.le_trans (hwt _ (List.mem_of_getElem? xk)) (wtB_le i (by omega))
    have hwu : wtL (cpsOf ssu) ≤ 200 := Nat.le_trans (hwt _ (List.mem_of_getElem? xu)) (wtB_le i (by omega))
    have hlk : vsk.length ≤ 6 := by have h1 := hcn _ (List.mem_of_getElem? xk); have h2 := sk.length; simp [cpsOf] at h1; omega
    have hlu : vsu.length ≤ 6 := by have h1 := hcn _ (List.mem_of_getElem? xu); have h2 := su.length; simp [cpsOf] at h1; omega
    refine sorted_N_str F9 N9 ⟨_, (N9 _ hmk).1, rfl, _, rfl⟩ sk (by omega) fun h10 vs' ss' e' F10 N10 sa sp ss => ?_
    k_steps
    have hws : (ss'.map (·.length)).sum + ss'.length ≤ 200 := by rw [cps_sum, wtL_perm (show (cpsOf ss').Perm (cpsOf ssk) from sp.map _)]; exact hwk
    have hD := N10 _ (.head _)
    have A10 : Ap (({ heap := h9, gens := s.gens, drawn := s.drawn, toks := tk + 1 + 1, os := s.os : Shared }.heap.objs.size + 1, seqObj "list" vs'.toArray e') :: (I, oit) :: (fo, W.listOf refs.toArray 0) :: (fs ++ junk)) := (ap.cons hne).cons fun p hp => Nat.ne_of_lt (Nat.lt_succ_of_lt (Heap.lt_size (N9 p hp).1))
    generalize { heap := h9, gens := s.gens, drawn := s.drawn, toks := tk + 1 + 1, os := s.os : Shared }.heap.objs.size + 1 = D at N10 A10
    have hjl : (Txt.join (Str.ofString "") ss').cps.toList = (sortS (cpsOf ssk)).flatten := by rw [join_empty (e := Str.ofString "") rfl, sorted_eq sp ss]
    have hjn : (Txt.join (Str.ofString "") ss').length ≤ 200 := by
      have h1 : (Txt.join (Str.ofString "") ss').length = (Txt.join (Str.ofString "") ss').cps.toList.length := by simp [Str.length]
      rw [h1, hjl]
      exact Nat.le_trans (flat_le _) (by rw [wtL_perm (sortS_perm _)]; exact hwk)
    refine join_listW ⟨_, (N10 _ (.head _)).1, rfl, _, rfl⟩ (by simpa using sa) (by decide) (by omega) fun t11 k11 => ?_
    refine KXadd.add (K := 1) (L := 200) (by decide) hjn (by decide) fun t12 k12 hl12 => ?_
    k_steps
    rename_i t13 k13 hl13
    clear hD hl12 hl13
    have e14 : ((D, seqObj "list" vs'.toArray e') :: (I, oit) :: (fo, W.listOf refs.toArray 0) :: (fs ++ junk)) = ((D, seqObj "list" vs'.toArray e') :: (I, oit) :: (fo, W.listOf refs.toArray 0) :: preu) ++ (au, W.listOf vsu.toArray nu) :: (postu ++ junk) := by rw [eu]; simp
    rw [e14] at N10 A10
    refine ledAppend F10 N10 A10 (by omega) fun h14 F14 N14 A14 => ?_
    dsimp only
    k_steps
    have N15 := news_perm led_form N14
    have A15 := A14.perm led_form
    have hnt : Str.ofString "(" ++ Txt.join (Str.ofString "") ss' ++ Str.ofString ")" = ⟨(formText (cpsOf ssk)).toArray⟩ := by
      refine PySem.Str.ext' ?_
      rw [PySem.Str.cps_append, PySem.Str.cps_append]
      apply Array.toList_inj.mp
      rw [Array.toList_append, Array.toList_append, hjl]
      rfl
    rw [hnt] at N15 A15
    refine ⟨h14, _, _, _, rfl, F14, N15, A15.head, preu ++ (au, W.listOf (vsu ++ [Value.str ⟨(formText (cpsOf ssk)).toArray⟩ t13]).toArray (nu + 1)) :: postu, (D, seqObj "list" vs'.toArray e') :: junk, rfl, A15.tail, ?_, hm1, hm2⟩
    have h16 := hset (vsu ++ [Value.str ⟨(formText (cpsOf ssk)).toArray⟩ t13]) (nu + 1) (ssu ++ [⟨(formText (cpsOf ssk)).toArray⟩]) (su.append' (.cons _ _ .nil))
    rw [hstep, List.getD_eq_getElem?_getD, List.getD_eq_getElem?_getD, xu, xk]
    have ec : cpsOf (ssu ++ [⟨(formText (cpsOf ssk)).toArray⟩]) = cpsOf ssu ++ [formText (cpsOf ssk)] := by simp [cpsOf]
    rw [ec] at h16
    exact h16
  · rintro h8 tk8 m8 news8 F8 N8 ⟨fs, junk, rfl, ap, hfl, hm1, hm2⟩
    dsimp only
    k_steps
    conv in bs 20 2 => whnf
    have hlen : ((List.range 6).foldl (formStep ups) [[], [], [], [], [], [], []]).length = 7 := form_len ups 6
    have hcn := form_cnt ups 6
    obtain ⟨a0, pre0, vs0, n0, ss0, post0, r0, e0, s0, x0, _⟩ := hfl.split (j := 0) (by omega)
    k_steps
    have hm0 : (a0, W.listOf vs0.toArray n0) ∈ ((fo, W.listOf refs.toArray 0) :: (fs ++ junk)) := .tail _ (List.mem_append_left _ (by rw [e0]; simp))
    have hl0 : vs0.length ≤ 6 := by have h1 := hcn _ (List.mem_of_getElem? x0); have h2 := s0.length; simp [cpsOf] at h1; omega
    refine sorted_N_str F8 N8 ⟨_, (N8 _ hm0).1, rfl, _, rfl⟩ s0 (by omega) fun h10 vs' ss' e' F10 N10 sa sp ss => ?_
    refine ret _ vs'.toArray ss' e' h10 _ F10.keep (N10 _ (.head _)).2.2 (N10 _ (.head _)).1 (by simpa using sa) ?_
    rw [sorted_eq sp ss]
    unfold formE
    rw [List.getD_eq_getElem?_getD, x0]
    rfl
end Mine
end
section
open PySem PySem.W PySem.Calls PyProof.Rows PySem.Spec
set_option Elab.async false
set_option linter.unusedVariables false
set_option maxRecDepth 100000
namespace Mine
open PyProof.Rows.LCg (NsObj ns_obj lst)
section
variable {prog : Program} {w : World} {A : Around} {s : Shared} {env : Env} {E : Value → Shared → Prop}
/-- the source is a range with step one -/
theorem compRange {g : Heap} {L r : Addr} {a b : Int} {t₁ u₁ v₁ : Tok} {m : Str → Option Value} {o0 : Obj} {x : Str} {px : Pos} {T : Addr → Addr → Addr → Value → (Shared → Prop) → Shared → Prop} {mf : Addr → Str → Option Value} {Fin : Addr → Shared → Prop} {n : Nat} {news : List (Addr × Obj)}
    (J : Addr → Addr → Nat → List (Addr × Obj) → Prop) (hh : A.handled = none) (hr : IsRange s.heap r a b 1 t₁ u₁ v₁) (hsm : Builtin.Range.small a b 1 = true) (hn : Builtin.Range.rangeSize a b 1 = ((n : Nat) : Int)) (F : Fr g L s.heap m) (N : News g L s.heap news)
    (h0 : ∀ (I C D : Addr) oC, NsObj oC (fun _ => none) → (D : Nat) < C → (I : Nat) < D → (L : Nat) < D → (∀ p ∈ news, (p.1 : Nat) < D) → J C D 0 ((C, oC) :: (D, o0) :: news))
    (turn : ∀ I C D i u news₁ oit s₁, i < n → J C D i news₁ → (∀ p ∈ news₁, p.1 ≠ I) → (∃ h tk, s₁ = { s with heap := h, toks := tk }) →
          Fr g L s₁.heap m → News g L s₁.heap ((I, oit) :: news₁) → T I C D (.int (a + (i : Int)) u) (CEnd g L m I oit (J C D (i + 1)) { s with heap := s.heap.push { cls := .type "range_iterator", data := .fields #[rawInt a, rawInt n, rawInt 1] } }) s₁)
    (done : ∀ C D news', J C D n news' → ∃ oC mC rest, news' = (C, oC) :: rest ∧ NsObj oC mC ∧ (∀ p ∈ rest, p.1 ≠ C) ∧ ∀ h'' tk, Fr g L h'' (mf D) → News g L h'' rest → Fin D { s with heap := h'', toks := tk }) :
    wpAny (model prog w) A (pyIter (.ref r)) (CompGo prog w A g L m o0 (.Name x px) T mf Fin) E s := by
  refine wpAny_pyIter_range hr hsm ?_
  rw [hn]
  obtain ⟨z1, z2, z3⟩ := fresh_it F N
  have kp := push_sub s.heap { cls := .type "range_iterator", data := .fields #[rawInt a, rawInt n, rawInt 1] }
  refine ⟨s.heap.objs.size, _, _, _, (fun i o => o = { cls := .type "range_iterator", data := .fields #[rawInt (a + (i : Nat) * 1), rawInt ((n : Int) - (i : Nat)), rawInt 1] }), (fun _ => True), news, J, rfl, Stepper.of (LCg.range_walks hh a n) (fun b hb => by simpa using hb),
    fun i h => ⟨fun a => ⟨⟨_, a, rfl⟩, trivial⟩, fun ⟨⟨o, a, b⟩, _⟩ => a.trans (congrArg some b)⟩, fun h h' k e => trivial, fr_sub F kp, news_sub N kp, z1, z2, z3,
    ?_, fun C D i news' h' j _ n => trivial, fun C D oC => h0 _ C D oC, fun C D i v news₁ oit s₁ hi hP hJ hne ⟨h, tk, e⟩ => ?_, done⟩
  · show Heap.get? _ _ = some _
    rw [Heap.get?_push_size _ rfl]; simp
  · obtain ⟨u, rfl⟩ := hP
    exact turn _ C D i u news₁ oit s₁ hi hJ hne ⟨h, tk, e⟩
/-- a list's comprehension with one test, given a name -/
theorem execListComp1 {g : Heap} {elt target iter c : Expr} {scope : Scope} {cl : List (Str × Addr)} {pos spos py : Pos} {m : Str → Option Value} {Q : Flow → Shared → Prop} {y : Str} (F₀ : Fr g env.locals s.heap m)
    (hsw : swapsWith (.ListComp elt [⟨target, iter, [c], 0⟩] scope pos) (some (.Name y py)) spos.line env = pure true)
    (hy : env.kindOf y = some .local) (hp : (env.scope.kind == .class || (env.scope.kind == .module && env.locals != env.globals)) = false) (hclos : closureFor scope env = pure cl)
    (hcell : ∀ y ∈ scope.names, y.2 ≠ .cell) (hkind : scope.kind = .function) (hnames : ∀ x ∈ scope.names, x.2 = .local → scope.names.lookup x.1 = some .local)
    (h : wpAny (model prog w) A (eval iter env) (fun x s₁ => wpAny (model prog w) A (pyIter x) (CompGo prog w A g env.locals m (lst []) target (fun _ C D => TL1 prog w A target c elt (.ref D) (compEnvC scope cl C env)) (fun D z => if z = y then some (.ref D) else m z) (fun _ => Q .next)) E s₁) E s)
    (hs : ∀ x, foldedSetIterable iter env x = pure x := by intro _; rfl) :
    wpAny (model prog w) A (exec (.Assign [.Name y py] (.ListComp elt [⟨target, iter, [c], 0⟩] scope pos) spos) env) Q E s := by
  rw [exec_Assign_Name_used _ _ _ _ hsw]
  refine wpAny_bind (wpAny_standAt (wpAny_bind ?_))
  show wpAny _ A (do let _ ← comprehension (.ListComp elt [⟨target, iter, [c], 0⟩] scope pos) scope env _ (newList []) false (eval iter env) (some (assign (.Name y py) env))) _ _ s
  refine wpAny_bind (wpAny_mono (useComp (Q := fun _ s' => Q .next s') hy hp rfl (fun s Q E q => wpAny_newObj_type q) (fun I C D => loop_L1) rfl hs hclos hcell hkind hnames h) (fun _ s' hq => wpAny_pure (wpAny_pure hq)) fun _ _ e => e)
/-- a list's comprehension without a test, given a name -/
theorem execListComp0 {g : Heap} {elt target iter : Expr} {scope : Scope} {cl : List (Str × Addr)} {pos spos py : Pos} {m : Str → Option Value} {Q : Flow → Shared → Prop} {y : Str} (F₀ : Fr g env.locals s.heap m)
    (hsw : swapsWith (.ListComp elt [⟨target, iter, [], 0⟩] scope pos) (some (.Name y py)) spos.line env = pure true)
    (hy : env.kindOf y = some .local) (hp : (env.scope.kind == .class || (env.scope.kind == .module && env.locals != env.globals)) = false) (hclos : closureFor scope env = pure cl)
    (hcell : ∀ y ∈ scope.names, y.2 ≠ .cell) (hkind : scope.kind = .function) (hnames : ∀ x ∈ scope.names, x.2 = .local → scope.names.lookup x.1 = some .local)
    (h : wpAny (model prog w) A (eval iter env) (fun x s₁ => wpAny (model prog w) A (pyIter x) (CompGo prog w A g env.locals m (lst []) target (fun _ C D => TL0 prog w A target elt (.ref D) (compEnvC scope cl C env)) (fun D z => if z = y then some (.ref D) else m z) (fun _ => Q .next)) E s₁) E s)
    (hs : ∀ x, foldedSetIterable iter env x = pure x := by intro _; rfl) :
    wpAny (model prog w) A (exec (.Assign [.Name y py] (.ListComp elt [⟨target, iter, [], 0⟩] scope pos) spos) env) Q E s := by
  rw [exec_Assign_Name_used _ _ _ _ hsw]
  refine wpAny_bind (wpAny_standAt (wpAny_bind ?_))
  show wpAny _ A (do let _ ← comprehension (.ListComp elt [⟨target, iter, [], 0⟩] scope pos) scope env _ (newList []) false (eval iter env) (some (assign (.Name y py) env))) _ _ s
  refine wpAny_bind (wpAny_mono (useComp (Q := fun _ s' => Q .next s') hy hp rfl (fun s Q E q => wpAny_newObj_type q) (fun I C D => loop_L0) rfl hs hclos hcell hkind hnames h) (fun _ s' hq => wpAny_pure (wpAny_pure hq)) fun _ _ e => e)
/-- a display of int literals -/
theorem ints_of_data : ∀ {ns : List Int} {vs : List Value}, DataAre vs (ns.map PyData.int) → IntsAre vs ns
  | [], vs, h => by cases h; exact .nil
  | n :: ns, vs, h => by
    rw [List.map_cons] at h
    cases h with
    | cons hd r =>
      obtain ⟨t, rfl⟩ := hd.int
      exact .cons n t (ints_of_data r)
theorem listInts {elts : List Expr} {pos : Pos} {ns : List Int} {g : Heap} {L : Addr} {m : Str → Option Value} {news : List (Addr × Obj)} {Q : Value → Shared → Prop} (F : Fr g L s.heap m) (N : News g L s.heap news) (hl : tupLitsOf elts = some (ns.map PyData.int)) (hz : ns.length ≤ 1000)
    (h : ∀ D vs h' tk, Fr g L h' m → News g L h' ((D, W.listOf (List.toArray vs) 0) :: news) → (∀ p ∈ news, (p.1 : Nat) < D) → IntsAre vs ns → Q (.ref D) { s with heap := h', toks := tk }) :
    wpAny (model prog w) A (eval (.List elts pos) env) Q E s := by
  refine wpAny_List (spliced_lits elts _ s _ hl fun vs tk hv => ⟨?_, ?_⟩)
  · rw [dataAre_len hv, List.length_map]; exact Nat.le_trans hz (by decide)
  have kp := push_sub s.heap { cls := .type "list", data := .seq vs.toArray }
  refine h _ vs _ tk (fr_sub F kp) (news_cons (news_sub N kp) (Heap.get?_push_size _ rfl) (fun e => ?_) (none_of_size F.keep (none_ge (Nat.le_refl _)))) (fun p hp => Heap.lt_size (N p hp).1) (ints_of_data hv)
  obtain ⟨oL, _, _, hL, _⟩ := F.ns
  have hL' : s.heap.get? L = some oL := hL
  rw [← e, none_ge (Nat.le_refl _)] at hL'
  cases hL'
end
/-- the spec of _law_written -/
noncomputable def nearL : List Nat := [831, 834, 8205, 8208, 8233, 8239, 8297, 8304]
noncomputable def bareL : List Nat := [832, 833, 8206, 8207, 8298, 8299, 8300, 8301, 8302, 8303]
noncomputable def openL : List Nat := [8234, 8235, 8237, 8238]
noncomputable def partsOf (ups : List Nat) (place : Nat) : List Nat := ((List.range 6).map (· + 1)).filter fun k => ups.getD k 0 == place
noncomputable def figN (seed : Int) (lead k : Nat) : Nat := ((seed / 112 ^ (lead + k) + 29 * ((lead + k : Nat) : Int)) % 112).toNat
noncomputable def bitOf (fg : Nat) (inn : List Nat) : List Nat := if inn = [] ∧ 31 < fg then [nearL.getD (fg % 8) 0, bareL.getD (fg / 8 - 4) 0] else nearL.getD (fg % 8) 0 :: openL.getD (fg / 8 % 4) 0 :: (inn ++ [8236])
noncomputable def wrStep (f : Nat → Nat) (inner : Nat → Option (List Nat)) (acc : Option (List Nat)) (k : Nat) : Option (List Nat) :=
  acc.bind fun text => (inner k).bind fun inn => if text.length ≤ 1000 ∧ inn.length ≤ 1000 then some (text ++ bitOf (f k) inn) else none
noncomputable def wrE (ups : List Nat) (rev : Bool) (f : Nat → Nat) : Nat → Nat → Option (List Nat)
  | 0, _ => none
  | fuel + 1, place => (if rev then (partsOf ups place).reverse else partsOf ups place).foldl (wrStep f (wrE ups rev f fuel)) (some [])
end Mine
end
section
open PySem PySem.W PySem.Calls PyProof.Rows PySem.Spec
set_option Elab.async false
set_option linter.unusedVariables false
set_option maxRecDepth 100000
namespace Mine
open PyProof.Rows.LCg (NsObj ns_obj lst)
local macro_rules | `(tactic| walk_at "eval Name") => `(tactic| (k_here; k_dflt (refine' nameX_L ?F ?v ?_ ?a ?b; (case F => k_asm); (case a => rfl); (case b => rfl); (case v => assumption); k_whole)))
local macro_rules | `(tactic| walk_at "subscriptTail Name Name ref int") => `(tactic| (k_here; ((refine' rowItem ?F ?l ?i ?k ?z ?_; (case F => k_asm); (case l => assumption); (case i => assumption); (case k => assumption); (case z => assumption)); intro _)))
theorem wr_perm {a b c d e f : Addr × Obj} : [a, b, c, d, e, f].Perm [a, c, d, e, f, b] := List.Perm.cons _ (List.perm_append_comm (l₁ := [b]) (l₂ := [c, d, e, f]))
theorem wr_perm2 {x a b c d e f : Addr × Obj} {l : List (Addr × Obj)} : (x :: a :: b :: c :: d :: e :: f :: l).Perm (a :: b :: c :: d :: e :: f :: x :: l) := (List.perm_middle (l₁ := [a, b, c, d, e, f])).symm
noncomputable def partsTo (ups : List Nat) (place i : Nat) : List Nat := ((List.range i).map (· + 1)).filter fun k => ups.getD k 0 == place
theorem partsTo_succ (ups : List Nat) (place i : Nat) : partsTo ups place (i + 1) = if ups.getD (i + 1) 0 = place then partsTo ups place i ++ [i + 1] else partsTo ups place i := by
  unfold partsTo
  rw [List.range_succ, List.map_append, List.filter_append]
  by_cases h : ups.getD (i + 1) 0 = place
  · rw [if_pos h, List.map_singleton, List.filter_cons_of_pos (by rw [h]; exact beq_self_eq_true _)]; rfl
  · rw [if_neg h, List.map_singleton, List.filter_cons_of_neg (by simpa using h)]; simp
theorem parts_in (ups : List Nat) (place : Nat) : ∀ k ∈ partsOf ups place, 1 ≤ k ∧ k < 7 := by
  intro k hk
  obtain ⟨hk, _⟩ := List.mem_filter.mp hk
  obtain ⟨i, hi, rfl⟩ := List.mem_map.mp hk
  have := List.mem_range.mp hi
  omega
theorem ints_at {vs : List Value} {ns : List Nat} (x : IntsAre vs (ns.map Int.ofNat)) {i : Nat} {v : Value} (h : vs[i]? = some v) : ∃ (k : Nat) (u : Tok), v = .int (k : Int) u ∧ ns[i]? = some k := by
  have hl := ints_len x
  rw [List.length_map] at hl
  have hi : i < ns.length := by rw [← hl]; exact (List.getElem?_eq_some_iff.mp h).1
  obtain ⟨t, ht⟩ := ints_get x (i := i) (n := ((ns[i] : Nat) : Int)) (by rw [List.getElem?_map, List.getElem?_eq_getElem hi]; rfl)
  rw [h] at ht
  exact ⟨ns[i], t, Option.some.inj ht, List.getElem?_eq_getElem hi⟩
theorem pyl (x : Int) {e : Nat} (he : e < 20) : Builtin.divisionGoesByPylong x (112 ^ e) = false := by
  refine PyProof.noPylong_of_log2 ?_
  have h1 : ((112 : Int) ^ e).natAbs = 112 ^ e := by rw [Int.natAbs_pow]; rfl
  rw [h1]
  have h2 : 112 ^ e < 2 ^ 200 := Nat.lt_of_le_of_lt (Nat.pow_le_pow_right (by decide) (show e ≤ 19 by omega)) (by decide)
  exact Nat.lt_of_lt_of_le ((Nat.log2_lt (Nat.ne_of_gt (Nat.pow_pos (by decide)))).mpr h2) (by decide)
theorem fig_eq {seed : Int} {lead k : Nat} : (seed.fdiv (112 ^ ((lead : Int) + (k : Int)).toNat) + 29 * ((lead : Int) + (k : Int))).fmod 112 = ((figN seed lead k : Nat) : Int) := by
  have e1 : ((lead : Int) + (k : Int)).toNat = lead + k := by omega
  unfold figN
  rw [e1, Int.fdiv_eq_ediv_of_nonneg _ (Int.le_of_lt (Int.pow_pos (by decide))), Int.fmod_eq_emod_of_nonneg _ (by decide), Int.toNat_of_nonneg (Int.emod_nonneg _ (by decide))]
  rfl
theorem fig_lt (seed : Int) (lead k : Nat) : figN seed lead k < 112 := by
  unfold figN
  have h := Int.emod_lt_of_pos (seed / 112 ^ (lead + k) + 29 * ((lead + k : Nat) : Int)) (show (0 : Int) < 112 by decide)
  omega
theorem ofNat_getD (l : List Nat) (i : Nat) : (l.map Int.ofNat).getD i 0 = ((l.getD i 0 : Nat) : Int) := by
  rw [List.getD_eq_getElem?_getD, List.getD_eq_getElem?_getD, List.getElem?_map]
  cases l[i]? <;> rfl
theorem ints_nth {vs : List Value} {ns : List Nat} (x : IntsAre vs (ns.map Int.ofNat)) {i j : Nat} (e : i = j) (h : j < ns.length) : ∃ t, vs[i]? = some (.int ((ns.getD j 0 : Nat) : Int) t) := by
  subst e
  exact ints_get x (by rw [List.getElem?_map, List.getD_eq_getElem?_getD, List.getElem?_eq_getElem h]; rfl)
theorem str_nil (inn : List Nat) : (({ cps := inn.toArray } : Str) == Str.ofString "") = decide (inn = []) := by
  cases inn with
  | nil => rfl
  | cons a l =>
    rw [decide_eq_false (by simp)]
    rw [beq_eq_false_iff_ne]
    intro h
    have := congrArg (fun x : Str => x.cps.size) h
    have h0 : (Str.ofString "").cps.size = 0 := rfl
    simp at this
    omega
theorem getD_le (l : List Nat) (b : Nat) (h : ∀ x ∈ l, x ≤ b) (i : Nat) : l.getD i 0 ≤ b := by
  rw [List.getD_eq_getElem?_getD]
  cases q : l[i]? with
  | none => exact Nat.zero_le _
  | some x => exact h x (List.mem_of_getElem? q)
theorem near_le (i : Nat) : nearL.getD i 0 ≤ 9000 := getD_le _ _ (by decide) i
theorem bare_le (i : Nat) : bareL.getD i 0 ≤ 9000 := getD_le _ _ (by decide) i
theorem open_le (i : Nat) : openL.getD i 0 ≤ 9000 := getD_le _ _ (by decide) i
noncomputable def bitOf2 (fg : Nat) (inn : List Nat) : List Nat := if inn = [] ∧ 31 < fg then [bareL.getD (fg / 8 - 4) 0] else openL.getD (fg / 8 % 4) 0 :: (inn ++ [8236])
theorem bitOf_eq (fg : Nat) (inn : List Nat) : bitOf fg inn = nearL.getD (fg % 8) 0 :: bitOf2 fg inn := by unfold bitOf bitOf2; split <;> rfl
/-- an item of a list of the ledger, by an int -/
theorem ledItemZ {prog : Program} {w : World} {A : Around} {E : Value → Shared → Prop} {s : Shared} {g : Heap} {L l : Addr} {news : List (Addr × Obj)} {vs : List Value} {n : Nat} {i : Int} {v : Value} {u : Tok} {value slice : Expr} {Q : Value → Shared → Prop} (N : News g L s.heap news) (hl : (l, W.listOf vs.toArray n) ∈ news) (hk : vs[i.toNat]? = some v) (h0 : 0 ≤ i) (hsz : i < 2 ^ 63)
    (h : Q v s)
    (hs : subscripted slice false (.ref l) (.int i u) = operate [(.ref l), .int i u] (getItem (.ref l) (.int i u)) := by with_unfolding_all rfl) (hg : ∀ r, letTemporaryGo value (.ref l) r = pure () := by intro _; with_unfolding_all rfl) :
    wpAny (model prog w) A (subscriptTail value slice (.ref l) (.int i u)) Q E s := by
  have hL : s.heap.IsList l vs.toArray := ⟨_, (N _ hl).1, rfl, _, rfl⟩
  exact subscriptTail_builtin hL.typeIs PySem.F.slot_list_getitem.lookup (wpAny_getItem_list hL h0 hsz (by simpa using hk) h) hs hg
local macro_rules | `(tactic| walk_at "subscriptTail Name BinOp ref int") => `(tactic| (k_here; (refine' ledItemZ ?N ?m ?k ?y ?z ?_; (case N => k_asm); (case m => k_mem); (case k => assumption); (case y => assumption); (case z => assumption))))
local macro_rules | `(tactic| walk_at "eval List") => `(tactic| (k_here; first
  | ((refine' listInts (ns := nearL.map Int.ofNat) ?F ?N ?e ?z ?_; (case F => k_asm); (case N => k_asm); (case e => with_unfolding_all rfl); (case z => decide)); intro D' vs' h' tk' F' N' lt' i')
  | ((refine' listInts (ns := bareL.map Int.ofNat) ?F ?N ?e ?z ?_; (case F => k_asm); (case N => k_asm); (case e => with_unfolding_all rfl); (case z => decide)); intro D' vs' h' tk' F' N' lt' i')))
set_option maxHeartbeats 4000000
theorem c_written {w : World} {U : Addr} {us : List Value} {ius : List Int} {ups : List Nat} {n : Nat} {lead : Nat} {seed : Int} (iu : IntsAre us ius) (hix : ∀ k, 1 ≤ k → k < 7 → ius[k]? = some ((ups.getD k 0 : Nat) : Int)) (hlead : lead = 0 ∨ lead = 7) :
    ∀ (fuel : Nat) {dp un : Nat} {fr : Option (List Env)} {gd : Option (List Code)} {s : Shared} {Q E : Value → Shared → Prop} {place : Nat} {tp tl ts : Tok} {txt : List Nat}
    (ht : wrE ups (decide (0 < lead)) (figN seed lead) fuel place = some txt) (hd : dp + 2 * fuel + 10 < recursionLimit) (hu : un + 20 * fuel + 100 < cLine) (C : Cx w s.heap) (hU : s.heap.get? U = some (W.listOf us.toArray n))
    (ret : ∀ t h' tk', Sub s.heap h' → Q (.str ⟨txt.toArray⟩ t) { s with heap := h', toks := tk' }),
    wpAny (MW w) (arA dp un fr gd) (call (.ref 257) [.ref U, .int (place : Int) tp, .int (lead : Int) tl, .int seed ts]) Q E s := by
  intro fuel
  induction fuel with
  | zero => intro dp un fr gd s Q E place tp tl ts txt ht; cases ht
  | succ fuel IH =>
  intro dp un fr gd s Q E place tp tl ts txt ht hd hu C hU ret
  obtain ⟨mean, mg, mb, Tp⟩ := id C.t
  have X0 := C.k
  refine wpAny_call ?_
  refine enterCodeC [(Str.ofString "ups", .ref U), (Str.ofString "place", .int (place : Int) tp), (Str.ofString "lead", .int (lead : Int) tl), (Str.ofString "seed", .int seed ts)] X0 Tp.nolimit (by show dp < _; omega) rfl rfl (BindsTo.of_eq rfl) (by intro n x hx; simp at hx; rcases hx with rfl | rfl | rfl | rfl; exact .inr ⟨rfl, rfl⟩; exact .inr ⟨rfl, rfl⟩; exact .inl rfl; exact .inl rfl) (by decide) fun h₁ tk cells F N Y => ?_
  replace F : Fr s.heap s.heap.objs.size h₁ (fun y => if y = Str.ofString "seed" then some (.int seed ts) else if y = Str.ofString "lead" then some (.int (lead : Int) tl) else none) := F
  replace Y : CellsAre (fun y => if y = Str.ofString "place" then some (.int (place : Int) tp) else if y = Str.ofString "ups" then some (.ref U) else none) [(Str.ofString "place", s.heap.objs.size + 2), (Str.ofString "ups", s.heap.objs.size + 1)] cells := Y
  obtain ⟨oc, od, rfl, hoc, hod⟩ := Y.two
  replace hoc : oc.data = .cell (some (.int (place : Int) tp)) := hoc
  replace hod : od.data = .cell (some (.ref U)) := hod
  have N : News s.heap s.heap.objs.size h₁ [(s.heap.objs.size + 2, oc), (s.heap.objs.size + 1, od)] := N
  clear Y
  have A0 : Ap [(s.heap.objs.size + 2, oc), (s.heap.objs.size + 1, od)] := by
    simp only [Ap, List.map_cons, List.map_nil, List.nodup_cons, List.mem_cons, List.not_mem_nil, or_false, not_or, List.nodup_nil, and_true, not_false_eq_true]
    exact Nat.ne_of_gt (Nat.lt_succ_self _)
  have X := C.k
  unfold MW
  show wpAny _ _ (execs [bs 16 0, bs 16 1, bs 16 2, bs 16 3, bs 16 4, bs 16 5, bs 16 6] _) _ _ _
  revert X; k_fill; intro X
  k_steps
  conv in bs 16 0 => whnf
  k_steps
  conv in bs 16 1 => whnf
  k_steps
  rename_i near nearV h2 tk2 lt1 ia h3 bare bareV h4 tk4 lt2 ib h5 F5 N5
  have A5 : Ap [(bare, W.listOf bareV.toArray 0), (near, W.listOf nearV.toArray 0), (s.heap.objs.size + 2, oc), (s.heap.objs.size + 1, od)] := (A0.cons fun p hp => Nat.ne_of_lt (lt1 p hp)).cons fun p hp => Nat.ne_of_lt (lt2 p hp)
  clear lt1 lt2
  conv in bs 16 2 => whnf
  refine execListComp1 F5 (by with_unfolding_all rfl) rfl rfl (by with_unfolding_all rfl) (by decide) rfl (by decide) ?_ (by intro _; rfl)
  k_steps
  rename_i h6 tk6 ta tb tc hr F6 N6 k6
  refine compRange (n := 6) (fun C D i news' => ∃ oC mC ys, news' = (C, oC) :: (D, lst ys) :: [(bare, W.listOf bareV.toArray 0), (near, W.listOf nearV.toArray 0), (s.heap.objs.size + 2, oc), (s.heap.objs.size + 1, od)] ∧ NsObj oC mC ∧ IntsAre ys ((partsTo ups place i).map Int.ofNat) ∧ ys.length ≤ i ∧ Ap news') rfl hr (by decide) (by decide) F6 N6 ?_ ?_ ?_
  · intro I C D oC hoC q1 q2 q3 q4
    refine ⟨oC, _, [], rfl, hoC, .nil, Nat.zero_le _, ?_⟩
    refine Ap.cons (Ap.cons A5 fun p hp => Nat.ne_of_lt (q4 p hp)) fun p hp => ?_
    rcases List.mem_cons.mp hp with rfl | hp
    · exact Nat.ne_of_lt q1
    · exact Nat.ne_of_lt (Nat.lt_trans (q4 p hp) q1)
  · rintro I C D i u news₁ oit ⟨H, g1, g2, g3, g4⟩ hi ⟨oC, mC, ys, rfl, hoC, hys, hyl, ap⟩ hne ⟨h7, tk7, e7⟩ F7 N7
    cases e7
    have e1i : (1 : Int) + (i : Int) = ((i + 1 : Nat) : Int) := by omega
    rw [e1i]
    have hui := hix (i + 1) (by omega) (by omega)
    have hi1000 : i + 1 < 1000 := by omega
    have hpt := partsTo_succ ups place i
    generalize ups.getD (i + 1) 0 = uv at hui hpt
    have apI := ap.cons hne (o := oit)
    unfold TL1
    refine compStore (pre := [(I, oit)]) rfl rfl F7 N7 (Ap.left (pre := [(I, oit)]) apI) (Ap.right (pre := [(I, oit)]) apI) hoC fun h8 tk8 oC8 F8 N8 hoC8 => ?_
    have ap8 : Ap ((I, oit) :: (C, oC8) :: (D, lst ys) :: [(bare, W.listOf bareV.toArray 0), (near, W.listOf nearV.toArray 0), (s.heap.objs.size + 2, oc), (s.heap.objs.size + 1, od)]) := Ap.set (pre := [(I, oit)]) apI
    have hkv : (fun y => if y = Str.ofString "k" then some (Value.int ((i + 1 : Nat) : Int) u) else mC y) (Str.ofString "k") = some (.int ((i + 1 : Nat) : Int) u) := rfl
    generalize (fun y => if y = Str.ofString "k" then some (Value.int ((i + 1 : Nat) : Int) u) else mC y) = m8 at hoC8 hkv
    dsimp only
    k_steps
    · rename_i tk9 hq
      have hq' : uv = place := by omega
      rw [if_pos hq'] at hpt
      refine compAppend (pre := [(I, oit), (C, oC8)]) (post := [(bare, W.listOf bareV.toArray 0), (near, W.listOf nearV.toArray 0), (s.heap.objs.size + 2, oc), (s.heap.objs.size + 1, od)]) F8 N8 (Ap.left (pre := [(I, oit), (C, oC8)]) ap8) (Ap.right (pre := [(I, oit), (C, oC8)]) ap8) (Nat.le_trans (show ys.length ≤ 1000 by omega) (by decide)) fun h9 F9 N9 => ?_
      have ap9 : Ap ((I, oit) :: (C, oC8) :: (D, lst (ys ++ [Value.int ((i + 1 : Nat) : Int) u])) :: [(bare, W.listOf bareV.toArray 0), (near, W.listOf nearV.toArray 0), (s.heap.objs.size + 2, oc), (s.heap.objs.size + 1, od)]) := Ap.set (pre := [(I, oit), (C, oC8)]) ap8
      refine ⟨h9, _, _, rfl, F9, N9, ap9.head, oC8, _, _, rfl, hoC8, ?_, by rw [List.length_append, List.length_singleton]; omega, ap9.tail⟩
      rw [hpt, List.map_append]
      exact ints_app hys (.cons _ _ .nil)
    · rename_i tk9 hq
      have hq' : ¬ uv = place := by omega
      rw [if_neg hq'] at hpt
      exact ⟨h8, _, _, rfl, F8, N8, ap8.head, oC8, _, _, rfl, hoC8, hpt ▸ hys, Nat.le_succ_of_le hyl, ap8.tail⟩
  · rintro Ca D news' ⟨oC, mC, ys, rfl, hoC, hys, hyl, ap⟩
    refine ⟨oC, mC, _, rfl, hoC, ap.head, fun h'' tk'' F'' N'' => ?_⟩
    have ap2 := ap.tail
    replace hys : IntsAre ys ((partsOf ups place).map Int.ofNat) := hys
    have hps : ∀ k ∈ partsOf ups place, 1 ≤ k ∧ k < 7 := parts_in ups place
    have htx := ht
    unfold wrE at htx
    generalize partsOf ups place = ks at hys hps htx
    dsimp only
    k_steps
    conv in bs 16 3 => whnf
    obtain ⟨L, hL⟩ : ∃ L : Nat, L = s.heap.objs.size := ⟨_, rfl⟩
    suffices rest : ∀ (D : Addr) (ys : List Value) (ny : Nat) (ks : List Nat) (junk : List (Addr × Obj)) (h : Heap) (tk : Nat) (m' : Str → Option Value),
        Fr s.heap s.heap.objs.size h m' → News s.heap s.heap.objs.size h ((D, W.listOf ys.toArray ny) :: (bare, W.listOf bareV.toArray 0) :: (near, W.listOf nearV.toArray 0) :: (s.heap.objs.size + 2, oc) :: (s.heap.objs.size + 1, od) :: junk) →
        Ap ((D, W.listOf ys.toArray ny) :: (bare, W.listOf bareV.toArray 0) :: (near, W.listOf nearV.toArray 0) :: (s.heap.objs.size + 2, oc) :: (s.heap.objs.size + 1, od) :: junk) →
        IntsAre ys (ks.map Int.ofNat) → (∀ k ∈ ks, 1 ≤ k ∧ k < 7) → ks.foldl (wrStep (figN seed lead) (wrE ups (decide (0 < lead)) (figN seed lead) fuel)) (some []) = some txt →
        m' (Str.ofString "parts") = some (.ref D) → m' (Str.ofString "bare") = some (.ref bare) → m' (Str.ofString "near") = some (.ref near) → m' (Str.ofString "seed") = some (.int seed ts) → m' (Str.ofString "lead") = some (.int (lead : Int) tl) →
        wpAny (model Challenge.rw_zd0013_01.row.prog w) ((arA dp un fr gd).deeper (envOfC (Str.ofString "_law_written") (fScope (stm 16)) s.heap.objs.size 257 (Value.ref 256)))
          (exec (bs 16 4) (envOfC (Str.ofString "_law_written") (fScope (stm 16)) s.heap.objs.size 257 (Value.ref 256))) (fun f s' => match f with
            | Flow.next => wpAny (model Challenge.rw_zd0013_01.row.prog w) ((arA dp un fr gd).deeper (envOfC (Str.ofString "_law_written") (fScope (stm 16)) s.heap.objs.size 257 (Value.ref 256))) (execs [bs 16 5, bs 16 6] (envOfC (Str.ofString "_law_written") (fScope (stm 16)) s.heap.objs.size 257 (Value.ref 256))) (fun fl s' => Q (retOf fl) s') (fun x x_1 => False) s'
            | f => Q (retOf f) s') (fun x x_1 => False) { heap := h, gens := s.gens, drawn := s.drawn, toks := tk, os := s.os } by
      rcases hlead with hlz | hlz
      · have hz : (lead : Int) = 0 := by omega
        rw [hlz, if_neg (by decide)] at htx
        rw [hlz] at rest F''
        k_steps
        rename_i tk4
        exact rest D ys ys.length ks [] _ _ _ F'' N'' ap2 hys hps htx rfl rfl rfl rfl rfl
      · rw [hlz, if_pos (by decide)] at htx
        rw [hlz] at rest F''
        k_steps
        rename_i tk4 D2 ys2 h7 F7 N7 hI7 hc7 lt7 h8 F8 N8
        have A8 : Ap ((D2, W.listOf ys2.toArray 0) :: (D, lst ys) :: [(bare, W.listOf bareV.toArray 0), (near, W.listOf nearV.toArray 0), (s.heap.objs.size + 2, oc), (s.heap.objs.size + 1, od)]) := ap2.cons fun p hp => by
          simp only [List.mem_cons, List.not_mem_nil, or_false] at hp
          rcases hp with rfl | rfl | rfl | rfl | rfl
          · exact Nat.ne_of_lt lt7.1
          · exact Nat.ne_of_lt lt7.2.1
          · exact Nat.ne_of_lt lt7.2.2.1
          · exact Nat.ne_of_lt lt7.2.2.2.1
          · exact Nat.ne_of_lt lt7.2.2.2.2
        exact rest D2 ys2 0 ks.reverse [(D, lst ys)] _ _ _ F8 (news_perm wr_perm N8) (A8.perm wr_perm) (by rw [List.map_reverse]; exact hI7) (fun k hk => hps k (List.mem_reverse.mp hk)) htx rfl rfl rfl rfl rfl
    clear htx hys hps ks ap ap2 F'' N'' hoC
    intro D ys ny ks junk h tk m' F N ap hys hps htx hm1 hm2 hm3 hm4 hm5
    conv in bs 16 4 => whnf
    k_steps
    conv in bs 16 5 => whnf
    refine wpAny_For ?_ (by intro _; rfl)
    rename_i h7 F7 N7
    refine nameX_L (cl := [(Str.ofString "place", s.heap.objs.size + 2), (Str.ofString "ups", s.heap.objs.size + 1)]) F7 hm1 ?_
    refine forListT (vs := ys.toArray) (fun i m' news' => ∃ junk acc t, news' = (D, W.listOf ys.toArray ny) :: (bare, W.listOf bareV.toArray 0) :: (near, W.listOf nearV.toArray 0) :: (s.heap.objs.size + 2, oc) :: (s.heap.objs.size + 1, od) :: junk ∧ Ap news' ∧
        (ks.take i).foldl (wrStep (figN seed lead) (wrE ups (decide (0 < lead)) (figN seed lead) fuel)) (some []) = some acc ∧ m' (Str.ofString "text") = some (.str ⟨acc.toArray⟩ t) ∧ m' (Str.ofString "bare") = some (.ref bare) ∧ m' (Str.ofString "near") = some (.ref near) ∧ m' (Str.ofString "seed") = some (.int seed ts) ∧ m' (Str.ofString "lead") = some (.int (lead : Int) tl))
      rfl F7 N7 ⟨_, (N7 _ (.head _)).1, rfl, _, rfl⟩ ?_ ⟨junk, [], _, rfl, ap, rfl, rfl, hm2, hm3, hm4, hm5⟩ ?_ ?_
    · rintro j m' news' h' ⟨junk, acc, t, rfl, _⟩ F' N'
      exact ⟨_, (N' _ (.head _)).1, rfl, _, rfl⟩
    · rintro I i v m₁ news₁ oit ⟨H8, g1, g2, g3, g4⟩ hv ⟨junk, acc, tt, rfl, ap, hfold, hm1, hm2, hm3, hm4, hm5⟩ hne ⟨h8, tk8, e8⟩ F8 N8
      cases e8
      obtain ⟨k, u, rfl, hk⟩ := ints_at hys (by simpa using hv)
      have hk7 := hps k (List.mem_of_getElem? hk)
      obtain ⟨acc', hacc'⟩ := fold_some (fun _ => rfl) _ _ _ htx (i + 1)
      have hft := fold_take (wrStep (figN seed lead) (wrE ups (decide (0 < lead)) (figN seed lead) fuel)) (some []) hk
      rw [hfold] at hft
      rw [hft] at hacc'
      dsimp only [wrStep, Option.bind_some] at hft hacc'
      obtain ⟨inn, hin⟩ : ∃ inn, wrE ups (decide (0 < lead)) (figN seed lead) fuel k = some inn := by
        cases q : wrE ups (decide (0 < lead)) (figN seed lead) fuel k with
        | none => rw [q] at hacc'; cases hacc'
        | some inn => exact ⟨inn, rfl⟩
      rw [hin, Option.bind_some] at hft hacc'
      by_cases hsz : acc.length ≤ 1000 ∧ inn.length ≤ 1000
      case neg => rw [if_neg hsz] at hacc'; cases hacc'
      rw [if_pos hsz] at hft
      clear hacc'
      have apI := ap.cons hne (o := oit)
      have hlk : lead + k < 20 := by omega
      have hpow : (112 : Int) ^ ((lead : Int) + (k : Int)).toNat ≠ 0 := Int.ne_of_gt (Int.pow_pos (by decide))
      dsimp only
      show wpAny _ _ _ (fun _ s₂ => wpAny _ _ (execs [bl 16 5 0, bl 16 5 1, bl 16 5 2, bl 16 5 3] _) _ _ s₂) _ _
      refine hideF fun P hP => ?_
      k_steps
      conv in bl 16 5 0 => whnf
      k_steps
      refine floordiv_int hpow ?_ (.inl (pyl _ (by omega)))
      k_steps
      rename_i h9 F9 N9
      rw [fig_eq] at F9
      have hf112 : figN seed lead k < 112 := fig_lt seed lead k
      generalize figN seed lead k = fg at F9 hft hf112
      dsimp only at F9
      conv in bl 16 5 1 => whnf
      k_steps
      refine IH hin (by show dp + 1 + 2 * fuel + 10 < _; omega) (by first | (show un + 3 + 20 * fuel + 100 < _; omega) | (show un + 3 + 1 + 20 * fuel + 100 < _; omega)) (C.sub F9.keep) (F9.keep _ _ hU) fun t10 h10 tk10 k10 => ?_
      replace F9 := fr_sub F9 k10
      replace N9 := news_sub N9 k10
      dsimp only
      k_steps
      conv in bl 16 5 2 => whnf
      rename_i h11 F11 N11
      have hz1 : 0 ≤ (fg : Int).fmod 8 := Int.fmod_nonneg_of_pos _ (by decide)
      have hz2 : (fg : Int).fmod 8 < 2 ^ 63 := by rw [Int.fmod_eq_emod_of_nonneg _ (by decide)]; omega
      have hz3 : ((fg : Int).fmod 8).toNat = fg % 8 := by rw [Int.fmod_eq_emod_of_nonneg _ (by decide)]; omega
      have hz5 : (nearL.map Int.ofNat).getD ((fg : Int).fmod 8).toNat 0 = ((nearL.getD (fg % 8) 0 : Nat) : Int) := by rw [hz3]; exact ofNat_getD _ _
      have hnv := near_le (fg % 8)
      have hbo : bitOf fg inn = nearL.getD (fg % 8) 0 :: bitOf2 fg inn := bitOf_eq fg inn
      rw [hbo] at hft
      generalize nearL.getD (fg % 8) 0 = nv at hz5 hnv hft
      k_steps
      rename_i h12 F12 N12
      rw [hz5, Int.toNat_natCast, show ({ cps := acc.toArray } : Str) ++ { cps := #[nv] } = ⟨(acc ++ [nv]).toArray⟩ from PySem.Str.ext' (by simp [PySem.Str.cps_append])] at F12
      have hacl : (acc ++ [nv]).length ≤ 1001 := by rw [List.length_append, List.length_singleton]; omega
      conv in bl 16 5 3 => whnf
      clear hz1 hz2 hz3 hz5 hbo
      have hin0 : ({ cps := inn.toArray } == Str.ofString "") = decide (inn = []) := str_nil inn
      refine wpAny_If ?_
      refine wpAny_mono (Q := fun b s' => b = decide (inn = [] ∧ 31 < fg) ∧ ∃ tk', s' = { heap := h12, gens := s.gens, drawn := s.drawn, toks := tk', os := s.os }) ?_ ?_ (fun _ _ q => q)
      · k_steps
        · rename_i q1 q2
          rw [hin0] at q1
          exact (decide_eq_true ⟨of_decide_eq_true q1, by omega⟩).symm
        · rename_i q1 q2
          exact (decide_eq_false fun q => q2 (by omega)).symm
        · rename_i q1
          rw [hin0] at q1
          exact (decide_eq_false fun q => of_decide_eq_false q1 q.1).symm
      · rintro b s' ⟨rfl, tk12, rfl⟩
        by_cases hb : inn = [] ∧ 31 < fg
        · rw [decide_eq_true hb]
          have ht8 : (fg : Int).fdiv 8 = ((fg / 8 : Nat) : Int) := by rw [Int.fdiv_eq_ediv_of_nonneg _ (by decide)]; omega
          have hz1 : 0 ≤ (fg : Int).fdiv 8 - 4 := by omega
          have hz2 : (fg : Int).fdiv 8 - 4 < 2 ^ 63 := by omega
          have hz3 : ((fg : Int).fdiv 8 - 4).toNat = fg / 8 - 4 := by omega
          obtain ⟨tn, hz4⟩ := ints_nth ib hz3 (show fg / 8 - 4 < 10 by omega)
          have hnv2 := bare_le (fg / 8 - 4)
          unfold bitOf2 at hft
          rw [if_pos hb] at hft
          generalize bareL.getD (fg / 8 - 4) 0 = nv2 at hz4 hnv2 hft
          clear ht8
          rw [if_pos rfl]
          k_steps
          rename_i t13 k13 q13 h14 F14 N14
          have etx : ({ cps := (acc ++ [nv]).toArray } : Str) ++ { cps := #[((nv2 : Nat) : Int).toNat] } = ⟨(acc ++ [nv, nv2]).toArray⟩ := PySem.Str.ext' (by simp [PySem.Str.cps_append])
          exact hP _ _ ⟨h14, _, _, _, rfl, F14, N14, apI.head, junk, _, t13, rfl, ap, hft, congrArg (fun x => some (Value.str x t13)) etx, hm2, hm3, hm4, hm5⟩
        · rw [decide_eq_false hb]
          have hz5 : ([8234, 8235, 8237, 8238] : List Int).getD (((fg : Int).fdiv 8).fmod 4).toNat 0 = ((openL.getD (fg / 8 % 4) 0 : Nat) : Int) := by
            have ht8 : (((fg : Int).fdiv 8).fmod 4).toNat = fg / 8 % 4 := by rw [Int.fdiv_eq_ediv_of_nonneg _ (by decide), Int.fmod_eq_emod_of_nonneg _ (by decide)]; omega
            rw [ht8]; exact ofNat_getD openL _
          have hnv2 := open_le (fg / 8 % 4)
          unfold bitOf2 at hft
          rw [if_neg hb] at hft
          generalize openL.getD (fg / 8 % 4) 0 = nv2 at hz5 hnv2 hft
          rw [if_neg (by decide)]
          k_steps
          rename_i lo h13 lt13 t13 t14 k14 q14 t15 k15 q15 t16 k16 q16 h17 F17 N17
          have A17 := fun o : Obj => apI.cons (a := lo) (o := o) fun p hp => Nat.ne_of_lt (allLt (l := ((I, oit) :: (D, W.listOf ys.toArray ny) :: (bare, W.listOf bareV.toArray 0) :: (near, W.listOf nearV.toArray 0) :: (s.heap.objs.size + 2, oc) :: (s.heap.objs.size + 1, od) :: junk)) lt13 p hp)
          have N18 := news_perm wr_perm2 N17
          have A18 := fun o : Obj => Ap.perm wr_perm2 (A17 o)
          have etx : ({ cps := (acc ++ [nv]).toArray } : Str) ++ { cps := #[(([8234, 8235, 8237, 8238] : List Int).getD (((fg : Int).fdiv 8).fmod 4).toNat 0).toNat] } ++ { cps := inn.toArray } ++ { cps := #[Int.toNat 8236] } = ⟨(acc ++ nv :: nv2 :: (inn ++ [8236])).toArray⟩ := PySem.Str.ext' (by rw [hz5]; simp [PySem.Str.cps_append])
          exact hP _ _ ⟨h17, _, _, _, rfl, F17, N18, (A18 _).head, _, _, t16, rfl, (A18 _).tail, hft, congrArg (fun x => some (Value.str x t16)) etx, hm2, hm3, hm4, hm5⟩
    · rintro h8 tk8 m8 news8 F8 N8 ⟨junk, acc, tt, rfl, ap, hfold, hm1, hm2, hm3, hm4, hm5⟩
      have hyl := ints_len hys
      rw [List.length_map] at hyl
      rw [List.size_toArray, hyl, List.take_length, htx] at hfold
      cases hfold
      dsimp only
      k_steps
      conv in bs 16 6 => whnf
      k_steps
      exact ret _ _ _ F8.keep
end Mine
end
section
open PySem PySem.W PySem.Calls PyProof.Rows PySem.Spec
set_option Elab.async false
set_option linter.unusedVariables false
set_option linter.unusedSimpArgs false
set_option maxRecDepth 100000
namespace Mine
open PyProof.Rows.LCg (NsObj ns_obj lst)
local macro_rules | `(tactic| walk_at "eval Name") => `(tactic| (k_here; k_dflt (refine' nameX_L ?F ?v ?_ ?a ?b; (case F => k_asm); (case a => rfl); (case b => rfl); (case v => assumption); k_whole)))
theorem CellsAre.four {m : Str → Option Value} {x1 x2 x3 x4 : Str} {c1 c2 c3 c4 : Addr} {cells : List (Addr × Obj)} (Y : CellsAre m [(x1, c1), (x2, c2), (x3, c3), (x4, c4)] cells) :
    ∃ o1 o2 o3 o4, cells = [(c1, o1), (c2, o2), (c3, o3), (c4, o4)] ∧ o1.data = .cell (m x1) ∧ o2.data = .cell (m x2) ∧ o3.data = .cell (m x3) ∧ o4.data = .cell (m x4) := by
  cases Y with | cons h r => obtain ⟨o2, o3, o4, rfl, h2, h3, h4⟩ := r.three; exact ⟨_, o2, o3, o4, rfl, h, h2, h3, h4⟩
theorem ints_mem {vs : List Value} {ns : List Int} (x : IntsAre vs ns) : ∀ v ∈ vs, ∃ k t, v = .int k t := by
  induction x with
  | nil => intro v h; cases h
  | cons k t _ ih =>
    intro v h
    rcases List.mem_cons.mp h with rfl | h
    · exact ⟨k, t, rfl⟩
    · exact ih v h
theorem ints_of_mem : ∀ {vs : List Value}, (∀ v ∈ vs, ∃ k t, v = .int k t) → ∃ ns, IntsAre vs ns
  | [], _ => ⟨[], .nil⟩
  | v :: vs, h => by
    obtain ⟨k, t, rfl⟩ := h v (.head _)
    obtain ⟨ns, x⟩ := ints_of_mem fun u hu => h u (.tail _ hu)
    exact ⟨k :: ns, .cons k t x⟩
theorem pick_ints {vs : List Value} {ns : List Int} (x : IntsAre vs ns) (lo hi st : Option Int) : ∃ ns', IntsAre (slicePick vs.toArray lo hi st).toList ns' := by
  refine ints_of_mem fun v hv => ?_
  unfold slicePick at hv
  obtain ⟨i, hi, hx⟩ := List.mem_filterMap.mp (by simpa using hv)
  exact ints_mem x v (List.mem_of_getElem? (by simpa using hx))
section
variable {prog : Program} {w : World} {A : Around} {E : Value → Shared → Prop} {s : Shared} {g : Heap} {L l : Addr} {m : Str → Option Value} {news : List (Addr × Obj)} {vs : List Value} {ns : List Int} {Q : Value → Shared → Prop}
theorem sliceInts {value slice : Expr} {vl vu vk : Value} {lo hi st : Option Int} {ops : List Value} (F : Fr g L s.heap m) (N : News g L s.heap news) (hl : g.IsList l vs.toArray) (x : IntsAre vs ns) (hz : vs.length ≤ 1000) (pl : IsPart vl lo) (pu : IsPart vu hi) (pk : IsPart vk st) (h0 : st ≠ some 0)
    (h : ∀ D ws ns' h', Fr g L h' m → News g L h' ((D, W.listOf (List.toArray ws) 0) :: news) → IntsAre ws ns' → Q (.ref D) { s with heap := h' })
    (hs : subscripted slice false (.ref l) (.ref s.heap.objs.size) = operate ops (getItem (.ref l) (.ref s.heap.objs.size)) := by with_unfolding_all rfl) (ht : ∀ r, letTemporaryGo value (.ref l) r = pure () := by intro _; with_unfolding_all rfl) :
    wpAny (model prog w) A (subscriptTail value slice (.ref l) (.ref s.heap.objs.size)) Q E { s with heap := s.heap.push { cls := .type "slice", data := .fields #[vl, vu, vk] } } := by
  obtain ⟨ns', x'⟩ := pick_ints x lo hi st
  refine slice_list3 F N (let ⟨o, e, r⟩ := hl; ⟨o, F.keep _ _ e, r⟩) pl pu pk h0 (fun h' F' N' => h _ _ ns' h' F' ?_ x') hs ht (Nat.le_trans (show _ ≤ 1000 by simpa using hz) (by decide))
  rw [Array.toArray_toList]
  exact N'
end
local macro_rules | `(tactic| walk_at "subscriptTail Name Slice ref ref") => `(tactic| (k_here; k_dflt (refine' sliceInts ?F ?N ?l ?x ?z ?pl ?pu ?pk ?o ?_ ?s ?t; (case F => k_asm); (case N => k_asm); (case l => assumption); (case x => assumption); (case z => assumption); (case pl => kmk_part); (case pu => kmk_part); (case pk => kmk_part); (case o => decide); (case s => with_unfolding_all rfl); (case t => kmk_pure)); intro D' ws' ns' h' F' N' hI'))
noncomputable def intsOf (u : List Nat) : List Int := -1 :: (u.drop 1).map Int.ofNat
noncomputable def Tree (u : List Nat) : Prop := ∃ a b c d e, u = [0, 0, a, b, c, d, e] ∧ a < 2 ∧ b < 3 ∧ c < 4 ∧ d < 5 ∧ e < 6
theorem fmod_nat (z : Int) {n : Nat} (h : 0 < n) : ∃ x : Nat, z.fmod (n : Int) = (x : Int) ∧ x < n := by
  rw [Int.fmod_eq_emod_of_nonneg _ (by omega)]
  have h1 := Int.emod_nonneg z (show (n : Int) ≠ 0 by omega)
  have h2 := Int.emod_lt_of_pos z (show (0 : Int) < n by omega)
  exact ⟨(z % n).toNat, by omega, by omega⟩
local macro_rules | `(tactic| walk_at "eval List") => `(tactic| (k_here; ((refine' listInts (ns := [0, 1, 2, 3, 2, 4, 1, 123456789]) ?F ?N ?e ?z ?_; (case F => k_asm); (case N => k_asm); (case e => with_unfolding_all rfl); (case z => decide)); intro D' vs' h' tk' F' N' lt' i')))
set_option maxHeartbeats 4000000
theorem law_a {w : World} {dp un : Nat} {fr : Option (List Env)} {gd : Option (List Code)} {s : Shared} {Q E : Value → Shared → Prop} {S : Addr} {us : List Value} {sc : List Int}
    (hd : dp + 100 < recursionLimit) (hu : un + 1000 < cLine) (C : Cx w s.heap) (hS : s.heap.IsList S us.toArray) (iS : IntsAre us sc) (hl : sc.length ≤ 63)
    (rest : ∀ (h : Heap) (tk : Nat) (m : Str → Option Value) (tb two one D : Addr) (twoV oneV ys : List Value) (ny : Nat) (sd : List Int) (u1 u2 : List Nat) (oW oC oO oS : Obj),
      Fr s.heap s.heap.objs.size h m → News s.heap s.heap.objs.size h [(tb, W.listOf [].toArray 0), (two, W.listOf twoV.toArray 0), (one, W.listOf oneV.toArray 0), (D, W.listOf ys.toArray ny), (s.heap.objs.size + 4, oW), (s.heap.objs.size + 3, oC), (s.heap.objs.size + 2, oO), (s.heap.objs.size + 1, oS)] →
      Ap [(tb, W.listOf [].toArray 0), (two, W.listOf twoV.toArray 0), (one, W.listOf oneV.toArray 0), (D, W.listOf ys.toArray ny), (s.heap.objs.size + 4, oW), (s.heap.objs.size + 3, oC), (s.heap.objs.size + 2, oO), (s.heap.objs.size + 1, oS)] →
      oW.data = .cell none → oC.data = .cell none → m (Str.ofString "tables") = some (.ref tb) → m (Str.ofString "two") = some (.ref two) → m (Str.ofString "one") = some (.ref one) → m (Str.ofString "seeds") = some (.ref D) →
      IntsAre oneV (intsOf u1) → IntsAre twoV (intsOf u2) → Tree u1 → Tree u2 → IntsAre ys sd → sd.length = 8 →
      wpAny (model PySem.Challenge.rw_zd0013_01.row.prog w) ((arA dp un fr gd).deeper (envOfC (Str.ofString "law") (fScope (stm 21)) s.heap.objs.size 288 (Value.ref 287))) (exec (bs 21 5) (envOfC (Str.ofString "law") (fScope (stm 21)) s.heap.objs.size 288 (Value.ref 287)))
        (fun f s' => match f with
          | Flow.next => wpAny (model PySem.Challenge.rw_zd0013_01.row.prog w) ((arA dp un fr gd).deeper (envOfC (Str.ofString "law") (fScope (stm 21)) s.heap.objs.size 288 (Value.ref 287))) (execs [bs 21 6, bs 21 7, bs 21 8, bs 21 9, bs 21 10, bs 21 11, bs 21 12] (envOfC (Str.ofString "law") (fScope (stm 21)) s.heap.objs.size 288 (Value.ref 287))) (fun fl s' => Q (retOf fl) s') (fun x x_1 => False) s'
          | f => Q (retOf f) s') (fun x x_1 => False) { heap := h, gens := s.gens, drawn := s.drawn, toks := tk, os := s.os }) :
    wpAny (MW w) (arA dp un fr gd) (call (.ref 288) [.ref S]) Q E s := by
  obtain ⟨mean, mg, mb, Tp⟩ := id C.t
  have X0 := C.k
  have hus : us.length ≤ 1000 := by rw [ints_len iS]; omega
  refine wpAny_call ?_
  refine enterCodeC [(Str.ofString "script", .ref S)] X0 Tp.nolimit (by show dp < _; omega) rfl rfl (BindsTo.of_eq rfl) (by intro n x hx; simp at hx; rcases hx with rfl; exact .inr ⟨rfl, rfl⟩) (by decide) fun h₁ tk cells F N Y => ?_
  replace F : Fr s.heap s.heap.objs.size h₁ (fun y => none) := F
  replace Y : CellsAre (fun y => if y = Str.ofString "script" then some (.ref S) else none) [(Str.ofString "way", s.heap.objs.size + 4), (Str.ofString "columns", s.heap.objs.size + 3), (Str.ofString "own", s.heap.objs.size + 2), (Str.ofString "script", s.heap.objs.size + 1)] cells := Y
  obtain ⟨oW, oC, oO, oS, rfl, hW, hC, hO, hSc⟩ := Y.four
  replace hW : oW.data = .cell none := hW
  replace hC : oC.data = .cell none := hC
  replace hO : oO.data = .cell none := hO
  replace hSc : oS.data = .cell (some (.ref S)) := hSc
  have N : News s.heap s.heap.objs.size h₁ [(s.heap.objs.size + 4, oW), (s.heap.objs.size + 3, oC), (s.heap.objs.size + 2, oO), (s.heap.objs.size + 1, oS)] := N
  clear Y
  have X := C.k
  unfold MW
  show wpAny _ _ (execs [bs 21 0, bs 21 1, bs 21 2, bs 21 3, bs 21 4, bs 21 5, bs 21 6, bs 21 7, bs 21 8, bs 21 9, bs 21 10, bs 21 11, bs 21 12] _) _ _ _
  revert X; k_fill; intro X
  k_steps
  conv in bs 21 0 => whnf
  k_steps
  rename_i own ownV h2 tk2 F2 N2 lt2 iO h3 oO2 F3 N3 hO2
  replace N3 : News s.heap s.heap.objs.size h3 [(own, W.listOf ownV.toArray 0), (s.heap.objs.size + 4, oW), (s.heap.objs.size + 3, oC), (s.heap.objs.size + 2, oO2), (s.heap.objs.size + 1, oS)] := N3
  have A0 : Ap [(s.heap.objs.size + 4, oW), (s.heap.objs.size + 3, oC), (s.heap.objs.size + 2, oO), (s.heap.objs.size + 1, oS)] := by
    simp only [Ap, List.map_cons, List.map_nil, List.nodup_cons, List.mem_cons, List.not_mem_nil, or_false, not_or, List.nodup_nil, and_true, not_false_eq_true]
    refine ⟨⟨?_, ?_, ?_⟩, ⟨?_, ?_⟩, ?_⟩ <;> (intro q; have := Nat.add_left_cancel q; omega)
  have A3 : Ap [(own, W.listOf ownV.toArray 0), (s.heap.objs.size + 4, oW), (s.heap.objs.size + 3, oC), (s.heap.objs.size + 2, oO2), (s.heap.objs.size + 1, oS)] := A0.cons fun p hp => Nat.ne_of_lt (lt2 p hp)
  have hO8 : ([0, 1, 2, 3, 2, 4, 1, 123456789] : List Int).length = 8 := rfl
  generalize ([0, 1, 2, 3, 2, 4, 1, 123456789] : List Int) = ownI at iO hO8
  clear lt2 F2 N2 A0 hO F N
  conv in bs 21 1 => whnf
  refine execListComp0 F3 (by with_unfolding_all rfl) rfl rfl (by with_unfolding_all rfl) (by decide) rfl (by decide) ?_ (by intro _; rfl)
  k_steps
  rename_i h6 tk6 ta tb tc hr F6 N6 k6
  refine compRange (n := 8) (fun Cc D i news' => ∃ oCc mC ys sd, news' = (Cc, oCc) :: (D, lst ys) :: [(own, W.listOf ownV.toArray 0), (s.heap.objs.size + 4, oW), (s.heap.objs.size + 3, oC), (s.heap.objs.size + 2, oO2), (s.heap.objs.size + 1, oS)] ∧ NsObj oCc mC ∧ IntsAre ys sd ∧ sd.length = i ∧ Ap news') rfl hr (by decide) (by decide) F6 N6 ?_ ?_ ?_
  · intro I Cc D oCc hoC q1 q2 q3 q4
    refine ⟨oCc, _, [], [], rfl, hoC, .nil, rfl, ?_⟩
    refine Ap.cons (Ap.cons A3 fun p hp => Nat.ne_of_lt (q4 p hp)) fun p hp => ?_
    rcases List.mem_cons.mp hp with rfl | hp
    · exact Nat.ne_of_lt q1
    · exact Nat.ne_of_lt (Nat.lt_trans (q4 p hp) q1)
  · rintro I Cc D i u news₁ oit ⟨H, g1, g2, g3, g4⟩ hi ⟨oCc, mC, ys, sd, rfl, hoC, hys, hyl, ap⟩ hne ⟨h7, tk7, e7⟩ F7 N7
    cases e7
    have e1i : (0 : Int) + (i : Int) = (i : Int) := by omega
    rw [e1i]
    have apI := ap.cons hne (o := oit)
    unfold TL0
    refine compStore (pre := [(I, oit)]) rfl rfl F7 N7 (Ap.left (pre := [(I, oit)]) apI) (Ap.right (pre := [(I, oit)]) apI) hoC fun h8 tk8 oC8 F8 N8 hoC8 => ?_
    have ap8 : Ap ((I, oit) :: (Cc, oC8) :: (D, lst ys) :: [(own, W.listOf ownV.toArray 0), (s.heap.objs.size + 4, oW), (s.heap.objs.size + 3, oC), (s.heap.objs.size + 2, oO2), (s.heap.objs.size + 1, oS)]) := Ap.set (pre := [(I, oit)]) apI
    have hkv : (fun y => if y = Str.ofString "i" then some (Value.int (i : Int) u) else mC y) (Str.ofString "i") = some (.int (i : Int) u) := rfl
    generalize (fun y => if y = Str.ofString "i" then some (Value.int (i : Int) u) else mC y) = m8 at hoC8 hkv
    dsimp only
    k_steps
    rename_i t9 D2 ws2 ns2 h9 F9 N9 iw2 h10 tk10 t10 F10 N10
    refine compAppend (pre := [(I, oit), (Cc, oC8)]) (post := [(own, W.listOf ownV.toArray 0), (s.heap.objs.size + 4, oW), (s.heap.objs.size + 3, oC), (s.heap.objs.size + 2, oO2), (s.heap.objs.size + 1, oS)]) F10 (news_tail N10) (Ap.left (pre := [(I, oit), (Cc, oC8)]) ap8) (Ap.right (pre := [(I, oit), (Cc, oC8)]) ap8) (Nat.le_trans (show ys.length ≤ 1000 by rw [ints_len hys]; omega) (by decide)) fun h11 F11 N11 => ?_
    have ap11 : Ap ((I, oit) :: (Cc, oC8) :: (D, lst (ys ++ [Value.int (ownI.getD (i : Int).toNat 0 + ns2.sum) tk10])) :: [(own, W.listOf ownV.toArray 0), (s.heap.objs.size + 4, oW), (s.heap.objs.size + 3, oC), (s.heap.objs.size + 2, oO2), (s.heap.objs.size + 1, oS)]) := Ap.set (pre := [(I, oit), (Cc, oC8)]) ap8
    exact ⟨h11, _, _, rfl, F11, N11, ap11.head, oC8, _, _, sd ++ [ownI.getD (i : Int).toNat 0 + ns2.sum], rfl, hoC8, ints_app hys (.cons _ _ .nil), by rw [List.length_append, List.length_singleton]; omega, ap11.tail⟩
  · rintro Cc D news' ⟨oCc, mC, ys, sd, rfl, hoC, hys, hyl, ap⟩
    refine ⟨oCc, mC, _, rfl, hoC, ap.head, fun h'' tk'' F'' N'' => ?_⟩
    have ap2 := ap.tail
    clear ap hoC oCc mC
    dsimp only
    k_steps
    conv in bs 21 2 => whnf
    k_steps
    conv in bs 21 3 => whnf
    k_steps
    conv in bs 21 4 => whnf
    k_steps
    rename_i t1 t2 t3 t4 t5 one h10 F10 N10 lt10 h11 tk11 one5 h12 lt12 t6 t7 two2 h13 lt13 two h14 lt14 h15 tk15 tb h16 lt16 h17 F17 N17
    have ap3 : ∀ o, Ap ((one, o) :: [(D, lst ys), (own, W.listOf ownV.toArray 0), (s.heap.objs.size + 4, oW), (s.heap.objs.size + 3, oC), (s.heap.objs.size + 2, oO2), (s.heap.objs.size + 1, oS)]) := fun o => ap2.cons fun p hp => Nat.ne_of_lt (allLt (by simp only [AllLt, and_true]; exact lt10) p hp)
    have ap4 : ∀ o o2, Ap ((two, o2) :: (one, o) :: [(D, lst ys), (own, W.listOf ownV.toArray 0), (s.heap.objs.size + 4, oW), (s.heap.objs.size + 3, oC), (s.heap.objs.size + 2, oO2), (s.heap.objs.size + 1, oS)]) := fun o o2 => (ap3 o).cons fun p hp => Nat.ne_of_lt (allLt (by simp only [AllLt, and_true]; exact lt14.2.2) p hp)
    have ap5 : ∀ o o2 o3, Ap ((tb, o3) :: (two, o2) :: (one, o) :: [(D, lst ys), (own, W.listOf ownV.toArray 0), (s.heap.objs.size + 4, oW), (s.heap.objs.size + 3, oC), (s.heap.objs.size + 2, oO2), (s.heap.objs.size + 1, oS)]) := fun o o2 o3 => (ap4 o o2).cons fun p hp => Nat.ne_of_lt (allLt (by simp only [AllLt, and_true]; exact ⟨lt16.1, lt16.2.2.2⟩) p hp)
    have sub : ∀ o o2 o3 o4 o5, List.Sublist [(tb, o3), (two, o2), (one, o), (D, lst ys), (s.heap.objs.size + 4, oW), (s.heap.objs.size + 3, oC), (s.heap.objs.size + 2, oO2), (s.heap.objs.size + 1, oS)]
        [(tb, o3), (two, o2), (two2, o5), (one5, o4), (one, o), (D, lst ys), (own, W.listOf ownV.toArray 0), (s.heap.objs.size + 4, oW), (s.heap.objs.size + 3, oC), (s.heap.objs.size + 2, oO2), (s.heap.objs.size + 1, oS)] := fun o o2 o3 o4 o5 => (((((((((List.Sublist.refl _).cons _).cons_cons _).cons_cons _).cons _).cons _).cons_cons _).cons_cons _))
    have sub2 : ∀ o o2 o3, List.Sublist [(tb, o3), (two, o2), (one, o), (D, lst ys), (s.heap.objs.size + 4, oW), (s.heap.objs.size + 3, oC), (s.heap.objs.size + 2, oO2), (s.heap.objs.size + 1, oS)]
        [(tb, o3), (two, o2), (one, o), (D, lst ys), (own, W.listOf ownV.toArray 0), (s.heap.objs.size + 4, oW), (s.heap.objs.size + 3, oC), (s.heap.objs.size + 2, oO2), (s.heap.objs.size + 1, oS)] := fun o o2 o3 => (((((List.Sublist.refl _).cons _).cons_cons _).cons_cons _).cons_cons _).cons_cons _
    obtain ⟨x2, e2, b2⟩ := fmod_nat (sd.getD (Int.toNat 0) 0) (n := 2) (by decide)
    obtain ⟨x3, e3, b3⟩ := fmod_nat (sd.getD (Int.toNat 1) 0) (n := 3) (by decide)
    obtain ⟨x4, e4, b4⟩ := fmod_nat (sd.getD (Int.toNat 2) 0) (n := 4) (by decide)
    obtain ⟨x5, e5, b5⟩ := fmod_nat (sd.getD (Int.toNat 3) 0) (n := 5) (by decide)
    obtain ⟨x6, e6, b6⟩ := fmod_nat (sd.getD (Int.toNat 4) 0) (n := 6) (by decide)
    obtain ⟨y5, f5, c5⟩ := fmod_nat (sd.getD (Int.toNat 5) 0) (n := 5) (by decide)
    obtain ⟨y6, f6, c6⟩ := fmod_nat (sd.getD (Int.toNat 6) 0) (n := 6) (by decide)
    refine rest h17 _ _ tb two one D _ _ ys ys.length sd [0, 0, x2, x3, x4, x5, x6] [0, 0, x2, x3, x4, y5, y6] oW oC oO2 oS F17 (fun p hp => N17 p ((sub _ _ _ _ _).subset hp)) (Ap.sub (sub2 _ _ _) (ap5 _ _ _)) hW hC rfl rfl rfl rfl ?_ ?_ ⟨x2, x3, x4, x5, x6, rfl, b2, b3, b4, b5, b6⟩ ⟨x2, x3, x4, y5, y6, rfl, b2, b3, b4, c5, c6⟩ hys hyl
    · show IntsAre [_, _, _, _, _, _, _] [-1, 0, (x2 : Int), (x3 : Int), (x4 : Int), (x5 : Int), (x6 : Int)]
      rw [← e2, ← e3, ← e4, ← e5, ← e6]
      exact .cons _ _ (.cons _ _ (.cons _ _ (.cons _ _ (.cons _ _ (.cons _ _ (.cons _ _ .nil))))))
    · show IntsAre [_, _, _, _, _, _, _] [-1, 0, (x2 : Int), (x3 : Int), (x4 : Int), (y5 : Int), (y6 : Int)]
      rw [← e2, ← e3, ← e4, ← f5, ← f6]
      exact .cons _ _ (.cons _ _ (.cons _ _ (.cons _ _ (.cons _ _ (.cons _ _ (.cons _ _ .nil))))))
end Mine
end
section
open PySem PySem.W PySem.Calls PyProof.Rows PySem.Spec PySem.SeqAt
set_option Elab.async false
set_option linter.unusedVariables false
set_option maxRecDepth 100000
namespace Mine
open AutoSeq1 (wpAny_loadPart')
open MeetsSeq MeetsSeq2 MeetsSeq3
/-- lists of ints, one below the other -/
noncomputable def ltL : List Int → List Int → Bool
  | a :: as, b :: bs => if a = b then ltL as bs else decide (a < b)
  | _, _ => false
theorem lt_loop (l b : Addr) (vs us : List Value) (as bs : List Int) (n n2 : Nat) (ia : IntsAre vs as) (ib : IntsAre us bs) (hsz : as.length = bs.length) (k : Nat) :
    ∀ i : Nat, as.length - i = k → Meets (Builtin.«list.__eq__.loop» ⟨[.ref l, .ref b, rawInt i, rawInt 0], []⟩)
      (fun A R s => s.heap.get? l = some (W.listOf vs.toArray n) ∧ s.heap.get? b = some (W.listOf us.toArray n2) ∧
        R (.ok (.ret (.bool (ltL (as.drop i) (bs.drop i))))) s) := by
  induction k with
  | zero =>
    intro i hk prog w A R s h
    obtain ⟨hp, g, d, tk, os⟩ := s; obtain ⟨hl, hb, h⟩ := h
    wp_walk using wpAny_loadPart' hl, wpAny_loadPart' hb
    have l1 := ints_len ia
    have l2 := ints_len ib
    have hi1 : vs.toArray[((i : Nat) : Int).toNat]? = none := by simp; omega
    have hi2 : us.toArray[((i : Nat) : Int).toNat]? = none := by simp; omega
    have hd : as.drop i = [] := by simp; omega
    rw [hd] at h
    rw [hi1, hi2]
    wp_walk using wpAny_loadPart' hl, wpAny_loadPart' hb
    show R (.ok (.ret (.bool (decide (vs.toArray.size < us.toArray.size))))) _
    have hn : ¬ vs.toArray.size < us.toArray.size := by simp; omega
    rw [decide_eq_false hn]
    exact h
  | succ k ih =>
    intro i hk prog w A R s h
    obtain ⟨hp, g, d, tk, os⟩ := s; obtain ⟨hl, hb, h⟩ := h
    wp_walk using wpAny_loadPart' hl, wpAny_loadPart' hb
    have hlt : i < as.length := by omega
    have hlt2 : i < bs.length := by omega
    obtain ⟨t1, ht1⟩ := ints_get ia (i := i) (List.getElem?_eq_getElem hlt)
    obtain ⟨t2, ht2⟩ := ints_get ib (i := i) (List.getElem?_eq_getElem hlt2)
    have hi1 : vs.toArray[((i : Nat) : Int).toNat]? = some (.int as[i] t1) := by simpa using ht1
    have hi2 : us.toArray[((i : Nat) : Int).toNat]? = some (.int bs[i] t2) := by simpa using ht2
    have hc : ((i : Int) + 1) = ((i + 1 : Nat) : Int) := by push_cast; rfl
    rw [List.drop_eq_getElem_cons hlt, List.drop_eq_getElem_cons hlt2, ltL] at h
    generalize as[i] = x at hi1 h
    generalize bs[i] = y at hi2 h
    rw [hi1, hi2]
    refine wpAny_bind (EqAt.int_int x t1 y t2 prog w _ _ ?_)
    by_cases hxy : x = y
    · rw [if_pos hxy] at h
      rw [show (x == y) = true by simpa using hxy]
      wp_walk
      rw [hc]
      exact ⟨plainId_quiet plain_eq_loop _, codeAny_builtin entry_eq_loop (by
        rw [Around.under_plainId plain_eq_loop _]
        exact ih (i + 1) (by omega) prog w A R _ ⟨hl, hb, h⟩)⟩
    · rw [if_neg hxy] at h
      rw [show (x == y) = false by simpa using hxy]
      wp_walk using wpAny_loadPart' hl, wpAny_loadPart' hb
      rw [hi1, hi2]
      show wpAny _ _ ((compareOp .Lt (.int x t1) (.int y t2)) >>= _) _ _ _
      refine wpAny_bind (lt_int ?_)
      wp_walk
      exact h
theorem list_lt (l b : Addr) (vs us : List Value) (as bs : List Int) (n n2 : Nat) (ia : IntsAre vs as) (ib : IntsAre us bs) (hsz : as.length = bs.length) :
    Meets (Builtin.«list.__lt__» ⟨[.ref l, .ref b], []⟩)
      (fun A R s => s.heap.get? l = some (W.listOf vs.toArray n) ∧ s.heap.get? b = some (W.listOf us.toArray n2) ∧ R (.ok (.ret (.bool (ltL as bs)))) s) := by
  intro prog w A R s h
  obtain ⟨hp, g, d, tk, os⟩ := s; obtain ⟨hl, hb, h⟩ := h
  have f3 := AutoSeq1.sub_list_list
  wp_walk using wpAny_loadPart' hl, wpAny_loadPart' hb
  exact ⟨plainId_quiet plain_eq_loop _, codeAny_builtin entry_eq_loop (by
    rw [Around.under_plainId plain_eq_loop _]
    exact lt_loop l b vs us as bs n n2 ia ib hsz _ 0 rfl prog w A R _ ⟨hl, hb, by simpa using h⟩)⟩
theorem ltLists {prog : Program} {w : World} {A : Around} {E : Value → Shared → Prop} {s : Shared} {a b : Addr} {vs us : List Value} {as bs : List Int} {n n2 : Nat} {Q : Value → Shared → Prop} (ha : s.heap.get? a = some (W.listOf vs.toArray n)) (hb : s.heap.get? b = some (W.listOf us.toArray n2)) (ia : IntsAre vs as) (ib : IntsAre us bs) (hsz : as.length = bs.length) (hu : A.units < cLine)
    (h : Q (.bool (ltL as bs)) s) : wpAny (model prog w) A (compareOp .Lt (.ref a) (.ref b)) Q E s := by
  have ta : s.heap.IsList a vs.toArray := ⟨_, ha, rfl, _, rfl⟩
  have tb : s.heap.IsList b us.toArray := ⟨_, hb, rfl, _, rfl⟩
  refine wpAny_richCompare_same_room (op := .Lt) ta.typeIs tb.typeIs PySem.F.slot_list_lt (call_meets PySem.F.slot_list_lt ta.typeIs PySem.F.entry_list_lt (PySem.F.args_list_lt_2 _ _) (list_lt a b vs us as bs n n2 ia ib hsz) ⟨ha, hb, ?_⟩) hu
  first
    | exact ⟨_, rfl, fun x => (nomatch x), h⟩
    | exact ⟨fun x => (nomatch x), h⟩
theorem hits_of {A : Around} {s : Shared} {kb : List (Int × Value)} {eb : List (Int × Int)} (ivb : IV kb eb) : ∀ {ka : List (Int × Value)} {ea : List (Int × Int)}, IV ka ea → (∀ k n, (k, n) ∈ ea → ilook eb k = some n) → KeqHits A s kb ka true := by
  intro ka ea iva
  induction iva with
  | nil => intro _; exact .nil
  | cons k n t _ ih =>
    intro h
    rcases ivb.look k with ⟨_, h2⟩ | ⟨n', t', h1, h2⟩
    · rw [h k n (.head _)] at h2; cases h2
    · rw [h k n (.head _)] at h2
      cases h2
      have := KeqHits.hit (r := _) (b := true) h1 (SeqAt.EqAt.int_int (A := A) (s := s) n t n t') (ih fun k' n' h' => h k' n' (.tail _ h'))
      rw [beq_self_eq_true] at this
      exact this
theorem neIntD {w : World} {A : Around} {E : Value → Shared → Prop} {s : Shared} {a b : Addr} {ea eb : List (Int × Int)} {Q : Value → Shared → Prop} (la : (a == sysModules) = false) (lb : (b == sysModules) = false) (da : IntD PR w s.heap a ea) (db : IntD PR w s.heap b eb) (hl : ea.length = eb.length) (hall : ∀ k n, (k, n) ∈ ea → ilook eb k = some n) (hu : A.units < cLine)
    (h : Q (.bool false) s) : wpAny (model PR w) A (compareOp .NotEq (.ref a) (.ref b)) Q E s := by
  obtain ⟨ka, ha, iva⟩ := da
  obtain ⟨kb, hb, ivb⟩ := db
  have hkl : ka.length = kb.length := by rw [iva.len, ivb.len, hl]
  refine keq_ne la lb ha hb hu (fun _ => hits_of ivb iva hall) ?_
  rw [hkl, beq_self_eq_true, Bool.true_and]
  exact h
theorem preSum_valSum : ∀ (es : List (Int × Int)) (a : Int), es.foldl (fun a e => a + e.2) a = a + preSum (fun i => (es.getD i (0, 0)).2) es.length
  | [], a => by simp [preSum]
  | e :: es, a => by
    rw [List.foldl_cons, preSum_valSum es, List.length_cons, kdu_shift]
    simp [Int.add_assoc]
theorem sumVals {w : World} {A : Around} {E : Value → Shared → Prop} {s : Shared} {g : Heap} {L d v : Addr} {m : Str → Option Value} {news : List (Addr × Obj)} {es : List (Int × Int)} {Q : Value → Shared → Prop} (hh : A.handled = none) (F : Fr g L s.heap m) (N : News g L s.heap news) (hv : s.heap.IsValuesView v d) (hd : IntD PR w s.heap d es)
    (h : ∀ t h' tk, Fr g L h' m → News g L h' news → Q (.int (valSum es) t) { s with heap := h', toks := tk }) : wpAny (model PR w) A (call (.builtin "sum") [.ref v]) Q E s := by
  obtain ⟨kvs, hk, iv⟩ := hd
  obtain ⟨ep, hat⟩ := hk.dictAt
  refine kdu_sum (kdl_values (knd := intKind PR w) (kvs := kvs) (ep := ep)) hh F N ⟨hv, hat⟩ (fun i => (es.getD i (0, 0)).2) (fun i u hu => ?_) fun h' tk t' F' N' => ?_
  · obtain ⟨k, hx⟩ := hu
    obtain ⟨n, t, hn, he⟩ := iv.get hx
    exact ⟨t, by rw [hn, List.getD_eq_getElem?_getD, he]; rfl⟩
  · have e : preSum (fun i => (es.getD i (0, 0)).2) kvs.length = valSum es := by
      have := preSum_valSum es 0
      unfold valSum
      rw [this, Int.zero_add, iv.len]
    rw [e]
    exact h t' h' tk F' N'
end Mine
end
section
open PySem PySem.W PySem.Calls PyProof.Rows PySem.Spec PySem.SeqAt PyProof.V
set_option Elab.async false
set_option linter.unusedVariables false
set_option maxRecDepth 100000
namespace Mine
theorem st_canLayAll0 : ∀ ns : List Str, (∀ x ∈ ns, PyData.strOk x = true) → PyData.canLayAll0 (ns.map PyData.str) = true
  | [], _ => rfl
  | x :: r, h => by simp [PyData.canLayAll0, PyData.canLay0, st_canLayAll0 r fun y hy => h y (.tail _ hy), h x (.head _)]
theorem st_depthAll : ∀ ns : List Str, PyData.depthAll (ns.map PyData.str) = 0
  | [] => rfl
  | _ :: r => by simp [PyData.depthAll, PyData.depth, st_depthAll r]
theorem st_shaped (ns : List Str) (h : ∀ x ∈ ns, PyData.strOk x = true) : SeqAt.shaped (.list (ns.map PyData.str)) = true := by
  simp [SeqAt.shaped, PyData.canLay0, PyData.depth, st_canLayAll0 ns h, st_depthAll]
theorem st_sameAll : ∀ ns ms : List Str, PySem.Spec.sameAll (ns.map PyData.str) (ms.map PyData.str) = decide (ns = ms)
  | [], [] => by simp [PySem.Spec.sameAll]
  | [], _ :: _ => by simp [PySem.Spec.sameAll]
  | _ :: _, [] => by simp [PySem.Spec.sameAll]
  | a :: r, b :: t => by
    simp only [List.map_cons, PySem.Spec.sameAll, PyProof.V.same_str, st_sameAll r t]
    by_cases h : a = b <;> by_cases h' : r = t <;> simp [h, h']
theorem cpsOf_inj : ∀ {a b : List Str}, cpsOf a = cpsOf b → a = b
  | [], [], _ => rfl
  | [], _ :: _, h => by simp [cpsOf] at h
  | _ :: _, [], h => by simp [cpsOf] at h
  | x :: a, y :: b, h => by
    have h' : x.cps.toList :: cpsOf a = y.cps.toList :: cpsOf b := h
    injection h' with h1 h2
    rw [cpsOf_inj h2, PySem.Str.ext' (Array.toList_inj.mp h1)]
theorem neStrs {prog : Program} {w : World} {A : Around} {E : Value → Shared → Prop} {s : Shared} {a b : Addr} {xs ys : Array Value} {ss ts : List Str} {Q : Value → Shared → Prop} (ha : s.heap.IsList a xs) (hb : s.heap.IsList b ys) (hi : StrsAre xs.toList ss) (hj : StrsAre ys.toList ts) (ox : ∀ x ∈ ss, PyData.strOk x = true) (oy : ∀ x ∈ ts, PyData.strOk x = true) (hu : A.units + 64 < cLine) (h : Q (.bool (!decide (cpsOf ss = cpsOf ts))) s) :
    wpAny (model prog w) A (compareOp .NotEq (.ref a) (.ref b)) Q E s := by
  have e : decide (cpsOf ss = cpsOf ts) = decide (ss = ts) := by
    by_cases q : ss = ts
    · rw [q]; simp
    · rw [decide_eq_false q, decide_eq_false fun q' => q (cpsOf_inj q')]
  rw [e] at h
  refine ne_dataH_same (reads_newData (ys := xs.toList) (by simpa using ha) hi.carried) (reads_newData (ys := ys.toList) (by simpa using hb) hj.carried) (st_shaped _ ox) (st_shaped _ oy) hu (SeqAt.noMix_of_shape (.list .str) rfl _ _ (list_map_has fun _ => rfl) (list_map_has fun _ => rfl)) ?_
  simp only [PySem.Spec.same]
  rw [st_sameAll]
  exact h
end Mine
end
section
open PySem PySem.W PySem.Calls PyProof.Rows PySem.Spec
set_option Elab.async false
set_option linter.unusedVariables false
set_option maxRecDepth 100000
namespace Mine
noncomputable def Rise (xs : Array Nat) : Prop := xs.toList.Pairwise (· < ·)
theorem Rise.lt {xs : Array Nat} (r : Rise xs) {i k : Nat} (h : i < k) (hk : k < xs.size) (d : Nat) : xs.getD i d < xs.getD k d := by
  have hi : i < xs.size := Nat.lt_trans h hk
  have := List.pairwise_iff_getElem.mp r i k (by simpa using hi) (by simpa using hk) h
  simpa [Array.getD, hi, hk] using this
/-- the place found by halving -/
structure Bel (xs : Array Nat) (j r : Nat) : Prop where
  le : r ≤ xs.size
  lo : ∀ k, k < r → xs.getD k j < j
  hi : ∀ k, r ≤ k → k < xs.size → ¬ xs.getD k j < j
theorem below_go {xs : Array Nat} {j : Nat} (r : Rise xs) : ∀ (fuel lo hi : Nat), hi - lo ≤ fuel → lo ≤ hi → hi ≤ xs.size → (∀ k, k < lo → xs.getD k j < j) → (∀ k, hi ≤ k → k < xs.size → ¬ xs.getD k j < j) → Bel xs j (SetTable.below.go xs j fuel lo hi) := by
  intro fuel
  induction fuel with
  | zero =>
    intro lo hi h1 h2 h3 h4 h5
    have e : lo = hi := by omega
    subst e
    exact ⟨h3, h4, h5⟩
  | succ fuel ih =>
    intro lo hi h1 h2 h3 h4 h5
    unfold SetTable.below.go
    by_cases hlt : lo < hi
    · rw [if_pos hlt]
      dsimp only
      by_cases hm : xs.getD ((lo + hi) / 2) j < j
      · rw [if_pos hm]
        refine ih _ _ (by omega) (by omega) h3 (fun k hk => ?_) h5
        by_cases e : k = (lo + hi) / 2
        · rw [e]; exact hm
        · exact Nat.lt_trans (r.lt (show k < (lo + hi) / 2 by omega) (by omega) j) hm
      · rw [if_neg hm]
        refine ih _ _ (by omega) (by omega) (by omega) h4 (fun k hk hks => ?_)
        by_cases e : k = (lo + hi) / 2
        · rw [e]; exact hm
        · exact fun q => hm (Nat.lt_trans (r.lt (show (lo + hi) / 2 < k by omega) hks j) q)
    · rw [if_neg hlt]
      have e : lo = hi := by omega
      subst e
      exact ⟨h3, h4, h5⟩
theorem below_ok {xs : Array Nat} (r : Rise xs) (j : Nat) : Bel xs j (SetTable.below xs j) :=
  below_go r xs.size 0 xs.size (by omega) (Nat.zero_le _) (Nat.le_refl _) (fun k h => absurd h (Nat.not_lt_zero _)) (fun k h1 h2 => absurd h2 (Nat.not_lt.mpr h1))
theorem Bel.eq {xs : Array Nat} {j r r' : Nat} (b : Bel xs j r) (b' : Bel xs j r') : r = r' := by
  rcases Nat.lt_trichotomy r r' with h | h | h
  · exact absurd (b'.lo r h) (b.hi r (Nat.le_refl _) (Nat.lt_of_lt_of_le h b'.le))
  · exact h
  · exact absurd (b.lo r' h) (b'.hi r' (Nat.le_refl _) (Nat.lt_of_lt_of_le h b.le))
theorem insert_rise {xs : Array Nat} {j : Nat} (r : Rise xs) (hn : xs[SetTable.below xs j]? ≠ some j) : Rise (SetTable.insertAt xs (SetTable.below xs j) j) := by
  have b := below_ok r j
  generalize SetTable.below xs j = p at b hn
  unfold Rise
  rw [SetTable.toList_insertAt]
  have hlo : ∀ x ∈ xs.toList.take p, x < j := by
    intro x hx
    obtain ⟨k, hk, rfl⟩ := List.mem_iff_getElem.mp hx
    rw [List.length_take] at hk
    have hk1 : k < p := by omega
    have hk2 : k < xs.size := by have := b.le; omega
    have := b.lo k hk1
    rw [List.getElem_take]
    simpa [Array.getD, hk2] using this
  have hhi : ∀ x ∈ xs.toList.drop p, j < x := by
    intro x hx
    obtain ⟨k, hk, rfl⟩ := List.mem_iff_getElem.mp hx
    rw [List.length_drop] at hk
    have hk2 : p + k < xs.size := by have : xs.toList.length = xs.size := Array.length_toList; omega
    rw [List.getElem_drop]
    have h1 := b.hi (p + k) (by omega) hk2
    have h2 : xs.getD (p + k) j = xs.toList[p + k]'(by simpa using hk2) := by simp [Array.getD, hk2]
    rw [h2] at h1
    rcases Nat.lt_or_ge j (xs.toList[p + k]'(by simpa using hk2)) with h | h
    · exact h
    · have he : xs.toList[p + k]'(by simpa using hk2) = j := by omega
      exfalso
      rcases Nat.eq_zero_or_pos k with rfl | hk0
      · apply hn
        rw [Array.getElem?_eq_getElem (by simpa using hk2)]
        simpa using he
      · have h3 := b.hi p (Nat.le_refl _) (by omega)
        have h4 := r.lt (show p < p + k by omega) hk2 j
        rw [h2, he] at h4
        exact h3 h4
  have pw : xs.toList.Pairwise (· < ·) := r
  rw [← List.take_append_drop p xs.toList] at pw
  obtain ⟨p1, p2, p3⟩ := List.pairwise_append.mp pw
  refine List.pairwise_append.mpr ⟨p1, List.pairwise_cons.mpr ⟨hhi, p2⟩, fun a ha c hc => ?_⟩
  rcases List.mem_cons.mp hc with rfl | hc
  · exact hlo a ha
  · exact Nat.lt_trans (hlo a ha) (hhi c hc)
/-- a table whose places rise, led or not -/
structure TOk (b : Bool) (t : SetTable) : Prop where
  led : t.led = b
  up : Rise t.place
noncomputable def NotIn (t : SetTable) (j : Nat) : Prop := t.place[SetTable.below t.place j]? ≠ some j
theorem slot_notIn {t : SetTable} {j : Nat} (h : ∀ i, t.slot j ≠ .live i) : NotIn t j := by
  intro e
  have hs : t.slot j = .live (SetTable.below t.place j) := by
    unfold SetTable.slot
    dsimp only
    rw [e, if_pos (beq_self_eq_true _)]
  exact h _ hs
theorem put_ok {b : Bool} {t : SetTable} {j : Nat} (T : TOk b t) (h : NotIn t j) : TOk b (t.put j).1 := ⟨T.led, insert_rise T.up h⟩
theorem probe_ok {t : SetTable} {f : Nat → Int} {h : Int} : ∀ (fuel : Nat) (p : SetTable.Probe) {j : Nat} {d : Option Nat}, (∀ x ∈ p.dummy, NotIn t x) → SetTable.probe.go t f h fuel p = some (.empty j d) → NotIn t j ∧ ∀ x ∈ d, NotIn t x
  | 0, p, j, d, _, e => by unfold SetTable.probe.go at e; cases e
  | fuel + 1, p, j, d, hp, e => by
    unfold SetTable.probe.go at e
    cases hs : t.slot p.j with
    | empty =>
      rw [hs] at e
      cases e
      exact ⟨slot_notIn (fun i q => by rw [hs] at q; cases q), hp⟩
    | dummy =>
      rw [hs] at e
      refine probe_ok fuel _ (fun x hx => ?_) e
      have hn : NotIn t p.j := slot_notIn fun i q => by rw [hs] at q; cases q
      unfold SetTable.advance at hx
      dsimp only at hx
      split at hx
      · simp at hx; subst hx; exact hn
      · simp at hx; subst hx; exact hn
    | live i =>
      rw [hs] at e
      dsimp only at e
      split at e
      · cases e
      · refine probe_ok fuel _ (fun x hx => hp x ?_) e
        unfold SetTable.advance at hx
        dsimp only at hx
        split at hx <;> exact hx
theorem free_ok {t : SetTable} {h : Int} {slot : Nat} {d : Bool} (e : t.freeSlot h = some (slot, d)) : NotIn t slot := by
  unfold SetTable.freeSlot at e
  split at e
  · rename_i j dm he
    have := probe_ok (t := t) _ _ (by intro x hx; simp [SetTable.probeStart] at hx) he
    cases dm with
    | none => cases e; exact this.1
    | some x => cases e; exact this.2 x rfl
  · cases e
theorem stand_ok {b : Bool} {t : SetTable} (T : TOk b t) (n : Nat) : TOk b (t.standIn n) := ⟨T.led, by
  show Rise (Array.range n)
  unfold Rise
  rw [Array.toList_range]
  exact List.pairwise_lt_range⟩
theorem orStand_ok {b : Bool} {t : SetTable} (T : TOk b t) (n : Nat) : TOk b (t.orStandIn n) := by
  unfold SetTable.orStandIn
  split
  · exact T
  · exact stand_ok T n
theorem layNew_ok {b : Bool} {t : SetTable} (T : TOk b t) (es : Array (Int × Value)) (h : Int) (x : Value) : TOk b (layNew t es h x).2.1 := by
  unfold layNew
  split
  · rename_i slot d e
    exact orStand_ok (put_ok T (free_ok e)) _
  · exact stand_ok T _
theorem relaid_ok {b : Bool} {t t' : SetTable} {hs : Array Int} {n : Nat} {o : Array Nat} (T : TOk b t) (e : t.relaid hs n = some (t', o)) : TOk b t' := by
  unfold SetTable.relaid SetTable.laid at e
  cases hc : SetTable.layClean (SetTable.sizeAbove n - 1) hs with
  | none => rw [hc] at e; cases e
  | some owner =>
    rw [hc] at e
    simp only [Option.bind_eq_bind, Option.bind_some, Option.pure_def, Option.some.injEq, Prod.mk.injEq] at e
    obtain ⟨rfl, _⟩ := e
    refine ⟨T.led, ?_⟩
    unfold Rise
    dsimp only
    refine List.pairwise_map.mpr ?_
    refine List.Pairwise.filterMap _ ?_ List.pairwise_lt_range
    intro a a' ha p hp q hq
    cases h1 : owner.getD a none with
    | none => rw [h1] at hp; cases hp
    | some k1 =>
      cases h2 : owner.getD a' none with
      | none => rw [h2] at hq; cases hq
      | some k2 =>
        rw [h1] at hp; rw [h2] at hq
        cases hp; cases hq
        exact ha
theorem relay_ok {b : Bool} {t : SetTable} (T : TOk b t) (es : Array (Int × Value)) (n : Nat) : TOk b (relayAll t es n).2.1 := by
  unfold relayAll
  split
  · rename_i t' o e
    dsimp only
    split
    · exact relaid_ok T e
    · exact stand_ok T _
  · exact stand_ok T _
end Mine
end
section
open PySem PySem.W PySem.Calls PyProof.Rows PySem.Spec
set_option Elab.async false
set_option linter.unusedVariables false
set_option maxRecDepth 100000
namespace Mine
section
variable {prog : Program} {w : World} {K : Type} [DecidableEq K] {knd : KeyKind prog w K} {A : Around} {E : Value → Shared → Prop} {s : Shared}
/-- a set, with its table's places in order, led or not -/
noncomputable def SetB (knd : KeyKind prog w K) (h : Heap) (a : Addr) (S : K → Bool) (n : Nat) (b : Bool) : Prop :=
  ∃ o es ep t, h.get? a = some o ∧ o.ExactSet ∧ o.data = .set es ep t ∧ ElemsOf knd es.toList ∧ (∀ k, S k = true ↔ ∃ e ∈ es.toList, knd.is k e.2 = true) ∧ es.size < scanBound ∧ t.fits es.size = true ∧ es.size = n ∧ TOk b t
theorem storeB {h : Heap} {a : Addr} {b : Bool} {o : Obj} {es es' : Array (Int × Value)} {ep : Nat} {t t' : SetTable} {S : K → Bool} (ho : h.get? a = some o) (hex : o.ExactSet) (hd : o.data = .set es ep t)
    (hel : ElemsOf knd es'.toList) (hmem : ∀ k, S k = true ↔ ∃ e ∈ es'.toList, knd.is k e.2 = true) (hb : es'.size < scanBound) (hf : t'.fits es'.size = true) (T : TOk b t') :
    (h.update a (Obj.putSet es' t')).get? a = some { o with data := .set es' (ep + 1) t' } ∧ SetB knd (h.update a (Obj.putSet es' t')) a S es'.size b := by
  obtain ⟨hg, _⟩ := SetOf_store (knd := knd) ho hex hd hel hmem hb hf
  exact ⟨hg, _, es', ep + 1, t', hg, hex, rfl, hel, hmem, hb, hf, rfl, T⟩
theorem addB {a : Addr} {S : K → Bool} {n : Nat} {b : Bool} {k : K} {x : Value} {Q : Bool → Shared → Prop} (hkey : knd.is k x = true) (hsc : x.scannable = true) (hS : SetB knd s.heap a S n b) (hroom : n + 1 < scanBound)
    (h : ∀ h', Heap.SameBut a s.heap h' → SetB knd h' a (fun k' => S k' || decide (k' = k)) (if S k then n else n + 1) b → Q (!S k) { s with heap := h' }) :
    wpAny (model prog w) A (setAddHashed a x (knd.hash k)) Q E s := by
  obtain ⟨o, es, ep, t, ho, hex, hd, hel, hmem, hb, hf, hn, T⟩ := hS
  unfold setAddHashed setAddHashedIn
  refine wpAny_holding (wpAny_bind (wpAny_setState_of ho hd hf ?_))
  dsimp only
  rw [byScan_of hsc hb hel]
  simp only [↓reduceIte]
  unfold setAddByScan
  refine wpAny_bind (wpAny_bind (wpAny_rule (wpAny_bind (wpAny_setScan_of hkey ho hd hf hel ?_))))
  cases hr : List.findIdx? (fun e => knd.is k e.2) es.toList with
  | some j =>
    obtain ⟨hj, hpj, _⟩ := List.findIdx?_eq_some_iff_getElem.mp hr
    have hSk : S k = true := (hmem k).mpr ⟨es.toList[j], List.getElem_mem hj, hpj⟩
    have q := h s.heap (Heap.SameBut.refl a s.heap) ⟨o, es, ep, t, ho, hex, hd, hel, fun k' => by
      rw [Bool.or_eq_true, decide_eq_true_eq, ← hmem k']
      exact ⟨fun hk => hk.elim id (fun e => e ▸ hSk), .inl⟩, hb, hf, by rw [hSk]; exact hn, T⟩
    rw [hSk] at q
    exact wpAny_pure (wpAny_pure q)
  | none =>
    have hSk : S k = false := by
      cases hk : S k with
      | false => rfl
      | true =>
        obtain ⟨e, he, hp⟩ := (hmem k).mp hk
        rw [List.findIdx?_eq_none_iff.mp hr e he] at hp
        cases hp
    have gw : ∀ (b : Bool) {s₁ : Shared} {Q' : Unit → Shared → Prop}, Q' () s₁ → wpAny (model prog w) A (match b with | true => rule "set.scan.the-table-gave-way" | false => pure ()) Q' E s₁ :=
      fun b s₁ Q' hq => by cases b; exact wpAny_pure hq; exact wpAny_rule hq
    dsimp only
    have hperm := layNew_perm t es (knd.hash k) x
    have hfits := layNew_fits t es (knd.hash k) x
    have T1 := layNew_ok T es (knd.hash k) x
    generalize layNew t es (knd.hash k) x = lay at hperm hfits T1 ⊢
    obtain ⟨es1, t1, wasD, gave⟩ := lay
    dsimp only at hperm hfits T1 ⊢
    rw [Array.toList_push] at hperm
    have hel1 : ElemsOf knd es1.toList := (hel.push hkey hsc).perm hperm
    have hmem1 : ∀ k', (S k' || decide (k' = k)) = true ↔ ∃ e ∈ es1.toList, knd.is k' e.2 = true := mem_push_iff hkey hmem hperm
    have hsz1 : es1.size = n + 1 := by rw [← Array.length_toList, hperm.length_eq, List.length_append, Array.length_toList, hn]; rfl
    have hb1 : es1.size < scanBound := by omega
    have fin : ∀ h', Heap.SameBut a s.heap h' → SetB knd h' a (fun k' => S k' || decide (k' = k)) es1.size b → Q true { s with heap := h' } := fun h' hsb hB => by
      have q := h h' hsb
      rw [hSk] at q
      rw [hsz1] at hB
      exact q hB
    refine wpAny_bind (gw _ ?_)
    have tail : ∀ (t2 : SetTable), t2.fits es1.size = true → TOk b t2 → wpAny (model prog w) A (do
        storeSet a es1 t2
        if (!wasD && t2.tooFull) = true then do
            (match (relayAll t2 es1 (SetTable.grown es1.size)).2.2 with | true => rule "set.scan.the-table-gave-way" | false => pure ())
            storeSet a (relayAll t2 es1 (SetTable.grown es1.size)).1 (relayAll t2 es1 (SetTable.grown es1.size)).2.1
            pure (some true)
          else pure (some true)) (fun r s' => r = some true ∧ ∃ h', s' = { s with heap := h' } ∧ Heap.SameBut a s.heap h' ∧ SetB knd h' a (fun k' => S k' || decide (k' = k)) es1.size b) E s := by
      intro t2 hf2 T2
      obtain ⟨ho1, hB1⟩ := storeB (knd := knd) ho hex hd hel1 hmem1 hb1 hf2 T2
      have sb1 := Heap.SameBut.update s.heap a (Obj.putSet es1 t2)
      refine wpAny_bind (wpAny_storeSet_of ho hd ?_ (fits_of_scanBound hb1))
      split
      · have hp := relayAll_perm t2 es1 (SetTable.grown es1.size)
        have hfr := relayAll_fits t2 es1 (SetTable.grown es1.size)
        have T3 := relay_ok T2 es1 (SetTable.grown es1.size)
        generalize relayAll t2 es1 (SetTable.grown es1.size) = re at hp hfr T3 ⊢
        obtain ⟨es2, t3, gave2⟩ := re
        dsimp only at hp hfr T3 ⊢
        have hsz : es2.size = es1.size := by rw [← Array.length_toList, hp.length_eq, Array.length_toList]
        have hb2 : es2.size < scanBound := by rw [hsz]; exact hb1
        refine wpAny_bind (gw _ ?_)
        refine wpAny_bind (wpAny_storeSet_of ho1 rfl ?_ (fits_of_scanBound hb2))
        obtain ⟨_, hB2⟩ := storeB (knd := knd) (S := fun k' => S k' || decide (k' = k)) ho1 hex rfl (hel1.perm hp) (fun k' => (hmem1 k').trans ⟨fun ⟨e, he, q⟩ => ⟨e, hp.mem_iff.mpr he, q⟩, fun ⟨e, he, q⟩ => ⟨e, hp.mem_iff.mp he, q⟩⟩) hb2 hfr T3
        rw [hsz] at hB2
        exact wpAny_pure ⟨rfl, _, rfl, sb1.trans (Heap.SameBut.update _ a _), hB2⟩
      · exact wpAny_pure ⟨rfl, _, rfl, sb1, hB1⟩
    have after : ∀ (r : Option Bool) (s' : Shared), (r = some true ∧ ∃ h', s' = { s with heap := h' } ∧ Heap.SameBut a s.heap h' ∧ SetB knd h' a (fun k' => S k' || decide (k' = k)) es1.size b) → ∃ q, r = some q ∧ Q q s' := by
      rintro r s' ⟨rfl, h', rfl, sb, hB⟩
      exact ⟨true, rfl, fin h' sb hB⟩
    split
    · refine wpAny_bind ?_
      rw [hashByValue_scannable 8 hsc]
      refine wpAny_pure ?_
      refine wpAny_mono (tail _ ?_ ?_) (fun r s' hq => ?_) (fun _ _ e => e)
      · split
        · exact hfits
        · exact SetTable.fits_plain_off hfits
      · split
        · exact T1
        · exact ⟨T1.led, T1.up⟩
      · obtain ⟨q, rfl, hq2⟩ := after r s' hq
        exact wpAny_pure hq2
    · refine wpAny_bind (wpAny_pure ?_)
      simp only [↓reduceIte]
      refine wpAny_mono (tail _ hfits T1) (fun r s' hq => ?_) (fun _ _ e => e)
      obtain ⟨q, rfl, hq2⟩ := after r s' hq
      exact wpAny_pure hq2
theorem SetB.at' {h h' : Heap} {a : Addr} {S : K → Bool} {n : Nat} {b : Bool} (x : SetB knd h a S n b) (k : ∀ o, h.get? a = some o → h'.get? a = some o) : SetB knd h' a S n b :=
  let ⟨o, es, ep, t, ho, r⟩ := x; ⟨o, es, ep, t, k o ho, r⟩
theorem SetB.congr {h : Heap} {a : Addr} {S S' : K → Bool} {n n' : Nat} {b : Bool} (x : SetB knd h a S n b) (e : ∀ k, S k = S' k) (en : n = n') : SetB knd h a S' n' b := by
  have : S = S' := funext e
  subst this; subst en; exact x
theorem loopB {R : Result → Shared → Prop} {I l S : Addr} {b : Bool} (hh : A.in1.handled = none) (hlI : l ≠ I) (hSI : S ≠ I) (hSl : S ≠ l) (items : Array Value) (val : Nat → Int) (hval : ∀ (i : Nat) (v : Value), items[i]? = some v → ∃ t, v = Value.int (val i) t) (hb : items.size + 1 < scanBound) :
    ∀ (k i : Nat) (s : Shared), items.size - i = k → i ≤ items.size → s.heap.IsListIter I l i → s.heap.IsList l items →
      SetB (intKind prog w) s.heap S (fun k' => (firstMet val i).any (· == k')) (firstMet val i).length b →
      (∀ h' tk, (∀ c o, c ≠ S → c ≠ I → s.heap.get? c = some o → h'.get? c = some o) → SetB (intKind prog w) h' S (fun k' => (firstMet val items.size).any (· == k')) (firstMet val items.size).length b → R (.ok (.ret .none)) { s with heap := h', toks := tk }) →
      codeAny (model prog w) A (.builtin "set.update.loop" ⟨[.ref S, .ref I], []⟩) R s := by
  have W := Walks.list (prog := prog) (w := w) hh I l hlI items
  intro k
  induction k with
  | zero =>
    intro i s hk hi h1 h2 hS hR
    have hin : i = items.size := by omega
    subst hin
    refine codeAny_builtin F.entry_set_update_loop ?_
    rw [Around.under_plainId F.plain_set_update_loop _]
    show wpAny _ A.in1 (pyNext (.ref I) >>= _) _ _ s
    refine wpAny_bind (W.done s _ _ ⟨h1, h2⟩ fun h' tk hk => ?_)
    show wpAny _ A.in1 (ret Value.none) _ _ _
    exact wpAny_pure (hR h' tk (fun c o _ hc e => hk c o (by simpa using hc) e) (hS.at' fun o e => hk S o (by simpa using hSI) e))
  | succ k ih =>
    intro i s hk hi h1 h2 hS hR
    have hlt : i < items.size := by omega
    refine codeAny_builtin F.entry_set_update_loop ?_
    rw [Around.under_plainId F.plain_set_update_loop _]
    show wpAny _ A.in1 (pyNext (.ref I) >>= _) _ _ s
    refine wpAny_bind (W.item i s _ _ hlt ⟨h1, h2⟩ fun v h1' tk1 hP hst hk1 => ?_)
    obtain ⟨t, rfl⟩ := hval i v hP
    have hS1 : SetB (intKind prog w) h1' S (fun k' => (firstMet val i).any (· == k')) (firstMet val i).length b := hS.at' fun o e => hk1 S o (by simpa using hSI) e
    show wpAny _ A.in1 (holding [Value.int (val i) t] (setAdd S (.int (val i) t)) >>= _) _ _ _
    refine wpAny_bind (wpAny_holding ?_)
    unfold setAdd
    refine wpAny_holding (wpAny_bind ((intKind prog w).pyHash (k := val i) (intKind_is _ _ _ _) ?_))
    have hroom : (firstMet val i).length + 1 < scanBound := by have := firstMet_length_le val i; omega
    refine addB (knd := intKind prog w) (k := val i) (s := { s with heap := h1', toks := tk1 + 1 }) (intKind_is _ _ _ _) rfl hS1 hroom fun h2' sb hS2 => ?_
    have hS3 : SetB (intKind prog w) h2' S (fun k' => (firstMet val (i + 1)).any (· == k')) (firstMet val (i + 1)).length b := hS2.congr (fun k' => by rw [firstMet_succ, step_any]) (by rw [firstMet_succ, step_length])
    have oth : ∀ c o, c ≠ S → h1'.get? c = some o → h2'.get? c = some o := fun c o hc e => (sb.2 c hc).trans e
    refine wpAny_pure ⟨plainId_quiet F.plain_set_update_loop _, ih (i + 1) _ (by omega) hlt ?_ ?_ hS3 fun h' tk hk' hS' => ?_⟩
    · obtain ⟨o, ho, r⟩ := hst.1; exact ⟨o, oth _ _ (Ne.symm hSI) ho, r⟩
    · obtain ⟨o, ho, r⟩ := hst.2; exact ⟨o, oth _ _ (Ne.symm hSl) ho, r⟩
    · exact hR h' tk (fun c o hc1 hc2 e => hk' c o hc1 hc2 (oth c o hc1 (hk1 c o (by simpa using hc2) e))) hS'
end
end Mine
end
section
open PySem PySem.W PySem.Calls PyProof.Rows PySem.Spec
set_option Elab.async false
set_option linter.unusedVariables false
set_option maxRecDepth 100000
namespace Mine
section
variable {prog : Program} {w : World} {A : Around} {E : Value → Shared → Prop} {s : Shared}
/-- a new set's object -/
noncomputable abbrev freshSet (b : Bool) : Obj := { cls := .type "set", dict := none, data := .set #[] 0 (.fresh 0 0 b) }
theorem fresh_B (b : Bool) {h : Heap} {a : Addr} (ho : h.get? a = some (freshSet b)) : SetB (intKind prog w) h a (fun _ => false) 0 b :=
  ⟨_, #[], 0, _, ho, ⟨rfl, rfl, rfl⟩, rfl, fun e he => by simp at he, fun k => by simp, by decide, by rfl, rfl, rfl, by unfold Rise; exact .nil⟩
theorem setNew (a : Value) {Q₁ : Value → Shared → Prop} (h : Q₁ (.ref s.heap.objs.size) { s with heap := s.heap.push (freshSet (!w.params.followText "set-order")) }) :
    codeAny (model prog w) A (.call (.builtin "set.__new__") ⟨[.type "set", a], []⟩) (wants Q₁ E) s := by
  refine codeAny_of_tree ?_
  show wpAny _ A.in1 (do checkBuiltinCall "set.__new__" ⟨[.type "set", a], []⟩; again (.builtin "set.__new__" ⟨[.type "set", a], []⟩)) _ _ s
  refine wpAny_bind (wpAny_of_eq (F.newCall_set_1 a) (wpAny_pure ⟨plainId_quiet F.plain_set_new _, codeAny_builtin F.entry_set_new ?_⟩))
  rw [Around.under_plainId F.plain_set_new _]
  unfold Builtin.«set.__new__» Builtin.Frozenset.newClass
  have hsub := sub_set_self
  obtain ⟨hp, g, d, tk, os⟩ := s
  dsimp only
  wp_walk
  refine wpAny_askSetting (wpAny_pure ?_)
  dsimp only
  simp only [newObj]
  refine wpAny_bind (wpAny_alloc (wpAny_pure ?_))
  exact wpAny_pure h
set_option maxHeartbeats 3200000 in
theorem newB {l : Addr} {items : Array Value} {ns : List Int} {Q : Value → Shared → Prop} (hh : A.handled = none) (hl : s.heap.IsList l items) (hi : IntsAre items.toList ns) (hb : items.size + 1 < scanBound)
    (h : ∀ (h' : Heap) (tk : Nat), SetB (intKind prog w) h' s.heap.objs.size (fun k' => (firstMet (fun i => ns.getD i 0) items.size).any (· == k')) (firstMet (fun i => ns.getD i 0) items.size).length (!w.params.followText "set-order") →
      (∀ b o, (b : Nat) < s.heap.objs.size → s.heap.get? b = some o → h'.get? b = some o) → Q (.ref s.heap.objs.size) { s with heap := h', toks := tk }) :
    wpAny (model prog w) A (call (.type "set") [.ref l]) Q E s := by
  obtain ⟨c, tl, hmro⟩ := F.called_set.mro
  have hmade := F.called_set.made
  have hsub := F.called_set.sub
  refine wpAny_call (codeAny_of_tree ?_)
  show wpAny _ _ (callAny (.type "set") _) _ _ _
  refine wpAny_pure ⟨Code.quiet_builtin _ (by decide +kernel), codeAny_builtin F.entry_type_call ?_⟩
  rw [Around.under_plain (weight_type_call_type "set" [.ref l] []) rfl]
  have h1 := F.called_set.notType
  have h2 := F.called_set.canCreate
  have hct := F.typeCall_set_1 (.ref l)
  repeat (any_goals (first | assumption | wp_step))
  generalize hbv : (!w.params.followText "set-order") = bv at h
  refine codeAny_mono (setNew (.ref l) (E := E) (Q₁ := fun obj s₁ => obj = .ref s.heap.objs.size ∧ s₁ = { s with heap := s.heap.push (freshSet (!w.params.followText "set-order")) }) ⟨rfl, rfl⟩) fun r s₁ hr => ?_
  rw [hbv] at hr
  cases r with
  | error e => exact hr
  | ok fl =>
    cases fl with
    | ret obj =>
      obtain ⟨rfl, rfl⟩ := hr
      have hS : (s.heap.push (freshSet bv)).get? s.heap.objs.size = some (freshSet bv) := Heap.get?_push_size _ rfl
      have hT : Shared.TypeIs { s with heap := s.heap.push (freshSet bv) } (.ref s.heap.objs.size) "set" := ⟨_, hS, rfl⟩
      have hli := F.called_set.init.lookup
      have hbi := F.called_set.init.bind (.ref s.heap.objs.size)
      repeat (any_goals (first | assumption | wp_step))
      refine codeAny_mono (codeAny_call_builtin (R := wants (fun r s₂ => r = .none ∧ ∃ h' tk, s₂ = { s with heap := h', toks := tk } ∧
          SetB (intKind prog w) h' s.heap.objs.size (fun k' => (firstMet (fun i => ns.getD i 0) items.size).any (· == k')) (firstMet (fun i => ns.getD i 0) items.size).length bv ∧
          (∀ b o, (b : Nat) < s.heap.objs.size → s.heap.get? b = some o → h'.get? b = some o)) E) F.called_set.init.plain F.entry_set_init (check_set_init_1 hT ?_)) fun r₂ s₂ hr₂ => ?_
      · have hlS : (l : Nat) < s.heap.objs.size := by obtain ⟨o, ho, _⟩ := hl; exact Heap.lt_size ho
        obtain ⟨ol, hol, hcl, nl, hdl⟩ := hl
        obtain ⟨ocls, odict, odata, oslots⟩ := ol
        simp only at hcl hdl
        subst hcl; subst hdl
        have hol' : (s.heap.push (freshSet bv)).get? l = some { cls := .type "list", dict := odict, data := .seq items nl, slots := oslots } := Heap.get?_push_of_some _ hol
        have hsls := F.sub_list_set
        have hslf := F.sub_list_frozenset
        have hne : (Value.type "list" == Value.type "dict") = false := by decide
        have hl1 : (s.heap.push (freshSet bv)).IsList l items := ⟨_, hol', rfl, nl, rfl⟩
        unfold Builtin.«set.__init__» noKeywords Builtin.Frozenset.updateFrom
        generalize hPI : pyIter = PI
        wp_walk
        subst hPI
        refine wpAny_pyIter_list hl1 ?_
        refine wpAny_bind (wpAny_runValue ?_)
        have hsz : (s.heap.push (freshSet bv)).objs.size = s.heap.objs.size + 1 := by rw [Heap.size_push]
        have kp := push_sub (s.heap.push (freshSet bv)) { cls := .type "list_iterator", data := .fields #[.ref l, .int 0 0] }
        refine loopB (I := (s.heap.push (freshSet bv)).objs.size) (l := l) (S := s.heap.objs.size) (b := bv) (by simp [hh]) (by rw [hsz]; exact Nat.ne_of_lt (Nat.lt_succ_of_lt hlS)) (by rw [hsz]; exact Nat.ne_of_lt (Nat.lt_succ_self _)) (Nat.ne_of_gt hlS) items (fun i => ns.getD i 0)
          (fun i v hv => IntsAre.int_at hi i v (by rw [Array.getElem?_toList]; exact hv)) hb (items.size - 0) 0 _ (by omega) (Nat.zero_le _) ⟨_, Heap.get?_push_size _ rfl, rfl, rfl⟩ ⟨_, kp _ _ hol', rfl, nl, rfl⟩
          ((fresh_B bv (kp _ _ hS)).congr (fun _ => rfl) rfl) fun h' tk hk hB => ?_
        refine wpAny_pure ?_
        show wpAny _ _ (ret Value.none) _ _ _
        refine wpAny_pure ⟨rfl, h', tk, rfl, hB, fun b o hbl e => hk b o (Nat.ne_of_lt hbl) (by rw [hsz]; exact Nat.ne_of_lt (Nat.lt_succ_of_lt hbl)) (kp _ _ (Heap.get?_push_of_some _ e))⟩
      · cases r₂ with
        | error e => exact hr₂
        | ok fl₂ =>
          cases fl₂ with
          | ret r =>
            obtain ⟨rfl, h', tk, rfl, hB, hk⟩ := hr₂
            repeat (any_goals (first | assumption | wp_step))
            exact h _ _ hB hk
          | _ => exact hr₂.elim
    | _ => exact hr.elim
end
end Mine
end
section
open PySem PySem.W PySem.Calls PyProof.Rows PySem.Spec
set_option Elab.async false
set_option linter.unusedVariables false
set_option maxRecDepth 100000
namespace Mine
theorem slot_si_next : Slot "set_iterator" "__next__" "set_iterator.__next__" :=
  .of (owner := "set_iterator") (n := "__next__") (by rw [typeLookup_type, builtinLookup_eq_fast]; kernel_rfl) (by decide +kernel) (by decide +kernel) (by decide +kernel)
    (by first | exact .inl (by decide +kernel) | exact .inr (by decide +kernel)) (by rw [isSubtype_type]; kernel_rfl)
theorem entry_si_next : entryFor table "set_iterator.__next__" = some Builtin.«set_iterator.__next__» := entryFor_of_tree (by kernel_rfl)
theorem args_si_next (a : Value) : argsOk "set_iterator.__next__" ⟨[a], []⟩ := by
  unfold argsOk
  kernel_rfl
theorem entry_s_iter : entryFor table "set.__iter__" = some Builtin.«frozenset.__iter__» := entryFor_alias (id' := "frozenset.__iter__") (by kernel_rfl) rfl (by decide +kernel) (by kernel_rfl)
theorem stop_sub : isSubtype (.type "StopIteration") (.type "StopIteration") = pure true := by rw [isSubtype_type]; kernel_rfl
section
variable {prog : Program} {w : World} {A : Around} {E : Value → Shared → Prop} {s : Shared}
/-- an iterator over a set -/
noncomputable abbrev siObj (first : Value) (i : Nat) (a : Addr) (n ep : Nat) : Obj := { cls := .type "set_iterator", data := .fields #[first, rawInt i, .ref a, rawInt n, rawInt ep] }
theorem si_item {I a : Addr} {slot i n ep next : Nat} {o : Obj} {es : Array (Int × Value)} {t : SetTable} {x : Value} {Q : Option Value → Shared → Prop}
    (hI : s.heap.get? I = some (siObj (rawInt slot) i a n ep)) (ho : s.heap.get? a = some o) (hd : o.data = .set es ep t) (hf : t.fits es.size = true) (hn : es.size = n)
    (hN : ∀ {A' : Around} {E' : Value → Shared → Prop} {Q' : Option (Value × Nat) → Shared → Prop}, Q' (some (x, next)) s → wpAny (model prog w) A' (setNext a slot i ep) Q' E' s)
    (h : ∀ h', h'.get? I = some (siObj (rawInt next) (i + 1) a n ep) → Heap.SameBut I s.heap h' → Q (some x) { s with heap := h' }) : wpAny (model prog w) A (pyNext (.ref I)) Q E s := by
  have hT : s.TypeIs (.ref I) "set_iterator" := ⟨_, hI, rfl⟩
  unfold pyNext
  refine wpAny_bind (wpAny_attempt (wpAny_callSpecial?_slot (name := Str.ofString "__next__") hT slot_si_next
    (wpAny_call_entry slot_si_next hT entry_si_next ?_ (args_si_next _))))
  unfold Builtin.«set_iterator.__next__»
  refine wpAny_bind (wpAny_pure ?_)
  refine wpAny_bind (wpAny_fieldsOf hI rfl ?_)
  dsimp only [rawInt]
  refine wpAny_bind (wpAny_setEntries_of ho hd hf ?_)
  rw [if_neg (by rw [hn]; simp)]
  simp only [Int.toNat_natCast]
  refine wpAny_bind (hN ?_)
  dsimp only
  refine wpAny_bind (wpAny_setField hI rfl (by simp) ?_)
  have h1 := Heap.get?_update_self (Obj.mapFields fun x => x.setIfInBounds 0 (Value.int ((next : Nat) : Int) 0)) hI rfl
  refine wpAny_bind (wpAny_setField h1 rfl (by simp) ?_)
  have h2 := Heap.get?_update_self (Obj.mapFields fun x => x.setIfInBounds 1 (Value.int (((i : Nat) : Int) + 1) 0)) h1 rfl
  refine wpAny_pure ⟨x, rfl, wpAny_pure (h _ ?_ ((Heap.SameBut.update s.heap I _).trans (Heap.SameBut.update _ I _)))⟩
  rw [h2]
  rfl
theorem si_end {I a : Addr} {slot i n ep : Nat} {o : Obj} {es : Array (Int × Value)} {t : SetTable} {Q : Option Value → Shared → Prop} (hh : A.handled = none)
    (hI : s.heap.get? I = some (siObj (rawInt slot) i a n ep)) (ho : s.heap.get? a = some o) (hd : o.data = .set es ep t) (hf : t.fits es.size = true) (hn : es.size = n)
    (hN : ∀ {A' : Around} {E' : Value → Shared → Prop} {Q' : Option (Value × Nat) → Shared → Prop}, Q' none s → wpAny (model prog w) A' (setNext a slot i ep) Q' E' s)
    (h : ∀ h', Heap.ExtBut I s.heap h' → Q none { s with heap := h' }) : wpAny (model prog w) A (pyNext (.ref I)) Q E s := by
  have hT : s.TypeIs (.ref I) "set_iterator" := ⟨_, hI, rfl⟩
  unfold pyNext
  refine wpAny_bind (wpAny_attempt (wpAny_callSpecial?_slot (name := Str.ofString "__next__") hT slot_si_next
    (wpAny_call_entry slot_si_next hT entry_si_next ?_ (args_si_next _))))
  unfold Builtin.«set_iterator.__next__»
  refine wpAny_bind (wpAny_pure ?_)
  refine wpAny_bind (wpAny_fieldsOf hI rfl ?_)
  dsimp only [rawInt]
  refine wpAny_bind (wpAny_setEntries_of ho hd hf ?_)
  rw [if_neg (by rw [hn]; simp)]
  simp only [Int.toNat_natCast]
  refine wpAny_bind (hN ?_)
  dsimp only
  refine wpAny_bind (wpAny_setField hI rfl (by simp) ?_)
  refine wpAny_bind ?_
  simp only [newExc, newTuple]
  refine wpAny_bind (wpAny_newObj_type ?_ (by size_fits))
  refine wpAny_bind (m := firstArgMember _ _) (wpAny_of_eq (a := Value.none) (by first | rfl | (simp only [firstArgMember]; rfl)) ?_)
  refine wpAny_newObj_type ?_ (by size_fits)
  simp only [raiseNew]
  refine wpAny_bind (wpAny_handled ?_)
  rw [show A.in1.handled = none from hh]
  refine wpAny_bind (wpAny_pure (wpAny_throw ?_))
  refine wpAny_bind (wpAny_isInstance (T := "StopIteration") (b := true) ⟨_, Heap.get?_push_size _ rfl, rfl⟩ stop_sub ?_)
  exact wpAny_pure (h _ (((Heap.SameBut.update ..).extBut.push _).push _))
/-- the drawn iterator -/
theorem sd_item {I a tu : Addr} {i n ep j : Nat} {o ot : Obj} {ps : Array Value} {k : Nat} {es : Array (Int × Value)} {t : SetTable} {x : Int × Value} {Q : Option Value → Shared → Prop}
    (hI : s.heap.get? I = some (siObj (.ref tu) i a n ep)) (ho : s.heap.get? a = some o) (hd : o.data = .set es ep t) (hf : t.fits es.size = true) (hn : es.size = n)
    (htu : s.heap.get? tu = some ot) (hot : ot.data = .seq ps k) (hp : ps[i]? = some (rawInt j)) (hx : es[j]? = some x)
    (h : ∀ h', h'.get? I = some (siObj (.ref tu) (i + 1) a n ep) → Heap.SameBut I s.heap h' → Q (some x.2) { s with heap := h' }) : wpAny (model prog w) A (pyNext (.ref I)) Q E s := by
  have hT : s.TypeIs (.ref I) "set_iterator" := ⟨_, hI, rfl⟩
  unfold pyNext
  refine wpAny_bind (wpAny_attempt (wpAny_callSpecial?_slot (name := Str.ofString "__next__") hT slot_si_next
    (wpAny_call_entry slot_si_next hT entry_si_next ?_ (args_si_next _))))
  unfold Builtin.«set_iterator.__next__»
  refine wpAny_bind (wpAny_pure ?_)
  refine wpAny_bind (wpAny_fieldsOf hI rfl ?_)
  dsimp only [rawInt]
  refine wpAny_bind (wpAny_setEntries_of ho hd hf ?_)
  rw [if_neg (by rw [hn]; simp)]
  refine wpAny_bind (wpAny_seqItems htu hot ?_)
  simp only [Int.toNat_natCast]
  rw [hp]
  dsimp only [rawInt]
  simp only [Int.toNat_natCast]
  unfold setNextDrawn
  refine wpAny_bind (wpAny_bind (wpAny_setState_of ho hd hf ?_))
  dsimp only
  rw [if_neg (by simp), hx]
  refine wpAny_pure ?_
  refine wpAny_bind (wpAny_setField hI rfl (by simp) ?_)
  have h1 := Heap.get?_update_self (Obj.mapFields fun x => x.setIfInBounds 1 (Value.int (((i : Nat) : Int) + 1) 0)) hI rfl
  refine wpAny_pure ⟨x.2, rfl, wpAny_pure (h _ ?_ (Heap.SameBut.update s.heap I _))⟩
  rw [h1]
  rfl
theorem sd_end {I a tu : Addr} {i n ep : Nat} {o ot : Obj} {ps : Array Value} {k : Nat} {es : Array (Int × Value)} {t : SetTable} {Q : Option Value → Shared → Prop} (hh : A.handled = none)
    (hI : s.heap.get? I = some (siObj (.ref tu) i a n ep)) (ho : s.heap.get? a = some o) (hd : o.data = .set es ep t) (hf : t.fits es.size = true) (hn : es.size = n)
    (htu : s.heap.get? tu = some ot) (hot : ot.data = .seq ps k) (hp : ps[i]? = none)
    (h : ∀ h', Heap.ExtBut I s.heap h' → Q none { s with heap := h' }) : wpAny (model prog w) A (pyNext (.ref I)) Q E s := by
  have hT : s.TypeIs (.ref I) "set_iterator" := ⟨_, hI, rfl⟩
  unfold pyNext
  refine wpAny_bind (wpAny_attempt (wpAny_callSpecial?_slot (name := Str.ofString "__next__") hT slot_si_next
    (wpAny_call_entry slot_si_next hT entry_si_next ?_ (args_si_next _))))
  unfold Builtin.«set_iterator.__next__»
  refine wpAny_bind (wpAny_pure ?_)
  refine wpAny_bind (wpAny_fieldsOf hI rfl ?_)
  dsimp only [rawInt]
  refine wpAny_bind (wpAny_setEntries_of ho hd hf ?_)
  rw [if_neg (by rw [hn]; simp)]
  refine wpAny_bind (wpAny_seqItems htu hot ?_)
  simp only [Int.toNat_natCast]
  rw [hp]
  dsimp only [rawInt]
  refine wpAny_bind (wpAny_setField hI rfl (by simp) ?_)
  have h1 := Heap.get?_update_self (Obj.mapFields fun x => x.setIfInBounds 0 (Value.int 0 0)) hI rfl
  refine wpAny_bind (wpAny_setField h1 rfl (by simp) ?_)
  refine wpAny_bind ?_
  simp only [newExc, newTuple]
  refine wpAny_bind (wpAny_newObj_type ?_ (by size_fits))
  refine wpAny_bind (m := firstArgMember _ _) (wpAny_of_eq (a := Value.none) (by first | rfl | (simp only [firstArgMember]; rfl)) ?_)
  refine wpAny_newObj_type ?_ (by size_fits)
  simp only [raiseNew]
  refine wpAny_bind (wpAny_handled ?_)
  rw [show A.in1.handled = none from hh]
  refine wpAny_bind (wpAny_pure (wpAny_throw ?_))
  refine wpAny_bind (wpAny_isInstance (T := "StopIteration") (b := true) ⟨_, Heap.get?_push_size _ rfl, rfl⟩ stop_sub ?_)
  exact wpAny_pure (h _ ((((Heap.SameBut.update s.heap I _).trans (Heap.SameBut.update _ I _)).extBut.push _).push _))
end
end Mine
end
section
open PySem PySem.W PySem.Calls PyProof.Rows PySem.Spec
set_option Elab.async false
set_option linter.unusedVariables false
set_option maxRecDepth 100000
namespace Mine
theorem erase_perm {α : Type} : ∀ {l : List α} {i : Nat} {x : α}, l[i]? = some x → (x :: l.eraseIdx i).Perm l
  | [], i, x, h => by simp at h
  | y :: l, 0, x, h => by simp at h; subst h; exact .refl _
  | y :: l, i + 1, x, h => by
    have h' : l[i]? = some x := by simpa using h
    exact (List.Perm.swap y x (l.eraseIdx i)).trans ((erase_perm h').cons y)
theorem pick_go {α : Type} (next : Nat → Nat) : ∀ (fuel k : Nat) (left : List α) (out : Array α), fuel = left.length → (pickOrder.go next fuel k left out).toList.Perm (out.toList ++ left)
  | 0, k, left, out, h => by
    have : left = [] := List.eq_nil_of_length_eq_zero h.symm
    subst this
    unfold pickOrder.go
    simp
  | fuel + 1, k, left, out, h => by
    unfold pickOrder.go
    have hlt : next k % left.length < left.length := Nat.mod_lt _ (by omega)
    rw [List.getElem?_eq_getElem hlt]
    dsimp only
    have hl : fuel = (left.eraseIdx (next k % left.length)).length := by rw [List.length_eraseIdx_of_lt hlt]; omega
    refine (pick_go next fuel (k + 1) _ _ hl).trans ?_
    rw [Array.toList_push, List.append_assoc]
    exact (erase_perm (List.getElem?_eq_getElem hlt)).append_left _
theorem pick_perm {α : Type} (next : Nat → Nat) (xs : Array α) : (pickOrder next xs).toList.Perm xs.toList := by
  have := pick_go next xs.size 0 xs.toList #[] (by simp)
  simpa [pickOrder] using this
theorem map_some {es : Array (Int × Value)} : ∀ {r : List Nat}, (∀ x ∈ r, x < es.size) → ∀ (i j : Nat), r[i]? = some j → (r.filterMap (es[·]?))[i]? = es[j]?
  | [], _, i, j, h => by simp at h
  | x :: r, hr, i, j, h => by
    have hx := hr x (.head _)
    rw [List.filterMap_cons, Array.getElem?_eq_getElem hx]
    cases i with
    | zero => simp at h; subst h; simp [hx]
    | succ i => simpa using map_some (fun y hy => hr y (.tail _ hy)) i j (by simpa using h)
section
variable {prog : Program} {w : World} {A : Around} {E : Value → Shared → Prop} {s : Shared}
theorem choose_any {src : Source} {n : Nat} {Q : Nat → Shared → Prop} (hn : n ≠ 0) (h : ∀ i d, i < n → Q i { s with drawn := d }) : wpAny (model prog w) A (choose src n) Q E s := fun Γ p hΓ => by
  unfold choose
  rw [Sem.wp_choose]
  exact ⟨hn, h _ _ (Nat.mod_lt _ (Nat.pos_of_ne_zero hn))⟩
theorem draw_any {α : Type} : ∀ (n : Nat) (xs : List α) {s : Shared} {Q : List α → Shared → Prop}, n = xs.length → (∀ r d, r.Perm xs → Q r { s with drawn := d }) → wpAny (model prog w) A (drawOrder n xs) Q E s
  | 0, xs, s, Q, h, q => by
    have : xs = [] := List.eq_nil_of_length_eq_zero h.symm
    subst this
    unfold drawOrder
    exact wpAny_pure (q [] s.drawn (.refl _))
  | n + 1, [], s, Q, h, q => by simp at h
  | n + 1, x :: xs, s, Q, h, q => by
    unfold drawOrder
    refine wpAny_bind (choose_any (by simp) fun i d hi => ?_)
    rw [List.getElem?_eq_getElem hi]
    dsimp only
    refine wpAny_bind (draw_any n _ (by rw [List.length_eraseIdx_of_lt hi]; omega) fun r d' hr => ?_)
    exact wpAny_pure (q _ _ ((hr.cons _).trans (erase_perm (List.getElem?_eq_getElem hi))))
theorem next_text {a : Addr} {slot i ep : Nat} {o : Obj} {es : Array (Int × Value)} {t : SetTable} {Q : Option (Value × Nat) → Shared → Prop} (hb : w.params.followText "set-order" = true)
    (ho : s.heap.get? a = some o) (hd : o.data = .set es ep t) (hf : t.fits es.size = true)
    (h : Q (((pickOrder (w.params.setOrder a ep) es)[i]?).map fun e => (e.2, slot)) s) : wpAny (model prog w) A (setNext a slot i ep) Q E s := by
  unfold setNext setsByText
  refine wpAny_bind (wpAny_setState_of ho hd hf ?_)
  dsimp only
  refine wpAny_bind (wpAny_bind (wpAny_askSetting (wpAny_pure ?_)))
  dsimp only
  rw [show (model prog w).w.params.followText "set-order" = true from hb, if_pos rfl, if_neg (by simp)]
  refine wpAny_bind ?_
  unfold setWalk setsByText
  refine wpAny_bind (wpAny_setState_of ho hd hf ?_)
  dsimp only
  refine wpAny_bind (wpAny_bind (wpAny_askSetting (wpAny_pure ?_)))
  dsimp only
  rw [show (model prog w).w.params.followText "set-order" = true from hb, if_pos rfl]
  refine wpAny_bind (wpAny_askSetting (wpAny_pure (wpAny_pure h)))
theorem next_led {a : Addr} {slot i ep : Nat} {o : Obj} {es : Array (Int × Value)} {t : SetTable} {Q : Option (Value × Nat) → Shared → Prop} (hb : w.params.followText "set-order" = false)
    (ho : s.heap.get? a = some o) (hd : o.data = .set es ep t) (hf : t.fits es.size = true) (hdr : (!t.plain && decide (es.size > 1)) = false) (hl : t.led = true) (hs : SetTable.below t.place slot = i)
    (h : Q (match es[i]?, t.place[i]? with | some (_, x), some j => some (x, j + 1) | _, _ => none) s) : wpAny (model prog w) A (setNext a slot i ep) Q E s := by
  unfold setNext setsByText
  refine wpAny_bind (wpAny_setState_of ho hd hf ?_)
  dsimp only
  refine wpAny_bind (wpAny_bind (wpAny_askSetting (wpAny_pure ?_)))
  dsimp only
  rw [show (model prog w).w.params.followText "set-order" = false from hb, if_neg (by decide)]
  show wpAny _ _ (if (!t.plain && decide (es.size > 1)) = true then _ else _) _ _ _
  rw [hdr, if_neg (by decide)]
  refine wpAny_bind ?_
  show wpAny _ _ (if (!t.led && !es.isEmpty) = true then _ else _) _ _ _
  rw [hl, if_neg (by simp)]
  refine wpAny_pure ?_
  rw [hs]
  exact wpAny_pure h
theorem slot_si_iter : Slot "set_iterator" "__iter__" "set_iterator.__iter__" :=
  .of (owner := "set_iterator") (n := "__iter__") (by rw [typeLookup_type, builtinLookup_eq_fast]; kernel_rfl) (by decide +kernel) (by decide +kernel) (by decide +kernel)
    (by first | exact .inl (by decide +kernel) | exact .inr (by decide +kernel)) (by rw [isSubtype_type]; kernel_rfl)
theorem entry_si_iter : entryFor table "set_iterator.__iter__" = some Builtin.«dict_keyiterator.__iter__» := entryFor_alias (id' := "dict_keyiterator.__iter__") (by kernel_rfl) rfl (by decide +kernel) (by kernel_rfl)
theorem args_si_iter (a : Value) : argsOk "set_iterator.__iter__" ⟨[a], []⟩ := by
  unfold argsOk
  kernel_rfl
theorem si_self {I : Addr} {o : Obj} {Q : Value → Shared → Prop} (hI : s.heap.get? I = some o) (hc : o.cls = .type "set_iterator") (h : Q (.ref I) s) : wpAny (model prog w) A (pyIter (.ref I)) Q E s := by
  have hT : s.TypeIs (.ref I) "set_iterator" := ⟨_, hI, hc⟩
  refine wpAny_pyIter_slot hT slot_si_iter (wpAny_call_entry slot_si_iter hT entry_si_iter ?_ (args_si_iter _))
  show wpAny _ _ (ret (.ref I)) _ _ s
  exact wpAny_pure ⟨_, rfl, "set_iterator", _, hT, slot_si_next.lookup, h⟩
theorem walk_text {I a : Addr} {n ep : Nat} {o : Obj} {es : Array (Int × Value)} {t : SetTable} (hh : A.handled = none) (hIa : a ≠ I) (hb : w.params.followText "set-order" = true) (hd : o.data = .set es ep t) (hf : t.fits es.size = true) (hn : es.size = n) :
    Walks prog w A I [I, a] [I] n (fun i v => ∃ e, (pickOrder (w.params.setOrder a ep) es)[i]? = some e ∧ v = e.2) (fun i h => (∃ slot : Nat, h.get? I = some (siObj (rawInt slot) i a n ep)) ∧ h.get? a = some o) where
  sub b hb := by simp at hb; simp [hb]
  frame i h h' st hk := ⟨let ⟨sl, e⟩ := st.1; ⟨sl, hk I (by simp) _ e⟩, hk a (by simp) _ st.2⟩
  item i s Q E hi st hQ := by
    obtain ⟨⟨sl, hI⟩, ho⟩ := st
    have hsz : (pickOrder (w.params.setOrder a ep) es).size = n := by rw [← Array.length_toList, (pick_perm _ _).length_eq, Array.length_toList, hn]
    have he : (pickOrder (w.params.setOrder a ep) es)[i]? = some ((pickOrder (w.params.setOrder a ep) es)[i]'(by omega)) := Array.getElem?_eq_getElem (by omega)
    generalize (pickOrder (w.params.setOrder a ep) es)[i]'(by omega) = e at he
    refine si_item (x := e.2) (next := sl) hI ho hd hf hn (fun hq => next_text hb ho hd hf (by rw [he]; exact hq)) fun h' h1 sb => ?_
    exact hQ e.2 h' _ ⟨e, he, rfl⟩ ⟨⟨sl, h1⟩, (sb.2 a hIa).trans ho⟩ fun b o' hb' e' => (sb.2 b (by simpa using hb')).trans e'
  done s Q E st hQ := by
    obtain ⟨⟨sl, hI⟩, ho⟩ := st
    have hsz : (pickOrder (w.params.setOrder a ep) es).size = n := by rw [← Array.length_toList, (pick_perm _ _).length_eq, Array.length_toList, hn]
    have he : (pickOrder (w.params.setOrder a ep) es)[n]? = none := Array.getElem?_eq_none (by omega)
    refine si_end hh hI ho hd hf hn (fun hq => next_text hb ho hd hf (by rw [he]; exact hq)) fun h' sb => ?_
    exact hQ h' s.toks fun b o' hb' e' => sb b o' (by simpa using hb') e'
  self i s Q E st hQ := let ⟨sl, e⟩ := st.1; si_self e rfl hQ
theorem walk_led {I a : Addr} {n ep : Nat} {o : Obj} {es : Array (Int × Value)} {t : SetTable} (hh : A.handled = none) (hIa : a ≠ I) (hb : w.params.followText "set-order" = false) (hd : o.data = .set es ep t) (hf : t.fits es.size = true) (hn : es.size = n)
    (hdr : (!t.plain && decide (es.size > 1)) = false) (T : TOk true t) :
    Walks prog w A I [I, a] [I] n (fun i v => ∃ e, es[i]? = some e ∧ v = e.2) (fun i h => (∃ slot : Nat, h.get? I = some (siObj (rawInt slot) i a n ep) ∧ SetTable.below t.place slot = i) ∧ h.get? a = some o) where
  sub b hb := by simp at hb; simp [hb]
  frame i h h' st hk := ⟨let ⟨sl, e, q⟩ := st.1; ⟨sl, hk I (by simp) _ e, q⟩, hk a (by simp) _ st.2⟩
  item i s Q E hi st hQ := by
    obtain ⟨⟨sl, hI, hsl⟩, ho⟩ := st
    have hps : t.place.size = n := by
      have hf' := hf
      simp only [SetTable.fits, Bool.and_eq_true, beq_iff_eq] at hf'
      omega
    have he : es[i]? = some (es[i]'(by omega)) := Array.getElem?_eq_getElem (by omega)
    have hp : t.place[i]? = some (t.place[i]'(by omega)) := Array.getElem?_eq_getElem (by omega)
    have hpd : ∀ d, t.place.getD i d = t.place[i]'(by omega) := fun d => by simp [Array.getD, show i < t.place.size by omega]
    generalize es[i]'(by omega) = e at he
    generalize t.place[i]'(by omega) = j at hp hpd
    refine si_item (x := e.2) (next := j + 1) hI ho hd hf hn (fun hq => next_led hb ho hd hf hdr T.led hsl (by rw [he, hp]; exact hq)) fun h' h1 sb => ?_
    refine hQ e.2 h' _ ⟨e, he, rfl⟩ ⟨⟨j + 1, h1, ?_⟩, (sb.2 a hIa).trans ho⟩ fun b o' hb' e' => (sb.2 b (by simpa using hb')).trans e'
    refine (below_ok T.up (j + 1)).eq ⟨by omega, fun k hk => ?_, fun k hk hks => ?_⟩
    · rcases Nat.lt_or_ge k i with h | h
      · have := T.up.lt h (by omega) (j + 1)
        rw [hpd] at this
        omega
      · have e : k = i := by omega
        rw [e, hpd]; omega
    · have := T.up.lt (show i < k by omega) hks (j + 1)
      rw [hpd] at this
      omega
  done s Q E st hQ := by
    obtain ⟨⟨sl, hI, hsl⟩, ho⟩ := st
    have he : es[n]? = none := Array.getElem?_eq_none (by omega)
    refine si_end hh hI ho hd hf hn (fun hq => next_led hb ho hd hf hdr T.led hsl (by rw [he]; exact hq)) fun h' sb => ?_
    exact hQ h' s.toks fun b o' hb' e' => sb b o' (by simpa using hb') e'
  self i s Q E st hQ := let ⟨sl, e, _⟩ := st.1; si_self e rfl hQ
theorem walk_drawn {I a tu : Addr} {n ep : Nat} {o : Obj} {es : Array (Int × Value)} {t : SetTable} {r : List Nat} (hh : A.handled = none) (hIa : a ≠ I) (hIt : tu ≠ I) (hd : o.data = .set es ep t) (hf : t.fits es.size = true) (hn : es.size = n)
    (hr : r.Perm (List.range n)) {ot : Obj} (hot : ot.data = .seq (r.map fun (i : Nat) => rawInt i).toArray 0) :
    Walks prog w A I [I, a, tu] [I] n (fun i v => ∃ e, (r.filterMap (es[·]?)).toArray[i]? = some e ∧ v = e.2) (fun i h => h.get? I = some (siObj (.ref tu) i a n ep) ∧ h.get? a = some o ∧ h.get? tu = some ot) where
  sub b hb := by simp at hb; simp [hb]
  frame i h h' st hk := ⟨hk I (by simp) _ st.1, hk a (by simp) _ st.2.1, hk tu (by simp) _ st.2.2⟩
  item i s Q E hi st hQ := by
    obtain ⟨hI, ho, htu⟩ := st
    have hrl : r.length = n := by rw [hr.length_eq, List.length_range]
    have hlt : ∀ x ∈ r, x < es.size := fun x hx => by rw [hn]; exact List.mem_range.mp (hr.mem_iff.mp hx)
    have hri : r[i]? = some (r[i]'(by omega)) := List.getElem?_eq_getElem (by omega)
    have hm : r[i]'(by omega) ∈ r := List.getElem_mem _
    generalize r[i]'(by omega) = j at hri hm
    have hj := hlt j hm
    have hx : es[j]? = some es[j] := Array.getElem?_eq_getElem hj
    generalize es[j] = x at hx
    have hmap := map_some (es := es) hlt
    refine sd_item (ps := (r.map fun (i : Nat) => rawInt i).toArray) (j := j) (x := x) hI ho hd hf hn htu hot (by simp [hri]) hx fun h' h1 sb => ?_
    refine hQ x.2 h' _ ⟨x, ?_, rfl⟩ ⟨h1, (sb.2 a hIa).trans ho, (sb.2 tu hIt).trans htu⟩ fun b o' hb' e' => (sb.2 b (by simpa using hb')).trans e'
    rw [← hx]
    simpa using hmap i j hri
  done s Q E st hQ := by
    obtain ⟨hI, ho, htu⟩ := st
    have hrl : r.length = n := by rw [hr.length_eq, List.length_range]
    refine sd_end hh hI ho hd hf hn htu hot (by simp [hrl]) fun h' sb => ?_
    exact hQ h' s.toks fun b o' hb' e' => sb b o' (by simpa using hb') e'
  self i s Q E st hQ := si_self st.1 rfl hQ
end
end Mine
end
section
open PySem PySem.W PySem.Calls PyProof.Rows PySem.Spec
set_option Elab.async false
set_option linter.unusedVariables false
set_option maxRecDepth 100000
namespace Mine
theorem range_all (es : Array (Int × Value)) : (List.range es.size).filterMap (es[·]?) = es.toList := by
  apply List.ext_getElem?
  intro i
  rcases Nat.lt_or_ge i es.size with h | h
  · rw [map_some (fun x hx => List.mem_range.mp hx) i i (List.getElem?_range h)]
    simp
  · have h1 : es.toList[i]? = none := by simp; omega
    rw [h1]
    apply List.getElem?_eq_none
    exact Nat.le_trans (List.length_filterMap_le _ _) (by simpa using h)
section
variable {prog : Program} {w : World} {A : Around} {E : Value → Shared → Prop} {s : Shared}
theorem iter_set {a : Addr} {o : Obj} {es : Array (Int × Value)} {ep n : Nat} {t : SetTable} {Q : Value → Shared → Prop} (ho : s.heap.get? a = some o) (hex : o.ExactSet) (hd : o.data = .set es ep t) (hf : t.fits es.size = true) (hn : es.size = n) (T : TOk (!w.params.followText "set-order") t) (hsz : n ≤ 1000)
    (h : ∀ (ord : Array (Int × Value)) (I : Addr) (fp : List Addr) (St : Nat → Heap → Prop) (h' : Heap) (d' : Drawn), ord.toList.Perm es.toList → (∀ A' : Around, A'.handled = none → Walks prog w A' I fp [I] n (fun i v => ∃ e, ord[i]? = some e ∧ v = e.2) St) → St 0 h' → Sub s.heap h' → s.heap.objs.size ≤ I →
      (∀ b ∈ fp, b = a ∨ s.heap.objs.size ≤ b) → Q (.ref I) { s with heap := h', drawn := d' }) : wpAny (model prog w) A (pyIter (.ref a)) Q E s := by
  have hT : s.TypeIs (.ref a) "set" := ⟨o, ho, hex.1⟩
  have has : (a : Nat) < s.heap.objs.size := Heap.lt_size ho
  refine wpAny_pyIter_slot hT F.slot_set_iter (wpAny_call_entry F.slot_set_iter hT entry_s_iter ?_ (F.args_set_iter_1 _))
  unfold Builtin.«frozenset.__iter__» Builtin.Frozenset.slot0 slotArgs
  simp only [List.isEmpty_nil, Bool.not_true, Bool.false_eq_true, ↓reduceIte, bind_assoc, List.length_nil, bne_self_eq_false]
  unfold Builtin.Frozenset.addrOf Builtin.Frozenset.sizeOf
  refine wpAny_bind (wpAny_pure ?_)
  try dsimp only
  refine wpAny_bind (wpAny_pure ?_)
  refine wpAny_bind (wpAny_bind (wpAny_setEntries_of ho hd hf (wpAny_pure ?_)))
  unfold setDrawn setsByText
  refine wpAny_bind (wpAny_bind (wpAny_setState_of ho hd hf ?_))
  dsimp only
  refine wpAny_bind (wpAny_bind (wpAny_askSetting (wpAny_pure (wpAny_pure ?_))))
  show wpAny _ _ (if (!w.params.followText "set-order" && (!t.plain && decide (es.size > 1))) = true then _ else _) _ _ _
  cases hdr : (!w.params.followText "set-order" && (!t.plain && decide (es.size > 1)))
  · rw [if_neg (by decide)]
    refine wpAny_bind (wpAny_pure ?_)
    refine wpAny_bind (wpAny_setEpoch_of ho hd hf ?_)
    simp only [newFields]
    refine wpAny_bind (wpAny_newObj_type ?_ (by size_fits))
    have hI : (s.heap.push (siObj (rawInt 0) 0 a n ep)).get? s.heap.objs.size = some (siObj (rawInt 0) 0 a n ep) := Heap.get?_push_size _ rfl
    have kp := push_sub s.heap (siObj (rawInt 0) 0 a n ep)
    subst hn
    refine wpAny_pure ⟨_, rfl, "set_iterator", _, ⟨_, hI, rfl⟩, slot_si_next.lookup, ?_⟩
    have hfp : ∀ b ∈ [s.heap.objs.size, a], b = a ∨ s.heap.objs.size ≤ b := by
      intro b hb
      simp only [List.mem_cons, List.not_mem_nil, or_false] at hb
      rcases hb with rfl | rfl
      · exact .inr (Nat.le_refl _)
      · exact .inl rfl
    cases hb : w.params.followText "set-order"
    · rw [hb] at hdr T
      have hdr' : (!t.plain && decide (es.size > 1)) = false := by simpa using hdr
      exact h es _ _ _ _ s.drawn (.refl _) (fun A' hh => walk_led hh (Nat.ne_of_lt has) hb hd hf rfl hdr' T) ⟨⟨0, hI, ((below_ok T.up 0).eq ⟨Nat.zero_le _, fun k hk => absurd hk (Nat.not_lt_zero _), fun k _ _ => Nat.not_lt_zero _⟩)⟩, kp _ _ ho⟩ kp (Nat.le_refl _) hfp
    · exact h (pickOrder (w.params.setOrder a ep) es) _ _ _ _ s.drawn (pick_perm _ _) (fun A' hh => walk_text hh (Nat.ne_of_lt has) hb hd hf rfl) ⟨⟨0, hI⟩, kp _ _ ho⟩ kp (Nat.le_refl _) hfp
  · rw [if_pos rfl]
    refine wpAny_bind (draw_any _ _ (by simp) fun r d' hr => ?_)
    simp only [newTuple, newFields]
    have hrl : r.length = es.size := by rw [hr.length_eq, List.length_range]
    refine wpAny_bind (wpAny_newObj_type ?_ (Nat.le_trans (show _ ≤ 1000 by simp; omega) (by decide)))
    have kp := push_sub s.heap { cls := .type "tuple", data := .seq (r.map fun (i : Nat) => rawInt i).toArray }
    have htu : (s.heap.push { cls := .type "tuple", data := .seq (r.map fun (i : Nat) => rawInt i).toArray }).get? s.heap.objs.size = some { cls := .type "tuple", data := .seq (r.map fun (i : Nat) => rawInt i).toArray } := Heap.get?_push_size _ rfl
    have hH : (s.heap.push { cls := .type "tuple", data := .seq (r.map fun (i : Nat) => rawInt i).toArray }).objs.size = s.heap.objs.size + 1 := by rw [Heap.size_push]
    dsimp only
    generalize s.heap.push { cls := .type "tuple", data := .seq (r.map fun (i : Nat) => rawInt i).toArray } = H at kp htu hH ⊢
    refine wpAny_bind (wpAny_setEpoch_of (kp _ _ ho) hd hf ?_)
    refine wpAny_bind (wpAny_newObj_type ?_ (by size_fits))
    subst hn
    have hI : (H.push (siObj (.ref s.heap.objs.size) 0 a es.size ep)).get? H.objs.size = some (siObj (.ref s.heap.objs.size) 0 a es.size ep) := Heap.get?_push_size _ rfl
    have kp2 := push_sub H (siObj (.ref s.heap.objs.size) 0 a es.size ep)
    refine wpAny_pure ⟨_, rfl, "set_iterator", _, ⟨_, hI, rfl⟩, slot_si_next.lookup, ?_⟩
    have hlt : (a : Nat) < H.objs.size := by rw [hH]; exact Nat.lt_succ_of_lt has
    refine h (r.filterMap (es[·]?)).toArray H.objs.size [H.objs.size, a, s.heap.objs.size] _ _ d' ?_ (fun A' hh => walk_drawn hh (Nat.ne_of_lt hlt) (by rw [hH]; exact Nat.ne_of_lt (Nat.lt_succ_self _)) hd hf rfl hr rfl) ⟨hI, kp2 _ _ (kp _ _ ho), kp2 _ _ htu⟩ (kp.trans kp2) (by rw [hH]; exact Nat.le_succ _) ?_
    · have e : (List.range es.size).filterMap (es[·]?) = es.toList := range_all es
      have := hr.filterMap (fun i => es[i]?)
      rw [e] at this
      simpa using this
    · intro b hb
      simp only [List.mem_cons, List.not_mem_nil, or_false] at hb
      rcases hb with rfl | rfl | rfl
      · exact .inr (by rw [hH]; exact Nat.le_succ _)
      · exact .inl rfl
      · exact .inr (Nat.le_refl _)
end
end Mine
end
section
open PySem PySem.W PySem.Calls PyProof.Rows PySem.Spec
set_option Elab.async false
set_option linter.unusedVariables false
set_option maxRecDepth 100000
namespace Mine
theorem nodup_perm : ∀ {ns ms : List Int}, ns.Nodup → (∀ x ∈ ns, x ∈ ms) → ns.length = ms.length → ms.Perm ns
  | [], ms, _, _, h => by
    have : ms = [] := List.eq_nil_of_length_eq_zero h.symm
    subst this
    exact .refl _
  | x :: r, ms, hn, hs, h => by
    obtain ⟨h1, h2⟩ := List.nodup_cons.mp hn
    have hx := hs x (.head _)
    refine (List.perm_cons_erase hx).trans ((nodup_perm h2 (fun y hy => ?_) ?_).cons x)
    · exact (List.mem_erase_of_ne (show y ≠ x from fun e => h1 (e ▸ hy))).mpr (hs y (.tail _ hy))
    · rw [List.length_erase_of_mem hx]
      simp only [List.length_cons] at h
      omega
theorem ints_mem_iff {vs : List Value} {ns : List Int} (x : IntsAre vs ns) (k : Int) : k ∈ ns ↔ ∃ t, Value.int k t ∈ vs := by
  induction x with
  | nil => simp
  | cons n t _ ih =>
    constructor
    · intro h
      rcases List.mem_cons.mp h with rfl | h
      · exact ⟨t, .head _⟩
      · obtain ⟨t', h'⟩ := ih.mp h; exact ⟨t', .tail _ h'⟩
    · rintro ⟨t', h⟩
      rcases List.mem_cons.mp h with h | h
      · cases h; exact .head _
      · exact .tail _ (ih.mpr ⟨t', h⟩)
section
variable {prog : Program} {w : World} {A : Around} {E : Value → Shared → Prop} {s : Shared}
theorem hint_set {r : Addr} {Q : Bool → Shared → Prop} (hT : s.TypeIs (.ref r) "set") (h : Q false s) : wpAny (model prog w) A (Builtin.List.listLengthHint (.ref r)) Q E s := by
  unfold Builtin.List.listLengthHint
  refine wpAny_bind (wpAny_specialOf hT PySem.F.slot_set_len.lookup ?_)
  generalize hid : ("set.__len__" : String) = id0
  wp_delta
  rw [show splitId id0 = some ("set", "__len__") from by subst hid; decide +kernel]
  subst hid
  refine wpAny_bind (wpAny_isInstance (T := "set") (b := true) hT (by rw [isSubtype_type]; kernel_rfl) ?_)
  refine wpAny_ite_split (fun hab => absurd hab (by decide)) (fun _ => ?_)
  refine wpAny_ite_split (fun _ => ?_) (fun hab => absurd (by decide +kernel) hab)
  refine wpAny_bind (wpAny_typeOf hT ?_)
  exact wpAny_pure h
/-- a list is made longer by a set's elements -/
theorem extend_set {R : Result → Shared → Prop} {a S : Addr} {o : Obj} {es : Array (Int × Value)} {ep n : Nat} {t : SetTable} (hh : A.handled = none) (ho : s.heap.get? a = some o) (hex : o.ExactSet) (hd : o.data = .set es ep t) (hf : t.fits es.size = true) (hn : es.size = n) (T : TOk (!w.params.followText "set-order") t) (hsz : n ≤ 1000)
    (hS : s.heap.get? S = some { cls := .type "list", data := .seq #[] 0 }) (res : Value)
    (hR : ∀ h' tk d' acc' c', (∀ b o, b ≠ S → s.heap.get? b = some o → h'.get? b = some o) → h'.get? S = some { cls := .type "list", dict := none, data := .seq acc' c', slots := #[] } → (∃ ord : Array (Int × Value), ord.toList.Perm es.toList ∧ acc'.toList = ord.toList.map (·.2)) → R (.ok (.ret res)) { s with heap := h', toks := tk, drawn := d' }) :
    wpAny (model prog w) A.in1 (Builtin.List.listExtendWith (.ref S) (.ref a) res)
      (fun fin s' => match fin with | .done f => R (.ok f) s' | .again c' => c'.quiet = true ∧ codeAny (model prog w) A c' R s') (fun e s' => R (.error e) s') s := by
  have hSa : S ≠ a := fun e => by
    rw [e, ho] at hS
    have hc := hex.1
    rw [Option.some.inj hS] at hc
    exact absurd hc (by decide)
  have hT : s.TypeIs (.ref a) "set" := ⟨o, ho, hex.1⟩
  unfold Builtin.List.listExtendWith
  refine wpAny_bind (wpAny_typeOf (T := "set") hT ?_)
  have h1 : Builtin.List.listSameRef (.ref S) (.ref a) = false := by simp [Builtin.List.listSameRef, hSa]
  have h2 : (Value.type "set" == Value.type "list") = false := by decide
  have h3 : (Value.type "set" == Value.type "tuple") = false := by decide
  simp only [h1, h2, h3, Bool.or_false, Bool.false_eq_true, if_false]
  refine wpAny_bind (iter_set ho hex hd hf hn T hsz fun ord I fp St H d' hp W st kH hI hfp => ?_)
  have hSI : S ≠ I := Nat.ne_of_lt (Nat.lt_of_lt_of_le (Heap.lt_size hS) hI)
  have hSf : S ∉ fp := fun hm => by
    rcases hfp S hm with e | e
    · exact hSa e
    · exact absurd (Heap.lt_size hS) (Nat.not_lt.mpr e)
  have Wa := W A.in1 (by simpa using hh)
  have key : ∀ (h : Heap) (c₁ tk : Nat), St 0 h → (∀ b o, b ≠ S → s.heap.get? b = some o → h.get? b = some o) →
      h.get? S = some { cls := .type "list", data := .seq #[] c₁ } → codeAny (model prog w) A (.builtin "list.extend.loop" ⟨[.ref S, .ref I, res], []⟩) R { s with heap := h, toks := tk, drawn := d' } := by
    intro h c₁ tk hst hk hS₁
    refine codeAny_extend_loopS Wa.toS (Nat.le_trans hsz (by decide)) S hSf res n 0 _ #[] c₁ rfl (Nat.zero_le _) hst hS₁ (ItemsOf.nil _) fun s' acc' c' hm hS' hacc => ?_
    rw [Moved.eq_with hm]
    refine hR s'.heap s'.toks d' acc' c' (fun b o hb e => hm.heap b o (fun hmem => ?_) (hk b o hb e)) hS' ⟨ord, hp, ?_⟩
    · rcases List.mem_cons.mp hmem with e' | hmem
      · exact hb e'
      · rw [List.mem_singleton.mp hmem] at e
        exact absurd (Heap.lt_size e) (Nat.not_lt.mpr hI)
    · have hos : ord.size = n := by rw [← Array.length_toList, hp.length_eq, Array.length_toList, hn]
      apply List.ext_getElem?
      intro j
      rcases Nat.lt_or_ge j n with hj | hj
      · have hv : acc'[j]? = some (acc'[j]'(by rw [hacc.1]; exact hj)) := Array.getElem?_eq_getElem _
        generalize acc'[j]'(by rw [hacc.1]; exact hj) = v at hv
        obtain ⟨e, he, rfl⟩ := hacc.2 j v hv
        rw [Array.getElem?_toList, hv, List.getElem?_map, Array.getElem?_toList, he]
        rfl
      · rw [List.getElem?_eq_none (by rw [Array.length_toList, hacc.1]; exact hj), List.getElem?_eq_none (by rw [List.length_map, Array.length_toList, hos]; exact hj)]
  have hS1 := kH _ _ hS
  refine wpAny_bind (wpAny_holding (hint_set ⟨o, kH _ _ ho, hex.1⟩ ?_))
  rw [if_pos (by decide)]
  refine wpAny_bind (wpAny_rule ?_)
  refine wpAny_bind ?_
  show wpAny _ _ (updateSeq S (·.push .none) >>= fun _ => updateSeq S (·.pop)) _ _ _
  refine wpAny_bind (wpAny_updateSeq hS1 rfl ?_)
  have hS₂ := Heap.get?_update_self (Obj.mapSeq (·.push Value.none)) hS1 rfl
  refine wpAny_updateSeq (hz := by seq_fits) hS₂ rfl ?_
  have hS₃ := Heap.get?_update_self (Obj.mapSeq (·.pop)) hS₂ rfl
  refine wpAny_pure ⟨plainId_quiet PySem.F.plain_extend_loop _, key _ _ _ ?_ (fun b o hb e => ?_) hS₃⟩
  · refine Wa.frame 0 _ _ st fun b hb o e => ?_
    have hbS : b ≠ S := fun h => hSf (h ▸ hb)
    exact (Heap.get?_update_other _ _ (Ne.symm hbS)).trans ((Heap.get?_update_other _ _ (Ne.symm hbS)).trans e)
  · exact (Heap.get?_update_other _ _ (Ne.symm hb)).trans ((Heap.get?_update_other _ _ (Ne.symm hb)).trans (kH _ _ e))
theorem collect_set {R : List Value → Shared → Prop} {a : Addr} {o : Obj} {es : Array (Int × Value)} {ep n : Nat} {t : SetTable} (hh : A.handled = none) (ho : s.heap.get? a = some o) (hex : o.ExactSet) (hd : o.data = .set es ep t) (hf : t.fits es.size = true) (hn : es.size = n) (T : TOk (!w.params.followText "set-order") t) (hsz : n ≤ 1000)
    (h : ∀ h' tk d' (vs : List Value), Sub s.heap h' → (∃ ord : Array (Int × Value), ord.toList.Perm es.toList ∧ vs = ord.toList.map (·.2)) → R vs { s with heap := h', toks := tk, drawn := d' }) :
    wpAny (model prog w) A (collect (.ref a)) R E s := by
  unfold collect
  refine wpAny_bind (wpAny_runValue (codeAny_builtin entry_proto_collect' ?_))
  rw [Around.under_plainId PySem.F.plain_proto_collect _]
  show wpAny _ A.in1 (newList [] >>= fun l => again (.builtin "list.__iadd__" ⟨[l, .ref a], []⟩)) _ _ s
  refine wpAny_bind (wpAny_newObj_type ?_)
  refine wpAny_pure ⟨plainId_quiet PySem.F.plain_list_iadd _, codeAny_builtin entry_list_iadd' ?_⟩
  rw [Around.under_plainId PySem.F.plain_list_iadd _]
  have kp := push_sub s.heap { cls := .type "list", data := .seq ([] : List Value).toArray }
  have hS₁ : (s.heap.push { cls := .type "list", data := .seq ([] : List Value).toArray }).get? s.heap.objs.size = some { cls := .type "list", data := .seq #[] } := Heap.get?_push_size _ rfl
  show wpAny _ A.in1 (Builtin.List.listExtendWith (.ref s.heap.objs.size) (.ref a) (.ref s.heap.objs.size)) _ _ _
  have key := extend_set (prog := prog) (A := A) (s := { s with heap := s.heap.push { cls := .type "list", data := .seq ([] : List Value).toArray } })
    (R := fun (q : Result) (s' : Shared) => ∃ (h' : Heap) (tk : Nat) (d' : Drawn) (acc' : Array Value) (c' : Nat), q = .ok (.ret (.ref s.heap.objs.size)) ∧ s' = { s with heap := h', toks := tk, drawn := d' } ∧
      Sub s.heap h' ∧ h'.get? s.heap.objs.size = some { cls := .type "list", dict := none, data := .seq acc' c', slots := #[] } ∧ (∃ ord : Array (Int × Value), ord.toList.Perm es.toList ∧ acc'.toList = ord.toList.map (·.2)))
    hh (kp _ _ ho) hex hd hf hn T hsz hS₁ (.ref s.heap.objs.size)
    (fun h' tk d' acc' c' hk hS' hacc => ⟨h', tk, d', acc', c', rfl, rfl, fun b o e => hk b o (Nat.ne_of_lt (Heap.lt_size e)) (kp _ _ e), hS', hacc⟩)
  refine wpAny_mono key (fun fin s' x => ?_) fun e s' x => ?_
  · cases fin with
    | done f =>
      obtain ⟨h', tk, d', acc', c', e, rfl, hk, hS', hacc⟩ := x
      cases e
      show wpAny _ A (load s.heap.objs.size >>= _) _ _ _
      refine wpAny_bind (wpAny_load hS' ?_)
      exact wpAny_pure (h h' tk d' _ hk hacc)
    | again c₁ =>
      refine ⟨x.1, codeAny_mono x.2 fun q s₂ y => ?_⟩
      obtain ⟨h', tk, d', acc', c', rfl, rfl, hk, hS', hacc⟩ := y
      show wpAny _ A (load s.heap.objs.size >>= _) _ _ _
      refine wpAny_bind (wpAny_load hS' ?_)
      exact wpAny_pure (h h' tk d' _ hk hacc)
  · obtain ⟨_, _, _, _, _, e', _⟩ := x
    cases e'
theorem sorted_set {a : Addr} {S : Int → Bool} {n : Nat} {ns : List Int} {Q : Value → Shared → Prop} (hh : A.handled = none) (B : SetB (intKind prog w) s.heap a S n (!w.params.followText "set-order")) (hnd : ns.Nodup) (hS : ∀ k, S k = true ↔ k ∈ ns) (hl : ns.length = n) (h64 : n < 64)
    (h : ∀ (D : Addr) (vs : List Value) (ns' : List Int) (e : Nat) (h' : Heap) (tk : Nat) (d' : Drawn), Sub s.heap h' → s.heap.get? D = none → h'.get? D = some (seqObj "list" vs.toArray e) → IntsAre vs ns' → ns'.Perm ns → Q (.ref D) { s with heap := h', toks := tk, drawn := d' }) :
    wpAny (model prog w) A (call (.builtin "sorted") [.ref a]) Q E s := by
  obtain ⟨o, es, ep, t, ho, hex, hd, hel, hmem, hb, hf, hn, T⟩ := B
  refine call_function_entry kind_sorted plain_sorted entry_sorted (args_sorted1 _) ?_
  unfold Builtin.«sorted»
  refine wpAny_bind (m := checkCount "sorted" 1 1 _) (wpAny_pure ?_)
  refine wpAny_bind (collect_set (A := A.in1) hh ho hex hd hf hn T (by omega) fun h1 tk1 d1 vs k1 hacc => ?_)
  obtain ⟨ord, hp, rfl⟩ := hacc
  have hvl : (ord.toList.map (·.2)).length = n := by rw [List.length_map, hp.length_eq, Array.length_toList, hn]
  obtain ⟨ms, hms⟩ : ∃ ms, IntsAre (ord.toList.map (·.2)) ms := ints_of_mem fun v hv => by
    obtain ⟨e, he, rfl⟩ := List.mem_map.mp hv
    obtain ⟨⟨k, hk, _⟩, _⟩ := hel e (hp.mem_iff.mp he)
    obtain ⟨t, ht⟩ := Value.isInt_shape (show e.2.isInt k = true by simpa [intKind] using hk)
    exact ⟨_, t, ht⟩
  have hmm : ∀ k, k ∈ ms ↔ S k = true := fun k => by
    rw [ints_mem_iff hms, hmem k]
    constructor
    · rintro ⟨t, hv⟩
      obtain ⟨e, he, he2⟩ := List.mem_map.mp hv
      exact ⟨e, hp.mem_iff.mp he, by rw [he2]; simp [intKind, Value.isInt]⟩
    · rintro ⟨e, he, hk⟩
      obtain ⟨t, he2⟩ := Value.isInt_shape (show e.2.isInt k = true by simpa [intKind] using hk)
      exact ⟨t, List.mem_map.mpr ⟨e, hp.mem_iff.mpr he, he2⟩⟩
  have hml : ms.length = n := by rw [← ints_len hms, hvl]
  have hpm : ms.Perm ns := nodup_perm hnd (fun k hk => (hmm k).mpr ((hS k).mpr hk)) (by omega)
  generalize ord.toList.map (·.2) = vs at hms hvl
  refine wpAny_bind (wpAny_newList ?_ (Nat.le_trans (show vs.length ≤ 1000 by omega) (by decide)))
  have hoL : (h1.push (seqObj "list" vs.toArray 0)).get? h1.objs.size = some (seqObj "list" vs.toArray 0) := Heap.get?_push_size _ rfl
  have kp := push_sub h1 (seqObj "list" vs.toArray 0)
  have hsz : (h1.push (seqObj "list" vs.toArray 0)).objs.size = h1.objs.size + 1 := by rw [Heap.size_push]
  refine wpAny_bind (wpAny_holding (wpAny_call_entry slot_list_sort ⟨_, hoL, rfl⟩ entry_list_sort (list_sort_tree hoL hms (by omega) fun out ns' a1 a2 a3 => ⟨_, rfl, ?_⟩) (args_list_sort _)))
  obtain ⟨e, he⟩ := sortedHeap_at (vs := vs) (out := out) hoL
  refine wpAny_pure ⟨_, rfl, h h1.objs.size out.toList ns' e _ _ _ (fun b o' e' => ?_) (none_of_size k1 (none_ge (Nat.le_refl _))) he a1 (a2.trans hpm)⟩
  have hb1 : (b : Nat) < h1.objs.size := Heap.lt_size (k1 _ _ e')
  exact (sortedHeap_old (Nat.ne_of_lt hb1) (by rw [hsz]; exact Nat.lt_succ_of_lt hb1)).trans (kp _ _ (k1 _ _ e'))
end
end Mine
end
section
open PySem PySem.W PySem.Calls PyProof.Rows PySem.Spec
set_option Elab.async false
set_option linter.unusedVariables false
set_option maxRecDepth 100000
namespace Mine
open PyProof.Rows.LCg (NsObj ns_obj lst)
noncomputable abbrev cellO : Obj := { cls := .type "cell", data := .cell none }
section
variable {prog : Program} {w : World} {A : Around} {s : Shared} {env : Env} {E : Value → Shared → Prop}
theorem newEnvCell {scope : Scope} {globals : Addr} {cl : List (Str × Addr)} {tb : Str} {qual : Str} {outer : Env} {Q : Env → Shared → Prop}
    (hcells : ∀ n, cellsFrom n scope.names cl = (tb, n) :: cl) (hpush : ∀ h : Heap, pushCells h scope.names = h.push cellO)
    (hQ : Q { scope := scope, locals := s.heap.objs.size, globals := globals, cells := (tb, s.heap.objs.size + 1) :: cl, qual := qual, func := none, code := outer.code, frame := outer.frame, builtins := outer.builtins } { s with heap := (s.heap.push { cls := .type "dict", data := .dict #[] }).push cellO }) :
    wpAny (model prog w) A (newFunctionEnv scope globals cl [] qual none .none (some outer)) Q E s := by
  simp only [newFunctionEnv, Option.isSome_some, if_true]
  refine wpAny_bind (wpAny_alloc ?_)
  refine wpAny_bind (wpAny_layCells _ (fun name kind cells => by cases hkc : kind == NameKind.cell <;> simp [hkc]) _ _ _ _ ?_)
  dsimp only
  rw [hcells, hpush, Heap.size_push]
  refine wpAny_bind (wpAny_pure (wpAny_pure hQ))
/-- a comprehension whose target is a cell of its own -/
theorem compBlockK {RR : Value → Addr → Result → Shared → Prop} {g : Heap} {L : Addr} {e target : Expr} {scope : Scope} {cl : List (Str × Addr)} {tb : Str} {newAcc : Sem Value} {o0 : Obj} {T : Addr → Addr → Value → (Shared → Prop) → Shared → Prop} {I : Addr} {n : Nat} {P : Nat → Value → Heap → Prop} {St : Nat → Heap → Prop} {ob : Nat → Obj → Prop} {Src : Heap → Prop} {m : Str → Option Value} {news : List (Addr × Obj)}
    (hof : o0.isFreed = false) (hAcc : ∀ (s : Shared) (Q : Value → Shared → Prop) E, Q (.ref s.heap.objs.size) { s with heap := s.heap.push o0 } → wpAny (model prog w) A newAcc Q E s)
    (LO : ∀ C D, LoopOf prog w A e target (.ref I) (.ref D) (compEnvC scope ((tb, C + 1) :: cl) C env) (T C D))
    (W : Stepper prog w A target I n P St) (hst : ∀ i h, St i h ↔ (∃ o, h.get? I = some o ∧ ob i o) ∧ Src h)
    (hSrcK : ∀ h h', Sub h h' → Src h → Src h')
    (J : Addr → Addr → Nat → List (Addr × Obj) → Prop)
    (hcells : ∀ n, cellsFrom n scope.names cl = (tb, n) :: cl) (hpush : ∀ h : Heap, pushCells h scope.names = h.push cellO)
    (F : Fr g L s.heap m) (N : News g L s.heap news) (hgit : g.get? I = none) (hLit : I ≠ L) (hnit : ∀ p ∈ news, p.1 ≠ I)
    (hs0 : St 0 s.heap)
    (hsrc : ∀ C D i news' h', J C D i news' → Fr g L h' m → News g L h' news' → Src h')
    (h0 : ∀ C D oC, NsObj oC (fun _ => none) → (D : Nat) < C → (I : Nat) < D → (L : Nat) < D → (∀ p ∈ news, (p.1 : Nat) < D) → J C D 0 ((C + 1, cellO) :: (C, oC) :: (D, o0) :: news))
    (turn : ∀ C D i v news₁ oit s₁, i < n → P i v s₁.heap → J C D i news₁ → (∀ p ∈ news₁, p.1 ≠ I) → (∃ h tk, s₁ = { s with heap := h, toks := tk }) →
      Fr g L s₁.heap m → News g L s₁.heap ((I, oit) :: news₁) → T C D v (CEnd g L m I oit (J C D (i + 1)) s) s₁)
    (done : ∀ C D h' tk news', Fr g L h' m → News g L h' news' → J C D n news' → RR (.ref D) C (.ok .next) { s with heap := h', toks := tk }) :
    wpAny (model prog w) A newAcc (fun acc s₃ => wpAny (model prog w) A (newFunctionEnv scope env.globals cl [] env.qual none .none (some env)) (fun cenv s₄ =>
      codeAny (model prog w) A (.compStart e 0 (.ref I) acc { cenv with scope := relabel scope env }) (RR acc cenv.locals) s₄) E s₃) E s := by
  refine hAcc _ _ _ (newEnvCell (tb := tb) hcells hpush ?_)
  dsimp only
  generalize hD : s.heap.objs.size = D
  have hH : (s.heap.push o0).objs.size = D + 1 := by rw [Heap.size_push, hD]
  have hDo : (s.heap.push o0).get? D = some o0 := by rw [← hD]; exact Heap.get?_push_size _ hof
  have kH : Sub s.heap (s.heap.push o0) := fun b o e => Heap.get?_push_of_some _ e
  have hlt : ∀ b o, s.heap.get? b = some o → (b : Nat) < D := fun b o e => by rw [← hD]; exact Heap.lt_size e
  generalize s.heap.push o0 = H at hH hDo kH ⊢
  generalize hC : H.objs.size = C
  have hDC : (D : Nat) < C := by rw [← hC, hH]; exact Nat.lt_succ_self _
  have hns : (H.push { cls := .type "dict", data := .dict #[] }).Ns C (fun _ => none) := by rw [← hC]; exact Heap.Ns.new H (.type "dict")
  have k0 := push_sub H { cls := .type "dict", data := .dict #[] }
  have hH2 : (H.push { cls := .type "dict", data := .dict #[] }).objs.size = C + 1 := by rw [Heap.size_push, hC]
  generalize H.push { cls := .type "dict", data := .dict #[] } = H2 at hns k0 hH2 ⊢
  have hK : (H2.push cellO).get? (C + 1) = some cellO := by rw [← hH2]; exact Heap.get?_push_size _ rfl
  have k1' := push_sub H2 cellO
  generalize H2.push cellO = h₁ at hK k1' ⊢
  have k1 : Sub H h₁ := k0.trans k1'
  have kk : Sub s.heap h₁ := kH.trans k1
  have hLD : (L : Nat) < D := by rw [← hD]; exact F.ns.lt
  have hI : ∃ o, s.heap.get? I = some o := by obtain ⟨⟨o, ho, _⟩, _⟩ := (hst 0 _).mp hs0; exact ⟨o, ho⟩
  obtain ⟨oI, hI⟩ := hI
  have gC : g.get? C = none := none_of_size F.keep (none_ge (by rw [hD]; exact Nat.le_of_lt hDC))
  have gK : g.get? (C + 1) = none := none_of_size F.keep (none_ge (by rw [hD]; exact Nat.le_of_lt (Nat.lt_succ_of_lt hDC)))
  have gD : g.get? D = none := none_of_size F.keep (none_ge (by rw [hD]; exact Nat.le_refl _))
  obtain ⟨oC, heC', hoC⟩ := ns_obj hns
  have heC := k1' _ _ heC'
  have hLC : (L : Nat) < C := Nat.lt_trans hLD hDC
  have N1 : News g L h₁ ((C + 1, cellO) :: (C, oC) :: (D, o0) :: news) := news_cons (news_cons (news_cons (news_sub N kk) (k1 _ _ hDo) (Nat.ne_of_gt hLD) gD) heC (Nat.ne_of_gt hLC) gC) hK (Nat.ne_of_gt (Nat.lt_succ_of_lt hLC)) gK
  have hs1 : St 0 h₁ := (hst 0 _).mpr ⟨(by obtain ⟨⟨o, ho, hb⟩, _⟩ := (hst 0 _).mp hs0; exact ⟨o, kk _ _ ho, hb⟩), hSrcK _ _ kk ((hst 0 _).mp hs0).2⟩
  have hlI := hlt _ _ hI
  refine compWalk (s := { s with heap := h₁ }) (LO := LO C D) W hst (J C D) (fr_sub F kk) N1 hgit hLit ?_ hs1 (fun i news' h' j f n => hsrc C D i news' h' j f n) (h0 C D oC hoC hDC hlI hLD fun p hp => hlt _ _ (N p hp).1) ?_ ?_
  · intro p hp
    rcases List.mem_cons.mp hp with rfl | hp
    · exact Nat.ne_of_gt (Nat.lt_succ_of_lt (Nat.lt_trans hlI hDC))
    · rcases List.mem_cons.mp hp with rfl | hp
      · exact Nat.ne_of_gt (Nat.lt_trans hlI hDC)
      · rcases List.mem_cons.mp hp with rfl | hp
        · exact Nat.ne_of_gt hlI
        · exact hnit p hp
  · intro i v news₁ oit s₁ hi hP hJ hne hs F1 N2
    exact turn C D i v news₁ oit s₁ hi hP hJ hne hs F1 N2
  · intro h' tk news' F1 N2 hJ
    exact done C D h' tk news' F1 N2 hJ
noncomputable def CompGoK (prog : Program) (w : World) (A : Around) (g : Heap) (L : Addr) (m : Str → Option Value) (o0 : Obj) (target : Expr) (T : Addr → Addr → Addr → Value → (Shared → Prop) → Shared → Prop) (mf : Addr → Str → Option Value) (Fin : Addr → Shared → Prop) (it : Value) (s : Shared) : Prop :=
  ∃ I n P St, ∃ ob : Nat → Obj → Prop, ∃ Src : Heap → Prop, ∃ news, ∃ J : Addr → Addr → Nat → List (Addr × Obj) → Prop, it = .ref I ∧ Stepper prog w A target I n P St ∧ (∀ i h, St i h ↔ (∃ o, h.get? I = some o ∧ ob i o) ∧ Src h) ∧ (∀ h h', Sub h h' → Src h → Src h') ∧
        Fr g L s.heap m ∧ News g L s.heap news ∧ g.get? I = none ∧ I ≠ L ∧ (∀ p ∈ news, p.1 ≠ I) ∧ St 0 s.heap ∧
        (∀ C D i news' h', J C D i news' → Fr g L h' m → News g L h' news' → Src h') ∧
        (∀ C D oC, NsObj oC (fun _ => none) → (D : Nat) < C → (I : Nat) < D → (L : Nat) < D → (∀ p ∈ news, (p.1 : Nat) < D) → J C D 0 ((C + 1, cellO) :: (C, oC) :: (D, o0) :: news)) ∧
        (∀ C D i v news₁ oit s₁, i < n → P i v s₁.heap → J C D i news₁ → (∀ p ∈ news₁, p.1 ≠ I) → (∃ h tk, s₁ = { s with heap := h, toks := tk }) →
          Fr g L s₁.heap m → News g L s₁.heap ((I, oit) :: news₁) → T I C D v (CEnd g L m I oit (J C D (i + 1)) s) s₁) ∧
        (∀ C D news', J C D n news' → ∃ oC mC rest, news'.Perm ((C, oC) :: rest) ∧ NsObj oC mC ∧ (∀ p ∈ rest, p.1 ≠ C) ∧ ∀ h'' tk, Fr g L h'' (mf D) → News g L h'' rest → Fin D { s with heap := h'', toks := tk })
theorem useCompK {g : Heap} {e target : Expr} {gc : Comprehension} {gs : List Comprehension} {scope : Scope} {cl : List (Str × Addr)} {tb : Str} {pos : Pos} {newAcc first : Sem Value} {o0 : Obj} {T : Addr → Addr → Addr → Value → (Shared → Prop) → Shared → Prop} {m : Str → Option Value} {Q : Value → Shared → Prop} {y : Str} {py : Pos}
    (hy : env.kindOf y = some .local) (hp : (env.scope.kind == .class || (env.scope.kind == .module && env.locals != env.globals)) = false)
    (hof : o0.isFreed = false) (hAcc : ∀ (s : Shared) (Q : Value → Shared → Prop) E, Q (.ref s.heap.objs.size) { s with heap := s.heap.push o0 } → wpAny (model prog w) A newAcc Q E s)
    (LO : ∀ I C D, LoopOf prog w A e target (.ref I) (.ref D) (compEnvC scope ((tb, C + 1) :: cl) C env) (T I C D))
    (hcl : clausesOf e = gc :: gs) (hs : ∀ x, foldedSetIterable gc.iter env x = pure x) (hclos : closureFor scope env = pure cl)
    (hcells : ∀ n, cellsFrom n scope.names cl = (tb, n) :: cl) (hpush : ∀ h : Heap, pushCells h scope.names = h.push cellO) (hkind : scope.kind = .function) (hnames : ∀ x ∈ scope.names, x.2 = .local → scope.names.lookup x.1 = some .local)
    (h : wpAny (model prog w) A first (fun x s₁ => wpAny (model prog w) A (pyIter x) (CompGoK prog w A g env.locals m o0 target T (fun D z => if z = y then some (.ref D) else m z) (fun _ => Q .none)) E s₁) E s) :
    wpAny (model prog w) A (comprehension e scope env pos newAcc false first (some (assign (.Name y py) env))) Q E s := by
  refine wpAny_comprehension_free hcl hs hclos hkind hnames (wpAny_mono h (fun x s₁ h₁ => wpAny_mono h₁ (fun it s h => ?_) fun _ _ q => q) fun _ _ q => q)
  obtain ⟨I, n, P, St, ob, Src, news, J, rfl, W, hst, hSK, F, N, hg, hL, hn, hs0, hsrc, h0, turn, done⟩ := h
  refine compBlockK hof hAcc (LO I) W hst hSK J hcells hpush F N hg hL hn hs0 hsrc h0 turn fun C D h' tk news' F' N' hJ => ?_
  obtain ⟨oC, mC, rest, hpm, hoC, hr, q⟩ := done C D news' hJ
  have N' : News g env.locals h' ((C, oC) :: rest) := fun p hp => N' p (hpm.mem_iff.mpr hp)
  show wpAny _ A (assign (.Name y py) env (.ref D)) _ _ _
  refine wpAny_assign_Name (wpAny_storeName_local hy F'.ns (fun h₂ hn₂ hs₂ => ?_) hp)
  have F2 := F'.set hn₂ hs₂
  have N2 := N'.set hs₂
  exact ⟨mC, hoC.ns (N2 _ (.head _)).1, fun h'' hs'' => by obtain ⟨F3, N3⟩ := drop_C F2 N2 hr hs''; exact q h'' _ F3 N3⟩
/-- the source is a list of the ledger -/
theorem CompGoK.list {g : Heap} {L l : Addr} {m : Str → Option Value} {o0 : Obj} {x : Str} {px : Pos} {T : Addr → Addr → Addr → Value → (Shared → Prop) → Shared → Prop} {mf : Addr → Str → Option Value} {Fin : Addr → Shared → Prop} {vs : Array Value} {n : Nat} {news : List (Addr × Obj)}
    (J : Addr → Addr → Nat → List (Addr × Obj) → Prop) (hh : A.handled = none) (F : Fr g L s.heap m) (N : News g L s.heap news) (hm : (l, W.listOf vs n) ∈ news) (hmem : ∀ C D i news', J C D i news' → (l, W.listOf vs n) ∈ news')
    (h0 : ∀ (I C D : Addr) oC, NsObj oC (fun _ => none) → (D : Nat) < C → (I : Nat) < D → (L : Nat) < D → (∀ p ∈ news, (p.1 : Nat) < D) → J C D 0 ((C + 1, cellO) :: (C, oC) :: (D, o0) :: news))
    (turn : ∀ I C D i v news₁ oit s₁, vs[i]? = some v → J C D i news₁ → (∀ p ∈ news₁, p.1 ≠ I) → (∃ h tk, s₁ = { s with heap := h, toks := tk }) →
          Fr g L s₁.heap m → News g L s₁.heap ((I, oit) :: news₁) → T I C D v (CEnd g L m I oit (J C D (i + 1)) { s with heap := s.heap.push { cls := .type "list_iterator", data := .fields #[.ref l, .int 0 0] } }) s₁)
    (done : ∀ C D news', J C D vs.size news' → ∃ oC mC rest, news'.Perm ((C, oC) :: rest) ∧ NsObj oC mC ∧ (∀ p ∈ rest, p.1 ≠ C) ∧ ∀ h'' tk, Fr g L h'' (mf D) → News g L h'' rest → Fin D { s with heap := h'', toks := tk }) :
    CompGoK prog w A g L m o0 (.Name x px) T mf Fin (.ref s.heap.objs.size) { s with heap := s.heap.push { cls := .type "list_iterator", data := .fields #[.ref l, .int 0 0] } } := by
  have hlt : (l : Nat) < s.heap.objs.size := Heap.lt_size (N _ hm).1
  obtain ⟨z1, z2, z3⟩ := fresh_it F N
  have kp := push_sub s.heap { cls := .type "list_iterator", data := .fields #[.ref l, .int 0 0] }
  refine ⟨s.heap.objs.size, _, _, _, (fun i o => o.cls = .type "list_iterator" ∧ o.data = .fields #[.ref l, .int i 0]), (fun h => h.IsList l vs), news, J, rfl, Stepper.of (Walks.list hh s.heap.objs.size l (Nat.ne_of_lt hlt) vs) (fun b hb => by simpa using hb),
    fun i h => ⟨fun ⟨⟨o, a, b, c⟩, e⟩ => ⟨⟨o, a, b, c⟩, e⟩, fun ⟨⟨o, a, b, c⟩, e⟩ => ⟨⟨o, a, b, c⟩, e⟩⟩, fun h h' k ⟨o, e, r⟩ => ⟨o, k _ _ e, r⟩, fr_sub F kp, news_sub N kp, z1, z2, z3,
    ⟨⟨_, Heap.get?_push_size _ rfl, rfl, rfl⟩, ⟨_, kp _ _ (N _ hm).1, rfl, _, rfl⟩⟩, fun C D i news' h' j _ n => ⟨_, (n _ (hmem C D i news' j)).1, rfl, _, rfl⟩, fun C D oC => h0 _ C D oC, fun C D i v news₁ oit s₁ hi hP hJ hne ⟨h, tk, e⟩ => turn _ C D i v news₁ oit s₁ hP hJ hne ⟨h, tk, e⟩, done⟩
/-- a list's comprehension without a test, its target a cell of its own, given a name -/
theorem execListCompK {g : Heap} {elt target iter : Expr} {scope : Scope} {cl : List (Str × Addr)} {tb : Str} {pos spos py : Pos} {m : Str → Option Value} {Q : Flow → Shared → Prop} {y : Str} (F₀ : Fr g env.locals s.heap m)
    (hsw : swapsWith (.ListComp elt [⟨target, iter, [], 0⟩] scope pos) (some (.Name y py)) spos.line env = pure true)
    (hy : env.kindOf y = some .local) (hp : (env.scope.kind == .class || (env.scope.kind == .module && env.locals != env.globals)) = false) (hclos : closureFor scope env = pure cl)
    (hcells : ∀ n, cellsFrom n scope.names cl = (tb, n) :: cl) (hpush : ∀ h : Heap, pushCells h scope.names = h.push cellO) (hkind : scope.kind = .function) (hnames : ∀ x ∈ scope.names, x.2 = .local → scope.names.lookup x.1 = some .local)
    (h : wpAny (model prog w) A (eval iter env) (fun x s₁ => wpAny (model prog w) A (pyIter x) (CompGoK prog w A g env.locals m (lst []) target (fun _ C D => TL0 prog w A target elt (.ref D) (compEnvC scope ((tb, C + 1) :: cl) C env)) (fun D z => if z = y then some (.ref D) else m z) (fun _ => Q .next)) E s₁) E s)
    (hs : ∀ x, foldedSetIterable iter env x = pure x := by intro _; rfl) :
    wpAny (model prog w) A (exec (.Assign [.Name y py] (.ListComp elt [⟨target, iter, [], 0⟩] scope pos) spos) env) Q E s := by
  rw [exec_Assign_Name_used _ _ _ _ hsw]
  refine wpAny_bind (wpAny_standAt (wpAny_bind ?_))
  show wpAny _ A (do let _ ← comprehension (.ListComp elt [⟨target, iter, [], 0⟩] scope pos) scope env _ (newList []) false (eval iter env) (some (assign (.Name y py) env))) _ _ s
  refine wpAny_bind (wpAny_mono (useCompK (Q := fun _ s' => Q .next s') hy hp rfl (fun s Q E q => wpAny_newObj_type q) (fun I C D => loop_L0) rfl hs hclos hcells hpush hkind hnames h) (fun _ s' hq => wpAny_pure (wpAny_pure hq)) fun _ _ e => e)
end
/-- the keys of a table, as a list -/
theorem ints_of_ix : ∀ {vs : List Value} {ns : List Int}, vs.length = ns.length → (∀ (j : Nat) (v : Value), vs[j]? = some v → ∃ k t, v = .int k t ∧ ns[j]? = some k) → IntsAre vs ns
  | [], [], _, _ => .nil
  | [], _ :: _, h, _ => by simp at h
  | _ :: _, [], h, _ => by simp at h
  | v :: vs, n :: ns, h, q => by
    obtain ⟨k, t, rfl, e⟩ := q 0 v rfl
    simp only [List.getElem?_cons_zero, Option.some.injEq] at e
    subst e
    exact .cons n t (ints_of_ix (by simpa using h) fun j u hu => by simpa using q (j + 1) u (by simpa using hu))
theorem listKeys {w : World} {A : Around} {E : Value → Shared → Prop} {s : Shared} {g : Heap} {L d : Addr} {m : Str → Option Value} {news : List (Addr × Obj)} {es : List (Int × Int)} {Q : Value → Shared → Prop} (lo : (d == sysModules) = false) (hd : IntD PR w s.heap d es) (hl : es.length ≤ 1000) (hh : A.handled = none) (F : Fr g L s.heap m) (N : News g L s.heap news)
    (h : ∀ (D : Addr) c (vs : List Value) h' tk, Fr g L h' m → News g L h' ((D, W.listOf vs.toArray c) :: news) → (∀ p ∈ news, (p.1 : Nat) < D) → IntsAre vs (es.map (·.1)) → Q (.ref D) { s with heap := h', toks := tk }) :
    wpAny (model PR w) A (call (.type "list") [.ref d]) Q E s := by
  obtain ⟨kvs, hk, iv⟩ := hd
  obtain ⟨ep, hat⟩ := hk.dictAt
  refine kdl_N (kdl_dict (knd := intKind PR w) (kvs := kvs) (ep := ep) lo) hh F N hat (Nat.le_trans (show kvs.length ≤ 1000 by rw [iv.len]; exact hl) (by decide)) fun D c h' tk vs F' N' l1 hvl hv => ?_
  refine h D c vs h' tk F' N' l1 (ints_of_ix (by rw [hvl, List.length_map, iv.len]) fun j v hj => ?_)
  obtain ⟨k, x, hx, hkk⟩ := hv j v hj
  obtain ⟨n, t, _, he⟩ := iv.get hx
  obtain ⟨t', ht'⟩ := Value.isInt_shape (show v.isInt k = true by simpa [intKind] using hkk)
  exact ⟨k, t', ht', by rw [List.getElem?_map, he]; rfl⟩
end Mine
end
section
open PySem PySem.W PySem.Calls PyProof.Rows PySem.Spec
set_option Elab.async false
set_option linter.unusedVariables false
set_option maxRecDepth 100000
namespace Mine
noncomputable def insK (x : Int × Int) : List (Int × Int) → List (Int × Int)
  | [] => [x]
  | y :: l => if decide (y.1 < x.1) then y :: insK x l else x :: y :: l
noncomputable def sortK (l : List (Int × Int)) : List (Int × Int) := l.foldr insK []
/-- the classes: a form, and the counts of its prunings by key -/
noncomputable def clsL : List (List (List Nat) × List (Int × Int)) := [([[40, 41], [40, 41], [40, 41], [40, 41], [40, 41], [40, 41]], [(6, 1), (21, 6), (36, 15), (51, 20), (66, 15), (81, 6), (96, 1)]), ([[40, 40, 41, 41], [40, 41], [40, 41], [40, 41], [40, 41]], [(5, 1), (20, 4), (21, 1), (35, 6), (36, 5), (50, 4), (51, 10), (65, 1), (66, 10), (81, 5), (96, 1)]), ([[40, 40, 41, 40, 41, 41], [40, 41], [40, 41], [40, 41]], [(4, 1), (19, 3), (21, 1), (34, 3), (36, 5), (49, 1), (51, 10), (66, 10), (81, 5), (96, 1)]), ([[40, 40, 40, 41, 41, 41], [40, 41], [40, 41], [40, 41]], [(4, 1), (19, 3), (20, 1), (34, 3), (35, 3), (36, 1), (49, 1), (50, 3), (51, 4), (65, 1), (66, 6), (81, 4), (96, 1)]), ([[40, 40, 41, 40, 41, 40, 41, 41], [40, 41], [40, 41]], [(3, 1), (18, 2), (21, 1), (33, 1), (36, 5), (51, 10), (66, 10), (81, 5), (96, 1)]), ([[40, 40, 41, 41], [40, 40, 41, 41], [40, 41], [40, 41]], [(4, 1), (19, 2), (20, 2), (34, 1), (35, 6), (36, 1), (50, 6), (51, 4), (65, 2), (66, 6), (81, 4), (96, 1)]), ([[40, 40, 40, 41, 41, 40, 41, 41], [40, 41], [40, 41]], [(3, 1), (18, 2), (20, 1), (33, 1), (35, 3), (36, 1), (50, 3), (51, 4), (65, 1), (66, 6), (81, 4), (96, 1)]), ([[40, 40, 40, 41, 40, 41, 41, 41], [40, 41], [40, 41]], [(3, 1), (18, 2), (19, 1), (33, 1), (34, 2), (36, 1), (49, 1), (51, 4), (66, 6), (81, 4), (96, 1)]), ([[40, 40, 40, 40, 41, 41, 41, 41], [40, 41], [40, 41]], [(3, 1), (18, 2), (19, 1), (33, 1), (34, 2), (35, 1), (49, 1), (50, 2), (51, 1), (65, 1), (66, 3), (81, 3), (96, 1)]), ([[40, 40, 41, 40, 41, 40, 41, 40, 41, 41], [40, 41]], [(2, 1), (17, 1), (21, 1), (36, 5), (51, 10), (66, 10), (81, 5), (96, 1)]), ([[40, 40, 41, 40, 41, 41], [40, 40, 41, 41], [40, 41]], [(3, 1), (18, 1), (19, 1), (20, 1), (34, 2), (35, 3), (36, 1), (49, 1), (50, 3), (51, 4), (65, 1), (66, 6), (81, 4), (96, 1)]), ([[40, 40, 40, 41, 41, 40, 41, 40, 41, 41], [40, 41]], [(2, 1), (17, 1), (20, 1), (35, 3), (36, 1), (50, 3), (51, 4), (65, 1), (66, 6), (81, 4), (96, 1)]), ([[40, 40, 40, 41, 40, 41, 41, 40, 41, 41], [40, 41]], [(2, 1), (17, 1), (19, 1), (34, 2), (36, 1), (49, 1), (51, 4), (66, 6), (81, 4), (96, 1)]), ([[40, 40, 40, 41, 41, 41], [40, 40, 41, 41], [40, 41]], [(3, 1), (18, 1), (19, 2), (34, 3), (35, 2), (49, 1), (50, 4), (51, 1), (65, 2), (66, 3), (81, 3), (96, 1)]), ([[40, 40, 40, 40, 41, 41, 41, 40, 41, 41], [40, 41]], [(2, 1), (17, 1), (19, 1), (34, 2), (35, 1), (49, 1), (50, 2), (51, 1), (65, 1), (66, 3), (81, 3), (96, 1)]), ([[40, 40, 40, 41, 40, 41, 40, 41, 41, 41], [40, 41]], [(2, 1), (17, 1), (18, 1), (33, 1), (36, 1), (51, 4), (66, 6), (81, 4), (96, 1)]), ([[40, 40, 40, 41, 41, 40, 40, 41, 41, 41], [40, 41]], [(2, 1), (17, 1), (19, 1), (34, 1), (35, 2), (50, 4), (51, 1), (65, 2), (66, 3), (81, 3), (96, 1)]), ([[40, 40, 40, 40, 41, 41, 40, 41, 41, 41], [40, 41]], [(2, 1), (17, 1), (18, 1), (33, 1), (35, 1), (50, 2), (51, 1), (65, 1), (66, 3), (81, 3), (96, 1)]), ([[40, 40, 40, 40, 41, 40, 41, 41, 41, 41], [40, 41]], [(2, 1), (17, 1), (18, 1), (33, 1), (34, 1), (49, 1), (51, 1), (66, 3), (81, 3), (96, 1)]), ([[40, 40, 40, 40, 40, 41, 41, 41, 41, 41], [40, 41]], [(2, 1), (17, 1), (18, 1), (33, 1), (34, 1), (49, 1), (50, 1), (65, 1), (66, 1), (81, 2), (96, 1)]), ([[40, 40, 41, 40, 41, 40, 41, 40, 41, 40, 41, 41]], [(1, 1), (21, 1), (36, 5), (51, 10), (66, 10), (81, 5), (96, 1)]), ([[40, 40, 41, 40, 41, 40, 41, 41], [40, 40, 41, 41]], [(2, 1), (18, 1), (20, 1), (33, 1), (35, 3), (36, 1), (50, 3), (51, 4), (65, 1), (66, 6), (81, 4), (96, 1)]), ([[40, 40, 40, 41, 41, 40, 41, 40, 41, 40, 41, 41]], [(1, 1), (20, 1), (35, 3), (36, 1), (50, 3), (51, 4), (65, 1), (66, 6), (81, 4), (96, 1)]), ([[40, 40, 41, 40, 41, 41], [40, 40, 41, 40, 41, 41]], [(2, 1), (19, 2), (34, 4), (36, 1), (49, 2), (51, 4), (66, 6), (81, 4), (96, 1)]), ([[40, 40, 40, 41, 40, 41, 41, 40, 41, 40, 41, 41]], [(1, 1), (19, 1), (34, 2), (36, 1), (49, 1), (51, 4), (66, 6), (81, 4), (96, 1)]), ([[40, 40, 40, 41, 41, 41], [40, 40, 41, 40, 41, 41]], [(2, 1), (18, 1), (19, 1), (34, 3), (35, 1), (49, 2), (50, 2), (51, 1), (65, 1), (66, 3), (81, 3), (96, 1)]), ([[40, 40, 40, 40, 41, 41, 41, 40, 41, 40, 41, 41]], [(1, 1), (19, 1), (34, 2), (35, 1), (49, 1), (50, 2), (51, 1), (65, 1), (66, 3), (81, 3), (96, 1)]), ([[40, 40, 40, 41, 40, 41, 40, 41, 41, 40, 41, 41]], [(1, 1), (18, 1), (33, 1), (36, 1), (51, 4), (66, 6), (81, 4), (96, 1)]), ([[40, 40, 41, 41], [40, 40, 41, 41], [40, 40, 41, 41]], [(3, 1), (19, 3), (34, 3), (35, 3), (50, 6), (51, 1), (65, 3), (66, 3), (81, 3), (96, 1)]), ([[40, 40, 40, 41, 41, 40, 41, 41], [40, 40, 41, 41]], [(2, 1), (18, 1), (19, 1), (33, 1), (34, 1), (35, 2), (50, 4), (51, 1), (65, 2), (66, 3), (81, 3), (96, 1)]), ([[40, 40, 40, 41, 41, 40, 40, 41, 41, 40, 41, 41]], [(1, 1), (19, 1), (34, 1), (35, 2), (50, 4), (51, 1), (65, 2), (66, 3), (81, 3), (96, 1)]), ([[40, 40, 40, 40, 41, 41, 40, 41, 41, 40, 41, 41]], [(1, 1), (18, 1), (33, 1), (35, 1), (50, 2), (51, 1), (65, 1), (66, 3), (81, 3), (96, 1)]), ([[40, 40, 40, 41, 40, 41, 41, 41], [40, 40, 41, 41]], [(2, 1), (18, 2), (33, 1), (34, 1), (35, 1), (49, 1), (50, 2), (51, 1), (65, 1), (66, 3), (81, 3), (96, 1)]), ([[40, 40, 40, 40, 41, 40, 41, 41, 41, 40, 41, 41]], [(1, 1), (18, 1), (33, 1), (34, 1), (49, 1), (51, 1), (66, 3), (81, 3), (96, 1)]), ([[40, 40, 40, 40, 41, 41, 41, 41], [40, 40, 41, 41]], [(2, 1), (18, 2), (33, 1), (34, 2), (49, 1), (50, 2), (65, 2), (66, 1), (81, 2), (96, 1)]), ([[40, 40, 40, 40, 40, 41, 41, 41, 41, 40, 41, 41]], [(1, 1), (18, 1), (33, 1), (34, 1), (49, 1), (50, 1), (65, 1), (66, 1), (81, 2), (96, 1)]), ([[40, 40, 40, 41, 40, 41, 40, 41, 40, 41, 41, 41]], [(1, 1), (17, 1), (36, 1), (51, 4), (66, 6), (81, 4), (96, 1)]), ([[40, 40, 40, 41, 40, 41, 41, 40, 40, 41, 41, 41]], [(1, 1), (18, 1), (34, 1), (35, 1), (49, 1), (50, 2), (51, 1), (65, 1), (66, 3), (81, 3), (96, 1)]), ([[40, 40, 40, 40, 41, 41, 40, 41, 40, 41, 41, 41]], [(1, 1), (17, 1), (35, 1), (50, 2), (51, 1), (65, 1), (66, 3), (81, 3), (96, 1)]), ([[40, 40, 40, 40, 41, 40, 41, 41, 40, 41, 41, 41]], [(1, 1), (17, 1), (34, 1), (49, 1), (51, 1), (66, 3), (81, 3), (96, 1)]), ([[40, 40, 40, 41, 41, 41], [40, 40, 40, 41, 41, 41]], [(2, 1), (18, 2), (34, 3), (49, 2), (50, 2), (65, 2), (66, 1), (81, 2), (96, 1)]), ([[40, 40, 40, 40, 41, 41, 41, 40, 40, 41, 41, 41]], [(1, 1), (18, 1), (34, 2), (49, 1), (50, 2), (65, 2), (66, 1), (81, 2), (96, 1)]), ([[40, 40, 40, 40, 40, 41, 41, 41, 40, 41, 41, 41]], [(1, 1), (17, 1), (34, 1), (49, 1), (50, 1), (65, 1), (66, 1), (81, 2), (96, 1)]), ([[40, 40, 40, 40, 41, 40, 41, 40, 41, 41, 41, 41]], [(1, 1), (17, 1), (33, 1), (51, 1), (66, 3), (81, 3), (96, 1)]), ([[40, 40, 40, 40, 41, 41, 40, 40, 41, 41, 41, 41]], [(1, 1), (17, 1), (34, 1), (50, 2), (65, 2), (66, 1), (81, 2), (96, 1)]), ([[40, 40, 40, 40, 40, 41, 41, 40, 41, 41, 41, 41]], [(1, 1), (17, 1), (33, 1), (50, 1), (65, 1), (66, 1), (81, 2), (96, 1)]), ([[40, 40, 40, 40, 40, 41, 40, 41, 41, 41, 41, 41]], [(1, 1), (17, 1), (33, 1), (49, 1), (66, 1), (81, 2), (96, 1)]), ([[40, 40, 40, 40, 40, 40, 41, 41, 41, 41, 41, 41]], [(1, 1), (17, 1), (33, 1), (49, 1), (65, 1), (81, 1), (96, 1)])]
/-- the weight of each class: the sum of 256 to the keys -/
noncomputable def clsW : List Nat := [1552518092300708935148979488462502562264794805784388466971891624381698440902787380915437114963535719680049377908094690959372023303273286743102590931524016276160833521755895917703699422303860273521396540592292953647736086540670992384, 1552518092300708935148979488462502561096810007673106490999751693322423857340082779406280860004336874085283966058638717182076179137737422610916938149578445456240288986612570537007415684973715079819390689074233238978243863366974046208, 1552518092300708935148979488462502561096810007673106490999751693322423857336650380576215555146845923685743269439685086933243169061094857627577755814061646969841750106339266599747138612488008252019935312376829448743854593374588764160, 1552518092300708935148979488462502559928825209561824515027611762263149274652639879563777343705330380373396192042358456857197904516055629230222780924416488667947158921161749157681785431498810974978505895394140034078015488251524022272, 1552518092300708935148979488462502561096810007673106490999751693322423857336650380576215555146845923685743269439675000019656892074416514193312119048904810548282585442388462826587225819614617327252270946858886974607837692860150317056, 1552518092300708935148979488462502559928825209561824515027611762263149274656072278393842648562821330772936888658729837227944006003042275041558951379783163235199543830029287166004387528396441062255883699498270445492078226547666845696, 1552518092300708935148979488462502559928825209561824515027611762263149274652639879563777343705330380373396192042348369943611627529377285795957144159259652246387994257210945384521872638625420050210841529876197559941998587737085575168, 1552518092300708935148979488462502559928825209561824515027611762263149274649207480733712038847839429973855495425976989572865526042390639984620973703892977679135609348343407376199270541727789962933463725772067148527935849440942751744, 1552518092300708935148979488462502558760840411450542539055471831203874692843891080217991870924007188943926751819723734407822242165932739289325635388116508593851554833255620064720054166531895028900752159446763055862157748130440806400, 1552518092300708935148979488462502561096810007673106490999751693322423857336650380576215555146845923685743269439675000019656892074416514193312119048904780905507740689442434392415063595510162375758085413388456448653685872908595953664, 1552518092300708935148979488462502559928825209561824515027611762263149274652639879563777343705330380373396192042358456857197904516055629230222780924408900117586902166978470009608256060758343392467009326963925389815149580653606993920, 1552518092300708935148979488462502559928825209561824515027611762263149274652639879563777343705330380373396192042348369943611627529377285795957144159259622603613149504264916950349710414520965098716655996405767033987846767785531211776, 1552518092300708935148979488462502559928825209561824515027611762263149274649207480733712038847839429973855495425976989572865526042390639984620973703892948036360764595397378942027108317623335011439278192301636622573784029489388388352, 1552518092300708935148979488462502558760840411450542539055471831203874692847323479048057175781498139343467448433522951814067712049941809362924430730424976005382422751404378676014883619534072840855341706180296849622717292713621848064, 1552518092300708935148979488462502558760840411450542539055471831203874692843891080217991870924007188943926751819723734407822242165932739289325635388116478951076710080309591630547891942427440077406566625976332529908005928178886443008, 1552518092300708935148979488462502559928825209561824515027611762263149274649207480733712038847839429973855495425966902659279249055712296550355336938743700165161856685629854316940724895490411669183110395213908792700633036572866969600, 1552518092300708935148979488462502558760840411450542539055471831203874692847323479048057175781498139343467448433512864900481435063263465928658793965275698491408670088690825616756337973296694547104988375622138493795414479845546065920, 1552518092300708935148979488462502558760840411450542539055471831203874692843891080217991870924007188943926751819713647494235965179254395855059998622967231079877802170542067005461508520294516735150398828888604700034854935262365024256, 1552518092300708935148979488462502558760840411450542539055471831203874692840458681387926566066516238544386055205924517001576772281923669215726840045808011539545842162160833019253062489425262265451977079242798736147446383595705401344, 1552518092300708935148979488462502557592855613339260563083331900144600111913836381368924441660367299796875644729688667957286870122131788189720097482791744779243549792668946177136030016758511574215233422243821398658257508950066921472, 1552518092300708935148979488462502561096810007673106490999751693322423857336650380576215555146845923685743269439675000019656892074416514193312119048904780905507740689442434392415063595510162288645799481628209802029786370375933755648, 1552518092300708935148979488462502559928825209561824515027611762263149274652639879563777343705330380373396192042348369943611627529377285795957144159259652246387994257210945384521872638625397749465642999253056024223725939375562883072, 1552518092300708935148979488462502559928825209561824515027611762263149274652639879563777343705330380373396192042348369943611627529377285795957144159259622603613149504264916950349710414520965011604370064645520387363947265252869013760, 1552518092300708935148979488462502559928825209561824515027611762263149274649207480733712038847839429973855495425987076486451803029068983418886610469042225550334517258110932001285653963860691004444432992236653442682814193995941478400, 1552518092300708935148979488462502559928825209561824515027611762263149274649207480733712038847839429973855495425976989572865526042390639984620973703892948036360764595397378942027108317623334924326992260541389975949884526956726190336, 1552518092300708935148979488462502558760840411450542539055471831203874692843891080217991870924007188943926751819733821321408519152611082723591272153258167914690205988839865541732908217930037478671048697005367849631968165637331681280, 1552518092300708935148979488462502558760840411450542539055471831203874692843891080217991870924007188943926751819723734407822242165932739289325635388116478951076710080309591630547891942427439990294280694216085883284106425646224244992, 1552518092300708935148979488462502559928825209561824515027611762263149274649207480733712038847839429973855495425966902659279249055712296550355336938743700165161856685629854316940724895490411582070824463453662146076733534040204771584, 1552518092300708935148979488462502558760840411450542539055471831203874692850755877878122480638989089743008145047312082306726904947272536002257589307591784096074639513968891810296859021138085902294436184732084313895193771428389322752, 1552518092300708935148979488462502558760840411450542539055471831203874692847323479048057175781498139343467448433512864900481435063263465928658793965275728134183514841636854050928500197401127197853975378469427484031293651435577737216, 1552518092300708935148979488462502558760840411450542539055471831203874692847323479048057175781498139343467448433512864900481435063263465928658793965275698491408670088690825616756337973296694459992702443861891847171514977312883867904, 1552518092300708935148979488462502558760840411450542539055471831203874692843891080217991870924007188943926751819713647494235965179254395855059998622967231079877802170542067005461508520294516648038112897128358053410955432729702826240, 1552518092300708935148979488462502558760840411450542539055471831203874692843891080217991870924007188943926751819723734407822242165932739289325635388108920043491298079072340916646524795797114136414880899917640019758817172720810262528, 1552518092300708935148979488462502558760840411450542539055471831203874692840458681387926566066516238544386055205924517001576772281923669215726840045808011539545842162160833019253062489425262178339691147482552089523546881063043203328, 1552518092300708935148979488462502557592855613339260563083331900144600111917268780198989746517858250196416341340905635485445431416484939091315880948827867148494309880013611959238855165200187313211399788391602333320363435761298636800, 1552518092300708935148979488462502557592855613339260563083331900144600111913836381368924441660367299796875644729688667957286870122131788189720097482791744779243549792668946177136030016758511487102947490483574752034358006417404723456, 1552518092300708935148979488462502559928825209561824515027611762263149274649207480733712038847839429973855495425966902659279249055712296550355336938743670522387011932683825882768562671385978931321837460606373155840854362450173100288, 1552518092300708935148979488462502558760840411450542539055471831203874692843891080217991870924007188943926751819723734407822242165932739289325635388108890400716453326126312482474362571692681398553607965310104382899038498598116393216, 1552518092300708935148979488462502558760840411450542539055471831203874692843891080217991870924007188943926751819713647494235965179254395855059998622967201437102957417596038571289346296190083997289125894281069063175076261139671154944, 1552518092300708935148979488462502558760840411450542539055471831203874692840458681387926566066516238544386055205924517001576772281923669215726840045807981896770997409214804585080900265320829527590704144635263099287667709473011532032, 1552518092300708935148979488462502557592855613339260563083331900144600111917268780198989746517858250196416341340915722399031708403163282525581517713969526469332961035597857436251709216598352063726894856573348662808446501629712203776, 1552518092300708935148979488462502557592855613339260563083331900144600111917268780198989746517858250196416341340905635485445431416484939091315880948827837505719465127067583525066692941095754575350126853784066696460584761638604767488, 1552518092300708935148979488462502557592855613339260563083331900144600111913836381368924441660367299796875644729688667957286870122131788189720097482791715136468705039722917742963867792654078836353960487636285761798478834827373052160, 1552518092300708935148979488462502558760840411450542539055471831203874692840458681387926566066516238544386055205914430087990495295245325781461203280666322575932346253630559108068046213922664777075209076453516769799584643604597965056, 1552518092300708935148979488462502557592855613339260563083331900144600111917268780198989746517858250196416341340895548571859154429806595657050244183686148542105969218537309613881676665593157174085644782755031376736622524180159529216, 1552518092300708935148979488462502557592855613339260563083331900144600111913836381368924441660367299796875644729678581043700593135453444755454460717650055815630053884138672265951013741255914085838465419454539432310395768958959485184, 1552518092300708935148979488462502557592855613339260563083331900144600111910403982538859136802876349397334948118471700429128308827778637288124314016755622409992789705324280395033204868316835748106781124335793817372252079606173008128, 1552518092300708935148979488462502556424870815227978587111191969085325531862475783016575055914410712932242870111197288715343189432737467898635126882714307492830127112316712507875243868054139516181217017735693904047847679273872654592]
/-- the header lists of trees, each with its class -/
noncomputable def esT : List (List (Nat × Nat) × Nat) := [([(65, 98), (97, 99), (65, 100), (97, 101), (65, 102), (97, 103)], 0), ([(65, 98), (98, 99), (65, 100), (97, 101), (65, 102), (97, 103)], 1), ([(65, 98), (98, 99), (66, 100), (97, 101), (65, 102), (97, 103)], 2), ([(65, 98), (97, 99), (67, 100), (97, 101), (65, 102), (97, 103)], 1), ([(65, 98), (98, 99), (67, 100), (97, 101), (65, 102), (97, 103)], 3), ([(65, 98), (98, 99), (66, 100), (98, 101), (65, 102), (97, 103)], 4), ([(65, 98), (98, 99), (65, 100), (100, 101), (65, 102), (97, 103)], 5), ([(65, 98), (98, 99), (67, 100), (98, 101), (65, 102), (97, 103)], 6), ([(65, 98), (97, 99), (67, 100), (99, 101), (65, 102), (97, 103)], 2), ([(65, 98), (98, 99), (67, 100), (99, 101), (65, 102), (97, 103)], 7), ([(65, 98), (97, 99), (65, 100), (100, 101), (65, 102), (97, 103)], 1), ([(65, 98), (98, 99), (66, 100), (100, 101), (65, 102), (97, 103)], 6), ([(65, 98), (97, 99), (67, 100), (100, 101), (65, 102), (97, 103)], 3), ([(65, 98), (98, 99), (67, 100), (100, 101), (65, 102), (97, 103)], 8), ([(65, 98), (98, 99), (66, 100), (98, 101), (66, 102), (97, 103)], 9), ([(65, 98), (98, 99), (66, 100), (97, 101), (69, 102), (97, 103)], 10), ([(65, 98), (98, 99), (67, 100), (98, 101), (66, 102), (97, 103)], 11), ([(65, 98), (98, 99), (65, 100), (100, 101), (68, 102), (97, 103)], 10), ([(65, 98), (98, 99), (67, 100), (99, 101), (66, 102), (97, 103)], 12), ([(65, 98), (98, 99), (65, 100), (97, 101), (69, 102), (97, 103)], 5), ([(65, 98), (98, 99), (66, 100), (100, 101), (66, 102), (97, 103)], 11), ([(65, 98), (98, 99), (65, 100), (100, 101), (69, 102), (97, 103)], 13), ([(65, 98), (98, 99), (67, 100), (100, 101), (66, 102), (97, 103)], 14), ([(65, 98), (97, 99), (67, 100), (99, 101), (67, 102), (97, 103)], 4), ([(65, 98), (98, 99), (67, 100), (99, 101), (67, 102), (97, 103)], 15), ([(65, 98), (97, 99), (67, 100), (97, 101), (69, 102), (97, 103)], 5), ([(65, 98), (98, 99), (67, 100), (97, 101), (69, 102), (97, 103)], 13), ([(65, 98), (98, 99), (67, 100), (98, 101), (69, 102), (97, 103)], 16), ([(65, 98), (97, 99), (67, 100), (100, 101), (67, 102), (97, 103)], 6), ([(65, 98), (98, 99), (67, 100), (100, 101), (67, 102), (97, 103)], 17), ([(65, 98), (97, 99), (65, 100), (100, 101), (68, 102), (97, 103)], 2), ([(65, 98), (98, 99), (66, 100), (100, 101), (68, 102), (97, 103)], 12), ([(65, 98), (97, 99), (67, 100), (100, 101), (68, 102), (97, 103)], 7), ([(65, 98), (98, 99), (67, 100), (100, 101), (68, 102), (97, 103)], 18), ([(65, 98), (97, 99), (65, 100), (97, 101), (69, 102), (97, 103)], 1), ([(65, 98), (98, 99), (66, 100), (98, 101), (69, 102), (97, 103)], 11), ([(65, 98), (97, 99), (67, 100), (99, 101), (69, 102), (97, 103)], 6), ([(65, 98), (98, 99), (67, 100), (99, 101), (69, 102), (97, 103)], 17), ([(65, 98), (97, 99), (65, 100), (100, 101), (69, 102), (97, 103)], 3), ([(65, 98), (98, 99), (66, 100), (100, 101), (69, 102), (97, 103)], 14), ([(65, 98), (97, 99), (67, 100), (100, 101), (69, 102), (97, 103)], 8), ([(65, 98), (98, 99), (67, 100), (100, 101), (69, 102), (97, 103)], 19), ([(65, 98), (98, 99), (66, 100), (98, 101), (66, 102), (98, 103)], 20), ([(65, 98), (98, 99), (66, 100), (98, 101), (65, 102), (102, 103)], 21), ([(65, 98), (98, 99), (67, 100), (98, 101), (66, 102), (98, 103)], 22), ([(65, 98), (98, 99), (66, 100), (97, 101), (69, 102), (101, 103)], 23), ([(65, 98), (98, 99), (67, 100), (99, 101), (66, 102), (98, 103)], 24), ([(65, 98), (98, 99), (66, 100), (97, 101), (65, 102), (102, 103)], 10), ([(65, 98), (98, 99), (66, 100), (100, 101), (66, 102), (98, 103)], 22), ([(65, 98), (98, 99), (66, 100), (97, 101), (69, 102), (102, 103)], 25), ([(65, 98), (98, 99), (67, 100), (100, 101), (66, 102), (98, 103)], 26), ([(65, 98), (98, 99), (65, 100), (100, 101), (68, 102), (100, 103)], 21), ([(65, 98), (98, 99), (67, 100), (99, 101), (67, 102), (98, 103)], 27), ([(65, 98), (98, 99), (65, 100), (100, 101), (65, 102), (102, 103)], 28), ([(65, 98), (98, 99), (67, 100), (98, 101), (65, 102), (102, 103)], 29), ([(65, 98), (98, 99), (67, 100), (98, 101), (69, 102), (98, 103)], 30), ([(65, 98), (98, 99), (65, 100), (100, 101), (69, 102), (100, 103)], 29), ([(65, 98), (98, 99), (67, 100), (100, 101), (67, 102), (98, 103)], 31), ([(65, 98), (98, 99), (65, 100), (97, 101), (69, 102), (101, 103)], 10), ([(65, 98), (98, 99), (66, 100), (100, 101), (68, 102), (98, 103)], 24), ([(65, 98), (98, 99), (65, 100), (100, 101), (69, 102), (101, 103)], 32), ([(65, 98), (98, 99), (67, 100), (100, 101), (68, 102), (98, 103)], 33), ([(65, 98), (98, 99), (65, 100), (97, 101), (65, 102), (102, 103)], 5), ([(65, 98), (98, 99), (66, 100), (98, 101), (69, 102), (98, 103)], 22), ([(65, 98), (98, 99), (65, 100), (100, 101), (68, 102), (102, 103)], 29), ([(65, 98), (98, 99), (67, 100), (99, 101), (69, 102), (98, 103)], 31), ([(65, 98), (98, 99), (65, 100), (97, 101), (69, 102), (102, 103)], 13), ([(65, 98), (98, 99), (66, 100), (100, 101), (69, 102), (98, 103)], 26), ([(65, 98), (98, 99), (65, 100), (100, 101), (69, 102), (102, 103)], 34), ([(65, 98), (98, 99), (67, 100), (100, 101), (69, 102), (98, 103)], 35), ([(65, 98), (97, 99), (67, 100), (99, 101), (67, 102), (99, 103)], 9), ([(65, 98), (98, 99), (67, 100), (99, 101), (67, 102), (99, 103)], 36), ([(65, 98), (97, 99), (67, 100), (99, 101), (65, 102), (102, 103)], 10), ([(65, 98), (98, 99), (67, 100), (99, 101), (65, 102), (102, 103)], 32), ([(65, 98), (98, 99), (67, 100), (97, 101), (69, 102), (101, 103)], 25), ([(65, 98), (98, 99), (67, 100), (99, 101), (66, 102), (102, 103)], 37), ([(65, 98), (97, 99), (67, 100), (100, 101), (67, 102), (99, 103)], 11), ([(65, 98), (98, 99), (67, 100), (100, 101), (67, 102), (99, 103)], 38), ([(65, 98), (97, 99), (67, 100), (97, 101), (69, 102), (101, 103)], 10), ([(65, 98), (98, 99), (67, 100), (98, 101), (69, 102), (101, 103)], 37), ([(65, 98), (97, 99), (67, 100), (100, 101), (68, 102), (99, 103)], 12), ([(65, 98), (98, 99), (67, 100), (100, 101), (68, 102), (99, 103)], 39), ([(65, 98), (97, 99), (67, 100), (97, 101), (65, 102), (102, 103)], 5), ([(65, 98), (98, 99), (67, 100), (97, 101), (65, 102), (102, 103)], 13), ([(65, 98), (98, 99), (66, 100), (100, 101), (65, 102), (102, 103)], 29), ([(65, 98), (98, 99), (67, 100), (98, 101), (66, 102), (102, 103)], 30), ([(65, 98), (97, 99), (67, 100), (99, 101), (69, 102), (99, 103)], 11), ([(65, 98), (98, 99), (67, 100), (99, 101), (69, 102), (99, 103)], 38), ([(65, 98), (97, 99), (67, 100), (97, 101), (69, 102), (102, 103)], 13), ([(65, 98), (98, 99), (67, 100), (97, 101), (69, 102), (102, 103)], 40), ([(65, 98), (98, 99), (67, 100), (100, 101), (65, 102), (102, 103)], 34), ([(65, 98), (98, 99), (67, 100), (98, 101), (69, 102), (102, 103)], 41), ([(65, 98), (97, 99), (67, 100), (100, 101), (69, 102), (99, 103)], 14), ([(65, 98), (98, 99), (67, 100), (100, 101), (69, 102), (99, 103)], 42), ([(65, 98), (97, 99), (65, 100), (100, 101), (68, 102), (100, 103)], 4), ([(65, 98), (98, 99), (66, 100), (100, 101), (68, 102), (100, 103)], 27), ([(65, 98), (97, 99), (67, 100), (100, 101), (68, 102), (100, 103)], 15), ([(65, 98), (98, 99), (67, 100), (100, 101), (68, 102), (100, 103)], 43), ([(65, 98), (97, 99), (65, 100), (100, 101), (65, 102), (102, 103)], 5), ([(65, 98), (97, 99), (67, 100), (100, 101), (65, 102), (102, 103)], 13), ([(65, 98), (98, 99), (66, 100), (100, 101), (66, 102), (102, 103)], 30), ([(65, 98), (98, 99), (67, 100), (100, 101), (66, 102), (102, 103)], 41), ([(65, 98), (97, 99), (67, 100), (100, 101), (67, 102), (102, 103)], 16), ([(65, 98), (98, 99), (67, 100), (100, 101), (67, 102), (102, 103)], 44), ([(65, 98), (97, 99), (65, 100), (100, 101), (69, 102), (100, 103)], 6), ([(65, 98), (98, 99), (66, 100), (100, 101), (69, 102), (100, 103)], 31), ([(65, 98), (97, 99), (67, 100), (100, 101), (69, 102), (100, 103)], 17), ([(65, 98), (98, 99), (67, 100), (100, 101), (69, 102), (100, 103)], 45), ([(65, 98), (97, 99), (65, 100), (97, 101), (69, 102), (101, 103)], 2), ([(65, 98), (98, 99), (66, 100), (98, 101), (69, 102), (101, 103)], 24), ([(65, 98), (97, 99), (67, 100), (99, 101), (69, 102), (101, 103)], 12), ([(65, 98), (98, 99), (67, 100), (99, 101), (69, 102), (101, 103)], 39), ([(65, 98), (97, 99), (65, 100), (100, 101), (69, 102), (101, 103)], 7), ([(65, 98), (98, 99), (66, 100), (100, 101), (69, 102), (101, 103)], 33), ([(65, 98), (97, 99), (67, 100), (100, 101), (69, 102), (101, 103)], 18), ([(65, 98), (98, 99), (67, 100), (100, 101), (69, 102), (101, 103)], 46), ([(65, 98), (97, 99), (65, 100), (97, 101), (65, 102), (102, 103)], 1), ([(65, 98), (98, 99), (66, 100), (98, 101), (66, 102), (102, 103)], 22), ([(65, 98), (97, 99), (67, 100), (99, 101), (67, 102), (102, 103)], 11), ([(65, 98), (98, 99), (67, 100), (99, 101), (67, 102), (102, 103)], 38), ([(65, 98), (97, 99), (65, 100), (100, 101), (68, 102), (102, 103)], 6), ([(65, 98), (98, 99), (66, 100), (100, 101), (68, 102), (102, 103)], 31), ([(65, 98), (97, 99), (67, 100), (100, 101), (68, 102), (102, 103)], 17), ([(65, 98), (98, 99), (67, 100), (100, 101), (68, 102), (102, 103)], 45), ([(65, 98), (97, 99), (65, 100), (97, 101), (69, 102), (102, 103)], 3), ([(65, 98), (98, 99), (66, 100), (98, 101), (69, 102), (102, 103)], 26), ([(65, 98), (97, 99), (67, 100), (99, 101), (69, 102), (102, 103)], 14), ([(65, 98), (98, 99), (67, 100), (99, 101), (69, 102), (102, 103)], 42), ([(65, 98), (97, 99), (65, 100), (100, 101), (69, 102), (102, 103)], 8), ([(65, 98), (98, 99), (66, 100), (100, 101), (69, 102), (102, 103)], 35), ([(65, 98), (97, 99), (67, 100), (100, 101), (69, 102), (102, 103)], 19), ([(65, 98), (98, 99), (67, 100), (100, 101), (69, 102), (102, 103)], 47)]
noncomputable def tabOk (p : List (Nat × Nat) × Nat) : Bool := match tabE p.1 8 97 with | some T => sortK T == (clsL.getD p.2 ([], [])).2 | none => false
theorem tab_ok0 : ((esT.drop 0).take 33).all tabOk = true := by decide +kernel
theorem tab_ok1 : ((esT.drop 33).take 33).all tabOk = true := by decide +kernel
theorem tab_ok2 : ((esT.drop 66).take 33).all tabOk = true := by decide +kernel
theorem tab_ok3 : ((esT.drop 99).take 33).all tabOk = true := by decide +kernel
theorem tab_ok : ∀ p ∈ esT, tabOk p = true := by
  intro p hp
  have e : esT = (esT.drop 0).take 33 ++ ((esT.drop 33).take 33 ++ ((esT.drop 66).take 33 ++ (esT.drop 99).take 33)) := by decide +kernel
  rw [e] at hp
  rcases List.mem_append.mp hp with hp | hp
  · exact List.all_eq_true.mp tab_ok0 p hp
  rcases List.mem_append.mp hp with hp | hp
  · exact List.all_eq_true.mp tab_ok1 p hp
  rcases List.mem_append.mp hp with hp | hp
  · exact List.all_eq_true.mp tab_ok2 p hp
  · exact List.all_eq_true.mp tab_ok3 p hp
/-- the weight of all prunings -/
noncomputable def sumB (l : List Ch) : Nat := l.foldl (fun n c => n + 256 ^ (chKey c).toNat) 0
noncomputable def esAt (i : Nat) : List (Nat × Nat) × Nat := esT.getD i ([], 0)
noncomputable def treeOk (u : List Nat) (p : Nat × Nat) : Bool := ((wrE u false (fun _ => 0) 8 0).bind filedE == some (esAt p.1).1) && ((wrE u true (fun _ => 0) 8 0).bind filedE == some (esAt p.2).1) && (Nat.beq (esAt p.1).2 (esAt p.2).2 && Nat.blt (esAt p.1).2 48 && Nat.blt p.1 132 && Nat.blt p.2 132) &&
  ((clsL.getD (esAt p.1).2 ([], [])).1 == formE u) && Nat.beq (clsW.getD (esAt p.1).2 0) (sumB (chAll (intsOf u) 6))
theorem tr_000 : ((List.range 5).all fun d => (List.range 6).all fun e => treeOk [0, 0, 0, 0, 0, d, e] ((List.getD [[(0, 0), (1, 116), (3, 34), (10, 10), (34, 3), (116, 1)], [(1, 116), (2, 108), (6, 98), (19, 82), (62, 62), (4, 124)], [(3, 34), (6, 98), (8, 30), (25, 25), (82, 19), (12, 38)], [(10, 10), (19, 82), (25, 25), (30, 8), (98, 6), (38, 12)], [(34, 3), (62, 62), (82, 19), (98, 6), (108, 2), (124, 4)]] d []).getD e (0, 0))) = true := by decide +kernel
theorem tr_001 : ((List.range 5).all fun d => (List.range 6).all fun e => treeOk [0, 0, 0, 0, 1, d, e] ((List.getD [[(1, 116), (2, 108), (6, 98), (19, 82), (4, 124), (62, 62)], [(2, 108), (5, 94), (15, 78), (47, 58), (7, 120), (11, 104)], [(6, 98), (15, 78), (17, 72), (53, 53), (26, 88), (21, 99)], [(19, 82), (47, 58), (53, 53), (58, 47), (83, 66), (66, 83)], [(4, 124), (7, 120), (26, 88), (83, 66), (9, 112), (13, 128)]] d []).getD e (0, 0))) = true := by decide +kernel
theorem tr_002 : ((List.range 5).all fun d => (List.range 6).all fun e => treeOk [0, 0, 0, 0, 2, d, e] ((List.getD [[(3, 34), (6, 98), (8, 30), (25, 25), (12, 38), (82, 19)], [(6, 98), (15, 78), (17, 72), (53, 53), (21, 99), (26, 88)], [(8, 30), (17, 72), (23, 23), (72, 17), (28, 36), (36, 28)], [(25, 25), (53, 53), (72, 17), (78, 15), (99, 21), (88, 26)], [(12, 38), (21, 99), (28, 36), (99, 21), (32, 32), (40, 40)]] d []).getD e (0, 0))) = true := by decide +kernel
theorem tr_003 : ((List.range 5).all fun d => (List.range 6).all fun e => treeOk [0, 0, 0, 0, 3, d, e] ((List.getD [[(10, 10), (19, 82), (25, 25), (30, 8), (38, 12), (98, 6)], [(19, 82), (47, 58), (53, 53), (58, 47), (66, 83), (83, 66)], [(25, 25), (53, 53), (72, 17), (78, 15), (88, 26), (99, 21)], [(30, 8), (58, 47), (78, 15), (94, 5), (104, 11), (120, 7)], [(38, 12), (66, 83), (88, 26), (104, 11), (112, 9), (128, 13)]] d []).getD e (0, 0))) = true := by decide +kernel
theorem tr_010 : ((List.range 5).all fun d => (List.range 6).all fun e => treeOk [0, 0, 0, 1, 0, d, e] ((List.getD [[(1, 116), (2, 108), (6, 98), (4, 124), (19, 82), (62, 62)], [(2, 108), (5, 94), (15, 78), (7, 120), (47, 58), (11, 104)], [(6, 98), (15, 78), (17, 72), (26, 88), (53, 53), (21, 99)], [(4, 124), (7, 120), (26, 88), (9, 112), (83, 66), (13, 128)], [(19, 82), (47, 58), (53, 53), (83, 66), (58, 47), (66, 83)]] d []).getD e (0, 0))) = true := by decide +kernel
theorem tr_011 : ((List.range 5).all fun d => (List.range 6).all fun e => treeOk [0, 0, 0, 1, 1, d, e] ((List.getD [[(2, 108), (5, 94), (15, 78), (7, 120), (11, 104), (47, 58)], [(5, 94), (14, 70), (43, 51), (16, 118), (20, 86), (35, 76)], [(15, 78), (43, 51), (45, 45), (54, 64), (84, 56), (49, 74)], [(7, 120), (16, 118), (54, 64), (18, 110), (27, 102), (22, 126)], [(11, 104), (20, 86), (84, 56), (27, 102), (31, 80), (39, 92)]] d []).getD e (0, 0))) = true := by decide +kernel
theorem tr_012 : ((List.range 5).all fun d => (List.range 6).all fun e => treeOk [0, 0, 0, 1, 2, d, e] ((List.getD [[(6, 98), (15, 78), (17, 72), (26, 88), (21, 99), (53, 53)], [(15, 78), (43, 51), (45, 45), (54, 64), (49, 74), (84, 56)], [(17, 72), (45, 45), (51, 43), (74, 49), (56, 84), (64, 54)], [(26, 88), (54, 64), (74, 49), (73, 60), (89, 89), (90, 68)], [(21, 99), (49, 74), (56, 84), (89, 89), (60, 73), (68, 90)]] d []).getD e (0, 0))) = true := by decide +kernel
theorem tr_013 : ((List.range 5).all fun d => (List.range 6).all fun e => treeOk [0, 0, 0, 1, 3, d, e] ((List.getD [[(4, 124), (7, 120), (26, 88), (9, 112), (13, 128), (83, 66)], [(7, 120), (16, 118), (54, 64), (18, 110), (22, 126), (27, 102)], [(26, 88), (54, 64), (74, 49), (73, 60), (90, 68), (89, 89)], [(9, 112), (18, 110), (73, 60), (24, 96), (29, 122), (37, 106)], [(13, 128), (22, 126), (90, 68), (29, 122), (33, 114), (41, 130)]] d []).getD e (0, 0))) = true := by decide +kernel
theorem tr_020 : ((List.range 5).all fun d => (List.range 6).all fun e => treeOk [0, 0, 0, 2, 0, d, e] ((List.getD [[(3, 34), (6, 98), (8, 30), (12, 38), (25, 25), (82, 19)], [(6, 98), (15, 78), (17, 72), (21, 99), (53, 53), (26, 88)], [(8, 30), (17, 72), (23, 23), (28, 36), (72, 17), (36, 28)], [(12, 38), (21, 99), (28, 36), (32, 32), (99, 21), (40, 40)], [(25, 25), (53, 53), (72, 17), (99, 21), (78, 15), (88, 26)]] d []).getD e (0, 0))) = true := by decide +kernel
theorem tr_021 : ((List.range 5).all fun d => (List.range 6).all fun e => treeOk [0, 0, 0, 2, 1, d, e] ((List.getD [[(6, 98), (15, 78), (17, 72), (21, 99), (26, 88), (53, 53)], [(15, 78), (43, 51), (45, 45), (49, 74), (54, 64), (84, 56)], [(17, 72), (45, 45), (51, 43), (56, 84), (74, 49), (64, 54)], [(21, 99), (49, 74), (56, 84), (60, 73), (89, 89), (68, 90)], [(26, 88), (54, 64), (74, 49), (89, 89), (73, 60), (90, 68)]] d []).getD e (0, 0))) = true := by decide +kernel
theorem tr_022 : ((List.range 5).all fun d => (List.range 6).all fun e => treeOk [0, 0, 0, 2, 2, d, e] ((List.getD [[(8, 30), (17, 72), (23, 23), (28, 36), (36, 28), (72, 17)], [(17, 72), (45, 45), (51, 43), (56, 84), (64, 54), (74, 49)], [(23, 23), (51, 43), (70, 14), (76, 35), (86, 20), (118, 16)], [(28, 36), (56, 84), (76, 35), (80, 31), (102, 27), (92, 39)], [(36, 28), (64, 54), (86, 20), (102, 27), (110, 18), (126, 22)]] d []).getD e (0, 0))) = true := by decide +kernel
theorem tr_023 : ((List.range 5).all fun d => (List.range 6).all fun e => treeOk [0, 0, 0, 2, 3, d, e] ((List.getD [[(12, 38), (21, 99), (28, 36), (32, 32), (40, 40), (99, 21)], [(21, 99), (49, 74), (56, 84), (60, 73), (68, 90), (89, 89)], [(28, 36), (56, 84), (76, 35), (80, 31), (92, 39), (102, 27)], [(32, 32), (60, 73), (80, 31), (96, 24), (106, 37), (122, 29)], [(40, 40), (68, 90), (92, 39), (106, 37), (114, 33), (130, 41)]] d []).getD e (0, 0))) = true := by decide +kernel
theorem tr_100 : ((List.range 5).all fun d => (List.range 6).all fun e => treeOk [0, 0, 1, 0, 0, d, e] ((List.getD [[(1, 116), (2, 108), (4, 124), (6, 98), (19, 82), (62, 62)], [(2, 108), (5, 94), (7, 120), (15, 78), (47, 58), (11, 104)], [(4, 124), (7, 120), (9, 112), (26, 88), (83, 66), (13, 128)], [(6, 98), (15, 78), (26, 88), (17, 72), (53, 53), (21, 99)], [(19, 82), (47, 58), (83, 66), (53, 53), (58, 47), (66, 83)]] d []).getD e (0, 0))) = true := by decide +kernel
theorem tr_101 : ((List.range 5).all fun d => (List.range 6).all fun e => treeOk [0, 0, 1, 0, 1, d, e] ((List.getD [[(2, 108), (5, 94), (7, 120), (15, 78), (11, 104), (47, 58)], [(5, 94), (14, 70), (16, 118), (43, 51), (20, 86), (35, 76)], [(7, 120), (16, 118), (18, 110), (54, 64), (27, 102), (22, 126)], [(15, 78), (43, 51), (54, 64), (45, 45), (84, 56), (49, 74)], [(11, 104), (20, 86), (27, 102), (84, 56), (31, 80), (39, 92)]] d []).getD e (0, 0))) = true := by decide +kernel
theorem tr_102 : ((List.range 5).all fun d => (List.range 6).all fun e => treeOk [0, 0, 1, 0, 2, d, e] ((List.getD [[(4, 124), (7, 120), (9, 112), (26, 88), (13, 128), (83, 66)], [(7, 120), (16, 118), (18, 110), (54, 64), (22, 126), (27, 102)], [(9, 112), (18, 110), (24, 96), (73, 60), (29, 122), (37, 106)], [(26, 88), (54, 64), (73, 60), (74, 49), (90, 68), (89, 89)], [(13, 128), (22, 126), (29, 122), (90, 68), (33, 114), (41, 130)]] d []).getD e (0, 0))) = true := by decide +kernel
theorem tr_103 : ((List.range 5).all fun d => (List.range 6).all fun e => treeOk [0, 0, 1, 0, 3, d, e] ((List.getD [[(6, 98), (15, 78), (26, 88), (17, 72), (21, 99), (53, 53)], [(15, 78), (43, 51), (54, 64), (45, 45), (49, 74), (84, 56)], [(26, 88), (54, 64), (73, 60), (74, 49), (89, 89), (90, 68)], [(17, 72), (45, 45), (74, 49), (51, 43), (56, 84), (64, 54)], [(21, 99), (49, 74), (89, 89), (56, 84), (60, 73), (68, 90)]] d []).getD e (0, 0))) = true := by decide +kernel
theorem tr_110 : ((List.range 5).all fun d => (List.range 6).all fun e => treeOk [0, 0, 1, 1, 0, d, e] ((List.getD [[(2, 108), (5, 94), (7, 120), (11, 104), (15, 78), (47, 58)], [(5, 94), (14, 70), (16, 118), (20, 86), (43, 51), (35, 76)], [(7, 120), (16, 118), (18, 110), (27, 102), (54, 64), (22, 126)], [(11, 104), (20, 86), (27, 102), (31, 80), (84, 56), (39, 92)], [(15, 78), (43, 51), (54, 64), (84, 56), (45, 45), (49, 74)]] d []).getD e (0, 0))) = true := by decide +kernel
theorem tr_111 : ((List.range 5).all fun d => (List.range 6).all fun e => treeOk [0, 0, 1, 1, 1, d, e] ((List.getD [[(5, 94), (14, 70), (16, 118), (20, 86), (35, 76), (43, 51)], [(14, 70), (42, 42), (44, 117), (48, 63), (63, 48), (117, 44)], [(16, 118), (44, 117), (46, 109), (55, 100), (85, 85), (50, 125)], [(20, 86), (48, 63), (55, 100), (59, 59), (100, 55), (67, 67)], [(35, 76), (63, 48), (85, 85), (100, 55), (109, 46), (125, 50)]] d []).getD e (0, 0))) = true := by decide +kernel
theorem tr_112 : ((List.range 5).all fun d => (List.range 6).all fun e => treeOk [0, 0, 1, 1, 2, d, e] ((List.getD [[(7, 120), (16, 118), (18, 110), (27, 102), (22, 126), (54, 64)], [(16, 118), (44, 117), (46, 109), (55, 100), (50, 125), (85, 85)], [(18, 110), (46, 109), (52, 95), (75, 79), (57, 121), (65, 105)], [(27, 102), (55, 100), (75, 79), (79, 75), (101, 91), (91, 101)], [(22, 126), (50, 125), (57, 121), (101, 91), (61, 113), (69, 129)]] d []).getD e (0, 0))) = true := by decide +kernel
theorem tr_113 : ((List.range 5).all fun d => (List.range 6).all fun e => treeOk [0, 0, 1, 1, 3, d, e] ((List.getD [[(11, 104), (20, 86), (27, 102), (31, 80), (39, 92), (84, 56)], [(20, 86), (48, 63), (55, 100), (59, 59), (67, 67), (100, 55)], [(27, 102), (55, 100), (75, 79), (79, 75), (91, 101), (101, 91)], [(31, 80), (59, 59), (79, 75), (95, 52), (105, 65), (121, 57)], [(39, 92), (67, 67), (91, 101), (105, 65), (113, 61), (129, 69)]] d []).getD e (0, 0))) = true := by decide +kernel
theorem tr_120 : ((List.range 5).all fun d => (List.range 6).all fun e => treeOk [0, 0, 1, 2, 0, d, e] ((List.getD [[(4, 124), (7, 120), (9, 112), (13, 128), (26, 88), (83, 66)], [(7, 120), (16, 118), (18, 110), (22, 126), (54, 64), (27, 102)], [(9, 112), (18, 110), (24, 96), (29, 122), (73, 60), (37, 106)], [(13, 128), (22, 126), (29, 122), (33, 114), (90, 68), (41, 130)], [(26, 88), (54, 64), (73, 60), (90, 68), (74, 49), (89, 89)]] d []).getD e (0, 0))) = true := by decide +kernel
theorem tr_121 : ((List.range 5).all fun d => (List.range 6).all fun e => treeOk [0, 0, 1, 2, 1, d, e] ((List.getD [[(7, 120), (16, 118), (18, 110), (22, 126), (27, 102), (54, 64)], [(16, 118), (44, 117), (46, 109), (50, 125), (55, 100), (85, 85)], [(18, 110), (46, 109), (52, 95), (57, 121), (75, 79), (65, 105)], [(22, 126), (50, 125), (57, 121), (61, 113), (101, 91), (69, 129)], [(27, 102), (55, 100), (75, 79), (101, 91), (79, 75), (91, 101)]] d []).getD e (0, 0))) = true := by decide +kernel
theorem tr_122 : ((List.range 5).all fun d => (List.range 6).all fun e => treeOk [0, 0, 1, 2, 2, d, e] ((List.getD [[(9, 112), (18, 110), (24, 96), (29, 122), (37, 106), (73, 60)], [(18, 110), (46, 109), (52, 95), (57, 121), (65, 105), (75, 79)], [(24, 96), (52, 95), (71, 71), (77, 119), (87, 87), (119, 77)], [(29, 122), (57, 121), (77, 119), (81, 111), (103, 103), (93, 127)], [(37, 106), (65, 105), (87, 87), (103, 103), (111, 81), (127, 93)]] d []).getD e (0, 0))) = true := by decide +kernel
theorem tr_123 : ((List.range 5).all fun d => (List.range 6).all fun e => treeOk [0, 0, 1, 2, 3, d, e] ((List.getD [[(13, 128), (22, 126), (29, 122), (33, 114), (41, 130), (90, 68)], [(22, 126), (50, 125), (57, 121), (61, 113), (69, 129), (101, 91)], [(29, 122), (57, 121), (77, 119), (81, 111), (93, 127), (103, 103)], [(33, 114), (61, 113), (81, 111), (97, 97), (107, 123), (123, 107)], [(41, 130), (69, 129), (93, 127), (107, 123), (115, 115), (131, 131)]] d []).getD e (0, 0))) = true := by decide +kernel
theorem tree_ok {u : List Nat} (hT : Tree u) : ∃ p, treeOk u p = true := by
  obtain ⟨a, b, c, d, e, rfl, ha, hb, hc, hd, he⟩ := hT
  have go : ∀ {a b c : Nat} {l : List (List (Nat × Nat))}, ((List.range 5).all fun d => (List.range 6).all fun e => treeOk [0, 0, a, b, c, d, e] ((l.getD d []).getD e (0, 0))) = true → ∃ p, treeOk [0, 0, a, b, c, d, e] p = true := fun h => ⟨_, List.all_eq_true.mp (List.all_eq_true.mp h d (List.mem_range.mpr hd)) e (List.mem_range.mpr he)⟩
  match a, b, c, ha, hb, hc with
  | 0, 0, 0, _, _, _ => exact go tr_000
  | 0, 0, 1, _, _, _ => exact go tr_001
  | 0, 0, 2, _, _, _ => exact go tr_002
  | 0, 0, 3, _, _, _ => exact go tr_003
  | 0, 1, 0, _, _, _ => exact go tr_010
  | 0, 1, 1, _, _, _ => exact go tr_011
  | 0, 1, 2, _, _, _ => exact go tr_012
  | 0, 1, 3, _, _, _ => exact go tr_013
  | 0, 2, 0, _, _, _ => exact go tr_020
  | 0, 2, 1, _, _, _ => exact go tr_021
  | 0, 2, 2, _, _, _ => exact go tr_022
  | 0, 2, 3, _, _, _ => exact go tr_023
  | 1, 0, 0, _, _, _ => exact go tr_100
  | 1, 0, 1, _, _, _ => exact go tr_101
  | 1, 0, 2, _, _, _ => exact go tr_102
  | 1, 0, 3, _, _, _ => exact go tr_103
  | 1, 1, 0, _, _, _ => exact go tr_110
  | 1, 1, 1, _, _, _ => exact go tr_111
  | 1, 1, 2, _, _, _ => exact go tr_112
  | 1, 1, 3, _, _, _ => exact go tr_113
  | 1, 2, 0, _, _, _ => exact go tr_120
  | 1, 2, 1, _, _, _ => exact go tr_121
  | 1, 2, 2, _, _, _ => exact go tr_122
  | 1, 2, 3, _, _, _ => exact go tr_123
noncomputable def rising : List (Int × Int) → Bool
  | x :: y :: l => decide (x.1 < y.1) && rising (y :: l)
  | _ => true
theorem cls_rising : (clsL.all fun p => rising p.2 && decide (p.2.length ≤ 20)) = true := by decide +kernel
theorem cls_signs : (clsL.all fun p => p.1.all fun x => x.all fun c => decide (c < 0x110000)) = true := by decide +kernel
/-- a count of keys -/
noncomputable def cntK (es : List (Int × Int)) (k : Int) : List (Int × Int) := iput es k ((ilook es k).getD 0 + 1)
noncomputable def expK (l : List (Int × Int)) : List Nat := l.flatMap fun e => List.replicate e.2.toNat e.1.toNat
noncomputable def wtK (l : List Nat) : Nat := (l.map (256 ^ ·)).sum
theorem cls_wt : ((List.range 48).all fun i => wtK (expK (clsL.getD i ([], [])).2) == clsW.getD i 0 && decide ((expK (clsL.getD i ([], [])).2).length < 256) && sortK (((expK (clsL.getD i ([], [])).2).map Int.ofNat).foldl cntK []) == (clsL.getD i ([], [])).2) = true := by decide +kernel
noncomputable def gt (l : List (Int × Int)) (k : Int) : Int := (ilook l k).getD 0
noncomputable def apartB (p q : List (Int × Int)) : Bool := p.any (fun e => gt q e.1 != gt p e.1) || q.any (fun e => gt q e.1 != gt p e.1)
theorem cls_apart : ((List.range 48).all fun i => (List.range 48).all fun j => i == j || apartB (clsL.getD i ([], [])).2 (clsL.getD j ([], [])).2) = true := by decide +kernel
theorem cls_forms : ((List.range 48).all fun i => (List.range 48).all fun j => i == j || (clsL.getD i ([], [])).1 != (clsL.getD j ([], [])).1) = true := by decide +kernel
end Mine
end
section
open PySem PySem.W PySem.Calls PyProof.Rows PySem.Spec
set_option Elab.async false
set_option linter.unusedVariables false
set_option maxRecDepth 100000
namespace Mine
/-- two texts that are filed alike -/
structure Rel (t t0 : List Nat) : Prop where
  nil : t = [] ↔ t0 = []
  len : t.length ≤ t0.length
  file : ∀ st, t.foldl fileStep st = t0.foldl fileStep st
theorem getD_mem (l : List Nat) (i : Nat) : l.getD i 0 ∈ 0 :: l := by
  rw [List.getD_eq_getElem?_getD]
  cases q : l[i]? with
  | none => exact .head _
  | some x => exact .tail _ (List.mem_of_getElem? q)
theorem near_file (i : Nat) (st : Option FS) : fileStep st (nearL.getD i 0) = st := by
  have h : ∀ x ∈ 0 :: nearL, c8 (x : Int) = false := by decide
  have hc := h _ (getD_mem nearL i)
  generalize nearL.getD i 0 = c at hc
  cases st with
  | none => rfl
  | some s => simp [fileStep, hc]
theorem open_file (i : Nat) (st : Option FS) : fileStep st (openL.getD (i % 4) 0) = fileStep st 8234 := by
  have h : ∀ j < 4, ∀ s : Option FS, fileStep s (openL.getD j 0) = fileStep s 8234 := by
    intro j hj s
    rcases (show j = 0 ∨ j = 1 ∨ j = 2 ∨ j = 3 by omega) with rfl | rfl | rfl | rfl <;> cases s <;> rfl
  exact h _ (Nat.mod_lt _ (by decide)) st
theorem bare_file {i : Nat} (hi : i < 10) (st : Option FS) : fileStep st (bareL.getD i 0) = fileStep (fileStep st 8234) 8236 := by
  cases st with
  | none => rfl
  | some s =>
    have h1 : fileStep (some s) (bareL.getD i 0) = if 1 ≤ s.seen ∧ s.seen ≤ 6 then s.stack.getLast?.map fun a => ⟨s.stack, s.seen + 1, s.es ++ [(if s.seen % 2 = 1 then upN a else a, 97 + s.seen)]⟩ else none := by
      rcases (show i = 0 ∨ i = 1 ∨ i = 2 ∨ i = 3 ∨ i = 4 ∨ i = 5 ∨ i = 6 ∨ i = 7 ∨ i = 8 ∨ i = 9 by omega) with rfl | rfl | rfl | rfl | rfl | rfl | rfl | rfl | rfl | rfl <;> rfl
    have h2 : fileStep (some s) 8234 = if 1 ≤ s.seen ∧ s.seen ≤ 6 then s.stack.getLast?.map fun a => ⟨s.stack ++ [97 + s.seen], s.seen + 1, s.es ++ [(if s.seen % 2 = 1 then upN a else a, 97 + s.seen)]⟩ else none := rfl
    rw [h1, h2]
    split
    · cases s.stack.getLast? with
      | none => rfl
      | some a =>
        show some _ = (if s.stack ++ [97 + s.seen] = [] then none else some _)
        rw [if_neg (by simp)]
        simp
    · rfl
theorem bit_rel {fg : Nat} (hf : fg < 112) {inn inn0 : List Nat} (r : Rel inn inn0) : (bitOf fg inn).length ≤ (bitOf 0 inn0).length ∧ bitOf fg inn ≠ [] ∧ bitOf 0 inn0 ≠ [] ∧ ∀ st, (bitOf fg inn).foldl fileStep st = (bitOf 0 inn0).foldl fileStep st := by
  have e0 : bitOf 0 inn0 = nearL.getD 0 0 :: openL.getD 0 0 :: (inn0 ++ [8236]) := by
    unfold bitOf
    rw [if_neg (by omega)]
  rw [e0]
  unfold bitOf
  split
  · rename_i h
    have h0 := r.nil.mp h.1
    subst h0
    refine ⟨by simp, by simp, by simp, fun st => ?_⟩
    simp only [List.foldl_cons, List.foldl_nil, List.nil_append]
    rw [near_file, near_file, bare_file (by omega), open_file 0]
  · refine ⟨?_, by simp, by simp, fun st => ?_⟩
    · have := r.len
      simp only [List.length_cons, List.length_append, List.length_nil]
      omega
    · simp only [List.foldl_cons, List.foldl_append, List.foldl_nil]
      rw [near_file, near_file, open_file, show openL.getD 0 0 = openL.getD (0 % 4) 0 from rfl, open_file, r.file]
theorem wr_fold {f : Nat → Nat} (hf : ∀ k, f k < 112) {inner inner0 : Nat → Option (List Nat)} (ih : ∀ k t0, inner0 k = some t0 → ∃ t, inner k = some t ∧ Rel t t0) :
    ∀ (l : List Nat) (acc acc0 t0 : List Nat), l.foldl (wrStep (fun _ => 0) inner0) (some acc0) = some t0 → Rel acc acc0 → ∃ t, l.foldl (wrStep f inner) (some acc) = some t ∧ Rel t t0
  | [], acc, acc0, t0, h, r => by
    have : acc0 = t0 := Option.some.inj h
    subst this
    exact ⟨acc, rfl, r⟩
  | k :: l, acc, acc0, t0, h, r => by
    rw [List.foldl_cons] at h ⊢
    cases hi : inner0 k with
    | none =>
      have e : wrStep (fun _ => 0) inner0 (some acc0) k = none := by simp [wrStep, hi]
      rw [e, fold_none (fun _ => rfl)] at h
      cases h
    | some inn0 =>
      obtain ⟨inn, hinn, rinn⟩ := ih k inn0 hi
      by_cases hsz : acc0.length ≤ 1000 ∧ inn0.length ≤ 1000
      · have e : wrStep (fun _ => 0) inner0 (some acc0) k = some (acc0 ++ bitOf 0 inn0) := by simp [wrStep, hi, hsz]
        have hsz2 : acc.length ≤ 1000 ∧ inn.length ≤ 1000 := ⟨Nat.le_trans r.len hsz.1, Nat.le_trans rinn.len hsz.2⟩
        have e2 : wrStep f inner (some acc) k = some (acc ++ bitOf (f k) inn) := by simp [wrStep, hinn, hsz2]
        rw [e] at h
        rw [e2]
        obtain ⟨b1, b2, b3, b4⟩ := bit_rel (hf k) rinn
        refine wr_fold hf ih l _ _ t0 h ⟨?_, ?_, fun st => ?_⟩
        · constructor
          · intro q; exact absurd (List.append_eq_nil_iff.mp q).2 b2
          · intro q; exact absurd (List.append_eq_nil_iff.mp q).2 b3
        · rw [List.length_append, List.length_append]
          have := r.len
          omega
        · rw [List.foldl_append, List.foldl_append, r.file, b4]
      · have e : wrStep (fun _ => 0) inner0 (some acc0) k = none := by
          simp only [wrStep, Option.bind_some, hi]
          rw [if_neg hsz]
        rw [e, fold_none (fun _ => rfl)] at h
        cases h
theorem wr_fig {u : List Nat} {rev : Bool} {f : Nat → Nat} (hf : ∀ k, f k < 112) : ∀ (fuel place : Nat) (t0 : List Nat), wrE u rev (fun _ => 0) fuel place = some t0 → ∃ t, wrE u rev f fuel place = some t ∧ Rel t t0
  | 0, place, t0, h => by cases h
  | fuel + 1, place, t0, h => by
    unfold wrE at h ⊢
    exact wr_fold hf (fun k t0 h => wr_fig hf fuel k t0 h) _ [] [] t0 h ⟨Iff.rfl, Nat.le_refl _, fun st => rfl⟩
theorem lookup_in {α β : Type} [BEq α] [LawfulBEq α] {a : α} {b : β} : ∀ {l : List (α × β)}, l.lookup a = some b → (a, b) ∈ l
  | [], h => by cases h
  | (x, y) :: l, h => by
    rw [List.lookup_cons] at h
    split at h
    · rename_i q
      rw [eq_of_beq q]
      cases h
      exact .head _
    · exact .tail _ (lookup_in h)
/-- sorting by key -/
theorem insK_perm (x : Int × Int) : ∀ l, (insK x l).Perm (x :: l)
  | [] => .refl _
  | y :: l => by
    unfold insK
    split
    · exact ((insK_perm x l).cons y).trans (List.Perm.swap x y l)
    · exact .refl _
theorem sortK_perm : ∀ l, (sortK l).Perm l
  | [] => .refl _
  | x :: l => (insK_perm x (sortK l)).trans ((sortK_perm l).cons x)
theorem rising_keys : ∀ {l : List (Int × Int)}, rising l = true → (l.map (·.1)).Pairwise (· < ·)
  | [], _ => .nil
  | [x], _ => by simp
  | x :: y :: l, h => by
    unfold rising at h
    rw [Bool.and_eq_true] at h
    have hxy := of_decide_eq_true h.1
    have ih := rising_keys h.2
    rw [List.map_cons]
    refine List.pairwise_cons.mpr ⟨fun z hz => ?_, ih⟩
    rw [List.map_cons] at hz ih
    rcases List.mem_cons.mp hz with rfl | hz
    · exact hxy
    · exact Int.lt_trans hxy ((List.pairwise_cons.mp ih).1 z hz)
theorem look_iff : ∀ {l : List (Int × Int)}, (l.map (·.1)).Nodup → ∀ k n, ilook l k = some n ↔ (k, n) ∈ l
  | [], _, k, n => by simp [ilook]
  | (a, b) :: l, h, k, n => by
    rw [List.map_cons] at h
    obtain ⟨h1, h2⟩ := List.nodup_cons.mp h
    have ih := look_iff h2 k n
    by_cases e : a = k
    · subst e
      have e1 : ilook ((a, b) :: l) a = some b := by simp [ilook]
      rw [e1]
      constructor
      · intro q; cases q; exact .head _
      · intro q
        rcases List.mem_cons.mp q with q | q
        · cases q; rfl
        · exact absurd (List.mem_map.mpr ⟨_, q, rfl⟩) h1
    · have e1 : ilook ((a, b) :: l) k = ilook l k := by simp [ilook, e]
      rw [e1, ih]
      constructor
      · exact fun q => .tail _ q
      · intro q
        rcases List.mem_cons.mp q with q | q
        · cases q; exact absurd rfl e
        · exact q
theorem look_perm {l l' : List (Int × Int)} (p : l.Perm l') (h : (l.map (·.1)).Nodup) (k : Int) : ilook l k = ilook l' k := by
  have h' : (l'.map (·.1)).Nodup := ((p.map (·.1)).nodup_iff).mp h
  apply Option.ext
  intro n
  rw [look_iff h, look_iff h', p.mem_iff]
theorem val_perm {l l' : List (Int × Int)} (p : l.Perm l') : valSum l = valSum l' := by
  have go : ∀ a : Int, l.foldl (fun a e => a + e.2) a = l'.foldl (fun a e => a + e.2) a := by
    induction p with
    | nil => intro a; rfl
    | cons x _ ih => intro a; exact ih _
    | swap x y l => intro a; simp only [List.foldl_cons]; rw [show a + y.2 + x.2 = a + x.2 + y.2 by omega]
    | trans _ _ ih1 ih2 => intro a; exact (ih1 a).trans (ih2 a)
  exact go 0
noncomputable def Good (u : List Nat) (T : List (Int × Int)) : Prop :=
  (∀ k, ilook T k = ilook (prunE (intsOf u)) k) ∧ T.length = (prunE (intsOf u)).length ∧ valSum T = valSum (prunE (intsOf u)) ∧ T.length ≤ 20 ∧ ∀ k n, (k, n) ∈ T → ilook (prunE (intsOf u)) k = some n
theorem count_split (κ : Nat) : ∀ l : List Nat, ∃ lo M, wtK l = lo + 256 ^ κ * (l.count κ + 256 * M) ∧ lo * 256 ≤ l.length * 256 ^ κ
  | [] => ⟨0, 0, by simp [wtK], by simp⟩
  | k :: l => by
    obtain ⟨lo, M, h1, h2⟩ := count_split κ l
    have e : wtK (k :: l) = 256 ^ k + wtK l := by simp [wtK]
    have hL : (k :: l).length * 256 ^ κ = l.length * 256 ^ κ + 256 ^ κ := by rw [List.length_cons, Nat.add_mul, Nat.one_mul]
    rcases Nat.lt_trichotomy k κ with h | h | h
    · refine ⟨lo + 256 ^ k, M, ?_, ?_⟩
      · rw [e, h1, List.count_cons_of_ne (by omega)]
        generalize 256 ^ κ * (List.count κ l + 256 * M) = X
        omega
      · have h3 : 256 ^ k * 256 ≤ 256 ^ κ := by rw [← Nat.pow_succ]; exact Nat.pow_le_pow_right (by decide) h
        rw [hL, Nat.add_mul]
        exact Nat.add_le_add h2 h3
    · subst h
      refine ⟨lo, M, ?_, ?_⟩
      · rw [e, h1, List.count_cons_self, Nat.add_right_comm, Nat.mul_add (256 ^ k) _ 1, Nat.mul_one]
        generalize 256 ^ k * (List.count k l + 256 * M) = X
        omega
      · rw [hL]; exact Nat.le_trans h2 (Nat.le_add_right _ _)
    · obtain ⟨d, rfl⟩ : ∃ d, k = κ + 1 + d := ⟨k - κ - 1, by omega⟩
      refine ⟨lo, M + 256 ^ d, ?_, ?_⟩
      · have h4 : 256 ^ (κ + 1 + d) = 256 ^ κ * (256 * 256 ^ d) := by rw [Nat.pow_add, Nat.pow_succ, Nat.mul_assoc]
        rw [e, h1, h4, List.count_cons_of_ne (by omega), Nat.mul_add 256 M, ← Nat.add_assoc (List.count κ l), Nat.mul_add (256 ^ κ) _ (256 * 256 ^ d)]
        generalize 256 ^ κ * (List.count κ l + 256 * M) = X
        generalize 256 ^ κ * (256 * 256 ^ d) = Y
        omega
      · rw [hL]; exact Nat.le_trans h2 (Nat.le_add_right _ _)
theorem wt_digit {l : List Nat} (h : l.length < 256) (κ : Nat) : wtK l / 256 ^ κ % 256 = l.count κ := by
  obtain ⟨lo, M, h1, h2⟩ := count_split κ l
  have hP : 0 < 256 ^ κ := Nat.pow_pos (by decide)
  have hlo : lo < 256 ^ κ := by
    have h3 : lo * 256 < 256 ^ κ * 256 := Nat.lt_of_le_of_lt h2 (by rw [Nat.mul_comm (256 ^ κ)]; exact Nat.mul_lt_mul_of_pos_right h hP)
    exact Nat.lt_of_mul_lt_mul_right h3
  rw [h1, Nat.add_mul_div_left _ _ hP, Nat.div_eq_of_lt hlo, Nat.zero_add, Nat.add_mul_mod_self_left, Nat.mod_eq_of_lt]
  exact Nat.lt_of_le_of_lt List.count_le_length h
theorem wt_perm {a b : List Nat} (ha : a.length < 256) (hb : b.length < 256) (e : wtK a = wtK b) : a.Perm b :=
  List.perm_iff_count.mpr fun κ => by rw [← wt_digit ha, ← wt_digit hb, e]
theorem sumB_wt (l : List Ch) : sumB l = wtK (l.map fun c => (chKey c).toNat) := by
  have go : ∀ (l : List Ch) (n : Nat), l.foldl (fun n c => n + 256 ^ (chKey c).toNat) n = n + wtK (l.map fun c => (chKey c).toNat) := by
    intro l
    induction l with
    | nil => intro n; simp [wtK]
    | cons c l ih => intro n; rw [List.foldl_cons, ih]; simp [wtK]; omega
  unfold sumB
  rw [go, Nat.zero_add]
theorem look_cons (a b : Int) (l : List (Int × Int)) (q : Int) : ilook ((a, b) :: l) q = if a = q then some b else ilook l q := by
  by_cases h : a = q <;> simp [ilook, h]
theorem look_map (k n q : Int) : ∀ es : List (Int × Int), ilook (es.map fun e => if e.1 = k then (e.1, n) else e) q = if q = k ∧ (es.any fun e => e.1 = k) = true then some n else ilook es q
  | [] => by simp [ilook]
  | (a, b) :: es => by
    rw [List.map_cons, List.any_cons, look_cons a b es q]
    have ih := look_map k n q es
    by_cases h : a = k
    · subst h
      rw [if_pos rfl, look_cons, ih]
      by_cases hq : q = a
      · subst hq; simp
      · rw [if_neg (Ne.symm hq), if_neg (fun h => hq h.1), if_neg (fun h => hq h.1), if_neg (Ne.symm hq)]
    · rw [if_neg h, look_cons, ih]
      by_cases hq : q = k
      · subst hq
        rw [if_neg h, if_neg h, decide_eq_false h, Bool.false_or]
      · simp [hq]
theorem look_app (k n q : Int) : ∀ es : List (Int × Int), (es.any fun e => e.1 = k) = false → ilook (es ++ [(k, n)]) q = if q = k then some n else ilook es q
  | [], _ => by
    show ilook [(k, n)] q = _
    rw [look_cons]
    simp [ilook, eq_comm]
  | (a, b) :: es, h => by
    rw [List.any_cons, Bool.or_eq_false_iff] at h
    rw [List.cons_append, look_cons, look_cons, look_app k n q es h.2]
    by_cases hq : q = k
    · subst hq
      rw [if_neg (by simpa using h.1)]
      simp
    · simp [hq]
theorem look_put (es : List (Int × Int)) (k n q : Int) : ilook (iput es k n) q = if q = k then some n else ilook es q := by
  unfold iput
  split
  · rename_i h; rw [look_map]; simp [h]
  · rename_i h; rw [look_app _ _ _ _ (Bool.eq_false_iff.mpr h)]
theorem put_nodup {es : List (Int × Int)} (h : (es.map (·.1)).Nodup) (k n : Int) : ((iput es k n).map (·.1)).Nodup := by
  unfold iput
  split
  · have e : (es.map fun e => if e.1 = k then (e.1, n) else e).map (·.1) = es.map (·.1) := by
      rw [List.map_map]
      refine List.map_congr_left fun e _ => ?_
      show (if e.1 = k then (e.1, n) else e).1 = e.1
      split <;> rfl
    rw [e]; exact h
  · rename_i hk
    rw [List.map_append, List.map_singleton]
    refine List.nodup_append.mpr ⟨h, by simp, fun a ha b hb => ?_⟩
    rw [List.mem_singleton.mp hb]
    rintro rfl
    obtain ⟨e, he, rfl⟩ := List.mem_map.mp ha
    exact hk (List.any_eq_true.mpr ⟨e, he, by simp⟩)
theorem cnt_look : ∀ (ks : List Int) (es : List (Int × Int)), (es.map (·.1)).Nodup → ((ks.foldl cntK es).map (·.1)).Nodup ∧ ∀ q, ilook (ks.foldl cntK es) q = if q ∈ ks then some ((ilook es q).getD 0 + (ks.count q : Int)) else ilook es q
  | [], es, h => ⟨h, fun q => by simp⟩
  | k :: ks, es, h => by
    obtain ⟨h1, h2⟩ := cnt_look ks (cntK es k) (put_nodup h _ _)
    refine ⟨h1, fun q => ?_⟩
    rw [List.foldl_cons, h2]
    have e : ilook (cntK es k) q = if q = k then some ((ilook es k).getD 0 + 1) else ilook es q := look_put _ _ _ _
    rw [e]
    by_cases hq : q = k
    · subst hq
      rw [if_pos rfl, if_pos (List.mem_cons_self), List.count_cons_self]
      by_cases hm : q ∈ ks
      · rw [if_pos hm]
        simp; omega
      · rw [if_neg hm, List.count_eq_zero_of_not_mem hm]
        simp
    · rw [if_neg hq, List.count_cons_of_ne (Ne.symm hq)]
      simp [hq]
theorem cnt_perm {a b : List Int} (p : a.Perm b) : (a.foldl cntK []).Perm (b.foldl cntK []) := by
  obtain ⟨n1, l1⟩ := cnt_look a [] .nil
  obtain ⟨n2, l2⟩ := cnt_look b [] .nil
  refine (List.perm_ext_iff_of_nodup ((List.pairwise_map.mp n1).imp fun h e => h (congrArg _ e)) ((List.pairwise_map.mp n2).imp fun h e => h (congrArg _ e))).mpr fun ⟨q, v⟩ => ?_
  rw [← look_iff n1, ← look_iff n2, l1, l2]
  by_cases hm : q ∈ a
  · rw [if_pos hm, if_pos (p.mem_iff.mp hm), p.count_eq]
  · rw [if_neg hm, if_neg (fun h => hm (p.mem_iff.mpr h))]
theorem chFold_pos {u k : Int} : ∀ (l acc : List Ch), (∀ c ∈ l, 1 ≤ c.1.length ∧ 0 ≤ c.2) → (∀ c ∈ acc, 1 ≤ c.1.length ∧ 0 ≤ c.2) → ∀ c ∈ l.foldl (chStep u k) acc, 1 ≤ c.1.length ∧ 0 ≤ c.2
  | [], acc, _, h2 => h2
  | c :: l, acc, h1, h2 => by
    rw [List.foldl_cons]
    refine chFold_pos l _ (fun c' h => h1 c' (.tail _ h)) ?_
    have hc := h1 c (.head _)
    intro c' h
    unfold chStep at h
    split at h
    · rcases List.mem_append.mp h with h | h
      · exact h2 c' h
      · simp only [List.mem_cons, List.not_mem_nil, or_false] at h
        rcases h with rfl | rfl
        · exact ⟨by simp, hc.2⟩
        · exact ⟨hc.1, by have := hc.2; show 0 ≤ c.2 + 1; omega⟩
    · rcases List.mem_append.mp h with h | h
      · exact h2 c' h
      · rw [List.mem_singleton.mp h]; exact hc
theorem chAll_pos (ups : List Int) : ∀ i, ∀ c ∈ chAll ups i, 1 ≤ c.1.length ∧ 0 ≤ c.2
  | 0 => by intro c h; simp [chAll] at h; subst h; simp
  | i + 1 => by rw [chAll_succ]; exact chFold_pos _ _ (chAll_pos ups i) (by simp)
theorem prun_cls {us : List Int} {l : List (Int × Int)} (h : wtK (expK l) = sumB (chAll us 6)) (hl : (expK l).length < 256) (hs : sortK (((expK l).map Int.ofNat).foldl cntK []) = l) : l.Perm (prunE us) := by
  rw [sumB_wt] at h
  have hn : ((chAll us 6).map fun c => (chKey c).toNat).length < 256 := by
    rw [List.length_map]; exact Nat.lt_of_le_of_lt (chAll_len us 6) (by decide)
  have p := (wt_perm hl hn h).map Int.ofNat
  have e : ((chAll us 6).map fun c => (chKey c).toNat).map Int.ofNat = (chAll us 6).map chKey := by
    rw [List.map_map]
    refine List.map_congr_left fun c hc => ?_
    obtain ⟨q1, q2⟩ := chAll_pos us 6 c hc
    show ((chKey c).toNat : Int) = chKey c
    refine Int.toNat_of_nonneg ?_
    unfold chKey; omega
  rw [e] at p
  have e2 : prunE us = ((chAll us 6).map chKey).foldl cntK [] := by
    unfold prunE
    rw [List.foldl_map]; rfl
  rw [e2]
  have p2 := cnt_perm p
  have p3 := sortK_perm (((expK l).map Int.ofNat).foldl cntK [])
  rw [hs] at p3
  exact p3.trans p2
/-- the class of a tree -/
theorem tree_cls {u : List Nat} (hT : Tree u) : ∃ i, i < 48 ∧ (clsL.getD i ([], [])).1 = formE u ∧ (clsL.getD i ([], [])).2.Perm (prunE (intsOf u)) ∧ ∀ rev, ∃ es, (wrE u rev (fun _ => 0) 8 0).bind filedE = some es ∧ (es, i) ∈ esT := by
  obtain ⟨p, h⟩ := tree_ok hT
  unfold treeOk at h
  simp only [Bool.and_eq_true] at h
  obtain ⟨⟨⟨⟨h0, h1⟩, ⟨⟨h2, h3⟩, h4⟩, h5⟩, h6⟩, h7⟩ := h
  have e2 : (esAt p.1).2 = (esAt p.2).2 := Nat.eq_of_beq_eq_true h2
  have hi : (esAt p.1).2 < 48 := by simpa [Nat.blt_eq] using h3
  have hp1 : p.1 < 132 := by simpa [Nat.blt_eq] using h4
  have hp2 : p.2 < 132 := by simpa [Nat.blt_eq] using h5
  have hlen : esT.length = 132 := by decide +kernel
  have hin : ∀ j, j < 132 → esAt j ∈ esT := fun j hj => by
    unfold esAt
    rw [List.getD_eq_getElem?_getD, List.getElem?_eq_getElem (by omega)]
    exact List.getElem_mem _
  have hw := List.all_eq_true.mp cls_wt _ (List.mem_range.mpr hi)
  simp only [Bool.and_eq_true] at hw
  obtain ⟨⟨w1, w2⟩, w3⟩ := hw
  refine ⟨(esAt p.1).2, hi, eq_of_beq h6, prun_cls ((eq_of_beq w1).trans (Nat.eq_of_beq_eq_true h7)) (of_decide_eq_true w2) (eq_of_beq w3), fun rev => ?_⟩
  cases rev
  · exact ⟨(esAt p.1).1, eq_of_beq h0, hin _ hp1⟩
  · exact ⟨(esAt p.2).1, eq_of_beq h1, by rw [e2]; exact hin _ hp2⟩
theorem cls_in {i : Nat} (hi : i < 48) : clsL.getD i ([], []) ∈ clsL := by
  have hl : clsL.length = 48 := by decide +kernel
  rw [List.getD_eq_getElem?_getD, List.getElem?_eq_getElem (by omega)]
  exact List.getElem_mem _
theorem cls_nodup {i : Nat} (hi : i < 48) : ((clsL.getD i ([], [])).2.map (·.1)).Nodup ∧ (clsL.getD i ([], [])).2.length ≤ 20 := by
  have h := List.all_eq_true.mp cls_rising _ (cls_in hi)
  rw [Bool.and_eq_true] at h
  exact ⟨(rising_keys h.1).imp (fun q => Int.ne_of_lt q), of_decide_eq_true h.2⟩
theorem plain1 {u : List Nat} (hT : Tree u) {lead : Nat} (hl : lead = 0 ∨ lead = 7) (seed : Int) : ∃ txt es T, wrE u (decide (0 < lead)) (figN seed lead) 8 0 = some txt ∧ filedE txt = some es ∧ tabE es 8 97 = some T ∧ Good u T := by
  obtain ⟨i, hi, _, hc, hr⟩ := tree_cls hT
  obtain ⟨es, he, hm⟩ := hr (decide (0 < lead))
  cases hw : wrE u (decide (0 < lead)) (fun _ => 0) 8 0 with
  | none => rw [hw] at he; cases he
  | some t0 =>
    rw [hw, Option.bind_some] at he
    have ht := tab_ok _ hm
    unfold tabOk at ht
    split at ht
    · rename_i T hT'
      have hs : sortK T = (clsL.getD i ([], [])).2 := eq_of_beq ht
      obtain ⟨txt, hx, r⟩ := wr_fig (f := figN seed lead) (fig_lt seed lead) 8 0 t0 hw
      have hfx : filedE txt = some es := by
        unfold filedE at he ⊢
        rw [r.file]; exact he
      have hp : T.Perm (prunE (intsOf u)) := by
        have p := sortK_perm T
        rw [hs] at p
        exact p.symm.trans hc
      obtain ⟨n1, n2⟩ := cls_nodup hi
      rw [← hs] at n1 n2
      have hnd : (T.map (·.1)).Nodup := (((sortK_perm T).map (·.1)).nodup_iff).mp n1
      have hlk := look_perm hp hnd
      exact ⟨txt, es, T, hx, hfx, hT', hlk, hp.length_eq, val_perm hp, by rw [(sortK_perm T).length_eq] at n2; exact n2, fun k n q => by rw [← hlk k]; exact (look_iff hnd k n).mpr q⟩
    · cases ht
theorem gt_cls {u : List Nat} {i : Nat} (hi : i < 48) (hc : (clsL.getD i ([], [])).2.Perm (prunE (intsOf u))) (k : Int) : gt (clsL.getD i ([], [])).2 k = gt (prunE (intsOf u)) k := by
  unfold gt
  rw [look_perm hc (cls_nodup hi).1]
theorem plain2 {u v : List Nat} (hu : Tree u) (hv : Tree v) : formE u = formE v ↔ ∀ k, (ilook (prunE (intsOf u)) k).getD 0 = (ilook (prunE (intsOf v)) k).getD 0 := by
  obtain ⟨i, hi, hcf, hc, _⟩ := tree_cls hu
  obtain ⟨j, hj, hdf, hd, _⟩ := tree_cls hv
  constructor
  · intro e k
    have hij : i = j := by
      have h := List.all_eq_true.mp (List.all_eq_true.mp cls_forms i (List.mem_range.mpr hi)) j (List.mem_range.mpr hj)
      rw [Bool.or_eq_true] at h
      rcases h with h | h
      · exact eq_of_beq h
      · rw [hcf, hdf, e] at h
        simp at h
    subst hij
    exact (gt_cls hi hc k).symm.trans (gt_cls hi hd k)
  · intro e
    have hij : i = j := by
      have h := List.all_eq_true.mp (List.all_eq_true.mp cls_apart i (List.mem_range.mpr hi)) j (List.mem_range.mpr hj)
      rw [Bool.or_eq_true] at h
      rcases h with h | h
      · exact eq_of_beq h
      · exfalso
        have hg : ∀ k, gt (clsL.getD i ([], [])).2 k = gt (clsL.getD j ([], [])).2 k := fun k => by rw [gt_cls hi hc, gt_cls hj hd]; exact e k
        unfold apartB at h
        rw [Bool.or_eq_true, List.any_eq_true, List.any_eq_true] at h
        rcases h with ⟨x, _, hx⟩ | ⟨x, _, hx⟩
        · rw [hg] at hx; simp at hx
        · rw [hg] at hx; simp at hx
    subst hij
    rw [← hcf, ← hdf]
theorem plain3 {u : List Nat} (hT : Tree u) : ∀ x ∈ formE u, ∀ c ∈ x, c < 0x110000 := by
  obtain ⟨i, hi, hc, _, _⟩ := tree_cls hT
  have h := List.all_eq_true.mp cls_signs _ (cls_in hi)
  rw [hc] at h
  intro x hx c hcx
  exact of_decide_eq_true (List.all_eq_true.mp (List.all_eq_true.mp h x hx) c hcx)
theorem tree_ix {u : List Nat} (hT : Tree u) : (∀ k, 1 ≤ k → k < 7 → (intsOf u)[k]? = some ((u.getD k 0 : Nat) : Int)) ∧ (∀ k, 1 ≤ k → k < 7 → u.getD k 0 < 7) ∧ (intsOf u).length = 7 := by
  obtain ⟨a, b, c, d, e, rfl, ha, hb, hc, hd, he⟩ := hT
  refine ⟨fun k h1 h2 => ?_, fun k h1 h2 => ?_, rfl⟩
  · rcases (show k = 1 ∨ k = 2 ∨ k = 3 ∨ k = 4 ∨ k = 5 ∨ k = 6 by omega) with rfl | rfl | rfl | rfl | rfl | rfl <;> rfl
  · rcases (show k = 1 ∨ k = 2 ∨ k = 3 ∨ k = 4 ∨ k = 5 ∨ k = 6 by omega) with rfl | rfl | rfl | rfl | rfl | rfl <;> simp <;> omega
end Mine
end
section
open PySem PySem.W PySem.Calls PyProof.Rows PySem.Spec
set_option Elab.async false
set_option linter.unusedVariables false
set_option linter.unusedSimpArgs false
set_option maxRecDepth 100000
namespace Mine
open PyProof.Rows.LCg (NsObj ns_obj lst)
local macro_rules | `(tactic| walk_at "eval Name") => `(tactic| (k_here; k_dflt (refine' nameX_L ?F ?v ?_ ?a ?b; (case F => k_asm); (case a => rfl); (case b => rfl); (case v => assumption); k_whole)))
theorem lw_perm {x a b c d e f g h i j : Addr × Obj} {l k : List (Addr × Obj)} : (x :: a :: b :: c :: d :: e :: f :: g :: h :: i :: j :: (l ++ k)).Perm (a :: b :: c :: d :: e :: f :: g :: h :: i :: j :: ((x :: l) ++ k)) := (List.perm_middle (l₁ := [a, b, c, d, e, f, g, h, i, j])).symm
/-- the tables made -/
inductive TBs (w : World) : List Value → List (Addr × Obj) → List (List Nat) → Prop
  | nil : TBs w [] [] []
  | cons (r : Addr) (o : Obj) (T : List (Int × Int)) (u : List Nat) {vs : List Value} {led : List (Addr × Obj)} {us : List (List Nat)} (h1 : IsIntD PR w o T) (h2 : Good u T) (h3 : (r == sysModules) = false) : TBs w vs led us → TBs w (vs ++ [.ref r]) ((r, o) :: led) (us ++ [u])
theorem TBs.len {w : World} {vs : List Value} {led : List (Addr × Obj)} {us : List (List Nat)} (x : TBs w vs led us) : vs.length = us.length := by induction x <;> simp_all
theorem valsM {w : World} {A : Around} {E : Value → Shared → Prop} {s : Shared} {d : Addr} {es : List (Int × Int)} {pl : Sem Bool} {Q : Value × List Value → Shared → Prop} (hd : IntD PR w s.heap d es) (h : Q (.builtin "dict.values", [.ref d]) s) : wpAny (MW w) A (getMethod (.ref d) "values" pl) Q E s := by
  obtain ⟨kvs, hm, _⟩ := hd
  exact getMethod_builtin (T := "dict") hm.typeIs PySem.F.plainAttrs_dict PySem.F.slot_dict_values PySem.F.type_dict_values hm.mapOf.noDict h
theorem valsC {w : World} {A : Around} {E : Value → Shared → Prop} {s : Shared} {d : Addr} {es : List (Int × Int)} {Q : Value → Shared → Prop} (hs : (d == sysModules) = false) (hd : IntD PR w s.heap d es)
    (h : Q (.ref s.heap.objs.size) { s with heap := s.heap.push { cls := .type "dict_values", data := .fields #[.ref d] } }) : wpAny (MW w) A (call (.builtin "dict.values") [.ref d]) Q E s := by
  obtain ⟨kvs, hm, hiv⟩ := hd
  exact call_meetsIn PySem.F.slot_dict_values hm.typeIs PySem.F.entry_dict_values (PySem.F.args_dict_values_1 _) (meets_dict_values (intKind PR w) d hs) ⟨⟨kvs, hm⟩, h⟩
local macro_rules | `(tactic| walk_at "compareOp NotEq ref ref") => `(tactic| (k_here; (refine' neIntD ?la ?lb ?da ?db ?hl ?ha ?hu ?_; (case la => assumption); (case lb => assumption); (case da => assumption); (case db => assumption); (case hl => assumption); (case ha => assumption); (case hu => assumption))))
local macro_rules | `(tactic| walk_at "getMethod ref") => `(tactic| (k_here; k_dflt (refine' valsM ?d ?_; (case d => assumption))))
local macro_rules | `(tactic| walk_at "call builtin:dict.values") => `(tactic| (k_here; k_dflt (refine' valsC ?l ?d ?_; (case l => assumption); (case d => assumption))))
set_option maxHeartbeats 4000000
theorem law_b {w : World} {dp un : Nat} {fr : Option (List Env)} {gd : Option (List Code)} {s : Shared} {Q : Flow → Shared → Prop} {h : Heap} {tk : Nat} {m : Str → Option Value} {tb two one D : Addr} {twoV oneV ys : List Value} {ny : Nat} {sd : List Int} {u1 u2 : List Nat} {oW oC oO oS : Obj}
    (hd : dp + 100 < recursionLimit) (hu : un + 1000 < cLine) (C : Cx w s.heap)
    (F : Fr s.heap s.heap.objs.size h m) (N : News s.heap s.heap.objs.size h [(tb, W.listOf [].toArray 0), (two, W.listOf twoV.toArray 0), (one, W.listOf oneV.toArray 0), (D, W.listOf ys.toArray ny), (s.heap.objs.size + 4, oW), (s.heap.objs.size + 3, oC), (s.heap.objs.size + 2, oO), (s.heap.objs.size + 1, oS)])
    (ap : Ap [(tb, W.listOf [].toArray 0), (two, W.listOf twoV.toArray 0), (one, W.listOf oneV.toArray 0), (D, W.listOf ys.toArray ny), (s.heap.objs.size + 4, oW), (s.heap.objs.size + 3, oC), (s.heap.objs.size + 2, oO), (s.heap.objs.size + 1, oS)])
    (mt : m (Str.ofString "tables") = some (.ref tb)) (m2 : m (Str.ofString "two") = some (.ref two)) (m1 : m (Str.ofString "one") = some (.ref one)) (ms : m (Str.ofString "seeds") = some (.ref D))
    (i1 : IntsAre oneV (intsOf u1)) (i2 : IntsAre twoV (intsOf u2)) (t1 : Tree u1) (t2 : Tree u2) (is : IntsAre ys sd) (hsl : sd.length = 8)
    (done : ∀ h' tk' m' tabsV nt led junk, Fr s.heap s.heap.objs.size h' m' → News s.heap s.heap.objs.size h' ((tb, W.listOf (List.toArray tabsV) nt) :: (two, W.listOf twoV.toArray 0) :: (one, W.listOf oneV.toArray 0) :: (D, W.listOf ys.toArray ny) :: (s.heap.objs.size + 4, oW) :: (s.heap.objs.size + 3, oC) :: (s.heap.objs.size + 2, oO) :: (s.heap.objs.size + 1, oS) :: (led ++ junk)) →
      Ap ((tb, W.listOf (List.toArray tabsV) nt) :: (two, W.listOf twoV.toArray 0) :: (one, W.listOf oneV.toArray 0) :: (D, W.listOf ys.toArray ny) :: (s.heap.objs.size + 4, oW) :: (s.heap.objs.size + 3, oC) :: (s.heap.objs.size + 2, oO) :: (s.heap.objs.size + 1, oS) :: (led ++ junk)) → TBs w tabsV led [u1, u2] →
      m' (Str.ofString "tables") = some (.ref tb) → m' (Str.ofString "two") = some (.ref two) → m' (Str.ofString "one") = some (.ref one) → m' (Str.ofString "seeds") = some (.ref D) → Q .next { heap := h', gens := s.gens, drawn := s.drawn, toks := tk', os := s.os }) :
    wpAny (model PySem.Challenge.rw_zd0013_01.row.prog w) ((arA dp un fr gd).deeper (envOfC (Str.ofString "law") (fScope (stm 21)) s.heap.objs.size 288 (Value.ref 287))) (exec (bs 21 5) (envOfC (Str.ofString "law") (fScope (stm 21)) s.heap.objs.size 288 (Value.ref 287))) Q (fun x x_1 => False) { heap := h, gens := s.gens, drawn := s.drawn, toks := tk, os := s.os } := by
  have X := C.k
  obtain ⟨mean, mg, mb, Tp⟩ := id C.t
  have S0 : s.heap.objs.size = s.heap.objs.size := rfl
  conv in bs 21 5 => whnf
  refine wpAny_For ?_ (by intro _; rfl)
  revert X; k_fill; intro X
  k_steps
  rename_i ul h2 F2 N2 lt2
  have A2 : Ap [(ul, W.listOf [Value.ref one, Value.ref two].toArray 0), (tb, W.listOf [].toArray 0), (two, W.listOf twoV.toArray 0), (one, W.listOf oneV.toArray 0), (D, W.listOf ys.toArray ny), (s.heap.objs.size + 4, oW), (s.heap.objs.size + 3, oC), (s.heap.objs.size + 2, oO), (s.heap.objs.size + 1, oS)] :=
    ap.cons fun p hp => Nat.ne_of_lt (allLt (by simp only [AllLt, and_true]; exact lt2) p hp)
  refine forListT (vs := [Value.ref one, Value.ref two].toArray) (fun i m' news' => ∃ tabsV nt led junk, news' = (ul, W.listOf [Value.ref one, Value.ref two].toArray 0) :: (tb, W.listOf (List.toArray tabsV) nt) :: (two, W.listOf twoV.toArray 0) :: (one, W.listOf oneV.toArray 0) :: (D, W.listOf ys.toArray ny) :: (s.heap.objs.size + 4, oW) :: (s.heap.objs.size + 3, oC) :: (s.heap.objs.size + 2, oO) :: (s.heap.objs.size + 1, oS) :: (led ++ junk) ∧ Ap news' ∧
      TBs w tabsV led ([u1, u2].take i) ∧ m' (Str.ofString "tables") = some (.ref tb) ∧ m' (Str.ofString "two") = some (.ref two) ∧ m' (Str.ofString "one") = some (.ref one) ∧ m' (Str.ofString "seeds") = some (.ref D))
    rfl F2 N2 ⟨_, (N2 _ (.head _)).1, rfl, _, rfl⟩ ?_ ⟨[], 0, [], [], rfl, A2, .nil, mt, m2, m1, ms⟩ ?_ ?_
  · rintro j m' news' h' ⟨tabsV, nt, led, junk, rfl, _⟩ F' N'
    exact ⟨_, (N' _ (.head _)).1, rfl, _, rfl⟩
  · rintro I i v m₁ news₁ oit ⟨H8, g1, g2, g3, g4⟩ hv ⟨tabsV, nt, led, junk, rfl, ap, hTB, hmt, hm2, hm1, hms⟩ hne ⟨h8, tk8, e8⟩ F8 N8
    cases e8
    have hU : ∃ U uV u, v = .ref U ∧ (U, W.listOf (List.toArray uV) 0) ∈ ((two, W.listOf twoV.toArray 0) :: (one, W.listOf oneV.toArray 0) :: (D, W.listOf ys.toArray ny) :: (s.heap.objs.size + 4, oW) :: (s.heap.objs.size + 3, oC) :: (s.heap.objs.size + 2, oO) :: (s.heap.objs.size + 1, oS) :: (led ++ junk)) ∧ IntsAre uV (intsOf u) ∧ Tree u ∧ [u1, u2][i]? = some u ∧ i < 2 := by
      match i with
      | 0 => exact ⟨one, oneV, u1, (Option.some.inj hv).symm, .tail _ (.head _), i1, t1, rfl, by decide⟩
      | 1 => exact ⟨two, twoV, u2, (Option.some.inj hv).symm, .head _, i2, t2, rfl, by decide⟩
      | i + 2 => simp at hv
    obtain ⟨U, uV, u, rfl, hmU, iU, tU, hui, hi2⟩ := hU
    have htl := hTB.len
    have htl2 : tabsV.length = i := by rw [htl, List.length_take]; simp; omega
    have apI := ap.cons hne (o := oit)
    dsimp only
    show wpAny _ _ _ (fun _ s₂ => wpAny _ _ (execs [bl 21 5 0, bl 21 5 1, bl 21 5 2, bl 21 5 3, bl 21 5 4, bl 21 5 5] _) _ _ s₂) _ _
    k_steps
    conv in bl 21 5 0 => whnf
    k_steps
    rename_i h9 F9 N9
    refine lenLed N9 (.tail _ (.tail _ (.head _))) (by omega) fun tl9 k9 => ?_
    k_steps
    have hlead : (7 : Int) * (tabsV.length : Int) = ((7 * i : Nat) : Int) := by omega
    rw [hlead]
    have h07 : 7 * i = 0 ∨ 7 * i = 7 := by omega
    obtain ⟨txt, es, T, hw1, hw2, hw3, hG⟩ := plain1 tU h07 (sd.getD (Int.toNat 7) 0)
    generalize sd.getD (Int.toNat 7) 0 = seed at hw1
    obtain ⟨q1, q2, q3⟩ := tree_ix tU
    have hmU9 := (N9 (U, W.listOf (List.toArray uV) 0) (.tail _ (.tail _ (.tail _ hmU)))).1
    refine c_written (place := 0) (lead := 7 * i) iU q1 h07 8 hw1 (by show dp + 1 + 2 * 8 + 10 < _; omega) (by first | (show un + 3 + 20 * 8 + 100 < _; omega) | (show un + 3 + 1 + 20 * 8 + 100 < _; omega) | (show un + 3 + 2 + 20 * 8 + 100 < _; omega)) (C.sub F9.keep) hmU9 fun t10 h10 tk10 k10 => ?_
    replace F9 := fr_sub F9 k10
    replace N9 := news_sub N9 k10
    dsimp only
    k_steps
    refine c_filed (cs := txt.toArray) (es := es) (C.sub F9.keep) (by show dp + 1 + 40 < _; omega) (by first | (show un + 3 + 400 < _; omega) | (show un + 3 + 1 + 400 < _; omega) | (show un + 3 + 2 + 400 < _; omega)) (by simpa using hw2) fun x ledH h11 tk11 k11 hH hHp => ?_
    have hLex : ∃ o, h10.get? s.heap.objs.size = some o := by obtain ⟨oL, _, _, hL, _⟩ := F9.ns; exact ⟨oL, hL⟩
    have N10 : News s.heap s.heap.objs.size h11 ((I, oit) :: (ul, W.listOf [Value.ref one, Value.ref two].toArray 0) :: (tb, W.listOf (List.toArray tabsV) nt) :: (two, W.listOf twoV.toArray 0) :: (one, W.listOf oneV.toArray 0) :: (D, W.listOf ys.toArray ny) :: (s.heap.objs.size + 4, oW) :: (s.heap.objs.size + 3, oC) :: (s.heap.objs.size + 2, oO) :: (s.heap.objs.size + 1, oS) :: ((led ++ junk) ++ ledH)) := by
      intro p hp
      rcases List.mem_append.mp (show p ∈ ((I, oit) :: (ul, W.listOf [Value.ref one, Value.ref two].toArray 0) :: (tb, W.listOf (List.toArray tabsV) nt) :: (two, W.listOf twoV.toArray 0) :: (one, W.listOf oneV.toArray 0) :: (D, W.listOf ys.toArray ny) :: (s.heap.objs.size + 4, oW) :: (s.heap.objs.size + 3, oC) :: (s.heap.objs.size + 2, oO) :: (s.heap.objs.size + 1, oS) :: (led ++ junk)) ++ ledH by simpa using hp) with hp | hp
      · exact news_sub N9 k11 p hp
      · obtain ⟨e1, e2⟩ := hHp p hp
        refine ⟨e1, fun e => ?_, none_of_size F9.keep e2⟩
        obtain ⟨o, ho⟩ := hLex
        rw [← e] at ho
        exact absurd (e2.symm.trans ho) (by simp)
    have F10 := fr_sub F9 k11
    clear F9 N9 hHp hLex k11 k10
    dsimp only
    k_steps
    conv in bl 21 5 1 => whnf
    k_steps
    conv in bl 21 5 2 => whnf
    k_steps
    rename_i h12 F12 N12
    have Hd : HdrAt w h12 x es := HdrLed.at (L := s.heap.objs.size) hH C F12.keep fun p hp => by
      have := N12 p (.tail _ (.tail _ (.tail _ (.tail _ (.tail _ (.tail _ (.tail _ (.tail _ (.tail _ (.tail _ (List.mem_append_right _ hp)))))))))))
      exact ⟨this.1, this.2.2⟩
    refine c_table (c := 97) 8 hw3 (by decide) (by show dp + 1 + 2 * 8 + 30 < _; omega) (by first | (show un + 3 + 20 * 8 + 300 < _; omega) | (show un + 3 + 1 + 20 * 8 + 300 < _; omega) | (show un + 3 + 2 + 20 * 8 + 300 < _; omega)) Hd fun r h13 tk13 k13 hr0 hrs hrD => ?_
    obtain ⟨oR, hoR, hiR⟩ := intD_iff.mp hrD
    have apI2 : Ap ((r, oR) :: (I, oit) :: (ul, W.listOf [Value.ref one, Value.ref two].toArray 0) :: (tb, W.listOf (List.toArray tabsV) nt) :: (two, W.listOf twoV.toArray 0) :: (one, W.listOf oneV.toArray 0) :: (D, W.listOf ys.toArray ny) :: (s.heap.objs.size + 4, oW) :: (s.heap.objs.size + 3, oC) :: (s.heap.objs.size + 2, oO) :: (s.heap.objs.size + 1, oS) :: (led ++ junk)) := apI.cons fun p hp e => by
      have hp' : p ∈ ((I, oit) :: (ul, W.listOf [Value.ref one, Value.ref two].toArray 0) :: (tb, W.listOf (List.toArray tabsV) nt) :: (two, W.listOf twoV.toArray 0) :: (one, W.listOf oneV.toArray 0) :: (D, W.listOf ys.toArray ny) :: (s.heap.objs.size + 4, oW) :: (s.heap.objs.size + 3, oC) :: (s.heap.objs.size + 2, oO) :: (s.heap.objs.size + 1, oS) :: ((led ++ junk) ++ ledH)) := List.mem_append_left ledH hp
      have := (N12 p hp').1
      rw [e, hr0] at this; cases this
    have N13 : News s.heap s.heap.objs.size h13 ((r, oR) :: (I, oit) :: (ul, W.listOf [Value.ref one, Value.ref two].toArray 0) :: (tb, W.listOf (List.toArray tabsV) nt) :: (two, W.listOf twoV.toArray 0) :: (one, W.listOf oneV.toArray 0) :: (D, W.listOf ys.toArray ny) :: (s.heap.objs.size + 4, oW) :: (s.heap.objs.size + 3, oC) :: (s.heap.objs.size + 2, oO) :: (s.heap.objs.size + 1, oS) :: (led ++ junk)) := by
      refine news_cons (fun p hp => news_sub N12 k13 p (List.mem_append_left ledH hp)) hoR (fun e => ?_) (none_of_size F12.keep hr0)
      obtain ⟨oL, _, _, hL, _⟩ := F12.ns
      rw [← e, hr0] at hL; cases hL
    have F13 := fr_sub F12 k13
    clear F12 N12 hH Hd k13 hrD hoR hr0
    dsimp only
    k_steps
    conv in bl 21 5 3 => whnf
    k_steps
    rename_i h14 F14 N14
    have hmU14 := (N14 (U, W.listOf (List.toArray uV) 0) (.tail _ (.tail _ (.tail _ (.tail _ hmU))))).1
    refine c_prun (C.sub F14.keep) (by show dp + 1 + 5 < _; omega) (by first | (show un + 3 + 50 < _; omega) | (show un + 3 + 1 + 50 < _; omega)) hmU14 iU q3 fun pr h15 tk15 k15 hp0 hps hpD => ?_
    obtain ⟨oP, hoP, hiP⟩ := intD_iff.mp hpD
    obtain ⟨F15, N15, ap15⟩ := led_new F14 N14 apI2 k15 hp0 hoP
    clear F14 N14 hpD hoP hp0 k15 hmU14
    dsimp only
    k_steps
    rename_i h16 F16 N16
    have daR : IntD PR w h16 r T := intD_iff.mpr ⟨oR, (N16 _ (.tail _ (.head _))).1, hiR⟩
    have daP : IntD PR w h16 pr (prunE (intsOf u)) := intD_iff.mpr ⟨oP, (N16 _ (.head _)).1, hiP⟩
    obtain ⟨g1', g2', g3', g4', g5'⟩ := id hG
    have hun : (((arA dp un fr gd).deeper (envOfC (Str.ofString "law") (fScope (stm 21)) s.heap.objs.size 288 (Value.ref 287)))).units < cLine := by show un + 3 < _; omega
    conv in bl 21 5 4 => whnf
    k_steps
    refine c_count (C.sub F16.keep) (by show dp + 1 + 5 < _; omega) (by first | (show un + 3 + 50 < _; omega) | (show un + 3 + 1 + 50 < _; omega)) daR hrs fun tc h17 tk17 k17 => ?_
    rw [g3']
    have F17 := fr_sub F16 k17
    have N17 := news_sub N16 k17
    have daP17 := daP.keep k17
    clear F16 N16 daR daP k17
    dsimp only
    k_steps
    have kp := push_sub h17 { cls := .type "dict_values", data := .fields #[.ref pr] }
    refine sumVals rfl (fr_sub F17 kp) (news_sub N17 kp) ⟨_, Heap.get?_push_size _ rfl, rfl, rfl⟩ (daP17.keep kp) fun ts h18 tk18 F18 N18 => ?_
    clear F17 N17 daP17 kp
    refine ne_int ?_
    rw [bne_self_eq_false]
    dsimp only
    k_steps
    conv in bl 21 5 5 => whnf
    k_steps
    refine ledAppend (pre := [(pr, oP), (r, oR), (I, oit), (ul, W.listOf [Value.ref one, Value.ref two].toArray 0)]) F18 N18 ap15 (by omega) fun h19 F19 N19 ap19 => ?_
    dsimp only
    k_steps
    have N20 := news_perm lw_perm (news_tail N19)
    have ap20 := Ap.perm lw_perm (Ap.tail ap19)
    refine ⟨h19, _, _, _, rfl, F19, N20, ap20.head, tabsV ++ [Value.ref r], nt + 1, (r, oR) :: led, junk, rfl, ap20.tail, ?_, hmt, hm2, hm1, hms⟩
    have e1 : [u1, u2].take (i + 1) = [u1, u2].take i ++ [u] := by rw [List.take_add_one, hui]; rfl
    rw [e1]
    exact .cons r oR T u hiR hG hrs hTB
  · rintro h8 tk8 m8 news8 F8 N8 ⟨tabsV, nt, led, junk, rfl, ap8, hTB, hmt, hm2, hm1, hms⟩
    exact done h8 tk8 m8 tabsV nt led junk F8 (news_tail N8) ap8.tail hTB hmt hm2 hm1 hms
end Mine
end
section
open PySem PySem.W PySem.Calls PyProof.Rows PySem.Spec
set_option Elab.async false
set_option linter.unusedVariables false
set_option linter.unusedSimpArgs false
set_option maxRecDepth 100000
namespace Mine
open PyProof.Rows.LCg (NsObj ns_obj lst)
local macro_rules | `(tactic| walk_at "eval Name") => `(tactic| (k_here; k_dflt (refine' nameX_L ?F ?v ?_ ?a ?b; (case F => k_asm); (case a => rfl); (case b => rfl); (case v => assumption); k_whole)))
theorem TBs.two {w : World} {vs : List Value} {led : List (Addr × Obj)} {u1 u2 : List Nat} (x : TBs w vs led [u1, u2]) : ∃ r1 o1 T1 r2 o2 T2, vs = [.ref r1, .ref r2] ∧ led = [(r2, o2), (r1, o1)] ∧ IsIntD PR w o1 T1 ∧ IsIntD PR w o2 T2 ∧ Good u1 T1 ∧ Good u2 T2 ∧ (r1 == sysModules) = false ∧ (r2 == sysModules) = false := by
  generalize hus : [u1, u2] = us at x
  cases x with
  | nil => cases hus
  | @cons r2 o2 T2 u vs' led' us' h1 h2 h3 y =>
    have e : us' ++ [u] = [u1] ++ [u2] := hus.symm
    obtain ⟨rfl, e2⟩ := List.append_inj' e rfl
    cases e2
    generalize hus' : [u1] = us'' at y
    cases y with
    | nil => cases hus'
    | @cons r1 o1 T1 u' vs'' led'' us3 k1 k2 k3 z =>
      have e' : us3 ++ [u'] = [] ++ [u1] := hus'.symm
      obtain ⟨rfl, e3⟩ := List.append_inj' e' rfl
      cases e3
      generalize hus2 : ([] : List (List Nat)) = us4 at z
      cases z with
      | nil => exact ⟨r1, o1, T1, r2, o2, T2, rfl, rfl, k1, h1, k2, h2, k3, h3⟩
      | cons => simp at hus2
theorem met_nodup (val : Nat → Int) : ∀ i, (firstMet val i).Nodup
  | 0 => List.nodup_nil
  | i + 1 => by
    rw [firstMet_succ]
    have ih := met_nodup val i
    unfold step_dedup
    split
    · exact ih
    · rename_i h
      refine List.nodup_append.mpr ⟨ih, by simp, fun a ha b hb => ?_⟩
      rw [List.mem_singleton.mp hb]
      rintro rfl
      exact h (by simpa using ha)
theorem met_mem (ks : List Int) (k : Int) : k ∈ firstMet (fun i => ks.getD i 0) ks.length ↔ k ∈ ks := by
  have h := firstMet_any (fun i => ks.getD i 0) ks.length k
  have e : (List.range ks.length).map (fun i => ks.getD i 0) = ks := by
    apply List.ext_getElem?
    intro j
    rw [List.getElem?_map]
    rcases Nat.lt_or_ge j ks.length with hj | hj
    · rw [List.getElem?_range hj, List.getElem?_eq_getElem hj]; simp [hj]
    · rw [List.getElem?_eq_none (by simpa using hj), List.getElem?_eq_none hj]; rfl
  rw [e] at h
  have h1 : k ∈ firstMet (fun i => ks.getD i 0) ks.length ↔ (firstMet (fun i => ks.getD i 0) ks.length).any (· == k) = true := by simp
  rw [h1, h]
  simp
theorem storeCell {prog : Program} {w : World} {A : Around} {E : Value → Shared → Prop} {s : Shared} {g : Heap} {L c : Addr} {m : Str → Option Value} {env : Env} {x : Str} {v : Value} {o : Obj} {v0 : Option Value} {pre post : List (Addr × Obj)} {Q : Unit → Shared → Prop} (F : Fr g L s.heap m) (N : News g L s.heap (pre ++ (c, o) :: post)) (ap : Ap (pre ++ (c, o) :: post)) (ho : o.data = .cell v0)
    (hk : env.scope.kind = .function) (hx : env.kindOf x = some .cell) (hc : env.cells.lookup x = some c)
    (h : ∀ h' o', Fr g L h' m → News g L h' (pre ++ (c, o') :: post) → Ap (pre ++ (c, o') :: post) → o'.data = .cell (some v) → Q () { s with heap := h' }) : wpAny (model prog w) A (storeName env x v) Q E s := by
  have n0 := N (c, o) (by simp)
  refine wpAny_storeName_cell hk hx hc ⟨o, n0.1, ho⟩ fun h₂ hv₂ hs₂ => ?_
  obtain ⟨o', ho', hd'⟩ := hv₂
  obtain ⟨F2, N2⟩ := led_set F N ap.left ap.right hs₂ ho'
  exact h h₂ o' F2 N2 ap.set hd'
structure Hold (P : Prop) : Prop where
  it : P
theorem sorted_setW {prog : Program} {w : World} {A : Around} {E : Value → Shared → Prop} {s : Shared} {a : Addr} {S : Int → Bool} {n : Nat} {ns : List Int} {Q : Value → Shared → Prop} (hh : A.handled = none) (B : SetB (intKind prog w) s.heap a S n (!w.params.followText "set-order")) (hnd : ns.Nodup) (hS : ∀ k, S k = true ↔ k ∈ ns) (hl : ns.length = n) (h64 : n < 64)
    (h : Hold (∀ (D : Addr) (vs : List Value) (ns' : List Int) (e : Nat) (h' : Heap) (tk : Nat) (d' : Drawn), Sub s.heap h' → s.heap.get? D = none → h'.get? D = some (seqObj "list" vs.toArray e) → IntsAre vs ns' → ns'.Perm ns → Q (.ref D) { s with heap := h', toks := tk, drawn := d' })) :
    wpAny (model prog w) A (call (.builtin "sorted") [.ref a]) Q E s := sorted_set hh B hnd hS hl h64 h.it
local macro_rules | `(tactic| walk_at "call builtin:sorted") => `(tactic| (k_here; k_dflt (refine' sorted_setW rfl ?B ?nd ?hS rfl ?h64 ?_; (case B => assumption); (case nd => assumption); (case hS => assumption); (case h64 => assumption))))
set_option maxHeartbeats 4000000
theorem law_c6 {w : World} {dp un : Nat} {fr : Option (List Env)} {gd : Option (List Code)} {g : Heap} {s : Shared} {Q : Flow → Shared → Prop} {m : Str → Option Value} {tb two one D r1 r2 : Addr} {nt : Nat} {ot o11 oD oW oC oO oS o1 o2 : Obj} {T1 T2 : List (Int × Int)} {junk : List (Addr × Obj)}
    (hu : un + 1000 < cLine) (C : Cx w g) (F : Fr g g.objs.size s.heap m)
    (N : News g g.objs.size s.heap ((tb, W.listOf [Value.ref r1, Value.ref r2].toArray nt) :: (two, ot) :: (one, o11) :: (D, oD) :: (g.objs.size + 4, oW) :: (g.objs.size + 3, oC) :: (g.objs.size + 2, oO) :: (g.objs.size + 1, oS) :: (r2, o2) :: (r1, o1) :: junk))
    (ap : Ap ((tb, W.listOf [Value.ref r1, Value.ref r2].toArray nt) :: (two, ot) :: (one, o11) :: (D, oD) :: (g.objs.size + 4, oW) :: (g.objs.size + 3, oC) :: (g.objs.size + 2, oO) :: (g.objs.size + 1, oS) :: (r2, o2) :: (r1, o1) :: junk))
    (hC : oC.data = .cell none) (mt : m (Str.ofString "tables") = some (.ref tb)) (i1 : IsIntD PR w o1 T1) (i2 : IsIntD PR w o2 T2) (s1 : (r1 == sysModules) = false) (s2 : (r2 == sysModules) = false) (l1 : T1.length ≤ 20) (l2 : T2.length ≤ 20)
    (done : ∀ h' tk' d' cols colsV e Dc oC', Fr g g.objs.size h' m → News g g.objs.size h' ((Dc, W.listOf (List.toArray colsV) e) :: (tb, W.listOf [Value.ref r1, Value.ref r2].toArray nt) :: (two, ot) :: (one, o11) :: (D, oD) :: (g.objs.size + 4, oW) :: (g.objs.size + 3, oC') :: (g.objs.size + 2, oO) :: (g.objs.size + 1, oS) :: (r2, o2) :: (r1, o1) :: junk) →
      Ap ((Dc, W.listOf (List.toArray colsV) e) :: (tb, W.listOf [Value.ref r1, Value.ref r2].toArray nt) :: (two, ot) :: (one, o11) :: (D, oD) :: (g.objs.size + 4, oW) :: (g.objs.size + 3, oC') :: (g.objs.size + 2, oO) :: (g.objs.size + 1, oS) :: (r2, o2) :: (r1, o1) :: junk) →
      oC'.data = .cell (some (.ref Dc)) → IntsAre colsV cols → (∀ k, k ∈ cols ↔ k ∈ T1.map (·.1) ∨ k ∈ T2.map (·.1)) → cols.length ≤ 60 → Q .next { heap := h', gens := s.gens, drawn := d', toks := tk', os := s.os }) :
    wpAny (model PySem.Challenge.rw_zd0013_01.row.prog w) ((arA dp un fr gd).deeper (envOfC (Str.ofString "law") (fScope (stm 21)) g.objs.size 288 (Value.ref 287))) (exec (bs 21 6) (envOfC (Str.ofString "law") (fScope (stm 21)) g.objs.size 288 (Value.ref 287))) Q (fun x x_1 => False) s := by
  have X := C.k
  obtain ⟨mean, mg, mb, Tp⟩ := id C.t
  conv in bs 21 6 => whnf
  revert X; k_fill; intro X
  k_steps
  have d1 : IntD PR w s.heap r1 T1 := intD_iff.mpr ⟨o1, (N _ (.tail _ (.tail _ (.tail _ (.tail _ (.tail _ (.tail _ (.tail _ (.tail _ (.tail _ (.head _))))))))))).1, i1⟩
  refine listKeys s1 d1 (by omega) rfl F N fun K1 c1 k1V h2 tk2 F2 N2 lt2 ik1 => ?_
  have A2 := ap.cons (o := W.listOf k1V.toArray c1) fun p hp => Nat.ne_of_lt (lt2 p hp)
  clear F N d1 ap
  dsimp only
  k_steps
  have d2 : IntD PR w h2 r2 T2 := intD_iff.mpr ⟨o2, (N2 _ (.tail _ (.tail _ (.tail _ (.tail _ (.tail _ (.tail _ (.tail _ (.tail _ (.tail _ (.head _))))))))))).1, i2⟩
  refine listKeys s2 d2 (by omega) rfl F2 N2 fun K2 c2 k2V h3 tk3 F3 N3 lt3 ik2 => ?_
  have A3 := A2.cons (o := W.listOf k2V.toArray c2) fun p hp => Nat.ne_of_lt (lt3 p hp)
  clear F2 N2 d2 A2 lt2 lt3
  have hk1 := ints_len ik1
  have hk2 := ints_len ik2
  rw [List.length_map] at hk1 hk2
  dsimp only
  refine addLed F3 N3 A3 (.tail _ (.head _)) (.head _) (by omega) fun K3 h4 F4 N4 A4 lt4 => ?_
  have ik3 : IntsAre (k1V ++ k2V) (T1.map (·.1) ++ T2.map (·.1)) := ints_app ik1 ik2
  have hk3 : (k1V ++ k2V).length ≤ 40 := by rw [List.length_append]; omega
  generalize k1V ++ k2V = k3V at N4 A4 ik3 hk3
  clear F3 N3 A3 lt4
  dsimp only
  k_steps
  have hk4 := ints_len ik3
  refine newB (ns := T1.map (·.1) ++ T2.map (·.1)) rfl ⟨_, (N4 _ (.head _)).1, rfl, _, rfl⟩ (by simpa using ik3) (Nat.lt_of_le_of_lt (show _ ≤ 41 by simpa using hk3) (by decide)) fun h5 tk5 hB k5' => ?_
  have k5 : Sub h4 h5 := fun b o e => k5' b o (Heap.lt_size e) e
  have F5 := fr_sub F4 k5
  have N5 := news_sub N4 k5
  have hsz : k3V.toArray.size = (T1.map (·.1) ++ T2.map (·.1)).length := by rw [List.size_toArray, hk4]
  dsimp only at hB
  rw [hsz] at hB
  have hnd := met_nodup (fun i => (T1.map (·.1) ++ T2.map (·.1)).getD i 0) (T1.map (·.1) ++ T2.map (·.1)).length
  have hmm := met_mem (T1.map (·.1) ++ T2.map (·.1))
  have hml := firstMet_length_le (fun i => (T1.map (·.1) ++ T2.map (·.1)).getD i 0) (T1.map (·.1) ++ T2.map (·.1)).length
  generalize firstMet (fun i => (T1.map (·.1) ++ T2.map (·.1)).getD i 0) (T1.map (·.1) ++ T2.map (·.1)).length = met at hB hnd hmm hml
  have hml2 : met.length < 64 := by omega
  have hSm : ∀ k, met.any (· == k) = true ↔ k ∈ met := fun k => by simp
  clear F4 k5' hsz
  generalize h4.objs.size = sa at hB
  have A5 := A4.tail.tail.tail
  have N5' := news_tail (news_tail (news_tail N5))
  clear N5 A4 N4
  dsimp only
  k_steps
  refine ⟨?_⟩
  intro Dc colsV cols e h6 tk6 d6 k6 hDn hDo icols hperm
  obtain ⟨F6, N6, A6⟩ := led_new F5 N5' A5 k6 hDn hDo
  replace N6 : News g g.objs.size h6 ((Dc, W.listOf colsV.toArray e) :: _) := N6
  replace A6 : Ap ((Dc, W.listOf colsV.toArray e) :: _) := A6
  clear F5 N5' A5 k6 hB hDn hDo k5
  have hcl : cols.length ≤ 60 := by rw [hperm.length_eq]; have := ints_len ik3; omega
  have hcm : ∀ k, k ∈ cols ↔ k ∈ T1.map (·.1) ∨ k ∈ T2.map (·.1) := fun k => by rw [hperm.mem_iff, hmm k, List.mem_append]
  refine storeCell (c := g.objs.size + 3) (pre := [(Dc, W.listOf colsV.toArray e), (tb, W.listOf [Value.ref r1, Value.ref r2].toArray nt), (two, ot), (one, o11), (D, oD), (g.objs.size + 4, oW)]) F6 N6 A6 hC (by rfl) (by rfl) (by rfl) fun h7 oC' F7 N7 A7 hC' => ?_
  exact done h7 _ d6 cols colsV e Dc oC' F7 N7 A7 hC' icols hcm hcl
end Mine
end
section
open PySem PySem.W PySem.Calls PyProof.Rows PySem.Spec
set_option Elab.async false
set_option linter.unusedVariables false
set_option linter.unusedSimpArgs false
set_option maxRecDepth 100000
namespace Mine
open PyProof.Rows.LCg (NsObj ns_obj lst)
local macro_rules | `(tactic| walk_at "eval Name") => `(tactic| (k_here; k_dflt (refine' nameX_L ?F ?v ?_ ?a ?b; (case F => k_asm); (case a => rfl); (case b => rfl); (case v => assumption); k_whole)))
local macro_rules | `(tactic| walk_at "getMethod ref") => `(tactic| (k_here; k_dflt (refine' getM ?d ?_; (case d => assumption))))
local macro_rules | `(tactic| walk_at "call builtin:dict.get") => `(tactic| (k_here; k_dflt (refine' getC ?l ?d ?_; (case l => assumption); (case d => assumption)); intro _ _))
local macro_rules | `(tactic| walk_at "pyIter ref") => `(tactic| (k_here; (refine' iterL ?N ?m ?_; (case N => k_asm); (case m => k_mem))))
/-- the rows made -/
inductive RLs : List Value → List (Addr × Obj) → List (List Int) → Prop
  | nil : RLs [] [] []
  | cons (r : Addr) (vs : List Value) (ns : List Int) (n : Nat) {V : List Value} {led : List (Addr × Obj)} {rs : List (List Int)} (h : IntsAre vs ns) : RLs V led rs → RLs (V ++ [.ref r]) ((r, W.listOf vs.toArray n) :: led) (rs ++ [ns])
theorem RLs.len {V : List Value} {led : List (Addr × Obj)} {rs : List (List Int)} (x : RLs V led rs) : V.length = rs.length := by induction x <;> simp_all
noncomputable def rowOf (cols : List Int) (T : List (Int × Int)) : List Int := cols.map (gt T)
theorem row_perm2 {i k c d a1 a2 a3 a4 a5 a6 a7 a8 a9 a10 a11 x : Addr × Obj} {rl junk : List (Addr × Obj)} : (x :: i :: k :: c :: d :: a1 :: a2 :: a3 :: a4 :: a5 :: a6 :: a7 :: a8 :: a9 :: a10 :: a11 :: (rl ++ junk)).Perm (i :: k :: c :: d :: a1 :: a2 :: a3 :: a4 :: a5 :: a6 :: a7 :: a8 :: a9 :: a10 :: a11 :: ((x :: rl) ++ junk)) :=
  (List.perm_middle (l₁ := [i, k, c, d, a1, a2, a3, a4, a5, a6, a7, a8, a9, a10, a11])).symm
set_option maxHeartbeats 4000000
theorem law_c7 {w : World} {dp un : Nat} {fr : Option (List Env)} {gd : Option (List Code)} {g : Heap} {s : Shared} {Q : Flow → Shared → Prop} {m : Str → Option Value} {Dc tb two one D r1 r2 : Addr} {nt e : Nat} {colsV : List Value} {cols : List Int} {ot o11 oD oW oC oO oS o1 o2 : Obj} {T1 T2 : List (Int × Int)} {junk : List (Addr × Obj)}
    (hu : un + 1000 < cLine) (C : Cx w g) (F : Fr g g.objs.size s.heap m)
    (N : News g g.objs.size s.heap ((Dc, W.listOf colsV.toArray e) :: (tb, W.listOf [Value.ref r1, Value.ref r2].toArray nt) :: (two, ot) :: (one, o11) :: (D, oD) :: (g.objs.size + 4, oW) :: (g.objs.size + 3, oC) :: (g.objs.size + 2, oO) :: (g.objs.size + 1, oS) :: (r2, o2) :: (r1, o1) :: junk))
    (ap : Ap ((Dc, W.listOf colsV.toArray e) :: (tb, W.listOf [Value.ref r1, Value.ref r2].toArray nt) :: (two, ot) :: (one, o11) :: (D, oD) :: (g.objs.size + 4, oW) :: (g.objs.size + 3, oC) :: (g.objs.size + 2, oO) :: (g.objs.size + 1, oS) :: (r2, o2) :: (r1, o1) :: junk))
    (hC : oC.data = .cell (some (.ref Dc))) (mt : m (Str.ofString "tables") = some (.ref tb)) (i1 : IsIntD PR w o1 T1) (i2 : IsIntD PR w o2 T2) (s1 : (r1 == sysModules) = false) (s2 : (r2 == sysModules) = false) (ic : IntsAre colsV cols) (hcl : cols.length ≤ 60)
    (done : ∀ h' tk' R rowsV n rl, Fr g g.objs.size h' (fun z => if z = Str.ofString "rows" then some (.ref R) else m z) → News g g.objs.size h' ((R, W.listOf (List.toArray rowsV) n) :: (Dc, W.listOf colsV.toArray e) :: (tb, W.listOf [Value.ref r1, Value.ref r2].toArray nt) :: (two, ot) :: (one, o11) :: (D, oD) :: (g.objs.size + 4, oW) :: (g.objs.size + 3, oC) :: (g.objs.size + 2, oO) :: (g.objs.size + 1, oS) :: (r2, o2) :: (r1, o1) :: (rl ++ junk)) →
      Ap ((R, W.listOf (List.toArray rowsV) n) :: (Dc, W.listOf colsV.toArray e) :: (tb, W.listOf [Value.ref r1, Value.ref r2].toArray nt) :: (two, ot) :: (one, o11) :: (D, oD) :: (g.objs.size + 4, oW) :: (g.objs.size + 3, oC) :: (g.objs.size + 2, oO) :: (g.objs.size + 1, oS) :: (r2, o2) :: (r1, o1) :: (rl ++ junk)) →
      RLs rowsV rl [rowOf cols T1, rowOf cols T2] → Q .next { s with heap := h', toks := tk' }) :
    wpAny (model PySem.Challenge.rw_zd0013_01.row.prog w) ((arA dp un fr gd).deeper (envOfC (Str.ofString "law") (fScope (stm 21)) g.objs.size 288 (Value.ref 287))) (exec (bs 21 7) (envOfC (Str.ofString "law") (fScope (stm 21)) g.objs.size 288 (Value.ref 287))) Q (fun x x_1 => False) s := by
  have X := C.k
  obtain ⟨mean, mg, mb, Tp⟩ := id C.t
  conv in bs 21 7 => whnf
  revert X; k_fill; intro X
  refine execListCompK (tb := Str.ofString "table") F (by with_unfolding_all rfl) rfl rfl (by with_unfolding_all rfl) (by intro n; rfl) (by intro h; rfl) rfl (by decide) ?_ (by intro _; rfl)
  refine nameX_L (cl := [(Str.ofString "way", g.objs.size + 4), (Str.ofString "columns", g.objs.size + 3), (Str.ofString "own", g.objs.size + 2), (Str.ofString "script", g.objs.size + 1)]) F mt ?_
  refine iterL (vs := [Value.ref r1, Value.ref r2].toArray) N (.tail _ (.head _)) ?_
  refine CompGoK.list (vs := [Value.ref r1, Value.ref r2].toArray) (n := nt) (l := tb) (fun Cc Dd i news' => ∃ oK oC2 mC rowsV rl v0, news' = (Cc + 1, oK) :: (Cc, oC2) :: (Dd, lst rowsV) :: (Dc, W.listOf colsV.toArray e) :: (tb, W.listOf [Value.ref r1, Value.ref r2].toArray nt) :: (two, ot) :: (one, o11) :: (D, oD) :: (g.objs.size + 4, oW) :: (g.objs.size + 3, oC) :: (g.objs.size + 2, oO) :: (g.objs.size + 1, oS) :: (r2, o2) :: (r1, o1) :: (rl ++ junk) ∧ Ap news' ∧ NsObj oC2 mC ∧ oK.data = .cell v0 ∧ RLs rowsV rl (([T1, T2].take i).map (rowOf cols)))
    rfl F N (.tail _ (.head _)) ?_ ?_ ?_ ?_
  · rintro Cc Dd i news' ⟨oK, oC2, mC, rowsV, rl, v0, rfl, _⟩
    exact .tail _ (.tail _ (.tail _ (.tail _ (.head _))))
  · intro I Cc Dd oC2 hoC q1 q2 q3 q4
    refine ⟨cellO, oC2, _, [], [], none, rfl, ?_, hoC, rfl, .nil⟩
    have a1 := ap.cons (a := Dd) (o := lst []) fun p hp => Nat.ne_of_lt (q4 p hp)
    have a2 := a1.cons (a := Cc) (o := oC2) fun p hp => by
      rcases List.mem_cons.mp hp with rfl | hp
      · exact Nat.ne_of_lt q1
      · exact Nat.ne_of_lt (Nat.lt_trans (q4 p hp) q1)
    exact a2.cons fun p hp => by
      rcases List.mem_cons.mp hp with rfl | hp
      · exact Nat.ne_of_lt (Nat.lt_succ_self _)
      · rcases List.mem_cons.mp hp with rfl | hp
        · exact Nat.ne_of_lt (Nat.lt_succ_of_lt q1)
        · exact Nat.ne_of_lt (Nat.lt_succ_of_lt (Nat.lt_trans (q4 p hp) q1))
  · rintro I Cc Dd i v news₁ oit ⟨H, g1, g2, g3, g4⟩ hv ⟨oK, oC2, mC, rowsV, rl, v0, rfl, ap1, hoC, hoK, hrl⟩ hne ⟨h7, tk7, e7⟩ F7 N7
    cases e7
    have hT : ∃ r o T, v = .ref r ∧ (r, o) ∈ ((r2, o2) :: (r1, o1) :: (rl ++ junk)) ∧ IsIntD PR w o T ∧ (r == sysModules) = false ∧ [T1, T2][i]? = some T ∧ i < 2 := by
      match i with
      | 0 => exact ⟨r1, o1, T1, (Option.some.inj hv).symm, .tail _ (.head _), i1, s1, rfl, by decide⟩
      | 1 => exact ⟨r2, o2, T2, (Option.some.inj hv).symm, .head _, i2, s2, rfl, by decide⟩
      | i + 2 => simp at hv
    obtain ⟨r, o, T, rfl, hm, iT, sT, hTi, hi2⟩ := hT
    have hrlen := hrl.len
    have apI := ap1.cons hne (o := oit)
    unfold TL0
    refine wpAny_assign_Name (storeCell (c := Cc + 1) (pre := [(I, oit)]) F7 N7 apI hoK (by rfl) (by rfl) (by rfl) fun h8 oK' F8 N8 ap8 hK' => ?_)
    dsimp only
    rw [eval_ListComp]
    refine evalComp (g := g) (L := g.objs.size) (m := m) (o0 := lst []) (cl := [(Str.ofString "table", Cc + 1)]) rfl (fun s Q E q => wpAny_newObj_type q) (fun I C D => loop_L0) rfl (by intro _; rfl) (by with_unfolding_all rfl) (by decide) rfl (by decide) ?_
    show wpAny _ _ (eval (.Name _ _) _) _ _ _
    k_steps
    have N8 : News g g.objs.size h8 ((I, oit) :: (Cc + 1, oK') :: (Cc, oC2) :: (Dd, lst rowsV) :: (Dc, W.listOf colsV.toArray e) :: (tb, W.listOf [Value.ref r1, Value.ref r2].toArray nt) :: (two, ot) :: (one, o11) :: (D, oD) :: (g.objs.size + 4, oW) :: (g.objs.size + 3, oC) :: (g.objs.size + 2, oO) :: (g.objs.size + 1, oS) :: (r2, o2) :: (r1, o1) :: (rl ++ junk)) := N8
    have ap8 : Ap ((I, oit) :: (Cc + 1, oK') :: (Cc, oC2) :: (Dd, lst rowsV) :: (Dc, W.listOf colsV.toArray e) :: (tb, W.listOf [Value.ref r1, Value.ref r2].toArray nt) :: (two, ot) :: (one, o11) :: (D, oD) :: (g.objs.size + 4, oW) :: (g.objs.size + 3, oC) :: (g.objs.size + 2, oO) :: (g.objs.size + 1, oS) :: (r2, o2) :: (r1, o1) :: (rl ++ junk)) := ap8
    have hmr : ∀ pre : List (Addr × Obj), (r, o) ∈ pre ++ ((I, oit) :: (Cc + 1, oK') :: (Cc, oC2) :: (Dd, lst rowsV) :: (Dc, W.listOf colsV.toArray e) :: (tb, W.listOf [Value.ref r1, Value.ref r2].toArray nt) :: (two, ot) :: (one, o11) :: (D, oD) :: (g.objs.size + 4, oW) :: (g.objs.size + 3, oC) :: (g.objs.size + 2, oO) :: (g.objs.size + 1, oS) :: (r2, o2) :: (r1, o1) :: (rl ++ junk)) := fun pre => List.mem_append_right pre (.tail _ (.tail _ (.tail _ (.tail _ (.tail _ (.tail _ (.tail _ (.tail _ (.tail _ (.tail _ (.tail _ (.tail _ (.tail _ hm)))))))))))))
    refine CompGo.list (s := { s with heap := h8, toks := _ }) (vs := colsV.toArray) (n := e) (l := Dc) (fun C2 D2 j news'' => ∃ oC3 mC3 ys, news'' = (C2, oC3) :: (D2, lst ys) :: ((I, oit) :: (Cc + 1, oK') :: (Cc, oC2) :: (Dd, lst rowsV) :: (Dc, W.listOf colsV.toArray e) :: (tb, W.listOf [Value.ref r1, Value.ref r2].toArray nt) :: (two, ot) :: (one, o11) :: (D, oD) :: (g.objs.size + 4, oW) :: (g.objs.size + 3, oC) :: (g.objs.size + 2, oO) :: (g.objs.size + 1, oS) :: (r2, o2) :: (r1, o1) :: (rl ++ junk)) ∧ Ap news'' ∧ NsObj oC3 mC3 ∧ IntsAre ys ((cols.take j).map (gt T)))
      rfl F8 N8 (.tail _ (.tail _ (.tail _ (.tail _ (.head _))))) ?_ ?_ ?_ ?_
    · rintro C2 D2 j news'' ⟨oC3, mC3, ys, rfl, _⟩
      exact .tail _ (.tail _ (.tail _ (.tail _ (.tail _ (.tail _ (.head _))))))
    · intro I2 C2 D2 oC3 hoC3 q1 q2 q3 q4
      refine ⟨oC3, _, [], rfl, ?_, hoC3, .nil⟩
      refine Ap.cons (Ap.cons ap8 fun p hp => Nat.ne_of_lt (q4 p hp)) fun p hp => ?_
      rcases List.mem_cons.mp hp with rfl | hp
      · exact Nat.ne_of_lt q1
      · exact Nat.ne_of_lt (Nat.lt_trans (q4 p hp) q1)
    · rintro I2 C2 D2 j v news₂ oit2 ⟨H2, f1, f2, f3, f4⟩ hv2 ⟨oC3, mC3, ys, rfl, ap2, hoC3, hys⟩ hne2 ⟨h9, tk9, e9⟩ F9 N9
      cases e9
      have hjl : j < cols.length := by rw [← ints_len ic]; simpa using (Array.getElem?_eq_some_iff.mp hv2).1
      obtain ⟨u, hu2⟩ := ints_get ic (i := j) (List.getElem?_eq_getElem hjl)
      have hcj : cols[j]? = some cols[j] := List.getElem?_eq_getElem hjl
      generalize cols[j] = k at hu2 hcj
      have hve : v = .int k u := by
        have : colsV[j]? = some v := by simpa using hv2
        rw [this] at hu2
        exact Option.some.inj hu2
      subst hve
      have apI2 := ap2.cons hne2 (o := oit2)
      unfold TL0
      refine compStore (pre := [(I2, oit2)]) rfl rfl F9 N9 (Ap.left (pre := [(I2, oit2)]) apI2) (Ap.right (pre := [(I2, oit2)]) apI2) hoC3 fun h10 tk10 oC4 F10 N10 hoC4 => ?_
      have ap10 : Ap ((I2, oit2) :: (C2, oC4) :: (D2, lst ys) :: ((I, oit) :: (Cc + 1, oK') :: (Cc, oC2) :: (Dd, lst rowsV) :: (Dc, W.listOf colsV.toArray e) :: (tb, W.listOf [Value.ref r1, Value.ref r2].toArray nt) :: (two, ot) :: (one, o11) :: (D, oD) :: (g.objs.size + 4, oW) :: (g.objs.size + 3, oC) :: (g.objs.size + 2, oO) :: (g.objs.size + 1, oS) :: (r2, o2) :: (r1, o1) :: (rl ++ junk))) := Ap.set (pre := [(I2, oit2)]) apI2
      have hkv : (fun y => if y = Str.ofString "key" then some (Value.int k u) else mC3 y) (Str.ofString "key") = some (.int k u) := rfl
      generalize (fun y => if y = Str.ofString "key" then some (Value.int k u) else mC3 y) = m10 at hoC4 hkv
      have dT : IntD PR w h10 r T := intD_iff.mpr ⟨o, (N10 _ (hmr [(I2, oit2), (C2, oC4), (D2, lst ys)])).1, iT⟩
      dsimp only
      k_steps
      rename_i tg kg
      have hjy : ys.length ≤ 1000 := by rw [ints_len hys, List.length_map, List.length_take]; omega
      refine compAppend (pre := [(I2, oit2), (C2, oC4)]) (post := (I, oit) :: (Cc + 1, oK') :: (Cc, oC2) :: (Dd, lst rowsV) :: (Dc, W.listOf colsV.toArray e) :: (tb, W.listOf [Value.ref r1, Value.ref r2].toArray nt) :: (two, ot) :: (one, o11) :: (D, oD) :: (g.objs.size + 4, oW) :: (g.objs.size + 3, oC) :: (g.objs.size + 2, oO) :: (g.objs.size + 1, oS) :: (r2, o2) :: (r1, o1) :: (rl ++ junk)) F10 N10 (Ap.left (pre := [(I2, oit2), (C2, oC4)]) ap10) (Ap.right (pre := [(I2, oit2), (C2, oC4)]) ap10) (Nat.le_trans hjy (by decide)) fun h11 F11 N11 => ?_
      have ap11 : Ap ((I2, oit2) :: (C2, oC4) :: (D2, lst (ys ++ [Value.int ((ilook T k).getD 0) tg])) :: ((I, oit) :: (Cc + 1, oK') :: (Cc, oC2) :: (Dd, lst rowsV) :: (Dc, W.listOf colsV.toArray e) :: (tb, W.listOf [Value.ref r1, Value.ref r2].toArray nt) :: (two, ot) :: (one, o11) :: (D, oD) :: (g.objs.size + 4, oW) :: (g.objs.size + 3, oC) :: (g.objs.size + 2, oO) :: (g.objs.size + 1, oS) :: (r2, o2) :: (r1, o1) :: (rl ++ junk))) := Ap.set (pre := [(I2, oit2), (C2, oC4)]) ap10
      refine ⟨h11, _, _, rfl, F11, N11, ap11.head, oC4, _, _, rfl, ap11.tail, hoC4, ?_⟩
      rw [List.take_add_one, hcj, List.map_append]
      exact ints_app hys (.cons _ _ .nil)
    · rintro C2 D2 news'' ⟨oC3, mC3, ys, rfl, ap2, hoC3, hys⟩
      refine ⟨oC3, mC3, _, rfl, hoC3, ap2.head, fun h11 tk11 F11 N11 => ?_⟩
      have hsz : colsV.toArray.size = cols.length := by rw [List.size_toArray, ints_len ic]
      rw [hsz, List.take_length] at hys
      have ap3 := ap2.tail
      have hrl2 : rowsV.length ≤ 1000 := by rw [hrlen, List.length_map, List.length_take]; simp; omega
      refine compAppend (pre := [(D2, lst ys), (I, oit), (Cc + 1, oK'), (Cc, oC2)]) (post := (Dc, W.listOf colsV.toArray e) :: (tb, W.listOf [Value.ref r1, Value.ref r2].toArray nt) :: (two, ot) :: (one, o11) :: (D, oD) :: (g.objs.size + 4, oW) :: (g.objs.size + 3, oC) :: (g.objs.size + 2, oO) :: (g.objs.size + 1, oS) :: (r2, o2) :: (r1, o1) :: (rl ++ junk)) F11 N11 (Ap.left (pre := [(D2, lst ys), (I, oit), (Cc + 1, oK'), (Cc, oC2)]) ap3) (Ap.right (pre := [(D2, lst ys), (I, oit), (Cc + 1, oK'), (Cc, oC2)]) ap3) (Nat.le_trans hrl2 (by decide)) fun h12 F12 N12 => ?_
      have ap4 : Ap ((D2, lst ys) :: (I, oit) :: (Cc + 1, oK') :: (Cc, oC2) :: (Dd, lst (rowsV ++ [.ref D2])) :: (Dc, W.listOf colsV.toArray e) :: (tb, W.listOf [Value.ref r1, Value.ref r2].toArray nt) :: (two, ot) :: (one, o11) :: (D, oD) :: (g.objs.size + 4, oW) :: (g.objs.size + 3, oC) :: (g.objs.size + 2, oO) :: (g.objs.size + 1, oS) :: (r2, o2) :: (r1, o1) :: (rl ++ junk)) := Ap.set (pre := [(D2, lst ys), (I, oit), (Cc + 1, oK'), (Cc, oC2)]) ap3
      have N13 := news_perm row_perm2 N12
      have ap5 := Ap.perm row_perm2 ap4
      refine ⟨h12, _, _, rfl, F12, N13, ap5.head, oK', oC2, mC, rowsV ++ [.ref D2], (D2, lst ys) :: rl, _, rfl, ap5.tail, hoC, hK', ?_⟩
      have e1 : ([T1, T2].take (i + 1)).map (rowOf cols) = ([T1, T2].take i).map (rowOf cols) ++ [rowOf cols T] := by rw [List.take_add_one, hTi, List.map_append]; rfl
      rw [e1]
      exact .cons D2 ys (rowOf cols T) ys.length hys hrl
  · rintro Cc Dd news' ⟨oK, oC2, mC, rowsV, rl, v0, rfl, ap1, hoC, hoK, hrl⟩
    refine ⟨oC2, mC, _, .swap _ _ _, hoC, ?_, fun h'' tk'' F'' N'' => ?_⟩
    · intro p hp
      rcases List.mem_cons.mp hp with rfl | hp
      · exact (ap1.head _ (.head _)).symm
      · exact ap1.tail.head p hp
    · exact done h'' tk'' Dd rowsV rowsV.length rl F'' (news_tail N'') ap1.tail.tail hrl
end Mine
end
section
open PySem PySem.W PySem.Calls PyProof.Rows PySem.Spec
set_option Elab.async false
set_option linter.unusedVariables false
set_option linter.unusedSimpArgs false
set_option maxRecDepth 100000
namespace Mine
open PyProof.Rows.LCg (NsObj ns_obj lst)
local macro_rules | `(tactic| walk_at "eval Name") => `(tactic| (k_here; k_dflt (refine' nameX_L ?F ?v ?_ ?a ?b; (case F => k_asm); (case a => rfl); (case b => rfl); (case v => assumption); k_whole)))
theorem RLs.two {V : List Value} {led : List (Addr × Obj)} {a b : List Int} (x : RLs V led [a, b]) : ∃ p1 v1 n1 p2 v2 n2, V = [.ref p1, .ref p2] ∧ led = [(p2, W.listOf (List.toArray v2) n2), (p1, W.listOf (List.toArray v1) n1)] ∧ IntsAre v1 a ∧ IntsAre v2 b := by
  generalize hus : [a, b] = us at x
  cases x with
  | nil => cases hus
  | @cons p2 v2 ns n2 vs' led' us' h1 y =>
    have e : us' ++ [ns] = [a] ++ [b] := hus.symm
    obtain ⟨rfl, e2⟩ := List.append_inj' e rfl
    cases e2
    generalize hus' : [a] = us'' at y
    cases y with
    | nil => cases hus'
    | @cons p1 v1 ns' n1 vs'' led'' us3 k1 z =>
      have e' : us3 ++ [ns'] = [] ++ [a] := hus'.symm
      obtain ⟨rfl, e3⟩ := List.append_inj' e' rfl
      cases e3
      generalize hus2 : ([] : List (List Int)) = us4 at z
      cases z with
      | nil => exact ⟨p1, v1, n1, p2, v2, n2, rfl, rfl, k1, h1⟩
      | cons => simp at hus2
noncomputable def wayOf (z : Int) : Int := 1 - 2 * z.fmod 2
noncomputable def dueE (u1 u2 : List Nat) (r1 r2 : List Int) (way : Int) : Int := if formE u1 = formE u2 then 0 else if ltL r1 r2 = true then -way else way
theorem str_ok {ss : List Str} {fs : List (List Nat)} (e : cpsOf ss = fs) (h : ∀ x ∈ fs, ∀ c ∈ x, c < 0x110000) {x : Str} (hx : x ∈ ss) : PyData.strOk x = true := by
  have h1 := h x.cps.toList (e ▸ List.mem_map.mpr ⟨x, hx, rfl⟩)
  unfold PyData.strOk
  rw [Array.all_eq_true']
  intro c hc
  exact decide_eq_true (h1 c (by simpa using hc))
theorem two_junk {x y a1 a2 a3 a4 a5 a6 a7 a8 a9 a10 a11 a12 : Addr × Obj} {junk : List (Addr × Obj)} : (x :: y :: a1 :: a2 :: a3 :: a4 :: a5 :: a6 :: a7 :: a8 :: a9 :: a10 :: a11 :: a12 :: junk).Perm (a1 :: a2 :: a3 :: a4 :: a5 :: a6 :: a7 :: a8 :: a9 :: a10 :: a11 :: a12 :: (x :: y :: junk)) :=
  List.perm_append_comm_assoc [x, y] [a1, a2, a3, a4, a5, a6, a7, a8, a9, a10, a11, a12] junk
set_option maxHeartbeats 4000000
theorem law_c8 {w : World} {dp un : Nat} {fr : Option (List Env)} {gd : Option (List Code)} {g : Heap} {s : Shared} {Q : Flow → Shared → Prop} {m : Str → Option Value} {R Dc tb two one D p1 p2 : Addr} {n ny n1 n2 : Nat} {twoV oneV ys v1 v2 : List Value} {sd row1 row2 : List Int} {oDc otb oW oC oO oS : Obj} {v0 : Option Value} {u1 u2 : List Nat} {junk : List (Addr × Obj)}
    (hd : dp + 100 < recursionLimit) (hu : un + 1000 < cLine) (C : Cx w g) (F : Fr g g.objs.size s.heap m)
    (N : News g g.objs.size s.heap ((R, W.listOf [Value.ref p1, Value.ref p2].toArray n) :: (Dc, oDc) :: (tb, otb) :: (two, W.listOf twoV.toArray 0) :: (one, W.listOf oneV.toArray 0) :: (D, W.listOf ys.toArray ny) :: (g.objs.size + 4, oW) :: (g.objs.size + 3, oC) :: (g.objs.size + 2, oO) :: (g.objs.size + 1, oS) :: (p2, W.listOf v2.toArray n2) :: (p1, W.listOf v1.toArray n1) :: junk))
    (ap : Ap ((R, W.listOf [Value.ref p1, Value.ref p2].toArray n) :: (Dc, oDc) :: (tb, otb) :: (two, W.listOf twoV.toArray 0) :: (one, W.listOf oneV.toArray 0) :: (D, W.listOf ys.toArray ny) :: (g.objs.size + 4, oW) :: (g.objs.size + 3, oC) :: (g.objs.size + 2, oO) :: (g.objs.size + 1, oS) :: (p2, W.listOf v2.toArray n2) :: (p1, W.listOf v1.toArray n1) :: junk))
    (hW : oW.data = .cell v0) (mr : m (Str.ofString "rows") = some (.ref R)) (m1 : m (Str.ofString "one") = some (.ref one)) (m2 : m (Str.ofString "two") = some (.ref two)) (ms : m (Str.ofString "seeds") = some (.ref D))
    (i1 : IntsAre oneV (intsOf u1)) (i2 : IntsAre twoV (intsOf u2)) (t1 : Tree u1) (t2 : Tree u2) (is : IntsAre ys sd) (hsl : sd.length = 8) (k1 : IntsAre v1 row1) (k2 : IntsAre v2 row2) (hrl : row1.length = row2.length)
    (done : ∀ h' tk' m' oW' t tw junk', Fr g g.objs.size h' m' → News g g.objs.size h' ((R, W.listOf [Value.ref p1, Value.ref p2].toArray n) :: (Dc, oDc) :: (tb, otb) :: (two, W.listOf twoV.toArray 0) :: (one, W.listOf oneV.toArray 0) :: (D, W.listOf ys.toArray ny) :: (g.objs.size + 4, oW') :: (g.objs.size + 3, oC) :: (g.objs.size + 2, oO) :: (g.objs.size + 1, oS) :: (p2, W.listOf v2.toArray n2) :: (p1, W.listOf v1.toArray n1) :: junk') →
      Ap ((R, W.listOf [Value.ref p1, Value.ref p2].toArray n) :: (Dc, oDc) :: (tb, otb) :: (two, W.listOf twoV.toArray 0) :: (one, W.listOf oneV.toArray 0) :: (D, W.listOf ys.toArray ny) :: (g.objs.size + 4, oW') :: (g.objs.size + 3, oC) :: (g.objs.size + 2, oO) :: (g.objs.size + 1, oS) :: (p2, W.listOf v2.toArray n2) :: (p1, W.listOf v1.toArray n1) :: junk') →
      oW'.data = .cell (some (.int (wayOf (sd.getD 7 0)) tw)) → m' (Str.ofString "rows") = some (.ref R) → m' (Str.ofString "due") = some (.int (dueE u1 u2 row1 row2 (wayOf (sd.getD 7 0))) t) →
      wpAny (model PySem.Challenge.rw_zd0013_01.row.prog w) ((arA dp un fr gd).deeper (envOfC (Str.ofString "law") (fScope (stm 21)) g.objs.size 288 (Value.ref 287))) (exec (bs 21 11) (envOfC (Str.ofString "law") (fScope (stm 21)) g.objs.size 288 (Value.ref 287))) (fun f s' => match f with
        | Flow.next => wpAny (model PySem.Challenge.rw_zd0013_01.row.prog w) ((arA dp un fr gd).deeper (envOfC (Str.ofString "law") (fScope (stm 21)) g.objs.size 288 (Value.ref 287))) (execs [bs 21 12] (envOfC (Str.ofString "law") (fScope (stm 21)) g.objs.size 288 (Value.ref 287))) Q (fun x x_1 => False) s'
        | f => Q f s') (fun x x_1 => False) { s with heap := h', toks := tk' }) :
    wpAny (model PySem.Challenge.rw_zd0013_01.row.prog w) ((arA dp un fr gd).deeper (envOfC (Str.ofString "law") (fScope (stm 21)) g.objs.size 288 (Value.ref 287))) (execs [bs 21 8, bs 21 9, bs 21 10, bs 21 11, bs 21 12] (envOfC (Str.ofString "law") (fScope (stm 21)) g.objs.size 288 (Value.ref 287))) Q (fun x x_1 => False) s := by
  have X := C.k
  obtain ⟨mean, mg, mb, Tp⟩ := id C.t
  revert X; k_fill; intro X
  k_steps
  conv in bs 21 8 => whnf
  k_steps
  refine storeCell (c := g.objs.size + 4) (pre := [(R, W.listOf [Value.ref p1, Value.ref p2].toArray n), (Dc, oDc), (tb, otb), (two, W.listOf twoV.toArray 0), (one, W.listOf oneV.toArray 0), (D, W.listOf ys.toArray ny)]) F N ap hW (by rfl) (by rfl) (by rfl) fun h2 oW2 F2 N2 A2 hW2 => ?_
  replace hW2 : oW2.data = .cell (some (.int (wayOf (sd.getD 7 0)) _)) := hW2
  generalize wayOf (sd.getD 7 0) = way at hW2 done
  replace N2 : News g g.objs.size h2 ((R, W.listOf [Value.ref p1, Value.ref p2].toArray n) :: (Dc, oDc) :: (tb, otb) :: (two, W.listOf twoV.toArray 0) :: (one, W.listOf oneV.toArray 0) :: (D, W.listOf ys.toArray ny) :: (g.objs.size + 4, oW2) :: (g.objs.size + 3, oC) :: (g.objs.size + 2, oO) :: (g.objs.size + 1, oS) :: (p2, W.listOf v2.toArray n2) :: (p1, W.listOf v1.toArray n1) :: junk) := N2
  replace A2 : Ap ((R, W.listOf [Value.ref p1, Value.ref p2].toArray n) :: (Dc, oDc) :: (tb, otb) :: (two, W.listOf twoV.toArray 0) :: (one, W.listOf oneV.toArray 0) :: (D, W.listOf ys.toArray ny) :: (g.objs.size + 4, oW2) :: (g.objs.size + 3, oC) :: (g.objs.size + 2, oO) :: (g.objs.size + 1, oS) :: (p2, W.listOf v2.toArray n2) :: (p1, W.listOf v1.toArray n1) :: junk) := A2
  clear N F ap
  dsimp only at hW2 ⊢
  obtain ⟨q1, q2, q3⟩ := tree_ix t1
  obtain ⟨q1', q2', q3'⟩ := tree_ix t2
  k_steps
  conv in bs 21 9 => whnf
  k_steps
  conv in bs 21 10 => whnf
  k_steps
  rename_i h3 F3 N3
  refine c_form (C.sub F3.keep) (by show dp + 1 + 5 < _; omega) (by first | (show un + 3 + 50 < _; omega) | (show un + 3 + 1 + 50 < _; omega) | (show un + 3 + 2 + 50 < _; omega)) (N3 (one, W.listOf oneV.toArray 0) (.tail _ (.tail _ (.tail _ (.tail _ (.head _)))))).1 i1 q1 q2 fun f1 g1V ss1 e1 h4 tk4 k4 hf1n hf1 hss1 hc1 => ?_
  obtain ⟨F4, N4, A4⟩ := led_new F3 N3 A2 k4 hf1n hf1
  clear F3 N3 A2 k4 hf1n hf1
  dsimp only
  k_steps
  refine c_form (C.sub F4.keep) (by show dp + 1 + 5 < _; omega) (by first | (show un + 3 + 50 < _; omega) | (show un + 3 + 1 + 50 < _; omega) | (show un + 3 + 2 + 50 < _; omega)) (N4 (two, W.listOf twoV.toArray 0) (.tail _ (.tail _ (.tail _ (.tail _ (.head _)))))).1 i2 q1' q2' fun f2 g2V ss2 e2 h5 tk5 k5 hf2n hf2 hss2 hc2 => ?_
  obtain ⟨F5, N5, A5⟩ := led_new F4 N4 A4 k5 hf2n hf2
  clear F4 N4 A4 k5 hf2n hf2
  dsimp only
  have ok1 : ∀ x ∈ ss1, PyData.strOk x = true := fun x hx => str_ok hc1 (plain3 t1) hx
  have ok2 : ∀ x ∈ ss2, PyData.strOk x = true := fun x hx => str_ok hc2 (plain3 t2) hx
  refine neStrs ⟨_, (N5 _ (.tail _ (.head _))).1, rfl, _, rfl⟩ ⟨_, (N5 _ (.head _)).1, rfl, _, rfl⟩ hss1 hss2 ok1 ok2 (by show un + 3 + 64 < _; omega) ?_
  rw [hc1, hc2]
  replace N5 := news_perm two_junk N5
  replace A5 := A5.perm two_junk
  clear hss1 hss2 ok1 ok2 hc1 hc2
  by_cases hf : formE u1 = formE u2
  · rw [decide_eq_true hf]
    have hdue : dueE u1 u2 row1 row2 way = 0 := if_pos hf
    rw [hdue] at done
    k_steps
    exact done h5 _ _ oW2 _ _ _ F5 N5 A5 hW2 mr rfl
  · rw [decide_eq_false hf]
    k_steps
    rename_i h6 F6 N6
    refine ltLists (N6 (p1, W.listOf v1.toArray n1) (.tail _ (.tail _ (.tail _ (.tail _ (.tail _ (.tail _ (.tail _ (.tail _ (.tail _ (.tail _ (.tail _ (.head _))))))))))))).1 (N6 (p2, W.listOf v2.toArray n2) (.tail _ (.tail _ (.tail _ (.tail _ (.tail _ (.tail _ (.tail _ (.tail _ (.tail _ (.tail _ (.head _)))))))))))).1 k1 k2 hrl (by show un + 3 < _; omega) ?_
    cases hlt : ltL row1 row2
    · have hdue : dueE u1 u2 row1 row2 way = way := by unfold dueE; rw [if_neg hf, hlt]; rfl
      rw [hdue] at done
      k_steps
      exact done h6 _ _ oW2 _ _ _ F6 N6 A5 hW2 mr rfl
    · have hdue : dueE u1 u2 row1 row2 way = -way := by unfold dueE; rw [if_neg hf, hlt]; rfl
      rw [hdue] at done
      k_steps
      rename_i h7 F7 N7
      exact done h7 _ _ oW2 _ _ _ F7 N7 A5 hW2 mr rfl
end Mine
end
section
open PySem PySem.W PySem.Calls PyProof.Rows PySem.Spec
set_option Elab.async false
set_option linter.unusedVariables false
set_option linter.unusedSimpArgs false
set_option maxRecDepth 100000
namespace Mine
open PyProof.Rows.LCg (NsObj ns_obj lst)
local macro_rules | `(tactic| walk_at "eval Name") => `(tactic| (k_here; k_dflt (refine' nameX_L ?F ?v ?_ ?a ?b; (case F => k_asm); (case a => rfl); (case b => rfl); (case v => assumption); k_whole)))
local macro_rules | `(tactic| walk_at "eval ListComp") => `(tactic| (k_here; rw [eval_ListComp]))
noncomputable abbrev tupI (i : Int) (way : Int) (t1 t2 : Tok) : Obj := { cls := .type "tuple", data := .seq #[.int i t1, .int way t2] }
/-- the tuples of the columns -/
inductive TuL (way : Int) : List Value → List (Addr × Obj) → Nat → Prop
  | nil : TuL way [] [] 0
  | cons (t : Addr) (t1 t2 : Tok) {V : List Value} {led : List (Addr × Obj)} {n : Nat} : TuL way V led n → TuL way (V ++ [.ref t]) ((t, tupI (n : Int) way t1 t2) :: led) (n + 1)
theorem TuL.len {way : Int} {V : List Value} {led : List (Addr × Obj)} {n : Nat} (x : TuL way V led n) : V.length = n := by induction x <;> simp_all
theorem TuL.get {way : Int} {V : List Value} {led : List (Addr × Obj)} {n : Nat} (x : TuL way V led n) : ∀ i, i < n → ∃ t t1 t2, V[i]? = some (.ref t) ∧ (t, tupI (i : Int) way t1 t2) ∈ led := by
  induction x with
  | nil => intro i h; exact absurd h (Nat.not_lt_zero _)
  | @cons t t1 t2 V led n x ih =>
    intro i h
    rcases Nat.lt_or_ge i n with hi | hi
    · obtain ⟨t', a, b, h1, h2⟩ := ih i hi
      exact ⟨t', a, b, by rw [List.getElem?_append_left (by rw [x.len]; exact hi)]; exact h1, .tail _ h2⟩
    · have e : i = n := by omega
      subst e
      exact ⟨t, t1, t2, by rw [List.getElem?_append_right (by rw [x.len]; exact Nat.le_refl _), x.len]; simp, .head _⟩
theorem small_le : ∀ n : Nat, n ≤ 60 → Builtin.Range.small 0 (n : Int) 1 = true ∧ Builtin.Range.rangeSize 0 (n : Int) 1 = ((n : Nat) : Int) := by decide
theorem hid_get {g h : Heap} {L x dx : Addr} {ox odx : Obj} {rest : List (Addr × Obj)} (N : News g L h ((x, ox) :: (dx, odx) :: rest)) (ap : Ap ((x, ox) :: (dx, odx) :: rest)) {p : Addr × Obj} (hp : p ∈ rest) : (hideAll h [x, dx]).get? p.1 = some p.2 := by
  refine hideAll_get _ (N p (.tail _ (.tail _ hp))).1 ?_
  simp only [List.mem_cons, List.not_mem_nil, or_false, not_or]
  exact ⟨ap.head _ (.tail _ hp), ap.tail.head _ hp⟩
set_option maxHeartbeats 4000000
theorem law_c11 {w : World} {dp un : Nat} {fr : Option (List Env)} {gd : Option (List Code)} {g : Heap} {s : Shared} {Q : Flow → Shared → Prop} {m : Str → Option Value} {R Dc tb two one D p1 p2 : Addr} {n e n1 n2 : Nat} {colsV v1 v2 : List Value} {cols row1 row2 : List Int} {otb ot o11 oD oW oC oO oS : Obj} {way due : Int} {td tw : Tok} {junk : List (Addr × Obj)}
    (hd : dp + 100 < recursionLimit) (hu : un + 1000 < cLine) (C : Cx w g) (F : Fr g g.objs.size s.heap m)
    (N : News g g.objs.size s.heap ((R, W.listOf [Value.ref p1, Value.ref p2].toArray n) :: (Dc, W.listOf colsV.toArray e) :: (tb, otb) :: (two, ot) :: (one, o11) :: (D, oD) :: (g.objs.size + 4, oW) :: (g.objs.size + 3, oC) :: (g.objs.size + 2, oO) :: (g.objs.size + 1, oS) :: (p2, W.listOf v2.toArray n2) :: (p1, W.listOf v1.toArray n1) :: junk))
    (ap : Ap ((R, W.listOf [Value.ref p1, Value.ref p2].toArray n) :: (Dc, W.listOf colsV.toArray e) :: (tb, otb) :: (two, ot) :: (one, o11) :: (D, oD) :: (g.objs.size + 4, oW) :: (g.objs.size + 3, oC) :: (g.objs.size + 2, oO) :: (g.objs.size + 1, oS) :: (p2, W.listOf v2.toArray n2) :: (p1, W.listOf v1.toArray n1) :: junk))
    (hC : oC.data = .cell (some (.ref Dc))) (hW : oW.data = .cell (some (.int way tw))) (mr : m (Str.ofString "rows") = some (.ref R)) (md : m (Str.ofString "due") = some (.int due td))
    (ic : IntsAre colsV cols) (hcl : cols.length ≤ 60) (k1 : IntsAre v1 row1) (k2 : IntsAre v2 row2) (hr1 : row1.length = cols.length) (hr2 : row2.length = cols.length) (hc1 : cmpE way row1 row2 = due) (hc2 : cmpE way row2 row1 = -due)
    (ret : ∀ h' tk', Sub g h' → Q (.ret (.bool true)) { s with heap := h', toks := tk' }) :
    wpAny (model PySem.Challenge.rw_zd0013_01.row.prog w) ((arA dp un fr gd).deeper (envOfC (Str.ofString "law") (fScope (stm 21)) g.objs.size 288 (Value.ref 287))) (exec (bs 21 11) (envOfC (Str.ofString "law") (fScope (stm 21)) g.objs.size 288 (Value.ref 287))) (fun f s' => match f with
        | Flow.next => wpAny (model PySem.Challenge.rw_zd0013_01.row.prog w) ((arA dp un fr gd).deeper (envOfC (Str.ofString "law") (fScope (stm 21)) g.objs.size 288 (Value.ref 287))) (execs [bs 21 12] (envOfC (Str.ofString "law") (fScope (stm 21)) g.objs.size 288 (Value.ref 287))) Q (fun x x_1 => False) s'
        | f => Q f s') (fun x x_1 => False) s := by
  have X := C.k
  obtain ⟨mean, mg, mb, Tp⟩ := id C.t
  revert X; k_fill; intro X
  conv in bs 21 11 => whnf
  k_steps
  refine evalComp (g := g) (L := g.objs.size) (m := m) (o0 := lst []) (cl := [(Str.ofString "way", g.objs.size + 4)]) rfl (fun s Q E q => wpAny_newObj_type q) (fun I C D => loop_L0) rfl (by intro _; rfl) (by with_unfolding_all rfl) (by decide) rfl (by decide) ?_
  show wpAny _ _ (eval (.Call _ _ _ _) _) _ _ _
  k_steps
  rename_i h2 tk2 ta tb' tc hr F2 N2 kk2
  obtain ⟨sm1, sm2⟩ := small_le cols.length hcl
  refine compRange (n := cols.length) (fun Cc Dd i news' => ∃ oCc mC ys tl, news' = (Cc, oCc) :: (Dd, lst ys) :: (R, W.listOf [Value.ref p1, Value.ref p2].toArray n) :: (Dc, W.listOf colsV.toArray e) :: (tb, otb) :: (two, ot) :: (one, o11) :: (D, oD) :: (g.objs.size + 4, oW) :: (g.objs.size + 3, oC) :: (g.objs.size + 2, oO) :: (g.objs.size + 1, oS) :: (p2, W.listOf v2.toArray n2) :: (p1, W.listOf v1.toArray n1) :: (tl ++ junk) ∧ Ap news' ∧ NsObj oCc mC ∧ TuL way ys tl i) rfl hr sm1 sm2 F2 N2 ?_ ?_ ?_
  · intro I Cc Dd oCc hoC q1 q2 q3 q4
    refine ⟨oCc, _, [], [], rfl, ?_, hoC, .nil⟩
    refine Ap.cons (Ap.cons ap fun p hp => Nat.ne_of_lt (q4 p hp)) fun p hp => ?_
    rcases List.mem_cons.mp hp with rfl | hp
    · exact Nat.ne_of_lt q1
    · exact Nat.ne_of_lt (Nat.lt_trans (q4 p hp) q1)
  · rintro I Cc Dd i u news₁ oit ⟨H, g1, g2, g3, g4⟩ hi ⟨oCc, mC, ys, tl, rfl, ap1, hoC, hys⟩ hne ⟨h7, tk7, e7⟩ F7 N7
    cases e7
    have e1i : (0 : Int) + (i : Int) = (i : Int) := by omega
    rw [e1i]
    have apI := ap1.cons hne (o := oit)
    unfold TL0
    refine compStore (pre := [(I, oit)]) rfl rfl F7 N7 (Ap.left (pre := [(I, oit)]) apI) (Ap.right (pre := [(I, oit)]) apI) hoC fun h8 tk8 oC8 F8 N8 hoC8 => ?_
    have ap8 : Ap ((I, oit) :: (Cc, oC8) :: (Dd, lst ys) :: (R, W.listOf [Value.ref p1, Value.ref p2].toArray n) :: (Dc, W.listOf colsV.toArray e) :: (tb, otb) :: (two, ot) :: (one, o11) :: (D, oD) :: (g.objs.size + 4, oW) :: (g.objs.size + 3, oC) :: (g.objs.size + 2, oO) :: (g.objs.size + 1, oS) :: (p2, W.listOf v2.toArray n2) :: (p1, W.listOf v1.toArray n1) :: (tl ++ junk)) := Ap.set (pre := [(I, oit)]) apI
    have hkv : (fun y => if y = Str.ofString "i" then some (Value.int (i : Int) u) else mC y) (Str.ofString "i") = some (.int (i : Int) u) := rfl
    generalize (fun y => if y = Str.ofString "i" then some (Value.int (i : Int) u) else mC y) = m8 at hoC8 hkv
    dsimp only
    k_steps
    rename_i tu h9 F9 N9 lt9
    have ap9 : Ap ((tu, tupI (i : Int) way u tw) :: (I, oit) :: (Cc, oC8) :: (Dd, lst ys) :: (R, W.listOf [Value.ref p1, Value.ref p2].toArray n) :: (Dc, W.listOf colsV.toArray e) :: (tb, otb) :: (two, ot) :: (one, o11) :: (D, oD) :: (g.objs.size + 4, oW) :: (g.objs.size + 3, oC) :: (g.objs.size + 2, oO) :: (g.objs.size + 1, oS) :: (p2, W.listOf v2.toArray n2) :: (p1, W.listOf v1.toArray n1) :: (tl ++ junk)) := ap8.cons fun p hp => Nat.ne_of_lt (lt9 p hp)
    refine compAppend (pre := [(tu, tupI (i : Int) way u tw), (I, oit), (Cc, oC8)]) (post := (R, W.listOf [Value.ref p1, Value.ref p2].toArray n) :: (Dc, W.listOf colsV.toArray e) :: (tb, otb) :: (two, ot) :: (one, o11) :: (D, oD) :: (g.objs.size + 4, oW) :: (g.objs.size + 3, oC) :: (g.objs.size + 2, oO) :: (g.objs.size + 1, oS) :: (p2, W.listOf v2.toArray n2) :: (p1, W.listOf v1.toArray n1) :: (tl ++ junk)) F9 N9 (Ap.left (pre := [(tu, tupI (i : Int) way u tw), (I, oit), (Cc, oC8)]) ap9) (Ap.right (pre := [(tu, tupI (i : Int) way u tw), (I, oit), (Cc, oC8)]) ap9) (Nat.le_trans (show ys.length ≤ 1000 by rw [hys.len]; omega) (by decide)) fun h10 F10 N10 => ?_
    have ap10 : Ap ((tu, tupI (i : Int) way u tw) :: (I, oit) :: (Cc, oC8) :: (Dd, lst (ys ++ [.ref tu])) :: (R, W.listOf [Value.ref p1, Value.ref p2].toArray n) :: (Dc, W.listOf colsV.toArray e) :: (tb, otb) :: (two, ot) :: (one, o11) :: (D, oD) :: (g.objs.size + 4, oW) :: (g.objs.size + 3, oC) :: (g.objs.size + 2, oO) :: (g.objs.size + 1, oS) :: (p2, W.listOf v2.toArray n2) :: (p1, W.listOf v1.toArray n1) :: (tl ++ junk)) := Ap.set (pre := [(tu, tupI (i : Int) way u tw), (I, oit), (Cc, oC8)]) ap9
    have N11 := news_perm row_perm2 N10
    have ap11 := Ap.perm row_perm2 ap10
    exact ⟨h10, _, _, rfl, F10, N11, ap11.head, oC8, _, ys ++ [.ref tu], (tu, tupI (i : Int) way u tw) :: tl, rfl, ap11.tail, hoC8, .cons tu u tw hys⟩
  · rintro Cc Dd news' ⟨oCc, mC, ys, tl, rfl, ap1, hoC, hys⟩
    refine ⟨oCc, mC, _, rfl, hoC, ap1.head, fun h11 tk11 F11 N11 => ?_⟩
    have ap2 := ap1.tail
    clear ap1 hoC oCc mC F2 N2 kk2 hr
    have X11 := X.keeps F11.keep
    dsimp only
    k_steps
    refine call_cls (K := K w.params) (fI := 76) F11 X N11 (by kernel_rfl) (by rfl) (by rfl) fun x dx h12 F12 N12 lt12 hxd => ?_
    have hx := (N12 _ (.head _)).1
    have hdx := (N12 _ (.tail _ (.head _))).1
    have gx := (N12 _ (.head _)).2.2
    have gdx := (N12 _ (.tail _ (.head _))).2.2
    have kg : Sub g (hideAll h12 [x, dx]) := sub_hide F12.keep (by intro a ha; simp only [List.mem_cons, List.not_mem_nil, or_false] at ha; rcases ha with rfl | rfl; exact gx; exact gdx)
    replace hxd := ltN hxd
    refine c_tinit (l := Dd) (C.sub kg) (by first | (show dp + 1 + 1 + 5 < _; omega) | (show dp + 1 + 0 + 5 < _; omega) | (show dp + 1 + 2 + 5 < _; omega)) (by first | (show un + 3 + 0 + 50 < _; omega) | (show un + 3 + 1 + 50 < _; omega) | (show un + 3 + 2 + 50 < _; omega) | (show un + 3 + 3 + 50 < _; omega) | (show un + 3 + 4 + 50 < _; omega)) hx hdx hxd fun tkn h13 tk13 k13 ex edx => ⟨rfl, ?_⟩
    have oth : ∀ (b : Addr) o, b ≠ x → b ≠ dx → h12.get? b = some o → h13.get? b = some o := fun b o q1 q2 q3 => k13 b o (hideAll_get _ q3 (by simp [q1, q2]))
    have F13 : Fr g g.objs.size h13 m := ⟨F12.ns.at' fun o q => oth _ o (N12 _ (.head _)).2.1.symm (N12 _ (.tail _ (.head _))).2.1.symm q, kg.trans k13, F12.above⟩
    have A13 : Ap ((x, instObj 86 dx) :: (dx, cmpD w tkn Dd) :: (Dd, lst ys) :: (R, W.listOf [Value.ref p1, Value.ref p2].toArray n) :: (Dc, W.listOf colsV.toArray e) :: (tb, otb) :: (two, ot) :: (one, o11) :: (D, oD) :: (g.objs.size + 4, oW) :: (g.objs.size + 3, oC) :: (g.objs.size + 2, oO) :: (g.objs.size + 1, oS) :: (p2, W.listOf v2.toArray n2) :: (p1, W.listOf v1.toArray n1) :: (tl ++ junk)) := (ap2.cons fun p hp => Nat.ne_of_lt (lt12 p hp)).cons fun p hp => by
      rcases List.mem_cons.mp hp with rfl | hp
      · exact Nat.ne_of_lt hxd
      · exact Nat.ne_of_lt (Nat.lt_trans (lt12 p hp) hxd)
    have N13 : News g g.objs.size h13 ((x, instObj 86 dx) :: (dx, cmpD w tkn Dd) :: (Dd, lst ys) :: (R, W.listOf [Value.ref p1, Value.ref p2].toArray n) :: (Dc, W.listOf colsV.toArray e) :: (tb, otb) :: (two, ot) :: (one, o11) :: (D, oD) :: (g.objs.size + 4, oW) :: (g.objs.size + 3, oC) :: (g.objs.size + 2, oO) :: (g.objs.size + 1, oS) :: (p2, W.listOf v2.toArray n2) :: (p1, W.listOf v1.toArray n1) :: (tl ++ junk)) := by
      intro p hp
      rcases List.mem_cons.mp hp with rfl | hp
      · exact ⟨ex, (N12 _ (.head _)).2⟩
      · rcases List.mem_cons.mp hp with rfl | hp
        · exact ⟨edx, (N12 _ (.tail _ (.head _))).2⟩
        · have q := N12 p (.tail _ (.tail _ hp))
          exact ⟨oth _ _ (Nat.ne_of_lt (Nat.lt_trans (lt12 p hp) hxd)) (Nat.ne_of_lt (lt12 p hp)) q.1, q.2⟩
    clear F12 N12 F11 N11 hx hdx gx gdx kg ap2 oth ex edx k13 lt12 X11
    dsimp only
    k_steps
    rename_i h14 F14 N14
    have mr14 : (fun y => if y = Str.ofString "judge" then some (Value.ref x) else m y) (Str.ofString "rows") = some (.ref R) := mr
    have md14 : (fun y => if y = Str.ofString "judge" then some (Value.ref x) else m y) (Str.ofString "due") = some (.int due td) := md
    have mj14 : (fun y => if y = Str.ofString "judge" then some (Value.ref x) else m y) (Str.ofString "judge") = some (.ref x) := rfl
    generalize (fun y => if y = Str.ofString "judge" then some (Value.ref x) else m y) = m14 at F14 mr14 md14 mj14
    clear mr md
    conv in bs 21 12 => whnf
    k_steps
    refine wpAny_call ?_
    refine c_compare (l := Dd) (vs := ys) (C.sub (sub_hide F14.keep (by intro a ha; simp only [List.mem_cons, List.not_mem_nil, or_false] at ha; rcases ha with rfl | rfl; exact (N14 _ (.head _)).2.2; exact (N14 _ (.tail _ (.head _))).2.2))) (by show dp + 1 + 5 < _; omega) (by first | (show un + 3 + 50 < _; omega) | (show un + 3 + 1 + 50 < _; omega) | (show un + 3 + 2 + 50 < _; omega))
      (N14 _ (.head _)).1 (N14 _ (.tail _ (.head _))).1 hxd (hid_get N14 A13 (.head _)) (hid_get N14 A13 (.tail _ (.tail _ (.tail _ (.tail _ (.tail _ (.tail _ (.tail _ (.tail _ (.tail _ (.tail _ (.tail _ (.tail _ (.head _)))))))))))))) (hid_get N14 A13 (.tail _ (.tail _ (.tail _ (.tail _ (.tail _ (.tail _ (.tail _ (.tail _ (.tail _ (.tail _ (.tail _ (.head _))))))))))))) k1 k2 (by omega) (by rw [hys.len]; omega) (by omega)
      (fun i hi => by
        obtain ⟨t, a1, a2, b1, b2⟩ := hys.get i (by rw [hys.len] at hi; exact hi)
        exact ⟨t, a1, a2, b1, hid_get N14 A13 (.tail _ (.tail _ (.tail _ (.tail _ (.tail _ (.tail _ (.tail _ (.tail _ (.tail _ (.tail _ (.tail _ (.tail _ (.tail _ (List.mem_append_left _ b2))))))))))))))⟩) fun t15 h15 tk15 k15 => ?_
    rw [hc1]
    have F15 := fr_sub F14 k15
    have N15 := news_sub N14 k15
    clear F14 N14 k15
    dsimp only
    k_steps
    · refine wpAny_call ?_
      refine c_compare (l := Dd) (vs := ys) (C.sub (sub_hide F15.keep (by intro a ha; simp only [List.mem_cons, List.not_mem_nil, or_false] at ha; rcases ha with rfl | rfl; exact (N15 _ (.head _)).2.2; exact (N15 _ (.tail _ (.head _))).2.2))) (by show dp + 1 + 5 < _; omega) (by first | (show un + 3 + 50 < _; omega) | (show un + 3 + 1 + 50 < _; omega) | (show un + 3 + 2 + 50 < _; omega))
        (N15 _ (.head _)).1 (N15 _ (.tail _ (.head _))).1 hxd (hid_get N15 A13 (.head _)) (hid_get N15 A13 (.tail _ (.tail _ (.tail _ (.tail _ (.tail _ (.tail _ (.tail _ (.tail _ (.tail _ (.tail _ (.tail _ (.head _))))))))))))) (hid_get N15 A13 (.tail _ (.tail _ (.tail _ (.tail _ (.tail _ (.tail _ (.tail _ (.tail _ (.tail _ (.tail _ (.tail _ (.tail _ (.head _)))))))))))))) k2 k1 (by omega) (by rw [hys.len]; omega) (by omega)
        (fun i hi => by
          obtain ⟨t, a1, a2, b1, b2⟩ := hys.get i (by rw [hys.len] at hi; exact hi)
          exact ⟨t, a1, a2, b1, hid_get N15 A13 (.tail _ (.tail _ (.tail _ (.tail _ (.tail _ (.tail _ (.tail _ (.tail _ (.tail _ (.tail _ (.tail _ (.tail _ (.tail _ (List.mem_append_left _ b2))))))))))))))⟩) fun t16 h16 tk16 k16 => ?_
      rw [hc2]
      have F16 := fr_sub F15 k16
      have N16 := news_sub N15 k16
      clear F15 N15 k16
      dsimp only
      k_steps
      rw [beq_self_eq_true]
      exact ret _ _ F16.keep
    · rw [beq_self_eq_true]
      exact ret _ _ F15.keep
end Mine
end
section
open PySem PySem.W PySem.Calls PyProof.Rows PySem.Spec
set_option Elab.async false
set_option linter.unusedVariables false
set_option maxRecDepth 100000
namespace Mine
theorem look_none : ∀ {T : List (Int × Int)} {k : Int}, k ∉ T.map (·.1) → ilook T k = none
  | [], k, _ => rfl
  | (a, b) :: T, k, h => by
    rw [List.map_cons, List.mem_cons, not_or] at h
    have e : ilook ((a, b) :: T) k = ilook T k := by
      unfold ilook
      rw [List.find?_cons_of_neg (by simpa using fun q => h.1 (Eq.symm q))]
    rw [e]; exact look_none h.2
theorem good_gt {u : List Nat} {T : List (Int × Int)} (hG : Good u T) (k : Int) : gt T k = (ilook (prunE (intsOf u)) k).getD 0 := by
  unfold gt; rw [hG.1]
theorem rows_iff {u1 u2 : List Nat} {T1 T2 : List (Int × Int)} {cols : List Int} (t1 : Tree u1) (t2 : Tree u2) (g1 : Good u1 T1) (g2 : Good u2 T2) (hc : ∀ k, k ∈ cols ↔ k ∈ T1.map (·.1) ∨ k ∈ T2.map (·.1)) :
    rowOf cols T1 = rowOf cols T2 ↔ formE u1 = formE u2 := by
  rw [plain2 t1 t2]
  unfold rowOf
  rw [List.map_inj_left]
  constructor
  · intro h k
    rw [← good_gt g1, ← good_gt g2]
    by_cases hk : k ∈ cols
    · exact h k hk
    · rw [hc, not_or] at hk
      unfold gt
      rw [look_none hk.1, look_none hk.2]
  · intro h k _
    rw [good_gt g1, good_gt g2]
    exact h k
theorem cmp_lt (way : Int) : ∀ {as bs : List Int}, as.length = bs.length → cmpE way as bs = if as = bs then 0 else if ltL as bs = true then -way else way
  | [], [], _ => by simp [cmpE]
  | [], b :: bs, h => by simp at h
  | a :: as, [], h => by simp at h
  | a :: as, b :: bs, h => by
    have ih := cmp_lt way (as := as) (bs := bs) (by simpa using h)
    unfold cmpE ltL
    by_cases e : a = b
    · subst e
      rw [if_neg (Int.lt_irrefl _), if_neg (Int.lt_irrefl _), ih]
      simp
    · rcases Int.lt_or_gt_of_ne e with q | q
      · rw [if_pos q, if_neg (by simp [e]), if_neg e, if_pos (decide_eq_true q)]
      · rw [if_neg (by omega), if_pos q, if_neg (by simp [e]), if_neg e, if_neg (by simp; omega)]
theorem cmp_rev (way : Int) : ∀ {as bs : List Int}, as.length = bs.length → cmpE way bs as = - cmpE way as bs
  | [], [], _ => by simp [cmpE]
  | [], b :: bs, h => by simp at h
  | a :: as, [], h => by simp at h
  | a :: as, b :: bs, h => by
    have ih := cmp_rev way (as := as) (bs := bs) (by simpa using h)
    unfold cmpE
    rcases Int.lt_trichotomy a b with q | q | q
    · rw [if_pos q, if_neg (by omega), if_pos q]; omega
    · subst q
      simp only [Int.lt_irrefl, if_false]
      exact ih
    · rw [if_pos q, if_neg (by omega), if_pos q]
theorem due_is {u1 u2 : List Nat} {T1 T2 : List (Int × Int)} {cols : List Int} (way : Int) (t1 : Tree u1) (t2 : Tree u2) (g1 : Good u1 T1) (g2 : Good u2 T2) (hc : ∀ k, k ∈ cols ↔ k ∈ T1.map (·.1) ∨ k ∈ T2.map (·.1)) :
    cmpE way (rowOf cols T1) (rowOf cols T2) = dueE u1 u2 (rowOf cols T1) (rowOf cols T2) way ∧ cmpE way (rowOf cols T2) (rowOf cols T1) = - dueE u1 u2 (rowOf cols T1) (rowOf cols T2) way := by
  have hl : (rowOf cols T1).length = (rowOf cols T2).length := by unfold rowOf; rw [List.length_map, List.length_map]
  have h1 : cmpE way (rowOf cols T1) (rowOf cols T2) = dueE u1 u2 (rowOf cols T1) (rowOf cols T2) way := by
    rw [cmp_lt way hl]
    unfold dueE
    have hi := rows_iff t1 t2 g1 g2 hc
    by_cases e : rowOf cols T1 = rowOf cols T2
    · rw [if_pos e, if_pos (hi.mp e)]
    · rw [if_neg e, if_neg (fun q => e (hi.mpr q))]
  exact ⟨h1, by rw [cmp_rev way hl, h1]⟩
theorem fin_perm {a1 a2 a3 a4 a5 a6 a7 a8 a9 a10 r2 r1 p2 p1 : Addr × Obj} {junk : List (Addr × Obj)} :
    (a1 :: a2 :: a3 :: a4 :: a5 :: a6 :: a7 :: a8 :: a9 :: a10 :: r2 :: r1 :: ([p2, p1] ++ junk)).Perm (a1 :: a2 :: a3 :: a4 :: a5 :: a6 :: a7 :: a8 :: a9 :: a10 :: p2 :: p1 :: (r2 :: r1 :: junk)) :=
  (List.perm_append_comm_assoc [r2, r1] [p2, p1] junk).append_left [a1, a2, a3, a4, a5, a6, a7, a8, a9, a10]
set_option maxHeartbeats 4000000
theorem law_all {w : World} {dp un : Nat} {fr : Option (List Env)} {gd : Option (List Code)} {s : Shared} {Q E : Value → Shared → Prop} {S : Addr} {us : List Value} {sc : List Int}
    (hd : dp + 100 < recursionLimit) (hu : un + 1000 < cLine) (C : Cx w s.heap) (hS : s.heap.IsList S us.toArray) (iS : IntsAre us sc) (hl : sc.length ≤ 63)
    (ret : ∀ (h' : Heap) (tk' : Nat) (d' : Drawn), Sub s.heap h' → Q (.bool true) { heap := h', gens := s.gens, drawn := d', toks := tk', os := s.os }) :
    wpAny (MW w) (arA dp un fr gd) (call (.ref 288) [.ref S]) Q E s := by
  refine law_a hd hu C hS iS hl ?_
  intro h tk m tb two one D twoV oneV ys ny sd u1 u2 oW oC oO oS F N ap hW hC mt m2 m1 ms i1 i2 t1 t2 is hsl
  refine law_b hd hu C F N ap mt m2 m1 ms i1 i2 t1 t2 is hsl ?_
  intro h2 tk2 m2' tabsV nt led junk F2 N2 ap2 hT mt2 mtwo2 mone2 ms2
  obtain ⟨r1, o1, T1, r2, o2, T2, rfl, rfl, hi1, hi2, G1, G2, s1, s2⟩ := hT.two
  dsimp only
  refine wpAny_execs_cons ?_
  refine law_c6 hu C F2 N2 ap2 hC mt2 hi1 hi2 s1 s2 G1.2.2.2.1 G2.2.2.2.1 ?_
  intro h3 tk3 d3 cols colsV e Dc oC3 F3 N3 ap3 hC3 icols hcm hcl
  dsimp only
  refine wpAny_execs_cons ?_
  refine law_c7 hu C F3 N3 ap3 hC3 mt2 hi1 hi2 s1 s2 icols hcl ?_
  intro h4 tk4 R rowsV n4 rl F4 N4 ap4 hR
  obtain ⟨p1, v1, n1, p2, v2, n2, rfl, rfl, k1, k2⟩ := hR.two
  replace N4 := news_perm fin_perm N4
  replace ap4 := Ap.perm fin_perm ap4
  have mr4 : (fun z => if z = Str.ofString "rows" then some (Value.ref R) else m2' z) (Str.ofString "rows") = some (.ref R) := rfl
  have mo4 : (fun z => if z = Str.ofString "rows" then some (Value.ref R) else m2' z) (Str.ofString "one") = some (.ref one) := mone2
  have mt4 : (fun z => if z = Str.ofString "rows" then some (Value.ref R) else m2' z) (Str.ofString "two") = some (.ref two) := mtwo2
  have ms4 : (fun z => if z = Str.ofString "rows" then some (Value.ref R) else m2' z) (Str.ofString "seeds") = some (.ref D) := ms2
  generalize (fun z => if z = Str.ofString "rows" then some (Value.ref R) else m2' z) = m4 at F4 mr4 mo4 mt4 ms4
  have hrl : (rowOf cols T1).length = (rowOf cols T2).length := by unfold rowOf; rw [List.length_map, List.length_map]
  have hrl1 : (rowOf cols T1).length = cols.length := by unfold rowOf; rw [List.length_map]
  dsimp only
  refine law_c8 hd hu C F4 N4 ap4 hW mr4 mo4 mt4 ms4 i1 i2 t1 t2 is hsl k1 k2 hrl ?_
  intro h5 tk5 m5 oW5 t tw junk5 F5 N5 ap5 hW5 mr5 md5
  obtain ⟨c1, c2⟩ := due_is (wayOf (sd.getD 7 0)) t1 t2 G1 G2 hcm
  refine law_c11 hd hu C F5 N5 ap5 hC3 hW5 mr5 md5 icols hcl k1 k2 hrl1 (hrl.symm.trans hrl1) c1 c2 ?_
  intro h6 tk6 k6
  exact ret h6 tk6 d3 k6
end Mine
end
section
open PySem PySem.W PySem.Calls PyProof.Rows
set_option Elab.async false
set_option linter.unusedVariables false
set_option maxRecDepth 1000000
set_option maxHeartbeats 8000000
namespace Mine
theorem law_at {w : World} {h : Heap} {mg : Str → Option Value} (X : (K w.params).In h) (g : h.Ns mainGlobals mg) : mg (Str.ofString "law") = some (.ref 288) := by
  obtain ⟨o, es, ep, ho, hd, hk, hf⟩ := g
  have e : h.get? 3 = some (o3 w.params) := X 3 (o3 w.params) (by rfl)
  have e2 : h.get? 3 = some o := ho
  rw [e] at e2
  have e3 := Option.some.inj e2
  subst e3
  rw [← hf]
  have h2 : es = (match (o3 w.params).data with | .dict es _ => es | _ => #[]) := by rw [hd]
  rw [h2]
  rfl
theorem hc_done {w : World} {s₀ s₁ : Shared} {mg mb : Str → Option Value} {mean : ExcName → Option Value} {fa : Addr} {args : List WData} {vals : List Value} {as : List Addr}
  (KX : (K w.params).In s₁.heap) (T : Top qv (looseW qv lsv) mean mg mb s₁.heap) (hmg : mg (Str.ofString "law") = some (.ref fa)) (hg : s₁.gens = #[])
  (hpre : PySem.Challenge.rw_zd0013_01.row.claim.pre args = true) (hlay : WData.layableAll args = true)
  (hrd : ReadsAllW PySem.Challenge.rw_zd0013_01.row.records (classAt s₀.heap) s₁.heap vals args as)
  (hwl : WellAll w.params s₁.heap vals args)
  (hlo : ∀ (a : Addr), a ∈ as → (a == sysModules) = false) :
  wpAny (model PySem.Challenge.rw_zd0013_01.row.prog w) callerA (call (.ref fa) vals)
    (fun v s' => GoodWG PySem.Challenge.rw_zd0013_01.row.claim (classAt s₀.heap) (ExcName.means s₀.heap) args s₁ (Except.ok (Flow.ret v)) s')
    (fun e s' => GoodWG PySem.Challenge.rw_zd0013_01.row.claim (classAt s₀.heap) (ExcName.means s₀.heap) args s₁ (Except.error e) s') s₁ := by
  rw [law_at KX T.g] at hmg
  cases hmg
  wrow_args hpre hlay hrd hwl hlo
  rename_i ns _ _ _ _ _ _ _ S us _ hL _ _ _ hI _ hlen _
  refine law_all (dp := 1 + claimMargin) (un := 4) (fr := some []) (gd := some []) (by decide) (by decide) ⟨KX, _, _, _, T⟩ hL hI (by omega) ?_
  intro h' tk' d' k
  refine ⟨.inl ⟨.bool true, .bool true, [], rfl, raisesW_false ?_, .bool true, ?_, fun _ => ⟨.nil, fun _ ha => nomatch ha⟩⟩, .of_keep k, rfl, .of_eq hg⟩
  · wrow_none_raised
  · wrow_post
end Mine
end
section
open PySem PySem.W PySem.Calls PyProof.Rows
set_option Elab.async false
set_option maxRecDepth 1000000
namespace Mine
noncomputable abbrev RL := PySem.Challenge.rw_zd0013_01
theorem said_look : looksOpen RL.row.prog = true := by
  unfold looksOpen
  repeat' (with_reducible refine look_both ?_ ?_)
  all_goals decide +kernel
theorem said_part : RL.row.partSaid = true := by
  unfold OpenRow.partSaid
  repeat' (with_reducible refine look_both ?_ ?_)
  all_goals first | with_reducible exact said_look | decide +kernel
theorem said_row : RL.row.wellSaid = true := by
  unfold OpenRow.wellSaid
  repeat' (with_reducible refine look_both ?_ ?_)
  all_goals first | with_reducible exact said_part | decide +kernel
theorem said_law : RL.wellSaid = true := by
  unfold OpenLaw.wellSaid
  repeat' (with_reducible refine look_both ?_ ?_)
  all_goals first | with_reducible exact said_row | decide +kernel
end Mine
end
open PySem PySem.W PySem.Calls PyProof.Rows Mine
set_option Elab.async false
set_option linter.unusedVariables false
set_option maxRecDepth 1000000
set_option maxHeartbeats 8000000
theorem PySem.Challenge.cw_zd0013_01_holds : PySem.Challenge.rw_zd0013_01.Holds := by
  w_on
  refine holds_law said_law fun said => ?_
  refine holds_open (q := qv) (loose := lsv) (Xt := XtL) (XP := XL qv []) (Yf := HK.obs) (Ya := HK.val) (YP := HK.says) (N := 4834) left HK.of HK.keeps (fun s e => xl_of s (Bool.and_eq_true_iff.mp e).1) XL.keeps (by rfl) (by rfl) (by rfl) (fun s e => recFacts_of (Bool.and_eq_true_iff.mp e).2) (by rfl) (by first | assumption | decide +kernel) (by decide +kernel) ⟨rfl, rfl, rfl, rfl, rfl, by decide +kernel⟩ ?hw ?hc
  case hw => w_witness2
  intro w s₀ s₁ mg mb G Y fa o pm cd doc dV kV ho hd hcd hD hmg hg args vals as hpre hlay hrd hwl hlo
  have KX := kIn_of Y
  refine Ground.open G ?_
  intro T B D TE TW
  exact hc_done KX T hmg hg hpre hlay hrd hwl hlo
