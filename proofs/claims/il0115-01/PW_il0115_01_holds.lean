import PyProof.Rows.All
import Wide.All
import OpenK.AllK
import Wide.FinOn
import Lean
import PySem.Challenge.RW_il0115_01
open PySem PySem.W PyProof.Rows
set_option Elab.async false
set_option maxRecDepth 100000
open PySem.Calls
namespace Mine
section
open PySem PySem.W PyProof.Rows
set_option linter.unusedVariables false
/-- the program, and the parts of it that the run's states name -/
noncomputable abbrev PW : Program := PySem.Challenge.rw_il0115_01.row.toRowW.prog
noncomputable abbrev bodL : List Stmt := behindTheImports PW
noncomputable def stOf (i : Nat) : Stmt := (bodL[i]?).getD (.Pass ⟨0, 0, 0, 0⟩)
noncomputable def inOf (i j : Nat) : Stmt := match stOf i with
  | .ClassDef _ _ _ b _ _ _ _ _ _ _ => (b[j]?).getD (.Pass ⟨0, 0, 0, 0⟩)
  | s => s
noncomputable def parOf : Stmt → Arguments
  | .FunctionDef _ a _ _ _ _ _ _ _ _ => a
  | _ => default
noncomputable def bodOf : Stmt → List Stmt
  | .FunctionDef _ _ b _ _ _ _ _ _ _ => b
  | _ => []
noncomputable def scoOf : Stmt → Scope
  | .FunctionDef _ _ _ _ _ _ s _ _ _ => s
  | _ => default

noncomputable def q0 (P : Params) : Obj := ⟨(.type "dict"), none, (.dict ⟨[⟨PyData.keyHash P (.ofString "__name__"), (.str (.ofString "__name__") 1), (.str (.ofString "builtins") 160)⟩, ⟨PyData.keyHash P (.ofString "__doc__"), (.str (.ofString "__doc__") 2), (.builtin "builtins.__doc__:str#opaque")⟩, ⟨PyData.keyHash P (.ofString "__package__"), (.str (.ofString "__package__") 3), (.builtin "builtins.__package__:str#opaque")⟩, ⟨PyData.keyHash P (.ofString "__loader__"), (.str (.ofString "__loader__") 4), (.builtin "builtins.__loader__:shared#opaque")⟩, ⟨PyData.keyHash P (.ofString "__spec__"), (.str (.ofString "__spec__") 5), (.builtin "builtins.__spec__#opaque")⟩, ⟨PyData.keyHash P (.ofString "__build_class__"), (.str (.ofString "__build_class__") 6), (.builtin "__build_class__")⟩, ⟨PyData.keyHash P ⟨⟨[95, 95, 105, 109, 112, 111, 114, 116, 95, 95]⟩⟩, (.str ⟨⟨[95, 95, 105, 109, 112, 111, 114, 116, 95, 95]⟩⟩ 7), (.builtin "__import__")⟩, ⟨PyData.keyHash P (.ofString "abs"), (.str (.ofString "abs") 8), (.builtin "abs")⟩, ⟨PyData.keyHash P (.ofString "all"), (.str (.ofString "all") 9), (.builtin "all")⟩, ⟨PyData.keyHash P (.ofString "any"), (.str (.ofString "any") 10), (.builtin "any")⟩, ⟨PyData.keyHash P (.ofString "ascii"), (.str (.ofString "ascii") 11), (.builtin "ascii")⟩, ⟨PyData.keyHash P (.ofString "bin"), (.str (.ofString "bin") 12), (.builtin "bin")⟩, ⟨PyData.keyHash P (.ofString "breakpoint"), (.str (.ofString "breakpoint") 13), (.builtin "breakpoint")⟩, ⟨PyData.keyHash P (.ofString "callable"), (.str (.ofString "callable") 14), (.builtin "callable")⟩, ⟨PyData.keyHash P (.ofString "chr"), (.str (.ofString "chr") 15), (.builtin "chr")⟩, ⟨PyData.keyHash P (.ofString "compile"), (.str (.ofString "compile") 16), (.builtin "compile")⟩, ⟨PyData.keyHash P (.ofString "delattr"), (.str (.ofString "delattr") 17), (.builtin "delattr")⟩, ⟨PyData.keyHash P (.ofString "dir"), (.str (.ofString "dir") 18), (.builtin "dir")⟩, ⟨PyData.keyHash P (.ofString "divmod"), (.str (.ofString "divmod") 19), (.builtin "divmod")⟩, ⟨PyData.keyHash P (.ofString "eval"), (.str (.ofString "eval") 20), (.builtin "eval")⟩, ⟨PyData.keyHash P (.ofString "exec"), (.str (.ofString "exec") 21), (.builtin "exec")⟩, ⟨PyData.keyHash P (.ofString "format"), (.str (.ofString "format") 22), (.builtin "format")⟩, ⟨PyData.keyHash P (.ofString "getattr"), (.str (.ofString "getattr") 23), (.builtin "getattr")⟩, ⟨PyData.keyHash P (.ofString "globals"), (.str (.ofString "globals") 24), (.builtin "globals")⟩, ⟨PyData.keyHash P (.ofString "hasattr"), (.str (.ofString "hasattr") 25), (.builtin "hasattr")⟩, ⟨PyData.keyHash P (.ofString "hash"), (.str (.ofString "hash") 26), (.builtin "hash")⟩, ⟨PyData.keyHash P (.ofString "hex"), (.str (.ofString "hex") 27), (.builtin "hex")⟩, ⟨PyData.keyHash P (.ofString "id"), (.str (.ofString "id") 28), (.builtin "id")⟩, ⟨PyData.keyHash P (.ofString "input"), (.str (.ofString "input") 29), (.builtin "input")⟩, ⟨PyData.keyHash P (.ofString "isinstance"), (.str (.ofString "isinstance") 30), (.builtin "isinstance")⟩, ⟨PyData.keyHash P (.ofString "issubclass"), (.str (.ofString "issubclass") 31), (.builtin "issubclass")⟩, ⟨PyData.keyHash P (.ofString "iter"), (.str (.ofString "iter") 32), (.builtin "iter")⟩, ⟨PyData.keyHash P (.ofString "aiter"), (.str (.ofString "aiter") 33), (.builtin "aiter")⟩, ⟨PyData.keyHash P (.ofString "len"), (.str (.ofString "len") 34), (.builtin "len")⟩, ⟨PyData.keyHash P (.ofString "locals"), (.str (.ofString "locals") 35), (.builtin "locals")⟩, ⟨PyData.keyHash P (.ofString "max"), (.str (.ofString "max") 36), (.builtin "max")⟩, ⟨PyData.keyHash P (.ofString "min"), (.str (.ofString "min") 37), (.builtin "min")⟩, ⟨PyData.keyHash P (.ofString "next"), (.str (.ofString "next") 38), (.builtin "next")⟩, ⟨PyData.keyHash P (.ofString "anext"), (.str (.ofString "anext") 39), (.builtin "anext")⟩, ⟨PyData.keyHash P (.ofString "oct"), (.str (.ofString "oct") 40), (.builtin "oct")⟩, ⟨PyData.keyHash P (.ofString "ord"), (.str (.ofString "ord") 41), (.builtin "ord")⟩, ⟨PyData.keyHash P (.ofString "pow"), (.str (.ofString "pow") 42), (.builtin "pow")⟩, ⟨PyData.keyHash P (.ofString "print"), (.str (.ofString "print") 43), (.builtin "print")⟩, ⟨PyData.keyHash P (.ofString "repr"), (.str (.ofString "repr") 44), (.builtin "repr")⟩, ⟨PyData.keyHash P (.ofString "round"), (.str (.ofString "round") 45), (.builtin "round")⟩, ⟨PyData.keyHash P (.ofString "setattr"), (.str (.ofString "setattr") 46), (.builtin "setattr")⟩, ⟨PyData.keyHash P (.ofString "sorted"), (.str (.ofString "sorted") 47), (.builtin "sorted")⟩, ⟨PyData.keyHash P (.ofString "sum"), (.str (.ofString "sum") 48), (.builtin "sum")⟩, ⟨PyData.keyHash P (.ofString "vars"), (.str (.ofString "vars") 49), (.builtin "vars")⟩, ⟨PyData.keyHash P (.ofString "None"), (.str (.ofString "None") 50), .none⟩, ⟨PyData.keyHash P (.ofString "Ellipsis"), (.str (.ofString "Ellipsis") 51), .ellipsis⟩, ⟨PyData.keyHash P (.ofString "NotImplemented"), (.str (.ofString "NotImplemented") 52), .notImplemented⟩, ⟨PyData.keyHash P (.ofString "False"), (.str (.ofString "False") 53), (.bool false)⟩, ⟨PyData.keyHash P (.ofString "True"), (.str (.ofString "True") 54), (.bool true)⟩, ⟨PyData.keyHash P (.ofString "bool"), (.str (.ofString "bool") 55), (.type "bool")⟩, ⟨PyData.keyHash P (.ofString "memoryview"), (.str (.ofString "memoryview") 56), (.type "memoryview")⟩, ⟨PyData.keyHash P (.ofString "bytearray"), (.str (.ofString "bytearray") 57), (.type "bytearray")⟩, ⟨PyData.keyHash P (.ofString "bytes"), (.str (.ofString "bytes") 58), (.type "bytes")⟩, ⟨PyData.keyHash P (.ofString "classmethod"), (.str (.ofString "classmethod") 59), (.type "classmethod")⟩, ⟨PyData.keyHash P (.ofString "complex"), (.str (.ofString "complex") 60), (.type "complex")⟩, ⟨PyData.keyHash P (.ofString "dict"), (.str (.ofString "dict") 61), (.type "dict")⟩, ⟨PyData.keyHash P (.ofString "enumerate"), (.str (.ofString "enumerate") 62), (.type "enumerate")⟩, ⟨PyData.keyHash P (.ofString "filter"), (.str (.ofString "filter") 63), (.type "filter")⟩, ⟨PyData.keyHash P (.ofString "float"), (.str (.ofString "float") 64), (.type "float")⟩, ⟨PyData.keyHash P (.ofString "frozenset"), (.str (.ofString "frozenset") 65), (.type "frozenset")⟩, ⟨PyData.keyHash P (.ofString "property"), (.str (.ofString "property") 66), (.type "property")⟩, ⟨PyData.keyHash P (.ofString "int"), (.str (.ofString "int") 67), (.type "int")⟩, ⟨PyData.keyHash P (.ofString "list"), (.str (.ofString "list") 68), (.type "list")⟩, ⟨PyData.keyHash P (.ofString "map"), (.str (.ofString "map") 69), (.type "map")⟩, ⟨PyData.keyHash P (.ofString "object"), (.str (.ofString "object") 70), (.type "object")⟩, ⟨PyData.keyHash P (.ofString "range"), (.str (.ofString "range") 71), (.type "range")⟩, ⟨PyData.keyHash P (.ofString "reversed"), (.str (.ofString "reversed") 72), (.type "reversed")⟩, ⟨PyData.keyHash P (.ofString "set"), (.str (.ofString "set") 73), (.type "set")⟩, ⟨PyData.keyHash P (.ofString "slice"), (.str (.ofString "slice") 74), (.type "slice")⟩, ⟨PyData.keyHash P (.ofString "staticmethod"), (.str (.ofString "staticmethod") 75), (.type "staticmethod")⟩, ⟨PyData.keyHash P (.ofString "str"), (.str (.ofString "str") 76), (.type "str")⟩, ⟨PyData.keyHash P (.ofString "super"), (.str (.ofString "super") 77), (.type "super")⟩, ⟨PyData.keyHash P (.ofString "tuple"), (.str (.ofString "tuple") 78), (.type "tuple")⟩, ⟨PyData.keyHash P (.ofString "type"), (.str (.ofString "type") 79), (.type "type")⟩, ⟨PyData.keyHash P (.ofString "zip"), (.str (.ofString "zip") 80), (.type "zip")⟩, ⟨PyData.keyHash P (.ofString "__debug__"), (.str (.ofString "__debug__") 81), (.bool true)⟩, ⟨PyData.keyHash P (.ofString "BaseException"), (.str (.ofString "BaseException") 82), (.type "BaseException")⟩, ⟨PyData.keyHash P (.ofString "BaseExceptionGroup"), (.str (.ofString "BaseExceptionGroup") 83), (.type "BaseExceptionGroup")⟩, ⟨PyData.keyHash P (.ofString "Exception"), (.str (.ofString "Exception") 84), (.type "Exception")⟩, ⟨PyData.keyHash P (.ofString "GeneratorExit"), (.str (.ofString "GeneratorExit") 85), (.type "GeneratorExit")⟩, ⟨PyData.keyHash P (.ofString "KeyboardInterrupt"), (.str (.ofString "KeyboardInterrupt") 86), (.type "KeyboardInterrupt")⟩, ⟨PyData.keyHash P (.ofString "SystemExit"), (.str (.ofString "SystemExit") 87), (.type "SystemExit")⟩, ⟨PyData.keyHash P (.ofString "ArithmeticError"), (.str (.ofString "ArithmeticError") 88), (.type "ArithmeticError")⟩, ⟨PyData.keyHash P (.ofString "AssertionError"), (.str (.ofString "AssertionError") 89), (.type "AssertionError")⟩, ⟨PyData.keyHash P (.ofString "AttributeError"), (.str (.ofString "AttributeError") 90), (.type "AttributeError")⟩, ⟨PyData.keyHash P (.ofString "BufferError"), (.str (.ofString "BufferError") 91), (.type "BufferError")⟩, ⟨PyData.keyHash P (.ofString "EOFError"), (.str (.ofString "EOFError") 92), (.type "EOFError")⟩, ⟨PyData.keyHash P (.ofString "ImportError"), (.str (.ofString "ImportError") 93), (.type "ImportError")⟩, ⟨PyData.keyHash P (.ofString "LookupError"), (.str (.ofString "LookupError") 94), (.type "LookupError")⟩, ⟨PyData.keyHash P (.ofString "MemoryError"), (.str (.ofString "MemoryError") 95), (.type "MemoryError")⟩, ⟨PyData.keyHash P (.ofString "NameError"), (.str (.ofString "NameError") 96), (.type "NameError")⟩, ⟨PyData.keyHash P (.ofString "OSError"), (.str (.ofString "OSError") 97), (.type "OSError")⟩, ⟨PyData.keyHash P (.ofString "ReferenceError"), (.str (.ofString "ReferenceError") 98), (.type "ReferenceError")⟩, ⟨PyData.keyHash P (.ofString "RuntimeError"), (.str (.ofString "RuntimeError") 99), (.type "RuntimeError")⟩, ⟨PyData.keyHash P (.ofString "StopAsyncIteration"), (.str (.ofString "StopAsyncIteration") 100), (.type "StopAsyncIteration")⟩, ⟨PyData.keyHash P (.ofString "StopIteration"), (.str (.ofString "StopIteration") 101), (.type "StopIteration")⟩, ⟨PyData.keyHash P (.ofString "SyntaxError"), (.str (.ofString "SyntaxError") 102), (.type "SyntaxError")⟩, ⟨PyData.keyHash P (.ofString "SystemError"), (.str (.ofString "SystemError") 103), (.type "SystemError")⟩, ⟨PyData.keyHash P (.ofString "TypeError"), (.str (.ofString "TypeError") 104), (.type "TypeError")⟩, ⟨PyData.keyHash P (.ofString "ValueError"), (.str (.ofString "ValueError") 105), (.type "ValueError")⟩, ⟨PyData.keyHash P (.ofString "Warning"), (.str (.ofString "Warning") 106), (.type "Warning")⟩, ⟨PyData.keyHash P (.ofString "FloatingPointError"), (.str (.ofString "FloatingPointError") 107), (.type "FloatingPointError")⟩, ⟨PyData.keyHash P (.ofString "OverflowError"), (.str (.ofString "OverflowError") 108), (.type "OverflowError")⟩, ⟨PyData.keyHash P (.ofString "ZeroDivisionError"), (.str (.ofString "ZeroDivisionError") 109), (.type "ZeroDivisionError")⟩, ⟨PyData.keyHash P (.ofString "BytesWarning"), (.str (.ofString "BytesWarning") 110), (.type "BytesWarning")⟩, ⟨PyData.keyHash P (.ofString "DeprecationWarning"), (.str (.ofString "DeprecationWarning") 111), (.type "DeprecationWarning")⟩, ⟨PyData.keyHash P (.ofString "EncodingWarning"), (.str (.ofString "EncodingWarning") 112), (.type "EncodingWarning")⟩, ⟨PyData.keyHash P (.ofString "FutureWarning"), (.str (.ofString "FutureWarning") 113), (.type "FutureWarning")⟩, ⟨PyData.keyHash P (.ofString "ImportWarning"), (.str (.ofString "ImportWarning") 114), (.type "ImportWarning")⟩, ⟨PyData.keyHash P (.ofString "PendingDeprecationWarning"), (.str (.ofString "PendingDeprecationWarning") 115), (.type "PendingDeprecationWarning")⟩, ⟨PyData.keyHash P (.ofString "ResourceWarning"), (.str (.ofString "ResourceWarning") 116), (.type "ResourceWarning")⟩, ⟨PyData.keyHash P (.ofString "RuntimeWarning"), (.str (.ofString "RuntimeWarning") 117), (.type "RuntimeWarning")⟩, ⟨PyData.keyHash P (.ofString "SyntaxWarning"), (.str (.ofString "SyntaxWarning") 118), (.type "SyntaxWarning")⟩, ⟨PyData.keyHash P (.ofString "UnicodeWarning"), (.str (.ofString "UnicodeWarning") 119), (.type "UnicodeWarning")⟩, ⟨PyData.keyHash P (.ofString "UserWarning"), (.str (.ofString "UserWarning") 120), (.type "UserWarning")⟩, ⟨PyData.keyHash P (.ofString "BlockingIOError"), (.str (.ofString "BlockingIOError") 121), (.type "BlockingIOError")⟩, ⟨PyData.keyHash P (.ofString "ChildProcessError"), (.str (.ofString "ChildProcessError") 122), (.type "ChildProcessError")⟩, ⟨PyData.keyHash P (.ofString "ConnectionError"), (.str (.ofString "ConnectionError") 123), (.type "ConnectionError")⟩, ⟨PyData.keyHash P (.ofString "FileExistsError"), (.str (.ofString "FileExistsError") 124), (.type "FileExistsError")⟩, ⟨PyData.keyHash P (.ofString "FileNotFoundError"), (.str (.ofString "FileNotFoundError") 125), (.type "FileNotFoundError")⟩, ⟨PyData.keyHash P (.ofString "InterruptedError"), (.str (.ofString "InterruptedError") 126), (.type "InterruptedError")⟩, ⟨PyData.keyHash P (.ofString "IsADirectoryError"), (.str (.ofString "IsADirectoryError") 127), (.type "IsADirectoryError")⟩, ⟨PyData.keyHash P (.ofString "NotADirectoryError"), (.str (.ofString "NotADirectoryError") 128), (.type "NotADirectoryError")⟩, ⟨PyData.keyHash P (.ofString "PermissionError"), (.str (.ofString "PermissionError") 129), (.type "PermissionError")⟩, ⟨PyData.keyHash P (.ofString "ProcessLookupError"), (.str (.ofString "ProcessLookupError") 130), (.type "ProcessLookupError")⟩, ⟨PyData.keyHash P (.ofString "TimeoutError"), (.str (.ofString "TimeoutError") 131), (.type "TimeoutError")⟩, ⟨PyData.keyHash P (.ofString "IndentationError"), (.str (.ofString "IndentationError") 132), (.type "IndentationError")⟩, ⟨PyData.keyHash P (.ofString "_IncompleteInputError"), (.str (.ofString "_IncompleteInputError") 133), (.type "_IncompleteInputError")⟩, ⟨PyData.keyHash P (.ofString "IndexError"), (.str (.ofString "IndexError") 134), (.type "IndexError")⟩, ⟨PyData.keyHash P (.ofString "KeyError"), (.str (.ofString "KeyError") 135), (.type "KeyError")⟩, ⟨PyData.keyHash P (.ofString "ModuleNotFoundError"), (.str (.ofString "ModuleNotFoundError") 136), (.type "ModuleNotFoundError")⟩, ⟨PyData.keyHash P (.ofString "NotImplementedError"), (.str (.ofString "NotImplementedError") 137), (.type "NotImplementedError")⟩, ⟨PyData.keyHash P (.ofString "PythonFinalizationError"), (.str (.ofString "PythonFinalizationError") 138), (.type "PythonFinalizationError")⟩, ⟨PyData.keyHash P (.ofString "RecursionError"), (.str (.ofString "RecursionError") 139), (.type "RecursionError")⟩, ⟨PyData.keyHash P (.ofString "UnboundLocalError"), (.str (.ofString "UnboundLocalError") 140), (.type "UnboundLocalError")⟩, ⟨PyData.keyHash P (.ofString "UnicodeError"), (.str (.ofString "UnicodeError") 141), (.type "UnicodeError")⟩, ⟨PyData.keyHash P (.ofString "BrokenPipeError"), (.str (.ofString "BrokenPipeError") 142), (.type "BrokenPipeError")⟩, ⟨PyData.keyHash P (.ofString "ConnectionAbortedError"), (.str (.ofString "ConnectionAbortedError") 143), (.type "ConnectionAbortedError")⟩, ⟨PyData.keyHash P (.ofString "ConnectionRefusedError"), (.str (.ofString "ConnectionRefusedError") 144), (.type "ConnectionRefusedError")⟩, ⟨PyData.keyHash P (.ofString "ConnectionResetError"), (.str (.ofString "ConnectionResetError") 145), (.type "ConnectionResetError")⟩, ⟨PyData.keyHash P (.ofString "TabError"), (.str (.ofString "TabError") 146), (.type "TabError")⟩, ⟨PyData.keyHash P (.ofString "UnicodeDecodeError"), (.str (.ofString "UnicodeDecodeError") 147), (.type "UnicodeDecodeError")⟩, ⟨PyData.keyHash P (.ofString "UnicodeEncodeError"), (.str (.ofString "UnicodeEncodeError") 148), (.type "UnicodeEncodeError")⟩, ⟨PyData.keyHash P (.ofString "UnicodeTranslateError"), (.str (.ofString "UnicodeTranslateError") 149), (.type "UnicodeTranslateError")⟩, ⟨PyData.keyHash P (.ofString "ExceptionGroup"), (.str (.ofString "ExceptionGroup") 150), (.type "ExceptionGroup")⟩, ⟨PyData.keyHash P (.ofString "EnvironmentError"), (.str (.ofString "EnvironmentError") 151), (.type "OSError")⟩, ⟨PyData.keyHash P (.ofString "IOError"), (.str (.ofString "IOError") 152), (.type "OSError")⟩, ⟨PyData.keyHash P (.ofString "open"), (.str (.ofString "open") 153), (.builtin "open")⟩, ⟨PyData.keyHash P (.ofString "quit"), (.str (.ofString "quit") 154), (.builtin "builtins.quit#opaque")⟩, ⟨PyData.keyHash P (.ofString "exit"), (.str (.ofString "exit") 155), (.builtin "builtins.exit#opaque")⟩, ⟨PyData.keyHash P (.ofString "copyright"), (.str (.ofString "copyright") 156), (.builtin "builtins.copyright#opaque")⟩, ⟨PyData.keyHash P (.ofString "credits"), (.str (.ofString "credits") 157), (.builtin "builtins.credits#opaque")⟩, ⟨PyData.keyHash P (.ofString "license"), (.str (.ofString "license") 158), (.builtin "builtins.license#opaque")⟩, ⟨PyData.keyHash P (.ofString "help"), (.str (.ofString "help") 159), (.builtin "builtins.help#opaque")⟩]⟩ 159), #[]⟩
noncomputable def q1 (P : Params) : Obj := ⟨(.type "dict"), none, (.dict ⟨[⟨PyData.keyHash P (.ofString "builtins"), (.str (.ofString "builtins") 162), (.ref 4)⟩, ⟨PyData.keyHash P (.ofString "__main__"), (.str (.ofString "__main__") 163), (.ref 5)⟩, ⟨PyData.keyHash P (.ofString "_sre"), (.str (.ofString "_sre") 244), (.ref 12)⟩]⟩ 3), #[]⟩
noncomputable def q2 (P : Params) : Obj := ⟨.none, none, (.dict ⟨[⟨PyData.keyHash P ⟨⟨[105, 109, 112, 111, 114, 116, 46, 108, 111, 97, 100, 101, 100, 46, 95, 115, 114, 101]⟩⟩, (.str ⟨⟨[105, 109, 112, 111, 114, 116, 46, 108, 111, 97, 100, 101, 100, 46, 95, 115, 114, 101]⟩⟩ 183), (.bool true)⟩, ⟨PyData.keyHash P ⟨⟨[99, 108, 97, 115, 115, 46, 95, 102, 114, 111, 122, 101, 110, 95, 105, 109, 112, 111, 114, 116, 108, 105, 98, 46, 66, 117, 105, 108, 116, 105, 110, 73, 109, 112, 111, 114, 116, 101, 114]⟩⟩, (.str ⟨⟨[99, 108, 97, 115, 115, 46, 95, 102, 114, 111, 122, 101, 110, 95, 105, 109, 112, 111, 114, 116, 108, 105, 98, 46, 66, 117, 105, 108, 116, 105, 110, 73, 109, 112, 111, 114, 116, 101, 114]⟩⟩ 185), (.ref 14)⟩, ⟨PyData.keyHash P ⟨⟨[119, 97, 116, 99, 104, 101, 100, 46, 105, 109, 112, 111, 114, 116]⟩⟩, (.str ⟨⟨[119, 97, 116, 99, 104, 101, 100, 46, 105, 109, 112, 111, 114, 116]⟩⟩ 206), (.ref 18)⟩, ⟨PyData.keyHash P ⟨⟨[99, 108, 97, 115, 115, 46, 95, 102, 114, 111, 122, 101, 110, 95, 105, 109, 112, 111, 114, 116, 108, 105, 98, 46, 77, 111, 100, 117, 108, 101, 83, 112, 101, 99]⟩⟩, (.str ⟨⟨[99, 108, 97, 115, 115, 46, 95, 102, 114, 111, 122, 101, 110, 95, 105, 109, 112, 111, 114, 116, 108, 105, 98, 46, 77, 111, 100, 117, 108, 101, 83, 112, 101, 99]⟩⟩ 216), (.ref 22)⟩, ⟨PyData.keyHash P (.ofString "sys.modules.booked-epoch"), (.str (.ofString "sys.modules.booked-epoch") 245), (.int 3 0)⟩, ⟨PyData.keyHash P ⟨⟨[105, 109, 112, 111, 114, 116, 46, 108, 97, 116, 101, 114, 45, 108, 97, 105, 100, 46, 95, 115, 114, 101]⟩⟩, (.str ⟨⟨[105, 109, 112, 111, 114, 116, 46, 108, 97, 116, 101, 114, 45, 108, 97, 105, 100, 46, 95, 115, 114, 101]⟩⟩ 270), (.bool true)⟩, ⟨PyData.keyHash P (.ofString "watched.library"), (.str (.ofString "watched.library") 272), (.ref 27)⟩, ⟨PyData.keyHash P (.ofString "watched.library-objects"), (.str (.ofString "watched.library-objects") 0), (.str (.ofString "\x0c") 0)⟩, ⟨PyData.keyHash P (.ofString "watched.library-deep._sre"), (.str (.ofString "watched.library-deep._sre") 273), (.str ⟨⟨[4, 0, 0, 11, 4, 0, 0, 11, 4, 0, 0, 3, 4, 0, 0, 11, 8, 4, 100, 105, 99, 116, 2]⟩⟩ 0)⟩]⟩ 9), #[]⟩
noncomputable def q3 (P : Params) : Obj := ⟨(.type "dict"), none, (.dict ⟨[⟨PyData.keyHash P (.ofString "__name__"), (.str (.ofString "__name__") 165), (.str (.ofString "__main__") 164)⟩, ⟨PyData.keyHash P (.ofString "__doc__"), (.str (.ofString "__doc__") 166), .none⟩, ⟨PyData.keyHash P (.ofString "__package__"), (.str (.ofString "__package__") 167), .none⟩, ⟨PyData.keyHash P (.ofString "__loader__"), (.str (.ofString "__loader__") 168), (.builtin "__main__.__loader__#opaque")⟩, ⟨PyData.keyHash P (.ofString "__spec__"), (.str (.ofString "__spec__") 169), .none⟩, ⟨PyData.keyHash P (.ofString "__annotations__"), (.str (.ofString "__annotations__") 170), (.ref 6)⟩, ⟨PyData.keyHash P (.ofString "__builtins__"), (.str (.ofString "__builtins__") 171), (.ref 4)⟩, ⟨PyData.keyHash P (.ofString "__file__"), (.str (.ofString "__file__") 173), (.str (.ofString "/claim/cut.py") 172)⟩, ⟨PyData.keyHash P (.ofString "__cached__"), (.str (.ofString "__cached__") 174), .none⟩, ⟨PyData.keyHash P (.ofString "_sre"), (.str (.ofString "_sre") 275), (.ref 12)⟩]⟩ 10), #[]⟩
noncomputable def q4 (P : Params) : Obj := ⟨(.type "module"), (some 0), .plain, #[]⟩
noncomputable def q5 (P : Params) : Obj := ⟨(.type "module"), (some 3), .plain, #[]⟩
noncomputable def q6 (P : Params) : Obj := ⟨(.type "dict"), none, (.dict #[] 0), #[]⟩
noncomputable def q7 (P : Params) : Obj := ⟨(.type "tuple"), none, (.seq #[] 0), #[]⟩
noncomputable def q8 (P : Params) : Obj := ⟨.none, none, (.fields #[]), #[]⟩
noncomputable def q9 (P : Params) : Obj := ⟨(.type "code"), none, (.fields ⟨[(.str (.ofString "<module>") 176), (.str (.ofString "<module>") 177), (.str (.ofString "/claim/cut.py") 178), (.int 1 0), (.int 0 0), (.int 0 0), (.int 0 0), (.int 0 0), (.ref 7), (.bool false), (.int 175 0), (.ref 8), .none, .none, .none, .none, (.int 179 0), (.int 1 0), (.str (.ofString "/claim/cut.py") 180)]⟩), #[]⟩
noncomputable def q10 (P : Params) : Obj := ⟨(.type "frame"), none, .plain, ⟨[(some (.ref 9)), (some (.ref 3)), (some (.ref 3)), none, (some (.str (.ofString "__main__") 164)), none, (some (.ref 0))]⟩⟩
noncomputable def q11 (P : Params) : Obj := ⟨(.type "dict"), none, (.dict ⟨[⟨PyData.keyHash P (.ofString "__name__"), (.str (.ofString "__name__") 247), (.str (.ofString "_sre") 246)⟩, ⟨PyData.keyHash P (.ofString "__doc__"), (.str (.ofString "__doc__") 248), .none⟩, ⟨PyData.keyHash P (.ofString "__package__"), (.str (.ofString "__package__") 250), (.str (.ofString "") 249)⟩, ⟨PyData.keyHash P (.ofString "__loader__"), (.str (.ofString "__loader__") 251), (.builtin "off-the-table:_sre.__loader__:shared#opaque")⟩, ⟨PyData.keyHash P (.ofString "__spec__"), (.str (.ofString "__spec__") 252), (.builtin "off-the-table:_sre.__spec__:shared#opaque")⟩, ⟨PyData.keyHash P (.ofString "compile"), (.str (.ofString "compile") 253), (.builtin "_sre.compile")⟩, ⟨PyData.keyHash P (.ofString "template"), (.str (.ofString "template") 254), (.builtin "off-the-table:_sre.template:shared#opaque")⟩, ⟨PyData.keyHash P (.ofString "getcodesize"), (.str (.ofString "getcodesize") 255), (.builtin "off-the-table:_sre.getcodesize:shared#opaque")⟩, ⟨PyData.keyHash P (.ofString "ascii_iscased"), (.str (.ofString "ascii_iscased") 256), (.builtin "off-the-table:_sre.ascii_iscased:shared#opaque")⟩, ⟨PyData.keyHash P (.ofString "unicode_iscased"), (.str (.ofString "unicode_iscased") 257), (.builtin "off-the-table:_sre.unicode_iscased:shared#opaque")⟩, ⟨PyData.keyHash P (.ofString "ascii_tolower"), (.str (.ofString "ascii_tolower") 258), (.builtin "off-the-table:_sre.ascii_tolower:shared#opaque")⟩, ⟨PyData.keyHash P (.ofString "unicode_tolower"), (.str (.ofString "unicode_tolower") 259), (.builtin "off-the-table:_sre.unicode_tolower:shared#opaque")⟩, ⟨PyData.keyHash P (.ofString "MAGIC"), (.str (.ofString "MAGIC") 261), (.int 20230612 260)⟩, ⟨PyData.keyHash P (.ofString "CODESIZE"), (.str (.ofString "CODESIZE") 263), (.int 4 262)⟩, ⟨PyData.keyHash P (.ofString "MAXREPEAT"), (.str (.ofString "MAXREPEAT") 265), (.int 4294967295 264)⟩, ⟨PyData.keyHash P (.ofString "MAXGROUPS"), (.str (.ofString "MAXGROUPS") 267), (.int 1073741823 266)⟩, ⟨PyData.keyHash P (.ofString "copyright"), (.str (.ofString "copyright") 269), (.str (.ofString " SRE 2.2.2 Copyright (c) 1997-2002 by Secret Labs AB ") 268)⟩]⟩ 17), #[]⟩
noncomputable def q12 (P : Params) : Obj := ⟨(.type "module"), (some 11), .plain, #[]⟩
noncomputable def q13 (P : Params) : Obj := ⟨(.type "dict"), none, (.dict ⟨[⟨PyData.keyHash P (.ofString "__module__"), (.str (.ofString "__module__") 189), (.str ⟨⟨[95, 102, 114, 111, 122, 101, 110, 95, 105, 109, 112, 111, 114, 116, 108, 105, 98]⟩⟩ 186)⟩, ⟨PyData.keyHash P (.ofString "__firstlineno__"), (.str (.ofString "__firstlineno__") 190), (.int 971 187)⟩, ⟨PyData.keyHash P (.ofString "__doc__"), (.str (.ofString "__doc__") 191), (.builtin "_frozen_importlib.BuiltinImporter.__doc__:str#opaque")⟩, ⟨PyData.keyHash P (.ofString "_ORIGIN"), (.str (.ofString "_ORIGIN") 192), (.str (.ofString "built-in") 188)⟩, ⟨PyData.keyHash P (.ofString "find_spec"), (.str (.ofString "find_spec") 193), (.builtin "_frozen_importlib.BuiltinImporter.find_spec#opaque")⟩, ⟨PyData.keyHash P (.ofString "create_module"), (.str (.ofString "create_module") 194), (.builtin "_frozen_importlib.BuiltinImporter.create_module#opaque")⟩, ⟨PyData.keyHash P (.ofString "exec_module"), (.str (.ofString "exec_module") 195), (.builtin "_frozen_importlib.BuiltinImporter.exec_module#opaque")⟩, ⟨PyData.keyHash P (.ofString "get_code"), (.str (.ofString "get_code") 196), (.builtin "_frozen_importlib.BuiltinImporter.get_code#opaque")⟩, ⟨PyData.keyHash P (.ofString "get_source"), (.str (.ofString "get_source") 197), (.builtin "_frozen_importlib.BuiltinImporter.get_source#opaque")⟩, ⟨PyData.keyHash P (.ofString "is_package"), (.str (.ofString "is_package") 198), (.builtin "_frozen_importlib.BuiltinImporter.is_package#opaque")⟩, ⟨PyData.keyHash P (.ofString "load_module"), (.str (.ofString "load_module") 199), (.builtin "_frozen_importlib.BuiltinImporter.load_module#opaque")⟩, ⟨PyData.keyHash P (.ofString "__static_attributes__"), (.str (.ofString "__static_attributes__") 200), (.ref 15)⟩, ⟨PyData.keyHash P (.ofString "__dict__"), (.str (.ofString "__dict__") 202), (.ref 16)⟩, ⟨PyData.keyHash P (.ofString "__weakref__"), (.str (.ofString "__weakref__") 204), (.ref 17)⟩]⟩ 14), #[]⟩
noncomputable def q14 (P : Params) : Obj := ⟨(.type "type"), none, (.cls { name := (.ofString "BuiltinImporter"), bases := [(.type "object")], mro := [(.ref 14), (.type "object")], ns := 13, qualname := (.ofString "BuiltinImporter"), hasDict := true, slotNames := [], subclasses := [], abstract := false, collection := none, hasDel := false }), #[]⟩
noncomputable def q15 (P : Params) : Obj := ⟨(.type "tuple"), none, (.seq #[] 0), #[]⟩
noncomputable def q16 (P : Params) : Obj := ⟨(.type "getset_descriptor"), none, (.fields ⟨[(.str (.ofString "__dict__") 201), (.ref 14), (.builtin "function.__dict__"), (.builtin "function.__dict__#set")]⟩), #[]⟩
noncomputable def q17 (P : Params) : Obj := ⟨(.type "getset_descriptor"), none, (.fields ⟨[(.str (.ofString "__weakref__") 203), (.ref 14), (.builtin "ExceptionGroup.__weakref__"), .none]⟩), #[]⟩
noncomputable def q18 (P : Params) : Obj := ⟨.none, none, (.seq ⟨[(.int 13 0), (.str ⟨⟨[6, 189, 10, 95, 95, 109, 111, 100, 117, 108, 101, 95, 95, 6, 186, 17, 95, 102, 114, 111, 122, 101, 110, 95, 105, 109, 112, 111, 114, 116, 108, 105, 98, 6, 190, 15, 95, 95, 102, 105, 114, 115, 116, 108, 105, 110, 101, 110, 111, 95, 95, 4, 187, 0, 971, 6, 191, 7, 95, 95, 100, 111, 99, 95, 95, 9, 52, 95, 102, 114, 111, 122, 101, 110, 95, 105, 109, 112, 111, 114, 116, 108, 105, 98, 46, 66, 117, 105, 108, 116, 105, 110, 73, 109, 112, 111, 114, 116, 101, 114, 46, 95, 95, 100, 111, 99, 95, 95, 58, 115, 116, 114, 35, 111, 112, 97, 113, 117, 101, 6, 192, 7, 95, 79, 82, 73, 71, 73, 78, 6, 188, 8, 98, 117, 105, 108, 116, 45, 105, 110, 6, 193, 9, 102, 105, 110, 100, 95, 115, 112, 101, 99, 9, 50, 95, 102, 114, 111, 122, 101, 110, 95, 105, 109, 112, 111, 114, 116, 108, 105, 98, 46, 66, 117, 105, 108, 116, 105, 110, 73, 109, 112, 111, 114, 116, 101, 114, 46, 102, 105, 110, 100, 95, 115, 112, 101, 99, 35, 111, 112, 97, 113, 117, 101, 6, 194, 13, 99, 114, 101, 97, 116, 101, 95, 109, 111, 100, 117, 108, 101, 9, 54, 95, 102, 114, 111, 122, 101, 110, 95, 105, 109, 112, 111, 114, 116, 108, 105, 98, 46, 66, 117, 105, 108, 116, 105, 110, 73, 109, 112, 111, 114, 116, 101, 114, 46, 99, 114, 101, 97, 116, 101, 95, 109, 111, 100, 117, 108, 101, 35, 111, 112, 97, 113, 117, 101, 6, 195, 11, 101, 120, 101, 99, 95, 109, 111, 100, 117, 108, 101, 9, 52, 95, 102, 114, 111, 122, 101, 110, 95, 105, 109, 112, 111, 114, 116, 108, 105, 98, 46, 66, 117, 105, 108, 116, 105, 110, 73, 109, 112, 111, 114, 116, 101, 114, 46, 101, 120, 101, 99, 95, 109, 111, 100, 117, 108, 101, 35, 111, 112, 97, 113, 117, 101, 6, 196, 8, 103, 101, 116, 95, 99, 111, 100, 101, 9, 49, 95, 102, 114, 111, 122, 101, 110, 95, 105, 109, 112, 111, 114, 116, 108, 105, 98, 46, 66, 117, 105, 108, 116, 105, 110, 73, 109, 112, 111, 114, 116, 101, 114, 46, 103, 101, 116, 95, 99, 111, 100, 101, 35, 111, 112, 97, 113, 117, 101, 6, 197, 10, 103, 101, 116, 95, 115, 111, 117, 114, 99, 101, 9, 51, 95, 102, 114, 111, 122, 101, 110, 95, 105, 109, 112, 111, 114, 116, 108, 105, 98, 46, 66, 117, 105, 108, 116, 105, 110, 73, 109, 112, 111, 114, 116, 101, 114, 46, 103, 101, 116, 95, 115, 111, 117, 114, 99, 101, 35, 111, 112, 97, 113, 117, 101, 6, 198, 10, 105, 115, 95, 112, 97, 99, 107, 97, 103, 101, 9, 51, 95, 102, 114, 111, 122, 101, 110, 95, 105, 109, 112, 111, 114, 116, 108, 105, 98, 46, 66, 117, 105, 108, 116, 105, 110, 73, 109, 112, 111, 114, 116, 101, 114, 46, 105, 115, 95, 112, 97, 99, 107, 97, 103, 101, 35, 111, 112, 97, 113, 117, 101, 6, 199, 11, 108, 111, 97, 100, 95, 109, 111, 100, 117, 108, 101, 9, 52, 95, 102, 114, 111, 122, 101, 110, 95, 105, 109, 112, 111, 114, 116, 108, 105, 98, 46, 66, 117, 105, 108, 116, 105, 110, 73, 109, 112, 111, 114, 116, 101, 114, 46, 108, 111, 97, 100, 95, 109, 111, 100, 117, 108, 101, 35, 111, 112, 97, 113, 117, 101, 6, 200, 21, 95, 95, 115, 116, 97, 116, 105, 99, 95, 97, 116, 116, 114, 105, 98, 117, 116, 101, 115, 95, 95, 4, 0, 0, 15, 6, 202, 8, 95, 95, 100, 105, 99, 116, 95, 95, 4, 0, 0, 16, 6, 204, 11, 95, 95, 119, 101, 97, 107, 114, 101, 102, 95, 95, 4, 0, 0, 17]⟩⟩ 0), (.bool true), (.bool true), (.str (.ofString "") 205), (.int 21 0), (.str ⟨⟨[6, 227, 10, 95, 95, 109, 111, 100, 117, 108, 101, 95, 95, 6, 217, 17, 95, 102, 114, 111, 122, 101, 110, 95, 105, 109, 112, 111, 114, 116, 108, 105, 98, 6, 228, 15, 95, 95, 102, 105, 114, 115, 116, 108, 105, 110, 101, 110, 111, 95, 95, 4, 218, 0, 562, 6, 229, 7, 95, 95, 100, 111, 99, 95, 95, 9, 47, 95, 102, 114, 111, 122, 101, 110, 95, 105, 109, 112, 111, 114, 116, 108, 105, 98, 46, 77, 111, 100, 117, 108, 101, 83, 112, 101, 99, 46, 95, 95, 100, 111, 99, 95, 95, 58, 115, 116, 114, 35, 111, 112, 97, 113, 117, 101, 6, 230, 8, 95, 95, 105, 110, 105, 116, 95, 95, 9, 44, 95, 102, 114, 111, 122, 101, 110, 95, 105, 109, 112, 111, 114, 116, 108, 105, 98, 46, 77, 111, 100, 117, 108, 101, 83, 112, 101, 99, 46, 95, 95, 105, 110, 105, 116, 95, 95, 35, 111, 112, 97, 113, 117, 101, 6, 231, 8, 95, 95, 114, 101, 112, 114, 95, 95, 9, 44, 95, 102, 114, 111, 122, 101, 110, 95, 105, 109, 112, 111, 114, 116, 108, 105, 98, 46, 77, 111, 100, 117, 108, 101, 83, 112, 101, 99, 46, 95, 95, 114, 101, 112, 114, 95, 95, 35, 111, 112, 97, 113, 117, 101, 6, 232, 6, 95, 95, 101, 113, 95, 95, 9, 42, 95, 102, 114, 111, 122, 101, 110, 95, 105, 109, 112, 111, 114, 116, 108, 105, 98, 46, 77, 111, 100, 117, 108, 101, 83, 112, 101, 99, 46, 95, 95, 101, 113, 95, 95, 35, 111, 112, 97, 113, 117, 101, 6, 233, 6, 99, 97, 99, 104, 101, 100, 9, 42, 95, 102, 114, 111, 122, 101, 110, 95, 105, 109, 112, 111, 114, 116, 108, 105, 98, 46, 77, 111, 100, 117, 108, 101, 83, 112, 101, 99, 46, 99, 97, 99, 104, 101, 100, 35, 111, 112, 97, 113, 117, 101, 6, 234, 6, 112, 97, 114, 101, 110, 116, 9, 42, 95, 102, 114, 111, 122, 101, 110, 95, 105, 109, 112, 111, 114, 116, 108, 105, 98, 46, 77, 111, 100, 117, 108, 101, 83, 112, 101, 99, 46, 112, 97, 114, 101, 110, 116, 35, 111, 112, 97, 113, 117, 101, 6, 235, 12, 104, 97, 115, 95, 108, 111, 99, 97, 116, 105, 111, 110, 9, 48, 95, 102, 114, 111, 122, 101, 110, 95, 105, 109, 112, 111, 114, 116, 108, 105, 98, 46, 77, 111, 100, 117, 108, 101, 83, 112, 101, 99, 46, 104, 97, 115, 95, 108, 111, 99, 97, 116, 105, 111, 110, 35, 111, 112, 97, 113, 117, 101, 6, 236, 21, 95, 95, 115, 116, 97, 116, 105, 99, 95, 97, 116, 116, 114, 105, 98, 117, 116, 101, 115, 95, 95, 4, 0, 0, 23, 6, 238, 8, 95, 95, 100, 105, 99, 116, 95, 95, 4, 0, 0, 24, 6, 240, 11, 95, 95, 119, 101, 97, 107, 114, 101, 102, 95, 95, 4, 0, 0, 25, 6, 241, 8, 95, 95, 104, 97, 115, 104, 95, 95, 0]⟩⟩ 0), (.bool true), (.bool true), (.str (.ofString "") 242)]⟩ 1), #[]⟩
noncomputable def q19 (P : Params) : Obj := ⟨(.type "list"), none, (.seq #[] 0), #[]⟩
noncomputable def q20 (P : Params) : Obj := ⟨(.type "dict"), none, (.dict ⟨[⟨PyData.keyHash P (.ofString "name"), (.str (.ofString "name") 208), (.str (.ofString "_sre") 207)⟩, ⟨PyData.keyHash P (.ofString "loader"), (.str (.ofString "loader") 209), (.ref 14)⟩, ⟨PyData.keyHash P (.ofString "origin"), (.str (.ofString "origin") 210), (.str (.ofString "built-in") 184)⟩, ⟨PyData.keyHash P (.ofString "loader_state"), (.str (.ofString "loader_state") 211), .none⟩, ⟨PyData.keyHash P (.ofString "submodule_search_locations"), (.str (.ofString "submodule_search_locations") 212), .none⟩, ⟨PyData.keyHash P (.ofString "_uninitialized_submodules"), (.str (.ofString "_uninitialized_submodules") 213), (.ref 19)⟩, ⟨PyData.keyHash P (.ofString "_set_fileattr"), (.str (.ofString "_set_fileattr") 214), (.bool false)⟩, ⟨PyData.keyHash P (.ofString "_cached"), (.str (.ofString "_cached") 215), .none⟩, ⟨PyData.keyHash P (.ofString "_initializing"), (.str (.ofString "_initializing") 243), (.bool false)⟩]⟩ 9), #[]⟩
noncomputable def q21 (P : Params) : Obj := ⟨(.type "dict"), none, (.dict ⟨[⟨PyData.keyHash P (.ofString "__module__"), (.str (.ofString "__module__") 227), (.str ⟨⟨[95, 102, 114, 111, 122, 101, 110, 95, 105, 109, 112, 111, 114, 116, 108, 105, 98]⟩⟩ 217)⟩, ⟨PyData.keyHash P (.ofString "__firstlineno__"), (.str (.ofString "__firstlineno__") 228), (.int 562 218)⟩, ⟨PyData.keyHash P (.ofString "__doc__"), (.str (.ofString "__doc__") 229), (.builtin "_frozen_importlib.ModuleSpec.__doc__:str#opaque")⟩, ⟨PyData.keyHash P (.ofString "__init__"), (.str (.ofString "__init__") 230), (.builtin "_frozen_importlib.ModuleSpec.__init__#opaque")⟩, ⟨PyData.keyHash P (.ofString "__repr__"), (.str (.ofString "__repr__") 231), (.builtin "_frozen_importlib.ModuleSpec.__repr__#opaque")⟩, ⟨PyData.keyHash P (.ofString "__eq__"), (.str (.ofString "__eq__") 232), (.builtin "_frozen_importlib.ModuleSpec.__eq__#opaque")⟩, ⟨PyData.keyHash P (.ofString "cached"), (.str (.ofString "cached") 233), (.builtin "_frozen_importlib.ModuleSpec.cached#opaque")⟩, ⟨PyData.keyHash P (.ofString "parent"), (.str (.ofString "parent") 234), (.builtin "_frozen_importlib.ModuleSpec.parent#opaque")⟩, ⟨PyData.keyHash P (.ofString "has_location"), (.str (.ofString "has_location") 235), (.builtin "_frozen_importlib.ModuleSpec.has_location#opaque")⟩, ⟨PyData.keyHash P (.ofString "__static_attributes__"), (.str (.ofString "__static_attributes__") 236), (.ref 23)⟩, ⟨PyData.keyHash P (.ofString "__dict__"), (.str (.ofString "__dict__") 238), (.ref 24)⟩, ⟨PyData.keyHash P (.ofString "__weakref__"), (.str (.ofString "__weakref__") 240), (.ref 25)⟩, ⟨PyData.keyHash P (.ofString "__hash__"), (.str (.ofString "__hash__") 241), .none⟩]⟩ 13), #[]⟩
noncomputable def q22 (P : Params) : Obj := ⟨(.type "type"), none, (.cls { name := (.ofString "ModuleSpec"), bases := [(.type "object")], mro := [(.ref 22), (.type "object")], ns := 21, qualname := (.ofString "ModuleSpec"), hasDict := true, slotNames := [], subclasses := [], abstract := false, collection := none, hasDel := false }), #[]⟩
noncomputable def q23 (P : Params) : Obj := ⟨(.type "tuple"), none, (.seq ⟨[(.str (.ofString "_cached") 219), (.str (.ofString "_set_fileattr") 220), (.str (.ofString "_uninitialized_submodules") 221), (.str (.ofString "loader") 222), (.str (.ofString "loader_state") 223), (.str (.ofString "name") 224), (.str (.ofString "origin") 225), (.str (.ofString "submodule_search_locations") 226)]⟩ 0), #[]⟩
noncomputable def q24 (P : Params) : Obj := ⟨(.type "getset_descriptor"), none, (.fields ⟨[(.str (.ofString "__dict__") 237), (.ref 22), (.builtin "function.__dict__"), (.builtin "function.__dict__#set")]⟩), #[]⟩
noncomputable def q25 (P : Params) : Obj := ⟨(.type "getset_descriptor"), none, (.fields ⟨[(.str (.ofString "__weakref__") 239), (.ref 22), (.builtin "ExceptionGroup.__weakref__"), .none]⟩), #[]⟩
noncomputable def q26 (P : Params) : Obj := ⟨(.ref 22), (some 20), .plain, #[]⟩
noncomputable def q27 (P : Params) : Obj := ⟨.none, none, (.seq ⟨[(.int 11 0), (.str ⟨⟨[6, 247, 8, 95, 95, 110, 97, 109, 101, 95, 95, 6, 246, 4, 95, 115, 114, 101, 6, 248, 7, 95, 95, 100, 111, 99, 95, 95, 0, 6, 250, 11, 95, 95, 112, 97, 99, 107, 97, 103, 101, 95, 95, 6, 249, 0, 6, 251, 10, 95, 95, 108, 111, 97, 100, 101, 114, 95, 95, 4, 0, 0, 14, 6, 252, 8, 95, 95, 115, 112, 101, 99, 95, 95, 4, 0, 0, 26, 6, 253, 7, 99, 111, 109, 112, 105, 108, 101, 9, 12, 95, 115, 114, 101, 46, 99, 111, 109, 112, 105, 108, 101, 6, 254, 8, 116, 101, 109, 112, 108, 97, 116, 101, 9, 13, 95, 115, 114, 101, 46, 116, 101, 109, 112, 108, 97, 116, 101, 6, 255, 11, 103, 101, 116, 99, 111, 100, 101, 115, 105, 122, 101, 9, 16, 95, 115, 114, 101, 46, 103, 101, 116, 99, 111, 100, 101, 115, 105, 122, 101, 6, 256, 13, 97, 115, 99, 105, 105, 95, 105, 115, 99, 97, 115, 101, 100, 9, 18, 95, 115, 114, 101, 46, 97, 115, 99, 105, 105, 95, 105, 115, 99, 97, 115, 101, 100, 6, 257, 15, 117, 110, 105, 99, 111, 100, 101, 95, 105, 115, 99, 97, 115, 101, 100, 9, 20, 95, 115, 114, 101, 46, 117, 110, 105, 99, 111, 100, 101, 95, 105, 115, 99, 97, 115, 101, 100, 6, 258, 13, 97, 115, 99, 105, 105, 95, 116, 111, 108, 111, 119, 101, 114, 9, 18, 95, 115, 114, 101, 46, 97, 115, 99, 105, 105, 95, 116, 111, 108, 111, 119, 101, 114, 6, 259, 15, 117, 110, 105, 99, 111, 100, 101, 95, 116, 111, 108, 111, 119, 101, 114, 9, 20, 95, 115, 114, 101, 46, 117, 110, 105, 99, 111, 100, 101, 95, 116, 111, 108, 111, 119, 101, 114, 6, 261, 5, 77, 65, 71, 73, 67, 4, 260, 0, 20230612, 6, 263, 8, 67, 79, 68, 69, 83, 73, 90, 69, 4, 262, 0, 4, 6, 265, 9, 77, 65, 88, 82, 69, 80, 69, 65, 84, 4, 264, 0, 4294967295, 6, 267, 9, 77, 65, 88, 71, 82, 79, 85, 80, 83, 4, 266, 0, 1073741823, 6, 269, 9, 99, 111, 112, 121, 114, 105, 103, 104, 116, 6, 268, 53, 32, 83, 82, 69, 32, 50, 46, 50, 46, 50, 32, 67, 111, 112, 121, 114, 105, 103, 104, 116, 32, 40, 99, 41, 32, 49, 57, 57, 55, 45, 50, 48, 48, 50, 32, 98, 121, 32, 83, 101, 99, 114, 101, 116, 32, 76, 97, 98, 115, 32, 65, 66, 32]⟩⟩ 0), (.bool true), (.bool false), (.str (.ofString "_sre") 271)]⟩ 0), #[]⟩
noncomputable def t_z (P : Params) : BT := (.node (q0 P) (.node (q1 P) (.node (q3 P) (.node (q7 P) (.node (q15 P) .nil .nil) (.node (q23 P) .nil .nil)) (.node (q11 P) (.node (q19 P) .nil .nil) (.node (q27 P) .nil .nil))) (.node (q5 P) (.node (q9 P) (.node (q17 P) .nil .nil) (.node (q25 P) .nil .nil)) (.node (q13 P) (.node (q21 P) .nil .nil) .nil))) (.node (q2 P) (.node (q4 P) (.node (q8 P) (.node (q16 P) .nil .nil) (.node (q24 P) .nil .nil)) (.node (q12 P) (.node (q20 P) .nil .nil) .nil)) (.node (q6 P) (.node (q10 P) (.node (q18 P) .nil .nil) (.node (q26 P) .nil .nil)) (.node (q14 P) (.node (q22 P) .nil .nil) .nil))))
noncomputable def q28 (P : Params) : Obj := ⟨(.type "tuple"), none, (.seq #[] 0), #[]⟩
noncomputable def q29 (P : Params) : Obj := ⟨.none, none, (.fields #[]), #[]⟩
noncomputable def q30 (P : Params) : Obj := ⟨(.type "code"), none, (.fields ⟨[(.str (.ofString "<module>") 277), (.str (.ofString "<module>") 278), (.str (.ofString "/claim/cut.py") 279), (.int 1 0), (.int 0 0), (.int 0 0), (.int 0 0), (.int 0 0), (.ref 28), (.bool false), (.int 276 0), (.ref 29), .none, .none, .none, .none, (.int 280 0), (.int 1 0), (.str (.ofString "/claim/cut.py") 281)]⟩), #[]⟩
noncomputable def q31 (P : Params) : Obj := ⟨(.type "frame"), none, .plain, ⟨[(some (.ref 30)), (some (.ref 3)), (some (.ref 3)), none, (some (.str (.ofString "__main__") 164)), none, (some (.ref 0))]⟩⟩
noncomputable def t_a (P : Params) : BT := (.node (q0 P) (.node (q1 P) (.node (q3 P) (.node (q7 P) (.node (q15 P) (.node (q31 P) .nil .nil) .nil) (.node (q23 P) .nil .nil)) (.node (q11 P) (.node (q19 P) .nil .nil) (.node (q27 P) .nil .nil))) (.node (q5 P) (.node (q9 P) (.node (q17 P) .nil .nil) (.node (q25 P) .nil .nil)) (.node (q13 P) (.node (q21 P) .nil .nil) (.node (q29 P) .nil .nil)))) (.node (q2 P) (.node (q4 P) (.node (q8 P) (.node (q16 P) .nil .nil) (.node (q24 P) .nil .nil)) (.node (q12 P) (.node (q20 P) .nil .nil) (.node (q28 P) .nil .nil))) (.node (q6 P) (.node (q10 P) (.node (q18 P) .nil .nil) (.node (q26 P) .nil .nil)) (.node (q14 P) (.node (q22 P) .nil .nil) (.node (q30 P) .nil .nil)))))
noncomputable def t_b (P : Params) : BT := (.node (q0 P) (.node (q1 P) (.node (q3 P) (.node (q7 P) (.node (q15 P) (.node (q31 P) .nil .nil) .nil) (.node (q23 P) .nil .nil)) (.node (q11 P) (.node (q19 P) .nil .nil) (.node (q27 P) .nil .nil))) (.node (q5 P) (.node (q9 P) (.node (q17 P) .nil .nil) (.node (q25 P) .nil .nil)) (.node (q13 P) (.node (q21 P) .nil .nil) (.node (q29 P) .nil .nil)))) (.node (q2 P) (.node (q4 P) (.node (q8 P) (.node (q16 P) .nil .nil) (.node (q24 P) .nil .nil)) (.node (q12 P) (.node (q20 P) .nil .nil) (.node (q28 P) .nil .nil))) (.node (q6 P) (.node (q10 P) (.node (q18 P) .nil .nil) (.node (q26 P) .nil .nil)) (.node (q14 P) (.node (q22 P) .nil .nil) (.node (q30 P) .nil .nil)))))
noncomputable def q32 (P : Params) : Obj := ⟨(.type "dict"), none, (.dict ⟨[⟨PyData.keyHash P (.ofString "__name__"), (.str (.ofString "__name__") 165), (.str (.ofString "cpy313.filecmp") 341)⟩, ⟨PyData.keyHash P (.ofString "__doc__"), (.str (.ofString "__doc__") 166), .none⟩, ⟨PyData.keyHash P (.ofString "__package__"), (.str (.ofString "__package__") 167), .none⟩, ⟨PyData.keyHash P (.ofString "__loader__"), (.str (.ofString "__loader__") 168), (.builtin "__main__.__loader__#opaque")⟩, ⟨PyData.keyHash P (.ofString "__spec__"), (.str (.ofString "__spec__") 169), .none⟩, ⟨PyData.keyHash P (.ofString "__annotations__"), (.str (.ofString "__annotations__") 170), (.ref 6)⟩, ⟨PyData.keyHash P (.ofString "__builtins__"), (.str (.ofString "__builtins__") 171), (.ref 4)⟩, ⟨PyData.keyHash P (.ofString "__file__"), (.str (.ofString "__file__") 173), (.str (.ofString "/claim/cut.py") 172)⟩, ⟨PyData.keyHash P (.ofString "__cached__"), (.str (.ofString "__cached__") 174), .none⟩, ⟨PyData.keyHash P (.ofString "_sre"), (.str (.ofString "_sre") 275), (.ref 12)⟩, ⟨PyData.keyHash P (.ofString "_wall"), (.str (.ofString "_wall") 288), (.ref 38)⟩, ⟨PyData.keyHash P (.ofString "filterfalse"), (.str (.ofString "filterfalse") 340), (.ref 71)⟩, ⟨PyData.keyHash P (.ofString "_filter"), (.str (.ofString "_filter") 350), (.ref 82)⟩]⟩ 13), #[]⟩
noncomputable def q33 (P : Params) : Obj := ⟨.none, none, (.fields ⟨[(.int 2 0), (.int 0 0), (.ref 37), (.int 6 0), (.int 0 0), (.ref 44), (.int 26 0), (.int 0 0), (.ref 81)]⟩), #[]⟩
noncomputable def q34 (P : Params) : Obj := ⟨(.type "tuple"), none, (.seq #[] 0), #[]⟩
noncomputable def q35 (P : Params) : Obj := ⟨.none, none, (.fields #[]), #[]⟩
noncomputable def q36 (P : Params) : Obj := ⟨(.type "tuple"), none, (.seq ⟨[(.str (.ofString "k") 285)]⟩ 0), #[]⟩
noncomputable def q37 (P : Params) : Obj := ⟨(.type "tuple"), none, (.seq #[] 0), #[]⟩
noncomputable def q38 (P : Params) : Obj := ⟨.none, none, (.func { name := (.ofString "_wall"), qualname := (.ofString "_wall"), params := (parOf (stOf 0)), body := (.stmts (bodOf (stOf 0))), scope := (scoOf (stOf 0)), globals := 0, closure := [], defaults := .none, kwdefaults := .none, doc := .none, pyModule := .none, annotations := none, code := .none, closureTuple := .none, builtins := 0 }), #[]⟩
noncomputable def q39 (P : Params) : Obj := ⟨(.type "code"), none, (.fields ⟨[(.str (.ofString "_wall") 282), (.str (.ofString "_wall") 283), (.str (.ofString "/claim/cut.py") 284), (.int 2 0), (.int 1 0), (.int 0 0), (.int 0 0), (.int 3 0), (.ref 32), (.bool true), (.int 276 0), (.ref 33), .none, (.ref 34), (.ref 35), (.ref 36), (.int 286 0), (.int 2 0), (.str (.ofString "/claim/cut.py") 287)]⟩), #[]⟩
noncomputable def q40 (P : Params) : Obj := ⟨(.type "function"), none, (.func { name := (.ofString "_wall"), qualname := (.ofString "_wall"), params := (parOf (stOf 0)), body := (.stmts (bodOf (stOf 0))), scope := (scoOf (stOf 0)), globals := 3, closure := [], defaults := .none, kwdefaults := .none, doc := .none, pyModule := (.str (.ofString "__main__") 164), annotations := none, code := (.ref 37), closureTuple := .none, builtins := 0 }), #[]⟩
noncomputable def q41 (P : Params) : Obj := ⟨(.type "tuple"), none, (.seq #[] 0), #[]⟩
noncomputable def q42 (P : Params) : Obj := ⟨(.type "builtin_function_or_method"), none, (.fields ⟨[(.builtin "type.__prepare__"), (.type "type")]⟩), #[]⟩
noncomputable def q43 (P : Params) : Obj := ⟨(.type "dict"), none, (.dict ⟨[⟨PyData.keyHash P (.ofString "__module__"), (.str (.ofString "__module__") 298), (.str (.ofString "itertools") 289)⟩, ⟨PyData.keyHash P (.ofString "__qualname__"), (.str (.ofString "__qualname__") 300), (.str (.ofString "filterfalse") 299)⟩, ⟨PyData.keyHash P (.ofString "__firstlineno__"), (.str (.ofString "__firstlineno__") 302), (.int 6 301)⟩, ⟨PyData.keyHash P (.ofString "__slots__"), (.str (.ofString "__slots__") 305), (.ref 46)⟩, ⟨PyData.keyHash P (.ofString "__init__"), (.str (.ofString "__init__") 314), (.ref 53)⟩, ⟨PyData.keyHash P (.ofString "__iter__"), (.str (.ofString "__iter__") 321), (.ref 60)⟩, ⟨PyData.keyHash P (.ofString "__next__"), (.str (.ofString "__next__") 330), (.ref 67)⟩, ⟨PyData.keyHash P (.ofString "__static_attributes__"), (.str (.ofString "__static_attributes__") 333), (.ref 68)⟩]⟩ 8), #[]⟩
noncomputable def q44 (P : Params) : Obj := ⟨(.type "tuple"), none, (.seq #[] 0), #[]⟩
noncomputable def q45 (P : Params) : Obj := ⟨.none, none, (.fields ⟨[(.int 9 0), (.int 4 0), (.ref 52), (.int 13 0), (.int 4 0), (.ref 59), (.int 16 0), (.int 4 0), (.ref 66)]⟩), #[]⟩
noncomputable def q46 (P : Params) : Obj := ⟨(.type "code"), none, (.fields ⟨[(.str (.ofString "filterfalse") 293), (.str (.ofString "filterfalse") 294), (.str (.ofString "/claim/cut.py") 295), (.int 6 0), (.int 0 0), (.int 0 0), (.int 0 0), (.int 0 0), (.ref 42), (.bool false), (.int 276 0), (.ref 43), .none, .none, .none, .none, (.int 296 0), (.int 6 0), (.str (.ofString "/claim/cut.py") 297)]⟩), #[]⟩
noncomputable def q47 (P : Params) : Obj := ⟨(.type "frame"), none, .plain, ⟨[(some (.ref 44)), (some (.ref 3)), (some (.ref 41)), none, (some (.str (.ofString "itertools") 289)), none, (some (.ref 0))]⟩⟩
noncomputable def q48 (P : Params) : Obj := ⟨(.type "tuple"), none, (.seq ⟨[(.str (.ofString "_it") 303), (.str (.ofString "_func") 304)]⟩ 0), #[]⟩
noncomputable def q49 (P : Params) : Obj := ⟨(.type "tuple"), none, (.seq #[] 0), #[]⟩
noncomputable def q50 (P : Params) : Obj := ⟨.none, none, (.fields #[]), #[]⟩
noncomputable def q51 (P : Params) : Obj := ⟨(.type "tuple"), none, (.seq ⟨[(.str (.ofString "self") 309), (.str (.ofString "function") 310), (.str (.ofString "iterable") 311)]⟩ 0), #[]⟩
noncomputable def q52 (P : Params) : Obj := ⟨(.type "tuple"), none, (.seq #[] 0), #[]⟩
noncomputable def q53 (P : Params) : Obj := ⟨.none, none, (.func { name := (.ofString "__init__"), qualname := (.ofString "filterfalse.__init__"), params := (parOf (inOf 2 1)), body := (.stmts (bodOf (inOf 2 1))), scope := (scoOf (inOf 2 1)), globals := 0, closure := [], defaults := .none, kwdefaults := .none, doc := .none, pyModule := .none, annotations := none, code := .none, closureTuple := .none, builtins := 0 }), #[]⟩
noncomputable def q54 (P : Params) : Obj := ⟨(.type "code"), none, (.fields ⟨[(.str (.ofString "__init__") 306), (.str (.ofString "filterfalse.__init__") 307), (.str (.ofString "/claim/cut.py") 308), (.int 9 0), (.int 3 0), (.int 3 0), (.int 0 0), (.int 3 0), (.ref 47), (.bool true), (.int 276 0), (.ref 48), .none, (.ref 49), (.ref 50), (.ref 51), (.int 312 0), (.int 9 0), (.str (.ofString "/claim/cut.py") 313)]⟩), #[]⟩
noncomputable def q55 (P : Params) : Obj := ⟨(.type "function"), none, (.func { name := (.ofString "__init__"), qualname := (.ofString "filterfalse.__init__"), params := (parOf (inOf 2 1)), body := (.stmts (bodOf (inOf 2 1))), scope := (scoOf (inOf 2 1)), globals := 3, closure := [], defaults := .none, kwdefaults := .none, doc := .none, pyModule := (.str (.ofString "itertools") 289), annotations := none, code := (.ref 52), closureTuple := .none, builtins := 0 }), #[]⟩
noncomputable def q56 (P : Params) : Obj := ⟨(.type "tuple"), none, (.seq #[] 0), #[]⟩
noncomputable def q57 (P : Params) : Obj := ⟨.none, none, (.fields #[]), #[]⟩
noncomputable def q58 (P : Params) : Obj := ⟨(.type "tuple"), none, (.seq ⟨[(.str (.ofString "self") 318)]⟩ 0), #[]⟩
noncomputable def q59 (P : Params) : Obj := ⟨(.type "tuple"), none, (.seq #[] 0), #[]⟩
noncomputable def q60 (P : Params) : Obj := ⟨.none, none, (.func { name := (.ofString "__iter__"), qualname := (.ofString "filterfalse.__iter__"), params := (parOf (inOf 2 2)), body := (.stmts (bodOf (inOf 2 2))), scope := (scoOf (inOf 2 2)), globals := 0, closure := [], defaults := .none, kwdefaults := .none, doc := .none, pyModule := .none, annotations := none, code := .none, closureTuple := .none, builtins := 0 }), #[]⟩
noncomputable def q61 (P : Params) : Obj := ⟨(.type "code"), none, (.fields ⟨[(.str (.ofString "__iter__") 315), (.str (.ofString "filterfalse.__iter__") 316), (.str (.ofString "/claim/cut.py") 317), (.int 13 0), (.int 1 0), (.int 0 0), (.int 0 0), (.int 3 0), (.ref 54), (.bool true), (.int 276 0), (.ref 55), .none, (.ref 56), (.ref 57), (.ref 58), (.int 319 0), (.int 13 0), (.str (.ofString "/claim/cut.py") 320)]⟩), #[]⟩
noncomputable def q62 (P : Params) : Obj := ⟨(.type "function"), none, (.func { name := (.ofString "__iter__"), qualname := (.ofString "filterfalse.__iter__"), params := (parOf (inOf 2 2)), body := (.stmts (bodOf (inOf 2 2))), scope := (scoOf (inOf 2 2)), globals := 3, closure := [], defaults := .none, kwdefaults := .none, doc := .none, pyModule := (.str (.ofString "itertools") 289), annotations := none, code := (.ref 59), closureTuple := .none, builtins := 0 }), #[]⟩
noncomputable def q63 (P : Params) : Obj := ⟨(.type "tuple"), none, (.seq #[] 0), #[]⟩
noncomputable def q64 (P : Params) : Obj := ⟨.none, none, (.fields #[]), #[]⟩
noncomputable def q65 (P : Params) : Obj := ⟨(.type "tuple"), none, (.seq ⟨[(.str (.ofString "self") 325), (.str (.ofString "func") 326), (.str (.ofString "item") 327)]⟩ 0), #[]⟩
noncomputable def q66 (P : Params) : Obj := ⟨(.type "tuple"), none, (.seq #[] 0), #[]⟩
noncomputable def q67 (P : Params) : Obj := ⟨.none, none, (.func { name := (.ofString "__next__"), qualname := (.ofString "filterfalse.__next__"), params := (parOf (inOf 2 3)), body := (.stmts (bodOf (inOf 2 3))), scope := (scoOf (inOf 2 3)), globals := 0, closure := [], defaults := .none, kwdefaults := .none, doc := .none, pyModule := .none, annotations := none, code := .none, closureTuple := .none, builtins := 0 }), #[]⟩
noncomputable def q68 (P : Params) : Obj := ⟨(.type "code"), none, (.fields ⟨[(.str (.ofString "__next__") 322), (.str (.ofString "filterfalse.__next__") 323), (.str (.ofString "/claim/cut.py") 324), (.int 16 0), (.int 1 0), (.int 0 0), (.int 0 0), (.int 3 0), (.ref 61), (.bool true), (.int 276 0), (.ref 62), .none, (.ref 63), (.ref 64), (.ref 65), (.int 328 0), (.int 16 0), (.str (.ofString "/claim/cut.py") 329)]⟩), #[]⟩
noncomputable def q69 (P : Params) : Obj := ⟨(.type "function"), none, (.func { name := (.ofString "__next__"), qualname := (.ofString "filterfalse.__next__"), params := (parOf (inOf 2 3)), body := (.stmts (bodOf (inOf 2 3))), scope := (scoOf (inOf 2 3)), globals := 3, closure := [], defaults := .none, kwdefaults := .none, doc := .none, pyModule := (.str (.ofString "itertools") 289), annotations := none, code := (.ref 66), closureTuple := .none, builtins := 0 }), #[]⟩
noncomputable def q70 (P : Params) : Obj := ⟨(.type "tuple"), none, (.seq ⟨[(.str (.ofString "_func") 331), (.str (.ofString "_it") 332)]⟩ 0), #[]⟩
noncomputable def q71 (P : Params) : Obj := ⟨(.type "list"), none, (.seq ⟨[(.str (.ofString "_it") 303), (.str (.ofString "_func") 304)]⟩ 1), #[]⟩
noncomputable def q72 (P : Params) : Obj := ⟨(.type "dict"), none, (.dict ⟨[⟨PyData.keyHash P (.ofString "__module__"), (.str (.ofString "__module__") 298), (.str (.ofString "itertools") 289)⟩, ⟨PyData.keyHash P (.ofString "__firstlineno__"), (.str (.ofString "__firstlineno__") 302), (.int 6 301)⟩, ⟨PyData.keyHash P (.ofString "__slots__"), (.str (.ofString "__slots__") 305), (.ref 46)⟩, ⟨PyData.keyHash P (.ofString "__init__"), (.str (.ofString "__init__") 314), (.ref 53)⟩, ⟨PyData.keyHash P (.ofString "__iter__"), (.str (.ofString "__iter__") 321), (.ref 60)⟩, ⟨PyData.keyHash P (.ofString "__next__"), (.str (.ofString "__next__") 330), (.ref 67)⟩, ⟨PyData.keyHash P (.ofString "__static_attributes__"), (.str (.ofString "__static_attributes__") 333), (.ref 68)⟩, ⟨PyData.keyHash P (.ofString "_func"), (.str (.ofString "_func") 335), (.ref 72)⟩, ⟨PyData.keyHash P (.ofString "_it"), (.str (.ofString "_it") 337), (.ref 73)⟩, ⟨PyData.keyHash P (.ofString "__doc__"), (.str (.ofString "__doc__") 338), .none⟩]⟩ 4), #[]⟩
noncomputable def q73 (P : Params) : Obj := ⟨(.type "type"), none, (.cls { name := (.ofString "filterfalse"), bases := [(.type "object")], mro := [(.ref 71), (.type "object")], ns := 70, qualname := (.ofString "filterfalse"), hasDict := false, slotNames := [(.ofString "_func"), (.ofString "_it")], subclasses := [], abstract := false, collection := none, hasDel := false }), ⟨[none, none, (some (.str (.ofString "filterfalse") 291)), (some (.str (.ofString "filterfalse") 299)), (some (.builtin "object.__new__")), (some (.bool false))]⟩⟩
noncomputable def q74 (P : Params) : Obj := ⟨(.type "member_descriptor"), none, (.fields ⟨[(.str (.ofString "_func") 334), (.ref 71), (.builtin "proto.slot"), (.builtin "proto.slot#set"), (.int 1 0)]⟩), #[]⟩
noncomputable def q75 (P : Params) : Obj := ⟨(.type "member_descriptor"), none, (.fields ⟨[(.str (.ofString "_it") 336), (.ref 71), (.builtin "proto.slot"), (.builtin "proto.slot#set"), (.int 0 0)]⟩), #[]⟩
noncomputable def q76 (P : Params) : Obj := ⟨(.type "super"), none, (.fields ⟨[(.ref 71), (.ref 71), (.ref 71)]⟩), #[]⟩
noncomputable def q77 (P : Params) : Obj := ⟨(.type "builtin_function_or_method"), none, (.fields ⟨[(.builtin "object.__init_subclass__"), (.ref 71)]⟩), #[]⟩
noncomputable def q78 (P : Params) : Obj := ⟨(.type "tuple"), none, (.seq #[] 0), #[]⟩
noncomputable def q79 (P : Params) : Obj := ⟨.none, none, (.fields #[]), #[]⟩
noncomputable def q80 (P : Params) : Obj := ⟨(.type "tuple"), none, (.seq ⟨[(.str (.ofString "flist") 346), (.str (.ofString "skip") 347)]⟩ 0), #[]⟩
noncomputable def q81 (P : Params) : Obj := ⟨(.type "tuple"), none, (.seq #[] 0), #[]⟩
noncomputable def q82 (P : Params) : Obj := ⟨.none, none, (.func { name := (.ofString "_filter"), qualname := (.ofString "_filter"), params := (parOf (stOf 4)), body := (.stmts (bodOf (stOf 4))), scope := (scoOf (stOf 4)), globals := 0, closure := [], defaults := .none, kwdefaults := .none, doc := .none, pyModule := .none, annotations := none, code := .none, closureTuple := .none, builtins := 0 }), #[]⟩
noncomputable def q83 (P : Params) : Obj := ⟨(.type "code"), none, (.fields ⟨[(.str (.ofString "_filter") 343), (.str (.ofString "_filter") 344), (.str (.ofString "/claim/cut.py") 345), (.int 26 0), (.int 2 0), (.int 0 0), (.int 0 0), (.int 3 0), (.ref 76), (.bool true), (.int 276 0), (.ref 77), .none, (.ref 78), (.ref 79), (.ref 80), (.int 348 0), (.int 26 0), (.str (.ofString "/claim/cut.py") 349)]⟩), #[]⟩
noncomputable def q84 (P : Params) : Obj := ⟨(.type "function"), none, (.func { name := (.ofString "_filter"), qualname := (.ofString "_filter"), params := (parOf (stOf 4)), body := (.stmts (bodOf (stOf 4))), scope := (scoOf (stOf 4)), globals := 3, closure := [], defaults := .none, kwdefaults := .none, doc := .none, pyModule := (.str (.ofString "cpy313.filecmp") 341), annotations := none, code := (.ref 81), closureTuple := .none, builtins := 0 }), #[]⟩
noncomputable def t_g0 (P : Params) : BT := (.node (q0 P) (.node (q1 P) (.node (q32 P) (.node (q7 P) (.node (q15 P) (.node (q31 P) (.node (q65 P) .nil .nil) .nil) (.node (q49 P) (.node (q81 P) .nil .nil) .nil)) (.node (q23 P) (.node (q41 P) (.node (q73 P) .nil .nil) .nil) (.node (q57 P) .nil .nil))) (.node (q11 P) (.node (q19 P) (.node (q37 P) (.node (q69 P) .nil .nil) .nil) (.node (q53 P) .nil .nil)) (.node (q27 P) (.node (q45 P) (.node (q77 P) .nil .nil) .nil) (.node (q61 P) .nil .nil)))) (.node (q5 P) (.node (q9 P) (.node (q17 P) (.node (q35 P) (.node (q67 P) .nil .nil) .nil) (.node (q51 P) (.node (q83 P) .nil .nil) .nil)) (.node (q25 P) (.node (q43 P) (.node (q75 P) .nil .nil) .nil) (.node (q59 P) .nil .nil))) (.node (q13 P) (.node (q21 P) (.node (q39 P) (.node (q71 P) .nil .nil) .nil) (.node (q55 P) .nil .nil)) (.node (q33 P) (.node (q47 P) (.node (q79 P) .nil .nil) .nil) (.node (q63 P) .nil .nil))))) (.node (q2 P) (.node (q4 P) (.node (q8 P) (.node (q16 P) (.node (q34 P) (.node (q66 P) .nil .nil) .nil) (.node (q50 P) (.node (q82 P) .nil .nil) .nil)) (.node (q24 P) (.node (q42 P) (.node (q74 P) .nil .nil) .nil) (.node (q58 P) .nil .nil))) (.node (q12 P) (.node (q20 P) (.node (q38 P) (.node (q70 P) .nil .nil) .nil) (.node (q54 P) .nil .nil)) (.node (q28 P) (.node (q46 P) (.node (q78 P) .nil .nil) .nil) (.node (q62 P) .nil .nil)))) (.node (q6 P) (.node (q10 P) (.node (q18 P) (.node (q36 P) (.node (q68 P) .nil .nil) .nil) (.node (q52 P) (.node (q84 P) .nil .nil) .nil)) (.node (q26 P) (.node (q44 P) (.node (q76 P) .nil .nil) .nil) (.node (q60 P) .nil .nil))) (.node (q14 P) (.node (q22 P) (.node (q40 P) (.node (q72 P) .nil .nil) .nil) (.node (q56 P) .nil .nil)) (.node (q30 P) (.node (q48 P) (.node (q80 P) .nil .nil) .nil) (.node (q64 P) .nil .nil))))))
noncomputable def q85 (P : Params) : Obj := ⟨(.type "dict"), none, (.dict ⟨[⟨PyData.keyHash P (.ofString "__name__"), (.str (.ofString "__name__") 165), (.str (.ofString "re") 445)⟩, ⟨PyData.keyHash P (.ofString "__doc__"), (.str (.ofString "__doc__") 166), .none⟩, ⟨PyData.keyHash P (.ofString "__package__"), (.str (.ofString "__package__") 167), .none⟩, ⟨PyData.keyHash P (.ofString "__loader__"), (.str (.ofString "__loader__") 168), (.builtin "__main__.__loader__#opaque")⟩, ⟨PyData.keyHash P (.ofString "__spec__"), (.str (.ofString "__spec__") 169), .none⟩, ⟨PyData.keyHash P (.ofString "__annotations__"), (.str (.ofString "__annotations__") 170), (.ref 6)⟩, ⟨PyData.keyHash P (.ofString "__builtins__"), (.str (.ofString "__builtins__") 171), (.ref 4)⟩, ⟨PyData.keyHash P (.ofString "__file__"), (.str (.ofString "__file__") 173), (.str (.ofString "/claim/cut.py") 172)⟩, ⟨PyData.keyHash P (.ofString "__cached__"), (.str (.ofString "__cached__") 174), .none⟩, ⟨PyData.keyHash P (.ofString "_sre"), (.str (.ofString "_sre") 275), (.ref 12)⟩, ⟨PyData.keyHash P (.ofString "_wall"), (.str (.ofString "_wall") 288), (.ref 38)⟩, ⟨PyData.keyHash P (.ofString "filterfalse"), (.str (.ofString "filterfalse") 340), (.ref 71)⟩, ⟨PyData.keyHash P (.ofString "_filter"), (.str (.ofString "_filter") 350), (.ref 82)⟩, ⟨PyData.keyHash P (.ofString "_buffer"), (.str (.ofString "_buffer") 360), (.ref 89)⟩, ⟨PyData.keyHash P (.ofString "_truth"), (.str (.ofString "_truth") 368), (.ref 96)⟩, ⟨PyData.keyHash P (.ofString "_B64"), (.str (.ofString "_B64") 370), (.bytes ⟨[65, 66, 67, 68, 69, 70, 71, 72, 73, 74, 75, 76, 77, 78, 79, 80, 81, 82, 83, 84, 85, 86, 87, 88, 89, 90, 97, 98, 99, 100, 101, 102, 103, 104, 105, 106, 107, 108, 109, 110, 111, 112, 113, 114, 115, 116, 117, 118, 119, 120, 121, 122, 48, 49, 50, 51, 52, 53, 54, 55, 56, 57, 43, 47]⟩ 369)⟩, ⟨PyData.keyHash P (.ofString "b2a_base64"), (.str (.ofString "b2a_base64") 384), (.ref 104)⟩, ⟨PyData.keyHash P (.ofString "b64encode"), (.str (.ofString "b64encode") 395), (.ref 112)⟩, ⟨PyData.keyHash P (.ofString "_twin_re_1"), (.str (.ofString "_twin_re_1") 435), (.ref 117)⟩, ⟨PyData.keyHash P (.ofString "translate"), (.str (.ofString "translate") 444), (.ref 124)⟩]⟩ 20), #[]⟩
noncomputable def q86 (P : Params) : Obj := ⟨.none, none, (.fields ⟨[(.int 2 0), (.int 0 0), (.ref 37), (.int 6 0), (.int 0 0), (.ref 44), (.int 26 0), (.int 0 0), (.ref 81), (.int 29 0), (.int 0 0), (.ref 88), (.int 36 0), (.int 0 0), (.ref 95), (.int 42 0), (.int 0 0), (.ref 103), (.int 65 0), (.int 0 0), (.ref 111), (.int 73 0), (.int 0 0), (.ref 123)]⟩), #[]⟩
noncomputable def q87 (P : Params) : Obj := ⟨(.type "tuple"), none, (.seq #[] 0), #[]⟩
noncomputable def q88 (P : Params) : Obj := ⟨.none, none, (.fields #[]), #[]⟩
noncomputable def q89 (P : Params) : Obj := ⟨(.type "tuple"), none, (.seq ⟨[(.str (.ofString "data") 356), (.str (.ofString "t") 357)]⟩ 0), #[]⟩
noncomputable def q90 (P : Params) : Obj := ⟨(.type "tuple"), none, (.seq #[] 0), #[]⟩
noncomputable def q91 (P : Params) : Obj := ⟨.none, none, (.func { name := (.ofString "_buffer"), qualname := (.ofString "_buffer"), params := (parOf (stOf 6)), body := (.stmts (bodOf (stOf 6))), scope := (scoOf (stOf 6)), globals := 0, closure := [], defaults := .none, kwdefaults := .none, doc := .none, pyModule := .none, annotations := none, code := .none, closureTuple := .none, builtins := 0 }), #[]⟩
noncomputable def q92 (P : Params) : Obj := ⟨(.type "code"), none, (.fields ⟨[(.str (.ofString "_buffer") 353), (.str (.ofString "_buffer") 354), (.str (.ofString "/claim/cut.py") 355), (.int 29 0), (.int 1 0), (.int 0 0), (.int 0 0), (.int 3 0), (.ref 83), (.bool true), (.int 276 0), (.ref 84), .none, (.ref 85), (.ref 86), (.ref 87), (.int 358 0), (.int 29 0), (.str (.ofString "/claim/cut.py") 359)]⟩), #[]⟩
noncomputable def q93 (P : Params) : Obj := ⟨(.type "function"), none, (.func { name := (.ofString "_buffer"), qualname := (.ofString "_buffer"), params := (parOf (stOf 6)), body := (.stmts (bodOf (stOf 6))), scope := (scoOf (stOf 6)), globals := 3, closure := [], defaults := .none, kwdefaults := .none, doc := .none, pyModule := (.str (.ofString "binascii") 351), annotations := none, code := (.ref 88), closureTuple := .none, builtins := 0 }), #[]⟩
noncomputable def q94 (P : Params) : Obj := ⟨(.type "tuple"), none, (.seq #[] 0), #[]⟩
noncomputable def q95 (P : Params) : Obj := ⟨.none, none, (.fields #[]), #[]⟩
noncomputable def q96 (P : Params) : Obj := ⟨(.type "tuple"), none, (.seq ⟨[(.str (.ofString "x") 364), (.str (.ofString "t") 365)]⟩ 0), #[]⟩
noncomputable def q97 (P : Params) : Obj := ⟨(.type "tuple"), none, (.seq #[] 0), #[]⟩
noncomputable def q98 (P : Params) : Obj := ⟨.none, none, (.func { name := (.ofString "_truth"), qualname := (.ofString "_truth"), params := (parOf (stOf 7)), body := (.stmts (bodOf (stOf 7))), scope := (scoOf (stOf 7)), globals := 0, closure := [], defaults := .none, kwdefaults := .none, doc := .none, pyModule := .none, annotations := none, code := .none, closureTuple := .none, builtins := 0 }), #[]⟩
noncomputable def q99 (P : Params) : Obj := ⟨(.type "code"), none, (.fields ⟨[(.str (.ofString "_truth") 361), (.str (.ofString "_truth") 362), (.str (.ofString "/claim/cut.py") 363), (.int 36 0), (.int 1 0), (.int 0 0), (.int 0 0), (.int 3 0), (.ref 90), (.bool true), (.int 276 0), (.ref 91), .none, (.ref 92), (.ref 93), (.ref 94), (.int 366 0), (.int 36 0), (.str (.ofString "/claim/cut.py") 367)]⟩), #[]⟩
noncomputable def q100 (P : Params) : Obj := ⟨(.type "function"), none, (.func { name := (.ofString "_truth"), qualname := (.ofString "_truth"), params := (parOf (stOf 7)), body := (.stmts (bodOf (stOf 7))), scope := (scoOf (stOf 7)), globals := 3, closure := [], defaults := .none, kwdefaults := .none, doc := .none, pyModule := (.str (.ofString "binascii") 351), annotations := none, code := (.ref 95), closureTuple := .none, builtins := 0 }), #[]⟩
noncomputable def q101 (P : Params) : Obj := ⟨(.type "dict"), none, (.dict ⟨[⟨PyData.keyHash P (.ofString "newline"), (.str (.ofString "newline") 371), (.bool true)⟩]⟩ 1), #[]⟩
noncomputable def q102 (P : Params) : Obj := ⟨(.type "tuple"), none, (.seq #[] 0), #[]⟩
noncomputable def q103 (P : Params) : Obj := ⟨.none, none, (.fields #[]), #[]⟩
noncomputable def q104 (P : Params) : Obj := ⟨(.type "tuple"), none, (.seq ⟨[(.str (.ofString "data") 375), (.str (.ofString "newline") 376), (.str (.ofString "bin_data") 377), (.str (.ofString "out") 378), (.str (.ofString "leftbits") 379), (.str (.ofString "leftchar") 380), (.str (.ofString "b") 381)]⟩ 0), #[]⟩
noncomputable def q105 (P : Params) : Obj := ⟨(.type "tuple"), none, (.seq #[] 0), #[]⟩
noncomputable def q106 (P : Params) : Obj := ⟨.none, none, (.func { name := (.ofString "b2a_base64"), qualname := (.ofString "b2a_base64"), params := (parOf (stOf 9)), body := (.stmts (bodOf (stOf 9))), scope := (scoOf (stOf 9)), globals := 0, closure := [], defaults := .none, kwdefaults := .none, doc := .none, pyModule := .none, annotations := none, code := .none, closureTuple := .none, builtins := 0 }), #[]⟩
noncomputable def q107 (P : Params) : Obj := ⟨(.type "code"), none, (.fields ⟨[(.str (.ofString "b2a_base64") 372), (.str (.ofString "b2a_base64") 373), (.str (.ofString "/claim/cut.py") 374), (.int 42 0), (.int 1 0), (.int 1 0), (.int 1 0), (.int 3 0), (.ref 98), (.bool true), (.int 276 0), (.ref 99), .none, (.ref 100), (.ref 101), (.ref 102), (.int 382 0), (.int 42 0), (.str (.ofString "/claim/cut.py") 383)]⟩), #[]⟩
noncomputable def q108 (P : Params) : Obj := ⟨(.type "function"), none, (.func { name := (.ofString "b2a_base64"), qualname := (.ofString "b2a_base64"), params := (parOf (stOf 9)), body := (.stmts (bodOf (stOf 9))), scope := (scoOf (stOf 9)), globals := 3, closure := [], defaults := .none, kwdefaults := (.ref 97), doc := .none, pyModule := (.str (.ofString "binascii") 351), annotations := none, code := (.ref 103), closureTuple := .none, builtins := 0 }), #[]⟩
noncomputable def q109 (P : Params) : Obj := ⟨(.type "tuple"), none, (.seq ⟨[.none]⟩ 0), #[]⟩
noncomputable def q110 (P : Params) : Obj := ⟨(.type "tuple"), none, (.seq #[] 0), #[]⟩
noncomputable def q111 (P : Params) : Obj := ⟨.none, none, (.fields #[]), #[]⟩
noncomputable def q112 (P : Params) : Obj := ⟨(.type "tuple"), none, (.seq ⟨[(.str (.ofString "s") 390), (.str (.ofString "altchars") 391), (.str (.ofString "encoded") 392)]⟩ 0), #[]⟩
noncomputable def q113 (P : Params) : Obj := ⟨(.type "tuple"), none, (.seq #[] 0), #[]⟩
noncomputable def q114 (P : Params) : Obj := ⟨.none, none, (.func { name := (.ofString "b64encode"), qualname := (.ofString "b64encode"), params := (parOf (stOf 11)), body := (.stmts (bodOf (stOf 11))), scope := (scoOf (stOf 11)), globals := 0, closure := [], defaults := .none, kwdefaults := .none, doc := .none, pyModule := .none, annotations := none, code := .none, closureTuple := .none, builtins := 0 }), #[]⟩
noncomputable def q115 (P : Params) : Obj := ⟨(.type "code"), none, (.fields ⟨[(.str (.ofString "b64encode") 387), (.str (.ofString "b64encode") 388), (.str (.ofString "/claim/cut.py") 389), (.int 65 0), (.int 2 0), (.int 0 0), (.int 0 0), (.int 3 0), (.ref 106), (.bool true), (.int 276 0), (.ref 107), .none, (.ref 108), (.ref 109), (.ref 110), (.int 393 0), (.int 65 0), (.str (.ofString "/claim/cut.py") 394)]⟩), #[]⟩
noncomputable def q116 (P : Params) : Obj := ⟨(.type "function"), none, (.func { name := (.ofString "b64encode"), qualname := (.ofString "b64encode"), params := (parOf (stOf 11)), body := (.stmts (bodOf (stOf 11))), scope := (scoOf (stOf 11)), globals := 3, closure := [], defaults := (.ref 105), kwdefaults := .none, doc := .none, pyModule := (.str (.ofString "cpy313.base64") 385), annotations := none, code := (.ref 111), closureTuple := .none, builtins := 0 }), #[]⟩
noncomputable def q117 (P : Params) : Obj := ⟨(.type "list"), none, (.seq ⟨[(.int 14 401), (.int 14 402), (.int 4 403), (.int 1 404), (.int 1 405), (.int 9 406), (.int 0 407), (.int 64 408), (.int 0 409), (.int 1342177280 410), (.int 0 411), (.int 0 412), (.int 0 413), (.int 0 414), (.int 0 415), (.int 17 416), (.int 0 417), (.int 13 418), (.int 11 419), (.int 9 420), (.int 0 421), (.int 64 422), (.int 0 423), (.int 1342177280 424), (.int 0 425), (.int 0 426), (.int 0 427), (.int 0 428), (.int 0 429), (.int 17 430), (.int 1 431), (.int 1 432)]⟩ 0), #[]⟩
noncomputable def q118 (P : Params) : Obj := ⟨(.type "dict"), none, (.dict #[] 0), #[]⟩
noncomputable def q119 (P : Params) : Obj := ⟨(.type "tuple"), none, (.seq ⟨[.none, .none]⟩ 0), #[]⟩
noncomputable def q120 (P : Params) : Obj := ⟨(.type "tuple"), none, (.seq ⟨[(.int 14 0), (.int 14 0), (.int 4 0), (.int 1 0), (.int 1 0), (.int 9 0), (.int 0 0), (.int 64 0), (.int 0 0), (.int 1342177280 0), (.int 0 0), (.int 0 0), (.int 0 0), (.int 0 0), (.int 0 0), (.int 17 0), (.int 0 0), (.int 13 0), (.int 11 0), (.int 9 0), (.int 0 0), (.int 64 0), (.int 0 0), (.int 1342177280 0), (.int 0 0), (.int 0 0), (.int 0 0), (.int 0 0), (.int 0 0), (.int 17 0), (.int 1 0), (.int 1 0)]⟩ 0), #[]⟩
noncomputable def q121 (P : Params) : Obj := ⟨(.type "re.Pattern"), none, (.fields ⟨[(.str (.ofString "([&~|])") 399), (.int 32 434), (.int 1 0), .none, .none, (.ref 116), (.int 0 0)]⟩), #[]⟩
noncomputable def q122 (P : Params) : Obj := ⟨(.type "tuple"), none, (.seq #[] 0), #[]⟩
noncomputable def q123 (P : Params) : Obj := ⟨.none, none, (.fields #[]), #[]⟩
noncomputable def q124 (P : Params) : Obj := ⟨(.type "tuple"), none, (.seq ⟨[(.str (.ofString "pat") 439), (.str (.ofString "STAR") 440), (.str (.ofString "parts") 441)]⟩ 0), #[]⟩
noncomputable def q125 (P : Params) : Obj := ⟨(.type "tuple"), none, (.seq #[] 0), #[]⟩
noncomputable def q126 (P : Params) : Obj := ⟨.none, none, (.func { name := (.ofString "translate"), qualname := (.ofString "translate"), params := (parOf (stOf 14)), body := (.stmts (bodOf (stOf 14))), scope := (scoOf (stOf 14)), globals := 0, closure := [], defaults := .none, kwdefaults := .none, doc := .none, pyModule := .none, annotations := none, code := .none, closureTuple := .none, builtins := 0 }), #[]⟩
noncomputable def q127 (P : Params) : Obj := ⟨(.type "code"), none, (.fields ⟨[(.str (.ofString "translate") 436), (.str (.ofString "translate") 437), (.str (.ofString "/claim/cut.py") 438), (.int 73 0), (.int 1 0), (.int 0 0), (.int 0 0), (.int 3 0), (.ref 118), (.bool true), (.int 276 0), (.ref 119), .none, (.ref 120), (.ref 121), (.ref 122), (.int 442 0), (.int 73 0), (.str (.ofString "/claim/cut.py") 443)]⟩), #[]⟩
noncomputable def q128 (P : Params) : Obj := ⟨(.type "function"), none, (.func { name := (.ofString "translate"), qualname := (.ofString "translate"), params := (parOf (stOf 14)), body := (.stmts (bodOf (stOf 14))), scope := (scoOf (stOf 14)), globals := 3, closure := [], defaults := .none, kwdefaults := .none, doc := .none, pyModule := (.str (.ofString "cpy313.fnmatch") 396), annotations := none, code := (.ref 123), closureTuple := .none, builtins := 0 }), #[]⟩
noncomputable def t_g1 (P : Params) : BT := (.node (q0 P) (.node (q1 P) (.node (q85 P) (.node (q7 P) (.node (q15 P) (.node (q31 P) (.node (q65 P) .nil .nil) (.node (q99 P) .nil .nil)) (.node (q49 P) (.node (q81 P) .nil .nil) (.node (q115 P) .nil .nil))) (.node (q23 P) (.node (q41 P) (.node (q73 P) .nil .nil) (.node (q107 P) .nil .nil)) (.node (q57 P) (.node (q91 P) .nil .nil) (.node (q123 P) .nil .nil)))) (.node (q11 P) (.node (q19 P) (.node (q37 P) (.node (q69 P) .nil .nil) (.node (q103 P) .nil .nil)) (.node (q53 P) (.node (q87 P) .nil .nil) (.node (q119 P) .nil .nil))) (.node (q27 P) (.node (q45 P) (.node (q77 P) .nil .nil) (.node (q111 P) .nil .nil)) (.node (q61 P) (.node (q95 P) .nil .nil) (.node (q127 P) .nil .nil))))) (.node (q5 P) (.node (q9 P) (.node (q17 P) (.node (q35 P) (.node (q67 P) .nil .nil) (.node (q101 P) .nil .nil)) (.node (q51 P) (.node (q83 P) .nil .nil) (.node (q117 P) .nil .nil))) (.node (q25 P) (.node (q43 P) (.node (q75 P) .nil .nil) (.node (q109 P) .nil .nil)) (.node (q59 P) (.node (q93 P) .nil .nil) (.node (q125 P) .nil .nil)))) (.node (q13 P) (.node (q21 P) (.node (q39 P) (.node (q71 P) .nil .nil) (.node (q105 P) .nil .nil)) (.node (q55 P) (.node (q89 P) .nil .nil) (.node (q121 P) .nil .nil))) (.node (q86 P) (.node (q47 P) (.node (q79 P) .nil .nil) (.node (q113 P) .nil .nil)) (.node (q63 P) (.node (q97 P) .nil .nil) .nil))))) (.node (q2 P) (.node (q4 P) (.node (q8 P) (.node (q16 P) (.node (q34 P) (.node (q66 P) .nil .nil) (.node (q100 P) .nil .nil)) (.node (q50 P) (.node (q82 P) .nil .nil) (.node (q116 P) .nil .nil))) (.node (q24 P) (.node (q42 P) (.node (q74 P) .nil .nil) (.node (q108 P) .nil .nil)) (.node (q58 P) (.node (q92 P) .nil .nil) (.node (q124 P) .nil .nil)))) (.node (q12 P) (.node (q20 P) (.node (q38 P) (.node (q70 P) .nil .nil) (.node (q104 P) .nil .nil)) (.node (q54 P) (.node (q88 P) .nil .nil) (.node (q120 P) .nil .nil))) (.node (q28 P) (.node (q46 P) (.node (q78 P) .nil .nil) (.node (q112 P) .nil .nil)) (.node (q62 P) (.node (q96 P) .nil .nil) (.node (q128 P) .nil .nil))))) (.node (q6 P) (.node (q10 P) (.node (q18 P) (.node (q36 P) (.node (q68 P) .nil .nil) (.node (q102 P) .nil .nil)) (.node (q52 P) (.node (q84 P) .nil .nil) (.node (q118 P) .nil .nil))) (.node (q26 P) (.node (q44 P) (.node (q76 P) .nil .nil) (.node (q110 P) .nil .nil)) (.node (q60 P) (.node (q94 P) .nil .nil) (.node (q126 P) .nil .nil)))) (.node (q14 P) (.node (q22 P) (.node (q40 P) (.node (q72 P) .nil .nil) (.node (q106 P) .nil .nil)) (.node (q56 P) (.node (q90 P) .nil .nil) (.node (q122 P) .nil .nil))) (.node (q30 P) (.node (q48 P) (.node (q80 P) .nil .nil) (.node (q114 P) .nil .nil)) (.node (q64 P) (.node (q98 P) .nil .nil) .nil))))))
noncomputable def q129 (P : Params) : Obj := ⟨(.type "dict"), none, (.dict ⟨[⟨PyData.keyHash P (.ofString "__name__"), (.str (.ofString "__name__") 165), (.str (.ofString "re") 445)⟩, ⟨PyData.keyHash P (.ofString "__doc__"), (.str (.ofString "__doc__") 166), .none⟩, ⟨PyData.keyHash P (.ofString "__package__"), (.str (.ofString "__package__") 167), .none⟩, ⟨PyData.keyHash P (.ofString "__loader__"), (.str (.ofString "__loader__") 168), (.builtin "__main__.__loader__#opaque")⟩, ⟨PyData.keyHash P (.ofString "__spec__"), (.str (.ofString "__spec__") 169), .none⟩, ⟨PyData.keyHash P (.ofString "__annotations__"), (.str (.ofString "__annotations__") 170), (.ref 6)⟩, ⟨PyData.keyHash P (.ofString "__builtins__"), (.str (.ofString "__builtins__") 171), (.ref 4)⟩, ⟨PyData.keyHash P (.ofString "__file__"), (.str (.ofString "__file__") 173), (.str (.ofString "/claim/cut.py") 172)⟩, ⟨PyData.keyHash P (.ofString "__cached__"), (.str (.ofString "__cached__") 174), .none⟩, ⟨PyData.keyHash P (.ofString "_sre"), (.str (.ofString "_sre") 275), (.ref 12)⟩, ⟨PyData.keyHash P (.ofString "_wall"), (.str (.ofString "_wall") 288), (.ref 38)⟩, ⟨PyData.keyHash P (.ofString "filterfalse"), (.str (.ofString "filterfalse") 340), (.ref 71)⟩, ⟨PyData.keyHash P (.ofString "_filter"), (.str (.ofString "_filter") 350), (.ref 82)⟩, ⟨PyData.keyHash P (.ofString "_buffer"), (.str (.ofString "_buffer") 360), (.ref 89)⟩, ⟨PyData.keyHash P (.ofString "_truth"), (.str (.ofString "_truth") 368), (.ref 96)⟩, ⟨PyData.keyHash P (.ofString "_B64"), (.str (.ofString "_B64") 370), (.bytes ⟨[65, 66, 67, 68, 69, 70, 71, 72, 73, 74, 75, 76, 77, 78, 79, 80, 81, 82, 83, 84, 85, 86, 87, 88, 89, 90, 97, 98, 99, 100, 101, 102, 103, 104, 105, 106, 107, 108, 109, 110, 111, 112, 113, 114, 115, 116, 117, 118, 119, 120, 121, 122, 48, 49, 50, 51, 52, 53, 54, 55, 56, 57, 43, 47]⟩ 369)⟩, ⟨PyData.keyHash P (.ofString "b2a_base64"), (.str (.ofString "b2a_base64") 384), (.ref 104)⟩, ⟨PyData.keyHash P (.ofString "b64encode"), (.str (.ofString "b64encode") 395), (.ref 112)⟩, ⟨PyData.keyHash P (.ofString "_twin_re_1"), (.str (.ofString "_twin_re_1") 435), (.ref 117)⟩, ⟨PyData.keyHash P (.ofString "translate"), (.str (.ofString "translate") 444), (.ref 124)⟩, ⟨PyData.keyHash P (.ofString "_special_chars_map"), (.str (.ofString "_special_chars_map") 592), (.ref 126)⟩]⟩ 21), #[]⟩
noncomputable def q130 (P : Params) : Obj := ⟨(.type "bytes_iterator"), none, (.fields ⟨[.none, (.int 24 0)]⟩), #[]⟩
noncomputable def q131 (P : Params) : Obj := ⟨(.type "dict"), none, (.dict ⟨[⟨40, (.int 40 448), (.str (.ofString "\\(") 452)⟩, ⟨41, (.int 41 454), (.str (.ofString "\\)") 458)⟩, ⟨91, (.int 91 460), (.str (.ofString "\\[") 464)⟩, ⟨93, (.int 93 466), (.str (.ofString "\\]") 470)⟩, ⟨123, (.int 123 472), (.str (.ofString "\\{") 476)⟩, ⟨125, (.int 125 478), (.str (.ofString "\\}") 482)⟩, ⟨63, (.int 63 484), (.str (.ofString "\\?") 488)⟩, ⟨42, (.int 42 490), (.str (.ofString "\\*") 494)⟩, ⟨43, (.int 43 496), (.str (.ofString "\\+") 500)⟩, ⟨45, (.int 45 502), (.str (.ofString "\\-") 506)⟩, ⟨124, (.int 124 508), (.str (.ofString "\\|") 512)⟩, ⟨94, (.int 94 514), (.str (.ofString "\\^") 518)⟩, ⟨36, (.int 36 520), (.str (.ofString "\\$") 524)⟩, ⟨92, (.int 92 526), (.str (.ofString "\\\\") 530)⟩, ⟨46, (.int 46 532), (.str (.ofString "\\.") 536)⟩, ⟨38, (.int 38 538), (.str (.ofString "\\&") 542)⟩, ⟨126, (.int 126 544), (.str (.ofString "\\~") 548)⟩, ⟨35, (.int 35 550), (.str (.ofString "\\#") 554)⟩, ⟨32, (.int 32 556), (.str (.ofString "\\ ") 560)⟩, ⟨9, (.int 9 562), (.str (.ofString "\\\t") 566)⟩, ⟨10, (.int 10 568), (.str (.ofString "\\\n") 572)⟩, ⟨13, (.int 13 574), (.str (.ofString "\\\r") 578)⟩, ⟨11, (.int 11 580), (.str (.ofString "\\\x0b") 584)⟩, ⟨12, (.int 12 586), (.str (.ofString "\\\x0c") 590)⟩]⟩ 24), #[]⟩
noncomputable def q132 (P : Params) : Obj := ⟨(.type "dict"), none, (.dict #[] 2), #[]⟩
noncomputable def q133 (P : Params) : Obj := ⟨(.type "tuple"), none, (.seq #[] 0), #[]⟩
noncomputable def q134 (P : Params) : Obj := ⟨(.type "StopIteration"), none, (.fields ⟨[(.ref 128), .none, .none, .none, (.bool false), .none]⟩), #[]⟩
noncomputable def t_g2 (P : Params) : BT := (.node (q0 P) (.node (q1 P) (.node (q129 P) (.node (q7 P) (.node (q15 P) (.node (q31 P) (.node (q65 P) (.node (q132 P) .nil .nil) .nil) (.node (q99 P) .nil .nil)) (.node (q49 P) (.node (q81 P) .nil .nil) (.node (q115 P) .nil .nil))) (.node (q23 P) (.node (q41 P) (.node (q73 P) .nil .nil) (.node (q107 P) .nil .nil)) (.node (q57 P) (.node (q91 P) .nil .nil) (.node (q123 P) .nil .nil)))) (.node (q11 P) (.node (q19 P) (.node (q37 P) (.node (q69 P) .nil .nil) (.node (q103 P) .nil .nil)) (.node (q53 P) (.node (q87 P) .nil .nil) (.node (q119 P) .nil .nil))) (.node (q27 P) (.node (q45 P) (.node (q77 P) .nil .nil) (.node (q111 P) .nil .nil)) (.node (q61 P) (.node (q95 P) .nil .nil) (.node (q127 P) .nil .nil))))) (.node (q5 P) (.node (q9 P) (.node (q17 P) (.node (q35 P) (.node (q67 P) (.node (q134 P) .nil .nil) .nil) (.node (q101 P) .nil .nil)) (.node (q51 P) (.node (q83 P) .nil .nil) (.node (q117 P) .nil .nil))) (.node (q25 P) (.node (q43 P) (.node (q75 P) .nil .nil) (.node (q109 P) .nil .nil)) (.node (q59 P) (.node (q93 P) .nil .nil) (.node (q125 P) .nil .nil)))) (.node (q13 P) (.node (q21 P) (.node (q39 P) (.node (q71 P) .nil .nil) (.node (q105 P) .nil .nil)) (.node (q55 P) (.node (q89 P) .nil .nil) (.node (q121 P) .nil .nil))) (.node (q86 P) (.node (q47 P) (.node (q79 P) .nil .nil) (.node (q113 P) .nil .nil)) (.node (q63 P) (.node (q97 P) .nil .nil) (.node (q130 P) .nil .nil)))))) (.node (q2 P) (.node (q4 P) (.node (q8 P) (.node (q16 P) (.node (q34 P) (.node (q66 P) (.node (q133 P) .nil .nil) .nil) (.node (q100 P) .nil .nil)) (.node (q50 P) (.node (q82 P) .nil .nil) (.node (q116 P) .nil .nil))) (.node (q24 P) (.node (q42 P) (.node (q74 P) .nil .nil) (.node (q108 P) .nil .nil)) (.node (q58 P) (.node (q92 P) .nil .nil) (.node (q124 P) .nil .nil)))) (.node (q12 P) (.node (q20 P) (.node (q38 P) (.node (q70 P) .nil .nil) (.node (q104 P) .nil .nil)) (.node (q54 P) (.node (q88 P) .nil .nil) (.node (q120 P) .nil .nil))) (.node (q28 P) (.node (q46 P) (.node (q78 P) .nil .nil) (.node (q112 P) .nil .nil)) (.node (q62 P) (.node (q96 P) .nil .nil) (.node (q128 P) .nil .nil))))) (.node (q6 P) (.node (q10 P) (.node (q18 P) (.node (q36 P) (.node (q68 P) .nil .nil) (.node (q102 P) .nil .nil)) (.node (q52 P) (.node (q84 P) .nil .nil) (.node (q118 P) .nil .nil))) (.node (q26 P) (.node (q44 P) (.node (q76 P) .nil .nil) (.node (q110 P) .nil .nil)) (.node (q60 P) (.node (q94 P) .nil .nil) (.node (q126 P) .nil .nil)))) (.node (q14 P) (.node (q22 P) (.node (q40 P) (.node (q72 P) .nil .nil) (.node (q106 P) .nil .nil)) (.node (q56 P) (.node (q90 P) .nil .nil) (.node (q122 P) .nil .nil))) (.node (q30 P) (.node (q48 P) (.node (q80 P) .nil .nil) (.node (q114 P) .nil .nil)) (.node (q64 P) (.node (q98 P) .nil .nil) (.node (q131 P) .nil .nil)))))))
noncomputable def q135 (P : Params) : Obj := ⟨(.type "dict"), none, (.dict ⟨[⟨PyData.keyHash P (.ofString "__name__"), (.str (.ofString "__name__") 165), (.str (.ofString "law_il0115_01") 634)⟩, ⟨PyData.keyHash P (.ofString "__doc__"), (.str (.ofString "__doc__") 166), .none⟩, ⟨PyData.keyHash P (.ofString "__package__"), (.str (.ofString "__package__") 167), .none⟩, ⟨PyData.keyHash P (.ofString "__loader__"), (.str (.ofString "__loader__") 168), (.builtin "__main__.__loader__#opaque")⟩, ⟨PyData.keyHash P (.ofString "__spec__"), (.str (.ofString "__spec__") 169), .none⟩, ⟨PyData.keyHash P (.ofString "__annotations__"), (.str (.ofString "__annotations__") 170), (.ref 6)⟩, ⟨PyData.keyHash P (.ofString "__builtins__"), (.str (.ofString "__builtins__") 171), (.ref 4)⟩, ⟨PyData.keyHash P (.ofString "__file__"), (.str (.ofString "__file__") 173), (.str (.ofString "/claim/cut.py") 172)⟩, ⟨PyData.keyHash P (.ofString "__cached__"), (.str (.ofString "__cached__") 174), .none⟩, ⟨PyData.keyHash P (.ofString "_sre"), (.str (.ofString "_sre") 275), (.ref 12)⟩, ⟨PyData.keyHash P (.ofString "_wall"), (.str (.ofString "_wall") 288), (.ref 38)⟩, ⟨PyData.keyHash P (.ofString "filterfalse"), (.str (.ofString "filterfalse") 340), (.ref 71)⟩, ⟨PyData.keyHash P (.ofString "_filter"), (.str (.ofString "_filter") 350), (.ref 82)⟩, ⟨PyData.keyHash P (.ofString "_buffer"), (.str (.ofString "_buffer") 360), (.ref 89)⟩, ⟨PyData.keyHash P (.ofString "_truth"), (.str (.ofString "_truth") 368), (.ref 96)⟩, ⟨PyData.keyHash P (.ofString "_B64"), (.str (.ofString "_B64") 370), (.bytes ⟨[65, 66, 67, 68, 69, 70, 71, 72, 73, 74, 75, 76, 77, 78, 79, 80, 81, 82, 83, 84, 85, 86, 87, 88, 89, 90, 97, 98, 99, 100, 101, 102, 103, 104, 105, 106, 107, 108, 109, 110, 111, 112, 113, 114, 115, 116, 117, 118, 119, 120, 121, 122, 48, 49, 50, 51, 52, 53, 54, 55, 56, 57, 43, 47]⟩ 369)⟩, ⟨PyData.keyHash P (.ofString "b2a_base64"), (.str (.ofString "b2a_base64") 384), (.ref 104)⟩, ⟨PyData.keyHash P (.ofString "b64encode"), (.str (.ofString "b64encode") 395), (.ref 112)⟩, ⟨PyData.keyHash P (.ofString "_twin_re_1"), (.str (.ofString "_twin_re_1") 435), (.ref 117)⟩, ⟨PyData.keyHash P (.ofString "translate"), (.str (.ofString "translate") 444), (.ref 124)⟩, ⟨PyData.keyHash P (.ofString "_special_chars_map"), (.str (.ofString "_special_chars_map") 592), (.ref 126)⟩, ⟨PyData.keyHash P (.ofString "escape"), (.str (.ofString "escape") 599), (.ref 136)⟩, ⟨PyData.keyHash P (.ofString "_translate"), (.str (.ofString "_translate") 620), (.ref 143)⟩, ⟨PyData.keyHash P (.ofString "_join_translated_parts"), (.str (.ofString "_join_translated_parts") 633), (.ref 150)⟩, ⟨PyData.keyHash P (.ofString "_law_alphabet"), (.str (.ofString "_law_alphabet") 641), (.ref 157)⟩, ⟨PyData.keyHash P (.ofString "_law_written"), (.str (.ofString "_law_written") 647), (.ref 162)⟩, ⟨PyData.keyHash P (.ofString "_law_pattern"), (.str (.ofString "_law_pattern") 653), (.ref 167)⟩, ⟨PyData.keyHash P (.ofString "_law_items"), (.str (.ofString "_law_items") 665), (.ref 174)⟩, ⟨PyData.keyHash P (.ofString "_law_answer"), (.str (.ofString "_law_answer") 671), (.ref 179)⟩, ⟨PyData.keyHash P (.ofString "_law_out"), (.str (.ofString "_law_out") 677), (.ref 184)⟩, ⟨PyData.keyHash P (.ofString "_law_and"), (.str (.ofString "_law_and") 686), (.ref 191)⟩, ⟨PyData.keyHash P (.ofString "_law_any"), (.str (.ofString "_law_any") 696), (.ref 198)⟩, ⟨PyData.keyHash P (.ofString "_law_done"), (.str (.ofString "_law_done") 707), (.ref 205)⟩]⟩ 33), #[]⟩
noncomputable def q136 (P : Params) : Obj := ⟨.none, none, (.fields ⟨[(.int 2 0), (.int 0 0), (.ref 37), (.int 6 0), (.int 0 0), (.ref 44), (.int 26 0), (.int 0 0), (.ref 81), (.int 29 0), (.int 0 0), (.ref 88), (.int 36 0), (.int 0 0), (.ref 95), (.int 42 0), (.int 0 0), (.ref 103), (.int 65 0), (.int 0 0), (.ref 111), (.int 73 0), (.int 0 0), (.ref 123), (.int 79 0), (.int 0 0), (.ref 135), (.int 86 0), (.int 0 0), (.ref 142), (.int 148 0), (.int 0 0), (.ref 149), (.int 176 0), (.int 0 0), (.ref 156), (.int 178 0), (.int 0 0), (.ref 161), (.int 180 0), (.int 0 0), (.ref 166), (.int 184 0), (.int 0 0), (.ref 173), (.int 194 0), (.int 0 0), (.ref 178), (.int 197 0), (.int 0 0), (.ref 183), (.int 199 0), (.int 0 0), (.ref 190), (.int 201 0), (.int 0 0), (.ref 197), (.int 206 0), (.int 0 0), (.ref 204)]⟩), #[]⟩
noncomputable def q137 (P : Params) : Obj := ⟨(.type "tuple"), none, (.seq #[] 0), #[]⟩
noncomputable def q138 (P : Params) : Obj := ⟨.none, none, (.fields #[]), #[]⟩
noncomputable def q139 (P : Params) : Obj := ⟨(.type "tuple"), none, (.seq ⟨[(.str (.ofString "pattern") 596)]⟩ 0), #[]⟩
noncomputable def q140 (P : Params) : Obj := ⟨(.type "tuple"), none, (.seq #[] 0), #[]⟩
noncomputable def q141 (P : Params) : Obj := ⟨.none, none, (.func { name := (.ofString "escape"), qualname := (.ofString "escape"), params := (parOf (stOf 17)), body := (.stmts (bodOf (stOf 17))), scope := (scoOf (stOf 17)), globals := 0, closure := [], defaults := .none, kwdefaults := .none, doc := .none, pyModule := .none, annotations := none, code := .none, closureTuple := .none, builtins := 0 }), #[]⟩
noncomputable def q142 (P : Params) : Obj := ⟨(.type "code"), none, (.fields ⟨[(.str (.ofString "escape") 593), (.str (.ofString "escape") 594), (.str (.ofString "/claim/cut.py") 595), (.int 79 0), (.int 1 0), (.int 0 0), (.int 0 0), (.int 3 0), (.ref 130), (.bool true), (.int 276 0), (.ref 131), .none, (.ref 132), (.ref 133), (.ref 134), (.int 597 0), (.int 79 0), (.str (.ofString "/claim/cut.py") 598)]⟩), #[]⟩
noncomputable def q143 (P : Params) : Obj := ⟨(.type "function"), none, (.func { name := (.ofString "escape"), qualname := (.ofString "escape"), params := (parOf (stOf 17)), body := (.stmts (bodOf (stOf 17))), scope := (scoOf (stOf 17)), globals := 3, closure := [], defaults := .none, kwdefaults := .none, doc := .none, pyModule := (.str (.ofString "re") 445), annotations := none, code := (.ref 135), closureTuple := .none, builtins := 0 }), #[]⟩
noncomputable def q144 (P : Params) : Obj := ⟨(.type "tuple"), none, (.seq #[] 0), #[]⟩
noncomputable def q145 (P : Params) : Obj := ⟨.none, none, (.fields #[]), #[]⟩
noncomputable def q146 (P : Params) : Obj := ⟨(.type "tuple"), none, (.seq ⟨[(.str (.ofString "pat") 605), (.str (.ofString "STAR") 606), (.str (.ofString "QUESTION_MARK") 607), (.str (.ofString "res") 608), (.str (.ofString "add") 609), (.str (.ofString "i") 610), (.str (.ofString "n") 611), (.str (.ofString "c") 612), (.str (.ofString "j") 613), (.str (.ofString "stuff") 614), (.str (.ofString "chunks") 615), (.str (.ofString "k") 616), (.str (.ofString "chunk") 617)]⟩ 0), #[]⟩
noncomputable def q147 (P : Params) : Obj := ⟨(.type "tuple"), none, (.seq #[] 0), #[]⟩
noncomputable def q148 (P : Params) : Obj := ⟨.none, none, (.func { name := (.ofString "_translate"), qualname := (.ofString "_translate"), params := (parOf (stOf 19)), body := (.stmts (bodOf (stOf 19))), scope := (scoOf (stOf 19)), globals := 0, closure := [], defaults := .none, kwdefaults := .none, doc := .none, pyModule := .none, annotations := none, code := .none, closureTuple := .none, builtins := 0 }), #[]⟩
noncomputable def q149 (P : Params) : Obj := ⟨(.type "code"), none, (.fields ⟨[(.str (.ofString "_translate") 602), (.str (.ofString "_translate") 603), (.str (.ofString "/claim/cut.py") 604), (.int 86 0), (.int 3 0), (.int 0 0), (.int 0 0), (.int 3 0), (.ref 137), (.bool true), (.int 276 0), (.ref 138), .none, (.ref 139), (.ref 140), (.ref 141), (.int 618 0), (.int 86 0), (.str (.ofString "/claim/cut.py") 619)]⟩), #[]⟩
noncomputable def q150 (P : Params) : Obj := ⟨(.type "function"), none, (.func { name := (.ofString "_translate"), qualname := (.ofString "_translate"), params := (parOf (stOf 19)), body := (.stmts (bodOf (stOf 19))), scope := (scoOf (stOf 19)), globals := 3, closure := [], defaults := .none, kwdefaults := .none, doc := .none, pyModule := (.str (.ofString "cpy313.fnmatch") 600), annotations := none, code := (.ref 142), closureTuple := .none, builtins := 0 }), #[]⟩
noncomputable def q151 (P : Params) : Obj := ⟨(.type "tuple"), none, (.seq #[] 0), #[]⟩
noncomputable def q152 (P : Params) : Obj := ⟨.none, none, (.fields #[]), #[]⟩
noncomputable def q153 (P : Params) : Obj := ⟨(.type "tuple"), none, (.seq ⟨[(.str (.ofString "inp") 624), (.str (.ofString "STAR") 625), (.str (.ofString "res") 626), (.str (.ofString "add") 627), (.str (.ofString "i") 628), (.str (.ofString "n") 629), (.str (.ofString "fixed") 630)]⟩ 0), #[]⟩
noncomputable def q154 (P : Params) : Obj := ⟨(.type "tuple"), none, (.seq #[] 0), #[]⟩
noncomputable def q155 (P : Params) : Obj := ⟨.none, none, (.func { name := (.ofString "_join_translated_parts"), qualname := (.ofString "_join_translated_parts"), params := (parOf (stOf 20)), body := (.stmts (bodOf (stOf 20))), scope := (scoOf (stOf 20)), globals := 0, closure := [], defaults := .none, kwdefaults := .none, doc := .none, pyModule := .none, annotations := none, code := .none, closureTuple := .none, builtins := 0 }), #[]⟩
noncomputable def q156 (P : Params) : Obj := ⟨(.type "code"), none, (.fields ⟨[(.str (.ofString "_join_translated_parts") 621), (.str (.ofString "_join_translated_parts") 622), (.str (.ofString "/claim/cut.py") 623), (.int 148 0), (.int 2 0), (.int 0 0), (.int 0 0), (.int 3 0), (.ref 144), (.bool true), (.int 276 0), (.ref 145), .none, (.ref 146), (.ref 147), (.ref 148), (.int 631 0), (.int 148 0), (.str (.ofString "/claim/cut.py") 632)]⟩), #[]⟩
noncomputable def q157 (P : Params) : Obj := ⟨(.type "function"), none, (.func { name := (.ofString "_join_translated_parts"), qualname := (.ofString "_join_translated_parts"), params := (parOf (stOf 20)), body := (.stmts (bodOf (stOf 20))), scope := (scoOf (stOf 20)), globals := 3, closure := [], defaults := .none, kwdefaults := .none, doc := .none, pyModule := (.str (.ofString "cpy313.fnmatch") 600), annotations := none, code := (.ref 149), closureTuple := .none, builtins := 0 }), #[]⟩
noncomputable def q158 (P : Params) : Obj := ⟨(.type "tuple"), none, (.seq #[] 0), #[]⟩
noncomputable def q159 (P : Params) : Obj := ⟨.none, none, (.fields #[]), #[]⟩
noncomputable def q160 (P : Params) : Obj := ⟨(.type "tuple"), none, (.seq #[] 0), #[]⟩
noncomputable def q161 (P : Params) : Obj := ⟨(.type "tuple"), none, (.seq #[] 0), #[]⟩
noncomputable def q162 (P : Params) : Obj := ⟨.none, none, (.func { name := (.ofString "_law_alphabet"), qualname := (.ofString "_law_alphabet"), params := (parOf (stOf 22)), body := (.stmts (bodOf (stOf 22))), scope := (scoOf (stOf 22)), globals := 0, closure := [], defaults := .none, kwdefaults := .none, doc := .none, pyModule := .none, annotations := none, code := .none, closureTuple := .none, builtins := 0 }), #[]⟩
noncomputable def q163 (P : Params) : Obj := ⟨(.type "code"), none, (.fields ⟨[(.str (.ofString "_law_alphabet") 636), (.str (.ofString "_law_alphabet") 637), (.str (.ofString "/claim/cut.py") 638), (.int 176 0), (.int 0 0), (.int 0 0), (.int 0 0), (.int 3 0), (.ref 151), (.bool true), (.int 276 0), (.ref 152), .none, (.ref 153), (.ref 154), (.ref 155), (.int 639 0), (.int 176 0), (.str (.ofString "/claim/cut.py") 640)]⟩), #[]⟩
noncomputable def q164 (P : Params) : Obj := ⟨(.type "function"), none, (.func { name := (.ofString "_law_alphabet"), qualname := (.ofString "_law_alphabet"), params := (parOf (stOf 22)), body := (.stmts (bodOf (stOf 22))), scope := (scoOf (stOf 22)), globals := 3, closure := [], defaults := .none, kwdefaults := .none, doc := .none, pyModule := (.str (.ofString "law_il0115_01") 634), annotations := none, code := (.ref 156), closureTuple := .none, builtins := 0 }), #[]⟩
noncomputable def q165 (P : Params) : Obj := ⟨(.type "tuple"), none, (.seq #[] 0), #[]⟩
noncomputable def q166 (P : Params) : Obj := ⟨.none, none, (.fields #[]), #[]⟩
noncomputable def q167 (P : Params) : Obj := ⟨.none, none, (.func { name := (.ofString "_law_written"), qualname := (.ofString "_law_written"), params := (parOf (stOf 23)), body := (.stmts (bodOf (stOf 23))), scope := (scoOf (stOf 23)), globals := 0, closure := [], defaults := .none, kwdefaults := .none, doc := .none, pyModule := .none, annotations := none, code := .none, closureTuple := .none, builtins := 0 }), #[]⟩
noncomputable def q168 (P : Params) : Obj := ⟨(.type "code"), none, (.fields ⟨[(.str (.ofString "_law_written") 642), (.str (.ofString "_law_written") 643), (.str (.ofString "/claim/cut.py") 644), (.int 178 0), (.int 1 0), (.int 0 0), (.int 0 0), (.int 3 0), (.ref 158), (.bool true), (.int 276 0), (.ref 159), .none, .none, .none, (.ref 160), (.int 645 0), (.int 178 0), (.str (.ofString "/claim/cut.py") 646)]⟩), #[]⟩
noncomputable def q169 (P : Params) : Obj := ⟨(.type "function"), none, (.func { name := (.ofString "_law_written"), qualname := (.ofString "_law_written"), params := (parOf (stOf 23)), body := (.stmts (bodOf (stOf 23))), scope := (scoOf (stOf 23)), globals := 3, closure := [], defaults := .none, kwdefaults := .none, doc := .none, pyModule := (.str (.ofString "law_il0115_01") 634), annotations := none, code := (.ref 161), closureTuple := .none, builtins := 0 }), #[]⟩
noncomputable def q170 (P : Params) : Obj := ⟨(.type "tuple"), none, (.seq #[] 0), #[]⟩
noncomputable def q171 (P : Params) : Obj := ⟨.none, none, (.fields #[]), #[]⟩
noncomputable def q172 (P : Params) : Obj := ⟨.none, none, (.func { name := (.ofString "_law_pattern"), qualname := (.ofString "_law_pattern"), params := (parOf (stOf 24)), body := (.stmts (bodOf (stOf 24))), scope := (scoOf (stOf 24)), globals := 0, closure := [], defaults := .none, kwdefaults := .none, doc := .none, pyModule := .none, annotations := none, code := .none, closureTuple := .none, builtins := 0 }), #[]⟩
noncomputable def q173 (P : Params) : Obj := ⟨(.type "code"), none, (.fields ⟨[(.str (.ofString "_law_pattern") 648), (.str (.ofString "_law_pattern") 649), (.str (.ofString "/claim/cut.py") 650), (.int 180 0), (.int 1 0), (.int 0 0), (.int 0 0), (.int 3 0), (.ref 163), (.bool true), (.int 276 0), (.ref 164), .none, .none, .none, (.ref 165), (.int 651 0), (.int 180 0), (.str (.ofString "/claim/cut.py") 652)]⟩), #[]⟩
noncomputable def q174 (P : Params) : Obj := ⟨(.type "function"), none, (.func { name := (.ofString "_law_pattern"), qualname := (.ofString "_law_pattern"), params := (parOf (stOf 24)), body := (.stmts (bodOf (stOf 24))), scope := (scoOf (stOf 24)), globals := 3, closure := [], defaults := .none, kwdefaults := .none, doc := .none, pyModule := (.str (.ofString "law_il0115_01") 634), annotations := none, code := (.ref 166), closureTuple := .none, builtins := 0 }), #[]⟩
noncomputable def q175 (P : Params) : Obj := ⟨(.type "tuple"), none, (.seq #[] 0), #[]⟩
noncomputable def q176 (P : Params) : Obj := ⟨.none, none, (.fields #[]), #[]⟩
noncomputable def q177 (P : Params) : Obj := ⟨(.type "tuple"), none, (.seq ⟨[(.str (.ofString "made") 657), (.str (.ofString "text") 658), (.str (.ofString "place") 659), (.str (.ofString "items") 660), (.str (.ofString "end") 661), (.str (.ofString "inner") 662)]⟩ 0), #[]⟩
noncomputable def q178 (P : Params) : Obj := ⟨(.type "tuple"), none, (.seq #[] 0), #[]⟩
noncomputable def q179 (P : Params) : Obj := ⟨.none, none, (.func { name := (.ofString "_law_items"), qualname := (.ofString "_law_items"), params := (parOf (stOf 25)), body := (.stmts (bodOf (stOf 25))), scope := (scoOf (stOf 25)), globals := 0, closure := [], defaults := .none, kwdefaults := .none, doc := .none, pyModule := .none, annotations := none, code := .none, closureTuple := .none, builtins := 0 }), #[]⟩
noncomputable def q180 (P : Params) : Obj := ⟨(.type "code"), none, (.fields ⟨[(.str (.ofString "_law_items") 654), (.str (.ofString "_law_items") 655), (.str (.ofString "/claim/cut.py") 656), (.int 184 0), (.int 1 0), (.int 0 0), (.int 0 0), (.int 3 0), (.ref 168), (.bool true), (.int 276 0), (.ref 169), .none, (.ref 170), (.ref 171), (.ref 172), (.int 663 0), (.int 184 0), (.str (.ofString "/claim/cut.py") 664)]⟩), #[]⟩
noncomputable def q181 (P : Params) : Obj := ⟨(.type "function"), none, (.func { name := (.ofString "_law_items"), qualname := (.ofString "_law_items"), params := (parOf (stOf 25)), body := (.stmts (bodOf (stOf 25))), scope := (scoOf (stOf 25)), globals := 3, closure := [], defaults := .none, kwdefaults := .none, doc := .none, pyModule := (.str (.ofString "law_il0115_01") 634), annotations := none, code := (.ref 173), closureTuple := .none, builtins := 0 }), #[]⟩
noncomputable def q182 (P : Params) : Obj := ⟨(.type "tuple"), none, (.seq #[] 0), #[]⟩
noncomputable def q183 (P : Params) : Obj := ⟨.none, none, (.fields #[]), #[]⟩
noncomputable def q184 (P : Params) : Obj := ⟨.none, none, (.func { name := (.ofString "_law_answer"), qualname := (.ofString "_law_answer"), params := (parOf (stOf 26)), body := (.stmts (bodOf (stOf 26))), scope := (scoOf (stOf 26)), globals := 0, closure := [], defaults := .none, kwdefaults := .none, doc := .none, pyModule := .none, annotations := none, code := .none, closureTuple := .none, builtins := 0 }), #[]⟩
noncomputable def q185 (P : Params) : Obj := ⟨(.type "code"), none, (.fields ⟨[(.str (.ofString "_law_answer") 666), (.str (.ofString "_law_answer") 667), (.str (.ofString "/claim/cut.py") 668), (.int 194 0), (.int 2 0), (.int 0 0), (.int 0 0), (.int 3 0), (.ref 175), (.bool true), (.int 276 0), (.ref 176), .none, .none, .none, (.ref 177), (.int 669 0), (.int 194 0), (.str (.ofString "/claim/cut.py") 670)]⟩), #[]⟩
noncomputable def q186 (P : Params) : Obj := ⟨(.type "function"), none, (.func { name := (.ofString "_law_answer"), qualname := (.ofString "_law_answer"), params := (parOf (stOf 26)), body := (.stmts (bodOf (stOf 26))), scope := (scoOf (stOf 26)), globals := 3, closure := [], defaults := .none, kwdefaults := .none, doc := .none, pyModule := (.str (.ofString "law_il0115_01") 634), annotations := none, code := (.ref 178), closureTuple := .none, builtins := 0 }), #[]⟩
noncomputable def q187 (P : Params) : Obj := ⟨(.type "tuple"), none, (.seq #[] 0), #[]⟩
noncomputable def q188 (P : Params) : Obj := ⟨.none, none, (.fields #[]), #[]⟩
noncomputable def q189 (P : Params) : Obj := ⟨.none, none, (.func { name := (.ofString "_law_out"), qualname := (.ofString "_law_out"), params := (parOf (stOf 27)), body := (.stmts (bodOf (stOf 27))), scope := (scoOf (stOf 27)), globals := 0, closure := [], defaults := .none, kwdefaults := .none, doc := .none, pyModule := .none, annotations := none, code := .none, closureTuple := .none, builtins := 0 }), #[]⟩
noncomputable def q190 (P : Params) : Obj := ⟨(.type "code"), none, (.fields ⟨[(.str (.ofString "_law_out") 672), (.str (.ofString "_law_out") 673), (.str (.ofString "/claim/cut.py") 674), (.int 197 0), (.int 2 0), (.int 0 0), (.int 0 0), (.int 3 0), (.ref 180), (.bool true), (.int 276 0), (.ref 181), .none, .none, .none, (.ref 182), (.int 675 0), (.int 197 0), (.str (.ofString "/claim/cut.py") 676)]⟩), #[]⟩
noncomputable def q191 (P : Params) : Obj := ⟨(.type "function"), none, (.func { name := (.ofString "_law_out"), qualname := (.ofString "_law_out"), params := (parOf (stOf 27)), body := (.stmts (bodOf (stOf 27))), scope := (scoOf (stOf 27)), globals := 3, closure := [], defaults := .none, kwdefaults := .none, doc := .none, pyModule := (.str (.ofString "law_il0115_01") 634), annotations := none, code := (.ref 183), closureTuple := .none, builtins := 0 }), #[]⟩
noncomputable def q192 (P : Params) : Obj := ⟨(.type "tuple"), none, (.seq #[] 0), #[]⟩
noncomputable def q193 (P : Params) : Obj := ⟨.none, none, (.fields #[]), #[]⟩
noncomputable def q194 (P : Params) : Obj := ⟨(.type "tuple"), none, (.seq ⟨[(.str (.ofString "texts") 681), (.str (.ofString "one") 682), (.str (.ofString "two") 683)]⟩ 0), #[]⟩
noncomputable def q195 (P : Params) : Obj := ⟨(.type "tuple"), none, (.seq #[] 0), #[]⟩
noncomputable def q196 (P : Params) : Obj := ⟨.none, none, (.func { name := (.ofString "_law_and"), qualname := (.ofString "_law_and"), params := (parOf (stOf 28)), body := (.stmts (bodOf (stOf 28))), scope := (scoOf (stOf 28)), globals := 0, closure := [], defaults := .none, kwdefaults := .none, doc := .none, pyModule := .none, annotations := none, code := .none, closureTuple := .none, builtins := 0 }), #[]⟩
noncomputable def q197 (P : Params) : Obj := ⟨(.type "code"), none, (.fields ⟨[(.str (.ofString "_law_and") 678), (.str (.ofString "_law_and") 679), (.str (.ofString "/claim/cut.py") 680), (.int 199 0), (.int 3 0), (.int 0 0), (.int 0 0), (.int 3 0), (.ref 185), (.bool true), (.int 276 0), (.ref 186), .none, (.ref 187), (.ref 188), (.ref 189), (.int 684 0), (.int 199 0), (.str (.ofString "/claim/cut.py") 685)]⟩), #[]⟩
noncomputable def q198 (P : Params) : Obj := ⟨(.type "function"), none, (.func { name := (.ofString "_law_and"), qualname := (.ofString "_law_and"), params := (parOf (stOf 28)), body := (.stmts (bodOf (stOf 28))), scope := (scoOf (stOf 28)), globals := 3, closure := [], defaults := .none, kwdefaults := .none, doc := .none, pyModule := (.str (.ofString "law_il0115_01") 634), annotations := none, code := (.ref 190), closureTuple := .none, builtins := 0 }), #[]⟩
noncomputable def q199 (P : Params) : Obj := ⟨(.type "tuple"), none, (.seq #[] 0), #[]⟩
noncomputable def q200 (P : Params) : Obj := ⟨.none, none, (.fields #[]), #[]⟩
noncomputable def q201 (P : Params) : Obj := ⟨(.type "tuple"), none, (.seq ⟨[(.str (.ofString "texts") 690), (.str (.ofString "answers") 691), (.str (.ofString "last") 692), (.str (.ofString "answer") 693)]⟩ 0), #[]⟩
noncomputable def q202 (P : Params) : Obj := ⟨(.type "tuple"), none, (.seq #[] 0), #[]⟩
noncomputable def q203 (P : Params) : Obj := ⟨.none, none, (.func { name := (.ofString "_law_any"), qualname := (.ofString "_law_any"), params := (parOf (stOf 29)), body := (.stmts (bodOf (stOf 29))), scope := (scoOf (stOf 29)), globals := 0, closure := [], defaults := .none, kwdefaults := .none, doc := .none, pyModule := .none, annotations := none, code := .none, closureTuple := .none, builtins := 0 }), #[]⟩
noncomputable def q204 (P : Params) : Obj := ⟨(.type "code"), none, (.fields ⟨[(.str (.ofString "_law_any") 687), (.str (.ofString "_law_any") 688), (.str (.ofString "/claim/cut.py") 689), (.int 201 0), (.int 2 0), (.int 0 0), (.int 0 0), (.int 3 0), (.ref 192), (.bool true), (.int 276 0), (.ref 193), .none, (.ref 194), (.ref 195), (.ref 196), (.int 694 0), (.int 201 0), (.str (.ofString "/claim/cut.py") 695)]⟩), #[]⟩
noncomputable def q205 (P : Params) : Obj := ⟨(.type "function"), none, (.func { name := (.ofString "_law_any"), qualname := (.ofString "_law_any"), params := (parOf (stOf 29)), body := (.stmts (bodOf (stOf 29))), scope := (scoOf (stOf 29)), globals := 3, closure := [], defaults := .none, kwdefaults := .none, doc := .none, pyModule := (.str (.ofString "law_il0115_01") 634), annotations := none, code := (.ref 197), closureTuple := .none, builtins := 0 }), #[]⟩
noncomputable def q206 (P : Params) : Obj := ⟨(.type "tuple"), none, (.seq #[] 0), #[]⟩
noncomputable def q207 (P : Params) : Obj := ⟨.none, none, (.fields #[]), #[]⟩
noncomputable def q208 (P : Params) : Obj := ⟨(.type "tuple"), none, (.seq ⟨[(.str (.ofString "texts") 700), (.str (.ofString "stack") 701), (.str (.ofString "x") 702), (.str (.ofString "one") 703), (.str (.ofString "two") 704)]⟩ 0), #[]⟩
noncomputable def q209 (P : Params) : Obj := ⟨(.type "tuple"), none, (.seq #[] 0), #[]⟩
noncomputable def q210 (P : Params) : Obj := ⟨.none, none, (.func { name := (.ofString "_law_done"), qualname := (.ofString "_law_done"), params := (parOf (stOf 30)), body := (.stmts (bodOf (stOf 30))), scope := (scoOf (stOf 30)), globals := 0, closure := [], defaults := .none, kwdefaults := .none, doc := .none, pyModule := .none, annotations := none, code := .none, closureTuple := .none, builtins := 0 }), #[]⟩
noncomputable def q211 (P : Params) : Obj := ⟨(.type "code"), none, (.fields ⟨[(.str (.ofString "_law_done") 697), (.str (.ofString "_law_done") 698), (.str (.ofString "/claim/cut.py") 699), (.int 206 0), (.int 3 0), (.int 0 0), (.int 0 0), (.int 3 0), (.ref 199), (.bool true), (.int 276 0), (.ref 200), .none, (.ref 201), (.ref 202), (.ref 203), (.int 705 0), (.int 206 0), (.str (.ofString "/claim/cut.py") 706)]⟩), #[]⟩
noncomputable def q212 (P : Params) : Obj := ⟨(.type "function"), none, (.func { name := (.ofString "_law_done"), qualname := (.ofString "_law_done"), params := (parOf (stOf 30)), body := (.stmts (bodOf (stOf 30))), scope := (scoOf (stOf 30)), globals := 3, closure := [], defaults := .none, kwdefaults := .none, doc := .none, pyModule := (.str (.ofString "law_il0115_01") 634), annotations := none, code := (.ref 204), closureTuple := .none, builtins := 0 }), #[]⟩
noncomputable def t_g3 (P : Params) : BT := (.node (q0 P) (.node (q1 P) (.node (q135 P) (.node (q7 P) (.node (q15 P) (.node (q31 P) (.node (q65 P) (.node (q132 P) .nil .nil) (.node (q198 P) .nil .nil)) (.node (q99 P) (.node (q166 P) .nil .nil) .nil)) (.node (q49 P) (.node (q81 P) (.node (q150 P) .nil .nil) .nil) (.node (q115 P) (.node (q182 P) .nil .nil) .nil))) (.node (q23 P) (.node (q41 P) (.node (q73 P) (.node (q142 P) .nil .nil) (.node (q206 P) .nil .nil)) (.node (q107 P) (.node (q174 P) .nil .nil) .nil)) (.node (q57 P) (.node (q91 P) (.node (q158 P) .nil .nil) .nil) (.node (q123 P) (.node (q190 P) .nil .nil) .nil)))) (.node (q11 P) (.node (q19 P) (.node (q37 P) (.node (q69 P) (.node (q138 P) .nil .nil) (.node (q202 P) .nil .nil)) (.node (q103 P) (.node (q170 P) .nil .nil) .nil)) (.node (q53 P) (.node (q87 P) (.node (q154 P) .nil .nil) .nil) (.node (q119 P) (.node (q186 P) .nil .nil) .nil))) (.node (q27 P) (.node (q45 P) (.node (q77 P) (.node (q146 P) .nil .nil) (.node (q210 P) .nil .nil)) (.node (q111 P) (.node (q178 P) .nil .nil) .nil)) (.node (q61 P) (.node (q95 P) (.node (q162 P) .nil .nil) .nil) (.node (q127 P) (.node (q194 P) .nil .nil) .nil))))) (.node (q5 P) (.node (q9 P) (.node (q17 P) (.node (q35 P) (.node (q67 P) (.node (q134 P) .nil .nil) (.node (q200 P) .nil .nil)) (.node (q101 P) (.node (q168 P) .nil .nil) .nil)) (.node (q51 P) (.node (q83 P) (.node (q152 P) .nil .nil) .nil) (.node (q117 P) (.node (q184 P) .nil .nil) .nil))) (.node (q25 P) (.node (q43 P) (.node (q75 P) (.node (q144 P) .nil .nil) (.node (q208 P) .nil .nil)) (.node (q109 P) (.node (q176 P) .nil .nil) .nil)) (.node (q59 P) (.node (q93 P) (.node (q160 P) .nil .nil) .nil) (.node (q125 P) (.node (q192 P) .nil .nil) .nil)))) (.node (q13 P) (.node (q21 P) (.node (q39 P) (.node (q71 P) (.node (q140 P) .nil .nil) (.node (q204 P) .nil .nil)) (.node (q105 P) (.node (q172 P) .nil .nil) .nil)) (.node (q55 P) (.node (q89 P) (.node (q156 P) .nil .nil) .nil) (.node (q121 P) (.node (q188 P) .nil .nil) .nil))) (.node (q136 P) (.node (q47 P) (.node (q79 P) (.node (q148 P) .nil .nil) (.node (q212 P) .nil .nil)) (.node (q113 P) (.node (q180 P) .nil .nil) .nil)) (.node (q63 P) (.node (q97 P) (.node (q164 P) .nil .nil) .nil) (.node (q130 P) (.node (q196 P) .nil .nil) .nil)))))) (.node (q2 P) (.node (q4 P) (.node (q8 P) (.node (q16 P) (.node (q34 P) (.node (q66 P) (.node (q133 P) .nil .nil) (.node (q199 P) .nil .nil)) (.node (q100 P) (.node (q167 P) .nil .nil) .nil)) (.node (q50 P) (.node (q82 P) (.node (q151 P) .nil .nil) .nil) (.node (q116 P) (.node (q183 P) .nil .nil) .nil))) (.node (q24 P) (.node (q42 P) (.node (q74 P) (.node (q143 P) .nil .nil) (.node (q207 P) .nil .nil)) (.node (q108 P) (.node (q175 P) .nil .nil) .nil)) (.node (q58 P) (.node (q92 P) (.node (q159 P) .nil .nil) .nil) (.node (q124 P) (.node (q191 P) .nil .nil) .nil)))) (.node (q12 P) (.node (q20 P) (.node (q38 P) (.node (q70 P) (.node (q139 P) .nil .nil) (.node (q203 P) .nil .nil)) (.node (q104 P) (.node (q171 P) .nil .nil) .nil)) (.node (q54 P) (.node (q88 P) (.node (q155 P) .nil .nil) .nil) (.node (q120 P) (.node (q187 P) .nil .nil) .nil))) (.node (q28 P) (.node (q46 P) (.node (q78 P) (.node (q147 P) .nil .nil) (.node (q211 P) .nil .nil)) (.node (q112 P) (.node (q179 P) .nil .nil) .nil)) (.node (q62 P) (.node (q96 P) (.node (q163 P) .nil .nil) .nil) (.node (q128 P) (.node (q195 P) .nil .nil) .nil))))) (.node (q6 P) (.node (q10 P) (.node (q18 P) (.node (q36 P) (.node (q68 P) (.node (q137 P) .nil .nil) (.node (q201 P) .nil .nil)) (.node (q102 P) (.node (q169 P) .nil .nil) .nil)) (.node (q52 P) (.node (q84 P) (.node (q153 P) .nil .nil) .nil) (.node (q118 P) (.node (q185 P) .nil .nil) .nil))) (.node (q26 P) (.node (q44 P) (.node (q76 P) (.node (q145 P) .nil .nil) (.node (q209 P) .nil .nil)) (.node (q110 P) (.node (q177 P) .nil .nil) .nil)) (.node (q60 P) (.node (q94 P) (.node (q161 P) .nil .nil) .nil) (.node (q126 P) (.node (q193 P) .nil .nil) .nil)))) (.node (q14 P) (.node (q22 P) (.node (q40 P) (.node (q72 P) (.node (q141 P) .nil .nil) (.node (q205 P) .nil .nil)) (.node (q106 P) (.node (q173 P) .nil .nil) .nil)) (.node (q56 P) (.node (q90 P) (.node (q157 P) .nil .nil) .nil) (.node (q122 P) (.node (q189 P) .nil .nil) .nil))) (.node (q30 P) (.node (q48 P) (.node (q80 P) (.node (q149 P) .nil .nil) .nil) (.node (q114 P) (.node (q181 P) .nil .nil) .nil)) (.node (q64 P) (.node (q98 P) (.node (q165 P) .nil .nil) .nil) (.node (q131 P) (.node (q197 P) .nil .nil) .nil)))))))
noncomputable def q213 (P : Params) : Obj := ⟨(.type "dict"), none, (.dict ⟨[⟨PyData.keyHash P (.ofString "__name__"), (.str (.ofString "__name__") 165), (.str (.ofString "law_il0115_01") 634)⟩, ⟨PyData.keyHash P (.ofString "__doc__"), (.str (.ofString "__doc__") 166), .none⟩, ⟨PyData.keyHash P (.ofString "__package__"), (.str (.ofString "__package__") 167), .none⟩, ⟨PyData.keyHash P (.ofString "__loader__"), (.str (.ofString "__loader__") 168), (.builtin "__main__.__loader__#opaque")⟩, ⟨PyData.keyHash P (.ofString "__spec__"), (.str (.ofString "__spec__") 169), .none⟩, ⟨PyData.keyHash P (.ofString "__annotations__"), (.str (.ofString "__annotations__") 170), (.ref 6)⟩, ⟨PyData.keyHash P (.ofString "__builtins__"), (.str (.ofString "__builtins__") 171), (.ref 4)⟩, ⟨PyData.keyHash P (.ofString "__file__"), (.str (.ofString "__file__") 173), (.str (.ofString "/claim/cut.py") 172)⟩, ⟨PyData.keyHash P (.ofString "__cached__"), (.str (.ofString "__cached__") 174), .none⟩, ⟨PyData.keyHash P (.ofString "_sre"), (.str (.ofString "_sre") 275), (.ref 12)⟩, ⟨PyData.keyHash P (.ofString "_wall"), (.str (.ofString "_wall") 288), (.ref 38)⟩, ⟨PyData.keyHash P (.ofString "filterfalse"), (.str (.ofString "filterfalse") 340), (.ref 71)⟩, ⟨PyData.keyHash P (.ofString "_filter"), (.str (.ofString "_filter") 350), (.ref 82)⟩, ⟨PyData.keyHash P (.ofString "_buffer"), (.str (.ofString "_buffer") 360), (.ref 89)⟩, ⟨PyData.keyHash P (.ofString "_truth"), (.str (.ofString "_truth") 368), (.ref 96)⟩, ⟨PyData.keyHash P (.ofString "_B64"), (.str (.ofString "_B64") 370), (.bytes ⟨[65, 66, 67, 68, 69, 70, 71, 72, 73, 74, 75, 76, 77, 78, 79, 80, 81, 82, 83, 84, 85, 86, 87, 88, 89, 90, 97, 98, 99, 100, 101, 102, 103, 104, 105, 106, 107, 108, 109, 110, 111, 112, 113, 114, 115, 116, 117, 118, 119, 120, 121, 122, 48, 49, 50, 51, 52, 53, 54, 55, 56, 57, 43, 47]⟩ 369)⟩, ⟨PyData.keyHash P (.ofString "b2a_base64"), (.str (.ofString "b2a_base64") 384), (.ref 104)⟩, ⟨PyData.keyHash P (.ofString "b64encode"), (.str (.ofString "b64encode") 395), (.ref 112)⟩, ⟨PyData.keyHash P (.ofString "_twin_re_1"), (.str (.ofString "_twin_re_1") 435), (.ref 117)⟩, ⟨PyData.keyHash P (.ofString "translate"), (.str (.ofString "translate") 444), (.ref 124)⟩, ⟨PyData.keyHash P (.ofString "_special_chars_map"), (.str (.ofString "_special_chars_map") 592), (.ref 126)⟩, ⟨PyData.keyHash P (.ofString "escape"), (.str (.ofString "escape") 599), (.ref 136)⟩, ⟨PyData.keyHash P (.ofString "_translate"), (.str (.ofString "_translate") 620), (.ref 143)⟩, ⟨PyData.keyHash P (.ofString "_join_translated_parts"), (.str (.ofString "_join_translated_parts") 633), (.ref 150)⟩, ⟨PyData.keyHash P (.ofString "_law_alphabet"), (.str (.ofString "_law_alphabet") 641), (.ref 157)⟩, ⟨PyData.keyHash P (.ofString "_law_written"), (.str (.ofString "_law_written") 647), (.ref 162)⟩, ⟨PyData.keyHash P (.ofString "_law_pattern"), (.str (.ofString "_law_pattern") 653), (.ref 167)⟩, ⟨PyData.keyHash P (.ofString "_law_items"), (.str (.ofString "_law_items") 665), (.ref 174)⟩, ⟨PyData.keyHash P (.ofString "_law_answer"), (.str (.ofString "_law_answer") 671), (.ref 179)⟩, ⟨PyData.keyHash P (.ofString "_law_out"), (.str (.ofString "_law_out") 677), (.ref 184)⟩, ⟨PyData.keyHash P (.ofString "_law_and"), (.str (.ofString "_law_and") 686), (.ref 191)⟩, ⟨PyData.keyHash P (.ofString "_law_any"), (.str (.ofString "_law_any") 696), (.ref 198)⟩, ⟨PyData.keyHash P (.ofString "_law_done"), (.str (.ofString "_law_done") 707), (.ref 205)⟩, ⟨PyData.keyHash P (.ofString "_law_told"), (.str (.ofString "_law_told") 713), (.ref 210)⟩, ⟨PyData.keyHash P (.ofString "law"), (.str (.ofString "law") 719), (.ref 215)⟩]⟩ 35), #[]⟩
noncomputable def q214 (P : Params) : Obj := ⟨.none, none, (.fields ⟨[(.int 2 0), (.int 0 0), (.ref 37), (.int 6 0), (.int 0 0), (.ref 44), (.int 26 0), (.int 0 0), (.ref 81), (.int 29 0), (.int 0 0), (.ref 88), (.int 36 0), (.int 0 0), (.ref 95), (.int 42 0), (.int 0 0), (.ref 103), (.int 65 0), (.int 0 0), (.ref 111), (.int 73 0), (.int 0 0), (.ref 123), (.int 79 0), (.int 0 0), (.ref 135), (.int 86 0), (.int 0 0), (.ref 142), (.int 148 0), (.int 0 0), (.ref 149), (.int 176 0), (.int 0 0), (.ref 156), (.int 178 0), (.int 0 0), (.ref 161), (.int 180 0), (.int 0 0), (.ref 166), (.int 184 0), (.int 0 0), (.ref 173), (.int 194 0), (.int 0 0), (.ref 178), (.int 197 0), (.int 0 0), (.ref 183), (.int 199 0), (.int 0 0), (.ref 190), (.int 201 0), (.int 0 0), (.ref 197), (.int 206 0), (.int 0 0), (.ref 204), (.int 215 0), (.int 0 0), (.ref 209), (.int 222 0), (.int 0 0), (.ref 214)]⟩), #[]⟩
noncomputable def q215 (P : Params) : Obj := ⟨(.type "tuple"), none, (.seq #[] 0), #[]⟩
noncomputable def q216 (P : Params) : Obj := ⟨.none, none, (.fields #[]), #[]⟩
noncomputable def q217 (P : Params) : Obj := ⟨.none, none, (.func { name := (.ofString "_law_told"), qualname := (.ofString "_law_told"), params := (parOf (stOf 31)), body := (.stmts (bodOf (stOf 31))), scope := (scoOf (stOf 31)), globals := 0, closure := [], defaults := .none, kwdefaults := .none, doc := .none, pyModule := .none, annotations := none, code := .none, closureTuple := .none, builtins := 0 }), #[]⟩
noncomputable def q218 (P : Params) : Obj := ⟨(.type "code"), none, (.fields ⟨[(.str (.ofString "_law_told") 708), (.str (.ofString "_law_told") 709), (.str (.ofString "/claim/cut.py") 710), (.int 215 0), (.int 3 0), (.int 0 0), (.int 0 0), (.int 3 0), (.ref 206), (.bool true), (.int 276 0), (.ref 207), .none, .none, .none, (.ref 208), (.int 711 0), (.int 215 0), (.str (.ofString "/claim/cut.py") 712)]⟩), #[]⟩
noncomputable def q219 (P : Params) : Obj := ⟨(.type "function"), none, (.func { name := (.ofString "_law_told"), qualname := (.ofString "_law_told"), params := (parOf (stOf 31)), body := (.stmts (bodOf (stOf 31))), scope := (scoOf (stOf 31)), globals := 3, closure := [], defaults := .none, kwdefaults := .none, doc := .none, pyModule := (.str (.ofString "law_il0115_01") 634), annotations := none, code := (.ref 209), closureTuple := .none, builtins := 0 }), #[]⟩
noncomputable def q220 (P : Params) : Obj := ⟨(.type "tuple"), none, (.seq #[] 0), #[]⟩
noncomputable def q221 (P : Params) : Obj := ⟨.none, none, (.fields #[]), #[]⟩
noncomputable def q222 (P : Params) : Obj := ⟨.none, none, (.func { name := (.ofString "law"), qualname := (.ofString "law"), params := (parOf (stOf 32)), body := (.stmts (bodOf (stOf 32))), scope := (scoOf (stOf 32)), globals := 0, closure := [], defaults := .none, kwdefaults := .none, doc := .none, pyModule := .none, annotations := none, code := .none, closureTuple := .none, builtins := 0 }), #[]⟩
noncomputable def q223 (P : Params) : Obj := ⟨(.type "code"), none, (.fields ⟨[(.str (.ofString "law") 714), (.str (.ofString "law") 715), (.str (.ofString "/claim/cut.py") 716), (.int 222 0), (.int 1 0), (.int 0 0), (.int 0 0), (.int 3 0), (.ref 211), (.bool true), (.int 276 0), (.ref 212), .none, .none, .none, (.ref 213), (.int 717 0), (.int 222 0), (.str (.ofString "/claim/cut.py") 718)]⟩), #[]⟩
noncomputable def q224 (P : Params) : Obj := ⟨(.type "function"), none, (.func { name := (.ofString "law"), qualname := (.ofString "law"), params := (parOf (stOf 32)), body := (.stmts (bodOf (stOf 32))), scope := (scoOf (stOf 32)), globals := 3, closure := [], defaults := .none, kwdefaults := .none, doc := .none, pyModule := (.str (.ofString "law_il0115_01") 634), annotations := none, code := (.ref 214), closureTuple := .none, builtins := 0 }), #[]⟩
noncomputable def t_g4 (P : Params) : BT := (.node (q0 P) (.node (q1 P) (.node (q213 P) (.node (q7 P) (.node (q15 P) (.node (q31 P) (.node (q65 P) (.node (q132 P) .nil .nil) (.node (q198 P) .nil .nil)) (.node (q99 P) (.node (q166 P) .nil .nil) .nil)) (.node (q49 P) (.node (q81 P) (.node (q150 P) .nil .nil) (.node (q216 P) .nil .nil)) (.node (q115 P) (.node (q182 P) .nil .nil) .nil))) (.node (q23 P) (.node (q41 P) (.node (q73 P) (.node (q142 P) .nil .nil) (.node (q206 P) .nil .nil)) (.node (q107 P) (.node (q174 P) .nil .nil) .nil)) (.node (q57 P) (.node (q91 P) (.node (q158 P) .nil .nil) (.node (q224 P) .nil .nil)) (.node (q123 P) (.node (q190 P) .nil .nil) .nil)))) (.node (q11 P) (.node (q19 P) (.node (q37 P) (.node (q69 P) (.node (q138 P) .nil .nil) (.node (q202 P) .nil .nil)) (.node (q103 P) (.node (q170 P) .nil .nil) .nil)) (.node (q53 P) (.node (q87 P) (.node (q154 P) .nil .nil) (.node (q220 P) .nil .nil)) (.node (q119 P) (.node (q186 P) .nil .nil) .nil))) (.node (q27 P) (.node (q45 P) (.node (q77 P) (.node (q146 P) .nil .nil) (.node (q210 P) .nil .nil)) (.node (q111 P) (.node (q178 P) .nil .nil) .nil)) (.node (q61 P) (.node (q95 P) (.node (q162 P) .nil .nil) .nil) (.node (q127 P) (.node (q194 P) .nil .nil) .nil))))) (.node (q5 P) (.node (q9 P) (.node (q17 P) (.node (q35 P) (.node (q67 P) (.node (q134 P) .nil .nil) (.node (q200 P) .nil .nil)) (.node (q101 P) (.node (q168 P) .nil .nil) .nil)) (.node (q51 P) (.node (q83 P) (.node (q152 P) .nil .nil) (.node (q218 P) .nil .nil)) (.node (q117 P) (.node (q184 P) .nil .nil) .nil))) (.node (q25 P) (.node (q43 P) (.node (q75 P) (.node (q144 P) .nil .nil) (.node (q208 P) .nil .nil)) (.node (q109 P) (.node (q176 P) .nil .nil) .nil)) (.node (q59 P) (.node (q93 P) (.node (q160 P) .nil .nil) .nil) (.node (q125 P) (.node (q192 P) .nil .nil) .nil)))) (.node (q13 P) (.node (q21 P) (.node (q39 P) (.node (q71 P) (.node (q140 P) .nil .nil) (.node (q204 P) .nil .nil)) (.node (q105 P) (.node (q172 P) .nil .nil) .nil)) (.node (q55 P) (.node (q89 P) (.node (q156 P) .nil .nil) (.node (q222 P) .nil .nil)) (.node (q121 P) (.node (q188 P) .nil .nil) .nil))) (.node (q214 P) (.node (q47 P) (.node (q79 P) (.node (q148 P) .nil .nil) (.node (q212 P) .nil .nil)) (.node (q113 P) (.node (q180 P) .nil .nil) .nil)) (.node (q63 P) (.node (q97 P) (.node (q164 P) .nil .nil) .nil) (.node (q130 P) (.node (q196 P) .nil .nil) .nil)))))) (.node (q2 P) (.node (q4 P) (.node (q8 P) (.node (q16 P) (.node (q34 P) (.node (q66 P) (.node (q133 P) .nil .nil) (.node (q199 P) .nil .nil)) (.node (q100 P) (.node (q167 P) .nil .nil) .nil)) (.node (q50 P) (.node (q82 P) (.node (q151 P) .nil .nil) (.node (q217 P) .nil .nil)) (.node (q116 P) (.node (q183 P) .nil .nil) .nil))) (.node (q24 P) (.node (q42 P) (.node (q74 P) (.node (q143 P) .nil .nil) (.node (q207 P) .nil .nil)) (.node (q108 P) (.node (q175 P) .nil .nil) .nil)) (.node (q58 P) (.node (q92 P) (.node (q159 P) .nil .nil) .nil) (.node (q124 P) (.node (q191 P) .nil .nil) .nil)))) (.node (q12 P) (.node (q20 P) (.node (q38 P) (.node (q70 P) (.node (q139 P) .nil .nil) (.node (q203 P) .nil .nil)) (.node (q104 P) (.node (q171 P) .nil .nil) .nil)) (.node (q54 P) (.node (q88 P) (.node (q155 P) .nil .nil) (.node (q221 P) .nil .nil)) (.node (q120 P) (.node (q187 P) .nil .nil) .nil))) (.node (q28 P) (.node (q46 P) (.node (q78 P) (.node (q147 P) .nil .nil) (.node (q211 P) .nil .nil)) (.node (q112 P) (.node (q179 P) .nil .nil) .nil)) (.node (q62 P) (.node (q96 P) (.node (q163 P) .nil .nil) .nil) (.node (q128 P) (.node (q195 P) .nil .nil) .nil))))) (.node (q6 P) (.node (q10 P) (.node (q18 P) (.node (q36 P) (.node (q68 P) (.node (q137 P) .nil .nil) (.node (q201 P) .nil .nil)) (.node (q102 P) (.node (q169 P) .nil .nil) .nil)) (.node (q52 P) (.node (q84 P) (.node (q153 P) .nil .nil) (.node (q219 P) .nil .nil)) (.node (q118 P) (.node (q185 P) .nil .nil) .nil))) (.node (q26 P) (.node (q44 P) (.node (q76 P) (.node (q145 P) .nil .nil) (.node (q209 P) .nil .nil)) (.node (q110 P) (.node (q177 P) .nil .nil) .nil)) (.node (q60 P) (.node (q94 P) (.node (q161 P) .nil .nil) .nil) (.node (q126 P) (.node (q193 P) .nil .nil) .nil)))) (.node (q14 P) (.node (q22 P) (.node (q40 P) (.node (q72 P) (.node (q141 P) .nil .nil) (.node (q205 P) .nil .nil)) (.node (q106 P) (.node (q173 P) .nil .nil) .nil)) (.node (q56 P) (.node (q90 P) (.node (q157 P) .nil .nil) (.node (q223 P) .nil .nil)) (.node (q122 P) (.node (q189 P) .nil .nil) .nil))) (.node (q30 P) (.node (q48 P) (.node (q80 P) (.node (q149 P) .nil .nil) (.node (q215 P) .nil .nil)) (.node (q114 P) (.node (q181 P) .nil .nil) .nil)) (.node (q64 P) (.node (q98 P) (.node (q165 P) .nil .nil) .nil) (.node (q131 P) (.node (q197 P) .nil .nil) .nil)))))))
noncomputable def t_f (P : Params) : BT := (.node (q0 P) (.node (q1 P) (.node (q213 P) (.node (q7 P) (.node (q15 P) (.node (q31 P) (.node (q65 P) (.node (q132 P) .nil .nil) (.node (q198 P) .nil .nil)) (.node (q99 P) (.node (q166 P) .nil .nil) .nil)) (.node (q49 P) (.node (q81 P) (.node (q150 P) .nil .nil) (.node (q216 P) .nil .nil)) (.node (q115 P) (.node (q182 P) .nil .nil) .nil))) (.node (q23 P) (.node (q41 P) (.node (q73 P) (.node (q142 P) .nil .nil) (.node (q206 P) .nil .nil)) (.node (q107 P) (.node (q174 P) .nil .nil) .nil)) (.node (q57 P) (.node (q91 P) (.node (q158 P) .nil .nil) (.node (q224 P) .nil .nil)) (.node (q123 P) (.node (q190 P) .nil .nil) .nil)))) (.node (q11 P) (.node (q19 P) (.node (q37 P) (.node (q69 P) (.node (q138 P) .nil .nil) (.node (q202 P) .nil .nil)) (.node (q103 P) (.node (q170 P) .nil .nil) .nil)) (.node (q53 P) (.node (q87 P) (.node (q154 P) .nil .nil) (.node (q220 P) .nil .nil)) (.node (q119 P) (.node (q186 P) .nil .nil) .nil))) (.node (q27 P) (.node (q45 P) (.node (q77 P) (.node (q146 P) .nil .nil) (.node (q210 P) .nil .nil)) (.node (q111 P) (.node (q178 P) .nil .nil) .nil)) (.node (q61 P) (.node (q95 P) (.node (q162 P) .nil .nil) .nil) (.node (q127 P) (.node (q194 P) .nil .nil) .nil))))) (.node (q5 P) (.node (q9 P) (.node (q17 P) (.node (q35 P) (.node (q67 P) (.node (q134 P) .nil .nil) (.node (q200 P) .nil .nil)) (.node (q101 P) (.node (q168 P) .nil .nil) .nil)) (.node (q51 P) (.node (q83 P) (.node (q152 P) .nil .nil) (.node (q218 P) .nil .nil)) (.node (q117 P) (.node (q184 P) .nil .nil) .nil))) (.node (q25 P) (.node (q43 P) (.node (q75 P) (.node (q144 P) .nil .nil) (.node (q208 P) .nil .nil)) (.node (q109 P) (.node (q176 P) .nil .nil) .nil)) (.node (q59 P) (.node (q93 P) (.node (q160 P) .nil .nil) .nil) (.node (q125 P) (.node (q192 P) .nil .nil) .nil)))) (.node (q13 P) (.node (q21 P) (.node (q39 P) (.node (q71 P) (.node (q140 P) .nil .nil) (.node (q204 P) .nil .nil)) (.node (q105 P) (.node (q172 P) .nil .nil) .nil)) (.node (q55 P) (.node (q89 P) (.node (q156 P) .nil .nil) (.node (q222 P) .nil .nil)) (.node (q121 P) (.node (q188 P) .nil .nil) .nil))) (.node (q214 P) (.node (q47 P) (.node (q79 P) (.node (q148 P) .nil .nil) (.node (q212 P) .nil .nil)) (.node (q113 P) (.node (q180 P) .nil .nil) .nil)) (.node (q63 P) (.node (q97 P) (.node (q164 P) .nil .nil) .nil) (.node (q130 P) (.node (q196 P) .nil .nil) .nil)))))) (.node (q2 P) (.node (q4 P) (.node (q8 P) (.node (q16 P) (.node (q34 P) (.node (q66 P) (.node (q133 P) .nil .nil) (.node (q199 P) .nil .nil)) (.node (q100 P) (.node (q167 P) .nil .nil) .nil)) (.node (q50 P) (.node (q82 P) (.node (q151 P) .nil .nil) (.node (q217 P) .nil .nil)) (.node (q116 P) (.node (q183 P) .nil .nil) .nil))) (.node (q24 P) (.node (q42 P) (.node (q74 P) (.node (q143 P) .nil .nil) (.node (q207 P) .nil .nil)) (.node (q108 P) (.node (q175 P) .nil .nil) .nil)) (.node (q58 P) (.node (q92 P) (.node (q159 P) .nil .nil) .nil) (.node (q124 P) (.node (q191 P) .nil .nil) .nil)))) (.node (q12 P) (.node (q20 P) (.node (q38 P) (.node (q70 P) (.node (q139 P) .nil .nil) (.node (q203 P) .nil .nil)) (.node (q104 P) (.node (q171 P) .nil .nil) .nil)) (.node (q54 P) (.node (q88 P) (.node (q155 P) .nil .nil) (.node (q221 P) .nil .nil)) (.node (q120 P) (.node (q187 P) .nil .nil) .nil))) (.node (q28 P) (.node (q46 P) (.node (q78 P) (.node (q147 P) .nil .nil) (.node (q211 P) .nil .nil)) (.node (q112 P) (.node (q179 P) .nil .nil) .nil)) (.node (q62 P) (.node (q96 P) (.node (q163 P) .nil .nil) .nil) (.node (q128 P) (.node (q195 P) .nil .nil) .nil))))) (.node (q6 P) (.node (q10 P) (.node (q18 P) (.node (q36 P) (.node (q68 P) (.node (q137 P) .nil .nil) (.node (q201 P) .nil .nil)) (.node (q102 P) (.node (q169 P) .nil .nil) .nil)) (.node (q52 P) (.node (q84 P) (.node (q153 P) .nil .nil) (.node (q219 P) .nil .nil)) (.node (q118 P) (.node (q185 P) .nil .nil) .nil))) (.node (q26 P) (.node (q44 P) (.node (q76 P) (.node (q145 P) .nil .nil) (.node (q209 P) .nil .nil)) (.node (q110 P) (.node (q177 P) .nil .nil) .nil)) (.node (q60 P) (.node (q94 P) (.node (q161 P) .nil .nil) .nil) (.node (q126 P) (.node (q193 P) .nil .nil) .nil)))) (.node (q14 P) (.node (q22 P) (.node (q40 P) (.node (q72 P) (.node (q141 P) .nil .nil) (.node (q205 P) .nil .nil)) (.node (q106 P) (.node (q173 P) .nil .nil) .nil)) (.node (q56 P) (.node (q90 P) (.node (q157 P) .nil .nil) (.node (q223 P) .nil .nil)) (.node (q122 P) (.node (q189 P) .nil .nil) .nil))) (.node (q30 P) (.node (q48 P) (.node (q80 P) (.node (q149 P) .nil .nil) (.node (q215 P) .nil .nil)) (.node (q114 P) (.node (q181 P) .nil .nil) .nil)) (.node (q64 P) (.node (q98 P) (.node (q165 P) .nil .nil) .nil) (.node (q131 P) (.node (q197 P) .nil .nil) .nil)))))))
noncomputable def q225 (P : Params) : Obj := ⟨(.type "dict"), none, (.dict ⟨[⟨PyData.keyHash P (.ofString "__name__"), (.str (.ofString "__name__") 247), (.str (.ofString "_sre") 246)⟩, ⟨PyData.keyHash P (.ofString "__doc__"), (.str (.ofString "__doc__") 248), .none⟩, ⟨PyData.keyHash P (.ofString "__package__"), (.str (.ofString "__package__") 250), (.str (.ofString "") 249)⟩, ⟨PyData.keyHash P (.ofString "__loader__"), (.str (.ofString "__loader__") 251), (.ref 14)⟩, ⟨PyData.keyHash P (.ofString "__spec__"), (.str (.ofString "__spec__") 252), (.ref 26)⟩, ⟨PyData.keyHash P (.ofString "compile"), (.str (.ofString "compile") 253), (.builtin "_sre.compile")⟩, ⟨PyData.keyHash P (.ofString "template"), (.str (.ofString "template") 254), (.builtin "_sre.template")⟩, ⟨PyData.keyHash P (.ofString "getcodesize"), (.str (.ofString "getcodesize") 255), (.builtin "_sre.getcodesize")⟩, ⟨PyData.keyHash P (.ofString "ascii_iscased"), (.str (.ofString "ascii_iscased") 256), (.builtin "_sre.ascii_iscased")⟩, ⟨PyData.keyHash P (.ofString "unicode_iscased"), (.str (.ofString "unicode_iscased") 257), (.builtin "_sre.unicode_iscased")⟩, ⟨PyData.keyHash P (.ofString "ascii_tolower"), (.str (.ofString "ascii_tolower") 258), (.builtin "_sre.ascii_tolower")⟩, ⟨PyData.keyHash P (.ofString "unicode_tolower"), (.str (.ofString "unicode_tolower") 259), (.builtin "_sre.unicode_tolower")⟩, ⟨PyData.keyHash P (.ofString "MAGIC"), (.str (.ofString "MAGIC") 261), (.int 20230612 260)⟩, ⟨PyData.keyHash P (.ofString "CODESIZE"), (.str (.ofString "CODESIZE") 263), (.int 4 262)⟩, ⟨PyData.keyHash P (.ofString "MAXREPEAT"), (.str (.ofString "MAXREPEAT") 265), (.int 4294967295 264)⟩, ⟨PyData.keyHash P (.ofString "MAXGROUPS"), (.str (.ofString "MAXGROUPS") 267), (.int 1073741823 266)⟩, ⟨PyData.keyHash P (.ofString "copyright"), (.str (.ofString "copyright") 269), (.str (.ofString " SRE 2.2.2 Copyright (c) 1997-2002 by Secret Labs AB ") 268)⟩]⟩ 17), #[]⟩
noncomputable def hZ (P : Params) : Heap := ⟨⟨[q0 P, q1 P, q2 P, q3 P, q4 P, q5 P, q6 P, q7 P, q8 P, q9 P, q10 P, q11 P, q12 P, q13 P, q14 P, q15 P, q16 P, q17 P, q18 P, q19 P, q20 P, q21 P, q22 P, q23 P, q24 P, q25 P, q26 P, q27 P]⟩, {}⟩
noncomputable def hA (P : Params) : Heap := ⟨⟨[q0 P, q1 P, q2 P, q3 P, q4 P, q5 P, q6 P, q7 P, q8 P, q9 P, q10 P, q11 P, q12 P, q13 P, q14 P, q15 P, q16 P, q17 P, q18 P, q19 P, q20 P, q21 P, q22 P, q23 P, q24 P, q25 P, q26 P, q27 P, q28 P, q29 P, q30 P, q31 P]⟩, {}⟩
noncomputable def hF (P : Params) : Heap := ⟨⟨[q0 P, q1 P, q2 P, q213 P, q4 P, q5 P, q6 P, q7 P, q8 P, q9 P, q10 P, q11 P, q12 P, q13 P, q14 P, q15 P, q16 P, q17 P, q18 P, q19 P, q20 P, q21 P, q22 P, q23 P, q24 P, q25 P, q26 P, q27 P, q28 P, q214 P, q30 P, q31 P, q34 P, q35 P, q36 P, q37 P, q38 P, q39 P, q40 P, q41 P, q42 P, q43 P, q44 P, q45 P, q46 P, q47 P, q48 P, q49 P, q50 P, q51 P, q52 P, q53 P, q54 P, q55 P, q56 P, q57 P, q58 P, q59 P, q60 P, q61 P, q62 P, q63 P, q64 P, q65 P, q66 P, q67 P, q68 P, q69 P, q70 P, q71 P, q72 P, q73 P, q74 P, q75 P, q76 P, q77 P, q78 P, q79 P, q80 P, q81 P, q82 P, q83 P, q84 P, q87 P, q88 P, q89 P, q90 P, q91 P, q92 P, q93 P, q94 P, q95 P, q96 P, q97 P, q98 P, q99 P, q100 P, q101 P, q102 P, q103 P, q104 P, q105 P, q106 P, q107 P, q108 P, q109 P, q110 P, q111 P, q112 P, q113 P, q114 P, q115 P, q116 P, q117 P, q118 P, q119 P, q120 P, q121 P, q122 P, q123 P, q124 P, q125 P, q126 P, q127 P, q128 P, q130 P, q131 P, q132 P, q133 P, q134 P, q137 P, q138 P, q139 P, q140 P, q141 P, q142 P, q143 P, q144 P, q145 P, q146 P, q147 P, q148 P, q149 P, q150 P, q151 P, q152 P, q153 P, q154 P, q155 P, q156 P, q157 P, q158 P, q159 P, q160 P, q161 P, q162 P, q163 P, q164 P, q165 P, q166 P, q167 P, q168 P, q169 P, q170 P, q171 P, q172 P, q173 P, q174 P, q175 P, q176 P, q177 P, q178 P, q179 P, q180 P, q181 P, q182 P, q183 P, q184 P, q185 P, q186 P, q187 P, q188 P, q189 P, q190 P, q191 P, q192 P, q193 P, q194 P, q195 P, q196 P, q197 P, q198 P, q199 P, q200 P, q201 P, q202 P, q203 P, q204 P, q205 P, q206 P, q207 P, q208 P, q209 P, q210 P, q211 P, q212 P, q215 P, q216 P, q217 P, q218 P, q219 P, q220 P, q221 P, q222 P, q223 P, q224 P]⟩, {}⟩
noncomputable def hE (P : Params) : Heap := ⟨⟨[q0 P, q1 P, q2 P, q3 P, q4 P, q5 P, q6 P, q7 P, q8 P, q9 P, q10 P, q225 P, q12 P, q13 P, q14 P, q7 P, q16 P, q17 P, q18 P, q19 P, q20 P, q21 P, q22 P, q23 P, q24 P, q25 P, q26 P, q27 P]⟩, {}⟩
/-- the objects of the top that the walks read -/
noncomputable def KF (P : Params) : Frag := [(3, q213 P), (52, q54 P), (53, q55 P), (59, q61 P), (60, q62 P), (66, q68 P), (67, q69 P), (70, q72 P), (71, q73 P), (72, q74 P), (73, q75 P), (81, q83 P), (82, q84 P), (88, q92 P), (89, q93 P), (95, q99 P), (96, q100 P), (97, q101 P), (103, q107 P), (104, q108 P), (105, q109 P), (111, q115 P), (112, q116 P), (116, q120 P), (117, q121 P), (123, q127 P), (124, q128 P), (142, q149 P), (143, q150 P), (149, q156 P), (150, q157 P), (156, q163 P), (157, q164 P), (161, q168 P), (162, q169 P), (166, q173 P), (167, q174 P), (173, q180 P), (174, q181 P), (178, q185 P), (179, q186 P), (183, q190 P), (184, q191 P), (190, q197 P), (191, q198 P), (197, q204 P), (198, q205 P), (204, q211 P), (205, q212 P), (209, q218 P), (210, q219 P), (214, q223 P), (215, q224 P)]
/-- and the table of the code objects that the law makes -/
noncomputable def KFT (P : Params) : Frag := (138, q145 P) :: KF P
noncomputable abbrev aF : List Addr := [138, 3, 52, 53, 59, 60, 66, 67, 70, 71, 72, 73, 81, 82, 88, 89, 95, 96, 97, 103, 104, 105, 111, 112, 116, 117, 123, 124, 142, 143, 149, 150, 156, 157, 161, 162, 166, 167, 173, 174, 178, 179, 183, 184, 190, 191, 197, 198, 204, 205, 209, 210, 214, 215]
noncomputable abbrev looL : List Str := ["filterfalse", "b2a_base64", "b64encode", "_twin_re_1", "_special_chars_map"]
noncomputable def VW : Program := { PW with main := { PW.main with body := [0, 1, 3, 5, 7, 8, 9, 14, 15, 17, 18, 20, 21, 23, 24, 25, 26, 27, 28, 29, 30, 31, 32, 33].filterMap fun i => PW.main.body[i]? } }

end
section
open PySem PySem.W PyProof.Rows
set_option maxHeartbeats 0
noncomputable abbrev envL : Env := { scope := PW.main.scope, locals := mainNs, globals := mainNs, cells := [], code := .ref 30, frame := some 31 }
noncomputable abbrev codL : Code := .body bodL envL
noncomputable abbrev G0 : List Stmt := bodL.take 5
noncomputable abbrev G1 : List Stmt := (bodL.drop 5).take 11
noncomputable abbrev G2 : List Stmt := (bodL.drop 16).take 1
noncomputable abbrev G3 : List Stmt := (bodL.drop 17).take 14
noncomputable abbrev G4 : List Stmt := bodL.drop 31
theorem run_a : ∀ w : World, (fun os => topGo treeTable PW w 28 (some (.ref 6)) 12 ⟨hZ w.params, ⟨[]⟩, {}, 276, os⟩ (topStub PW)) = fun os => some (⟨hA w.params, ⟨[]⟩, {}, 282, os⟩, (⟨denote treeTable codL, codL, ⟨0, 0, 0, 0⟩, [topFrame ⟨0, 0, 0, 0⟩]⟩ : Thread)) := by
  intro w
  rw [PySem.W.Fast.te15667345088766844465, PySem.W.Fast.te14364793385576792824, PySem.W.Fast.te11892475500146522536]
  kernel_rfl
theorem run_b : ∀ w : World, (fun os => segRun treeTable PW w 28 (some (.ref 6)) 1 1 ⟨hA w.params, ⟨[]⟩, {}, 282, os⟩ (blockOf bodL envL codL ⟨0, 0, 0, 0⟩ [topFrame ⟨0, 0, 0, 0⟩])) = fun os => some (.next, SharedT.abs ⟨t_b w.params, 32, {}, ⟨[]⟩, {}, 282, os⟩, codL, ⟨0, 0, 0, 0⟩) := by
  intro w
  rw [PySem.W.Fast.te14374325043358763698, PySem.W.Fast.te14364793385576792824]
  kernel_rfl
theorem run_g0 : ∀ w : World, (fun os => segRunT treeTable PW w 28 (some (.ref 6)) 1 395 ⟨t_b w.params, 32, {}, ⟨[]⟩, {}, 282, os⟩ (piecesOf G0 envL codL ⟨0, 0, 0, 0⟩ [topFrame ⟨0, 0, 0, 0⟩])) =
    fun os => some (.next, ⟨t_g0 w.params, 83, {}, ⟨[]⟩, {}, 351, os⟩, codL, ⟨26, 0, 27, 54⟩) := by
  intro w
  rw [PySem.W.Fast.te10110043849684766642, PySem.W.Fast.te14364793385576792824]
  kernel_rfl
theorem run_g1 : ∀ w : World, (fun os => segRunT treeTable PW w 28 (some (.ref 6)) 1 290 ⟨t_g0 w.params, 83, {}, ⟨[]⟩, {}, 351, os⟩ (piecesOf G1 envL codL ⟨26, 0, 27, 54⟩ [topFrame ⟨0, 0, 0, 0⟩])) =
    fun os => some (.next, ⟨t_g1 w.params, 125, {}, ⟨[]⟩, {}, 447, os⟩, codL, ⟨77, 0, 77, 8⟩) := by
  intro w
  rw [PySem.W.Fast.te10110043849684766642, PySem.W.Fast.te14364793385576792824]
  kernel_rfl
theorem run_g3 : ∀ w : World, (fun os => segRunT treeTable PW w 28 (some (.ref 6)) 1 386 ⟨t_g2 w.params, 130, {}, ⟨[]⟩, {}, 593, os⟩ (piecesOf G3 envL codL ⟨78, 0, 78, 18⟩ [topFrame ⟨0, 0, 0, 0⟩])) =
    fun os => some (.next, ⟨t_g3 w.params, 206, {}, ⟨[]⟩, {}, 708, os⟩, codL, ⟨206, 0, 214, 131⟩) := by
  intro w
  rw [PySem.W.Fast.te10110043849684766642, PySem.W.Fast.te14364793385576792824]
  kernel_rfl
theorem run_g4 : ∀ w : World, (fun os => segRunT treeTable PW w 28 (some (.ref 6)) 1 53 ⟨t_g3 w.params, 206, {}, ⟨[]⟩, {}, 708, os⟩ (piecesOf G4 envL codL ⟨206, 0, 214, 131⟩ [topFrame ⟨0, 0, 0, 0⟩])) =
    fun os => some (.next, ⟨t_g4 w.params, 216, {}, ⟨[]⟩, {}, 720, os⟩, codL, ⟨222, 0, 236, 115⟩) := by
  intro w
  rw [PySem.W.Fast.te10110043849684766642, PySem.W.Fast.te14364793385576792824]
  kernel_rfl
theorem run_f : ∀ w : World, (fun os => topRun treeTable PW w 28 (some (.ref 6)) 2 (SharedT.abs ⟨t_g4 w.params, 216, {}, ⟨[]⟩, {}, 720, os⟩) ⟨doneF .next, codL, ⟨222, 0, 236, 115⟩, [topFrame ⟨0, 0, 0, 0⟩]⟩) = fun os => some ⟨hF w.params, ⟨[]⟩, {}, 720, os⟩ := by
  intro w
  rw [PySem.W.Fast.te14082659384304107361, PySem.W.Fast.te14364793385576792824]
  kernel_rfl

end
section
open PySem PySem.W PyProof.Rows
set_option maxHeartbeats 0
noncomputable abbrev PG2 (w : World) : Prop := (fun os => segRunT treeTable PW w 28 (some (.ref 6)) 1 1253 ⟨t_g1 w.params, 125, {}, ⟨[]⟩, {}, 447, os⟩ (piecesOf G2 envL codL ⟨77, 0, 77, 8⟩ [topFrame ⟨0, 0, 0, 0⟩])) =
    fun os => some (.next, ⟨t_g2 w.params, 130, {}, ⟨[]⟩, {}, 593, os⟩, codL, ⟨78, 0, 78, 18⟩)
theorem run_g2ff : ∀ w : World, PG2 ((w.withFollow "special-get-raises" false).withFollow "comprehension-iter-twice" false) := by
  intro w
  unfold PG2
  rw [PySem.W.Fast.te10110043849684766642, PySem.W.Fast.te14364793385576792824]
  kernel_rfl
theorem run_g2ft : ∀ w : World, PG2 ((w.withFollow "special-get-raises" false).withFollow "comprehension-iter-twice" true) := by
  intro w
  unfold PG2
  rw [PySem.W.Fast.te10110043849684766642, PySem.W.Fast.te14364793385576792824]
  kernel_rfl
theorem run_g2tf : ∀ w : World, PG2 ((w.withFollow "special-get-raises" true).withFollow "comprehension-iter-twice" false) := by
  intro w
  unfold PG2
  rw [PySem.W.Fast.te10110043849684766642, PySem.W.Fast.te14364793385576792824]
  kernel_rfl
theorem run_g2tt : ∀ w : World, PG2 ((w.withFollow "special-get-raises" true).withFollow "comprehension-iter-twice" true) := by
  intro w
  unfold PG2
  rw [PySem.W.Fast.te10110043849684766642, PySem.W.Fast.te14364793385576792824]
  kernel_rfl
theorem run_g2 (w : World) : PG2 w :=
  byRow2 "comprehension-iter-twice" (P := PG2)
    (fun w => byRow2 "special-get-raises" (P := fun w => PG2 (w.withFollow "comprehension-iter-twice" false)) run_g2ff run_g2tf w)
    (fun w => byRow2 "special-get-raises" (P := fun w => PG2 (w.withFollow "comprehension-iter-twice" true)) run_g2ft run_g2tt w) w

end
section
open PySem PySem.W PyProof.Rows
set_option maxHeartbeats 0
theorem run_e : ∀ w : World, importEnds treeTable (opening PW) w 840 (start (opening PW)).1 (start (opening PW)).2 = some ⟨hE w.params, ⟨[]⟩, {}, 276, (start (opening PW)).1.os⟩ := by
  intro w
  rw [PySem.W.Fast.te10274390034422433532, PySem.W.Fast.te14364793385576792824, PySem.W.Fast.te1435165496053646825]
  kernel_rfl
theorem run_z : ∀ w : World, (fun os => (fenceModules? PW ⟨hE w.params, ⟨[]⟩, {}, 276, os⟩).map (fun s => (s.heap, s.gens, s.drawn, s.toks))) = fun _ => some (hZ w.params, ⟨[]⟩, {}, 276) := by
  intro w
  rw [PySem.W.Fast.te14289696077712309145]
  kernel_rfl
theorem open_z : ∀ w : World, (fencedOpening treeTable PW w 4870).map (fun s => (s.heap, s.gens, s.drawn, s.toks)) = some (hZ w.params, ⟨[]⟩, {}, 276) :=
  open_cut run_e (by decide) run_z
theorem size_z : ∀ w : World, ((hZ w.params).isNs mainGlobals && (⟨[]⟩ : Array GenState).size == 0, (hZ w.params).objs.size, (hZ w.params).nsMap mainGlobals "__annotations__") = (true, 28, some (Value.ref 6)) := by
  intro w
  kernel_rfl
theorem run_all (w : World) (os : OsState) : topRun treeTable PW w 28 (some (.ref 6)) (12 + (1 + (395 + (290 + (1253 + (386 + (53 + 2))))))) ⟨hZ w.params, ⟨[]⟩, {}, 276, os⟩ (topStub PW) = some ⟨hF w.params, ⟨[]⟩, {}, 720, os⟩ := by
  refine go_top (congrFun (run_a w) os) (piece_block (congrFun (run_b w) os) ?_)
  have hb : bodL = G0 ++ (G1 ++ (G2 ++ (G3 ++ (G4 ++ [])))) := by kernel_rfl
  have k0 := piece_app (rest := G1 ++ (G2 ++ (G3 ++ (G4 ++ [])))) (segRun_of (congrFun (run_g0 w) os)) (piece_app (segRun_of (congrFun (run_g1 w) os)) (piece_app (segRun_of (congrFun (run_g2 w) os)) (piece_app (segRun_of (congrFun (run_g3 w) os)) (piece_app (segRun_of (congrFun (run_g4 w) os)) (piece_nil (congrFun (run_f w) os))))))
  rw [← hb] at k0
  exact k0

end
section
open PySem PySem.W PyProof.Rows
set_option maxHeartbeats 0
noncomputable abbrev Yf0 (s : Shared) : List (Option Obj) := aF.map s.heap.get?
noncomputable abbrev Ya0 (w : World) : List (Option Obj) := (KFT w.params).map fun p => some p.2
noncomputable abbrev Xt0 (s : Shared) : Bool := xlAt VW [] s && recOk (RowW.records PySem.Challenge.rw_il0115_01.row.toRowW) s
noncomputable abbrev sF (w : World) (os : OsState) : Shared := ⟨hF w.params, ⟨[]⟩, {}, 720, os⟩
theorem look_a (w : World) (os : OsState) : (staticsOk (importedModules PW.main.body) (hZ w.params) (hF w.params) && namesBound PW (hF w.params) && gensDone (sF w os) && laidKept (hZ w.params) (hF w.params)) = true := by
  rw [PySem.W.Fast.te5923862056798008813]
  kernel_rfl
theorem look_c (w : World) (os : OsState) : Yf0 (sF w os) = Ya0 w := by
  kernel_rfl
theorem look_1 (w : World) (os : OsState) : seen ((recsOf VW).map (·.name)) (ownsOf VW) [] { sF w os with gens := #[] } = expectedOf VW := by
  simp only [PySem.W.Fast.te5160383126252970620, PySem.W.Fast.te3399658132070893891, PySem.W.Fast.te5991557255702980513]
  kernel_rfl
theorem look_2 (w : World) (os : OsState) : (sF w os).heap.bltView = bltViewBooted := by
  kernel_rfl
theorem look_4 (w : World) (os : OsState) : tabsOk VW (sF w os) = true := by
  rw [PySem.W.Fast.te479339242167458305]
  kernel_rfl
theorem look_5 (w : World) (os : OsState) : pinSeenD VW (drecsOf VW) (sF w os) = pinGoodD (drecsOf VW) := by
  simp only [PySem.W.Fast.te16090120013241838585, PySem.W.Fast.te3247288618530077131]
  kernel_rfl
theorem look_6 (w : World) (os : OsState) : plainSeenE VW (looseW VW looL) (sF w os) = plainGoodE VW (looseW VW looL) := by
  simp only [PySem.W.Fast.te2386780881361962483, PySem.W.Fast.te821141287760084731]
  kernel_rfl
theorem look_7 (w : World) (os : OsState) : plainSeenD VW looL (sF w os) = plainGoodD VW looL := by
  simp only [PySem.W.Fast.te11698064438423848299]
  kernel_rfl
theorem look_8 (w : World) (os : OsState) : wideSeen VW (sF w os) = wideGood VW := by
  simp only [PySem.W.Fast.te7317090234206586261]
  kernel_rfl
theorem look_9 (w : World) (os : OsState) : clsSeenW VW looL (sF w os) = clsGoodW VW looL := by
  simp only [PySem.W.Fast.te7369524293546568484]
  kernel_rfl
theorem look_3 (w : World) (os : OsState) : ((sF w os).heap.keysOk (looseW VW looL) ((recsOf VW).map (·.name)) ((litsOf VW).map (·.1)) ((clssOf VW (looseW VW looL)).map (·.name)) && (sF w os).heap.accountedOkI (importedModules PW.main.body) && (sF w os).heap.isNs mainGlobals && (sF w os).heap.isNs builtinsNs && tablesOk VW (sF w os).heap && Xt0 (sF w os) && (if true then (sF w os).gens.size == 0 else !leftWithCleanup (sF w os).gens)) = true := by
  simp only [PySem.W.Fast.te10880121769531294198, PySem.W.Fast.te821141287760084731, PySem.W.Fast.te3399658132070893891, PySem.W.Fast.te7409074990110511671, PySem.W.Fast.te13664370479719496447, PySem.W.Fast.te14722251495701143533, PySem.W.Fast.te5923862056798008813]
  kernel_rfl
theorem looks (w : World) : (fun os => ((staticsOk (importedModules PW.main.body) (hZ w.params) (hF w.params) && namesBound PW (hF w.params) && gensDone (sF w os) && laidKept (hZ w.params) (hF w.params)),
    openSeen VW looL (importedModules PW.main.body) Xt0 true (sF w os), Yf0 (sF w os))) = fun _ => (true, openGood VW looL, Ya0 w) := by
  funext os
  refine looks_pair (look_a w os) (looks_pair ?_ (look_c w os))
  exact looks_pair (look_1 w os) (looks_pair (look_2 w os) (looks_pair (look_3 w os) (looks_pair (look_4 w os) (looks_pair (look_5 w os) (looks_pair (look_6 w os) (looks_pair (look_7 w os) (looks_pair (look_8 w os) (look_9 w os))))))))
theorem left : LeftO PW VW looL Xt0 Yf0 Ya0 4870 := LeftO.of_pieces open_z size_z run_all (by decide) looks

end
section

/-- the program -/
noncomputable abbrev Prg : Program := PySem.Challenge.pw_il0115_01
/-- where the table of _translate's inner code objects lies -/
noncomputable abbrev tabA : Addr := 138
noncomputable abbrev lobj (vs : List Value) (n : Nat) : Obj := { cls := .type "list", data := .seq vs.toArray n }

/-- a plain value: what the law's values are, less their addresses and tokens -/
inductive PV where
  | i (n : Int)
  | b (x : Bool)
  | s (x : Str)
  | y (x : Array UInt8)
  | l (xs : List PV)
  | rg (lo hi st : Int)
  | v (w : Value)
  | la (a : Addr) (xs : List PV)
  | ob (o : Obj)

/-- objects that nobody's frame, cell or dict is -/
noncomputable def Stable (o : Obj) : Prop := (∀ es n, o.data ≠ .dict es n) ∧ (∀ v, o.data ≠ .cell v) ∧ o.cls ≠ .none

/-- an object that nobody changes -/
noncomputable def Fix (o : Obj) : Prop := Stable o ∧ (∀ xs n, o.data ≠ .seq xs n) ∧ o.cls ≠ .type "list_iterator" ∧ o.cls ≠ .type "range_iterator" ∧ o.cls ≠ .type "bytes_iterator"

mutual
inductive RepI (mu : List Addr) (h : Heap) : Value → PV → Prop
  | i {n : Int} {t : Tok} : RepI mu h (.int n t) (.i n)
  | b {x : Bool} : RepI mu h (.bool x) (.b x)
  | s {x : Str} {t : Tok} : RepI mu h (.str x t) (.s x)
  | y {x : Array UInt8} {t : Tok} : RepI mu h (.bytes x t) (.y x)
  | v {x : Value} : RepI mu h x (.v x)
  | rg {r : Addr} {lo hi st : Int} {t u v : Tok} : IsRange h r lo hi st t u v → RepI mu h (.ref r) (.rg lo hi st)
  | ob {m : Addr} {o : Obj} : h.get? m = some o → Fix o → RepI mu h (.ref m) (.ob o)
  | l {a : Addr} {vs : List Value} {n : Nat} {xs : List PV} : h.get? a = some (lobj vs n) → a ∉ mu → RepIL mu h vs xs → RepI mu h (.ref a) (.l xs)
inductive RepIL (mu : List Addr) (h : Heap) : List Value → List PV → Prop
  | nil : RepIL mu h [] []
  | cons {v : Value} {p : PV} {vs : List Value} {ps : List PV} : RepI mu h v p → RepIL mu h vs ps → RepIL mu h (v :: vs) (p :: ps)
end

structure KeepS (mu : List Addr) (h h' : Heap) : Prop where
  keep : ∀ b o, h.get? b = some o → Stable o → (∀ xs n, o.data = .seq xs n → b ∉ mu) → h'.get? b = some o

theorem stable_lobj (vs : List Value) (n : Nat) : Stable (lobj vs n) := ⟨fun _ _ e => (nomatch e), fun _ e => (nomatch e), fun e => nomatch e⟩

mutual
theorem RepI.keep {mu : List Addr} {h h' : Heap} (k : KeepS mu h h') : ∀ {v : Value} {p : PV}, RepI mu h v p → RepI mu h' v p
  | _, _, .i => .i
  | _, _, .b => .b
  | _, _, .s => .s
  | _, _, .y => .y
  | _, _, .v => .v
  | _, _, .rg e => .rg (k.keep _ _ e ⟨fun _ _ q => (nomatch q), fun _ q => (nomatch q), fun q => nomatch q⟩ fun _ _ q => nomatch q)
  | _, _, .ob e f => .ob (k.keep _ _ e f.1 fun xs n d => absurd d (f.2.1 xs n)) f
  | _, _, .l e m r => .l (k.keep _ _ e (stable_lobj _ _) fun _ _ _ => m) m (RepIL.keep k r)
theorem RepIL.keep {mu : List Addr} {h h' : Heap} (k : KeepS mu h h') : ∀ {vs : List Value} {ps : List PV}, RepIL mu h vs ps → RepIL mu h' vs ps
  | _, _, .nil => .nil
  | _, _, .cons a r => .cons (RepI.keep k a) (RepIL.keep k r)
end
mutual
theorem RepI.mu {mu mu' : List Addr} {h : Heap} (k : ∀ a ∈ mu', a ∈ mu ∨ h.get? a = none) : ∀ {v : Value} {p : PV}, RepI mu h v p → RepI mu' h v p
  | _, _, .i => .i
  | _, _, .b => .b
  | _, _, .s => .s
  | _, _, .y => .y
  | _, _, .v => .v
  | _, _, .rg e => .rg e
  | _, _, .ob e f => .ob e f
  | _, _, .l e m r => .l e (fun q => (k _ q).elim m fun z => by rw [e] at z; cases z) (RepIL.mu k r)
theorem RepIL.mu {mu mu' : List Addr} {h : Heap} (k : ∀ a ∈ mu', a ∈ mu ∨ h.get? a = none) : ∀ {vs : List Value} {ps : List PV}, RepIL mu h vs ps → RepIL mu' h vs ps
  | _, _, .nil => .nil
  | _, _, .cons a r => .cons (RepI.mu k a) (RepIL.mu k r)
end

/-- a value that may be a list at a known place, told apart from all the others (mu) -/
noncomputable def Rep (mu : List Addr) (h : Heap) (v : Value) (p : PV) : Prop := match p with
  | .la a xs => v = .ref a ∧ a ∈ mu ∧ ∃ vs n, h.get? a = some (lobj vs n) ∧ RepIL mu h vs xs
  | p => RepI mu h v p
inductive RepL (mu : List Addr) (h : Heap) : List Value → List PV → Prop
  | nil : RepL mu h [] []
  | cons {v : Value} {p : PV} {vs : List Value} {ps : List PV} : Rep mu h v p → RepL mu h vs ps → RepL mu h (v :: vs) (p :: ps)

theorem Rep.of {mu : List Addr} {h : Heap} {v : Value} {p : PV} (r : RepI mu h v p) : Rep mu h v p := by
  cases r with
  | i => exact RepI.i
  | b => exact RepI.b
  | s => exact RepI.s
  | y => exact RepI.y
  | v => exact RepI.v
  | rg e => exact RepI.rg e
  | ob e f => exact RepI.ob e f
  | l e m r => exact RepI.l e m r
theorem RepL.of {mu : List Addr} {h : Heap} : ∀ {vs : List Value} {ps : List PV}, RepIL mu h vs ps → RepL mu h vs ps
  | _, _, .nil => .nil
  | _, _, .cons a r => .cons (Rep.of a) (RepL.of r)

theorem Rep.i {mu : List Addr} {h : Heap} {n : Int} {t : Tok} : Rep mu h (.int n t) (.i n) := RepI.i
theorem Rep.b {mu : List Addr} {h : Heap} {x : Bool} : Rep mu h (.bool x) (.b x) := RepI.b
theorem Rep.s {mu : List Addr} {h : Heap} {x : Str} {t : Tok} : Rep mu h (.str x t) (.s x) := RepI.s
theorem Rep.y {mu : List Addr} {h : Heap} {x : Array UInt8} {t : Tok} : Rep mu h (.bytes x t) (.y x) := RepI.y
theorem Rep.v {mu : List Addr} {h : Heap} {x : Value} : Rep mu h x (.v x) := RepI.v
theorem Rep.i_inv {mu : List Addr} {h : Heap} {v : Value} {n : Int} (r : Rep mu h v (.i n)) : ∃ t, v = .int n t := by cases r; exact ⟨_, rfl⟩
theorem Rep.b_inv {mu : List Addr} {h : Heap} {v : Value} {n : Bool} (r : Rep mu h v (.b n)) : v = .bool n := by cases r; rfl
theorem Rep.s_inv {mu : List Addr} {h : Heap} {v : Value} {n : Str} (r : Rep mu h v (.s n)) : ∃ t, v = .str n t := by cases r; exact ⟨_, rfl⟩
theorem Rep.y_inv {mu : List Addr} {h : Heap} {v : Value} {n : Array UInt8} (r : Rep mu h v (.y n)) : ∃ t, v = .bytes n t := by cases r; exact ⟨_, rfl⟩
theorem Rep.v_inv {mu : List Addr} {h : Heap} {v : Value} {n : Value} (r : Rep mu h v (.v n)) : v = n := by cases r; rfl
/-- the list that a value is -/
noncomputable def PV.lst? : PV → Option (List PV)
  | .l xs => some xs
  | .la _ xs => some xs
  | _ => none
theorem Rep.lst {mu : List Addr} {h : Heap} {v : Value} {p : PV} {xs : List PV} (r : Rep mu h v p) (e : p.lst? = some xs) : ∃ a vs n, v = .ref a ∧ h.get? a = some (lobj vs n) ∧ RepIL mu h vs xs := by
  cases p with
  | l ys =>
    cases e
    cases r with
    | l e m r => exact ⟨_, _, _, rfl, e, r⟩
  | la a ys =>
    cases e
    obtain ⟨rfl, _, vs, n, e, r⟩ := r
    exact ⟨_, _, _, rfl, e, r⟩
  | _ => cases e
theorem RepIL.length {mu : List Addr} {h : Heap} : ∀ {vs : List Value} {ps : List PV}, RepIL mu h vs ps → vs.length = ps.length
  | _, _, .nil => rfl
  | _, _, .cons _ r => congrArg (· + 1) (RepIL.length r)
theorem RepIL.get {mu : List Addr} {h : Heap} : ∀ {vs : List Value} {ps : List PV}, RepIL mu h vs ps → ∀ {j : Nat} {p : PV}, ps[j]? = some p → ∃ v, vs[j]? = some v ∧ RepI mu h v p
  | _, _, .nil, j, p, e => by simp at e
  | _, _, .cons a r, 0, p, e => by
    simp at e; subst e
    exact ⟨_, by simp, a⟩
  | _, _, .cons a r, j + 1, p, e => by
    simp at e
    obtain ⟨v, e', z⟩ := RepIL.get r e
    exact ⟨v, by simpa using e', z⟩
theorem RepIL.snoc {mu : List Addr} {h : Heap} : ∀ {vs : List Value} {ps : List PV} {v : Value} {p : PV}, RepIL mu h vs ps → RepI mu h v p → RepIL mu h (vs ++ [v]) (ps ++ [p])
  | _, _, _, _, .nil, z => .cons z .nil
  | _, _, _, _, .cons a r, z => .cons a (RepIL.snoc r z)
theorem RepIL.append {mu : List Addr} {h : Heap} : ∀ {vs : List Value} {ps : List PV} {vs' : List Value} {ps' : List PV}, RepIL mu h vs ps → RepIL mu h vs' ps' → RepIL mu h (vs ++ vs') (ps ++ ps')
  | _, _, _, _, .nil, z => z
  | _, _, _, _, .cons a r, z => .cons a (RepIL.append r z)
theorem RepIL.take {mu : List Addr} {h : Heap} : ∀ {vs : List Value} {ps : List PV} (n : Nat), RepIL mu h vs ps → RepIL mu h (vs.take n) (ps.take n)
  | _, _, 0, _ => by simpa using RepIL.nil
  | _, _, _ + 1, .nil => .nil
  | _, _, n + 1, .cons a r => .cons a (RepIL.take n r)
theorem RepIL.drop {mu : List Addr} {h : Heap} : ∀ {vs : List Value} {ps : List PV} (n : Nat), RepIL mu h vs ps → RepIL mu h (vs.drop n) (ps.drop n)
  | _, _, 0, z => z
  | _, _, _ + 1, .nil => .nil
  | _, _, n + 1, .cons _ r => RepIL.drop n r

/-! ### what a call leaves -/
noncomputable def TabOK (h : Heap) : Prop := ∃ ps : Array Value, h.get? tabA = some (tabObj ps) ∧ TriplesOk ps.toList
structure Ext (fs : List Addr) (s s' : Shared) : Prop where
  keep : ∀ b o, s.heap.get? b = some o → b ∉ fs → b ≠ tabA → s'.heap.get? b = some o
  slot : ∀ b o, s.heap.get? b = some o → b ∈ fs → ∃ sl, s'.heap.get? b = some { o with slots := sl }
  gens : s'.gens = s.gens
  os : s'.os = s.os
  tab : ∀ ps : Array Value, s.heap.get? tabA = some (tabObj ps) → TriplesOk ps.toList → ∃ more, s'.heap.get? tabA = some (tabObj (ps ++ more)) ∧ TriplesOk (ps ++ more).toList
theorem Ext.refl (fs : List Addr) (s : Shared) : Ext fs s s := ⟨fun _ _ e _ _ => e, fun _ o e _ => ⟨o.slots, e⟩, rfl, rfl, fun ps e t => ⟨#[], by simpa using e, by simpa using t⟩⟩
theorem Ext.trans {fs : List Addr} {s s' s'' : Shared} (x : Ext fs s s') (y : Ext fs s' s'') : Ext fs s s'' :=
  ⟨fun b o e h t => y.keep b o (x.keep b o e h t) h t, fun b o e h => by
    obtain ⟨sl, e'⟩ := x.slot b o e h
    obtain ⟨sl', e''⟩ := y.slot b _ e' h
    exact ⟨sl', e''⟩, y.gens.trans x.gens, y.os.trans x.os, fun ps e t => by
    obtain ⟨m, e', t'⟩ := x.tab ps e t
    obtain ⟨m', e'', t''⟩ := y.tab _ e' t'
    exact ⟨m ++ m', by rw [← Array.append_assoc]; exact e'', by rw [← Array.append_assoc]; exact t''⟩⟩
theorem Ext.of_keeps {fs : List Addr} {s s' : Shared} (k : ∀ b o, s.heap.get? b = some o → s'.heap.get? b = some o) (g : s'.gens = s.gens) (o : s'.os = s.os) : Ext fs s s' :=
  ⟨fun b o e _ _ => k b o e, fun b o e _ => ⟨o.slots, k b o e⟩, g, o, fun ps e t => ⟨#[], by simpa using k _ _ e, by simpa using t⟩⟩
theorem Ext.tok {fs : List Addr} {s : Shared} {t : Tok} : Ext fs s { s with toks := t } := Ext.of_keeps (fun _ _ e => e) rfl rfl
theorem Ext.push {fs : List Addr} {s : Shared} {t : Tok} {o : Obj} : Ext fs s { s with heap := s.heap.push o, toks := t } :=
  Ext.of_keeps (fun _ _ e => Heap.get?_push_of_some _ e) rfl rfl

/-- the frames that stand: their dicts -/
noncomputable def FrOK (g h : Heap) : List Addr → List Env → Prop
  | [], [] => True
  | L :: fs, env :: r => env.scope.kind ≠ .module ∧ env.frame = some L ∧ g.get? L = none ∧ L ≠ tabA ∧ (∃ o es n, h.get? L = some o ∧ o.data = .dict es n) ∧ FrOK g h fs r
  | _, _ => False

structure Cx where
  w : World
  g : Heap
  os : OsState
  A : Around
  fs : List Addr
noncomputable abbrev Cx.M (C : Cx) : Model := model Prg C.w

structure Inv (C : Cx) (s : Shared) : Prop where
  base : ∀ b o, C.g.get? b = some o → s.heap.get? b = some o
  gens : s.gens = #[]
  os : s.os = C.os
  tab : TabOK s.heap
  hand : C.A.handled = none
  frames : ∃ outer, C.A.frames = some outer ∧ FrOK C.g s.heap C.fs outer
  gtab : C.g.get? tabA = none

theorem FrOK.mem {g h : Heap} : ∀ {fs : List Addr} {es : List Env}, FrOK g h fs es → ∀ {b : Addr}, b ∈ fs → g.get? b = none ∧ b ≠ tabA ∧ ∃ o es n, h.get? b = some o ∧ o.data = .dict es n
  | [], [], _, _, hb => nomatch hb
  | L :: fs, env :: r, x, b, hb => by
    obtain ⟨_, _, h1, h2, h3, h4⟩ := x
    rcases List.mem_cons.mp hb with rfl | hb
    · exact ⟨h1, h2, h3⟩
    · exact FrOK.mem h4 hb
  | [], _ :: _, x, _, _ => x.elim
  | _ :: _, [], x, _, _ => x.elim
theorem FrOK.ext {g h h' : Heap} : ∀ {fs : List Addr} {es : List Env}, FrOK g h fs es → (∀ b ∈ fs, ∀ o es n, h.get? b = some o → o.data = .dict es n → ∃ o' es' n', h'.get? b = some o' ∧ o'.data = .dict es' n') → FrOK g h' fs es
  | [], [], _, _ => trivial
  | L :: fs, env :: r, x, k => by
    obtain ⟨h0, h1, h2, h3, ⟨o, es, n, e, d⟩, h4⟩ := x
    exact ⟨h0, h1, h2, h3, k L (.head _) o es n e d, FrOK.ext h4 fun b hb => k b (.tail _ hb)⟩
  | [], _ :: _, x, _ => x.elim
  | _ :: _, [], x, _ => x.elim

theorem Inv.ext {C : Cx} {s s' : Shared} (I : Inv C s) (x : Ext C.fs s s') : Inv C s' := by
  obtain ⟨outer, ho, hf⟩ := I.frames
  refine ⟨fun b o e => x.keep b o (I.base b o e) (fun q => by rw [(hf.mem q).1] at e; cases e) (fun q => by subst q; rw [I.gtab] at e; cases e), x.gens.trans I.gens, x.os.trans I.os, ?_, I.hand, ⟨outer, ho, hf.ext fun b hb o es n e d => ?_⟩, I.gtab⟩
  · obtain ⟨ps, e, t⟩ := I.tab
    obtain ⟨m, e', t'⟩ := x.tab ps e t
    exact ⟨_, e', t'⟩
  · obtain ⟨sl, e'⟩ := x.slot b o e hb
    exact ⟨_, es, n, e', d⟩
theorem Inv.stable {C : Cx} {s s' : Shared} (I : Inv C s) (x : Ext C.fs s s') {b : Addr} {o : Obj} (e : s.heap.get? b = some o) (st : Stable o) : s'.heap.get? b = some o := by
  obtain ⟨outer, ho, hf⟩ := I.frames
  refine x.keep b o e (fun q => ?_) fun q => ?_
  · obtain ⟨_, _, o', es, n, e', d⟩ := hf.mem q
    rw [e] at e'; cases e'
    exact st.1 _ _ d
  · obtain ⟨ps, e', _⟩ := I.tab
    subst q
    rw [e] at e'; cases e'
    exact st.2.2 rfl
theorem Inv.keepS {C : Cx} {s s' : Shared} (I : Inv C s) (x : Ext C.fs s s') {mu : List Addr} : KeepS mu s.heap s'.heap := ⟨fun _ _ e st _ => I.stable x e st⟩
theorem Inv.rep {C : Cx} {s s' : Shared} (I : Inv C s) (x : Ext C.fs s s') {mu : List Addr} {v : Value} {p : PV} (r : Rep mu s.heap v p) : Rep mu s'.heap v p := by
  cases p with
  | la a xs =>
    obtain ⟨h1, h2, vs, n, h3, h4⟩ := r
    exact ⟨h1, h2, vs, n, I.stable x h3 (stable_lobj _ _), h4.keep (I.keepS x)⟩
  | _ => exact RepI.keep (I.keepS x) r
theorem Inv.repL {C : Cx} {s s' : Shared} (I : Inv C s) (x : Ext C.fs s s') {mu : List Addr} : ∀ {vs : List Value} {ps : List PV}, RepL mu s.heap vs ps → RepL mu s'.heap vs ps
  | _, _, .nil => .nil
  | _, _, .cons a r => .cons (I.rep x a) (Inv.repL I x r)
theorem Inv.ns {C : Cx} {s s' : Shared} (I : Inv C s) (x : Ext C.fs s s') {L : Addr} {m : Str → Option Value} (hn : s.heap.Ns L m) : s'.heap.Ns L m := by
  obtain ⟨o, es, ep, e, d, r⟩ := hn
  by_cases q : L ∈ C.fs
  · obtain ⟨sl, e'⟩ := x.slot L o e q
    exact ⟨_, es, ep, e', d, r⟩
  · refine ⟨o, es, ep, x.keep L o e q fun z => ?_, d, r⟩
    obtain ⟨ps, e', _⟩ := I.tab
    subst z
    rw [e] at e'; cases e'; cases d
theorem Inv.cell {C : Cx} {s s' : Shared} (I : Inv C s) (x : Ext C.fs s s') {c : Addr} {v : Option Value} (hc : s.heap.IsCell c v) : s'.heap.IsCell c v := by
  obtain ⟨o, e, d⟩ := hc
  obtain ⟨outer, ho, hf⟩ := I.frames
  refine ⟨o, x.keep c o e (fun q => ?_) (fun q => ?_), d⟩
  · obtain ⟨_, _, o', es, n, e', d'⟩ := hf.mem q
    rw [e] at e'; cases e'; rw [d] at d'; cases d'
  · obtain ⟨ps, e', _⟩ := I.tab
    subst q
    rw [e] at e'; cases e'; cases d

/-! ### the frame at hand -/
structure St where
  /-- lists that others own -/
  m0 : List Addr
  /-- lists that this frame owns -/
  ow : List Addr
  vs : List (Str × PV)
noncomputable abbrev St.mu (σ : St) : List Addr := σ.ow ++ σ.m0
structure Frm (env : Env) (σ : St) (s : Shared) : Prop where
  kind : env.scope.kind = .function
  glob : env.globals = mainGlobals
  blt : env.builtins = builtinsNs
  ns : ∃ m, s.heap.Ns env.locals m ∧ ∀ x p, σ.vs.lookup x = some p → env.kindOf x = some .local → ∃ v, m x = some v ∧ Rep σ.mu s.heap v p
  cv : ∀ x p, σ.vs.lookup x = some p → env.kindOf x ≠ some .local → ∃ c v, env.cells.lookup x = some c ∧ s.heap.IsCell c (some v) ∧ Rep σ.mu s.heap v p
  co : ∀ n c, env.cells.lookup n = some c → ∃ v, s.heap.IsCell c v
  mu : ∀ a ∈ σ.mu, ∃ vs n, s.heap.get? a = some (lobj vs n)
theorem Inv.frm {C : Cx} {s s' : Shared} (I : Inv C s) (x : Ext C.fs s s') {env : Env} {σ : St} (F : Frm env σ s) : Frm env σ s' := by
  obtain ⟨k, gl, bl, ⟨m, hm, hv⟩, cv, co, mu⟩ := F
  refine ⟨k, gl, bl, ⟨m, I.ns x hm, fun y p e q => ?_⟩, fun y p e q => ?_, fun n c hc => ?_, fun a ha => ?_⟩
  · obtain ⟨v, h1, h2⟩ := hv y p e q
    exact ⟨v, h1, I.rep x h2⟩
  · obtain ⟨c, v, h1, h2, h3⟩ := cv y p e q
    exact ⟨c, v, h1, I.cell x h2, I.rep x h3⟩
  · obtain ⟨v, h⟩ := co n c hc
    exact ⟨v, I.cell x h⟩
  · obtain ⟨vs, n, e⟩ := mu a ha
    exact ⟨vs, n, I.stable x e (stable_lobj _ _)⟩

/-- an expression's value, the heap but grown -/
structure Ev (C : Cx) (env : Env) (σ : St) (e : Expr) (p : PV) : Prop where
  run : ∀ s, Inv C s → Frm env σ s → wpAny C.M C.A (eval e env) (fun v s' => Ext C.fs s s' ∧ Rep σ.mu s'.heap v p) (fun _ _ => False) s
theorem Ev.use {C : Cx} {env : Env} {σ : St} {e : Expr} {p : PV} (h : Ev C env σ e p) {s : Shared} (I : Inv C s) (F : Frm env σ s) {Q : Value → Shared → Prop} {E : Value → Shared → Prop}
    (k : ∀ v s', Ext C.fs s s' → Inv C s' → Frm env σ s' → Rep σ.mu s'.heap v p → Q v s') : wpAny C.M C.A (eval e env) Q E s :=
  wpAny_mono (h.run s I F) (fun v s' z => k v s' z.1 (I.ext z.1) (I.frm z.1 F) z.2) fun _ _ z => z.elim

theorem Ev.loc {C : Cx} {env : Env} {σ : St} {x : Str} {pos : Pos} {p : PV} (hv : σ.vs.lookup x = some p) (hk : env.kindOf x = some .local) (hd : (x == ("__debug__" : Str)) = false := by decide) : Ev C env σ (.Name x pos) p := by
  refine ⟨?_⟩
  intro s I F
  obtain ⟨m, hm, q⟩ := F.ns
  obtain ⟨v, e, r⟩ := q x p hv hk
  exact wpAny_Name (wpAny_loadName_local F.kind hk hm e ⟨.refl _ _, r⟩) hd
theorem Ev.cel {C : Cx} {env : Env} {σ : St} {x : Str} {pos : Pos} {p : PV} (hv : σ.vs.lookup x = some p) (hk : env.kindOf x = some .cell) (hd : (x == ("__debug__" : Str)) = false := by decide) : Ev C env σ (.Name x pos) p := by
  refine ⟨?_⟩
  intro s I F
  obtain ⟨c, v, e, r, z⟩ := F.cv x p hv (by rw [hk]; decide)
  exact wpAny_Name (wpAny_loadName_cell F.kind hk e r ⟨.refl _ _, z⟩) hd
theorem Ev.fre {C : Cx} {env : Env} {σ : St} {x : Str} {pos : Pos} {p : PV} (hv : σ.vs.lookup x = some p) (hk : env.kindOf x = some .free) (hd : (x == ("__debug__" : Str)) = false := by decide)
    (hn : (x == ("__classdict__" : Str)) = false := by decide) : Ev C env σ (.Name x pos) p := by
  refine ⟨?_⟩
  intro s I F
  obtain ⟨c, v, e, r, z⟩ := F.cv x p hv (by rw [hk]; decide)
  exact wpAny_Name (wpAny_loadName_free F.kind hk e r ⟨.refl _ _, z⟩ hn) hd

end
section
set_option linter.unusedVariables false
variable {C : Cx} {env : Env} {σ : St} {mu : List Addr}

/-! ### constants -/
theorem Ev.int {n : Int} {k : Nat} {pos : Pos} : Ev C env σ (.Constant (.int n) k pos) (.i n) :=
  .mk fun _ _ _ => by with_reducible exact wpAny_Constant_int ⟨Ext.tok, Rep.i⟩
theorem Ev.str {x : Str} {k : Nat} {pos : Pos} : Ev C env σ (.Constant (.str x) k pos) (.s x) :=
  .mk fun _ _ _ => by with_reducible exact Calls.Constant_str ⟨Ext.tok, Rep.s⟩
theorem Ev.boo {b : Bool} {k : Nat} {pos : Pos} : Ev C env σ (.Constant (.bool b) k pos) (.b b) :=
  .mk fun s I _ => by
    with_unfolding_all exact wpAny_pure (a := Value.bool b) ⟨Ext.refl _ _, Rep.b⟩

/-! ### binary operations -/
structure BinV (C : Cx) (mu : List Addr) (op : Operator) (p q r : PV) : Prop where
  run : ∀ v w s, Inv C s → Rep mu s.heap v p → Rep mu s.heap w q → wpAny C.M C.A (binaryOp op v w) (fun x s' => Ext C.fs s s' ∧ Rep mu s'.heap x r) (fun _ _ => False) s
theorem BinV.use {op : Operator} {p q r : PV} (ho : BinV C mu op p q r) {v w : Value} {s : Shared} (I : Inv C s) (r1 : Rep mu s.heap v p) (r2 : Rep mu s.heap w q) {Q : Value → Shared → Prop} {E : Value → Shared → Prop}
    (k : ∀ x s', Ext C.fs s s' → Rep mu s'.heap x r → Q x s') : wpAny C.M C.A (binaryOp op v w) Q E s := wpAny_mono (ho.run v w s I r1 r2) (fun x s' z => k x s' z.1 z.2) fun _ _ z => z.elim
theorem Ev.bin {a b : Expr} {op : Operator} {pos : Pos} {p q r : PV} (h1 : Ev C env σ a p) (h2 : Ev C env σ b q) (ho : BinV C σ.mu op p q r) : Ev C env σ (.BinOp a op b pos) r :=
  .mk fun s I F => by with_reducible exact wpAny_BinOp (h1.use I F fun v s1 x1 I1 F1 r1 => h2.use I1 F1 fun w s2 x2 I2 F2 r2 =>
    ho.use I2 (I1.rep x2 r1) r2 fun _ _ x3 z => ⟨(x1.trans x2).trans x3, z⟩)

theorem BinV.add_i {a b : Int} : BinV C mu .Add (.i a) (.i b) (.i (a + b)) := by
  refine ⟨?_⟩
  rintro _ _ s I ⟨⟩ ⟨⟩; with_reducible exact PyProof.Rows.add_int ⟨Ext.tok, Rep.i⟩
theorem BinV.sub_i {a b : Int} : BinV C mu .Sub (.i a) (.i b) (.i (a - b)) := by
  refine ⟨?_⟩
  rintro _ _ s I ⟨⟩ ⟨⟩; with_reducible exact PyProof.Rows.sub_int ⟨Ext.tok, Rep.i⟩
theorem BinV.mul_i {a b : Int} (hm : IntMulOk a b) : BinV C mu .Mult (.i a) (.i b) (.i (a * b)) := by
  refine ⟨?_⟩
  rintro _ _ s I ⟨⟩ ⟨⟩; with_reducible exact PyProof.Rows.mul_int ⟨Ext.tok, Rep.i⟩ hm
theorem BinV.fdiv_i {a b : Int} (hb : b ≠ 0) (hp : Builtin.divisionGoesByPylong a b = false) : BinV C mu .FloorDiv (.i a) (.i b) (.i (a.fdiv b)) := by
  refine ⟨?_⟩
  rintro _ _ s I ⟨⟩ ⟨⟩; with_reducible exact PyProof.Rows.floordiv_int hb ⟨Ext.tok, Rep.i⟩ (.inl hp)
theorem BinV.fmod_i {a b : Int} (hb : b ≠ 0) : BinV C mu .Mod (.i a) (.i b) (.i (a.fmod b)) := by
  refine ⟨?_⟩
  rintro _ _ s I ⟨⟩ ⟨⟩; with_reducible exact PyProof.Rows.mod_int' hb ⟨Ext.tok, Rep.i⟩
theorem BinV.pow_i {a n : Int} (hn : 0 ≤ n) (hn2 : n ≤ 1000000) (ha : a.natAbs < 2 ^ 64) : BinV C mu .Pow (.i a) (.i n) (.i (a ^ n.toNat)) := by
  refine ⟨?_⟩
  rintro _ _ s I ⟨⟩ ⟨⟩; with_reducible exact pow_int_small hn hn2 ha ⟨Ext.tok, Rep.i⟩
theorem BinV.shl_i {a n : Int} (hn : 0 ≤ n) (hn2 : n ≤ 1000000) (ha : a.natAbs < 2 ^ 64) : BinV C mu .LShift (.i a) (.i n) (.i (a * 2 ^ n.toNat)) := by
  refine ⟨?_⟩
  rintro _ _ s I ⟨⟩ ⟨⟩; with_reducible exact lshift_int_small hn hn2 ha ⟨Ext.tok, Rep.i⟩
theorem BinV.shr_i {a n : Int} (hn : 0 ≤ n) : BinV C mu .RShift (.i a) (.i n) (.i (a.fdiv (2 ^ n.toNat))) := by
  refine ⟨?_⟩
  rintro _ _ s I ⟨⟩ ⟨⟩; with_reducible exact rshift_int hn ⟨Ext.tok, Rep.i⟩
theorem BinV.and_i {a b : Int} : BinV C mu .BitAnd (.i a) (.i b) (.i (Builtin.bitAnd a b)) := by
  refine ⟨?_⟩
  rintro _ _ s I ⟨⟩ ⟨⟩; with_reducible exact and_int ⟨Ext.tok, Rep.i⟩
theorem BinV.or_i {a b : Int} : BinV C mu .BitOr (.i a) (.i b) (.i (Builtin.bitOr a b)) := by
  refine ⟨?_⟩
  rintro _ _ s I ⟨⟩ ⟨⟩; with_reducible exact or_int ⟨Ext.tok, Rep.i⟩
theorem BinV.add_s {a b : Str} (h : a.length + b.length ≤ sizeLine) : BinV C mu .Add (.s a) (.s b) (.s (a ++ b)) := by
  refine ⟨?_⟩
  rintro _ _ s I ⟨⟩ ⟨⟩; with_reducible exact PyProof.Rows.add_str (fun _ _ => ⟨Ext.tok, Rep.s⟩) h
theorem BinV.mul_s {a : Str} {n : Int} (h : MulOk a n) : BinV C mu .Mult (.s a) (.i n) (.s (Txt.mul a n)) := by
  refine ⟨?_⟩
  rintro _ _ s I ⟨⟩ ⟨⟩; with_reducible exact SB.mul h (fun _ _ => ⟨Ext.tok, Rep.s⟩)

theorem Rep.lof {h : Heap} {a : Addr} {vs : List Value} {n : Nat} {xs : List PV} (e : h.get? a = some (lobj vs n)) (m : a ∉ mu) (r : RepIL mu h vs xs) : Rep mu h (.ref a) (.l xs) := RepI.l e m r

theorem fresh_size (h : Heap) : h.get? h.objs.size = none := by
  cases e : h.get? h.objs.size with
  | none => rfl
  | some o => exact absurd (Heap.lt_size e) (Nat.lt_irrefl _)
/-- a fresh list at the heap's end -/
theorem Rep.push {h : Heap} {vs : List Value} {xs : List PV} (hmu : ∀ a ∈ mu, ∃ vs n, h.get? a = some (lobj vs n)) (r : RepIL mu h vs xs) : Rep mu (h.push (lobj vs 0)) (.ref h.objs.size) (.l xs) :=
  Rep.lof (Heap.get?_push_size _ rfl) (fun q => by obtain ⟨_, _, e⟩ := hmu _ q; rw [fresh_size] at e; cases e) (r.keep ⟨fun _ _ e _ _ => Heap.get?_push_of_some _ e⟩)

structure LBin (C : Cx) (σ : St) (env : Env) (op : Operator) (p q r : PV) : Prop where
  run : ∀ v w s, Inv C s → Frm env σ s → Rep σ.mu s.heap v p → Rep σ.mu s.heap w q → wpAny C.M C.A (binaryOp op v w) (fun x s' => Ext C.fs s s' ∧ Rep σ.mu s'.heap x r) (fun _ _ => False) s
theorem Ev.addl {a b : Expr} {pos : Pos} {p q : PV} {xs ys : List PV} (h1 : Ev C env σ a p) (h2 : Ev C env σ b q) (e1 : p.lst? = some xs) (e2 : q.lst? = some ys) (hs : xs.length + ys.length ≤ sizeLine) :
    Ev C env σ (.BinOp a .Add b pos) (.l (xs ++ ys)) :=
  .mk fun s I F => by with_reducible exact wpAny_BinOp (h1.use I F fun v s1 x1 I1 F1 r1 => h2.use I1 F1 fun w s2 x2 I2 F2 r2 => by
    obtain ⟨A, vs, n, rfl, e, z⟩ := (I1.rep x2 r1).lst e1
    obtain ⟨B, ws, m, rfl, e', z'⟩ := r2.lst e2
    with_reducible refine P.add_list e e' ⟨(x1.trans x2).trans Ext.push, ?_⟩ (by simpa [z.length, z'.length] using hs)
    have := Rep.push F2.mu (z.append z')
    simpa using this)

/-! ### comparisons -/
structure CmpV (C : Cx) (mu : List Addr) (op : CmpOp) (p q : PV) (r : Bool) : Prop where
  run : ∀ v w s, Inv C s → Rep mu s.heap v p → Rep mu s.heap w q → wpAny C.M C.A (compareOp op v w) (fun x s' => x = .bool r ∧ Ext C.fs s s') (fun _ _ => False) s
theorem CmpV.use {op : CmpOp} {p q : PV} {r : Bool} (ho : CmpV C mu op p q r) {v w : Value} {s : Shared} (I : Inv C s) (r1 : Rep mu s.heap v p) (r2 : Rep mu s.heap w q) {Q : Value → Shared → Prop} {E : Value → Shared → Prop}
    (k : ∀ s', Ext C.fs s s' → Q (.bool r) s') : wpAny C.M C.A (compareOp op v w) Q E s := wpAny_mono (ho.run v w s I r1 r2) (fun x s' z => z.1 ▸ k s' z.2) fun _ _ z => z.elim
theorem Ev.cmp {a b : Expr} {op : CmpOp} {pos : Pos} {p q : PV} {r : Bool} (h1 : Ev C env σ a p) (h2 : Ev C env σ b q) (ho : CmpV C σ.mu op p q r)
    (hm : behindInMarks op b = false := by with_unfolding_all rfl) : Ev C env σ (.Compare a [op] [b] pos) (.b r) :=
  .mk fun s I F => by with_reducible exact wpAny_Compare1 (h1.use I F fun v s1 x1 I1 F1 r1 => h2.use I1 F1 fun w s2 x2 I2 F2 r2 =>
    ho.use I2 (I1.rep x2 r1) r2 fun _ x3 => ⟨(x1.trans x2).trans x3, Rep.b⟩) hm
/-- a test -/
structure Tst (C : Cx) (env : Env) (σ : St) (e : Expr) (b : Bool) : Prop where
  run : ∀ s, Inv C s → Frm env σ s → wpAny C.M C.A (isTrue e env (eval e env)) (fun x s' => x = b ∧ Ext C.fs s s') (fun _ _ => False) s
theorem Tst.use {e : Expr} {b : Bool} (h : Tst C env σ e b) {s : Shared} (I : Inv C s) (F : Frm env σ s) {Q : Bool → Shared → Prop} {E : Value → Shared → Prop}
    (k : ∀ s', Ext C.fs s s' → Inv C s' → Frm env σ s' → Q b s') : wpAny C.M C.A (isTrue e env (eval e env)) Q E s :=
  wpAny_mono (h.run s I F) (fun v s' z => z.1 ▸ k s' z.2 (I.ext z.2) (I.frm z.2 F)) fun _ _ z => z.elim
theorem Tst.cmp {a b : Expr} {op : CmpOp} {pos : Pos} {p q : PV} {r : Bool} (h1 : Ev C env σ a p) (h2 : Ev C env σ b q) (ho : CmpV C σ.mu op p q r)
    (hm : behindInMarks op b = false := by with_unfolding_all rfl) : Tst C env σ (.Compare a [op] [b] pos) r :=
  .mk fun s I F => by with_reducible exact wpAny_isTrue_Compare1 (h1.use I F fun v s1 x1 I1 F1 r1 => h2.use I1 F1 fun w s2 x2 I2 F2 r2 =>
    ho.use I2 (I1.rep x2 r1) r2 fun _ x3 => wpAny_truthy_bool ⟨rfl, (x1.trans x2).trans x3⟩) hm
theorem itf {P R : Prop} (h : R) : if false = true then P else R := by rw [if_neg (by decide)]; exact h
theorem itt {P R : Prop} (h : P) : if true = true then P else R := by rw [if_pos rfl]; exact h
theorem Tst.andN {pos : Pos} : ∀ {whole : Sem Value}, ∀ s, wpAny C.M C.A (isTrue (.BoolOp .And [] pos) env whole) (fun x s' => x = true ∧ Ext C.fs s s') (fun _ _ => False) s :=
  fun s => isTrue_and_nil ⟨rfl, Ext.refl _ _⟩
theorem Tst.not {a : Expr} {pos : Pos} {b : Bool} (h : Tst C env σ a b) : Tst C env σ (.UnaryOp .Not a pos) (!b) :=
  .mk fun s I F => by with_reducible exact isTrue_not (h.use I F fun s' x _ _ => ⟨rfl, x⟩)
theorem Tst.and2 {a b : Expr} {pos : Pos} {x y : Bool} (h1 : Tst C env σ a x) (h2 : x = true → Tst C env σ b y) : Tst C env σ (.BoolOp .And [a, b] pos) (x && y) := by
  refine ⟨?_⟩
  intro s I F
  with_reducible refine isTrue_and (h1.use I F fun s1 x1 I1 F1 => ?_)
  cases x with
  | false => exact itf ⟨rfl, x1⟩
  | true =>
    with_reducible refine itt (isTrue_and ((h2 rfl).use I1 F1 fun s2 x2 I2 F2 => ?_))
    cases y with
    | false => exact itf ⟨rfl, x1.trans x2⟩
    | true => with_reducible refine itt (isTrue_and_nil ?_); exact ⟨rfl, x1.trans x2⟩
theorem Tst.or2 {a b : Expr} {pos : Pos} {x y : Bool} (h1 : Tst C env σ a x) (h2 : x = false → Tst C env σ b y) : Tst C env σ (.BoolOp .Or [a, b] pos) (x || y) := by
  refine ⟨?_⟩
  intro s I F
  with_reducible refine isTrue_or (h1.use I F fun s1 x1 I1 F1 => ?_)
  cases x with
  | true => exact itt ⟨rfl, x1⟩
  | false =>
    with_reducible refine itf (isTrue_or ((h2 rfl).use I1 F1 fun s2 x2 I2 F2 => ?_))
    cases y with
    | true => exact itt ⟨rfl, x1.trans x2⟩
    | false => with_reducible refine itf (isTrue_or_nil ?_); exact ⟨rfl, x1.trans x2⟩
theorem Tst.or3 {a b c : Expr} {pos : Pos} {x y z : Bool} (h1 : Tst C env σ a x) (h2 : x = false → Tst C env σ b y) (h3 : x = false → y = false → Tst C env σ c z) : Tst C env σ (.BoolOp .Or [a, b, c] pos) (x || y || z) := by
  refine ⟨?_⟩
  intro s I F
  with_reducible refine isTrue_or (h1.use I F fun s1 x1 I1 F1 => ?_)
  cases x with
  | true => exact itt ⟨rfl, x1⟩
  | false =>
    with_reducible refine itf (isTrue_or ((h2 rfl).use I1 F1 fun s2 x2 I2 F2 => ?_))
    cases y with
    | true => exact itt ⟨rfl, x1.trans x2⟩
    | false =>
      with_reducible refine itf (isTrue_or ((h3 rfl rfl).use I2 F2 fun s3 x3 I3 F3 => ?_))
      cases z with
      | true => exact itt ⟨rfl, (x1.trans x2).trans x3⟩
      | false => with_reducible refine itf (isTrue_or_nil ?_); exact ⟨rfl, (x1.trans x2).trans x3⟩
/-- a test by a value that is a bool -/
theorem Tst.val {e : Expr} {b : Bool} (h : Ev C env σ e (.b b)) (he : ∀ whole : Sem Value, isTrue e env whole = (do let v ← whole; standAt e.pos; holding [v] (truthy v)) := by intro _; rfl) : Tst C env σ e b :=
  .mk fun s I F => by with_reducible exact isTrue_plain (h.use I F fun v s1 x1 I1 F1 r1 => by rw [r1.b_inv]; with_reducible exact wpAny_truthy_bool ⟨rfl, x1⟩) (he _)
theorem Ev.ifexp {t a b : Expr} {pos : Pos} {x : Bool} {p : PV} (h1 : Tst C env σ t x) (h2 : x = true → Ev C env σ a p) (h3 : x = false → Ev C env σ b p) : Ev C env σ (.IfExp t a b pos) p := by
  refine ⟨?_⟩
  intro s I F
  with_reducible refine wpAny_IfExp (h1.use I F fun s1 x1 I1 F1 => ?_)
  cases x with
  | true => exact itt ((h2 rfl).use I1 F1 fun v s2 x2 _ _ r => ⟨x1.trans x2, r⟩)
  | false => exact itf ((h3 rfl).use I1 F1 fun v s2 x2 _ _ r => ⟨x1.trans x2, r⟩)

theorem CmpV.eq_i {a b : Int} : CmpV C mu .Eq (.i a) (.i b) (a == b) := by
  refine ⟨?_⟩
  rintro _ _ s I ⟨⟩ ⟨⟩; with_reducible exact PyProof.Rows.eq_int ⟨rfl, Ext.refl _ _⟩
theorem CmpV.ne_i {a b : Int} : CmpV C mu .NotEq (.i a) (.i b) (a != b) := by
  refine ⟨?_⟩
  rintro _ _ s I ⟨⟩ ⟨⟩; with_reducible exact PyProof.Rows.ne_int ⟨rfl, Ext.refl _ _⟩
theorem CmpV.lt_i {a b : Int} : CmpV C mu .Lt (.i a) (.i b) (decide (a < b)) := by
  refine ⟨?_⟩
  rintro _ _ s I ⟨⟩ ⟨⟩; with_reducible exact PyProof.Rows.lt_int ⟨rfl, Ext.refl _ _⟩
theorem CmpV.gt_i {a b : Int} : CmpV C mu .Gt (.i a) (.i b) (decide (b < a)) := by
  refine ⟨?_⟩
  rintro _ _ s I ⟨⟩ ⟨⟩; with_reducible exact PyProof.Rows.gt_int ⟨rfl, Ext.refl _ _⟩
theorem CmpV.le_i {a b : Int} : CmpV C mu .LtE (.i a) (.i b) (decide (a ≤ b)) := by
  refine ⟨?_⟩
  rintro _ _ s I ⟨⟩ ⟨⟩; with_reducible exact PyProof.Rows.le_int ⟨rfl, Ext.refl _ _⟩
theorem CmpV.ge_i {a b : Int} : CmpV C mu .GtE (.i a) (.i b) (decide (b ≤ a)) := by
  refine ⟨?_⟩
  rintro _ _ s I ⟨⟩ ⟨⟩; with_reducible exact PyProof.Rows.ge_int ⟨rfl, Ext.refl _ _⟩
theorem CmpV.eq_s {a b : Str} : CmpV C mu .Eq (.s a) (.s b) (a == b) := by
  refine ⟨?_⟩
  rintro _ _ s I ⟨⟩ ⟨⟩; with_reducible exact PyProof.Rows.eq_str ⟨rfl, Ext.refl _ _⟩
theorem CmpV.ne_s {a b : Str} : CmpV C mu .NotEq (.s a) (.s b) (a != b) := by
  refine ⟨?_⟩
  rintro _ _ s I ⟨⟩ ⟨⟩; with_reducible exact PyProof.Rows.ne_str ⟨rfl, Ext.refl _ _⟩
/-- does the text stand in the other -/
noncomputable def inS (x y : Str) : Bool := !(Builtin.Str.occurrences x y 0 x.length 1).isEmpty
theorem CmpV.in_s {x y : Str} : CmpV C mu .In (.s y) (.s x) (inS x y) := by
  refine ⟨?_⟩
  rintro _ _ s I ⟨⟩ ⟨⟩; with_reducible exact PyProof.Rows.in_str ⟨rfl, Ext.refl _ _⟩
theorem CmpV.notin_s {x y : Str} : CmpV C mu .NotIn (.s y) (.s x) (!inS x y) := by
  refine ⟨?_⟩
  rintro _ _ s I ⟨⟩ ⟨⟩; with_reducible exact PyProof.Rows.notIn_str ⟨rfl, Ext.refl _ _⟩

end
section
set_option linter.unusedVariables false
variable {C : Cx} {env : Env} {σ : St} {mu : List Addr}

/-! ### global names -/
theorem Inv.bns {s : Shared} (I : Inv C s) {L : Addr} {m : Str → Option Value} (h : C.g.Ns L m) : s.heap.Ns L m := h.keeps I.base
theorem Ev.glob {x : Str} {pos : Pos} {mg : Str → Option Value} {v : Value} (hg : C.g.Ns mainGlobals mg) (hv : mg x = some v) (hk : env.kindOf x = some .globalImplicit)
    (hd : (x == ("__debug__" : Str)) = false := by decide) : Ev C env σ (.Name x pos) (.v v) :=
  .mk fun s I F => by
    with_reducible refine Name_function_global F.kind hk (loadGlobal_global (by rw [F.glob]; exact I.bns hg) hv ?_) hd
    exact ⟨Ext.refl _ _, Rep.v⟩
theorem Ev.blt {x : Str} {pos : Pos} {mg mb : Str → Option Value} {v : Value} (hg : C.g.Ns mainGlobals mg) (hb : C.g.Ns builtinsNs mb) (hn : mg x = none) (hv : mb x = some v) (hk : env.kindOf x = some .globalImplicit)
    (hd : (x == ("__debug__" : Str)) = false := by decide) : Ev C env σ (.Name x pos) (.v v) :=
  .mk fun s I F => by
    with_reducible refine Name_function_global F.kind hk (loadGlobal_builtin (by rw [F.glob]; exact I.bns hg) hn (by rw [F.blt]; exact I.bns hb) hv ?_) hd
    exact ⟨Ext.refl _ _, Rep.v⟩
theorem Ev.gval {e : Expr} {v : Value} {p : PV} (h : Ev C env σ e (.v v)) (hp : ∀ h : Heap, Rep σ.mu h v p) : Ev C env σ e p :=
  .mk fun s I F => h.use I F fun x s1 x1 I1 F1 r => ⟨x1, by rw [r.v_inv]; exact hp _⟩

/-! ### arguments -/
structure EvA (C : Cx) (env : Env) (σ : St) (es : List Expr) (ps : List PV) : Prop where
  run : ∀ pos s, Inv C s → Frm env σ s → wpAny C.M C.A (spliced (backTo pos (starEach es env))) (fun vs s' => Ext C.fs s s' ∧ RepL σ.mu s'.heap vs ps) (fun _ _ => False) s
theorem EvA.use {es : List Expr} {ps : List PV} (h : EvA C env σ es ps) {pos : Pos} {s : Shared} (I : Inv C s) (F : Frm env σ s) {Q : List Value → Shared → Prop} {E : Value → Shared → Prop}
    (k : ∀ vs s', Ext C.fs s s' → Inv C s' → Frm env σ s' → RepL σ.mu s'.heap vs ps → Q vs s') : wpAny C.M C.A (spliced (backTo pos (starEach es env))) Q E s :=
  wpAny_mono (h.run pos s I F) (fun v s' z => k v s' z.1 (I.ext z.1) (I.frm z.1 F) z.2) fun _ _ z => z.elim
theorem EvA.nil : EvA C env σ [] [] := .mk fun pos s I F => by with_reducible exact args_nil ⟨Ext.refl _ _, .nil⟩
theorem EvA.cons {e : Expr} {es : List Expr} {p : PV} {ps : List PV} (h1 : Ev C env σ e p) (h2 : EvA C env σ es ps)
    (he : starEach (e :: es) env = (false, eval e env) :: starEach es env := by rfl) : EvA C env σ (e :: es) (p :: ps) :=
  .mk fun pos s I F => by with_reducible exact args_cons (h1.use I F fun v s1 x1 I1 F1 r1 => h2.use I1 F1 fun vs s2 x2 I2 F2 r2 => ⟨x1.trans x2, .cons (I1.rep x2 r1) r2⟩) he

/-! ### calls -/
structure CallV (C : Cx) (mu : List Addr) (f : Value) (ps : List PV) (r : PV) : Prop where
  run : ∀ vs s, Inv C s → (∀ a ∈ mu, ∃ vs n, s.heap.get? a = some (lobj vs n)) → RepL mu s.heap vs ps → wpAny C.M C.A (call f vs) (fun v s' => Ext C.fs s s' ∧ Rep mu s'.heap v r) (fun _ _ => False) s
theorem CallV.use {f : Value} {ps : List PV} {r : PV} (h : CallV C mu f ps r) {vs : List Value} {s : Shared} (I : Inv C s) (hm : ∀ a ∈ mu, ∃ vs n, s.heap.get? a = some (lobj vs n)) (rl : RepL mu s.heap vs ps)
    {Q : Value → Shared → Prop} {E : Value → Shared → Prop} (k : ∀ v s', Ext C.fs s s' → Inv C s' → Rep mu s'.heap v r → Q v s') : wpAny C.M C.A (call f vs) Q E s :=
  wpAny_mono (h.run vs s I hm rl) (fun v s' z => k v s' z.1 (I.ext z.1) z.2) fun _ _ z => z.elim
theorem Ev.callB {f e : Expr} {es : List Expr} {pos : Pos} {id : String} {ps : List PV} {r : PV} (hf : Ev C env σ f (.v (.builtin id))) (ha : EvA C env σ (e :: es) ps) (hc : CallV C σ.mu (.builtin id) ps r)
    (he : eval (.Call f (e :: es) [] pos) env = (do callWith pos (← eval f env) [] (backTo pos (starEach (e :: es) env)) (backToKw pos (keywordEach [] env))) := by rfl)
    (hs : starEach (e :: es) env = (false, eval e env) :: starEach es env := by rfl)
    (hplain : (backTo pos (starEach es env)).any (·.1) = false := by rfl) : Ev C env σ (.Call f (e :: es) [] pos) r :=
  .mk fun s I F => by
    with_reducible refine Call_ (hf.use I F fun v s1 x1 I1 F1 r1 => ?_) he
    rw [r1.v_inv]
    with_reducible exact callWith_builtin1 (ha.use I1 F1 fun vs s2 x2 I2 F2 r2 => hc.use I2 F2.mu r2 fun v s3 x3 _ r3 => ⟨(x1.trans x2).trans x3, r3⟩) hs hplain
theorem Ev.callT {f e : Expr} {es : List Expr} {pos : Pos} {T : String} {ps : List PV} {r : PV} (hf : Ev C env σ f (.v (.type T))) (ha : EvA C env σ (e :: es) ps) (hc : CallV C σ.mu (.type T) ps r)
    (he : eval (.Call f (e :: es) [] pos) env = (do callWith pos (← eval f env) [] (backTo pos (starEach (e :: es) env)) (backToKw pos (keywordEach [] env))) := by rfl)
    (hs : starEach (e :: es) env = (false, eval e env) :: starEach es env := by rfl)
    (hplain : (backTo pos (starEach es env)).any (·.1) = false := by rfl) : Ev C env σ (.Call f (e :: es) [] pos) r :=
  .mk fun s I F => by
    with_reducible refine Call_ (hf.use I F fun v s1 x1 I1 F1 r1 => ?_) he
    rw [r1.v_inv]
    with_reducible refine callWith_type1 ?_ hs hplain
    with_reducible exact ha.use I1 F1 fun vs s2 x2 I2 F2 r2 => hc.use I2 F2.mu r2 fun v s3 x3 _ r3 => ⟨(x1.trans x2).trans x3, r3⟩
theorem Ev.callF {f e : Expr} {es : List Expr} {pos : Pos} {a : Addr} {o : Obj} {fd : FuncData} {ps : List PV} {r : PV} (hf : Ev C env σ f (.v (.ref a))) (ho : C.g.get? a = some o) (hd : o.data = .func fd)
    (ha : EvA C env σ (e :: es) ps) (hc : CallV C σ.mu (.ref a) ps r)
    (he : eval (.Call f (e :: es) [] pos) env = (do callWith pos (← eval f env) [] (backTo pos (starEach (e :: es) env)) (backToKw pos (keywordEach [] env))) := by rfl)
    (hs : starEach (e :: es) env = (false, eval e env) :: starEach es env := by rfl) : Ev C env σ (.Call f (e :: es) [] pos) r :=
  .mk fun s I F => by
    with_reducible refine Call_ (hf.use I F fun v s1 x1 I1 F1 r1 => ?_) he
    rw [r1.v_inv]
    with_reducible exact callWith_def hd (ha.use I1 F1 fun vs s2 x2 I2 F2 r2 => ⟨I2.base _ _ ho, hc.use I2 F2.mu r2 fun v s3 x3 _ r3 => ⟨(x1.trans x2).trans x3, r3⟩⟩) hs

/-! ### lists -/
noncomputable def PV.pl : PV → Bool
  | .la _ _ => false
  | _ => true
theorem Rep.toI {h : Heap} {v : Value} {p : PV} (r : Rep mu h v p) (e : p.pl = true) : RepI mu h v p := by
  cases p <;> first | exact r | cases e
theorem RepL.toI {h : Heap} : ∀ {vs : List Value} {ps : List PV}, RepL mu h vs ps → ps.all PV.pl = true → RepIL mu h vs ps
  | _, _, .nil, _ => .nil
  | _, _, .cons a r, e => by
    rw [List.all_cons, Bool.and_eq_true] at e
    exact .cons (a.toI e.1) (RepL.toI r e.2)
theorem Ev.list {es : List Expr} {ps : List PV} {pos : Pos} (ha : EvA C env σ es ps) (hp : ps.all PV.pl = true) (hn : ps.length ≤ sizeLine := by first | decide | simp [sizeLine]) : Ev C env σ (.List es pos) (.l ps) :=
  .mk fun s I F => by
    with_reducible refine List_ (ha.use I F fun vs s1 x1 I1 F1 r => ?_)
    have ri := r.toI hp
    unfold newList
    with_reducible refine wpAny_newObj_type (T := "list") ?_ ?_
    · exact ⟨x1.trans Ext.push, Rep.push F1.mu ri⟩
    · show vs.toArray.size ≤ sizeLine
      rw [List.size_toArray, ri.length]; exact hn

/-! ### items -/
/-- what getItem gives -/
structure ItV (C : Cx) (mu : List Addr) (p : PV) (k : Int) (r : PV) : Prop where
  run : ∀ v t s, Inv C s → Rep mu s.heap v p → ItemOn C.M C.A (fun _ _ => False) v (.int k t) (fun x s' => Ext C.fs s s' ∧ Rep mu s'.heap x r) s
theorem Ev.item {a i : Expr} {pos : Pos} {p r : PV} {k : Int} (h1 : Ev C env σ a p) (h2 : Ev C env σ i (.i k)) (h3 : ItV C σ.mu p k r)
    (hs : ∀ o v, subscripted i false o v = operate [o, v] (getItem o v) := by intro _ _; rfl) : Ev C env σ (.Subscript a i pos) r :=
  .mk fun s I F => by
    with_reducible refine Subscript_ (h1.use I F fun v s1 x1 I1 F1 r1 => h2.use I1 F1 fun w s2 x2 I2 F2 r2 => ?_)
    obtain ⟨t, rfl⟩ := r2.i_inv
    obtain ⟨T, id, hl, hT, hg⟩ := h3.run v t s2 I2 (I1.rep x2 r1)
    with_reducible exact tail_any hT hl (wpAny_mono hg (fun _ _ z => ⟨(x1.trans x2).trans z.1, z.2⟩) fun _ _ z => z.elim) (hs _ _)
theorem isL_lobj {h : Heap} {a : Addr} {vs : List Value} {n : Nat} (e : h.get? a = some (lobj vs n)) : h.IsList a vs.toArray := ⟨_, e, rfl, _, rfl⟩
theorem ItV.list {p r : PV} {xs : List PV} {k : Int} (e : p.lst? = some xs) (h0 : 0 ≤ k) (hf : k < 2 ^ 63) (hx : xs[k.toNat]? = some r) : ItV C mu p k r := by
  refine ⟨?_⟩
  intro v t s I rp
  obtain ⟨a, vs, n, rfl, e', z⟩ := rp.lst e
  obtain ⟨x, ex, zx⟩ := z.get hx
  refine ⟨"list", _, slot_list_getitem.lookup, (isL_lobj e').typeIs, ?_⟩
  with_reducible exact wpAny_getItem_list (x := x) (isL_lobj e') h0 hf (by simpa using ex) ⟨Ext.refl _ _, Rep.of zx⟩
theorem ItV.list_neg {p r : PV} {xs : List PV} {k : Int} (e : p.lst? = some xs) (h0 : k < 0) (h1 : -(xs.length : Int) ≤ k) (hf : -(2 ^ 63) ≤ k) (hx : xs[(k + xs.length).toNat]? = some r) : ItV C mu p k r := by
  refine ⟨?_⟩
  intro v t s I rp
  obtain ⟨a, vs, n, rfl, e', z⟩ := rp.lst e
  obtain ⟨x, ex, zx⟩ := z.get hx
  refine ⟨"list", _, slot_list_getitem.lookup, (isL_lobj e').typeIs, ?_⟩
  with_reducible exact wpAny_getItem_list_neg (x := x) (isL_lobj e') h0 (by simpa [z.length] using h1) hf (by simpa [z.length] using ex) ⟨Ext.refl _ _, Rep.of zx⟩
theorem ItV.str {x : Str} {k : Int} (h1 : -(x.length : Int) ≤ k) (h2 : k < x.length) (hr : fitsSsize k = true) : ItV C mu (.s x) k (.s (Txt.item x k)) := by
  refine ⟨?_⟩
  intro v t s I rp
  obtain ⟨u, rfl⟩ := rp.s_inv
  exact SB.item hr (charAt_isSome h1 h2) ⟨Ext.tok, Rep.s⟩
theorem ItV.bytes {l : List UInt8} {k : Int} (hf : l.length ≤ 1099511627776) (h0 : 0 ≤ k) (h1 : k < l.length) : ItV C mu (.y l.toArray) k (.i (l.getD k.toNat 0).toNat) := by
  refine ⟨?_⟩
  intro v t s I rp
  obtain ⟨u, rfl⟩ := rp.y_inv
  refine ⟨"bytes", _, FB.slot_bytes_getitem.lookup, typeIs_bytes _ _ _, ?_⟩
  with_reducible exact getItem_bytes hf h0 h1 ⟨Ext.tok, Rep.i⟩

/-! ### slices -/
structure EvO (C : Cx) (env : Env) (σ : St) (x : Option Expr) (k : Option Int) : Prop where
  run : ∀ s, Inv C s → Frm env σ s → wpAny C.M C.A (evalPart x env) (fun v s' => Ext C.fs s s' ∧ IsPart v k) (fun _ _ => False) s
theorem EvO.use {x : Option Expr} {k : Option Int} (h : EvO C env σ x k) {s : Shared} (I : Inv C s) (F : Frm env σ s) {Q : Value → Shared → Prop} {E : Value → Shared → Prop}
    (c : ∀ v s', Ext C.fs s s' → Inv C s' → Frm env σ s' → IsPart v k → Q v s') : wpAny C.M C.A (evalPart x env) Q E s :=
  wpAny_mono (h.run s I F) (fun v s' z => c v s' z.1 (I.ext z.1) (I.frm z.1 F) z.2) fun _ _ z => z.elim
theorem EvO.non : EvO C env σ none none := .mk fun s I F => by
  show wpAny C.M C.A (evalPart none env) _ _ _
  with_unfolding_all exact wpAny_pure (a := Value.none) ⟨Ext.refl _ _, .none⟩
theorem EvO.som {e : Expr} {n : Int} (h : Ev C env σ e (.i n)) (he : evalPart (some e) env = eval e env := by rfl) : EvO C env σ (some e) (some n) := .mk fun s I F => by
  rw [he]
  exact h.use I F fun v s1 x1 I1 F1 r1 => ⟨x1, by obtain ⟨t, rfl⟩ := r1.i_inv; exact .int _ _⟩
/-- what getItem gives of a slice -/
structure SlV (C : Cx) (mu : List Addr) (p : PV) (lo hi st : Option Int) (r : PV) : Prop where
  run : ∀ v a l u d s, Inv C s → (∀ a ∈ mu, ∃ vs n, s.heap.get? a = some (lobj vs n)) → Rep mu s.heap v p → s.heap.IsSliceOf a l u d → IsPart l lo → IsPart u hi → IsPart d st →
    ItemOn C.M C.A (fun _ _ => False) v (.ref a) (fun x s' => Ext C.fs s s' ∧ Rep mu s'.heap x r) s
theorem Ev.slice {a : Expr} {lo hi st : Option Expr} {pos pos' : Pos} {p r : PV} {l u d : Option Int} (h1 : Ev C env σ a p) (h2 : EvO C env σ lo l) (h3 : EvO C env σ hi u) (h4 : EvO C env σ st d) (h5 : SlV C σ.mu p l u d r)
    (hs : ∀ o v, ∃ ops, subscripted (.Slice lo hi st pos') false o v = operate ops (getItem o v) := by intro _ _; exact ⟨_, rfl⟩) : Ev C env σ (.Subscript a (.Slice lo hi st pos') pos) r :=
  .mk fun s I F => by
    with_reducible refine Subscript_ (h1.use I F fun v s1 x1 I1 F1 r1 => wpAny_Slice (h2.use I1 F1 fun vl s2 x2 I2 F2 pl => h3.use I2 F2 fun vu s3 x3 I3 F3 pu => h4.use I3 F3 fun vd s4 x4 I4 F4 pd => ?_))
    have xp : Ext C.fs s4 { s4 with heap := s4.heap.push { cls := .type "slice", data := .fields #[vl, vu, vd] } } := Ext.push
    obtain ⟨T, id, hl, hT, hg⟩ := h5.run v s4.heap.objs.size vl vu vd _ (I4.ext xp) (I4.frm xp F4).mu (I4.rep xp (I3.rep x4 (I2.rep x3 (I1.rep x2 r1)))) (Heap.IsSliceOf.new _ _ _ _) pl pu pd
    obtain ⟨ops, hs⟩ := hs v (.ref s4.heap.objs.size)
    with_reducible exact tail_any hT hl (wpAny_mono hg (fun _ _ z => ⟨((((x1.trans x2).trans x3).trans x4).trans xp).trans z.1, z.2⟩) fun _ _ z => z.elim) hs
/-- the slice of a list -/
noncomputable def pick (xs : List PV) (lo hi st : Option Int) : List PV :=
  (sliceRange (sliceBounds lo hi st xs.length).1 (sliceBounds lo hi st xs.length).2.1 (sliceBounds lo hi st xs.length).2.2).filterMap (xs[·]?)
theorem RepIL.fmap {h : Heap} {vs : List Value} {ps : List PV} (r : RepIL mu h vs ps) : ∀ is : List Nat, RepIL mu h (is.filterMap (vs[·]?)) (is.filterMap (ps[·]?))
  | [] => .nil
  | j :: is => by
    have ih := RepIL.fmap r is
    rw [List.filterMap_cons, List.filterMap_cons]
    cases e : ps[j]? with
    | none =>
      have : vs[j]? = none := by
        rw [List.getElem?_eq_none_iff] at e ⊢
        rw [r.length]; exact e
      rw [this]; exact ih
    | some p =>
      obtain ⟨v, e', z⟩ := r.get e
      rw [e']; exact .cons z ih
theorem SlV.list {p : PV} {xs : List PV} {lo hi st : Option Int} (e : p.lst? = some xs) (h0 : st ≠ some 0) (hn : xs.length ≤ sizeLine) : SlV C mu p lo hi st (.l (pick xs lo hi st)) := by
  refine ⟨?_⟩
  intro v a l u d s I hm rp hsl pl pu pd
  obtain ⟨b, vs, n, rfl, e', z⟩ := rp.lst e
  refine ⟨"list", _, slot_list_getitem.lookup, (isL_lobj e').typeIs, ?_⟩
  have hz : ((sliceRange (sliceBounds lo hi st vs.length).1 (sliceBounds lo hi st vs.length).2.1 (sliceBounds lo hi st vs.length).2.2).filterMap (vs[·]?)).toArray = slicePick vs.toArray lo hi st := by
    unfold slicePick; simp
  refine wpAny_getItem_list_slice (isL_lobj e') hsl pl pu pd h0 ?_ (by simpa [z.length] using hn)
  rw [← hz]
  refine ⟨Ext.push, ?_⟩
  have := Rep.push hm (z.fmap (sliceRange (sliceBounds lo hi st vs.length).1 (sliceBounds lo hi st vs.length).2.1 (sliceBounds lo hi st vs.length).2.2))
  unfold pick
  rw [← z.length]
  exact this
theorem SlV.str {x : Str} {lo hi : Option Int} (hsz : x.length ≤ sizeLine) : SlV C mu (.s x) lo hi none (.s (Txt.slice x lo hi)) := by
  refine ⟨?_⟩
  intro v a l u d s I hm rp hsl pl pu pd
  obtain ⟨t, rfl⟩ := rp.s_inv
  cases pd
  have key : ∀ (l u : Option (Int × Tok)), s.heap.IsSlice a l u none → ItemOn C.M C.A (fun _ _ => False) (.str x t) (.ref a) (fun y s' => Ext C.fs s s' ∧ Rep mu s'.heap y (.s (Txt.slice x (l.map (·.1)) (u.map (·.1))))) s := fun l u q =>
    ⟨"str", _, F.slot_str_getitem.lookup, typeIs_str _ _ _, wpAny_getItem_str_slice (l := l) (u := u) (st := none) q rfl
      (post_val_or_str ⟨Nat.le_trans (Txt.slice_le x _ _) hsz, fun t' k => ⟨Ext.tok, Rep.s⟩⟩)⟩
  obtain ⟨o, h1, h2, h3⟩ := hsl
  cases pl with
  | none => cases pu with
    | none => exact key none none ⟨o, h1, h2, h3⟩
    | int j t' => exact key none (some (j, t')) ⟨o, h1, h2, h3⟩
  | int i t => cases pu with
    | none => exact key (some (i, t)) none ⟨o, h1, h2, h3⟩
    | int j t' => exact key (some (i, t)) (some (j, t')) ⟨o, h1, h2, h3⟩

end
section
set_option linter.unusedVariables false

/-- a frame at work: its context, its names, and the state in which it was entered -/
structure Fx where
  C : Cx
  env : Env
  f0 : List Addr
  s0 : Shared
  W : List Str
structure FxOK (X : Fx) : Prop where
  sub : ∀ b ∈ X.C.fs, b ∈ X.f0 ∨ X.s0.heap.get? b = none
  base : ∀ b, X.s0.heap.get? b = none → X.C.g.get? b = none
  loc : X.s0.heap.get? X.env.locals = none
  cel : ∀ n ∈ X.W, ∃ c, X.env.cells.lookup n = some c ∧ X.s0.heap.get? c = none ∧ X.env.kindOf n = some .cell ∧ ∀ m, m ≠ n → X.env.cells.lookup m ≠ some c
  tab : X.s0.heap.get? tabA ≠ none
  tabf : tabA ∉ X.f0
structure At (X : Fx) (σ : St) (s : Shared) : Prop where
  inv : Inv X.C s
  frm : Frm X.env σ s
  ext : Ext X.f0 X.s0 s
  own : ∀ a ∈ σ.ow, X.s0.heap.get? a = none
structure Carry (σ : St) (s : Shared) (σ' : St) (s' : Shared) : Prop where
  keep : KeepS σ.mu s.heap s'.heap
  grow : ∀ b, s'.heap.get? b = none → s.heap.get? b = none
  new : ∀ a ∈ σ'.mu, a ∈ σ.mu ∨ s.heap.get? a = none
  old : ∀ a ∈ σ.mu, a ∈ σ'.mu
  m0 : σ'.m0 = σ.m0
theorem Carry.refl {σ : St} {s : Shared} : Carry σ s σ s := ⟨⟨fun _ _ e _ _ => e⟩, fun _ h => h, fun _ h => .inl h, fun _ h => h, rfl⟩
theorem Carry.trans {σ σ' σ'' : St} {s s' s'' : Shared} (x : Carry σ s σ' s') (y : Carry σ' s' σ'' s'') : Carry σ s σ'' s'' := by
  refine ⟨⟨fun b o e st q => y.keep.keep b o (x.keep.keep b o e st q) st fun xs n d m => ?_⟩, fun b h => x.grow b (y.grow b h), fun a h => ?_, fun a h => y.old a (x.old a h), y.m0.trans x.m0⟩
  · rcases x.new b m with h | h
    · exact q xs n d h
    · rw [e] at h; cases h
  · rcases y.new a h with h | h
    · exact x.new a h
    · exact .inr (x.grow a h)
theorem Inv.grow {C : Cx} {s s' : Shared} (I : Inv C s) (x : Ext C.fs s s') (b : Addr) (h : s'.heap.get? b = none) : s.heap.get? b = none := by
  cases e : s.heap.get? b with
  | none => rfl
  | some o =>
    by_cases q : b ∈ C.fs
    · obtain ⟨sl, e'⟩ := x.slot b o e q
      rw [h] at e'; cases e'
    · by_cases t : b = tabA
      · obtain ⟨ps, e', tr⟩ := I.tab
        obtain ⟨m, e'', _⟩ := x.tab ps e' tr
        rw [t, e''] at h; cases h
      · have := x.keep b o e q t
        rw [h] at this; cases this
theorem Carry.ev {C : Cx} {σ : St} {s s' : Shared} (I : Inv C s) (x : Ext C.fs s s') : Carry σ s σ s' := ⟨I.keepS x, I.grow x, fun _ h => .inl h, fun _ h => h, rfl⟩
theorem FxOK.ext {X : Fx} (O : FxOK X) {s s' : Shared} (h : Ext X.f0 X.s0 s) (x : Ext X.C.fs s s') (I : Inv X.C s) : Ext X.f0 X.s0 s' := by
  refine ⟨fun b o e q t => x.keep b o (h.keep b o e q t) (fun z => (O.sub b z).elim q fun z => by rw [e] at z; cases z) t, fun b o e q => ?_, x.gens.trans h.gens, x.os.trans h.os, fun ps e tr => ?_⟩
  · obtain ⟨sl, e'⟩ := h.slot b o e q
    by_cases z : b ∈ X.C.fs
    · obtain ⟨sl', e''⟩ := x.slot b _ e' z
      exact ⟨sl', e''⟩
    · exact ⟨sl, x.keep b _ e' z fun t => O.tabf (t ▸ q)⟩
  · obtain ⟨m, e', t'⟩ := h.tab ps e tr
    obtain ⟨m', e'', t''⟩ := x.tab _ e' t'
    exact ⟨m ++ m', by rw [← Array.append_assoc]; exact e'', by rw [← Array.append_assoc]; exact t''⟩
theorem At.ev {X : Fx} (O : FxOK X) {σ : St} {s s' : Shared} (h : At X σ s) (x : Ext X.C.fs s s') : At X σ s' :=
  ⟨h.inv.ext x, h.inv.frm x h.frm, O.ext h.ext x h.inv, h.own⟩

/-- an object of the frame's own is stored into -/
theorem FxOK.upd {X : Fx} (O : FxOK X) {s : Shared} {a : Addr} {h' : Heap} {t : Tok} (h : Ext X.f0 X.s0 s) (ha : X.s0.heap.get? a = none) (sb : Heap.SameBut a s.heap h') : Ext X.f0 X.s0 { s with heap := h', toks := t } := by
  have k : ∀ b o, X.s0.heap.get? b = some o → b ≠ a := fun b o e q => by rw [q, ha] at e; cases e
  refine ⟨fun b o e q t => ?_, fun b o e q => ?_, h.gens, h.os, fun ps e tr => ?_⟩
  · exact sb.extBut b _ (k b o e) (h.keep b o e q t)
  · obtain ⟨sl, e'⟩ := h.slot b o e q
    exact ⟨sl, sb.extBut b _ (k b o e) e'⟩
  · obtain ⟨m, e', t'⟩ := h.tab ps e tr
    exact ⟨m, sb.extBut _ _ (k _ _ e) e', t'⟩
theorem FxOK.inv {X : Fx} (O : FxOK X) {s : Shared} {a : Addr} {h' : Heap} {t : Tok} (I : Inv X.C s) (ha : X.s0.heap.get? a = none) (sb : Heap.SameBut a s.heap h')
    (hd : ∀ o es n, s.heap.get? a = some o → o.data = .dict es n → ∃ o' es' n', h'.get? a = some o' ∧ o'.data = .dict es' n') : Inv X.C { s with heap := h', toks := t } := by
  obtain ⟨outer, ho, hf⟩ := I.frames
  refine ⟨fun b o e => sb.extBut b o (fun q => ?_) (I.base b o e), I.gens, I.os, ?_, I.hand, ⟨outer, ho, hf.ext fun b hb o es n e d => ?_⟩, I.gtab⟩
  · have := O.base a ha
    rw [q, this] at e; cases e
  · obtain ⟨ps, e, tr⟩ := I.tab
    exact ⟨ps, sb.extBut _ _ (fun q => O.tab (q ▸ ha)) e, tr⟩
  · by_cases q : b = a
    · subst q; exact hd o es n e d
    · exact ⟨o, es, n, sb.extBut b o q e, d⟩

/-! ### running statements -/
inductive Res where
  | next
  | ret (p : PV)
noncomputable def FlowIs (mu : List Addr) (h : Heap) (f : Flow) : Res → Prop
  | .next => f = .next
  | .ret p => ∃ v, f = .ret v ∧ Rep mu h v p
noncomputable def Post (X : Fx) (Q : St → Res → Prop) (σ : St) (s : Shared) (f : Flow) (s' : Shared) : Prop :=
  ∃ σ' r, FlowIs σ'.mu s'.heap f r ∧ Q σ' r ∧ At X σ' s' ∧ Carry σ s σ' s'
structure Run (X : Fx) (σ : St) (b : List Stmt) (Q : St → Res → Prop) : Prop where
  run : ∀ s, At X σ s → wpAny X.C.M X.C.A (execs b X.env) (Post X Q σ s) (fun _ _ => False) s
structure Exe (X : Fx) (σ : St) (b : Stmt) (Q : St → Res → Prop) : Prop where
  run : ∀ s, At X σ s → wpAny X.C.M X.C.A (exec b X.env) (Post X Q σ s) (fun _ _ => False) s
/-- what a statement leaves for the rest -/
noncomputable def Then (X : Fx) (rest : List Stmt) (Q : St → Res → Prop) (σ : St) : Res → Prop
  | .next => Run X σ rest Q
  | .ret p => Q σ (.ret p)
theorem Post.weaken {X : Fx} {Q Q' : St → Res → Prop} {σ σ₁ : St} {s s₁ : Shared} {f : Flow} {s' : Shared} (h : Post X Q σ₁ s₁ f s') (c : Carry σ s σ₁ s₁) (k : ∀ σ r, Q σ r → Q' σ r) : Post X Q' σ s f s' := by
  obtain ⟨σ', r, h1, h2, h3, h4⟩ := h
  exact ⟨σ', r, h1, k _ _ h2, h3, c.trans h4⟩
theorem Exe.at {X : Fx} {σ : St} {b : Stmt} {Q : St → Res → Prop} (h : Exe X σ b Q) {s : Shared} (A : At X σ s) : wpAny X.C.M X.C.A (exec b X.env) (Post X Q σ s) (fun _ _ => False) s := h.run s A
theorem Run.at {X : Fx} {σ : St} {b : List Stmt} {Q : St → Res → Prop} (h : Run X σ b Q) {s : Shared} (A : At X σ s) : wpAny X.C.M X.C.A (execs b X.env) (Post X Q σ s) (fun _ _ => False) s := h.run s A
theorem Run.nil {X : Fx} {σ : St} {Q : St → Res → Prop} (h : Q σ .next) : Run X σ [] Q :=
  .mk fun s A => wpAny_execs_nil ⟨σ, .next, rfl, h, A, .refl⟩
theorem Run.cons {X : Fx} {σ : St} {st : Stmt} {rest : List Stmt} {Q : St → Res → Prop} (h : Exe X σ st (Then X rest Q)) : Run X σ (st :: rest) Q := .mk fun s A => by
  with_reducible refine wpAny_execs_cons (wpAny_mono (h.at A) (fun f s' z => ?_) fun _ _ z => z)
  obtain ⟨σ', r, h1, h2, h3, h4⟩ := z
  cases r with
  | next =>
    cases h1
    exact wpAny_mono (h2.run s' h3) (fun f s'' z => z.weaken h4 fun _ _ q => q) fun _ _ z => z
  | ret p =>
    obtain ⟨v, rfl, r⟩ := h1
    exact ⟨σ', .ret p, ⟨v, rfl, r⟩, h2, h3, h4⟩
theorem Run.mono {X : Fx} {σ : St} {b : List Stmt} {Q Q' : St → Res → Prop} (h : Run X σ b Q) (k : ∀ σ r, Q σ r → Q' σ r) : Run X σ b Q' :=
  .mk fun s A => wpAny_mono (h.run s A) (fun _ _ z => z.weaken .refl k) fun _ _ z => z
theorem Exe.ret {X : Fx} (O : FxOK X) {σ : St} {e : Expr} {pos : Pos} {p : PV} {Q : St → Res → Prop} (h : Ev X.C X.env σ e p) (k : Q σ (.ret p)) : Exe X σ (.Return (some e) pos) Q :=
  .mk fun s A => wpAny_Return_some (h.use A.inv A.frm fun v s' x I F r => ⟨σ, .ret p, ⟨v, rfl, r⟩, k, A.ev O x, .ev A.inv x⟩)
theorem Exe.ite {X : Fx} (O : FxOK X) {σ : St} {t : Expr} {b : Bool} {body orelse : List Stmt} {pos : Pos} {Q : St → Res → Prop} (h : Tst X.C X.env σ t b) (h1 : b = true → Run X σ body Q) (h2 : b = false → Run X σ orelse Q) :
    Exe X σ (.If t body orelse pos) Q := .mk fun s A => by
  with_reducible refine wpAny_If (h.use A.inv A.frm fun s' x I F => ?_)
  cases b with
  | true => exact itt (wpAny_mono ((h1 rfl).run s' (A.ev O x)) (fun _ _ z => z.weaken (.ev A.inv x) fun _ _ q => q) fun _ _ z => z)
  | false => exact itf (wpAny_mono ((h2 rfl).run s' (A.ev O x)) (fun _ _ z => z.weaken (.ev A.inv x) fun _ _ q => q) fun _ _ z => z)
theorem Exe.expr {X : Fx} (O : FxOK X) {σ : St} {e : Expr} {pos : Pos} {p : PV} {Q : St → Res → Prop} (h : Ev X.C X.env σ e p) (k : Q σ .next)
    (hi : interactive X.env = false) (hs : swapsWith e none pos.line X.env = pure false) : Exe X σ (.Expr e pos) Q :=
  .mk fun s A => wpAny_Expr_any (h.use A.inv A.frm fun v s' x I F r => ⟨σ, .next, rfl, k, A.ev O x, .ev A.inv x⟩) hi hs

/-- the state with a name bound anew -/
noncomputable def St.set (σ : St) (x : Str) (p : PV) : St := { σ with vs := (x, p) :: σ.vs }
theorem St.lookup_set {σ : St} {x y : Str} {p : PV} : (σ.set x p).vs.lookup y = if y = x then some p else σ.vs.lookup y := by
  show List.lookup y ((x, p) :: σ.vs) = _
  rw [List.lookup_cons]
  by_cases h : y = x
  · subst h; simp
  · rw [if_neg h]
    have : (y == x) = false := by simpa using h
    rw [this]

end
section
set_option linter.unusedVariables false

/-- everything stable is kept -/
theorem RepI.keep0 {mu : List Addr} {h h' : Heap} (k : KeepS [] h h') {v : Value} {p : PV} (r : RepI mu h v p) : RepI mu h' v p := r.keep ⟨fun b o e s _ => k.keep b o e s fun _ _ _ => List.not_mem_nil⟩
theorem RepIL.keep0 {mu : List Addr} {h h' : Heap} (k : KeepS [] h h') {v : List Value} {p : List PV} (r : RepIL mu h v p) : RepIL mu h' v p := r.keep ⟨fun b o e s _ => k.keep b o e s fun _ _ _ => List.not_mem_nil⟩
theorem Rep.keep0 {mu : List Addr} {h h' : Heap} (k : KeepS [] h h') {v : Value} {p : PV} (r : Rep mu h v p) : Rep mu h' v p := by
  cases p with
  | la a xs =>
    obtain ⟨h1, h2, vs, n, h3, h4⟩ := r
    exact ⟨h1, h2, vs, n, k.keep _ _ h3 (stable_lobj _ _) fun _ _ _ => List.not_mem_nil, h4.keep0 k⟩
  | _ => exact RepI.keep0 k r
theorem KeepS.same {a : Addr} {h h' : Heap} (sb : Heap.SameBut a h h') (hn : ∀ o, h.get? a = some o → ¬ Stable o) (mu : List Addr) : KeepS mu h h' :=
  ⟨fun b o e st _ => sb.extBut b o (fun q => hn o (q ▸ e) st) e⟩
theorem grow_same {a : Addr} {h h' : Heap} (sb : Heap.SameBut a h h') (ha : ∃ o, h'.get? a = some o) (b : Addr) (e : h'.get? b = none) : h.get? b = none := by
  by_cases q : b = a
  · obtain ⟨o, z⟩ := ha
    rw [q, z] at e; cases e
  · cases z : h.get? b with
    | none => rfl
    | some o => rw [sb.extBut b o q z] at e; cases e

theorem ns_dict {h : Heap} {L : Addr} {m : Str → Option Value} (hn : h.Ns L m) : ∃ o es n, h.get? L = some o ∧ o.data = .dict es n := by
  obtain ⟨o, es, n, e, d, _⟩ := hn
  exact ⟨o, es, n, e, d⟩
theorem not_stable_dict {o : Obj} {es : Array _} {n : Nat} (d : o.data = .dict es n) : ¬ Stable o := fun s => s.1 _ _ d
theorem not_stable_cell {o : Obj} {v : Option Value} (d : o.data = .cell v) : ¬ Stable o := fun s => s.2.1 _ d

/-- a value is stored under a local name -/
theorem At.local {X : Fx} (O : FxOK X) {σ : St} {s : Shared} (A : At X σ s) {x : Str} {v : Value} {p : PV} (r : Rep σ.mu s.heap v p) (hk : X.env.kindOf x = some .local) {m : Str → Option Value} {h' : Heap}
    (hm : s.heap.Ns X.env.locals m) (hold : ∀ y p, σ.vs.lookup y = some p → X.env.kindOf y = some .local → ∃ v, m y = some v ∧ Rep σ.mu s.heap v p)
    (hn : h'.Ns X.env.locals fun y => if y = x then some v else m y) (sb : Heap.SameBut X.env.locals s.heap h') :
    At X (σ.set x p) { s with heap := h', toks := s.toks + 1 } ∧ Carry σ s (σ.set x p) { s with heap := h', toks := s.toks + 1 } ∧ KeepS [] s.heap h' := by
  have ns : ∀ o, s.heap.get? X.env.locals = some o → ¬ Stable o := fun o e => by
    obtain ⟨o', es, n, e', d⟩ := ns_dict hm
    rw [e] at e'; cases e'
    exact not_stable_dict d
  have kp : KeepS [] s.heap h' := .same sb ns _
  have cellk : ∀ c v, s.heap.IsCell c v → h'.IsCell c v := fun c v ⟨o, e, d⟩ => ⟨o, sb.extBut _ _ (fun q => by
    obtain ⟨o', es, n, e', d'⟩ := ns_dict hm
    rw [← q, e] at e'; cases e'; rw [d] at d'; cases d') e, d⟩
  obtain ⟨o1, es1, n1, e1, d1⟩ := ns_dict hn
  have F := A.frm
  refine ⟨⟨O.inv A.inv O.loc sb fun _ _ _ _ _ => ⟨o1, es1, n1, e1, d1⟩, ⟨F.kind, F.glob, F.blt, ⟨_, hn, fun y q e k => ?_⟩, fun y q e k => ?_, fun n c hc => ?_, fun a ha => ?_⟩, O.upd A.ext O.loc sb, A.own⟩,
    ⟨.same sb ns _, grow_same sb ⟨_, e1⟩, fun a h => .inl h, fun a h => h, rfl⟩, kp⟩
  · rw [St.lookup_set] at e
    by_cases h : y = x
    · rw [if_pos h] at e; cases e
      exact ⟨v, by rw [if_pos h], r.keep0 kp⟩
    · rw [if_neg h] at e
      obtain ⟨v', h1, h2⟩ := hold y q e k
      exact ⟨v', by rw [if_neg h]; exact h1, h2.keep0 kp⟩
  · rw [St.lookup_set] at e
    by_cases h : y = x
    · subst h; exact absurd hk k
    · rw [if_neg h] at e
      obtain ⟨c, v', h1, h2, h3⟩ := F.cv y q e k
      exact ⟨c, v', h1, cellk _ _ h2, h3.keep0 kp⟩
  · obtain ⟨v, h⟩ := F.co n c hc
    exact ⟨v, cellk _ _ h⟩
  · obtain ⟨vs, n, e⟩ := F.mu a ha
    exact ⟨vs, n, kp.keep _ _ e (stable_lobj _ _) fun _ _ _ => List.not_mem_nil⟩
theorem At.cell {X : Fx} (O : FxOK X) {σ : St} {s : Shared} (A : At X σ s) {x : Str} {v : Value} {p : PV} (r : Rep σ.mu s.heap v p) (hw : x ∈ X.W) {c : Addr} (hc : X.env.cells.lookup x = some c) {h' : Heap}
    (hn : h'.IsCell c (some v)) (hold : ∃ v₀, s.heap.IsCell c v₀) (sb : Heap.SameBut c s.heap h') :
    At X (σ.set x p) { s with heap := h' } ∧ Carry σ s (σ.set x p) { s with heap := h' } ∧ KeepS [] s.heap h' := by
  obtain ⟨c', hc', hf, hk, ap⟩ := O.cel x hw
  rw [hc] at hc'; cases hc'
  obtain ⟨v₀, o₀, e₀, d₀⟩ := hold
  have ns : ∀ o, s.heap.get? c = some o → ¬ Stable o := fun o e => by
    rw [e₀] at e; cases e
    exact not_stable_cell d₀
  have kp : KeepS [] s.heap h' := .same sb ns _
  obtain ⟨o1, e1, d1⟩ := hn
  have cellk : ∀ b v, b ≠ c → s.heap.IsCell b v → h'.IsCell b v := fun b v hb ⟨o, e, d⟩ => ⟨o, sb.extBut _ _ hb e, d⟩
  have F := A.frm
  obtain ⟨m, hm, hold⟩ := F.ns
  have hm' : h'.Ns X.env.locals m := by
    obtain ⟨o, es, n, e, d, z⟩ := hm
    exact ⟨o, es, n, sb.extBut _ _ (fun q => by rw [q, e₀] at e; cases e; rw [d₀] at d; cases d) e, d, z⟩
  have up := O.upd (t := s.toks) A.ext hf sb
  have iv := O.inv (t := s.toks) A.inv hf sb fun o es n e d => by rw [e₀] at e; cases e; rw [d₀] at d; cases d
  refine ⟨⟨iv, ⟨F.kind, F.glob, F.blt, ⟨m, hm', fun y q e k => ?_⟩, fun y q e k => ?_, fun n b hb => ?_, fun a ha => ?_⟩, up, A.own⟩,
    ⟨.same sb ns _, grow_same sb ⟨_, e1⟩, fun a h => .inl h, fun a h => h, rfl⟩, kp⟩
  · rw [St.lookup_set] at e
    by_cases h : y = x
    · subst h; rw [hk] at k; cases k
    · rw [if_neg h] at e
      obtain ⟨v', h1, h2⟩ := hold y q e k
      exact ⟨v', h1, h2.keep0 kp⟩
  · rw [St.lookup_set] at e
    by_cases h : y = x
    · rw [if_pos h] at e; cases e
      subst h
      exact ⟨c, v, hc, ⟨o1, e1, d1⟩, r.keep0 kp⟩
    · rw [if_neg h] at e
      obtain ⟨b, v', h1, h2, h3⟩ := F.cv y q e k
      exact ⟨b, v', h1, cellk _ _ (fun z => ap y h (z ▸ h1)) h2, h3.keep0 kp⟩
  · obtain ⟨v', h⟩ := F.co n b hb
    by_cases z : b = c
    · exact ⟨some v, z ▸ ⟨o1, e1, d1⟩⟩
    · exact ⟨v', cellk _ _ z h⟩
  · obtain ⟨vs, n, e⟩ := F.mu a ha
    exact ⟨vs, n, kp.keep _ _ e (stable_lobj _ _) fun _ _ _ => List.not_mem_nil⟩

theorem store_wp {X : Fx} (O : FxOK X) {σ : St} {x : Str} {p : PV} (hk : X.env.kindOf x = some .local ∨ x ∈ X.W) {s : Shared} (A : At X σ s) {v : Value} (r : Rep σ.mu s.heap v p) {Q : Unit → Shared → Prop} {E : Value → Shared → Prop}
    (k : ∀ s', At X (σ.set x p) s' → Carry σ s (σ.set x p) s' → KeepS [] s.heap s'.heap → Q () s') : wpAny X.C.M X.C.A (storeName X.env x v) Q E s := by
  rcases hk with hk | hw
  · obtain ⟨m, hm, hold⟩ := A.frm.ns
    have hp : (X.env.scope.kind == ScopeKind.class || X.env.scope.kind == ScopeKind.module && X.env.locals != X.env.globals) = false := by rw [A.frm.kind]; rfl
    with_reducible refine wpAny_storeName_local hk hm (fun h' hn sb => ?_) hp
    obtain ⟨h1, h2, h3⟩ := A.local O r hk hm hold hn sb
    exact k _ h1 h2 h3
  · obtain ⟨c, hc, hf, hkc, ap⟩ := O.cel x hw
    obtain ⟨v₀, hv⟩ := A.frm.co x c hc
    with_reducible refine wpAny_storeName_cell A.frm.kind hkc hc hv fun h' hn sb => ?_
    obtain ⟨h1, h2, h3⟩ := A.cell O r hw hc hn ⟨_, hv⟩ sb
    exact k _ h1 h2 h3
theorem Exe.assign {X : Fx} (O : FxOK X) {σ : St} {x : Str} {pos' pos : Pos} {e : Expr} {p : PV} {Q : St → Res → Prop} (hk : X.env.kindOf x = some .local ∨ x ∈ X.W) (h : Ev X.C X.env σ e p) (k : Q (σ.set x p) .next)
    (hs : swapsWith e (some (.Name x pos')) pos.line X.env = pure false) : Exe X σ (.Assign [.Name x pos'] e pos) Q :=
  .mk fun s A => by
    with_reducible refine wpAny_Assign_Name (h.use A.inv A.frm fun v s1 x1 I1 F1 r1 => store_wp O hk (A.ev O x1) r1 fun s2 A2 c2 _ => ?_) hs
    exact ⟨_, .next, rfl, k, A2, (Carry.ev A.inv x1).trans c2⟩

/-! ### a list of the frame's own -/
inductive UpdL (a : Addr) (xs : List PV) : List (Str × PV) → List (Str × PV) → Prop
  | nil : UpdL a xs [] []
  | hit {x : Str} {ys : List PV} {r r' : List (Str × PV)} : UpdL a xs r r' → UpdL a xs ((x, .la a ys) :: r) ((x, .la a xs) :: r')
  | miss {x : Str} {p : PV} {r r' : List (Str × PV)} : (∀ ys, p ≠ .la a ys) → UpdL a xs r r' → UpdL a xs ((x, p) :: r) ((x, p) :: r')
theorem UpdL.lookup {a : Addr} {xs : List PV} {l l' : List (Str × PV)} (u : UpdL a xs l l') {x : Str} {p : PV} (e : l'.lookup x = some p) :
    (∃ ys, l.lookup x = some (.la a ys) ∧ p = .la a xs) ∨ (l.lookup x = some p ∧ ∀ ys, p ≠ .la a ys) := by
  induction u with
  | nil => simp at e
  | @hit y ys r r' _ ih =>
    rw [List.lookup_cons] at e ⊢
    cases h : x == y with
    | true => rw [h] at e; cases e; exact .inl ⟨ys, rfl, rfl⟩
    | false => rw [h] at e; exact ih e
  | @miss y q r r' n _ ih =>
    rw [List.lookup_cons] at e ⊢
    cases h : x == y with
    | true => rw [h] at e; cases e; exact .inr ⟨rfl, n⟩
    | false => rw [h] at e; exact ih e

/-- the list at a is another now, all else as it was -/
theorem Rep.other {mu : List Addr} {h h' : Heap} {a : Addr} (hm : a ∈ mu) {vs : List Value} {n : Nat} (ha : h.get? a = some (lobj vs n)) (sb : Heap.SameBut a h h') {v : Value} {p : PV} (hp : ∀ ys, p ≠ .la a ys) (r : Rep mu h v p) : Rep mu h' v p := by
  have kp : KeepS mu h h' := ⟨fun b o e st q => sb.extBut b o (fun z => q vs.toArray n (by rw [z, ha] at e; cases e; rfl) (z ▸ hm)) e⟩
  cases p with
  | la b xs =>
    obtain ⟨h1, h2, ws, m, h3, h4⟩ := r
    exact ⟨h1, h2, ws, m, sb.extBut _ _ (fun z => hp xs (z ▸ rfl)) h3, h4.keep kp⟩
  | _ => exact RepI.keep kp r
theorem At.append {X : Fx} (O : FxOK X) {σ : St} {s : Shared} (A : At X σ s) {a : Addr} (ha : a ∈ σ.ow) {vs : List Value} {n n' : Nat} {xs : List PV} (e : s.heap.get? a = some (lobj vs n)) (r : RepIL σ.mu s.heap vs xs)
    {v : Value} {p : PV} (rv : RepI σ.mu s.heap v p) {h' : Heap} (e' : h'.get? a = some (lobj (vs ++ [v]) n')) (sb : Heap.SameBut a s.heap h') {l' : List (Str × PV)} (u : UpdL a (xs ++ [p]) σ.vs l')
    (t : Tok) : At X { σ with vs := l' } { s with heap := h', toks := t } ∧ Carry σ s { σ with vs := l' } { s with heap := h', toks := t } := by
  have hm : a ∈ σ.mu := List.mem_append_left _ ha
  have hf := A.own a ha
  have kp : KeepS σ.mu s.heap h' := ⟨fun b o z st q => sb.extBut b o (fun y => q vs.toArray n (by rw [y, e] at z; cases z; rfl) (y ▸ hm)) z⟩
  have F := A.frm
  have cellk : ∀ c v, s.heap.IsCell c v → h'.IsCell c v := fun c v ⟨o, z, d⟩ => ⟨o, sb.extBut _ _ (fun q => by rw [q, e] at z; cases z; cases d) z, d⟩
  obtain ⟨m, hmn, hold⟩ := F.ns
  have hm' : h'.Ns X.env.locals m := by
    obtain ⟨o, es, k, z, d, y⟩ := hmn
    exact ⟨o, es, k, sb.extBut _ _ (fun q => by rw [q, e] at z; cases z; cases d) z, d, y⟩
  have new : ∀ v₀ p₀, Rep σ.mu s.heap v₀ p₀ → (∀ ys, p₀ ≠ .la a ys) → Rep σ.mu h' v₀ p₀ := fun v₀ p₀ q n => q.other hm e sb n
  have own : ∀ v₀ ys, Rep σ.mu s.heap v₀ (.la a ys) → Rep σ.mu h' v₀ (.la a (xs ++ [p])) := fun v₀ ys q => by
    obtain ⟨q1, q2, _⟩ := q
    exact ⟨q1, q2, _, _, e', (r.snoc rv).keep kp⟩
  refine ⟨⟨O.inv A.inv hf sb (fun o es k z d => by rw [e] at z; cases z; cases d), ⟨F.kind, F.glob, F.blt, ⟨m, hm', fun y q z k => ?_⟩, fun y q z k => ?_, fun y c hc => ?_, fun b hb => ?_⟩, O.upd A.ext hf sb, A.own⟩,
    ⟨kp, grow_same sb ⟨_, e'⟩, fun a h => .inl h, fun a h => h, rfl⟩⟩
  · rcases u.lookup z with ⟨ys, h1, rfl⟩ | ⟨h1, h2⟩
    · obtain ⟨v', h2, h3⟩ := hold y _ h1 k
      exact ⟨v', h2, own _ _ h3⟩
    · obtain ⟨v', h3, h4⟩ := hold y _ h1 k
      exact ⟨v', h3, new _ _ h4 h2⟩
  · rcases u.lookup z with ⟨ys, h1, rfl⟩ | ⟨h1, h2⟩
    · obtain ⟨c, v', h2, h3, h4⟩ := F.cv y _ h1 k
      exact ⟨c, v', h2, cellk _ _ h3, own _ _ h4⟩
    · obtain ⟨c, v', h3, h4, h5⟩ := F.cv y _ h1 k
      exact ⟨c, v', h3, cellk _ _ h4, new _ _ h5 h2⟩
  · obtain ⟨v, h⟩ := F.co y c hc
    exact ⟨v, cellk _ _ h⟩
  · by_cases q : b = a
    · exact ⟨_, _, q ▸ e'⟩
    · obtain ⟨ws, k, z⟩ := F.mu b hb
      exact ⟨ws, k, sb.extBut _ _ q z⟩

end
section
set_option linter.unusedVariables false
variable {C : Cx} {env : Env} {σ : St} {mu : List Addr}

/-! ### an object changed that no value is -/
noncomputable def NoVal (o : Obj) : Prop := o.cls ≠ .type "list" ∧ o.cls ≠ .type "range" ∧ (∀ es n, o.data ≠ .dict es n) ∧ (∀ v, o.data ≠ .cell v) ∧ o.cls ≠ .none ∧ ¬ Fix o
mutual
theorem RepI.but {h h' : Heap} {I : Addr} (k : ∀ b o, b ≠ I → h.get? b = some o → h'.get? b = some o) (hI : ∀ o, h.get? I = some o → NoVal o) : ∀ {v : Value} {p : PV}, RepI mu h v p → RepI mu h' v p
  | _, _, .i => .i
  | _, _, .b => .b
  | _, _, .s => .s
  | _, _, .y => .y
  | _, _, .v => .v
  | _, _, .rg e => .rg (k _ _ (fun q => (hI _ (q ▸ e)).2.1 rfl) e)
  | _, _, .ob e f => .ob (k _ _ (fun q => (hI _ (q ▸ e)).2.2.2.2.2 f) e) f
  | _, _, .l e m r => .l (k _ _ (fun q => (hI _ (q ▸ e)).1 rfl) e) m (RepIL.but k hI r)
theorem RepIL.but {h h' : Heap} {I : Addr} (k : ∀ b o, b ≠ I → h.get? b = some o → h'.get? b = some o) (hI : ∀ o, h.get? I = some o → NoVal o) : ∀ {vs : List Value} {ps : List PV}, RepIL mu h vs ps → RepIL mu h' vs ps
  | _, _, .nil => .nil
  | _, _, .cons a r => .cons (RepI.but k hI a) (RepIL.but k hI r)
end
theorem Rep.but {h h' : Heap} {I : Addr} (k : ∀ b o, b ≠ I → h.get? b = some o → h'.get? b = some o) (hI : ∀ o, h.get? I = some o → NoVal o) {v : Value} {p : PV} (r : Rep mu h v p) : Rep mu h' v p := by
  cases p with
  | la a xs =>
    obtain ⟨h1, h2, vs, n, h3, h4⟩ := r
    exact ⟨h1, h2, vs, n, k _ _ (fun q => (hI _ (q ▸ h3)).1 rfl) h3, h4.but k hI⟩
  | _ => exact RepI.but k hI r

theorem At.but {X : Fx} (O : FxOK X) {σ : St} {s : Shared} (A : At X σ s) {I : Addr} {h' : Heap} {t : Tok} (hf : X.s0.heap.get? I = none) (k : ∀ b o, b ≠ I → s.heap.get? b = some o → h'.get? b = some o) (hI : ∀ o, s.heap.get? I = some o → NoVal o) :
    At X σ { s with heap := h', toks := t } := by
  have kb : ∀ b o, X.s0.heap.get? b = some o → b ≠ I := fun b o e q => by rw [q, hf] at e; cases e
  have F := A.frm
  obtain ⟨m, hm, hold⟩ := F.ns
  have cellk : ∀ c v, s.heap.IsCell c v → h'.IsCell c v := fun c v ⟨o, e, d⟩ => ⟨o, k _ _ (fun q => (hI o (q ▸ e)).2.2.2.1 _ d) e, d⟩
  have hm' : h'.Ns X.env.locals m := by
    obtain ⟨o, es, n, e, d, z⟩ := hm
    exact ⟨o, es, n, k _ _ (fun q => (hI o (q ▸ e)).2.2.1 _ _ d) e, d, z⟩
  obtain ⟨outer, ho, hfr⟩ := A.inv.frames
  refine ⟨⟨fun b o e => k b o (fun q => ?_) (A.inv.base b o e), A.inv.gens, A.inv.os, ?_, A.inv.hand, ⟨outer, ho, hfr.ext fun b hb o es n e d => ?_⟩, A.inv.gtab⟩,
    ⟨F.kind, F.glob, F.blt, ⟨m, hm', fun y q e kk => ?_⟩, fun y q e kk => ?_, fun n c hc => ?_, fun a ha => ?_⟩, ⟨fun b o e q t => ?_, fun b o e q => ?_, A.ext.gens, A.ext.os, fun ps e tr => ?_⟩, A.own⟩
  · have := O.base I hf
    rw [q, this] at e; cases e
  · obtain ⟨ps, e, tr⟩ := A.inv.tab
    exact ⟨ps, k _ _ (fun q => O.tab (q ▸ hf)) e, tr⟩
  · exact ⟨o, es, n, k _ _ (fun q => (hI o (q ▸ e)).2.2.1 _ _ d) e, d⟩
  · obtain ⟨v, h1, h2⟩ := hold y q e kk
    exact ⟨v, h1, h2.but k hI⟩
  · obtain ⟨c, v, h1, h2, h3⟩ := F.cv y q e kk
    exact ⟨c, v, h1, cellk _ _ h2, h3.but k hI⟩
  · obtain ⟨v, h⟩ := F.co n c hc
    exact ⟨v, cellk _ _ h⟩
  · obtain ⟨vs, n, e⟩ := F.mu a ha
    exact ⟨vs, n, k _ _ (fun q => (hI _ (q ▸ e)).1 rfl) e⟩
  · exact k b _ (kb b o e) (A.ext.keep b o e q t)
  · obtain ⟨sl, e'⟩ := A.ext.slot b o e q
    exact ⟨sl, k b _ (kb b o e) e'⟩
  · obtain ⟨m, e', t'⟩ := A.ext.tab ps e tr
    exact ⟨m, k _ _ (kb _ _ e) e', t'⟩

/-! ### things to iterate over -/
structure Wk (C : Cx) (I : Addr) (ax : Option Addr) (n : Nat) (P : Nat → Value → Prop) (S : Nat → Heap → Prop) : Prop where
  frame : ∀ i h h' nu, S i h → KeepS nu h h' → (∀ a, ax = some a → a ∉ nu) → S i h'
  cls : ∀ i h, S i h → ∃ o, h.get? I = some o ∧ NoVal o
  item : ∀ i (s : Shared) (Q : Option Value → Shared → Prop) (E : Value → Shared → Prop), i < n → S i s.heap →
    (∀ v h' tk, P i v → S (i + 1) h' → (∀ b o, b ≠ I → s.heap.get? b = some o → h'.get? b = some o) → Q (some v) { s with heap := h', toks := tk }) → wpAny C.M C.A (pyNext (.ref I)) Q E s
  done : ∀ (s : Shared) (Q : Option Value → Shared → Prop) (E : Value → Shared → Prop), S n s.heap →
    (∀ h' tk, (∀ b o, b ≠ I → s.heap.get? b = some o → h'.get? b = some o) → Q none { s with heap := h', toks := tk }) → wpAny C.M C.A (pyNext (.ref I)) Q E s
  self : ∀ i (s : Shared) (Q : Value → Shared → Prop) (E : Value → Shared → Prop), S i s.heap → Q (.ref I) s → wpAny C.M C.A (pyIter (.ref I)) Q E s
/-- what can be iterated over, and its items -/
structure Itb (C : Cx) (mu : List Addr) (p : PV) (ps : List PV) : Prop where
  run : ∀ v s, Inv C s → Rep mu s.heap v p → wpAny C.M C.A (pyIter v) (fun it s' => Ext C.fs s s' ∧ ∃ I ax P S, it = .ref I ∧ Wk C I ax ps.length P S ∧ S 0 s'.heap ∧ s.heap.get? I = none ∧
    (∀ a, ax = some a → (∃ o, s.heap.get? a = some o) ∧ (p.pl = true → a ∉ mu)) ∧ ∀ i v, P i v → ∃ q, ps[i]? = some q ∧ RepI mu s.heap v q) (fun _ _ => False) s

theorem noVal_fields {T : String} {h : Heap} {vs : Array Value} (h1 : T ≠ "list") (h2 : T ≠ "range") (h3 : T = "list_iterator" ∨ T = "range_iterator" ∨ T = "bytes_iterator") {o : Obj} (hc : o.cls = .type T) (hd : o.data = .fields vs) : NoVal o := by
  refine ⟨?_, ?_, ?_, ?_, ?_, ?_⟩
  · rw [hc]; intro e; injection e with e; exact h1 e
  · rw [hc]; intro e; injection e with e; exact h2 e
  · intro es n e; rw [hd] at e; cases e
  · intro v e; rw [hd] at e; cases e
  · rw [hc]; intro e; cases e
  · intro f
    rcases h3 with h | h | h
    · exact f.2.2.1 (h ▸ hc)
    · exact f.2.2.2.1 (h ▸ hc)
    · exact f.2.2.2.2 (h ▸ hc)
theorem stable_fields {T : String} {vs : Array Value} {o : Obj} (hc : o.cls = .type T) (hd : o.data = .fields vs) : Stable o :=
  ⟨fun es n e => (by rw [hd] at e; cases e), fun v e => (by rw [hd] at e; cases e), fun e => (by rw [hc] at e; cases e)⟩
theorem ne_of_S {b I : Addr} (h : b ≠ I) : b ∉ [I] := fun q => h (List.mem_singleton.mp q)

theorem Wk.list (hh : C.A.handled = none) (I ax : Addr) (hne : ax ≠ I) (items : Array Value) : Wk C I (some ax) items.size (fun i v => items[i]? = some v) (fun i h => h.IsListIter I ax i ∧ h.IsList ax items) where
  frame := fun i h h' nu st k hn => by
    refine ⟨st.1.at fun o e => ?_, ?_⟩
    · obtain ⟨o', e', hc, hd⟩ := st.1
      rw [e] at e'; cases e'
      exact k.keep _ _ e (stable_fields hc hd) fun xs n d => by rw [hd] at d; cases d
    · obtain ⟨o, e, hc, n, hd⟩ := st.2
      exact ⟨o, k.keep _ _ e ⟨fun es n q => (by rw [hd] at q; cases q), fun v q => (by rw [hd] at q; cases q), fun q => (by rw [hc] at q; cases q)⟩ (fun _ _ _ => hn ax rfl), hc, n, hd⟩
  cls := fun i h st => by
    obtain ⟨o, e, hc, hd⟩ := st.1
    exact ⟨o, e, noVal_fields (h := h) (by decide) (by decide) (by decide) hc hd⟩
  item := fun i s Q E hi st hQ => (Walks.list hh I ax hne items).item i s Q E hi st fun v h' tk hp hs hk => hQ v h' tk hp hs fun b o hb e => hk b o (ne_of_S hb) e
  done := fun s Q E st hQ => (Walks.list hh I ax hne items).done s Q E st fun h' tk hk => hQ h' tk fun b o hb e => hk b o (ne_of_S hb) e
  self := fun i s Q E st hQ => (Walks.list (prog := Prg) (w := C.w) hh I ax hne items).self i s Q E st hQ
theorem Itb.list {p : PV} {ps : List PV} (e : p.lst? = some ps) : Itb C mu p ps := by
  refine ⟨?_⟩
  intro v s I r
  obtain ⟨a, vs, n, rfl, e', z⟩ := r.lst e
  have hlt : a ≠ s.heap.objs.size := fun q => by rw [q, fresh_size] at e'; cases e'
  have W : Wk C s.heap.objs.size (some a) ps.length (fun i v => vs.toArray[i]? = some v) (fun i h => h.IsListIter s.heap.objs.size a i ∧ h.IsList a vs.toArray) := by
    have := Wk.list (C := C) I.hand s.heap.objs.size a hlt vs.toArray
    have hz : vs.toArray.size = ps.length := by simpa using z.length
    rwa [hz] at this
  with_reducible refine wpAny_pyIter_list (isL_lobj e') ?_
  refine ⟨Ext.push, s.heap.objs.size, some a, _, _, rfl, W, ⟨⟨_, Heap.get?_push_size _ rfl, rfl, rfl⟩, (isL_lobj e').at fun o q => Heap.get?_push_of_some _ q⟩, fresh_size _, fun b q => ?_, fun i v q => ?_⟩
  · cases q
    refine ⟨⟨_, e'⟩, fun hp m => ?_⟩
    cases p with
    | l ys =>
      cases e
      cases r with
      | l e2 m2 _ => exact m2 m
    | la b ys => cases hp
    | _ => cases e
  · have hi : i < vs.length := by
      have := (Array.getElem?_eq_some_iff.mp q).1
      simpa using this
    have hi' : i < ps.length := z.length ▸ hi
    obtain ⟨v', e3, r3⟩ := z.get (List.getElem?_eq_getElem hi')
    refine ⟨ps[i], List.getElem?_eq_getElem hi', ?_⟩
    have : vs.toArray[i]? = vs[i]? := by simp
    rw [this, e3] at q; cases q
    exact r3

theorem Wk.range (hh : C.A.handled = none) (I : Addr) (a c : Int) (n : Nat) : Wk C I none n (fun i v => ∃ t, v = .int (a + i * c) t) (fun i h => IsRangeIter h I (a + (i : Nat) * c) ((n : Int) - (i : Nat)) c) where
  frame := fun i h h' nu st k hn => k.keep _ _ st (stable_fields rfl rfl) fun xs n d => nomatch d
  cls := fun i h st => ⟨_, st, noVal_fields (h := h) (by decide) (by decide) (by decide) rfl rfl⟩
  item := fun i s Q E hi st hQ => (Walks.range hh I a c n).item i s Q E hi st fun v h' tk hp hs hk => hQ v h' tk hp hs fun b o hb e => hk b o (ne_of_S hb) e
  done := fun s Q E st hQ => (Walks.range hh I a c n).done s Q E st fun h' tk hk => hQ h' tk fun b o hb e => hk b o (ne_of_S hb) e
  self := fun i s Q E st hQ => (Walks.range (prog := Prg) (w := C.w) hh I a c n).self i s Q E st hQ
/-- the numbers of a range -/
noncomputable def rgL (a c : Int) (n : Nat) : List PV := (List.range n).map fun (i : Nat) => .i (a + (i : Int) * c)
theorem Itb.range {a b c : Int} {n : Nat} (hs : Builtin.Range.small a b c = true) (hn : Builtin.Range.rangeSize a b c = n) : Itb C mu (.rg a b c) (rgL a c n) := by
  refine ⟨?_⟩
  intro v s I r
  cases r with
  | rg hr =>
    with_reducible refine wpAny_pyIter_range hr hs ?_
    refine ⟨Ext.push, s.heap.objs.size, none, fun i v => i < n ∧ ∃ t, v = .int (a + i * c) t, fun i h => IsRangeIter h s.heap.objs.size (a + (i : Nat) * c) ((n : Int) - (i : Nat)) c, rfl, ?_, ?_, fresh_size _, (fun b q => by cases q), fun i v q => ?_⟩
    · have W := Wk.range I.hand s.heap.objs.size a c n
      have e : (rgL a c n).length = n := by simp [rgL]
      rw [e]
      exact ⟨W.frame, W.cls, fun i s Q E hi st hQ => W.item i s Q E hi st fun v h' tk hp => hQ v h' tk ⟨hi, hp⟩, W.done, W.self⟩
    · have : (a + ((0 : Nat) : Int) * c) = a := by simp
      show IsRangeIter _ _ _ _ _
      rw [this, hn]
      simp only [Int.natCast_zero, Int.sub_zero]
      exact Heap.get?_push_size _ rfl
    · obtain ⟨h1, t, rfl⟩ := q
      exact ⟨.i (a + i * c), by simp [rgL, h1], .i⟩
theorem Wk.bytes (hh : C.A.handled = none) (I : Addr) (b : Array UInt8) (t : Tok) : Wk C I none b.size (fun i v => ∃ c u, b[i]? = some c ∧ v = .int (c.toNat : Int) u) (fun i h => KBw.IsBytesIter h I b t i) where
  frame := fun i h h' nu st k hn => by
    obtain ⟨o, ho, hc, hd⟩ := st
    exact ⟨o, k.keep _ _ ho (stable_fields hc hd) (fun xs n d => by rw [hd] at d; cases d), hc, hd⟩
  cls := fun i h st => by
    obtain ⟨o, ho, hc, hd⟩ := st
    exact ⟨o, ho, noVal_fields (h := h) (by decide) (by decide) (by decide) hc hd⟩
  item := fun i s Q E hi st hQ => (KBw.walks hh I b t).item i s Q E hi st fun v h' tk hp hs hk => hQ v h' tk hp hs fun b o hb e => hk b o (ne_of_S hb) e
  done := fun s Q E st hQ => (KBw.walks hh I b t).done s Q E st fun h' tk hk => hQ h' tk fun b o hb e => hk b o (ne_of_S hb) e
  self := fun i s Q E st hQ => (KBw.walks (prog := Prg) (w := C.w) hh I b t).self i s Q E st hQ
theorem Itb.bytes {b : Array UInt8} : Itb C mu (.y b) (b.toList.map fun c => .i c.toNat) := by
  refine ⟨?_⟩
  intro v s I r
  obtain ⟨t, rfl⟩ := r.y_inv
  refine KBw.pyIter_bytes ?_
  refine ⟨Ext.push, s.heap.objs.size, none, fun i v => ∃ c u, b[i]? = some c ∧ v = .int (c.toNat : Int) u, fun i h => KBw.IsBytesIter h s.heap.objs.size b t i, rfl, by rw [List.length_map, Array.length_toList]; exact Wk.bytes I.hand s.heap.objs.size b t, ⟨_, Heap.get?_push_size _ rfl, rfl, rfl⟩, fresh_size _, (fun b q => by cases q), fun i v q => ?_⟩
  obtain ⟨c, u, h1, rfl⟩ := q
  exact ⟨.i c.toNat, by simp [h1], .i⟩

end
section
set_option linter.unusedVariables false
variable {C : Cx} {env : Env} {σ : St} {mu : List Addr}

/-! ### the environment of a comprehension -/
noncomputable abbrev cenvOf (env : Env) (scope : Scope) (cl : List (Str × Addr)) (L : Addr) : Env :=
  { scope := relabel scope env, locals := L, globals := env.globals, cells := cellsFrom (L + 1) scope.names cl, qual := env.qual, func := none, code := env.code, frame := env.frame, builtins := env.builtins }

theorem cells_mem : ∀ (names : List (Str × NameKind)) (h : Heap) (acc : List (Str × Addr)) (e : Str × Addr), e ∈ cellsFrom h.objs.size names acc →
    e ∈ acc ∨ (h.objs.size ≤ e.2 ∧ (pushCells h names).IsCell e.2 none)
  | [], h, acc, e, m => .inl m
  | (name, kind) :: r, h, acc, e, m => by
    unfold cellsFrom at m
    unfold pushCells
    by_cases hk : (kind == .cell) = true
    · rw [if_pos hk] at m ⊢
      have hz : (h.push { cls := .type "cell", data := .cell none }).objs.size = h.objs.size + 1 := Heap.size_push ..
      rw [← hz] at m
      rcases cells_mem r _ _ e m with q | ⟨q1, q2⟩
      · rcases List.mem_cons.mp q with rfl | q
        · refine .inr ⟨Nat.le_refl _, _, pushCells_keeps _ _ _ _ (Heap.get?_push_size _ rfl), rfl⟩
        · exact .inl q
      · exact .inr ⟨by omega, q2⟩
    · rw [if_neg hk] at m ⊢
      exact cells_mem r h acc e m
theorem cells_inj : ∀ (names : List (Str × NameKind)) (n₀ n : Nat) (acc : List (Str × Addr)), n₀ ≤ n → (∀ x c, acc.lookup x = some c → c < n) → (∀ x y c, acc.lookup x = some c → acc.lookup y = some c → n₀ ≤ c → x = y) →
    ∀ x y c, (cellsFrom n names acc).lookup x = some c → (cellsFrom n names acc).lookup y = some c → n₀ ≤ c → x = y
  | [], _, _, _, _, _, h => h
  | (name, kind) :: r, n₀, n, acc, hn, hlt, h => by
    unfold cellsFrom
    by_cases hk : (kind == .cell) = true
    · rw [if_pos hk]
      refine cells_inj r n₀ (n + 1) _ (by omega) (fun x c e => ?_) fun x y c e1 e2 hc => ?_
      · rw [List.lookup_cons] at e
        cases hx : x == name with
        | true => rw [hx] at e; cases e; exact Nat.lt_succ_self _
        | false => rw [hx] at e; exact Nat.lt_succ_of_lt (hlt _ _ e)
      · rw [List.lookup_cons] at e1 e2
        cases hx : x == name with
        | true =>
          rw [hx] at e1; cases e1
          cases hy : y == name with
          | true => rw [beq_iff_eq.mp hx, beq_iff_eq.mp hy]
          | false => rw [hy] at e2; exact absurd (hlt _ _ e2) (Nat.lt_irrefl _)
        | false =>
          rw [hx] at e1
          cases hy : y == name with
          | true => rw [hy] at e2; cases e2; exact absurd (hlt _ _ e1) (Nat.lt_irrefl _)
          | false => rw [hy] at e2; exact h _ _ _ e1 e2 hc
    · rw [if_neg hk]
      exact cells_inj r n₀ n acc hn hlt h

theorem wpAny_newFunctionEnv_comp {M : Model} {A : Around} {E : Value → Shared → Prop} {s : Shared} {scope : Scope} {cl : List (Str × Addr)} {Q : Env → Shared → Prop}
    (h : Q (newEnv scope s.heap.objs.size env.globals (cellsFrom (s.heap.objs.size + 1) scope.names cl) env.qual none .none (some env) builtinsNs) { s with heap := pushCells (s.heap.push { cls := .type "dict", data := .dict #[] }) scope.names }) :
    wpAny M A (newFunctionEnv scope env.globals cl [] env.qual none .none (some env)) Q E s := by
  simp only [newFunctionEnv, Option.isSome_some, if_true]
  refine wpAny_bind (wpAny_alloc ?_)
  refine wpAny_bind (wpAny_layCells _ (fun name kind cells => by cases hkc : kind == NameKind.cell <;> simp [hkc]) _ _ _ _ ?_)
  rw [show ({ s with heap := s.heap.push { cls := .type "dict", data := .dict #[] } } : Shared).heap.objs.size = s.heap.objs.size + 1 from Heap.size_push ..]
  rw [List.forIn_nil]
  exact wpAny_bind (wpAny_pure (wpAny_pure h))

/-! ### the tests of a comprehension -/
structure TstL (C : Cx) (env : Env) (σ : St) (ifs : List Expr) (b : Bool) : Prop where
  run : ∀ s, Inv C s → Frm env σ s → wpAny C.M C.A (forIn ifs true fun c r => if r = true then do let ok ← isTrue c env (eval c env); pure (ForInStep.yield ok) else pure (ForInStep.yield r)) (fun ok s' => ok = b ∧ Ext C.fs s s') (fun _ _ => False) s
theorem TstL.use {ifs : List Expr} {b : Bool} (h : TstL C env σ ifs b) {s : Shared} (I : Inv C s) (F : Frm env σ s) {Q : Bool → Shared → Prop} {E : Value → Shared → Prop}
    (k : ∀ s', Ext C.fs s s' → Inv C s' → Frm env σ s' → Q b s') : wpAny C.M C.A (forIn ifs true fun c r => if r = true then do let ok ← isTrue c env (eval c env); pure (ForInStep.yield ok) else pure (ForInStep.yield r)) Q E s :=
  wpAny_mono (h.run s I F) (fun v s' z => z.1 ▸ k s' z.2 (I.ext z.2) (I.frm z.2 F)) fun _ _ z => z.elim
theorem TstL.nil : TstL C env σ [] true := .mk fun s I F => by
  rw [List.forIn_nil]; exact wpAny_pure ⟨rfl, Ext.refl _ _⟩
theorem TstL.one {c : Expr} {b : Bool} (h : Tst C env σ c b) : TstL C env σ [c] b := .mk fun s I F => by
  rw [List.forIn_cons]
  refine wpAny_bind ?_
  rw [if_pos rfl]
  refine wpAny_bind (h.use I F fun s' x _ _ => ?_)
  refine wpAny_pure ?_
  dsimp only
  rw [List.forIn_nil]
  exact wpAny_pure ⟨rfl, x⟩

/-! ### the loop -/
theorem UpdL.same {a : Addr} {xs : List PV} : ∀ {l : List (Str × PV)}, (∀ e ∈ l, ∀ ys, e.2 ≠ .la a ys) → UpdL a xs l l
  | [], _ => .nil
  | (x, p) :: r, h => .miss (h _ List.mem_cons_self) (UpdL.same fun e m => h e (List.mem_cons_of_mem _ m))
theorem At.drop {X : Fx} {σ σ' : St} {s : Shared} (A : At X σ s) (hm : σ'.m0 = σ.m0) (ho : σ'.ow = σ.ow) (h : ∀ x p, σ'.vs.lookup x = some p → σ.vs.lookup x = some p) : At X σ' s := by
  have hmu : σ'.mu = σ.mu := by simp only [St.mu, hm, ho]
  have F := A.frm
  obtain ⟨m, hn, hold⟩ := F.ns
  refine ⟨A.inv, ⟨F.kind, F.glob, F.blt, ⟨m, hn, fun x p e k => ?_⟩, fun x p e k => ?_, F.co, by rw [hmu]; exact F.mu⟩, A.ext, by rw [ho]; exact A.own⟩
  · rw [hmu]; exact hold x p (h _ _ e) k
  · rw [hmu]; exact F.cv x p (h _ _ e) k

structure CompItem (C : Cx) (cenv : Env) (m0 : List Addr) (D : Addr) (cap : List (Str × PV)) (x : Str) (ifs : List Expr) (elt : Expr) (q : PV) (r : Option PV) : Prop where
  test : TstL C cenv ⟨m0, [D], (x, q) :: cap⟩ ifs r.isSome
  elt : ∀ y, r = some y → Ev C cenv ⟨m0, [D], (x, q) :: cap⟩ elt y ∧ y.pl = true

theorem comp_loop {X : Fx} (O : FxOK X) {m0 : List Addr} {D I : Addr} {cap : List (Str × PV)} {x : Str} {px pos : Pos} {iter elt : Expr} {ifs : List Expr} {scope : Scope} {zs : List (PV × Option PV)} {ax : Option Addr}
    {P : Nat → Value → Prop} {S : Nat → Heap → Prop} {R : Result → Shared → Prop} {s : Shared} (W : Wk X.C I ax zs.length P S) (I1 : Inv X.C X.s0) (hf0 : X.f0 = X.C.fs)
    (hI : X.s0.heap.get? I = none) (hD : X.s0.heap.get? D = none) (hax : ∀ a, ax = some a → ∃ o, X.s0.heap.get? a = some o)
    (hP : ∀ i v, P i v → ∃ q, (zs.map (·.1))[i]? = some q ∧ RepI m0 X.s0.heap v q) (hm0 : ∀ a ∈ m0, ∃ vs n, X.s0.heap.get? a = some (lobj vs n)) (hx : cap.lookup x = none) (hk : X.env.kindOf x = some .local ∨ x ∈ X.W)
    (hcap : ∀ e ∈ cap, ∀ ys, e.2 ≠ .la D ys) (hel : ∀ z ∈ zs, CompItem X.C X.env m0 D cap x ifs elt z.1 z.2) (hn : zs.length ≤ sizeLine)
    (A : At X ⟨m0, [D], cap⟩ s) (hS : S 0 s.heap) (hDl : s.heap.get? D = some (lobj [] 0))
    (hR : ∀ s' ws n, At X ⟨m0, [D], cap⟩ s' → s'.heap.get? D = some (lobj ws n) → RepIL (D :: m0) s'.heap ws (zs.filterMap (·.2)) → R (.ok .next) s') :
    codeAny X.C.M X.C.A (.compLoop (.ListComp elt [⟨.Name x px, iter, ifs, 0⟩] scope pos) 0 (.ref I) (.ref D) X.env) R s := by
  refine codeAny_compLoop_tests (fun k s' => ∃ i ws n, k = zs.length - i ∧ i ≤ zs.length ∧ At X ⟨m0, [D], cap⟩ s' ∧ S i s'.heap ∧ s'.heap.get? D = some (lobj ws n) ∧ RepIL (D :: m0) s'.heap ws ((zs.take i).filterMap (·.2)))
    ?_ zs.length ⟨0, [], 0, rfl, Nat.zero_le _, A, hS, hDl, by simpa using RepIL.nil⟩
  rintro k s1 ⟨i, ws, n, rfl, hi, A1, S1, d1, r1⟩
  obtain ⟨oI, eI, nI⟩ := W.cls _ _ S1
  have hDI : D ≠ I := fun q => by rw [← q, d1] at eI; cases eI; exact nI.1 rfl
  have nvI : ∀ o, s1.heap.get? I = some o → NoVal o := fun o e => by rw [eI] at e; cases e; exact nI
  have hmu : ∀ {σ : St}, σ.m0 = m0 → σ.ow = [D] → σ.mu = D :: m0 := fun h1 h2 => by simp [St.mu, h1, h2]
  by_cases hlt : i < zs.length
  · refine W.item i s1 _ _ hlt S1 fun v h2 tk hv S2 k2 => ?_
    obtain ⟨q, eq, rq⟩ := hP i v hv
    rw [List.getElem?_map] at eq
    obtain ⟨z, ez, rfl⟩ := Option.map_eq_some_iff.mp eq
    have A2 := A1.but (t := tk) O hI k2 nvI
    have d2 : h2.get? D = some (lobj ws n) := k2 _ _ hDI d1
    have r2 := r1.but k2 nvI
    have qm : z ∈ zs := List.mem_of_getElem? ez
    have rv : Rep (D :: m0) h2 v z.1 := by
      have zz : RepI (D :: m0) X.s0.heap v z.1 := rq.mu fun a m => by
        rcases List.mem_cons.mp m with rfl | m
        · exact .inr hD
        · exact .inl m
      exact I1.rep (s' := { s1 with heap := h2, toks := tk }) (hf0 ▸ A2.ext) (Rep.of zz)
    refine wpAny_assign_Name (store_wp O hk A2 (by exact rv) fun s3 A3 c3 kp3 => ?_)
    have d3 := kp3.keep _ _ d2 (stable_lobj _ _) fun _ _ _ => List.not_mem_nil
    have r3 := r2.keep0 kp3
    have S3 := W.frame _ _ _ [] S2 kp3 fun _ _ => List.not_mem_nil
    have hit := hel z qm
    refine hit.test.use A3.inv A3.frm fun s4 x4 I4 F4 => ?_
    have A4 := A3.ev O x4
    have kp4 : KeepS [] s3.heap s4.heap := A3.inv.keepS x4
    have d4 := kp4.keep _ _ d3 (stable_lobj _ _) fun _ _ _ => List.not_mem_nil
    have r4 := r3.keep0 kp4
    have S4 := W.frame _ _ _ [] S3 kp4 fun _ _ => List.not_mem_nil
    have htk : (zs.take (i + 1)).filterMap (·.2) = (zs.take i).filterMap (·.2) ++ z.2.toList := by
      rw [List.take_add_one, ez, Option.toList_some, List.filterMap_append]
      cases h : z.2 <;> simp [h]
    cases hfq : z.2 with
    | none =>
      rw [if_neg (by simp)]
      refine ⟨zs.length - (i + 1), by omega, i + 1, ws, n, rfl, by omega, A4.drop rfl rfl fun y p e => ?_, S4, d4, ?_⟩
      · show List.lookup y ((x, z.1) :: cap) = some p
        rw [List.lookup_cons]
        cases hy : y == x with
        | true => rw [beq_iff_eq.mp hy, hx] at e; cases e
        | false => exact e
      · rw [htk, hfq]; simpa using r4
    | some y =>
      rw [if_pos (by simp)]
      obtain ⟨hy, ypl⟩ := hit.elt y hfq
      refine hy.use A4.inv A4.frm fun v5 s5 x5 I5 F5 r5v => ?_
      have A5 := A4.ev O x5
      have kp5 : KeepS [] s4.heap s5.heap := A4.inv.keepS x5
      have d5 := kp5.keep _ _ d4 (stable_lobj _ _) fun _ _ _ => List.not_mem_nil
      have r5 := r4.keep0 kp5
      have S5 := W.frame _ _ _ [] S4 kp5 fun _ _ => List.not_mem_nil
      have hz : ws.toArray.size ≤ sizeLine := by
        have e1 := r5.length
        have e2 : ((zs.take i).filterMap (·.2)).length ≤ (zs.take i).length := List.length_filterMap_le _ _
        have e3 : (zs.take i).length ≤ zs.length := by rw [List.length_take]; omega
        rw [List.size_toArray]; omega
      refine wpAny_list_append_plain ⟨n, d5⟩ (fun h6 p6 sb => ?_) hz
      obtain ⟨n6, e6⟩ := p6
      have e6' : h6.get? D = some (lobj (ws ++ [v5]) n6) := by rw [e6]; simp [lobj]
      have up : UpdL D ((zs.take i).filterMap (·.2) ++ [y]) ((x, z.1) :: cap) ((x, z.1) :: cap) := UpdL.same fun e m ys => by
        rcases List.mem_cons.mp m with rfl | m
        · intro y'
          have y' : z.1 = .la D ys := y'
          rw [y'] at rq; cases rq
        · exact hcap e m ys
      obtain ⟨A6, c6⟩ := A5.append O (List.mem_singleton.mpr rfl) d5 (by exact r5) (r5v.toI ypl) e6' sb up s5.toks
      have kp6 : KeepS [D] s5.heap h6 := ⟨fun b o e st z => sb.extBut b o (fun t => z ws.toArray n (by rw [t, d5] at e; cases e; rfl) (List.mem_singleton.mpr t)) e⟩
      have S6 := W.frame _ _ _ [D] S5 kp6 fun a ea m => by
        obtain ⟨o, z⟩ := hax a ea
        rw [List.mem_singleton.mp m, hD] at z; cases z
      refine ⟨zs.length - (i + 1), by omega, i + 1, ws ++ [v5], n6, rfl, by omega, A6.drop rfl rfl fun y' p e => ?_, S6, e6', ?_⟩
      · show List.lookup y' ((x, z.1) :: cap) = some p
        rw [List.lookup_cons]
        cases hy : y' == x with
        | true => rw [beq_iff_eq.mp hy, hx] at e; cases e
        | false => exact e
      · rw [htk, hfq]
        exact ((r5.snoc (r5v.toI ypl)).keep c6.keep)
  · have hi' : i = zs.length := by omega
    subst hi'
    refine W.done s1 _ _ S1 fun h2 tk k2 => ?_
    have A2 := A1.but (t := tk) O hI k2 nvI
    refine hR _ ws n A2 (k2 _ _ hDI d1) ?_
    have r2 := r1.but k2 nvI
    rwa [List.take_length] at r2

end
section
set_option linter.unusedVariables false
set_option autoImplicit false
variable {C : Cx} {env : Env} {σ : St} {mu : List Addr}

/-- what a comprehension sees of its frame -/
structure CapOK (σ : St) (env : Env) (scope : Scope) (cl : List (Str × Addr)) (e : Str × PV) : Prop where
  val : σ.vs.lookup e.1 = some e.2
  out : env.kindOf e.1 ≠ some .local
  inn : (relabel scope env).names.lookup e.1 ≠ some .local
  cell : ∀ L, (cellsFrom (L + 1) scope.names cl).lookup e.1 = env.cells.lookup e.1
structure CompOK (σ : St) (env : Env) (scope : Scope) (cl : List (Str × Addr)) (W : List Str) (x : Str) (cap : List (Str × PV)) : Prop where
  clos : closureFor scope env = pure cl
  mem : ∀ e ∈ cl, env.cells.lookup e.1 = some e.2
  kind : scope.kind = .function
  names : ∀ y ∈ scope.names, y.2 = .local → scope.names.lookup y.1 = some .local
  caps : ∀ e ∈ cap, CapOK σ env scope cl e
  fresh : cap.lookup x = none
  own : ∀ n ∈ W, ∀ L : Nat, (relabel scope env).names.lookup n = some .cell ∧ ∃ c, L < c ∧ (cellsFrom (L + 1) scope.names cl).lookup n = some c
  tgt : (relabel scope env).names.lookup x = some .local ∨ x ∈ W

theorem kindOf_eq {env : Env} {x : Str} : env.kindOf x = env.scope.names.lookup x := rfl

theorem fresh_ge {h : Heap} {b : Nat} (hb : h.objs.size ≤ b) : h.get? b = none := by
  cases e : h.get? b with
  | none => rfl
  | some o => exact absurd (Heap.lt_size e) (Nat.not_lt.mpr hb)
theorem Rep.muD {h : Heap} {D : Addr} (hD : h.get? D = none) {v : Value} {p : PV} (r : Rep mu h v p) : Rep (D :: mu) h v p := by
  have k : ∀ a ∈ D :: mu, a ∈ mu ∨ h.get? a = none := fun a m => by
    rcases List.mem_cons.mp m with rfl | m
    · exact .inr hD
    · exact .inl m
  cases p with
  | la a xs =>
    obtain ⟨h1, h2, vs, n, h3, h4⟩ := r
    exact ⟨h1, List.mem_cons_of_mem _ h2, vs, n, h3, h4.mu k⟩
  | _ => exact RepI.mu k r

structure CompEnd (C : Cx) (σ : St) (s : Shared) (D Lc : Addr) (s' : Shared) (ys : List PV) : Prop where
  ext : Ext C.fs s s'
  inv : Inv C s'
  fD : s.heap.get? D = none
  fL : s.heap.get? Lc = none
  ne : D ≠ Lc
  ns : ∃ m, s'.heap.Ns Lc m
  lst : ∃ ws n, s'.heap.get? D = some (lobj ws n) ∧ RepIL (D :: σ.mu) s'.heap ws ys

theorem comp_wp {cl : List (Str × Addr)} {W : List Str} {x : Str} {cap : List (Str × PV)} {px pos pos' : Pos} {iter elt : Expr} {ifs : List Expr} {scope : Scope} {p : PV} {zs : List (PV × Option PV)} {use : Option (Value → Sem Unit)}
    {Q : Value → Shared → Prop} {E : Value → Shared → Prop} {s : Shared} (K : CompOK σ env scope cl W x cap)
    (h1 : Ev C env σ iter p) (hit : Itb C σ.mu p (zs.map (·.1))) (hn : zs.length ≤ sizeLine) (I0 : Inv C s) (F0 : Frm env σ s)
    (hel : ∀ z ∈ zs, ∀ D L, CompItem C (cenvOf env scope cl L) σ.mu D cap x ifs elt z.1 z.2)
    (hR : ∀ D Lc s', CompEnd C σ s D Lc s' (zs.filterMap (·.2)) → compPost C.M C.A E use Q (.ref D) Lc (.ok .next) s')
    (hs : ∀ v, foldedSetIterable iter env v = pure v) :
    wpAny C.M C.A (comprehension (.ListComp elt [⟨.Name x px, iter, ifs, 0⟩] scope pos) scope env pos' (newList []) false (eval iter env) use) Q E s := by
  refine wpAny_comprehension_free (g := ⟨.Name x px, iter, ifs, 0⟩) (gs := []) rfl hs K.clos K.kind K.names (h1.use I0 F0 fun v s1 x1 I1 F1 r1 => wpAny_mono (hit.run v s1 I1 r1) (fun it s2 z => ?_) fun _ _ z => z.elim)
  obtain ⟨x2, I, ax, P, S, rfl, Wk, S0, fI, hax, hP⟩ := z
  rw [List.length_map] at Wk
  have I2 := I1.ext x2
  unfold newList
  refine wpAny_newObj_type (T := "list") ?_ (by size_fits)
  refine wpAny_newFunctionEnv_comp ?_
  generalize hH : s2.heap.push { cls := .type "list", data := .seq ([] : List Value).toArray } = H3
  have x3 : Ext C.fs s2 { s2 with heap := H3 } := hH ▸ Ext.push (t := s2.toks)
  have k3 : ∀ b o, s2.heap.get? b = some o → H3.get? b = some o := fun b o e => hH ▸ Heap.get?_push_of_some _ e
  have x4 : Ext C.fs { s2 with heap := H3 } { s2 with heap := pushCells (H3.push { cls := .type "dict", data := .dict #[] }) scope.names } :=
    Ext.of_keeps (fun b o e => pushCells_keeps _ _ _ _ (Heap.get?_push_of_some _ e)) rfl rfl
  have x14 := (x2.trans x3).trans x4
  have I3 := I2.ext x3
  have back3 : ∀ b, H3.get? b = none → s1.heap.get? b = none := fun b e => I1.grow x2 b (I2.grow x3 b e)
  have fD1 : s1.heap.get? s2.heap.objs.size = none := I1.grow x2 _ (fresh_size _)
  have fL1 : s1.heap.get? H3.objs.size = none := back3 _ (fresh_size _)
  have dD3 : H3.get? s2.heap.objs.size = some (lobj [] 0) := hH ▸ Heap.get?_push_size _ rfl
  have hne : s2.heap.objs.size ≠ H3.objs.size := fun q => by rw [q, fresh_size] at dD3; cases dD3
  have clt : ∀ y c, cl.lookup y = some c → c < H3.objs.size := fun y c e => by
    obtain ⟨v, o, e', _⟩ := F1.co _ _ (K.mem _ (mem_of_lookup e))
    have e2 := I1.grow x2 c
    cases e3 : s2.heap.get? c with
    | none => rw [e2 e3] at e'; cases e'
    | some o' => exact Heap.lt_size (k3 _ _ e3)
  generalize hX : (⟨C, cenvOf env scope cl H3.objs.size, C.fs, s1, W⟩ : Fx) = X
  have O : FxOK X := by
    subst hX
    obtain ⟨outer, ho, hf⟩ := I1.frames
    refine ⟨fun b h => .inl h, fun b h => ?_, fL1, fun n hn => ?_, ?_, fun q => (hf.mem q).2.1 rfl⟩
    · show C.g.get? b = none
      cases e : C.g.get? b with
      | none => rfl
      | some o => have := I1.base b o e; rw [h] at this; cases this
    · obtain ⟨hk, c, hc, hl⟩ := K.own n hn H3.objs.size
      refine ⟨c, hl, back3 _ (fresh_ge (Nat.le_of_lt hc)), hk, fun m hm e => hm ?_⟩
      exact cells_inj scope.names (H3.objs.size + 1) (H3.objs.size + 1) cl (Nat.le_refl _) (fun y c e => Nat.lt_succ_of_lt (clt y c e)) (fun y z c e _ hc => absurd (clt y c e) (Nat.not_lt.mpr (Nat.le_of_succ_le hc))) _ _ _ e hl hc
    · obtain ⟨ps, e, _⟩ := I1.tab
      intro q; rw [e] at q; cases q
  have A : At X ⟨σ.mu, [s2.heap.objs.size], cap⟩ { s2 with heap := pushCells (H3.push { cls := .type "dict", data := .dict #[] }) scope.names } := by
    subst hX
    refine ⟨I1.ext x14, ⟨K.kind, F0.glob, F0.blt, ⟨fun _ => none, (Heap.Ns.new H3 (.type "dict")).keeps (pushCells_keeps _ _), fun y q e k => ?_⟩, fun y q e k => ?_, fun n c hc => ?_, fun a ha => ?_⟩, x14, fun a ha => ?_⟩
    · have := (K.caps _ (mem_of_lookup e)).inn
      exact absurd k this
    · have cc := K.caps _ (mem_of_lookup e)
      obtain ⟨c, v, e1, e2, e3⟩ := F1.cv y q cc.val cc.out
      refine ⟨c, v, (cc.cell _).trans e1, I1.cell x14 e2, ?_⟩
      exact I1.rep x14 (e3.muD fD1)
    · have hz : (H3.push { cls := .type "dict", data := .dict #[] }).objs.size = H3.objs.size + 1 := Heap.size_push ..
      have hc' : (n, c) ∈ cellsFrom (H3.push { cls := .type "dict", data := .dict #[] }).objs.size scope.names cl := by rw [hz]; exact mem_of_lookup hc
      rcases cells_mem _ _ _ _ hc' with m | ⟨_, m⟩
      · obtain ⟨v, h⟩ := F1.co _ _ (K.mem _ m)
        exact ⟨v, I1.cell x14 h⟩
      · exact ⟨none, m⟩
    · rcases List.mem_cons.mp ha with rfl | ha
      · exact ⟨[], 0, pushCells_keeps _ _ _ _ (Heap.get?_push_of_some _ dD3)⟩
      · obtain ⟨vs, n, e⟩ := F1.mu a ha
        exact ⟨vs, n, I1.stable x14 e (stable_lobj _ _)⟩
    · rw [List.mem_singleton.mp ha]; exact fD1
  have kp : KeepS [] s2.heap (pushCells (H3.push { cls := .type "dict", data := .dict #[] }) scope.names) := I2.keepS (x3.trans x4)
  have hS := Wk.frame _ _ _ [] S0 kp fun _ _ => List.not_mem_nil
  have loop : codeAny C.M C.A (.compLoop (.ListComp elt [⟨.Name x px, iter, ifs, 0⟩] scope pos) 0 (.ref I) (.ref s2.heap.objs.size) (cenvOf env scope cl H3.objs.size))
      (compPost C.M C.A E use Q (.ref s2.heap.objs.size) H3.objs.size) { s2 with heap := pushCells (H3.push { cls := .type "dict", data := .dict #[] }) scope.names } := by
    have hXC : X.C = C := by subst hX; rfl
    have hXe : X.env = cenvOf env scope cl H3.objs.size := by subst hX; rfl
    have hX0 : X.s0 = s1 := by subst hX; rfl
    have hXf : X.f0 = C.fs := by subst hX; rfl
    have hXW : X.W = W := by subst hX; rfl
    have := comp_loop (X := X) O (m0 := σ.mu) (D := s2.heap.objs.size) (I := I) (cap := cap) (x := x) (px := px) (pos := pos) (iter := iter) (elt := elt) (ifs := ifs) (scope := scope) (zs := zs) (ax := ax)
      (P := P) (S := S) (R := compPost C.M C.A E use Q (.ref s2.heap.objs.size) H3.objs.size) (s := { s2 with heap := pushCells (H3.push { cls := .type "dict", data := .dict #[] }) scope.names })
      (by rw [hXC]; exact Wk) (by rw [hXC, hX0]; exact I1) (by rw [hXC, hXf]) (by rw [hX0]; exact fI) (by rw [hX0]; exact fD1) (by rw [hX0]; exact fun a e => (hax a e).1) (by rw [hX0]; exact hP)
      (by rw [hX0]; exact F1.mu) K.fresh (by rw [hXe, hXW]; exact K.tgt)
      (fun e m ys q => by
        obtain ⟨c, v, e1, e2, e3⟩ := F1.cv e.1 e.2 (K.caps e m).val (K.caps e m).out
        rw [q] at e3
        obtain ⟨ws, n, e4⟩ := F1.mu _ e3.2.1
        rw [fD1] at e4; cases e4)
      (by rw [hXC, hXe]; exact fun q m => hel q m _ _) hn A hS (pushCells_keeps _ _ _ _ (Heap.get?_push_of_some _ dD3)) fun s' ws n A' d' r' => ?_
    · rw [hXC, hXe] at this; exact this
    · have Ae := A'.ext
      rw [hXf, hX0] at Ae
      have Ai := A'.inv
      rw [hXC] at Ai
      obtain ⟨m, hm, _⟩ := A'.frm.ns
      rw [hXe] at hm
      exact hR _ _ _ ⟨x1.trans Ae, Ai, I0.grow x1 _ fD1, I0.grow x1 _ fL1, hne, ⟨m, hm⟩, ws, n, d', r'⟩
  exact codeAny_compStart_list loop (Wk.self 0 _ _ _ hS loop)

/-- Lc let go -/
theorem CompEnd.letgo {s s' : Shared} {D Lc : Addr} {ys : List PV} (e : CompEnd C σ s D Lc s' ys) (I0 : Inv C s) {h' : Heap} (sb : Heap.SameBut Lc s'.heap h') :
    Ext C.fs s { s' with heap := h' } ∧ ∃ ws n, h'.get? D = some (lobj ws n) ∧ RepIL (D :: σ.mu) h' ws ys := by
  obtain ⟨x, I, fD, fL, ne, ⟨m, ns⟩, ws, n, d, r⟩ := e
  obtain ⟨o, es, k, e1, d1⟩ := ns_dict ns
  have kp : KeepS [] s'.heap h' := .same sb (fun o' e => by rw [e1] at e; cases e; exact not_stable_dict d1) _
  have kb : ∀ b o, s.heap.get? b = some o → b ≠ Lc := fun b o e q => by rw [q, fL] at e; cases e
  refine ⟨⟨fun b o e q t => sb.extBut b _ (kb b o e) (x.keep b o e q t), fun b o e q => ?_, x.gens, x.os, fun ps e tr => ?_⟩, ws, n, sb.extBut _ _ ne d, r.keep0 kp⟩
  · obtain ⟨sl, e'⟩ := x.slot b o e q
    exact ⟨sl, sb.extBut b _ (kb b o e) e'⟩
  · obtain ⟨m, e', t'⟩ := x.tab ps e tr
    exact ⟨m, sb.extBut _ _ (kb _ _ e) e', t'⟩

theorem Ev.comp {cl : List (Str × Addr)} {W : List Str} {x : Str} {cap : List (Str × PV)} {px pos : Pos} {iter elt : Expr} {ifs : List Expr} {scope : Scope} {p : PV} (zs : List (PV × Option PV))
    (K : CompOK σ env scope cl W x cap) (h1 : Ev C env σ iter p) (hit : Itb C σ.mu p (zs.map (·.1))) (hn : zs.length ≤ sizeLine)
    (hel : ∀ z ∈ zs, ∀ D L, CompItem C (cenvOf env scope cl L) σ.mu D cap x ifs elt z.1 z.2) (hs : ∀ v, foldedSetIterable iter env v = pure v := by intro _; rfl) :
    Ev C env σ (.ListComp elt [⟨.Name x px, iter, ifs, 0⟩] scope pos) (.l (zs.filterMap (·.2))) := by
  refine ⟨?_⟩
  intro s I0 F0
  rw [eval_ListComp]
  refine comp_wp K h1 hit hn I0 F0 hel (fun D Lc s' e => ?_) hs
  refine ⟨_, e.ns.choose_spec, fun h' sb => ?_⟩
  obtain ⟨x', ws, n, d, r⟩ := e.letgo I0 sb
  refine ⟨x', Rep.lof d (fun m => ?_) (r.mu fun a m => .inl (List.mem_cons_of_mem _ m))⟩
  obtain ⟨vs, k, z⟩ := F0.mu _ m
  rw [e.fD] at z; cases z

end
section
set_option linter.unusedVariables false
set_option autoImplicit false
variable {C : Cx} {env : Env} {σ : St} {mu : List Addr} {X : Fx} {Q : St → Res → Prop}

theorem At.back (O : FxOK X) {σ : St} {s : Shared} (A : At X σ s) {b : Addr} (h : s.heap.get? b = none) : X.s0.heap.get? b = none := by
  cases e : X.s0.heap.get? b with
  | none => rfl
  | some o =>
    by_cases q : b ∈ X.f0
    · obtain ⟨sl, e'⟩ := A.ext.slot b o e q
      rw [h] at e'; cases e'
    · by_cases t : b = tabA
      · obtain ⟨ps, e', _⟩ := A.inv.tab
        rw [t, e'] at h; cases h
      · have := A.ext.keep b o e q t
        rw [h] at this; cases this
theorem KeepS.wider {mu mu' : List Addr} {h h' : Heap} (k : KeepS mu h h') (hm : ∀ a ∈ mu, a ∈ mu') : KeepS mu' h h' := ⟨fun b o e st q => k.keep b o e st fun xs n d m => q xs n d (hm b m)⟩

/-! ### loops -/
/-- what one turn leaves -/
noncomputable def Turn (J : St → Prop) (Q : St → Res → Prop) (σ : St) : Res → Prop
  | .next => J σ
  | .ret p => Q σ (.ret p)
theorem Exe.while (O : FxOK X) {σ : St} {t : Expr} {body : List Stmt} {pos : Pos} (I : Nat → St → Prop)
    (turn : ∀ n σ', I n σ' → ∃ b, Tst X.C X.env σ' t b ∧ (b = false → Q σ' .next) ∧ (b = true → Run X σ' body (Turn (fun σ'' => ∃ m, m < n ∧ I m σ'') Q)))
    (n : Nat) (h : I n σ) : Exe X σ (.While t body [] pos) Q := by
  refine ⟨?_⟩
  intro s A
  refine wpAny_While (codeAny_whileLoop (fun n s' => ∃ σ', I n σ' ∧ At X σ' s' ∧ Carry σ s σ' s') ?_ n ⟨σ, h, A, .refl⟩)
  rintro n s1 ⟨σ1, h1, A1, c1⟩
  obtain ⟨b, ht, hf, hb⟩ := turn n σ1 h1
  refine ht.use A1.inv A1.frm fun s2 x2 I2 F2 => ?_
  have A2 := A1.ev O x2
  have c2 := c1.trans (.ev A1.inv x2)
  cases b with
  | false => exact itf (wpAny_execs_nil ⟨σ1, .next, rfl, hf rfl, A2, c2⟩)
  | true =>
    refine itt (wpAny_mono ((hb rfl).at A2) (fun f s3 z => ?_) fun _ _ z => z.elim)
    obtain ⟨σ3, r, h3, q3, A3, c3⟩ := z
    cases r with
    | next =>
      cases h3
      obtain ⟨m, hm, hI⟩ := q3
      exact ⟨m, hm, σ3, hI, A3, c2.trans c3⟩
    | ret p =>
      obtain ⟨v, rfl, rv⟩ := h3
      exact ⟨σ3, .ret p, ⟨v, rfl, rv⟩, q3, A3, c2.trans c3⟩

theorem Carry.but {σ : St} {s : Shared} {I : Addr} {σ' : St} {s' : Shared} {h' : Heap} {t : Tok} (c : Carry σ s σ' s') (hI : s.heap.get? I = none) (hI' : ∃ o, s'.heap.get? I = some o)
    (k : ∀ b o, b ≠ I → s'.heap.get? b = some o → h'.get? b = some o) : Carry σ s σ' { s' with heap := h', toks := t } := by
  refine ⟨⟨fun b o e st q => k b o (fun z => by rw [z, hI] at e; cases e) (c.keep.keep b o e st q)⟩, fun b e => ?_, c.new, c.old, c.m0⟩
  by_cases z : b = I
  · rw [z]; exact hI
  · cases e' : s'.heap.get? b with
    | none => exact c.grow b e'
    | some o => rw [k b o z e'] at e; cases e
theorem Exe.for (O : FxOK X) {σ : St} {x : Str} {px pos : Pos} {iter : Expr} {body : List Stmt} {p : PV} {ps : List PV} (hk : X.env.kindOf x = some .local ∨ x ∈ X.W)
    (h1 : Ev X.C X.env σ iter p) (hit : Itb X.C σ.mu p ps) (hpl : p.pl = true) (J : Nat → St → Prop) (h0 : J 0 σ)
    (turn : ∀ k q σ', ps[k]? = some q → J k σ' → Run X (σ'.set x q) body (Turn (J (k + 1)) Q)) (hend : ∀ σ', J ps.length σ' → Q σ' .next)
    (hs : ∀ v, foldedSetIterable iter X.env v = pure v := by intro _; rfl) : Exe X σ (.For (.Name x px) iter body [] pos) Q := by
  refine ⟨?_⟩
  intro s A
  refine wpAny_For (h1.use A.inv A.frm fun v s1 x1 I1 F1 r1 => wpAny_mono (hit.run v s1 I1 r1) (fun it s2 z => ?_) fun _ _ z => z.elim) hs
  obtain ⟨x2, I, ax, P, S, rfl, W, S0, fI, hax, hP⟩ := z
  have A1 := A.ev O x1
  have A2 := A1.ev O x2
  have cs1 : Carry σ s σ s1 := .ev A.inv x1
  have hI0 : X.s0.heap.get? I = none := A1.back O fI
  refine codeAny_forLoop (fun k s' => ∃ i σ', k = ps.length - i ∧ i ≤ ps.length ∧ J i σ' ∧ At X σ' s' ∧ Carry σ s1 σ' s' ∧ S i s'.heap) ?_ ps.length ⟨0, σ, rfl, Nat.zero_le _, h0, A2, .ev I1 x2, S0⟩
  rintro k s3 ⟨i, σ3, rfl, hi, hJ, A3, c3, S3⟩
  obtain ⟨oI, eI, nI⟩ := W.cls _ _ S3
  have nvI : ∀ o, s3.heap.get? I = some o → NoVal o := fun o e => by rw [eI] at e; cases e; exact nI
  have hax' : ∀ {σ' : St} {s' : Shared}, Carry σ s1 σ' s' → ∀ a, ax = some a → a ∉ σ'.mu := fun c a ea m => by
    obtain ⟨⟨o, e⟩, h⟩ := hax a ea
    rcases c.new a m with q | q
    · exact h hpl q
    · rw [e] at q; cases q
  by_cases hlt : i < ps.length
  · refine W.item i s3 _ _ hlt S3 fun v h4 tk hv S4 k4 => ?_
    obtain ⟨q, eq, rq⟩ := hP i v hv
    have A4 := A3.but (t := tk) O hI0 k4 nvI
    have c4 : Carry σ s1 σ3 { s3 with heap := h4, toks := tk } := c3.but fI ⟨_, eI⟩ k4
    have rv : RepI σ3.mu h4 v q := (rq.mu c3.new).keep (c4.keep.wider c4.old)
    refine wpAny_assign_Name (store_wp O hk A4 (Rep.of rv) fun s5 A5 c5 kp5 => ?_)
    have S5 := W.frame _ _ _ [] S4 kp5 fun _ _ => List.not_mem_nil
    have c15 := c4.trans c5
    refine wpAny_mono ((turn i q σ3 eq hJ).at A5) (fun f s6 z => ?_) fun _ _ z => z.elim
    obtain ⟨σ6, r, h6, q6, A6, c6⟩ := z
    have c16 := c15.trans c6
    cases r with
    | next =>
      cases h6
      exact ⟨ps.length - (i + 1), by omega, i + 1, σ6, rfl, by omega, q6, A6, c16, W.frame _ _ _ _ S5 c6.keep (hax' c15)⟩
    | ret p' =>
      obtain ⟨v', rfl, rv'⟩ := h6
      exact ⟨σ6, .ret p', ⟨v', rfl, rv'⟩, q6, A6, cs1.trans c16⟩
  · have hi' : i = ps.length := by omega
    subst hi'
    refine W.done s3 _ _ S3 fun h4 tk k4 => ?_
    have A4 := A3.but (t := tk) O hI0 k4 nvI
    have c4 : Carry σ s1 σ3 { s3 with heap := h4, toks := tk } := c3.but fI ⟨_, eI⟩ k4
    exact wpAny_execs_nil ⟨σ3, .next, rfl, hend _ hJ, A4, cs1.trans c4⟩

/-! ### += -/
theorem Exe.aug (O : FxOK X) {σ : St} {x : Str} {pos' pos : Pos} {e : Expr} {a b : Int} (hk : X.env.kindOf x = some .local) (hv : σ.vs.lookup x = some (.i a)) (h : Ev X.C X.env σ e (.i b)) (k : Q (σ.set x (.i (a + b))) .next) :
    Exe X σ (.AugAssign (.Name x pos') .Add e pos) Q := by
  refine ⟨?_⟩
  intro s A
  obtain ⟨m, hm, q⟩ := A.frm.ns
  obtain ⟨v, ev, r⟩ := q x _ hv hk
  obtain ⟨t, rfl⟩ := r.i_inv
  refine wpAny_AugAssign_Name (wpAny_loadName_local A.frm.kind hk hm ev (h.use A.inv A.frm fun w s1 x1 I1 F1 r1 => ?_))
  obtain ⟨u, rfl⟩ := r1.i_inv
  have x2 : Ext X.C.fs s1 { s1 with toks := s1.toks + 1 } := Ext.tok
  refine PyProof.Rows.iadd_int (store_wp O (.inl hk) ((A.ev O x1).ev O x2) Rep.i fun s3 A3 c3 _ => ?_)
  exact ⟨_, .next, rfl, k, A3, ((Carry.ev A.inv x1).trans (.ev I1 x2)).trans c3⟩

/-! ### a fresh list becomes the frame's own -/
structure EvF (C : Cx) (env : Env) (σ : St) (e : Expr) (xs : List PV) : Prop where
  run : ∀ s, Inv C s → Frm env σ s → wpAny C.M C.A (eval e env) (fun v s' => Ext C.fs s s' ∧ ∃ a vs n, v = .ref a ∧ s.heap.get? a = none ∧ s'.heap.get? a = some (lobj vs n) ∧ RepIL (a :: σ.mu) s'.heap vs xs) (fun _ _ => False) s
theorem RepIL.muD {h : Heap} {D : Addr} (hD : h.get? D = none) {v : List Value} {p : List PV} (r : RepIL mu h v p) : RepIL (D :: mu) h v p :=
  r.mu fun a m => by
    rcases List.mem_cons.mp m with rfl | m
    · exact .inr hD
    · exact .inl m
theorem EvF.list {es : List Expr} {ps : List PV} {pos : Pos} (ha : EvA C env σ es ps) (hp : ps.all PV.pl = true) (hn : ps.length ≤ sizeLine := by first | decide | simp [sizeLine]) : EvF C env σ (.List es pos) ps :=
  .mk fun s I F => by
    refine List_ (ha.use I F fun vs s1 x1 I1 F1 r => ?_)
    have ri := r.toI hp
    unfold newList
    refine wpAny_newObj_type (T := "list") ?_ ?_
    · refine ⟨x1.trans Ext.push, s1.heap.objs.size, vs, 0, rfl, I.grow x1 _ (fresh_size _), Heap.get?_push_size _ rfl, ?_⟩
      exact (ri.muD (fresh_size _)).keep ⟨fun _ _ e _ _ => Heap.get?_push_of_some _ e⟩
    · show vs.toArray.size ≤ sizeLine
      rw [List.size_toArray, ri.length]; exact hn
theorem EvF.comp {cl : List (Str × Addr)} {W : List Str} {x : Str} {cap : List (Str × PV)} {px pos : Pos} {iter elt : Expr} {ifs : List Expr} {scope : Scope} {p : PV} (zs : List (PV × Option PV))
    (K : CompOK σ env scope cl W x cap) (h1 : Ev C env σ iter p) (hit : Itb C σ.mu p (zs.map (·.1))) (hn : zs.length ≤ sizeLine)
    (hel : ∀ z ∈ zs, ∀ D L, CompItem C (cenvOf env scope cl L) σ.mu D cap x ifs elt z.1 z.2) (hs : ∀ v, foldedSetIterable iter env v = pure v := by intro _; rfl) :
    EvF C env σ (.ListComp elt [⟨.Name x px, iter, ifs, 0⟩] scope pos) (zs.filterMap (·.2)) := by
  refine ⟨?_⟩
  intro s I0 F0
  rw [eval_ListComp]
  refine comp_wp K h1 hit hn I0 F0 hel (fun D Lc s' e => ?_) hs
  refine ⟨_, e.ns.choose_spec, fun h' sb => ?_⟩
  obtain ⟨x', ws, n, d, r⟩ := e.letgo I0 sb
  exact ⟨x', D, ws, n, rfl, e.fD, d, r⟩

theorem At.own1 (O : FxOK X) {σ : St} {s s' : Shared} (A : At X σ s) (x : Ext X.C.fs s s') {a : Addr} (hf : s.heap.get? a = none) {vs : List Value} {n : Nat} (ha : s'.heap.get? a = some (lobj vs n)) :
    At X { σ with ow := a :: σ.ow } s' ∧ Carry σ s { σ with ow := a :: σ.ow } s' := by
  have A' := A.ev O x
  have F := A.frm
  have F' := A'.frm
  have k : ∀ b ∈ a :: σ.mu, b ∈ σ.mu ∨ s.heap.get? b = none := fun b m => by
    rcases List.mem_cons.mp m with rfl | m
    · exact .inr hf
    · exact .inl m
  have up : ∀ v p, Rep σ.mu s.heap v p → Rep (a :: σ.mu) s'.heap v p := fun v p r => A.inv.rep x (r.muD hf)
  obtain ⟨m, hm, hold⟩ := F.ns
  refine ⟨⟨A'.inv, ⟨F.kind, F.glob, F.blt, ⟨m, A.inv.ns x hm, fun y p e kk => ?_⟩, fun y p e kk => ?_, F'.co, fun b hb => ?_⟩, A'.ext, fun b hb => ?_⟩, ⟨A.inv.keepS x, A.inv.grow x, k, fun b hb => List.mem_cons_of_mem _ hb, rfl⟩⟩
  · obtain ⟨v, h1, h2⟩ := hold y p e kk
    exact ⟨v, h1, up _ _ h2⟩
  · obtain ⟨c, v, h1, h2, h3⟩ := F.cv y p e kk
    exact ⟨c, v, h1, A.inv.cell x h2, up _ _ h3⟩
  · rcases List.mem_cons.mp hb with rfl | hb
    · exact ⟨_, _, ha⟩
    · exact F'.mu b hb
  · rcases List.mem_cons.mp hb with rfl | hb
    · exact A.back O hf
    · exact A.own b hb
/-- x = a fresh list, to be the frame's own -/
theorem Exe.own (O : FxOK X) {σ : St} {x : Str} {pos' pos : Pos} {e : Expr} {xs : List PV} (hk : X.env.kindOf x = some .local ∨ x ∈ X.W) (h : EvF X.C X.env σ e xs)
    (k : ∀ a, a ∉ σ.mu → Q (({ σ with ow := a :: σ.ow } : St).set x (.la a xs)) .next)
    (hs : swapsWith e (some (.Name x pos')) pos.line X.env = pure false) : Exe X σ (.Assign [.Name x pos'] e pos) Q :=
  .mk fun s A => by
    refine wpAny_Assign_Name (wpAny_mono (h.run s A.inv A.frm) (fun v s1 z => ?_) fun _ _ z => z.elim) hs
    obtain ⟨x1, a, vs, n, rfl, hf, ha, r⟩ := z
    obtain ⟨A1, c1⟩ := A.own1 O x1 hf ha
    refine store_wp O hk A1 (p := .la a xs) ⟨rfl, List.mem_cons_self, vs, n, ha, r⟩ fun s2 A2 c2 _ => ?_
    refine ⟨_, .next, rfl, k a (fun m => ?_), A2, c1.trans c2⟩
    obtain ⟨ws, j, e'⟩ := A.frm.mu a m
    rw [hf] at e'; cases e'

/-! ### methods -/
structure MethV (C : Cx) (mu : List Addr) (p : PV) (name : Str) (id : String) : Prop where
  run : ∀ v s (pl : Sem Bool) (Q : Value × List Value → Shared → Prop) (E : Value → Shared → Prop), Inv C s → Rep mu s.heap v p → Q (.builtin id, [v]) s → wpAny C.M C.A (getMethod v name pl) Q E s
theorem Ev.meth {o e : Expr} {es : List Expr} {name : Str} {apos pos : Pos} {id : String} {p : PV} {ps : List PV} {r : PV} {pl : Sem Bool} (h1 : Ev C env σ o p) (hm : MethV C σ.mu p name id) (ha : EvA C env σ (e :: es) ps)
    (hc : CallV C σ.mu (.builtin id) (p :: ps) r)
    (he : eval (.Call (.Attribute o name apos) (e :: es) [] pos) env = (do
      let ov ← eval o env
      standAt apos.atName
      let (f, first) ← holding [ov] (getMethod ov name pl)
      callWith pos f first (backTo pos (starEach (e :: es) env)) []) := by rfl)
    (hs : starEach (e :: es) env = (false, eval e env) :: starEach es env := by rfl)
    (hplain : (backTo pos (starEach es env)).any (·.1) = false := by rfl) : Ev C env σ (.Call (.Attribute o name apos) (e :: es) [] pos) r :=
  .mk fun s I F => by
    refine MethodCall_ (h1.use I F fun v s1 x1 I1 F1 r1 => hm.run v s1 _ _ _ I1 r1 ?_) he
    dsimp only
    refine callWith_method1 ?_ hs hplain
    refine ha.use I1 F1 fun vs s2 x2 I2 F2 r2 => hc.use I2 F2.mu (.cons (I1.rep x2 r1) r2) fun v s3 x3 _ r3 => ⟨(x1.trans x2).trans x3, r3⟩
theorem Exe.append (O : FxOK X) {σ : St} {x : Str} {xp apos pos pos' : Pos} {e : Expr} {a : Addr} {xs : List PV} {p : PV} {l' : List (Str × PV)} {pl : Sem Bool} (h1 : Ev X.C X.env σ (.Name x xp) (.la a xs)) (ha : a ∈ σ.ow) (h2 : Ev X.C X.env σ e p)
    (hp : p.pl = true) (hn : xs.length ≤ sizeLine) (u : UpdL a (xs ++ [p]) σ.vs l') (k : Q { σ with vs := l' } .next)
    (he : eval (.Call (.Attribute (.Name x xp) "append" apos) [e] [] pos) X.env = (do
      let ov ← eval (.Name x xp) X.env
      standAt apos.atName
      let (f, first) ← holding [ov] (getMethod ov "append" pl)
      callWith pos f first (backTo pos (starEach [e] X.env)) []) := by rfl)
    (hs : starEach [e] X.env = [(false, eval e X.env)] := by rfl)
    (hi : interactive X.env = false := by rfl) (hsw : swapsWith (.Call (.Attribute (.Name x xp) "append" apos) [e] [] pos) none pos'.line X.env = pure false := by rfl) :
    Exe X σ (.Expr (.Call (.Attribute (.Name x xp) "append" apos) [e] [] pos) pos') Q :=
  .mk fun s A => by
    refine wpAny_Expr_any (MethodCall_ (h1.use A.inv A.frm fun v s1 x1 I1 F1 r1 => ?_) he) hi hsw
    obtain ⟨rfl, hm, vs, n, e1, rl⟩ := r1
    refine getMethod_list_append e1 rfl rfl ?_
    dsimp only
    refine callWith_method1 ?_ hs rfl
    refine args_cons (h2.use I1 F1 fun v s2 x2 I2 F2 r2 => args_nil ?_) hs
    have A2 := (A.ev O x1).ev O x2
    have e2 := I1.stable x2 e1 (stable_lobj _ _)
    have rl2 := rl.keep (I1.keepS x2)
    refine wpAny_list_append_plain ⟨n, e2⟩ (fun h3 p3 sb => ?_) (by rw [List.size_toArray, rl2.length]; exact hn)
    obtain ⟨n3, e3⟩ := p3
    have e3' : h3.get? a = some (lobj (vs ++ [v]) n3) := by rw [e3]; simp [lobj]
    obtain ⟨A3, c3⟩ := A2.append O ha e2 rl2 (r2.toI hp) e3' sb u s2.toks
    exact ⟨_, .next, rfl, k, A3, ((Carry.ev A.inv x1).trans (.ev I1 x2)).trans c3⟩

end
section
set_option linter.unusedVariables false
set_option autoImplicit false
variable {C : Cx} {env : Env} {σ : St} {mu : List Addr}

theorem bindL_not {k : Str → Option NameKind} : ∀ {bs : List (Str × Value)} {m : Str → Option Value} {x : Str}, (∀ e ∈ bs, e.1 ≠ x) → bindL k bs m x = m x
  | [], _, _, _ => rfl
  | (n, v) :: r, m, x, h => by
    unfold bindL
    rw [bindL_not fun e he => h e (List.mem_cons_of_mem _ he)]
    have : x ≠ n := fun q => h (n, v) List.mem_cons_self q.symm
    split
    · exact if_neg this
    · rfl
theorem bindC_not {k : Str → Option NameKind} : ∀ {bs : List (Str × Value)} {m : Str → Option Value} {x : Str}, (∀ e ∈ bs, e.1 ≠ x) → bindC k bs m x = m x
  | [], _, _, _ => rfl
  | (n, v) :: r, m, x, h => by
    unfold bindC
    rw [bindC_not fun e he => h e (List.mem_cons_of_mem _ he)]
    have : x ≠ n := fun q => h (n, v) List.mem_cons_self q.symm
    split
    · rfl
    · exact if_neg this
theorem bindL_lookup {k : Str → Option NameKind} {x : Str} (hk : k x = some .local) : ∀ {bs : List (Str × Value)} {m : Str → Option Value} {v : Value}, (bs.map (·.1)).Nodup → bs.lookup x = some v → bindL k bs m x = some v
  | [], _, _, _, e => by simp at e
  | (n, w) :: r, m, v, hn, e => by
    rw [List.map_cons, List.nodup_cons] at hn
    rw [List.lookup_cons] at e
    unfold bindL
    cases hx : x == n with
    | true =>
      rw [hx] at e; cases e
      have hx := beq_iff_eq.mp hx
      subst hx
      rw [if_pos hk, bindL_not (x := x) fun e he q => hn.1 (by have := List.mem_map_of_mem (f := (·.1)) he; rw [q] at this; exact this)]
      exact if_pos rfl
    | false => rw [hx] at e; exact bindL_lookup hk hn.2 e
theorem bindC_lookup {k : Str → Option NameKind} {x : Str} (hk : k x ≠ some .local) : ∀ {bs : List (Str × Value)} {m : Str → Option Value} {v : Value}, (bs.map (·.1)).Nodup → bs.lookup x = some v → bindC k bs m x = some v
  | [], _, _, _, e => by simp at e
  | (n, w) :: r, m, v, hn, e => by
    rw [List.map_cons, List.nodup_cons] at hn
    rw [List.lookup_cons] at e
    unfold bindC
    cases hx : x == n with
    | true =>
      rw [hx] at e; cases e
      have hx := beq_iff_eq.mp hx
      subst hx
      rw [if_neg hk, bindC_not (x := x) fun e he q => hn.1 (by have := List.mem_map_of_mem (f := (·.1)) he; rw [q] at this; exact this)]
      exact if_pos rfl
    | false => rw [hx] at e; exact bindC_lookup hk hn.2 e
theorem RepL.zip {h : Heap} : ∀ {ns : List Str} {vs : List Value} {ps : List PV} {x : Str} {p : PV}, RepL mu h vs ps → (ns.zip ps).lookup x = some p → ∃ v, (ns.zip vs).lookup x = some v ∧ Rep mu h v p
  | [], _, _, _, _, _, e => by simp at e
  | n :: ns, _, _, x, p, .nil, e => by simp at e
  | n :: ns, _, _, x, p, .cons (v := v) (p := q) a r, e => by
    rw [List.zip_cons_cons, List.lookup_cons] at e ⊢
    cases hx : x == n with
    | true => rw [hx] at e; cases e; exact ⟨v, rfl, a⟩
    | false => rw [hx] at e; exact RepL.zip r e
theorem RepL.length {h : Heap} : ∀ {vs : List Value} {ps : List PV}, RepL mu h vs ps → vs.length = ps.length
  | _, _, .nil => rfl
  | _, _, .cons _ r => congrArg (· + 1) (RepL.length r)

/-- what is given back, as the caller sees it -/
noncomputable def RetOK (σ : St) (p r : PV) : Prop := (p.pl = true ∧ r = p) ∨ ∃ a xs, p = .la a xs ∧ a ∈ σ.ow ∧ r = .l xs
noncomputable def RetsP (r : PV) (σ : St) (res : Res) : Prop := ∃ p, res = .ret p ∧ RetOK σ p r
theorem RetsP.pl {r : PV} {σ : St} (h : r.pl = true) : RetsP r σ (.ret r) := ⟨r, rfl, .inl ⟨h, rfl⟩⟩
theorem RetsP.la {a : Addr} {xs : List PV} {σ : St} (h : a ∈ σ.ow) : RetsP (.l xs) σ (.ret (.la a xs)) := ⟨_, rfl, .inr ⟨a, xs, rfl, h, rfl⟩⟩

noncomputable abbrev fnX (C : Cx) (fd : FuncData) (a L : Addr) (s : Shared) (W : List Str) : Fx :=
  ⟨{ C with A := C.A.deeper (callEnvC fd L a), fs := L :: C.fs }, callEnvC fd L a, C.fs, s, W⟩

/-- a call with given keywords -/
structure CallK (C : Cx) (mu : List Addr) (f : Value) (kw : List (Str × Value)) (ps : List PV) (r : PV) : Prop where
  run : ∀ vs s, Inv C s → (∀ a ∈ mu, ∃ vs n, s.heap.get? a = some (lobj vs n)) → RepL mu s.heap vs ps → wpAny C.M C.A (call f vs kw) (fun v s' => Ext C.fs s s' ∧ Rep mu s'.heap v r) (fun _ _ => False) s
theorem CallK.fn {a : Addr} {o : Obj} {fd : FuncData} {body : List Stmt} {ns : List Str} {ps0 ps : List PV} {kw : List (Str × Value)} {W : List Str} {r : PV} (hG : C.g.NoLimit) (ho : C.g.get? a = some o) (hd : o.data = .func fd) (hcd : C.g.CodeRec fd.code fd.qualname)
    (hroom : C.A.depth < recursionLimit) (hlen : ns.length = ps.length)
    (run : ∀ L s, FxOK (fnX C fd a L s W) → Run (fnX C fd a L s W) ⟨mu, [], ns.zip ps⟩ body (RetsP r))
    (hb : fd.body = .stmts body) (hcl : fd.closure = []) (hgl : fd.globals = mainGlobals) (hbl : fd.builtins = builtinsNs)
    (hbind : ∀ vs s, Inv C s → RepL mu s.heap vs ps0 → ∃ ws, BindsTo s fd ⟨vs, kw⟩ (ns.zip ws) ∧ RepL mu s.heap ws ps)
    (hkind : ∀ n ∈ ns, fd.scope.names.lookup n = some .local ∨ (fd.scope.names.lookup n = some .cell ∧ ∀ L : Nat, ((cellsFrom (L + 1) fd.scope.names []).lookup n).isSome = true)) (hnd : ns.Nodup)
    (hW : ∀ n ∈ W, fd.scope.names.lookup n = some .cell ∧ ∀ L : Nat, ∃ c, L < c ∧ (cellsFrom (L + 1) fd.scope.names []).lookup n = some c)
    (hco : fd.scope.isCoroutine = false := by rfl) (hgen : fd.scope.isGenerator = false := by rfl) (hk : fd.scope.kind = .function := by rfl) :
    CallK C mu (.ref a) kw ps0 r := by
  refine ⟨?_⟩
  intro vs0 s I hm rl0
  obtain ⟨vs, hbt, rl⟩ := hbind vs0 s I rl0
  have hvl : vs.length = ns.length := rl.length.trans hlen.symm
  have hzm : (ns.zip vs).map (·.1) = ns := by rw [List.map_fst_zip]; omega
  refine wpAny_call (codeAny_call_function hroom (I.base _ _ ho) hd hco hgen hb ?_ (hbt _ _ _ _ ?_))
  · obtain ⟨c, oc, ws, t, h1, h2, h3, h4⟩ := hcd
    exact ⟨c, oc, ws, t, h1, I.base _ _ h2, h3, h4⟩
  rw [hcl]
  refine wpAny_newFunctionEnv_cells hk ?_ fun env he s1 x => ?_
  · intro e he
    have hn : e.1 ∈ ns := by rw [← hzm]; exact List.mem_map_of_mem he
    rcases hkind _ hn with h | ⟨h, h'⟩
    · exact .inl h
    · exact .inr ⟨h, h' _⟩
  subst he
  refine ⟨?_, codeAny_func ?_⟩
  · obtain ⟨mc, h1, h2⟩ := hG
    exact ⟨mc, (I.bns h1).keeps x.toInCall.keep, h2⟩
  have x : InCallC s (callEnvC fd s.heap.objs.size a).locals (bindL (callEnvC fd s.heap.objs.size a).kindOf (ns.zip vs) fun _ => none) (callEnvC fd s.heap.objs.size a).cells (bindC (callEnvC fd s.heap.objs.size a).kindOf (ns.zip vs) fun _ => none) s1 := x
  obtain ⟨⟨⟨h1, tk, rfl⟩, hns, hkeep, hfresh⟩, hcell, hap, hab⟩ := x
  generalize hL : s.heap.objs.size = L at *
  have fL : s.heap.get? L = none := hL ▸ fresh_size _
  have gL : C.g.get? L = none := by
    cases e : C.g.get? L with
    | none => rfl
    | some o => rw [I.base _ _ e] at fL; cases fL
  have x01 : Ext C.fs s { s with heap := h1, toks := tk } := Ext.of_keeps hkeep rfl rfl
  have I1 := I.ext x01
  obtain ⟨outer, hou, hfr⟩ := I1.frames
  have hLt : L ≠ tabA := fun q => by
    obtain ⟨ps, e, _⟩ := I.tab
    rw [← q, fL] at e; cases e
  have hdict : ∃ o es n, h1.get? L = some o ∧ o.data = .dict es n := ns_dict hns
  have O : FxOK (fnX C fd a L s W) := by
    refine ⟨fun b hb => ?_, fun b hb => ?_, fL, fun n hn => ?_, ?_, fun q => (hfr.mem q).2.1 rfl⟩
    · rcases List.mem_cons.mp hb with rfl | hb
      · exact .inr fL
      · exact .inl hb
    · show C.g.get? b = none
      cases e : C.g.get? b with
      | none => rfl
      | some o => have := I.base b o e; rw [hb] at this; cases this
    · obtain ⟨h1, h2⟩ := hW n hn
      obtain ⟨c, hc, hl⟩ := h2 L
      refine ⟨c, hl, fresh_ge (by show s.heap.objs.size ≤ c; rw [hL]; exact Nat.le_of_lt hc), h1, fun m hm e => hm ?_⟩
      exact cells_inj fd.scope.names (L + 1) (L + 1) [] (Nat.le_refl _) (fun y c e => by simp at e) (fun y z c e _ _ => by simp at e) _ _ _ e hl hc
    · obtain ⟨ps, e, _⟩ := I.tab
      intro q; rw [e] at q; cases q
  have A1 : At (fnX C fd a L s W) ⟨mu, [], ns.zip ps⟩ { s with heap := h1, toks := tk } := by
    refine ⟨⟨I1.base, I1.gens, I1.os, I1.tab, I1.hand, ⟨callEnvC fd L a :: outer, ?_, ⟨?_, rfl, gL, hLt, hdict, hfr⟩⟩, I1.gtab⟩, ⟨hk, hgl, hbl, ⟨_, hns, fun y q e k => ?_⟩, fun y q e k => ?_, fun n c hc => ⟨_, hcell n c hc⟩, fun b hb => ?_⟩, x01, fun b hb => nomatch hb⟩
    · show Option.map _ C.A.frames = _
      rw [hou]; rfl
    · show fd.scope.kind ≠ .module
      rw [hk]; decide
    · obtain ⟨v, h2, h3⟩ := rl.zip e
      exact ⟨v, bindL_lookup k (by rw [hzm]; exact hnd) h2, I.rep x01 h3⟩
    · obtain ⟨v, h2, h3⟩ := rl.zip e
      have hn : y ∈ ns := (List.of_mem_zip (mem_of_lookup h2)).1
      rcases hkind y hn with h | ⟨_, h'⟩
      · exact absurd h k
      · have h' := h' L
        cases hc : (cellsFrom (L + 1) fd.scope.names []).lookup y with
        | none => rw [hc] at h'; cases h'
        | some c =>
          refine ⟨c, v, hc, ?_, I.rep x01 h3⟩
          have := hcell y c hc
          rwa [bindC_lookup k (by rw [hzm]; exact hnd) h2] at this
    · obtain ⟨ws, n, e⟩ := hm b hb
      exact ⟨ws, n, I.stable x01 e (stable_lobj _ _)⟩
  refine wpAny_mono ((run L s O).at A1) (fun f s2 z => ?_) fun _ _ z => z.elim
  obtain ⟨σ2, res, hf, ⟨p, rfl, hp⟩, A2, c2⟩ := z
  obtain ⟨v, rfl, rv⟩ := hf
  refine ⟨A2.ext, ?_⟩
  rcases hp with ⟨hpl, rfl⟩ | ⟨b, xs, rfl, hb, rfl⟩
  · exact Rep.of ((rv.toI hpl).mu fun b hb => .inl (c2.old b hb))
  · obtain ⟨rfl, _, ws, n, e, rl2⟩ := rv
    refine Rep.lof e (fun m => ?_) (rl2.mu fun b hb => .inl (c2.old b hb))
    obtain ⟨ws, n, e⟩ := hm b m
    have := A2.own b hb
    have this : s.heap.get? b = none := this
    rw [e] at this; cases this
theorem CallV.fn {a : Addr} {o : Obj} {fd : FuncData} {body : List Stmt} {ns : List Str} {ps : List PV} {W : List Str} {r : PV} (hG : C.g.NoLimit) (ho : C.g.get? a = some o) (hd : o.data = .func fd) (hcd : C.g.CodeRec fd.code fd.qualname)
    (hroom : C.A.depth < recursionLimit) (hlen : ns.length = ps.length)
    (run : ∀ L s, FxOK (fnX C fd a L s W) → Run (fnX C fd a L s W) ⟨mu, [], ns.zip ps⟩ body (RetsP r))
    (hb : fd.body = .stmts body) (hcl : fd.closure = []) (hgl : fd.globals = mainGlobals) (hbl : fd.builtins = builtinsNs)
    (hbind : ∀ vs, vs.length = ns.length → bindArgs fd ⟨vs, []⟩ = pure (ns.zip vs))
    (hkind : ∀ n ∈ ns, fd.scope.names.lookup n = some .local ∨ (fd.scope.names.lookup n = some .cell ∧ ∀ L : Nat, ((cellsFrom (L + 1) fd.scope.names []).lookup n).isSome = true)) (hnd : ns.Nodup)
    (hW : ∀ n ∈ W, fd.scope.names.lookup n = some .cell ∧ ∀ L : Nat, ∃ c, L < c ∧ (cellsFrom (L + 1) fd.scope.names []).lookup n = some c)
    (hco : fd.scope.isCoroutine = false := by rfl) (hgen : fd.scope.isGenerator = false := by rfl) (hk : fd.scope.kind = .function := by rfl) :
    CallV C mu (.ref a) ps r :=
  ⟨(CallK.fn (kw := []) (ps0 := ps) hG ho hd hcd hroom hlen run hb hcl hgl hbl (fun vs s I rl => ⟨vs, BindsTo.of_eq (hbind vs (rl.length.trans hlen.symm)), rl⟩) hkind hnd hW hco hgen hk).run⟩

end
section
open  PySem.Builtin PySem.Builtin.Str
set_option linter.unusedVariables false
set_option autoImplicit false
variable {C : Cx} {env : Env} {σ : St} {mu : List Addr}

/-- room for calls -/
structure Rm (C : Cx) (n : Nat) : Prop where
  d : C.A.depth + n < recursionLimit
  u : C.A.units + 10 * n < cLine
theorem Rm.room {C : Cx} {n : Nat} (h : Rm C n) : C.A.depth < recursionLimit := Nat.lt_of_le_of_lt (Nat.le_add_right _ _) h.d
theorem Rm.le {C : Cx} {n m : Nat} (h : Rm C n) (hm : m ≤ n) : Rm C m := ⟨by have := h.d; omega, by have := h.u; omega⟩
theorem Rm.fn {C : Cx} {n : Nat} (h : Rm C (n + 1)) {fd : FuncData} {a L : Addr} {s : Shared} {W : List Str} : Rm (fnX C fd a L s W).C n :=
  ⟨by show C.A.depth + 1 + n < _; have := h.d; omega, by show C.A.units + 3 + 10 * n < _; have := h.u; omega⟩
theorem noPylong_lt {a b : Int} (hb : b.natAbs < 2 ^ 30) : divisionGoesByPylong a b = false := PyProof.noPylong_small (by simpa using hb)
theorem fits_small {k : Int} (h1 : -(2 ^ 40 : Int) ≤ k) (h2 : k < 2 ^ 40) : fitsSsize k = true := by
  unfold fitsSsize
  have a1 : ¬ k < -(2 ^ 63 : Int) := by omega
  have a2 : ¬ k ≥ 2 ^ 63 := by omega
  rw [decide_eq_false a1, decide_eq_false a2]; rfl
noncomputable def notLocal : Option NameKind → Bool
  | some .local => false
  | _ => true
theorem notLocal_ne {k : Option NameKind} (h : notLocal k = true) : k ≠ some .local := fun e => by rw [e] at h; cases h
theorem CapOK.of {scope : Scope} {cl : List (Str × Addr)} {x : Str} {p : PV} (h0 : σ.vs.lookup x = some p) (h1 : notLocal (env.kindOf x) = true) (h2 : notLocal ((relabel scope env).names.lookup x) = true)
    (h3 : ∀ L, (cellsFrom (L + 1) scope.names cl).lookup x = env.cells.lookup x) : CapOK σ env scope cl (x, p) := ⟨h0, notLocal_ne h1, notLocal_ne h2, h3⟩
theorem RepL.one {h : Heap} {vs : List Value} {p : PV} (r : RepL mu h vs [p]) : ∃ v, vs = [v] ∧ Rep mu h v p := by
  cases r with
  | cons a r => cases r with
    | nil => exact ⟨_, rfl, a⟩
theorem RepL.two {h : Heap} {vs : List Value} {p q : PV} (r : RepL mu h vs [p, q]) : ∃ v w, vs = [v, w] ∧ Rep mu h v p ∧ Rep mu h w q := by
  cases r with
  | cons a r =>
    obtain ⟨w, rfl, b⟩ := r.one
    exact ⟨_, w, rfl, a, b⟩
theorem RepL.three {h : Heap} {vs : List Value} {p q r : PV} (z : RepL mu h vs [p, q, r]) : ∃ u v w, vs = [u, v, w] ∧ Rep mu h u p ∧ Rep mu h v q ∧ Rep mu h w r := by
  cases z with
  | cons a z =>
    obtain ⟨v, w, rfl, b, c⟩ := z.two
    exact ⟨_, v, w, rfl, a, b, c⟩

theorem CallV.len_l {p : PV} {xs : List PV} (e : p.lst? = some xs) (hf : xs.length < 2 ^ 60) : CallV C mu (.builtin "len") [p] (.i xs.length) := by
  refine ⟨?_⟩
  intro vs s I hm rl
  obtain ⟨v, rfl, r⟩ := rl.one
  obtain ⟨a, ws, n, rfl, e', z⟩ := r.lst e
  have hz : (ws.toArray.size : Int) = xs.length := by rw [List.size_toArray, z.length]
  with_reducible refine call_len_list (isL_lobj e') (by rw [hz]; omega) ?_
  rw [hz]
  exact ⟨Ext.tok, Rep.i⟩
theorem CallV.len_s {x : Str} (hf : x.length < 2 ^ 60) : CallV C mu (.builtin "len") [.s x] (.i x.length) := by
  refine ⟨?_⟩
  intro vs s I hm rl
  obtain ⟨v, rfl, r⟩ := rl.one
  obtain ⟨t, rfl⟩ := r.s_inv
  with_reducible refine SBL.len (by omega) ⟨Ext.tok, Rep.i⟩
theorem CallV.range1 {n : Int} : CallV C mu (.type "range") [.i n] (.rg 0 n 1) := by
  refine ⟨?_⟩
  intro vs s I hm rl
  obtain ⟨v, rfl, r⟩ := rl.one
  obtain ⟨t, rfl⟩ := r.i_inv
  with_reducible refine call_range_1 ?_
  exact ⟨Ext.push, RepI.rg (Heap.get?_push_size _ rfl)⟩
theorem CallV.range3 {a b c : Int} (hc : c ≠ 0) (hp : divisionGoesByPylong (b - a) c = false) : CallV C mu (.type "range") [.i a, .i b, .i c] (.rg a b c) := by
  refine ⟨?_⟩
  intro vs s I hm rl
  obtain ⟨v, w, u, rfl, r1, r2, r3⟩ := rl.three
  obtain ⟨t, rfl⟩ := r1.i_inv
  obtain ⟨t, rfl⟩ := r2.i_inv
  obtain ⟨t, rfl⟩ := r3.i_inv
  with_reducible refine call_range_3 hc ?_ (.inl hp)
  exact ⟨Ext.push, RepI.rg (Heap.get?_push_size _ rfl)⟩
theorem CallV.chr {i : Int} (h0 : 0 ≤ i) (h1 : i ≤ 1114111) : CallV C mu (.builtin "chr") [.i i] (.s ⟨#[i.toNat]⟩) := by
  refine ⟨?_⟩
  intro vs s I hm rl
  obtain ⟨v, rfl, r⟩ := rl.one
  obtain ⟨t, rfl⟩ := r.i_inv
  with_reducible exact chr_of_range h0 h1 ⟨Ext.tok, Rep.s⟩
theorem RepIL.strs {h : Heap} : ∀ {ws : List Value} {ys : List Str}, RepIL mu h ws (ys.map .s) → StrsAre ws ys
  | [], [], _ => .nil
  | [], _ :: _, r => nomatch r
  | w :: ws, [], r => nomatch r
  | w :: ws, y :: ys, r => by
    rw [List.map_cons] at r
    cases r with
    | cons a r => cases a with
      | s => exact .cons _ _ (RepIL.strs r)
theorem RepIL.ints {h : Heap} : ∀ {ws : List Value} {ys : List Int}, RepIL mu h ws (ys.map .i) → IntsAre ws ys
  | [], [], _ => .nil
  | [], _ :: _, r => nomatch r
  | w :: ws, [], r => nomatch r
  | w :: ws, y :: ys, r => by
    rw [List.map_cons] at r
    cases r with
    | cons a r => cases a with
      | i => exact .cons _ _ (RepIL.ints r)
theorem CallV.join {x : Str} {p : PV} {ys : List Str} (e : p.lst? = some (ys.map .s)) (hsep : x.length ≤ 16) (hw : (ys.map (·.length)).sum + ys.length ≤ 1048576) : CallV C mu (.builtin "str.join") [.s x, p] (.s (Txt.join x ys)) := by
  refine ⟨?_⟩
  intro vs s I hm rl
  obtain ⟨v, w, rfl, r1, r2⟩ := rl.two
  obtain ⟨t, rfl⟩ := r1.s_inv
  obtain ⟨a, ws, n, rfl, e', z⟩ := r2.lst e
  with_reducible exact join_listW (isL_lobj e') z.strs hsep hw fun _ _ => ⟨Ext.tok, Rep.s⟩
theorem MethV.join {x : Str} : MethV C mu (.s x) "join" "str.join" := by
  refine ⟨?_⟩
  intro v s pl Q E I r h
  obtain ⟨t, rfl⟩ := r.s_inv
  with_reducible exact GM.join h
theorem MethV.index {x : Str} : MethV C mu (.s x) "index" "str.index" := by
  refine ⟨?_⟩
  intro v s pl Q E I r h
  obtain ⟨t, rfl⟩ := r.s_inv
  with_reducible exact GM.index h
theorem MethV.replace {x : Str} : MethV C mu (.s x) "replace" "str.replace" := by
  refine ⟨?_⟩
  intro v s pl Q E I r h
  obtain ⟨t, rfl⟩ := r.s_inv
  with_reducible exact GM.replace h
theorem gives_index_from (x y : Str) (i : Int) (t u v : Tok) (k : Nat) (rest : List Nat) (h : occurrences x y (fromIndex x.length i) x.length 1 = k :: rest) : Gives («str.index» ⟨[.str x t, .str y u, .int i v], []⟩) (.int k) := by
  show Gives (match occurrences x y (fromIndex x.length i) (min x.length x.length) 1 with | k :: _ => retInt k | [] => (do rule "str.index.not-found"; raiseError "ValueError" "substring not found")) _
  rw [Nat.min_self, h]
  exact .of_eq rfl
theorem CallV.index {x y : Str} {i : Int} {k : Nat} {rest : List Nat} (h : occurrences x y (fromIndex x.length i) x.length 1 = k :: rest) : CallV C mu (.builtin "str.index") [.s x, .s y, .i i] (.i k) := by
  refine ⟨?_⟩
  intro vs s I hm rl
  obtain ⟨v, w, u, rfl, r1, r2, r3⟩ := rl.three
  obtain ⟨t, rfl⟩ := r1.s_inv
  obtain ⟨t, rfl⟩ := r2.s_inv
  obtain ⟨t, rfl⟩ := r3.i_inv
  exact call_gives F.slot_str_index (typeIs_str _ _ _) F.entry_str_index (F.args_str_index_3 _ _ _) (gives_index_from x y i _ _ _ k rest h) (show _ ∧ _ from ⟨Ext.tok, Rep.i⟩)
theorem CallV.bytes {p : PV} {ns : List Int} (e : p.lst? = some (ns.map .i)) (hr : ∀ n ∈ ns, 0 ≤ n ∧ n < 256) (hz : ns.length ≤ sizeLine) : CallV C mu (.type "bytes") [p] (.y (byteArr ns)) := by
  refine ⟨?_⟩
  intro vs s I hm rl
  obtain ⟨v, rfl, r⟩ := rl.one
  obtain ⟨a, ws, n, rfl, e', z⟩ := r.lst e
  with_reducible refine call_bytes_ints (isL_lobj e') z.ints hr (by rw [z.length, List.length_map]; exact hz) I.hand fun h' t k hk => ⟨Ext.of_keeps hk rfl rfl, Rep.y⟩
theorem intItems_of {h : Heap} : ∀ {ws : List Value} {ys : List Int}, RepIL mu h ws (ys.map .i) → ∃ xs : List (Int × Tok), ws = xs.map (fun p => .int p.1 p.2) ∧ xs.map (·.1) = ys
  | [], [], _ => ⟨[], rfl, rfl⟩
  | [], _ :: _, r => nomatch r
  | w :: ws, [], r => nomatch r
  | w :: ws, y :: ys, r => by
    rw [List.map_cons] at r
    cases r with
    | cons a r => cases a with
      | @i _ t =>
        obtain ⟨xs, rfl, rfl⟩ := intItems_of r
        exact ⟨(y, t) :: xs, rfl, rfl⟩
theorem preSum_sum : ∀ (xs : List (Int × Tok)) (pre : List (Int × Tok)), preSum (numAt (pre ++ xs).toArray) (pre.length + xs.length) = preSum (numAt (pre ++ xs).toArray) pre.length + (xs.map (·.1)).sum
  | [], pre => by simp
  | x :: xs, pre => by
    have ih := preSum_sum xs (pre ++ [x])
    rw [List.append_assoc, List.singleton_append, List.length_append, List.length_singleton] at ih
    rw [List.length_cons, show pre.length + (xs.length + 1) = pre.length + 1 + xs.length by omega, ih]
    show preSum _ pre.length + numAt _ pre.length + _ = _
    have : numAt (pre ++ x :: xs).toArray pre.length = x.1 := by simp [numAt]
    rw [this, List.map_cons, List.sum_cons, Int.add_assoc]
theorem CallV.sum {p : PV} {ns : List Int} (e : p.lst? = some (ns.map .i)) : CallV C mu (.builtin "sum") [p] (.i ns.sum) := by
  refine ⟨?_⟩
  intro vs s I hm rl
  obtain ⟨v, rfl, r⟩ := rl.one
  obtain ⟨a, ws, n, rfl, e', z⟩ := r.lst e
  obtain ⟨xs, rfl, rfl⟩ := intItems_of z
  with_reducible refine sum_intListG (xs := xs.toArray) I.hand (by have := isL_lobj e'; simpa [intItems] using this) fun h' tk t' hk => ⟨Ext.of_keeps hk rfl rfl, ?_⟩
  have := preSum_sum xs []
  simp only [List.nil_append, List.length_nil, Nat.zero_add] at this
  rw [List.size_toArray, this]
  show Rep mu h' (.int (preSum _ 0 + _) t') _
  have e0 : preSum (numAt xs.toArray) 0 = 0 := rfl
  rw [e0, Int.zero_add]
  exact Rep.i
theorem CallV.replace {x y z : Str} {r : Str} (hr : Txt.replace x y z = r) (h : ∀ (M : Model) (A : Around) (E : Value → Shared → Prop) (s : Shared) (t u v : Tok) (Q : Value → Shared → Prop), (∀ t' k, Q (.str r t') { s with toks := k }) → ∀ w : World, wpAny (model Prg w) A (call (.builtin "str.replace") [.str x t, .str y u, .str z v]) Q E s) :
    CallV C mu (.builtin "str.replace") [.s x, .s y, .s z] (.s r) := by
  refine ⟨?_⟩
  intro vs s I hm rl
  obtain ⟨v, w, u, rfl, r1, r2, r3⟩ := rl.three
  obtain ⟨t, rfl⟩ := r1.s_inv
  obtain ⟨t, rfl⟩ := r2.s_inv
  obtain ⟨t, rfl⟩ := r3.s_inv
  exact h C.M C.A _ s _ _ _ _ (fun t' k => ⟨Ext.tok, Rep.s⟩) C.w

/-! ### a function without arguments -/
theorem Ev.callF0 {f : Expr} {pos : Pos} {a : Addr} {o : Obj} {fd : FuncData} {r : PV} (hf : Ev C env σ f (.v (.ref a))) (ho : C.g.get? a = some o) (hd : o.data = .func fd) (hc : CallV C σ.mu (.ref a) [] r)
    (he : eval (.Call f [] [] pos) env = (do callWith pos (← eval f env) [] (backTo pos (starEach [] env)) (backToKw pos (keywordEach [] env))) := by rfl) : Ev C env σ (.Call f [] [] pos) r :=
  .mk fun s I F => by
    with_reducible refine Call_ (hf.use I F fun v s1 x1 I1 F1 r1 => ?_) he
    rw [r1.v_inv]
    show wpAny C.M C.A (callWith pos (.ref a) [] [] []) _ _ _
    refine callWith_function (o := o) (fd := fd) (first := []) (args := []) (PyProof.Rows.evalArgs_none ⟨⟨I1.base _ _ ho, hd⟩, hc.use I1 F1.mu .nil fun v s3 x3 _ r3 => ⟨x1.trans x3, r3⟩⟩)

/-! ### equality of lists -/
structure EqE {α : Type} [DecidableEq α] (n : Nat) (emb : α → PV) : Prop where
  eq : ∀ {mu : List Addr} {v w : Value} {a b : α} (A : Around) (s : Shared), A.units + n < cLine → RepI mu s.heap v (emb a) → RepI mu s.heap w (emb b) → SeqAt.EqAt A s v w (decide (a = b))
  inj : ∀ {mu : List Addr} {h : Heap} {v : Value} {a b : α}, RepI mu h v (emb a) → RepI mu h v (emb b) → a = b
theorem EqE.str : EqE 0 PV.s := by
  refine ⟨fun {mu v w a b} A s _ r1 r2 => ?_, fun {mu h v a b} r1 r2 => ?_⟩
  · obtain ⟨t, rfl⟩ := Rep.s_inv (Rep.of r1)
    obtain ⟨u, rfl⟩ := Rep.s_inv (Rep.of r2)
    have := (eqGives_str a b t u).at A s
    have e : (a == b) = decide (a = b) := by
      by_cases h : a = b
      · subst h; simp
      · simp [h]
    rwa [e] at this
  · cases r1; cases r2; rfl
theorem RepIL.inj {α : Type} [DecidableEq α] {n : Nat} {emb : α → PV} (E : EqE n emb) {h : Heap} : ∀ {ws : List Value} {xs ys : List α}, RepIL mu h ws (xs.map emb) → RepIL mu h ws (ys.map emb) → xs = ys
  | [], [], [], _, _ => rfl
  | [], _ :: _, _, r, _ => nomatch r
  | [], [], _ :: _, _, r => nomatch r
  | _ :: _, [], _, r, _ => nomatch r
  | _ :: _, _ :: _, [], _, r => nomatch r
  | w :: ws, x :: xs, y :: ys, r1, r2 => by
    rw [List.map_cons] at r1 r2
    cases r1 with
    | cons a1 r1 => cases r2 with
      | cons a2 r2 => rw [E.inj a1 a2, RepIL.inj E r1 r2]
noncomputable def eqAt {α : Type} [DecidableEq α] (xs ys : List α) (j : Nat) : Bool := decide (xs[j]? = ys[j]?)
theorem eqAt_all {α : Type} [DecidableEq α] {xs ys : List α} (h : xs.length = ys.length) : (List.range xs.length).all (eqAt xs ys) = decide (xs = ys) := by
  rw [Bool.eq_iff_iff, List.all_eq_true, decide_eq_true_iff]
  constructor
  · intro z
    refine List.ext_getElem? fun j => ?_
    by_cases hj : j < xs.length
    · have := z j (List.mem_range.mpr hj)
      simpa [eqAt] using this
    · rw [List.getElem?_eq_none (by omega), List.getElem?_eq_none (by omega)]
  · rintro rfl j _
    simp [eqAt]
theorem lists_eqAt {α : Type} [DecidableEq α] {n : Nat} {emb : α → PV} (E : EqE n emb) {A : Around} {s : Shared} (hu : A.units + n < cLine) {vs ws : List Value} {xs ys : List α} (r1 : RepIL mu s.heap vs (xs.map emb)) (r2 : RepIL mu s.heap ws (ys.map emb)) :
    ∀ j (h1 : j < vs.toArray.size) (h2 : j < ws.toArray.size), SeqAt.EqAt A s vs.toArray[j] ws.toArray[j] (eqAt xs ys j) := by
  intro j h1 h2
  have e1 : vs.length = xs.length := by simpa using r1.length
  have e2 : ws.length = ys.length := by simpa using r2.length
  have k1 : j < xs.length := by rw [← e1]; simpa using h1
  have k2 : j < ys.length := by rw [← e2]; simpa using h2
  obtain ⟨v, hv, rv⟩ := r1.get (j := j) (p := emb xs[j]) (by simp [k1])
  obtain ⟨w, hw, rw'⟩ := r2.get (j := j) (p := emb ys[j]) (by simp [k2])
  have g1 : vs.toArray[j] = v := by
    rw [List.getElem?_eq_getElem (by simpa using h1)] at hv
    cases hv; simp
  have g2 : ws.toArray[j] = w := by
    rw [List.getElem?_eq_getElem (by simpa using h2)] at hw
    cases hw; simp
  have := E.eq A s hu rv rw'
  rw [g1, g2]
  have e3 : eqAt xs ys j = decide (xs[j] = ys[j]) := by simp [eqAt, k1, k2]
  rwa [e3]
theorem EqE.list {α : Type} [DecidableEq α] {n : Nat} {emb : α → PV} (E : EqE n emb) : EqE (n + 2) (fun xs : List α => PV.l (xs.map emb)) := by
  refine ⟨fun {mu v w a b} A s hu r1 r2 => ?_, fun {mu h v a b} r1 r2 => ?_⟩
  · cases r1 with
    | @l p vs k _ e1 m1 q1 => cases r2 with
      | @l q ws k2 _ e2 m2 q2 =>
        by_cases hpq : p = q
        · subst hpq
          rw [e1] at e2
          have hvw : vs = ws := by
            have := congrArg (fun o : Option Obj => match o with | some ⟨_, _, .seq xs _, _⟩ => xs.toList | _ => []) e2
            simpa [lobj] using this
          subst hvw
          have : a = b := RepIL.inj E q1 q2
          subst this
          simp only [decide_true]
          exact SeqAt.EqAt.same _
        · refine SeqAt.EqAt.of_refs hpq ?_
          have l1 : vs.length = a.length := by simpa using q1.length
          have l2 : ws.length = b.length := by simpa using q2.length
          by_cases hl : a.length = b.length
          · have := SeqAt.RcAt.lists (A := A) (s := s) (isL_lobj e1) (isL_lobj e2) (by simpa [l1, l2] using hl) (by omega) (lists_eqAt E (A := A.in1) (by show A.units + 1 + n < cLine; omega) q1 q2)
            rw [List.size_toArray, l1, eqAt_all hl] at this
            exact this
          · have := SeqAt.RcAt.lists_lengths (A := A) (s := s) (isL_lobj e1) (isL_lobj e2) (by simpa [l1, l2] using hl) (by omega)
            have hne : a ≠ b := fun q => hl (by rw [q])
            rw [decide_eq_false hne]; exact this
  · cases r1 with
    | l e1 m1 q1 => cases r2 with
      | l e2 m2 q2 =>
        rw [e1] at e2
        have hvw := congrArg (fun o : Option Obj => match o with | some ⟨_, _, .seq xs _, _⟩ => xs.toList | _ => []) e2
        simp [lobj] at hvw
        rw [hvw] at q1
        exact RepIL.inj E q1 q2
theorem CmpV.eq_l {α : Type} [DecidableEq α] {n : Nat} {emb : α → PV} (E : EqE n emb) {p q : PV} {xs ys : List α} (e1 : p.lst? = some (xs.map emb)) (e2 : q.lst? = some (ys.map emb)) (hu : C.A.units + n + 2 < cLine) : CmpV C mu .Eq p q (decide (xs = ys)) := by
  refine ⟨?_⟩
  intro v w s I r1 r2
  obtain ⟨a, vs, k, rfl, h1, q1⟩ := r1.lst e1
  obtain ⟨b, ws, k2, rfl, h2, q2⟩ := r2.lst e2
  have l1 : vs.length = xs.length := by simpa using q1.length
  have l2 : ws.length = ys.length := by simpa using q2.length
  by_cases hl : xs.length = ys.length
  · refine SeqAt.RcAt.lists (A := C.A) (s := s) (isL_lobj h1) (isL_lobj h2) (by simpa [l1, l2] using hl) (by omega) (lists_eqAt E (A := C.A.in1) (by show C.A.units + 1 + n < cLine; omega) q1 q2) Prg C.w _ _ ?_
    rw [List.size_toArray, l1, eqAt_all hl]
    exact ⟨rfl, Ext.refl _ _⟩
  · refine SeqAt.RcAt.lists_lengths (A := C.A) (s := s) (isL_lobj h1) (isL_lobj h2) (by simpa [l1, l2] using hl) (by omega) Prg C.w _ _ ?_
    have hne : xs ≠ ys := fun q => hl (by rw [q])
    rw [decide_eq_false hne]
    exact ⟨rfl, Ext.refl _ _⟩
theorem CmpV.ne_l {α : Type} [DecidableEq α] {n : Nat} {emb : α → PV} (E : EqE n emb) {p q : PV} {xs ys : List α} (e1 : p.lst? = some (xs.map emb)) (e2 : q.lst? = some (ys.map emb)) (hu : C.A.units + n + 2 < cLine) : CmpV C mu .NotEq p q (!decide (xs = ys)) := by
  refine ⟨?_⟩
  intro v w s I r1 r2
  obtain ⟨a, vs, k, rfl, h1, q1⟩ := r1.lst e1
  obtain ⟨b, ws, k2, rfl, h2, q2⟩ := r2.lst e2
  have l1 : vs.length = xs.length := by simpa using q1.length
  have l2 : ws.length = ys.length := by simpa using q2.length
  by_cases hl : xs.length = ys.length
  · refine SeqAt.RcNeAt.lists (A := C.A) (s := s) (isL_lobj h1) (isL_lobj h2) (by simpa [l1, l2] using hl) (by omega) (lists_eqAt E (A := C.A.in1) (by show C.A.units + 1 + n < cLine; omega) q1 q2) Prg C.w _ _ ?_
    rw [List.size_toArray, l1, eqAt_all hl]
    exact ⟨rfl, Ext.refl _ _⟩
  · refine SeqAt.RcNeAt.lists_lengths (A := C.A) (s := s) (isL_lobj h1) (isL_lobj h2) (by simpa [l1, l2] using hl) (by omega) Prg C.w _ _ ?_
    have hne : xs ≠ ys := fun q => hl (by rw [q])
    rw [decide_eq_false hne]
    exact ⟨rfl, Ext.refl _ _⟩

end
section
open  PySem.Builtin PySem.Builtin.Str
set_option linter.unusedVariables false
set_option autoImplicit false
variable {C : Cx} {env : Env} {σ : St} {mu : List Addr} {X : Fx} {Q : St → Res → Prop}

noncomputable def setL (σ : St) : List Str → List PV → St
  | [], _ => σ
  | _, [] => σ
  | x :: xs, p :: ps => setL (σ.set x p) xs ps
theorem RepL.keep0 {h h' : Heap} (k : KeepS [] h h') : ∀ {vs : List Value} {ps : List PV}, RepL mu h vs ps → RepL mu h' vs ps
  | _, _, .nil => .nil
  | _, _, .cons a r => .cons (a.keep0 k) (RepL.keep0 k r)
theorem assigns_wp (O : FxOK X) (f : Str → Value → Sem Unit) (hf : ∀ x v (Q : Unit → Shared → Prop) (E : Value → Shared → Prop) s, wpAny X.C.M X.C.A (storeName X.env x v) Q E s → wpAny X.C.M X.C.A (f x v) Q E s) {Q : Unit → Shared → Prop} {E : Value → Shared → Prop} :
    ∀ (ns : List Str) (vs : List Value) (ps : List PV) (σ : St) (s : Shared), (∀ n ∈ ns, X.env.kindOf n = some .local ∨ n ∈ X.W) → At X σ s → RepL σ.mu s.heap vs ps → ns.length = ps.length →
      (∀ s', At X (setL σ ns ps) s' → Carry σ s (setL σ ns ps) s' → Q () s') → wpAny X.C.M X.C.A (assignInOrder (ns.map f) vs) Q E s
  | [], vs, ps, σ, s, _, A, r, hl, k => by
    have : assignInOrder (([] : List Str).map f) vs = pure () := by cases vs <;> rfl
    rw [this]
    exact wpAny_pure (k s A .refl)
  | n :: ns, [], ps, σ, s, _, A, r, hl, k => by
    cases r with
    | nil => cases hl
  | n :: ns, v :: vs, ps, σ, s, hk, A, r, hl, k => by
    cases r with
    | @cons _ p _ ps' a r =>
      show wpAny _ _ (do holding vs (f n v); assignInOrder (ns.map f) vs) _ _ _
      refine wpAny_bind (wpAny_holding (hf _ _ _ _ _ (store_wp O (hk n List.mem_cons_self) A a fun s1 A1 c1 k1 => ?_)))
      exact assigns_wp O f hf ns vs ps' (σ.set n p) s1 (fun m hm => hk m (List.mem_cons_of_mem _ hm)) A1 (r.keep0 k1) (by simpa using hl) fun s2 A2 c2 => k s2 A2 (c1.trans c2)
theorem RepL.reverse {h : Heap} {vs : List Value} {ps : List PV} (r : RepL mu h vs ps) : RepL mu h vs.reverse ps.reverse := by
  have app : ∀ {vs ws : List Value} {ps qs : List PV}, RepL mu h vs ps → RepL mu h ws qs → RepL mu h (vs ++ ws) (ps ++ qs) := by
    intro vs ws ps qs r1 r2
    induction r1 with
    | nil => exact r2
    | cons a r ih => exact .cons a ih
  induction r with
  | nil => exact .nil
  | cons a r ih =>
    rw [List.reverse_cons, List.reverse_cons]
    exact app ih (.cons a .nil)

/-- a, b = (x, y): stored in order -/
theorem Exe.tup (O : FxOK X) {σ : St} {ts : List (Str × Pos)} {es : List Expr} {ps : List PV} {k k' : Nat} {tp vp pos : Pos} (hk : ∀ n ∈ ts.map (·.1), X.env.kindOf n = some .local ∨ n ∈ X.W) (h : EvA X.C X.env σ es ps) (hl : ts.length = ps.length) (hz : ps.length ≤ 100)
    (kk : Q (setL σ (ts.map (·.1)) ps) .next)
    (hs : swapsWithSole [.Tuple (ts.map fun n => .Name n.1 n.2) k tp] (.Tuple es k' vp) pos.line X.env = pure false)
    (hw : swappedStores [.Tuple (ts.map fun n => .Name n.1 n.2) k tp] (.Tuple es k' vp) X.env = pure none) :
    Exe X σ (.Assign [.Tuple (ts.map fun n => .Name n.1 n.2) k tp] (.Tuple es k' vp) pos) Q := by
  refine ⟨fun s A => ?_⟩
  refine Assign_Tuple (Tuple_ (h.use A.inv A.frm fun vs s1 x1 I1 F1 r1 => ?_)) hs hw
  unfold newTuple
  have hvl : vs.length = ps.length := r1.length
  refine wpAny_newObj_type (T := "tuple") ?_ (by show vs.toArray.size ≤ sizeLine; rw [List.size_toArray, hvl]; exact Nat.le_trans hz (by decide))
  have hae : ∀ ts : List (Str × Pos), assignEach (ts.map fun n => Expr.Name n.1 n.2) X.env = ts.map fun n => (false, PySem.assign (.Name n.1 n.2) X.env) := by
    intro ts
    induction ts with
    | nil => rfl
    | cons t ts ih =>
      show (false, PySem.assign (.Name t.1 t.2) X.env) :: assignEach (ts.map fun n => Expr.Name n.1 n.2) X.env = _
      rw [ih]; rfl
  refine assign_Tuple_tuple (items := vs.toArray) I1.hand ⟨_, Heap.get?_push_size _ rfl, rfl, _, rfl⟩ ?_ ?_ fun h' ext => ?_
  · rw [hae, List.length_map, List.size_toArray, hvl, hl]
  · rw [hae, List.findIdx?_eq_none_iff]
    intro e he
    obtain ⟨n, _, rfl⟩ := List.mem_map.mp he
    rfl
  · rw [hae, List.map_map]
    have x2 : Ext X.C.fs s1 { s1 with heap := h' } := Ext.of_keeps (fun b o e => ext b o (fun q => by
      have := Heap.get?_push_of_some ({ cls := .type "tuple", data := .seq vs.toArray } : Obj) e
      have lt := Heap.lt_size this
      rw [q] at lt
      exact absurd lt (Nat.lt_irrefl _)) (Heap.get?_push_of_some _ e)) rfl rfl
    have A2 := (A.ev O x1).ev O x2
    have hmm : ∀ ts : List (Str × Pos), List.map ((fun x => x.2) ∘ fun n : Str × Pos => (false, PySem.assign (.Name n.1 n.2) X.env)) ts = ts.map fun n => PySem.assign (.Name n.1 n.2) X.env := fun _ => rfl
    rw [hmm]
    have key : ∀ (ts : List (Str × Pos)) (vs : List Value) (ps : List PV) (σ : St) (s : Shared), (∀ n ∈ ts.map (·.1), X.env.kindOf n = some .local ∨ n ∈ X.W) → At X σ s → RepL σ.mu s.heap vs ps → ts.length = ps.length → ∀ Q : Unit → Shared → Prop,
        (∀ s', At X (setL σ (ts.map (·.1)) ps) s' → Carry σ s (setL σ (ts.map (·.1)) ps) s' → Q () s') → wpAny X.C.M X.C.A (assignInOrder (ts.map fun n => PySem.assign (.Name n.1 n.2) X.env) vs) Q (fun _ _ => False) s := by
      intro ts
      induction ts with
      | nil =>
        intro vs ps σ s _ A r hl Q k
        have : assignInOrder (([] : List (Str × Pos)).map fun n => PySem.assign (.Name n.1 n.2) X.env) vs = pure () := by cases vs <;> rfl
        rw [this]; exact wpAny_pure (k s A .refl)
      | cons t ts ih =>
        intro vs ps σ s hk A r hl Q k
        cases r with
        | nil => cases hl
        | @cons v p vs ps a r =>
          show wpAny _ _ (do holding vs (PySem.assign (.Name t.1 t.2) X.env v); assignInOrder (ts.map fun n => PySem.assign (.Name n.1 n.2) X.env) vs) _ _ _
          refine wpAny_bind (wpAny_holding (wpAny_assign_Name (store_wp O (hk t.1 List.mem_cons_self) A a fun s1 A1 c1 k1 => ?_)))
          exact ih vs ps _ s1 (fun m hm => hk m (List.mem_cons_of_mem _ hm)) A1 (r.keep0 k1) (by simpa using hl) _ fun s2 A2 c2 => k s2 A2 (c1.trans c2)
    refine key ts vs ps σ _ hk A2 (I1.repL x2 r1) hl _ fun s3 A3 c3 => ?_
    exact ⟨_, .next, rfl, kk, A3, ((Carry.ev A.inv x1).trans (.ev I1 x2)).trans c3⟩
/-- i, n = (x, y): stored backwards -/
theorem Exe.tupS (O : FxOK X) {σ : St} {ts : List Expr} {ns : List Str} {es : List Expr} {ps : List PV} {k k' : Nat} {tp vp pos : Pos} (hk : ∀ n ∈ ns, X.env.kindOf n = some .local ∨ n ∈ X.W) (h : EvA X.C X.env σ es ps) (hl : ns.length = ps.length) (hz : ps.length ≤ 100)
    (kk : Q (setL σ ns.reverse ps.reverse) .next)
    (hs : swapsWithSole [.Tuple ts k tp] (.Tuple es k' vp) pos.line X.env = pure false)
    (hw : swappedStores [.Tuple ts k tp] (.Tuple es k' vp) X.env = pure (some ns)) :
    Exe X σ (.Assign [.Tuple ts k tp] (.Tuple es k' vp) pos) Q := by
  refine ⟨fun s A => ?_⟩
  refine Assign_Tuple_swapped (names := ns) (Tuple_ (h.use A.inv A.frm fun vs s1 x1 I1 F1 r1 => ?_)) hs hw
  unfold newTuple
  have hvl : vs.length = ps.length := r1.length
  refine wpAny_newObj_type (T := "tuple") ?_ (by show vs.toArray.size ≤ sizeLine; rw [List.size_toArray, hvl]; exact Nat.le_trans hz (by decide))
  have hn : ns.length = vs.toArray.size := by rw [List.size_toArray, hvl, hl]
  rw [hn]
  refine unpackItems_tuple I1.hand ⟨_, Heap.get?_push_size _ rfl, rfl, _, rfl⟩ fun h' ext => ?_
  have x2 : Ext X.C.fs s1 { s1 with heap := h' } := Ext.of_keeps (fun b o e => ext b o (fun q => by
    have := Heap.get?_push_of_some ({ cls := .type "tuple", data := .seq vs.toArray } : Obj) e
    have lt := Heap.lt_size this
    rw [q] at lt
    exact absurd lt (Nat.lt_irrefl _)) (Heap.get?_push_of_some _ e)) rfl rfl
  have A2 := (A.ev O x1).ev O x2
  refine assigns_wp O (fun n v => bindName X.env n v) (fun _ _ _ _ _ h => wpAny_bindName h) ns.reverse vs.reverse ps.reverse σ _ (fun n hn => hk n (List.mem_reverse.mp hn)) A2 (I1.repL x2 r1).reverse (by simpa using hl) fun s3 A3 c3 => ?_
  exact ⟨_, .next, rfl, kk, A3, ((Carry.ev A.inv x1).trans (.ev I1 x2)).trans c3⟩
theorem RepL.ofI {h : Heap} {vs : List Value} {ps : List PV} (r : RepIL mu h vs ps) : RepL mu h vs ps := RepL.of r
/-- one, two = a list of two -/
theorem Exe.tupL2 (O : FxOK X) {σ : St} {x y : Str} {px py : Pos} {e : Expr} {p q r : PV} {k : Nat} {tp pos : Pos} (hkx : X.env.kindOf x = some .local ∨ x ∈ X.W) (hky : X.env.kindOf y = some .local ∨ y ∈ X.W)
    (h : Ev X.C X.env σ e p) (hp : p.lst? = some [q, r]) (kk : Q ((σ.set x q).set y r) .next)
    (hs : swapsWithSole [.Tuple [.Name x px, .Name y py] k tp] e pos.line X.env = pure false)
    (hw : swappedStores [.Tuple [.Name x px, .Name y py] k tp] e X.env = pure none) :
    Exe X σ (.Assign [.Tuple [.Name x px, .Name y py] k tp] e pos) Q := by
  refine ⟨fun s A => ?_⟩
  refine Assign_Tuple (h.use A.inv A.frm fun v s1 x1 I1 F1 r1 => ?_) hs hw
  obtain ⟨a, vs, n, rfl, e1, rl⟩ := r1.lst hp
  cases rl with
  | @cons v1 _ _ _ a1 rl => cases rl with
    | @cons v2 _ _ _ a2 rl =>
     cases rl
     rw [assign_Tuple]
     refine wpAny_bind (wpAny_standAt ?_)
     show wpAny _ _ (unpack (.ref a) [(false, PySem.assign (.Name x px) X.env), (false, PySem.assign (.Name y py) X.env)]) _ _ _
     unfold unpack
     show wpAny _ _ (holding _ (unpackItems (.ref a) 2 none) >>= _) _ _ _
     refine wpAny_bind (wpAny_holding (kun_itemsOf (items := [v1, v2].toArray) I1.hand (isL_lobj e1) fun h' ext => ?_))
     have x2 : Ext X.C.fs s1 { s1 with heap := h' } := Ext.of_keeps (fun b o e => ext b o (fun q => by rw [q, fresh_size] at e; cases e) e) rfl rfl
     have A2 := (A.ev O x1).ev O x2
     show wpAny _ _ (do holding [v2] (PySem.assign (.Name x px) X.env v1); assignInOrder [PySem.assign (.Name y py) X.env] [v2]) _ _ _
     refine wpAny_bind (wpAny_holding (wpAny_assign_Name (store_wp O hkx A2 (I1.rep x2 (Rep.of a1)) fun s3 A3 c3 k3 => ?_)))
     show wpAny _ _ (do holding [] (PySem.assign (.Name y py) X.env v2); assignInOrder [] []) _ _ _
     refine wpAny_bind (wpAny_holding (wpAny_assign_Name (store_wp O hky A3 ((I1.rep x2 (Rep.of a2)).keep0 k3) fun s4 A4 c4 _ => ?_)))
     exact wpAny_pure ⟨_, .next, rfl, kk, A4, (((Carry.ev A.inv x1).trans (.ev I1 x2)).trans c3).trans c4⟩

/-! ### arguments, of which some are fresh lists of the frame's own -/
structure EvAO (X : Fx) (σ : St) (es : List Expr) (K : List PV → St → Prop) : Prop where
  run : ∀ pos s, At X σ s → wpAny X.C.M X.C.A (spliced (backTo pos (starEach es X.env))) (fun vs s' => ∃ ps σ', K ps σ' ∧ At X σ' s' ∧ RepL σ'.mu s'.heap vs ps ∧ Carry σ s σ' s' ∧ Ext X.C.fs s s') (fun _ _ => False) s
theorem Rep.wider {mu mu' : List Addr} {h : Heap} (k : ∀ a ∈ mu', a ∈ mu ∨ h.get? a = none) (o : ∀ a ∈ mu, a ∈ mu') {v : Value} {p : PV} (r : Rep mu h v p) : Rep mu' h v p := by
  cases p with
  | la a xs =>
    obtain ⟨h1, h2, vs, n, h3, h4⟩ := r
    exact ⟨h1, o _ h2, vs, n, h3, h4.mu k⟩
  | _ => exact RepI.mu k r
theorem EvAO.nil {K : List PV → St → Prop} (h : K [] σ) : EvAO X σ [] K := ⟨fun pos s A => args_nil ⟨[], σ, h, A, .nil, .refl, Ext.refl _ _⟩⟩
theorem EvAO.cons (O : FxOK X) {e : Expr} {es : List Expr} {p : PV} {K : List PV → St → Prop} (h1 : Ev X.C X.env σ e p) (h2 : EvAO X σ es fun ps σ' => K (p :: ps) σ')
    (he : starEach (e :: es) X.env = (false, eval e X.env) :: starEach es X.env := by rfl) : EvAO X σ (e :: es) K := by
  refine ⟨fun pos s A => args_cons (h1.use A.inv A.frm fun v s1 x1 I1 F1 r1 => wpAny_mono (h2.run pos s1 (A.ev O x1)) (fun vs s2 z => ?_) fun _ _ z => z) he⟩
  obtain ⟨ps, σ2, hK, A2, r2, c2, x2⟩ := z
  exact ⟨p :: ps, σ2, hK, A2, .cons (I1.rep x2 (r1.wider c2.new c2.old)) r2, (Carry.ev A.inv x1).trans c2, x1.trans x2⟩
theorem EvAO.own (O : FxOK X) {e : Expr} {es : List Expr} {xs : List PV} {K : List PV → St → Prop} (h1 : EvF X.C X.env σ e xs) (h2 : ∀ a, a ∉ σ.mu → EvAO X { σ with ow := a :: σ.ow } es fun ps σ' => K (.la a xs :: ps) σ')
    (he : starEach (e :: es) X.env = (false, eval e X.env) :: starEach es X.env := by rfl) : EvAO X σ (e :: es) K := by
  refine ⟨fun pos s A => args_cons (wpAny_mono (h1.run s A.inv A.frm) (fun v s1 z => ?_) fun _ _ z => z.elim) he⟩
  obtain ⟨x1, a, vs, n, rfl, hf, ha, r⟩ := z
  obtain ⟨A1, c1⟩ := A.own1 O x1 hf ha
  refine wpAny_mono ((h2 a (fun m => by
    obtain ⟨ws, j, e'⟩ := A.frm.mu a m
    rw [hf] at e'; cases e')).run pos s1 A1) (fun vs2 s2 z => ?_) fun _ _ z => z
  obtain ⟨ps, σ2, hK, A2, r2, c2, x2⟩ := z
  have r1 : Rep (a :: σ.mu) s1.heap (.ref a) (.la a xs) := ⟨rfl, List.mem_cons_self, vs, n, ha, r⟩
  exact ⟨_, σ2, hK, A2, .cons (A1.inv.rep x2 (r1.wider c2.new c2.old)) r2, c1.trans c2, x1.trans x2⟩
theorem Exe.tupSO (O : FxOK X) {σ : St} {ts : List Expr} {ns : List Str} {es : List Expr} {k k' : Nat} {tp vp pos : Pos} (hk : ∀ n ∈ ns, X.env.kindOf n = some .local ∨ n ∈ X.W) (hz : ns.length ≤ 100)
    (h : EvAO X σ es fun ps σ' => ps.length = ns.length ∧ Q (setL σ' ns.reverse ps.reverse) .next)
    (hs : swapsWithSole [.Tuple ts k tp] (.Tuple es k' vp) pos.line X.env = pure false)
    (hw : swappedStores [.Tuple ts k tp] (.Tuple es k' vp) X.env = pure (some ns)) :
    Exe X σ (.Assign [.Tuple ts k tp] (.Tuple es k' vp) pos) Q := by
  refine ⟨fun s A => ?_⟩
  refine Assign_Tuple_swapped (names := ns) (Tuple_ (wpAny_mono (h.run _ s A) (fun vs s1 z => ?_) fun _ _ z => z)) hs hw
  obtain ⟨ps, σ1, ⟨hl, kk⟩, A1, r1, c1, x1⟩ := z
  unfold newTuple
  have hvl : vs.length = ps.length := r1.length
  refine wpAny_newObj_type (T := "tuple") ?_ (by show vs.toArray.size ≤ sizeLine; rw [List.size_toArray, hvl, hl]; exact Nat.le_trans hz (by decide))
  have hn : ns.length = vs.toArray.size := by rw [List.size_toArray, hvl, hl]
  rw [hn]
  refine unpackItems_tuple A1.inv.hand ⟨_, Heap.get?_push_size _ rfl, rfl, _, rfl⟩ fun h' ext => ?_
  have x2 : Ext X.C.fs s1 { s1 with heap := h' } := Ext.of_keeps (fun b o e => ext b o (fun q => by
    have := Heap.get?_push_of_some ({ cls := .type "tuple", data := .seq vs.toArray } : Obj) e
    have lt := Heap.lt_size this
    rw [q] at lt
    exact absurd lt (Nat.lt_irrefl _)) (Heap.get?_push_of_some _ e)) rfl rfl
  have A2 := A1.ev O x2
  refine assigns_wp O (fun n v => bindName X.env n v) (fun _ _ _ _ _ h => wpAny_bindName h) ns.reverse vs.reverse ps.reverse σ1 _ (fun n hn => hk n (List.mem_reverse.mp hn)) A2 (A1.inv.repL x2 r1).reverse (by simpa using hl.symm) fun s3 A3 c3 => ?_
  exact ⟨_, .next, rfl, kk, A3, (c1.trans (.ev A1.inv x2)).trans c3⟩
theorem Exe.tupO (O : FxOK X) {σ : St} {ts : List (Str × Pos)} {es : List Expr} {k k' : Nat} {tp vp pos : Pos} (hk : ∀ n ∈ ts.map (·.1), X.env.kindOf n = some .local ∨ n ∈ X.W) (hz : ts.length ≤ 100)
    (h : EvAO X σ es fun ps σ' => ps.length = ts.length ∧ Q (setL σ' (ts.map (·.1)) ps) .next)
    (hs : swapsWithSole [.Tuple (ts.map fun n => .Name n.1 n.2) k tp] (.Tuple es k' vp) pos.line X.env = pure false)
    (hw : swappedStores [.Tuple (ts.map fun n => .Name n.1 n.2) k tp] (.Tuple es k' vp) X.env = pure none) :
    Exe X σ (.Assign [.Tuple (ts.map fun n => .Name n.1 n.2) k tp] (.Tuple es k' vp) pos) Q := by
  refine ⟨fun s A => ?_⟩
  refine Assign_Tuple (Tuple_ (wpAny_mono (h.run _ s A) (fun vs s1 z => ?_) fun _ _ z => z)) hs hw
  obtain ⟨ps, σ1, ⟨hl, kk⟩, A1, r1, c1, x1⟩ := z
  unfold newTuple
  have hvl : vs.length = ps.length := r1.length
  refine wpAny_newObj_type (T := "tuple") ?_ (by show vs.toArray.size ≤ sizeLine; rw [List.size_toArray, hvl, hl]; exact Nat.le_trans hz (by decide))
  have hae : ∀ ts : List (Str × Pos), assignEach (ts.map fun n => Expr.Name n.1 n.2) X.env = ts.map fun n => (false, PySem.assign (.Name n.1 n.2) X.env) := by
    intro ts
    induction ts with
    | nil => rfl
    | cons t ts ih =>
      show (false, PySem.assign (.Name t.1 t.2) X.env) :: assignEach (ts.map fun n => Expr.Name n.1 n.2) X.env = _
      rw [ih]; rfl
  refine assign_Tuple_tuple (items := vs.toArray) A1.inv.hand ⟨_, Heap.get?_push_size _ rfl, rfl, _, rfl⟩ ?_ ?_ fun h' ext => ?_
  · rw [hae, List.length_map, List.size_toArray, hvl, hl]
  · rw [hae, List.findIdx?_eq_none_iff]
    intro e he
    obtain ⟨n, _, rfl⟩ := List.mem_map.mp he
    rfl
  · rw [hae, List.map_map]
    have x2 : Ext X.C.fs s1 { s1 with heap := h' } := Ext.of_keeps (fun b o e => ext b o (fun q => by
      have := Heap.get?_push_of_some ({ cls := .type "tuple", data := .seq vs.toArray } : Obj) e
      have lt := Heap.lt_size this
      rw [q] at lt
      exact absurd lt (Nat.lt_irrefl _)) (Heap.get?_push_of_some _ e)) rfl rfl
    have A2 := A1.ev O x2
    have hmm : List.map ((fun x => x.2) ∘ fun n : Str × Pos => (false, PySem.assign (.Name n.1 n.2) X.env)) ts = ts.map fun n => PySem.assign (.Name n.1 n.2) X.env := rfl
    rw [hmm]
    have key : ∀ (ts : List (Str × Pos)) (vs : List Value) (ps : List PV) (σ : St) (s : Shared), (∀ n ∈ ts.map (·.1), X.env.kindOf n = some .local ∨ n ∈ X.W) → At X σ s → RepL σ.mu s.heap vs ps → ts.length = ps.length → ∀ Q : Unit → Shared → Prop,
        (∀ s', At X (setL σ (ts.map (·.1)) ps) s' → Carry σ s (setL σ (ts.map (·.1)) ps) s' → Q () s') → wpAny X.C.M X.C.A (assignInOrder (ts.map fun n => PySem.assign (.Name n.1 n.2) X.env) vs) Q (fun _ _ => False) s := by
      intro ts
      induction ts with
      | nil =>
        intro vs ps σ s _ A r hl Q k
        have : assignInOrder (([] : List (Str × Pos)).map fun n => PySem.assign (.Name n.1 n.2) X.env) vs = pure () := by cases vs <;> rfl
        rw [this]; exact wpAny_pure (k s A .refl)
      | cons t ts ih =>
        intro vs ps σ s hk A r hl Q k
        cases r with
        | nil => cases hl
        | @cons v p vs ps a r =>
          show wpAny _ _ (do holding vs (PySem.assign (.Name t.1 t.2) X.env v); assignInOrder (ts.map fun n => PySem.assign (.Name n.1 n.2) X.env) vs) _ _ _
          refine wpAny_bind (wpAny_holding (wpAny_assign_Name (store_wp O (hk t.1 List.mem_cons_self) A a fun s1 A1 c1 k1 => ?_)))
          exact ih vs ps _ s1 (fun m hm => hk m (List.mem_cons_of_mem _ hm)) A1 (r.keep0 k1) (by simpa using hl) _ fun s2 A2 c2 => k s2 A2 (c1.trans c2)
    refine key ts vs ps σ1 _ hk A2 (A1.inv.repL x2 r1) hl.symm _ fun s3 A3 c3 => ?_
    exact ⟨_, .next, rfl, kk, A3, (c1.trans (.ev A1.inv x2)).trans c3⟩

end
section
open  PySem.Builtin PySem.Builtin.Str
set_option linter.unusedVariables false
set_option autoImplicit false
variable {C : Cx} {env : Env} {σ : St} {mu : List Addr} {X : Fx} {Q : St → Res → Prop}

/-- the state, some of its names forgotten -/
structure Can (σ σ' : St) : Prop where
  m0 : σ'.m0 = σ.m0
  ow : σ'.ow = σ.ow
  lookup : ∀ {x p}, σ'.vs.lookup x = some p → σ.vs.lookup x = some p
theorem Can.refl {σ : St} : Can σ σ := ⟨rfl, rfl, fun e => e⟩
theorem Can.of {σ : St} {m0 ow : List Addr} {l : List (Str × PV)} (h0 : m0 = σ.m0) (h1 : ow = σ.ow) (h : ∀ e ∈ l, σ.vs.lookup e.1 = some e.2) : Can σ ⟨m0, ow, l⟩ := ⟨h0, h1, fun e => h _ (mem_of_lookup e)⟩
theorem Can.mus {σ σ' : St} (h : Can σ σ') : σ'.mu = σ.mu := by simp only [St.mu, h.m0, h.ow]
theorem Can.at {σ σ' : St} (h : Can σ σ') {s : Shared} (A : At X σ s) : At X σ' s := A.drop h.m0 h.ow fun _ _ e => h.lookup e
theorem Can.frm {σ σ' : St} (h : Can σ σ') {s : Shared} (F : Frm env σ s) : Frm env σ' s := by
  obtain ⟨m, hn, hold⟩ := F.ns
  refine ⟨F.kind, F.glob, F.blt, ⟨m, hn, fun x p e k => ?_⟩, fun x p e k => ?_, F.co, by rw [h.mus]; exact F.mu⟩
  · rw [h.mus]; exact hold x p (h.lookup e) k
  · rw [h.mus]; exact F.cv x p (h.lookup e) k
theorem Can.carry {σ σ' σ'' : St} (h : Can σ σ') {s s' : Shared} (c : Carry σ' s σ'' s') : Carry σ s σ'' s' := by
  have e := h.mus
  refine ⟨?_, c.grow, ?_, ?_, c.m0.trans h.m0⟩
  · rw [← e]; exact c.keep
  · rw [← e]; exact c.new
  · rw [← e]; exact c.old
theorem Tst.can {σ σ' : St} (h : Can σ σ') {t : Expr} {b : Bool} (k : Tst C env σ' t b) : Tst C env σ t b := ⟨fun s I F => k.run s I (h.frm F)⟩
theorem Run.can {σ σ' : St} (h : Can σ σ') {b : List Stmt} (k : Run X σ' b Q) : Run X σ b Q := ⟨fun s A => wpAny_mono (k.run s (h.at A)) (fun f s' z => by
  obtain ⟨σ2, r, h1, h2, h3, h4⟩ := z
  exact ⟨σ2, r, h1, h2, h3, h.carry h4⟩) fun _ _ z => z⟩
theorem Exe.can {σ σ' : St} (h : Can σ σ') {b : Stmt} (k : Exe X σ' b Q) : Exe X σ b Q := ⟨fun s A => wpAny_mono (k.run s (h.at A)) (fun f s' z => by
  obtain ⟨σ2, r, h1, h2, h3, h4⟩ := z
  exact ⟨σ2, r, h1, h2, h3, h.carry h4⟩) fun _ _ z => z⟩
theorem Run.while (O : FxOK X) {σ : St} {t : Expr} {body rest : List Stmt} {pos : Pos} (I : Nat → St → Prop)
    (turn : ∀ n σ', I n σ' → ∃ b, Tst X.C X.env σ' t b ∧ (b = false → Run X σ' rest Q) ∧ (b = true → Run X σ' body (Turn (fun σ'' => ∃ m σ3, m < n ∧ Can σ'' σ3 ∧ I m σ3) Q)))
    (n : Nat) (σ1 : St) (hc : Can σ σ1) (h : I n σ1) : Run X σ (.While t body [] pos :: rest) Q := by
  refine Run.can hc (Run.cons (Exe.while O (fun n σ => ∃ σ1, Can σ σ1 ∧ I n σ1) (fun n σ' hI => ?_) n ⟨σ1, Can.refl, h⟩))
  obtain ⟨σ2, c2, h2⟩ := hI
  obtain ⟨b, h3, h4, h5⟩ := turn n σ2 h2
  refine ⟨b, h3.can c2, fun e => (h4 e).can c2, fun e => Run.can c2 ((h5 e).mono fun σ r q => ?_)⟩
  cases r with
  | next =>
    obtain ⟨m, σ3, hm, c3, h6⟩ := q
    exact ⟨m, hm, σ3, c3, h6⟩
  | ret p => exact q
theorem Run.for (O : FxOK X) {σ : St} {x : Str} {px pos : Pos} {iter : Expr} {body rest : List Stmt} {p : PV} {ps : List PV} (hk : X.env.kindOf x = some .local ∨ x ∈ X.W)
    (h1 : Ev X.C X.env σ iter p) (hit : Itb X.C σ.mu p ps) (hpl : p.pl = true) (J : Nat → St → Prop) (σ1 : St) (hc : Can σ σ1) (h0 : J 0 σ1)
    (turn : ∀ k q σ', ps[k]? = some q → J k σ' → Run X (σ'.set x q) body (Turn (fun σ2 => ∃ σ3, Can σ2 σ3 ∧ J (k + 1) σ3) Q)) (hend : ∀ σ', J ps.length σ' → Run X σ' rest Q)
    (hs : ∀ v, foldedSetIterable iter X.env v = pure v := by intro _; rfl) : Run X σ (.For (.Name x px) iter body [] pos :: rest) Q := by
  refine Run.cons (Exe.for O hk h1 hit hpl (fun k σ => ∃ σ1, Can σ σ1 ∧ J k σ1) ⟨σ1, hc, h0⟩ (fun k q σ' e hJ => ?_) (fun σ' hJ => ?_) hs)
  · obtain ⟨σ2, c2, h2⟩ := hJ
    have c3 : Can (σ'.set x q) (σ2.set x q) := ⟨c2.m0, c2.ow, fun {y r} e => by
      rw [St.lookup_set] at e ⊢
      by_cases h : y = x
      · rw [if_pos h] at e ⊢; exact e
      · rw [if_neg h] at e ⊢; exact c2.lookup e⟩
    exact Run.can c3 ((turn k q σ2 e h2).mono fun σ r z => by
      cases r with
      | next => exact z
      | ret p => exact z)
  · obtain ⟨σ2, c2, h2⟩ := hJ
    exact (hend σ2 h2).can c2
/-- straight on after an if -/
theorem Run.ite (O : FxOK X) {σ : St} {t : Expr} {b : Bool} {body orelse rest : List Stmt} {pos : Pos} (h : Tst X.C X.env σ t b) (h1 : b = true → Run X σ body (Then X rest Q)) (h2 : b = false → Run X σ orelse (Then X rest Q)) :
    Run X σ (.If t body orelse pos :: rest) Q := Run.cons (Exe.ite O h h1 h2)
theorem Tst.is {t : Expr} {b b' : Bool} (h : Tst C env σ t b) (e : b = b') : Tst C env σ t b' := e ▸ h
theorem Ev.is {e : Expr} {p q : PV} (h : Ev C env σ e p) (h' : p = q) : Ev C env σ e q := h' ▸ h
theorem Ev.neg {e : Expr} {pos : Pos} {n : Int} (h : Ev C env σ e (.i n)) : Ev C env σ (.UnaryOp .USub e pos) (.i (-n)) := Ev.mk fun s I F =>
  wpAny_UnaryOp (h.use I F fun v s1 x1 I1 F1 r1 => by
    obtain ⟨t, rfl⟩ := r1.i_inv
    exact PyProof.Rows.neg_int ⟨x1.trans Ext.tok, Rep.i⟩)

end
section
open  PySem.Builtin PySem.Builtin.Str
set_option linter.unusedVariables false
set_option autoImplicit false
variable {C : Cx} {env : Env} {σ : St} {mu : List Addr}
theorem fm_range {α : Type} (xs : List α) : ∀ n : Nat, (List.range n).filterMap (fun k => xs[k]?) = xs.take n
  | 0 => by simp
  | n + 1 => by
    rw [List.range_succ, List.filterMap_append, fm_range xs n, List.take_add_one]
    cases h : xs[n]? <;> simp [h]
theorem pick_eq {xs : List PV} {lo hi : Option Int} {a b : Nat} (h1 : (sliceBounds lo hi none xs.length).1 = (a : Int)) (h2 : (sliceBounds lo hi none xs.length).2.1 = (b : Int)) : pick xs lo hi none = (xs.drop a).take (b - a) := by
  unfold pick
  rw [h1, h2]
  show (sliceRange (a : Int) (b : Int) 1).filterMap (xs[·]?) = _
  have hc : (sliceRange (a : Int) (b : Int) 1) = (List.range (b - a)).map fun k => a + k := by
    unfold sliceRange
    rw [if_pos (by decide)]
    have : (if (a : Int) < b then ((b : Int) - a + 1 - 1) / 1 else 0).toNat = b - a := by
      by_cases h : (a : Int) < b
      · rw [if_pos h, Int.ediv_one]; omega
      · rw [if_neg h]; omega
    dsimp only
    rw [this]
    refine List.map_congr_left fun k _ => ?_
    omega
  rw [hc, List.filterMap_map]
  have : (fun k => xs[a + k]?) = fun k => (xs.drop a)[k]? := by
    funext k; rw [List.getElem?_drop]
  show (List.range (b - a)).filterMap (fun k => xs[a + k]?) = _
  rw [this, fm_range]
theorem pick_to {xs : List PV} {k : Nat} : pick xs none (some (k : Int)) none = xs.take k := by
  rw [pick_eq (a := 0) (b := min k xs.length) (by simp [sliceBounds]) (by simp [sliceBounds]; omega)]
  rw [List.drop_zero, Nat.sub_zero]
  by_cases h : k ≤ xs.length
  · rw [Nat.min_eq_left h]
  · rw [Nat.min_eq_right (by omega), List.take_of_length_le (by omega), List.take_of_length_le (by omega)]
theorem pick_from {xs : List PV} {k : Nat} : pick xs (some (k : Int)) none none = xs.drop k := by
  rw [pick_eq (a := min k xs.length) (b := xs.length) (by simp [sliceBounds]; omega) (by simp [sliceBounds])]
  rw [List.take_of_length_le (by rw [List.length_drop]; omega)]
  by_cases h : k ≤ xs.length
  · rw [Nat.min_eq_left h]
  · rw [Nat.min_eq_right (by omega), List.drop_of_length_le (by omega), List.drop_of_length_le (by omega)]
theorem pick_toN {xs : List PV} {k : Nat} (h0 : 0 < k) (h : k ≤ xs.length) : pick xs none (some (-(k : Int))) none = xs.take (xs.length - k) := by
  rw [pick_eq (a := 0) (b := xs.length - k) (by simp [sliceBounds]) (by simp [sliceBounds]; omega)]
  rw [List.drop_zero, Nat.sub_zero]
theorem pick_fromN {xs : List PV} {k : Nat} (h0 : 0 < k) (h : k ≤ xs.length) : pick xs (some (-(k : Int))) none none = xs.drop (xs.length - k) := by
  rw [pick_eq (a := xs.length - k) (b := xs.length) (by simp [sliceBounds]; omega) (by simp [sliceBounds])]
  rw [List.take_of_length_le (by rw [List.length_drop]; omega)]
theorem pick_mem {xs : List PV} {lo hi st : Option Int} : ∀ p ∈ pick xs lo hi st, p ∈ xs := by
  intro p hp
  unfold pick at hp
  obtain ⟨k, _, h⟩ := List.mem_filterMap.mp hp
  exact List.mem_of_getElem? h
theorem mem_map_emb {α : Type} {emb : α → PV} {xs : List α} : ∀ {ps : List PV}, (∀ p ∈ ps, p ∈ xs.map emb) → ∃ ys : List α, ps = ys.map emb ∧ ∀ y ∈ ys, y ∈ xs
  | [], _ => ⟨[], rfl, fun _ h => nomatch h⟩
  | p :: ps, h => by
    obtain ⟨y, hy, rfl⟩ := List.mem_map.mp (h p List.mem_cons_self)
    obtain ⟨ys, rfl, h2⟩ := mem_map_emb (ps := ps) fun q hq => h q (List.mem_cons_of_mem _ hq)
    exact ⟨y :: ys, rfl, fun z hz => by
      rcases List.mem_cons.mp hz with rfl | hz
      · exact hy
      · exact h2 z hz⟩
/-- a range from nought -/
theorem Itb.range1 {n : Nat} (hn : n ≤ 100000) : Itb C mu (.rg 0 n 1) ((List.range n).map fun (i : Nat) => .i i) := by
  have e : rgL 0 1 n = (List.range n).map fun (i : Nat) => PV.i i := by
    unfold rgL
    refine List.map_congr_left fun i _ => ?_
    rw [Int.zero_add, Int.mul_one]
  rw [← e]
  refine Itb.range ?_ ?_
  · unfold Builtin.Range.small Builtin.Range.rangeSize
    have f : ∀ k : Int, 0 ≤ k → k ≤ 100000 → Range.rangeFitsLong k = true := by
      intro k h0 h1
      unfold Range.rangeFitsLong
      simp
      omega
    simp
    refine ⟨⟨⟨⟨f 0 (by omega) (by omega), f n (by omega) (by omega)⟩, f 1 (by omega) (by omega)⟩, ?_⟩, Or.inr (f n (by omega) (by omega))⟩
    split
    · exact f n (by omega) (by omega)
    · exact f 0 (by omega) (by omega)
  · unfold Builtin.Range.rangeSize
    rw [if_pos (by decide)]
    by_cases h : (0 : Int) < n
    · rw [if_pos h, Int.ediv_one]; omega
    · rw [if_neg h]; omega
theorem CmpV.notin_l {p : PV} {x : Str} {ys : List Str} (e : p.lst? = some (ys.map .s)) : CmpV C mu .NotIn (.s x) p (!decide (x ∈ ys)) := by
  refine ⟨?_⟩
  intro v w s I r1 r2
  obtain ⟨t, rfl⟩ := r1.s_inv
  obtain ⟨a, ws, n, rfl, e', z⟩ := r2.lst e
  refine notin_list_strs (isL_lobj e') z.strs ⟨?_, Ext.refl _ _⟩
  congr 2
  rw [Bool.eq_iff_iff, List.any_eq_true, decide_eq_true_iff]
  constructor
  · rintro ⟨y, hy, e⟩
    rw [beq_iff_eq] at e
    exact e ▸ hy
  · intro h
    exact ⟨x, h, by simp⟩

end
section
open  PySem.Builtin PySem.Builtin.Str
set_option linter.unusedVariables false
set_option autoImplicit false
variable {C : Cx} {env : Env} {σ : St} {mu : List Addr} {X : Fx} {Q : St → Res → Prop}
structure NotV (h : Heap) (I : Addr) : Prop where
  l : ∀ vs n, h.get? I ≠ some (lobj vs n)
  r : ∀ a b c t u v, ¬ IsRange h I a b c t u v
  f : ∀ o, h.get? I = some o → ¬ Fix o
mutual
theorem RepI.but3 {h h' : Heap} {I : Addr} (k : ∀ b o, b ≠ I → h.get? b = some o → h'.get? b = some o) (hI : NotV h I) : ∀ {v : Value} {p : PV}, RepI mu h v p → RepI mu h' v p
  | _, _, .i => .i
  | _, _, .b => .b
  | _, _, .s => .s
  | _, _, .y => .y
  | _, _, .v => .v
  | _, _, .rg e => .rg (k _ _ (fun q => hI.r _ _ _ _ _ _ (q ▸ e)) e)
  | _, _, .ob e f => .ob (k _ _ (fun q => hI.f _ (q ▸ e) f) e) f
  | _, _, .l e m r => .l (k _ _ (fun q => hI.l _ _ (q ▸ e)) e) m (RepIL.but3 k hI r)
theorem RepIL.but3 {h h' : Heap} {I : Addr} (k : ∀ b o, b ≠ I → h.get? b = some o → h'.get? b = some o) (hI : NotV h I) : ∀ {vs : List Value} {ps : List PV}, RepIL mu h vs ps → RepIL mu h' vs ps
  | _, _, .nil => .nil
  | _, _, .cons a r => .cons (RepI.but3 k hI a) (RepIL.but3 k hI r)
end
theorem Rep.but3 {h h' : Heap} {I : Addr} (k : ∀ b o, b ≠ I → h.get? b = some o → h'.get? b = some o) (hI : NotV h I) {v : Value} {p : PV} (r : Rep mu h v p) : Rep mu h' v p := by
  cases p with
  | la a xs =>
    obtain ⟨h1, h2, vs, n, h3, h4⟩ := r
    exact ⟨h1, h2, vs, n, k _ _ (fun q => hI.l _ _ (q ▸ h3)) h3, h4.but3 k hI⟩
  | _ => exact RepI.but3 k hI r
theorem At.but3 (O : FxOK X) {σ : St} {s : Shared} (A : At X σ s) {I : Addr} {h' : Heap} (hf : X.s0.heap.get? I = none) (k : ∀ b o, b ≠ I → s.heap.get? b = some o → h'.get? b = some o) (hI : NotV s.heap I)
    (hL : I ≠ X.env.locals) (hc : ∀ v, ¬ s.heap.IsCell I v) (hfs : I ∉ X.C.fs) : At X σ { s with heap := h' } := by
  have kb : ∀ b o, X.s0.heap.get? b = some o → b ≠ I := fun b o e q => by rw [q, hf] at e; cases e
  have F := A.frm
  obtain ⟨m, hm, hold⟩ := F.ns
  have cellk : ∀ c v, s.heap.IsCell c v → h'.IsCell c v := fun c v ⟨o, e, d⟩ => ⟨o, k _ _ (fun q => hc v (q ▸ ⟨o, e, d⟩)) e, d⟩
  have hm' : h'.Ns X.env.locals m := by
    obtain ⟨o, es, n, e, d, z⟩ := hm
    exact ⟨o, es, n, k _ _ (fun q => hL q.symm) e, d, z⟩
  obtain ⟨outer, ho, hfr⟩ := A.inv.frames
  refine ⟨⟨fun b o e => k b o (fun q => ?_) (A.inv.base b o e), A.inv.gens, A.inv.os, ?_, A.inv.hand, ⟨outer, ho, hfr.ext fun b hb o es n e d => ?_⟩, A.inv.gtab⟩,
    ⟨F.kind, F.glob, F.blt, ⟨m, hm', fun y q e kk => ?_⟩, fun y q e kk => ?_, fun n c hc => ?_, fun a ha => ?_⟩, ⟨fun b o e q t => ?_, fun b o e q => ?_, A.ext.gens, A.ext.os, fun ps e tr => ?_⟩, A.own⟩
  · have := O.base I hf
    rw [q, this] at e; cases e
  · obtain ⟨ps, e, tr⟩ := A.inv.tab
    exact ⟨ps, k _ _ (fun q => O.tab (q ▸ hf)) e, tr⟩
  · exact ⟨o, es, n, k _ _ (fun q => hfs (q ▸ hb)) e, d⟩
  · obtain ⟨v, h1, h2⟩ := hold y q e kk
    exact ⟨v, h1, h2.but3 k hI⟩
  · obtain ⟨c, v, h1, h2, h3⟩ := F.cv y q e kk
    exact ⟨c, v, h1, cellk _ _ h2, h3.but3 k hI⟩
  · obtain ⟨v, h⟩ := F.co n c hc
    exact ⟨v, cellk _ _ h⟩
  · obtain ⟨vs, n, e⟩ := F.mu a ha
    exact ⟨vs, n, k _ _ (fun q => hI.l _ _ (q ▸ e)) e⟩
  · exact k b _ (kb b o e) (A.ext.keep b o e q t)
  · obtain ⟨sl, e'⟩ := A.ext.slot b o e q
    exact ⟨sl, k b _ (kb b o e) e'⟩
  · obtain ⟨m, e', t'⟩ := A.ext.tab ps e tr
    exact ⟨m, k _ _ (kb _ _ e) e', t'⟩
theorem store_wpB (O : FxOK X) {σ : St} {x : Str} {p : PV} (hk : X.env.kindOf x = some .local ∨ x ∈ X.W) {s : Shared} (A : At X σ s) {v : Value} (r : Rep σ.mu s.heap v p) {Q : Unit → Shared → Prop} {E : Value → Shared → Prop}
    (k : ∀ s', At X (σ.set x p) s' → Carry σ s (σ.set x p) s' → (∃ a, Heap.SameBut a s.heap s'.heap ∧ (a = X.env.locals ∨ ∃ v, s.heap.IsCell a v)) → Q () s') : wpAny X.C.M X.C.A (storeName X.env x v) Q E s := by
  rcases hk with hk | hw
  · obtain ⟨m, hm, hold⟩ := A.frm.ns
    have hp : (X.env.scope.kind == ScopeKind.class || X.env.scope.kind == ScopeKind.module && X.env.locals != X.env.globals) = false := by rw [A.frm.kind]; rfl
    with_reducible refine wpAny_storeName_local hk hm (fun h' hn sb => ?_) hp
    obtain ⟨h1, h2, h3⟩ := A.local O r hk hm hold hn sb
    exact k _ h1 h2 ⟨_, sb, .inl rfl⟩
  · obtain ⟨c, hc, hf, hkc, ap⟩ := O.cel x hw
    obtain ⟨v₀, hv⟩ := A.frm.co x c hc
    with_reducible refine wpAny_storeName_cell A.frm.kind hkc hc hv fun h' hn sb => ?_
    obtain ⟨h1, h2, h3⟩ := A.cell O r hw hc hn ⟨_, hv⟩ sb
    exact k _ h1 h2 ⟨_, sb, .inr ⟨_, hv⟩⟩
/-- x = [a comprehension], to a local name on the same line -/
theorem Exe.assignComp (O : FxOK X) {σ : St} {cl : List (Str × Addr)} {W : List Str} {x y : Str} {cap : List (Str × PV)} {px pos pos' pos2 : Pos} {iter elt : Expr} {ifs : List Expr} {scope : Scope} {p : PV} (zs : List (PV × Option PV))
    (hk : X.env.kindOf y = some .local ∨ y ∈ X.W) (K : CompOK σ X.env scope cl W x cap) (h1 : Ev X.C X.env σ iter p) (hit : Itb X.C σ.mu p (zs.map (·.1))) (hn : zs.length ≤ sizeLine)
    (hel : ∀ z ∈ zs, ∀ D L, CompItem X.C (cenvOf X.env scope cl L) σ.mu D cap x ifs elt z.1 z.2) (k : Q (σ.set y (.l (zs.filterMap (·.2)))) .next)
    (hs : swapsWith (.ListComp elt [⟨.Name x px, iter, ifs, 0⟩] scope pos) (some (.Name y pos')) pos2.line X.env = pure true) (hf : ∀ v, foldedSetIterable iter X.env v = pure v := by intro _; rfl) :
    Exe X σ (.Assign [.Name y pos'] (.ListComp elt [⟨.Name x px, iter, ifs, 0⟩] scope pos) pos2) Q := by
  refine ⟨fun s A => ?_⟩
  rw [exec_Assign_Name_used _ _ _ _ hs, arm_evalThenUse_ListComp]
  refine wpAny_bind (wpAny_standAt (wpAny_bind (wpAny_bind ?_)))
  refine comp_wp (use := some (PySem.assign (.Name y pos') X.env)) K h1 hit hn A.inv A.frm hel (fun D Lc s' e => ?_) hf
  have A1 := A.ev O e.ext
  obtain ⟨m, hm⟩ := e.ns
  obtain ⟨o, es, n, eo, ed⟩ := ns_dict hm
  have hDmu : D ∉ σ.mu := fun q => by
    obtain ⟨vs, j, z⟩ := A.frm.mu _ q
    rw [e.fD] at z; cases z
  obtain ⟨ws, n2, hD, hrl⟩ := e.lst
  have rv : Rep σ.mu s'.heap (.ref D) (.l (zs.filterMap (·.2))) := Rep.lof hD hDmu (hrl.mu fun a m => .inl (List.mem_cons_of_mem _ m))
  have hLl : Lc ≠ X.env.locals := fun q => by
    obtain ⟨m0, h0, _⟩ := A.frm.ns
    obtain ⟨o', _, _, e', _⟩ := ns_dict h0
    rw [← q, e.fL] at e'; cases e'
  refine wpAny_assign_Name (store_wpB O hk A1 rv fun s2 A2 c2 hsb => ?_)
  obtain ⟨a, sb, ha⟩ := hsb
  have hLa : Lc ≠ a := by
    rcases ha with rfl | ⟨v, ov, e', d'⟩
    · exact hLl
    · intro q
      rw [← q, eo] at e'; cases e'
      rw [ed] at d'; cases d'
  have eo2 : s2.heap.get? Lc = some o := sb.extBut _ _ hLa eo
  refine ⟨m, ?_, fun h' sb' => ?_⟩
  · obtain ⟨o', es', n', e', d', z⟩ := hm
    exact ⟨o', es', n', sb.extBut _ _ hLa e', d', z⟩
  have A3 := A2.but3 O (h' := h') (A.back O e.fL) (fun b o hb e => sb'.extBut b o hb e) ⟨fun vs n q => (by rw [eo2] at q; cases q; cases ed), fun a b c t u v q => (by
      have q : s2.heap.get? Lc = _ := q
      rw [eo2] at q; cases q; cases ed), fun o' q f => (by rw [eo2] at q; cases q; exact not_stable_dict ed f.1)⟩ hLl (fun v q => by
      obtain ⟨o', e', d'⟩ := q
      rw [eo2] at e'; cases e'; rw [ed] at d'; cases d') (fun q => by
      obtain ⟨outer, ho, hfr⟩ := A.inv.frames
      obtain ⟨_, _, o', _, _, e', _⟩ := hfr.mem q
      rw [e.fL] at e'; cases e')
  refine wpAny_pure (wpAny_pure ⟨_, .next, rfl, k, A3, ?_⟩)
  have c12 := (Carry.ev A.inv e.ext).trans c2
  exact c12.but (t := s2.toks) e.fL ⟨o, eo2⟩ fun b o hb e => sb'.extBut b o hb e
theorem EvF.is {e : Expr} {xs ys : List PV} (h : EvF C env σ e xs) (h' : xs = ys) : EvF C env σ e ys := h' ▸ h
theorem CmpV.is_la {p : PV} {xs : List PV} {a : Addr} {ys : List PV} (e : p.lst? = some xs) (hp : p.pl = true) : CmpV C mu .Is p (.la a ys) false := by
  refine ⟨?_⟩
  intro v w s I r1 r2
  obtain ⟨rfl, hm, vs2, n2, e2, _⟩ := r2
  obtain ⟨b, vs, n, rfl, e1, _⟩ := r1.lst e
  have hne : b ≠ a := by
    rintro rfl
    cases p with
    | l ys =>
      cases r1 with
      | l _ m _ => exact m hm
    | la c ys => cases hp
    | _ => cases e
  have hnt : (lobj vs n).cls ≠ Value.type "tuple" := fun q => by injection q with q; exact absurd q (by decide)
  with_reducible exact wpAny_is_ref_other hne e1 e2 hnt ⟨rfl, Ext.refl _ _⟩
theorem CmpV.ne_nil {p q : PV} {xs : List PV} (e1 : p.lst? = some xs) (e2 : q.lst? = some []) (hu : C.A.units < cLine) : CmpV C mu .NotEq p q (!decide (xs.length = 0)) := by
  refine ⟨?_⟩
  intro v w s I r1 r2
  obtain ⟨a, vs, k, rfl, h1, q1⟩ := r1.lst e1
  obtain ⟨b, ws, k2, rfl, h2, q2⟩ := r2.lst e2
  have l1 : vs.length = xs.length := q1.length
  have l2 : ws.length = 0 := q2.length
  by_cases hl : xs.length = 0
  · refine SeqAt.RcNeAt.lists (A := C.A) (s := s) (e := fun _ => true) (isL_lobj h1) (isL_lobj h2) (by simp [l1, l2, hl]) hu (fun j h1 h2 => absurd h1 (by simp [l1, hl])) Prg C.w _ _ ?_
    rw [decide_eq_true hl]
    exact ⟨by rw [List.size_toArray, l1, hl]; rfl, Ext.refl _ _⟩
  · refine SeqAt.RcNeAt.lists_lengths (A := C.A) (s := s) (isL_lobj h1) (isL_lobj h2) (by rw [bne_iff_ne, List.size_toArray, List.size_toArray, l1, l2]; exact hl) hu Prg C.w _ _ ?_
    rw [decide_eq_false hl]
    exact ⟨rfl, Ext.refl _ _⟩
theorem CmpV.in_li {p : PV} {x : Int} {ys : List Int} (e : p.lst? = some (ys.map .i)) : CmpV C mu .In (.i x) p (decide (x ∈ ys)) := by
  refine ⟨?_⟩
  intro v w s I r1 r2
  obtain ⟨t, rfl⟩ := r1.i_inv
  obtain ⟨a, ws, n, rfl, e', z⟩ := r2.lst e
  with_reducible refine in_list_ints (isL_lobj e') z.ints ?_
  refine ⟨?_, Ext.refl _ _⟩
  congr 1
  rw [Bool.eq_iff_iff, List.any_eq_true, decide_eq_true_iff]
  constructor
  · rintro ⟨y, hy, e⟩
    rw [beq_iff_eq] at e
    exact e ▸ hy
  · intro h
    exact ⟨x, h, by simp⟩
noncomputable def pickA {α : Type} (xs : List α) (lo hi st : Option Int) : List α :=
  (sliceRange (sliceBounds lo hi st xs.length).1 (sliceBounds lo hi st xs.length).2.1 (sliceBounds lo hi st xs.length).2.2).filterMap (xs[·]?)
theorem pick_map {α : Type} (emb : α → PV) (xs : List α) (lo hi st : Option Int) : pick (xs.map emb) lo hi st = (pickA xs lo hi st).map emb := by
  unfold pick pickA
  rw [List.length_map, List.map_filterMap]
  congr 1
  funext k
  rw [List.getElem?_map]

end
section
open  PySem.Builtin PySem.Builtin.Str
set_option linter.unusedVariables false
set_option autoImplicit false
variable {C : Cx} {env : Env} {σ : St} {mu : List Addr}
theorem CmpV.eq_nil {p q : PV} {xs : List PV} (e1 : p.lst? = some xs) (e2 : q.lst? = some []) (hu : C.A.units < cLine) : CmpV C mu .Eq p q (decide (xs.length = 0)) := by
  refine ⟨?_⟩
  intro v w s I r1 r2
  obtain ⟨a, vs, k, rfl, h1, q1⟩ := r1.lst e1
  obtain ⟨b, ws, k2, rfl, h2, q2⟩ := r2.lst e2
  have l1 : vs.length = xs.length := q1.length
  have l2 : ws.length = 0 := q2.length
  by_cases hl : xs.length = 0
  · refine SeqAt.RcAt.lists (A := C.A) (s := s) (e := fun _ => true) (isL_lobj h1) (isL_lobj h2) (by simp [l1, l2, hl]) hu (fun j h1 h2 => absurd h1 (by simp [l1, hl])) Prg C.w _ _ ?_
    rw [decide_eq_true hl]
    exact ⟨by rw [List.size_toArray, l1, hl]; rfl, Ext.refl _ _⟩
  · refine SeqAt.RcAt.lists_lengths (A := C.A) (s := s) (isL_lobj h1) (isL_lobj h2) (by rw [bne_iff_ne, List.size_toArray, List.size_toArray, l1, l2]; exact hl) hu Prg C.w _ _ ?_
    rw [decide_eq_false hl]
    exact ⟨rfl, Ext.refl _ _⟩
theorem fm_some {α β : Type} (f : α → β) : ∀ l : List α, l.filterMap (fun a => some (f a)) = l.map f
  | [] => rfl
  | a :: l => by rw [List.filterMap_cons]; simp only [List.map_cons]; rw [fm_some f l]
theorem range_getD {α β : Type} (d : α) (F : α → β) (ns : List α) : (List.range ns.length).map (fun k => F (ns.getD k d)) = ns.map F := by
  refine List.ext_getElem (by simp) fun k h1 h2 => ?_
  have hk : k < ns.length := by simpa using h2
  simp [hk]

end
section
open  PySem.Builtin
set_option linter.unusedVariables false
set_option autoImplicit false
variable {C : Cx} {env : Env} {σ : St} {mu : List Addr} {X : Fx} {Q : St → Res → Prop}
/-- a list's method, bound -/
noncomputable abbrev bndA (l : Addr) : Obj := { cls := .type "builtin_function_or_method", data := .fields #[.builtin "list.append", .ref l] }
noncomputable abbrev bndC (l : Addr) : Obj := { cls := .type "method-wrapper", data := .fields #[.builtin "list.__contains__", .ref l] }
theorem mslot_get : Slot "method_descriptor" "__get__" "method_descriptor.__get__" :=
  .of (owner := "method_descriptor") (n := "__get__") (by rw [typeLookup_type, builtinLookup_eq_fast]; kernel_rfl) (by decide +kernel) (by decide +kernel) (by decide +kernel)
    (by first | exact .inl (by decide +kernel) | exact .inr (by decide +kernel)) (by rw [isSubtype_type]; kernel_rfl)
theorem mentry_get : entryFor table "method_descriptor.__get__" = some Builtin.«method_descriptor.__get__» := entryFor_of_tree (by kernel_rfl)
theorem margs_get (a b c : Value) : argsOk "method_descriptor.__get__" ⟨[a, b, c], []⟩ := by unfold argsOk; kernel_rfl
theorem wslot_get : Slot "wrapper_descriptor" "__get__" "wrapper_descriptor.__get__" :=
  .of (owner := "wrapper_descriptor") (n := "__get__") (by rw [typeLookup_type, builtinLookup_eq_fast]; kernel_rfl) (by decide +kernel) (by decide +kernel) (by decide +kernel)
    (by first | exact .inl (by decide +kernel) | exact .inr (by decide +kernel)) (by rw [isSubtype_type]; kernel_rfl)
theorem wentry_get : entryFor table "wrapper_descriptor.__get__" = some Builtin.«wrapper_descriptor.__get__» := entryFor_of_tree (by kernel_rfl)
theorem wargs_get (a b c : Value) : argsOk "wrapper_descriptor.__get__" ⟨[a, b, c], []⟩ := by unfold argsOk; kernel_rfl
theorem type_contains : typeOf (.builtin "list.__contains__") = pure (.type "wrapper_descriptor") := by show builtinType _ = _; rw [builtinType_eq_fast]; kernel_rfl
theorem sub_list : isSubtype (.type "list") (.type "list") = pure true := by rw [isSubtype_type]; kernel_rfl
section
variable {prog : Program} {w : World} {M : Model} {A : Around} {E : Value → Shared → Prop} {s : Shared}
theorem run_mget {l : Addr} {P : Fin → Shared → Prop} (hT : s.TypeIs (.ref l) "list") (h : P (.done (.ret (.ref s.heap.objs.size))) { s with heap := s.heap.push (bndA l) }) :
    wpAny M A (Builtin.«method_descriptor.__get__» ⟨[.builtin "list.append", .ref l, .type "list"], []⟩) P E s := by
  unfold Builtin.«method_descriptor.__get__»
  refine wpAny_bind (wpAny_of_eq (a := (.builtin "list.append", some (.ref l), some (.type "list"))) (by first | rfl | kernel_rfl) ?_)
  dsimp only
  have hto : Manifest.toldItsClass.contains "list.append" = false := by decide +kernel
  rw [hto, if_neg (by decide)]
  refine wpAny_bind ?_
  · refine wpAny_bind (wpAny_of_eq (a := (Str.ofString "append", .type "list")) (by first | rfl | kernel_rfl) ?_)
    dsimp only
    refine wpAny_bind (wpAny_isInstance (b := true) hT sub_list ?_)
    refine wpAny_pure ?_
    exact wpAny_bind (wpAny_newObj_type (wpAny_pure h) (by size_fits))
theorem run_wget {l : Addr} {P : Fin → Shared → Prop} (hT : s.TypeIs (.ref l) "list") (h : P (.done (.ret (.ref s.heap.objs.size))) { s with heap := s.heap.push (bndC l) }) :
    wpAny M A (Builtin.«wrapper_descriptor.__get__» ⟨[.builtin "list.__contains__", .ref l, .type "list"], []⟩) P E s := by
  unfold Builtin.«wrapper_descriptor.__get__»
  refine wpAny_bind (wpAny_of_eq (a := (.builtin "list.__contains__", some (.ref l), some (.type "list"))) (by first | rfl | kernel_rfl) ?_)
  dsimp only
  refine wpAny_bind ?_
  · refine wpAny_bind (wpAny_of_eq (a := (Str.ofString "__contains__", .type "list")) (by first | rfl | kernel_rfl) ?_)
    dsimp only
    refine wpAny_bind (wpAny_isInstance (b := true) hT sub_list ?_)
    refine wpAny_pure ?_
    exact wpAny_bind (wpAny_newObj_type (wpAny_pure h) (by size_fits))
theorem md_no_set : typeLookup (.type "method_descriptor") "__set__" = pure none := by rw [typeLookup_type, builtinLookup_eq_fast]; kernel_rfl
theorem md_no_del : typeLookup (.type "method_descriptor") "__delete__" = pure none := by rw [typeLookup_type, builtinLookup_eq_fast]; kernel_rfl
theorem wd_no_set : typeLookup (.type "wrapper_descriptor") "__set__" = pure none := by rw [typeLookup_type, builtinLookup_eq_fast]; kernel_rfl
theorem wd_no_del : typeLookup (.type "wrapper_descriptor") "__delete__" = pure none := by rw [typeLookup_type, builtinLookup_eq_fast]; kernel_rfl
theorem meets_ga_append (l : Addr) (xs : Array Value) (k : Nat) (sl : Array (Option Value)) (u : Tok) :
    Meets (Builtin.«object.__getattribute__» ⟨[.ref l, .str "append" u], []⟩) (fun A R s => s.heap.get? l = some { cls := .type "list", dict := none, data := .seq xs k, slots := sl } ∧ R (.ok (.ret (.ref s.heap.objs.size))) { s with heap := s.heap.push (bndA l) }) :=
  Meets.of_wp fun prog w A R s hs => by
    obtain ⟨hp, g, d, tk, os⟩ := s
    obtain ⟨hx, hs⟩ := hs
    have hT : (⟨hp, g, d, tk, os⟩ : Shared).TypeIs (.ref l) "list" := ⟨_, hx, rfl⟩
    have f1 := slot_list_append.lookup
    have f2 := type_list_append
    have f3 := mslot_get.lookup
    have f4 := md_no_set
    have f5 := md_no_del
    unfold Builtin.«object.__getattribute__»
    repeat (any_goals (first | assumption | wp_step))
    refine codeAny_call_builtin mslot_get.plain mentry_get (mslot_get.check _ _ _ _ _ _ _ _ f2 (margs_get _ _ _) (run_mget hT ?_))
    exact wpAny_pure ⟨_, rfl, hs⟩
theorem meets_ga_contains (l : Addr) (xs : Array Value) (k : Nat) (sl : Array (Option Value)) (u : Tok) :
    Meets (Builtin.«object.__getattribute__» ⟨[.ref l, .str "__contains__" u], []⟩) (fun A R s => s.heap.get? l = some { cls := .type "list", dict := none, data := .seq xs k, slots := sl } ∧ R (.ok (.ret (.ref s.heap.objs.size))) { s with heap := s.heap.push (bndC l) }) :=
  Meets.of_wp fun prog w A R s hs => by
    obtain ⟨hp, g, d, tk, os⟩ := s
    obtain ⟨hx, hs⟩ := hs
    have hT : (⟨hp, g, d, tk, os⟩ : Shared).TypeIs (.ref l) "list" := ⟨_, hx, rfl⟩
    have f1 := F.slot_list_contains.lookup
    have f2 := type_contains
    have f3 := wslot_get.lookup
    have f4 := wd_no_set
    have f5 := wd_no_del
    unfold Builtin.«object.__getattribute__»
    repeat (any_goals (first | assumption | wp_step))
    refine codeAny_call_builtin wslot_get.plain wentry_get (wslot_get.check _ _ _ _ _ _ _ _ f2 (wargs_get _ _ _) (run_wget hT ?_))
    exact wpAny_pure ⟨_, rfl, hs⟩
end

end
section
open  PySem.Builtin
set_option linter.unusedVariables false
set_option autoImplicit false
variable {C : Cx} {env : Env} {σ : St} {mu : List Addr} {X : Fx} {Q : St → Res → Prop}
section
variable {prog : Program} {w : World} {A : Around} {E : Value → Shared → Prop} {s : Shared}
theorem getAttr_append {l : Addr} {vs : List Value} {n : Nat} {Q : Value → Shared → Prop} (hx : s.heap.get? l = some (lobj vs n))
    (h : ∀ tk, Q (.ref s.heap.objs.size) { s with heap := s.heap.push (bndA l), toks := tk }) : wpAny (model prog w) A (getAttr (.ref l) "append" true) Q E s := by
  obtain ⟨hp, g, d, tk, os⟩ := s
  have hT : ∀ tk', (⟨hp, g, d, tk', os⟩ : Shared).TypeIs (.ref l) "list" := fun _ => ⟨_, hx, rfl⟩
  have f3 := F.slot_list_getattribute.lookup
  have f4 := F.slot_list_getattribute.bind (.ref l)
  have f5 := am_list_getattr_none
  unfold getAttr getAttrBy
  repeat (any_goals (first | assumption | exact hT _ | ((with_reducible show wpAny _ _ (call (Value.builtin "list.__getattribute__") _ _) _ _ _); refine call_meets F.slot_list_getattribute (hT _) am_entry_list_getattribute (F.args_list_getattribute_2 _ _) (meets_ga_append l _ _ _ _) ⟨hx, ?_⟩) | wp_step))
  all_goals (show wpAny _ _ (handedOut (.ref _)) _ _ _; exact wpAny_pure (h _))
theorem getAttr_contains {l : Addr} {vs : List Value} {n : Nat} {Q : Value → Shared → Prop} (hx : s.heap.get? l = some (lobj vs n))
    (h : ∀ tk, Q (.ref s.heap.objs.size) { s with heap := s.heap.push (bndC l), toks := tk }) : wpAny (model prog w) A (getAttr (.ref l) "__contains__" true) Q E s := by
  obtain ⟨hp, g, d, tk, os⟩ := s
  have hT : ∀ tk', (⟨hp, g, d, tk', os⟩ : Shared).TypeIs (.ref l) "list" := fun _ => ⟨_, hx, rfl⟩
  have f3 := F.slot_list_getattribute.lookup
  have f4 := F.slot_list_getattribute.bind (.ref l)
  have f5 := am_list_getattr_none
  unfold getAttr getAttrBy
  repeat (any_goals (first | assumption | exact hT _ | ((with_reducible show wpAny _ _ (call (Value.builtin "list.__getattribute__") _ _) _ _ _); refine call_meets F.slot_list_getattribute (hT _) am_entry_list_getattribute (F.args_list_getattribute_2 _ _) (meets_ga_contains l _ _ _ _) ⟨hx, ?_⟩) | wp_step))
  all_goals (show wpAny _ _ (handedOut (.ref _)) _ _ _; exact wpAny_pure (h _))
end

end
section
open  PySem.Builtin
set_option linter.unusedVariables false
set_option autoImplicit false
variable {C : Cx} {env : Env} {σ : St} {mu : List Addr} {X : Fx} {Q : St → Res → Prop}
section
variable {prog : Program} {w : World} {A : Around} {E : Value → Shared → Prop} {s : Shared}
theorem append_kind : builtinKind "list.append" = some .method := by kernel_rfl
theorem append_full : (Manifest.signature? "list.append").map (·.full) = some "list.append" := by kernel_rfl
theorem append_va : Manifest.varargsMethods.contains "list.append" = false := by decide +kernel
theorem sub_list_mod : isSubtype (.type "list") (.type "module") = pure false := by rw [isSubtype_type]; kernel_rfl
theorem append_name : (toString (Bind.lastOf "list") ++ toString "." ++ toString (Bind.lastOf "list.append")) = "list.append" := by decide +kernel
theorem check_append {l : Addr} {v : Value} {Q : Unit → Shared → Prop} {vs : List Value} {n : Nat} (hl : s.heap.get? l = some (lobj vs n)) (h : Q () s) : wpAny (model prog w) A (checkBoundCall "list.append" ⟨[.ref l, v], []⟩) Q E s := by
  have ha := args_list_append (.ref l) v
  have hT : s.TypeIs (.ref l) "list" := ⟨_, hl, rfl⟩
  unfold argsOk at ha
  unfold checkBoundCall
  cases hs : Manifest.signature? "list.append" with
  | none => exact wpAny_pure h
  | some sig =>
    rw [hs] at ha
    have hf := append_full
    rw [hs] at hf
    have hf : sig.full = "list.append" := by simpa using hf
    dsimp only
    rw [append_kind]
    dsimp only
    rw [if_neg (by decide)]
    refine wpAny_bind (wpAny_isInstance (b := false) hT sub_list_mod ?_)
    rw [append_va]
    rw [if_neg (by decide)]
    have hit : ∀ {R : Bool → Shared → Prop}, R false s → wpAny (model prog w) A (isType (.ref l)) R E s := fun hr => by
      unfold isType
      exact wpAny_bind (wpAny_loadPart hl (wpAny_pure hr))
    refine wpAny_bind (hit ?_)
    rw [if_neg (by decide)]
    refine wpAny_bind (wpAny_typeOf hT ?_)
    dsimp only
    rw [append_name]
    have hsig : ({ machinery := sig.machinery, full := "list.append", short := sig.short, receiver := sig.receiver, params := sig.params } : Manifest.Signature) = sig := by
      cases sig; simp only at hf; rw [hf]
    have ha : Bind.checkArgs "list.append" sig ⟨[.ref l, v], []⟩ = pure () := ha
    rw [hsig, ha]
    exact wpAny_pure h
/-- a call of the bound append -/
theorem call_bndA {m l : Addr} {v : Value} {Q : Value → Shared → Prop} (hm : s.heap.get? m = some (bndA l)) {vs : List Value} {n : Nat} (hl : s.heap.get? l = some (lobj vs n)) (hz : vs.toArray.size ≤ sizeLine)
    (h : ∀ h', h'.PlainList l (vs.toArray.push v) → Heap.SameBut l s.heap h' → Q .none { s with heap := h' }) : wpAny (model prog w) A (call (.ref m) [v]) Q E s := by
  refine wpAny_call (codeAny_of_tree ?_)
  show wpAny _ A.in1 (callAny (.ref m) ⟨[v], []⟩) _ _ s
  simp only [callAny]
  refine wpAny_bind (wpAny_load hm ?_)
  simp only [show (Value.type "builtin_function_or_method" == Value.type "method" || Value.type "builtin_function_or_method" == Value.type "builtin_function_or_method" || Value.type "builtin_function_or_method" == Value.type "method-wrapper") = true by decide, if_true]
  show wpAny _ _ (if (Value.type "builtin_function_or_method" != Value.type "method") = true then (do checkBoundCall "list.append" ⟨[.ref l, v], []⟩; again (Code.builtin "list.append" ⟨[.ref l, v], []⟩)) else _) _ _ _
  rw [if_pos (by decide)]
  refine wpAny_bind (check_append hl ?_)
  refine wpAny_pure ?_
  refine ⟨Code.quiet_builtin _ (by decide +kernel), codeAny_builtin entry_list_append ?_⟩
  show wpAny _ _ (updateSeq l (·.push v) >>= fun _ => ret .none) _ _ s
  refine wpAny_bind ?_
  refine wpAny_updateSeq hl rfl (wpAny_pure ?_)
  refine h _ ⟨n + 1, ?_⟩ (Heap.SameBut.update ..)
  rw [Heap.get?_update_self _ hl (by rw [Obj.mapSeq_push_plain]; rfl), Obj.mapSeq_push_plain]
theorem check_contains {l : Addr} {v : Value} : checkBoundCall "list.__contains__" ⟨[.ref l, v], []⟩ = pure () := by first | rfl | kernel_rfl
/-- a call of the bound __contains__ -/
theorem call_bndC {m l : Addr} {v : Value} {Q : Value → Shared → Prop} (hm : s.heap.get? m = some (bndC l)) {vs : List Value} {n : Nat} (hl : s.heap.get? l = some (lobj vs n)) (e : Value → Bool) (he : ∀ y, y ∈ vs.toArray → SeqAt.EqAt A.in1 s y v (e y))
    (h : Q (.bool (vs.toArray.any e)) s) : wpAny (model prog w) A (call (.ref m) [v]) Q E s := by
  refine wpAny_call (codeAny_of_tree ?_)
  show wpAny _ A.in1 (callAny (.ref m) ⟨[v], []⟩) _ _ s
  simp only [callAny]
  refine wpAny_bind (wpAny_load hm ?_)
  simp only [show (Value.type "method-wrapper" == Value.type "method" || Value.type "method-wrapper" == Value.type "builtin_function_or_method" || Value.type "method-wrapper" == Value.type "method-wrapper") = true by decide, if_true]
  show wpAny _ _ (if (Value.type "method-wrapper" != Value.type "method") = true then (do checkBoundCall "list.__contains__" ⟨[.ref l, v], []⟩; again (Code.builtin "list.__contains__" ⟨[.ref l, v], []⟩)) else _) _ _ _
  rw [if_pos (by decide)]
  refine wpAny_bind (wpAny_of_eq check_contains ?_)
  refine wpAny_pure ?_
  refine ⟨Code.quiet_builtin _ (by decide +kernel), codeAny_builtin F.entry_list_contains ?_⟩
  rw [Around.under_plainId F.slot_list_contains.plain _]
  refine SeqAt.list_containsAt l vs.toArray n none #[] v e prog w A _ s ⟨hl, he, ?_⟩
  exact h
end

end
section
open  PySem.Builtin PySem.Builtin.Str
set_option linter.unusedVariables false
set_option autoImplicit false
variable {C : Cx} {env : Env} {σ : St} {mu : List Addr} {X : Fx} {Q : St → Res → Prop}
theorem fix_bndA (a : Addr) : Fix (bndA a) := ⟨⟨fun _ _ e => (nomatch e), fun _ e => (nomatch e), fun e => nomatch e⟩, fun _ _ e => (nomatch e), fun e => by injection e with e; exact absurd e (by decide), fun e => by injection e with e; exact absurd e (by decide), fun e => by injection e with e; exact absurd e (by decide)⟩
theorem fix_bndC (a : Addr) : Fix (bndC a) := ⟨⟨fun _ _ e => (nomatch e), fun _ e => (nomatch e), fun e => nomatch e⟩, fun _ _ e => (nomatch e), fun e => by injection e with e; exact absurd e (by decide), fun e => by injection e with e; exact absurd e (by decide), fun e => by injection e with e; exact absurd e (by decide)⟩
theorem Rep.ob_inv {h : Heap} {v : Value} {o : Obj} (r : Rep mu h v (.ob o)) : ∃ m, v = .ref m ∧ h.get? m = some o := by
  cases r with
  | ob e f => exact ⟨_, rfl, e⟩
theorem Ev.attrAppend {x : Str} {xp pos : Pos} {a : Addr} {xs : List PV} (h : Ev C env σ (.Name x xp) (.la a xs))
    (he : eval (.Attribute (.Name x xp) "append" pos) env = (do
      let o ← eval (.Name x xp) env
      standAt pos.atName
      let r ← holding [o] (getAttr o "append" true)
      letTemporaryGo (.Name x xp) o r
      pure r) := by with_unfolding_all rfl) : Ev C env σ (.Attribute (.Name x xp) "append" pos) (.ob (bndA a)) := Ev.mk fun s I F => by
  refine Attribute_Name_ (h.use I F fun v s1 x1 I1 F1 r1 => ?_) he
  obtain ⟨rfl, hm, vs, n, e1, rl⟩ := r1
  exact getAttr_append e1 fun tk => ⟨x1.trans Ext.push, RepI.ob (Heap.get?_push_size _ rfl) (fix_bndA a)⟩
theorem Ev.attrContains {x : Str} {xp pos : Pos} {p : PV} {xs : List PV} (h : Ev C env σ (.Name x xp) p) (hl : p.lst? = some xs)
    (he : eval (.Attribute (.Name x xp) "__contains__" pos) env = (do
      let o ← eval (.Name x xp) env
      standAt pos.atName
      let r ← holding [o] (getAttr o "__contains__" true)
      letTemporaryGo (.Name x xp) o r
      pure r) := by with_unfolding_all rfl) {Q : Value → Shared → Prop} {E : Value → Shared → Prop} {s : Shared} (I : Inv C s) (F : Frm env σ s)
    (k : ∀ m l s', Ext C.fs s s' → Inv C s' → Frm env σ s' → s'.heap.get? m = some (bndC l) → Rep σ.mu s'.heap (.ref l) p → Q (.ref m) s') : wpAny C.M C.A (eval (.Attribute (.Name x xp) "__contains__" pos) env) Q E s := by
  refine Attribute_Name_ (h.use I F fun v s1 x1 I1 F1 r1 => ?_) he
  obtain ⟨a, vs, n, rfl, e1, rl⟩ := r1.lst hl
  refine getAttr_contains e1 fun tk => ?_
  have x2 : Ext C.fs s1 { s1 with heap := s1.heap.push (bndC a), toks := tk } := Ext.push
  exact k _ a _ (x1.trans x2) (I1.ext x2) (I1.frm x2 F1) (Heap.get?_push_size _ rfl) (I1.rep x2 r1)
theorem callWith_bnd {M : Model} {A : Around} {E : Value → Shared → Prop} {s : Shared} {pos : Pos} {u a : Addr} {first : List Value} {args : List (Bool × Sem Value)} {Q : Value → Shared → Prop} (hplain : args.any (·.1) = false)
    (h : wpAny M A (evalArgs (.ref u) true args []) (fun x s₁ => s₁.heap.get? u = some (bndA a) ∧ wpAny M A (call (.ref u) (first ++ x.pos) x.kw) Q E s₁) E s) : wpAny M A (callWith pos (.ref u) first args []) Q E s := by
  unfold callWith
  refine wpAny_bind (wpAny_holding (wpAny_mono h (fun x s₁ h₁ => wpAny_bind (wpAny_standAt ?_)) fun _ _ x => x))
  obtain ⟨ho, hcall⟩ := h₁
  simp only [hplain, List.any_nil, Bool.or_false]
  refine wpAny_bind (m := keeperOf (.ref u)) ?_
  unfold keeperOf
  refine wpAny_bind (wpAny_load ho ?_)
  simp only [show (Value.type "builtin_function_or_method" != Value.type "method") = true by decide, show (Value.type "builtin_function_or_method" == Value.type "builtin_function_or_method" || Value.type "builtin_function_or_method" == Value.type "method-wrapper") = true by decide, if_true]
  refine wpAny_pure ?_
  exact wpAny_bind (wpAny_mono hcall (fun r s₂ hr => wpAny_bind (wpAny_holding (wpAny_point (wpAny_pure hr)))) fun _ _ x => x)
/-- add(x), add being res.append -/
theorem Exe.add (O : FxOK X) {σ : St} {f : Str} {fp pos pos' : Pos} {e : Expr} {a : Addr} {xs : List PV} {p : PV} {l' : List (Str × PV)} {y : Str} (h1 : Ev X.C X.env σ (.Name f fp) (.ob (bndA a))) (ha : a ∈ σ.ow) (hr : σ.vs.lookup y = some (.la a xs)) (h2 : Ev X.C X.env σ e p)
    (hp : p.pl = true) (hn : xs.length ≤ sizeLine) (u : UpdL a (xs ++ [p]) σ.vs l') (k : Q { σ with vs := l' } .next)
    (he : eval (.Call (.Name f fp) [e] [] pos) X.env = (do callWith pos (← eval (.Name f fp) X.env) [] (backTo pos (starEach [e] X.env)) (backToKw pos (keywordEach [] X.env))) := by rfl)
    (hs : backTo pos (starEach [e] X.env) = [(false, eval e X.env)] := by rfl)
    (hi : interactive X.env = false := by rfl) (hsw : swapsWith (.Call (.Name f fp) [e] [] pos) none pos'.line X.env = pure false := by rfl) :
    Exe X σ (.Expr (.Call (.Name f fp) [e] [] pos) pos') Q := by
  refine ⟨fun s A => ?_⟩
  refine wpAny_Expr_any (Call_ (h1.use A.inv A.frm fun v s1 x1 I1 F1 r1 => ?_) he) hi hsw
  obtain ⟨m, rfl, em⟩ := r1.ob_inv
  rw [hs]
  have A1 := A.ev O x1
  refine callWith_bnd (a := a) rfl (evalArgs_plain (spliced_cons (h2.use I1 F1 fun v s2 x2 I2 F2 r2 => spliced_nil ?_)))
  have A2 := A1.ev O x2
  have em2 : s2.heap.get? m = some (bndA a) := I1.stable x2 em (fix_bndA a).1
  have hrep : ∃ v, Rep σ.mu s2.heap v (.la a xs) := by
    by_cases hk : X.env.kindOf y = some .local
    · obtain ⟨m', _, hold⟩ := F2.ns
      obtain ⟨v, _, r⟩ := hold y _ hr hk
      exact ⟨v, r⟩
    · obtain ⟨c, v, _, _, r⟩ := F2.cv y _ hr hk
      exact ⟨v, r⟩
  obtain ⟨v', rfl, hm, vs, n, e2, rl⟩ := hrep
  refine ⟨em2, ?_⟩
  refine call_bndA em2 e2 (by rw [List.size_toArray, rl.length]; exact hn) fun h3 p3 sb => ?_
  obtain ⟨n3, e3⟩ := p3
  have e3' : h3.get? a = some (lobj (vs ++ [v]) n3) := by rw [e3]; simp [lobj]
  obtain ⟨A3, c3⟩ := A2.append O ha e2 rl (r2.toI hp) e3' sb u s2.toks
  exact ⟨_, .next, rfl, k, A3, ((Carry.ev A.inv x1).trans (.ev I1 x2)).trans c3⟩
theorem Exe.assert (O : FxOK X) {σ : St} {t : Expr} {msg : Option Expr} {pos : Pos} (h : Tst X.C X.env σ t true) (k : Q σ .next) : Exe X σ (.Assert t msg pos) Q := ⟨fun s A =>
  wpAny_Assert_holds (h.use A.inv A.frm fun s' x _ _ => ⟨rfl, σ, .next, rfl, k, A.ev O x, .ev A.inv x⟩)⟩
theorem CmpV.isNot_sv {x : Str} {a : Addr} : CmpV C mu .IsNot (.s x) (.v (.ref a)) true := by
  refine ⟨?_⟩
  intro v w s I r1 r2
  obtain ⟨t, rfl⟩ := r1.s_inv
  rw [r2.v_inv]
  exact wpAny_isNot_other rfl (fun e => nomatch e) ⟨rfl, Ext.refl _ _⟩
/-- f'a{x}b' -/
theorem Ev.fstr3 {a b : Str} {k1 k2 : Nat} {p1 p2 p3 pos : Pos} {e : Expr} {y : Str} (h : Ev C env σ e (.s y)) (hl : a.length ≤ 100) (hl2 : b.length ≤ 100) (hy : y.length ≤ 1000000) :
    Ev C env σ (.JoinedStr [.Constant (.str a) k1 p1, .FormattedValue e (-1) none p2, .Constant (.str b) k2 p3] pos) (.s (a ++ y ++ b)) := Ev.mk fun s I F => by
  have sl : sizeLine = 16777216 := by decide
  have he : Str.empty ++ a = a := Str.empty_append a
  refine JoinedStr_many (wpAny_joinPartsRec _ _ _ _ ?_)
  refine Calls.Constant_str ⟨a, _, rfl, by rw [he, sl]; omega, ?_⟩
  have x0 : Ext C.fs s { s with toks := s.toks + 1 } := Ext.tok
  refine FormattedValue_plain (h.use (I.ext x0) (I.frm x0 F) fun v s1 x1 I1 F1 r1 => ?_)
  obtain ⟨t, rfl⟩ := r1.s_inv
  rw [he]
  have l1 : (a ++ y).length ≤ sizeLine := by rw [Str.length_append, sl]; omega
  have l2 : (a ++ y ++ b).length ≤ sizeLine := by rw [Str.length_append, Str.length_append, sl]; omega
  refine SB.field_str (fun t' k => ⟨y, _, rfl, l1, ?_⟩) (by omega)
  refine Calls.Constant_str ⟨b, _, rfl, l2, ?_⟩
  refine ⟨l2, ?_⟩
  exact ⟨(x0.trans x1).trans Ext.tok, Rep.s⟩

end
section
open  PySem.Builtin
set_option maxHeartbeats 4000000
set_option linter.unusedVariables false
set_option autoImplicit false
section
variable {prog : Program} {w : World} {A : Around} {E : Value → Shared → Prop} {s : Shared}
theorem obj_new {R : Result → Shared → Prop} (h : R (.ok (.ret (.ref s.heap.objs.size))) { s with heap := s.heap.push { cls := .type "object", data := .plain } }) : codeAny (model prog w) A (.builtin "object.__new__" ⟨[.type "object"], []⟩) R s := by
  obtain ⟨hp, g, d, tk, os⟩ := s
  have F := F.objNew
  have hmro : mroOf (.type "object") = pure [.type "object"] := by kernel_rfl
  have hlkn : typeLookup (.type "object") "__new__" = pure (some (.builtin "object.__new__")) := by rw [typeLookup_type, builtinLookup_eq_fast]; kernel_rfl
  have hends : ("object.__new__".endsWith ".__new__") = true := by decide +kernel
  have g1 : isSubtype (.type "object") (.type "object") = pure true := by rw [isSubtype_type]; kernel_rfl
  have g4 : (!"object.__new__".endsWith ".__new__") = false := by rw [hends]; rfl
  refine codeAny_builtin F.entry ?_
  unfold Builtin.«object.__new__»
  repeat (any_goals (first | assumption | rw [if_neg (by rw [g4]; decide)] | wp_step))
end

end
section
open  PySem.Builtin
set_option maxHeartbeats 4000000
set_option linter.unusedVariables false
set_option autoImplicit false
section
variable {prog : Program} {w : World} {A : Around} {E : Value → Shared → Prop} {s : Shared}
theorem obj_init {x : Addr} {Q : Value → Shared → Prop} (hx : s.heap.get? x = some { cls := .type "object", data := .plain }) (h : Q .none s) : wpAny (model prog w) A (call (.builtin "object.__init__") [.ref x]) Q E s := by
  have hT : s.TypeIs (.ref x) "object" := ⟨_, hx, rfl⟩
  refine wpAny_call_entry F.slot_object_init hT F.entry_object_init ?_ (by unfold argsOk; kernel_rfl)
  unfold Builtin.«object.__init__»
  obtain ⟨hp, g, d, tk, os⟩ := s
  repeat (any_goals (first | assumption | wp_step))
  all_goals exact ⟨_, rfl, h⟩
end

end
section
open  PySem.Builtin
set_option maxHeartbeats 4000000
set_option linter.unusedVariables false
set_option autoImplicit false
section
variable {prog : Program} {w : World} {A : Around} {E : Value → Shared → Prop} {s : Shared}
theorem call_object {Q : Value → Shared → Prop} (h : Q (.ref s.heap.objs.size) { s with heap := s.heap.push { cls := .type "object", data := .plain } }) : wpAny (model prog w) A (call (.type "object") []) Q E s := by
  refine wpAny_call (codeAny_of_tree ?_)
  show wpAny _ _ (callAny (.type "object") ⟨[], []⟩) _ _ s
  refine wpAny_pure ?_
  refine ⟨Code.quiet_builtin _ (by decide +kernel), codeAny_builtin (entryFor_of_tree (by kernel_rfl) : entryFor table "type.__call__" = some Builtin.«type.__call__») ?_⟩
  obtain ⟨hp, g, d, tk, os⟩ := s
  have hmro : mroOf (.type "object") = pure [.type "object"] := by kernel_rfl
  have hlk : typeLookup (.type "object") "__init__" = pure (some (.builtin "object.__init__")) := by rw [typeLookup_type, builtinLookup_eq_fast]; kernel_rfl
  have hlkn : typeLookup (.type "object") "__new__" = pure (some (.builtin "object.__new__")) := by rw [typeLookup_type, builtinLookup_eq_fast]; kernel_rfl
  unfold Builtin.«type.__call__»
  repeat (any_goals (first | assumption | wp_step))
  have hends : ("object.__new__".endsWith ".__new__") = true := by decide +kernel
  rw [if_neg (by rw [hends]; decide)]
  repeat (any_goals (first | assumption | wp_step))
  have F' := F.objNew
  refine codeAny_call_builtin_code (Code.quiet_builtin _ F'.quiet) ?_
  simp only [checkBuiltinCall, F'.kind, F'.split, F'.row]
  repeat (any_goals (first | assumption | wp_step))
  have g1 : isSubtype (.type "object") (.type "object") = pure true := by rw [isSubtype_type]; kernel_rfl
  have g4 : (!"object.__new__".endsWith ".__new__") = false := by rw [hends]; rfl
  have g3 : ((Manifest.find? "object").elim false fun x => x.noNew) = false := by decide +kernel
  repeat (any_goals (first | assumption | rw [if_neg (by rw [g4]; decide)] | rw [if_neg (by rw [g3]; decide)] | wp_step))
  refine obj_new ?_
  have hT : ({ heap := hp.push { cls := .type "object", data := .plain }, gens := g, drawn := d, toks := tk, os := os } : Shared).TypeIs (.ref hp.objs.size) "object" := ⟨_, Heap.get?_push_size _ rfl, rfl⟩
  have hx : (hp.push { cls := .type "object", data := .plain }).get? hp.objs.size = some { cls := .type "object", data := .plain } := Heap.get?_push_size _ rfl
  show wpAny _ _ _ _ _ _
  refine wpAny_bind (wpAny_isInstance (b := true) hT g1 ?_)
  rw [if_neg (by decide)]
  refine wpAny_bind (wpAny_holding ?_)
  refine wpAny_callSpecial?_slot hT F.slot_object_init (obj_init hx ?_)
  exact wpAny_pure h
end

end
section
open  PySem.Builtin PySem.Builtin.Str
set_option linter.unusedVariables false
set_option autoImplicit false
variable {C : Cx} {env : Env} {σ : St} {mu : List Addr} {X : Fx} {Q : St → Res → Prop}
theorem CallV.replace0 {x y z : Str} (h : (occurrences x y 0 x.length (x.length + 1)).isEmpty = true) : CallV C mu (.builtin "str.replace") [.s x, .s y, .s z] (.s x) := by
  refine ⟨?_⟩
  intro vs s I hm rl
  obtain ⟨v, w, u, rfl, r1, r2, r3⟩ := rl.three
  obtain ⟨t, rfl⟩ := r1.s_inv
  obtain ⟨t2, rfl⟩ := r2.s_inv
  obtain ⟨t3, rfl⟩ := r3.s_inv
  have hc : ((occurrences x y 0 x.length (x.length + 1)).isEmpty || (y.length == 0 && z.length == 0)) = true := by rw [h]; rfl
  refine call_gives F.slot_str_replace (typeIs_str _ _ _) F.entry_str_replace (F.args_str_replace_3 _ _ _) (gives_str_replace x y z t t2 t3 fun hf => by rw [hc] at hf; cases hf) ?_
  rw [if_pos hc]
  exact ⟨Ext.refl _ _, Rep.s⟩
theorem Tst.str {e : Expr} {x : Str} (h : Ev C env σ e (.s x)) (hl : x.length < 2 ^ 60) (he : ∀ whole : Sem Value, isTrue e env whole = (do let v ← whole; standAt e.pos; holding [v] (truthy v)) := by intro _; rfl) : Tst C env σ e (decide (0 < x.length)) := Tst.mk fun s I F =>
  isTrue_plain (h.use I F fun v s1 x1 I1 F1 r1 => by
    obtain ⟨t, rfl⟩ := r1.s_inv
    refine SBL.truthy (by omega) ⟨?_, x1.trans Ext.tok⟩
    by_cases hz : x.length = 0
    · rw [hz]; rfl
    · rw [decide_eq_true (by omega)]
      exact bne_iff_ne.mpr (by omega)) (he _)
theorem Exe.newObject (O : FxOK X) {σ : St} {x : Str} {pos' pos cp : Pos} {f : Str} {fp : Pos} (hk : X.env.kindOf x = some .local ∨ x ∈ X.W) (hf : Ev X.C X.env σ (.Name f fp) (.v (.type "object"))) (k : ∀ a, Q (σ.set x (.v (.ref a))) .next)
    (hs : swapsWith (.Call (.Name f fp) [] [] cp) (some (.Name x pos')) pos.line X.env = pure false)
    (he : eval (.Call (.Name f fp) [] [] cp) X.env = (do callWith cp (← eval (.Name f fp) X.env) [] (backTo cp (starEach [] X.env)) (backToKw cp (keywordEach [] X.env))) := by rfl) :
    Exe X σ (.Assign [.Name x pos'] (.Call (.Name f fp) [] [] cp) pos) Q := ⟨fun s A => by
  refine wpAny_Assign_Name (Call_ (hf.use A.inv A.frm fun v s1 x1 I1 F1 r1 => ?_) he) hs
  rw [r1.v_inv]
  refine callWith_type0 (call_object ?_)
  have x2 : Ext X.C.fs s1 { s1 with heap := s1.heap.push { cls := .type "object", data := .plain } } := Ext.push (t := s1.toks)
  refine store_wp O hk ((A.ev O x1).ev O x2) Rep.v fun s3 A3 c3 _ => ?_
  exact ⟨_, .next, rfl, k _, A3, ((Carry.ev A.inv x1).trans (.ev I1 x2)).trans c3⟩⟩
theorem Tst.inTup2 {e : Expr} {a b x : Str} {k1 k2 k : Nat} {p1 p2 p3 pos : Pos} (h : Ev C env σ e (.s x)) : Tst C env σ (.Compare e [.In] [.Tuple [.Constant (.str a) k1 p1, .Constant (.str b) k2 p2] k p3] pos) (a == x || b == x) := Tst.mk fun s I F => by
  refine wpAny_isTrue_Compare1 (h.use I F fun v s1 x1 I1 F1 r1 => Tuple_ ?_)
  obtain ⟨t, rfl⟩ := r1.s_inv
  refine args_cons (Calls.Constant_str (args_cons (Calls.Constant_str (args_nil ?_))))
  unfold newTuple
  refine wpAny_newObj_type (T := "tuple") ?_ (by size_fits)
  refine in_tuple_strs (ys := [a, b]) ⟨_, Heap.get?_push_size _ rfl, rfl, _, rfl⟩ (.cons _ _ (.cons _ _ .nil)) (wpAny_truthy_bool ⟨by simp, ?_⟩)
  exact x1.trans (Ext.push)

end
section
set_option linter.unusedVariables false
set_option autoImplicit false
/-- the heap that the top leaves -/
noncomputable abbrev K0 (P : Params) : Frag := KF P
structure Gok (P : Params) (g : Heap) (mg mb : Str → Option Value) : Prop where
  X : (K0 P).In g
  G : g.Ns mainGlobals mg
  B : g.Ns builtinsNs mb
  nl : g.NoLimit
  bt : ∀ x : Str, x ≠ "__name__" → mb x = bootBuiltins x
  bA : g.BuiltinsAt mg tabA
variable {C : Cx} {env : Env} {σ : St} {mu : List Addr} {mg mb : Str → Option Value} {P : Params}
theorem Gok.fn {fd : FuncData} {a L : Addr} {s : Shared} {W : List Str} (g : Gok P C.g mg mb) : Gok P (fnX C fd a L s W).C.g mg mb := g
theorem Ev.gn {x : Str} {pos : Pos} {v : Value} (g : Gok P C.g mg mb) (e : nsIn (K0 P) mainGlobals x = some (some v)) (hk : env.kindOf x = some .globalImplicit) (hd : (x == ("__debug__" : Str)) = false := by decide) : Ev C env σ (.Name x pos) (.v v) :=
  Ev.glob g.G (mg_of g.X g.G e) hk hd
theorem Ev.bn {x : Str} {pos : Pos} {v : Value} (g : Gok P C.g mg mb) (e : nsIn (K0 P) mainGlobals x = some none) (hv : bootBuiltins x = some v) (hn : x ≠ "__name__") (hk : env.kindOf x = some .globalImplicit) (hd : (x == ("__debug__" : Str)) = false := by decide) : Ev C env σ (.Name x pos) (.v v) :=
  Ev.blt g.G g.B (mg_none_of g.X g.G e) ((g.bt x hn).trans hv) hk hd
theorem CallV.fk {a : Addr} {cls : Value} {od : Option Addr} {sl : Array (Option Value)} {fd : FuncData} {body : List Stmt} {ns : List Str} {ps : List PV} {W : List Str} {r : PV} (g : Gok P C.g mg mb)
    (hK : (K0 P).lookup a = some ⟨cls, od, .func fd, sl⟩) (hcd : codeIn (K0 P) fd.code fd.qualname = true) (hb : fd.body = .stmts body)
    (hroom : C.A.depth < recursionLimit) (hlen : ns.length = ps.length)
    (hcl : fd.closure = []) (hgl : fd.globals = mainGlobals) (hbl : fd.builtins = builtinsNs)
    (hbind : ∀ vs, vs.length = ns.length → bindArgs fd ⟨vs, []⟩ = pure (ns.zip vs))
    (hkind : ∀ n ∈ ns, fd.scope.names.lookup n = some .local ∨ (fd.scope.names.lookup n = some .cell ∧ ∀ L : Nat, ((cellsFrom (L + 1) fd.scope.names []).lookup n).isSome = true)) (hnd : ns.Nodup)
    (hW : ∀ n ∈ W, fd.scope.names.lookup n = some .cell ∧ ∀ L : Nat, ∃ c, L < c ∧ (cellsFrom (L + 1) fd.scope.names []).lookup n = some c)
    (hco : fd.scope.isCoroutine = false) (hgen : fd.scope.isGenerator = false) (hk : fd.scope.kind = .function)
    (run : ∀ L s, FxOK (fnX C fd a L s W) → Run (fnX C fd a L s W) ⟨mu, [], ns.zip ps⟩ body (RetsP r)) : CallV C mu (.ref a) ps r :=
  CallV.fn g.nl (g.X _ _ hK) rfl (codeRec_of g.X hcd) hroom hlen run hb hcl hgl hbl hbind hkind hnd hW hco hgen hk

noncomputable def alphabet : Str := "ABCDEFGHIJKLMNOPQRSTUVWXYZabcdefghijklmnopqrstuvwxyz0123456789+/"
theorem fn_alphabet (g : Gok P C.g mg mb) (hr : C.A.depth < recursionLimit) : CallV C mu (.ref 157) [] (.s alphabet) := by
  refine CallV.fk (ns := []) (W := []) g (by with_unfolding_all rfl) (by with_unfolding_all rfl) (by with_unfolding_all rfl) hr rfl (by with_unfolding_all rfl) (by with_unfolding_all rfl) (by with_unfolding_all rfl) ?_ ?_ ?_ ?_ (by with_unfolding_all rfl) (by with_unfolding_all rfl) (by with_unfolding_all rfl) fun L s O => ?_
  · intro vs h
    cases vs with
    | nil => with_unfolding_all rfl
    | cons _ _ => cases h
  · simp
  · simp
  · simp
  · refine Run.cons (Exe.ret O (p := .s alphabet) Ev.str (RetsP.pl rfl))

end
section
open  PySem.Builtin PySem.Builtin.Str
set_option linter.unusedVariables false
set_option autoImplicit false
variable {C : Cx} {env : Env} {σ : St} {mu : List Addr} {mg mb : Str → Option Value} {P : Params}
theorem triples_snoc : ∀ (l : List Value) (a b : Int) (t u : Tok) (v : Value), TriplesOk l → TriplesOk (l ++ [.int a t, .int b u, v])
  | [], _, _, _, _, _, _ => trivial
  | .int _ _ :: .int _ _ :: _ :: rest, a, b, t, u, v, h => triples_snoc rest a b t u v h
theorem bA_keeps {h h' : Heap} {mg : Str → Option Value} (hb : h.BuiltinsAt mg tabA) (k : ∀ b o, h.get? b = some o → h'.get? b = some o) : h'.BuiltinsAt mg tabA := by
  obtain ⟨bm, ob, b1, b2, hbG, hbP, b3, b4, b5, b6⟩ := hb
  exact ⟨bm, ob, b1, b2, hbG, hbP, k _ _ b3, b4, b5, b6⟩
theorem eval_lam (g : Gok P C.g mg mb) {params : Arguments} {body : Expr} {scope : Scope} {pos : Pos} {c : Addr} {clos : List (Str × Addr)} {s : Shared} (I : Inv C s) (F : Frm env σ s) (hdef : defaultsOf params env = ([], [])) (hcl : closureFor scope env = pure clos)
    (hcode : env.code = .ref c) (hc : CodeHd C.g c tabA) {Q : Value → Shared → Prop} {E : Value → Shared → Prop}
    (k : ∀ f o s', Ext C.fs s s' → s'.heap.get? f = some o → o.cls = .type "function" → Stable o → Q (.ref f) s') : wpAny C.M C.A (eval (.Lambda params body scope pos) env) Q E s := by
  refine kla_eval hdef ?_
  obtain ⟨ps, ht, htr⟩ := I.tab
  have hg := I.bns g.G
  have hgP : mainGlobals ≠ tabA := by decide
  have hb := bA_keeps g.bA I.base
  have hC : CodeHd s.heap c tabA := hc.keeps I.base
  obtain ⟨outer, ho, hf⟩ := I.frames
  cases hca : codeAmong pos ps.toList with
  | none =>
    refine kla_makeFunction hcl F.glob hg hcode hC ht htr hca hgP hb fun c' ctv h' tk hx _ _ _ htb => ?_
    refine k _ _ _ ⟨fun b o e q t => ?_, fun b o e q => ⟨o.slots, ?_⟩, rfl, rfl, fun ps' e tr => ?_⟩ (Heap.get?_push_size _ rfl) rfl ⟨(fun _ _ e => nomatch e), (fun _ e => nomatch e), (fun e => nomatch e)⟩
    · exact Heap.get?_push_of_some _ (hx b o t e)
    · exact Heap.get?_push_of_some _ (hx b o (hf.mem q).2.1 e)
    · rw [ht] at e
      have hps : ps = ps' := by
        have := congrArg (fun o : Option Obj => match o with | some ⟨_, _, .fields xs, _⟩ => xs | _ => #[]) e
        simpa [tabObj] using this
      subst hps
      refine ⟨_, Heap.get?_push_of_some _ htb, ?_⟩
      rw [Array.toList_append]
      exact triples_snoc _ _ _ _ _ _ tr
  | some cv =>
    refine kla_makeFunctionHit hcl F.glob hg hcode hC ht htr hca hb fun ctv h' tk hk _ => ?_
    exact k _ _ _ (Ext.of_keeps (fun b o e => Heap.get?_push_of_some _ (hk b o e)) rfl rfl) (Heap.get?_push_size _ rfl) rfl ⟨(fun _ _ e => nomatch e), (fun _ e => nomatch e), (fun e => nomatch e)⟩

end
local macro_rules | `(tactic| walk_at "wr") => `(tactic| with_unfolding_all rfl)
local macro_rules | `(tactic| walk_at "caps") => `(tactic| repeat (first | exact List.forall_mem_nil _ | refine' List.forall_mem_cons.mpr ⟨CapOK.of (by with_unfolding_all rfl) (by with_unfolding_all rfl) (by with_unfolding_all rfl) (fun _ => by with_unfolding_all rfl), ?_⟩))
local macro_rules | `(tactic| walk_at "mems") => `(tactic| repeat (first | exact List.forall_mem_nil _ | refine List.forall_mem_cons.mpr ⟨by with_unfolding_all rfl, ?_⟩))
local macro_rules | `(tactic| walk_at "comp0") => `(tactic| exact { clos := by with_unfolding_all rfl, mem := by walk_at "mems", kind := by with_unfolding_all rfl, names := by decide +kernel, caps := by walk_at "caps", fresh := by with_unfolding_all rfl, own := (fun _ h => nomatch h), tgt := Or.inl (by with_unfolding_all rfl) })
local macro_rules | `(tactic| walk_at "compW") => `(tactic| exact { clos := by with_unfolding_all rfl, mem := by walk_at "mems", kind := by with_unfolding_all rfl, names := by decide +kernel, caps := by walk_at "caps", fresh := by with_unfolding_all rfl, own := (List.forall_mem_cons.mpr ⟨fun L => ⟨by with_unfolding_all rfl, L + 1, Nat.lt_succ_self L, by with_unfolding_all rfl⟩, List.forall_mem_nil _⟩), tgt := Or.inr List.mem_cons_self })
local macro_rules | `(tactic| walk_at "ld") => `(tactic| first | exact Ev.loc (by with_unfolding_all rfl) (by with_unfolding_all rfl) | exact Ev.cel (by with_unfolding_all rfl) (by with_unfolding_all rfl) | exact Ev.fre (by with_unfolding_all rfl) (by with_unfolding_all rfl))
local macro_rules | `(tactic| walk_at "gn") => `(tactic| exact Ev.gn (by assumption) (by with_unfolding_all rfl) (by with_unfolding_all rfl))
local macro_rules | `(tactic| walk_at "bn") => `(tactic| exact Ev.bn (by assumption) (by with_unfolding_all rfl) (by with_unfolding_all rfl) (by decide) (by with_unfolding_all rfl))
section
open  PySem.Builtin PySem.Builtin.Str
set_option maxHeartbeats 4000000
set_option linter.unusedVariables false
set_option autoImplicit false
variable {C : Cx} {env : Env} {σ : St} {mu : List Addr} {mg mb : Str → Option Value} {P : Params} {X : Fx} {Q : St → Res → Prop}

noncomputable def written (number : Int) : Str := Txt.join "" ([3, 2, 1, 0].map fun k : Int => Txt.item alphabet ((number.fdiv (64 ^ k.toNat)).fmod 64))
theorem alphabet_len : (alphabet.length : Int) = 64 := by decide +kernel
theorem fn_written (g : Gok P C.g mg mb) (hr : Rm C 2) {number : Int} : CallV C mu (.ref 162) [.i number] (.s (written number)) := by
  refine' CallV.fk (ns := ["number"]) (W := []) g (by walk_at "wr") (by walk_at "wr") (by walk_at "wr") ?room rfl (by walk_at "wr") (by walk_at "wr") (by walk_at "wr") ?hbind ?hkind ?hnd ?hW (by walk_at "wr") (by walk_at "wr") (by walk_at "wr") fun L s O => ?run
  case room => exact hr.room
  case hbind =>
    intro vs h
    match vs, h with
    | [v0], _ => walk_at "wr"
  case hkind => exact List.forall_mem_cons.mpr ⟨Or.inr ⟨by walk_at "wr", fun _ => by walk_at "wr"⟩, List.forall_mem_nil _⟩
  case hnd => decide +kernel
  case hW => exact List.forall_mem_nil _
  case run =>
    refine Run.cons ?_
    refine Exe.ret O (p := .s (written number)) ?_ (RetsP.pl rfl)
    refine' Ev.meth Ev.str MethV.join (EvA.cons (Ev.comp (W := []) (cap := [("number", .i number)]) ([3, 2, 1, 0].map fun k : Int => (.i k, some (.s (Txt.item alphabet ((number.fdiv (64 ^ k.toNat)).fmod 64))))) ?K ?l ?it (by simp [sizeLine]) ?el) EvA.nil) ?c
    case l => exact Ev.list (EvA.cons Ev.int (EvA.cons Ev.int (EvA.cons Ev.int (EvA.cons Ev.int EvA.nil)))) rfl
    case it => exact Itb.list rfl
    case K => walk_at "comp0"
    case c => exact CallV.join (ys := [3, 2, 1, 0].map fun k : Int => Txt.item alphabet ((number.fdiv (64 ^ k.toNat)).fmod 64)) rfl (by decide) (by simp [PyProof.Rows.len_item])
    case el =>
      intro z hz D L'
      obtain ⟨k, hk, rfl⟩ := List.mem_map.mp hz
      refine ⟨TstL.nil, fun y hy => ?_⟩
      cases hy
      refine ⟨?_, rfl⟩
      refine' Ev.item (Ev.callF0 (by walk_at "gn") (g.X _ _ (by walk_at "wr")) rfl (fn_alphabet g (hr.fn (n := 1)).room)) (Ev.bin (Ev.bin (by walk_at "ld") (Ev.bin Ev.int (by walk_at "ld") (BinV.pow_i ?p1 ?p2 (by decide))) (BinV.fdiv_i ?p3 ?p4)) Ev.int (BinV.fmod_i (by decide))) (ItV.str ?q1 ?q2 ?q3)
      all_goals clear hz
      all_goals simp only [List.mem_cons, List.not_mem_nil, or_false] at hk
      case p1 => omega
      case p2 => omega
      case p3 => rcases hk with rfl | rfl | rfl | rfl <;> decide
      case p4 => exact noPylong_lt (by rcases hk with rfl | rfl | rfl | rfl <;> decide)
      all_goals have hm := Int.fmod_nonneg_of_pos (number.fdiv (64 ^ k.toNat)) (b := 64) (by decide)
      all_goals have hm' := Int.fmod_lt_of_pos (number.fdiv (64 ^ k.toNat)) (b := 64) (by decide)
      all_goals have := alphabet_len
      case q1 => omega
      case q2 => omega
      case q3 => exact fits_small (by omega) (by omega)

/-- the signs that have the bit of the part -/
noncomputable def sgn (part : Int) (n : Nat) : List Str := (List.range n).map fun (i : Nat) => Txt.slice alphabet (some (part + (i : Int) * (2 * part))) (some (part + (i : Int) * (2 * part) + part))
noncomputable def signs (part : Int) (n : Nat) : Str := Txt.join "" (sgn part n)
noncomputable def pat (bit : Int) (n : Nat) : Str := Txt.mul "?" (3 - bit.fdiv 6) ++ "[" ++ signs (2 ^ (bit.fmod 6).toNat) n ++ "]" ++ Txt.mul "?" (bit.fdiv 6)
theorem fn_pattern (g : Gok P C.g mg mb) (hr : Rm C 2) {bit : Int} {n : Nat} (h0 : 0 ≤ bit) (h1 : bit < 24) (hn : Builtin.Range.rangeSize (2 ^ (bit.fmod 6).toNat) 64 (2 * 2 ^ (bit.fmod 6).toNat) = n) (hsm : Builtin.Range.small (2 ^ (bit.fmod 6).toNat) 64 (2 * 2 ^ (bit.fmod 6).toNat) = true)
    (hn32 : n ≤ 32) (hlen : (signs (2 ^ (bit.fmod 6).toNat) n).length ≤ 64) (hsum : ((sgn (2 ^ (bit.fmod 6).toNat) n).map (·.length)).sum ≤ 64) : CallV C mu (.ref 167) [.i bit] (.s (pat bit n)) := by
  refine' CallV.fk (ns := ["bit"]) (W := ["alphabet", "part"]) g (by walk_at "wr") (by walk_at "wr") (by walk_at "wr") ?room rfl (by walk_at "wr") (by walk_at "wr") (by walk_at "wr") ?hbind ?hkind ?hnd ?hW (by walk_at "wr") (by walk_at "wr") (by walk_at "wr") fun L s O => ?run
  case room => exact hr.room
  case hbind =>
    intro vs h
    match vs, h with
    | [v0], _ => walk_at "wr"
  case hkind => exact List.forall_mem_cons.mpr ⟨Or.inl (by walk_at "wr"), List.forall_mem_nil _⟩
  case hnd => decide +kernel
  case hW => exact List.forall_mem_cons.mpr ⟨⟨by walk_at "wr", fun L => ⟨L + 1, (by show L < L + 1; omega), by walk_at "wr"⟩⟩, List.forall_mem_cons.mpr ⟨⟨by walk_at "wr", fun L => ⟨L + 2, (by show L < L + 2; omega), by walk_at "wr"⟩⟩, List.forall_mem_nil _⟩⟩
  case run =>
    have hm := Int.fmod_nonneg_of_pos bit (b := 6) (by decide)
    have hm' := Int.fmod_lt_of_pos bit (b := 6) (by decide)
    generalize hpart : (2 : Int) ^ (bit.fmod 6).toNat = part at *
    have hp0 : 1 ≤ part := by
      have : 0 < (2 : Int) ^ (bit.fmod 6).toNat := Int.pow_pos (by decide)
      omega
    have hp1 : part ≤ 32 := by
      rw [← hpart]
      have : (bit.fmod 6).toNat ≤ 5 := by omega
      have h2 : ∀ n ≤ 5, (2 : Int) ^ n ≤ 32 := by decide
      exact h2 _ this
    refine Run.cons (Exe.tup O (ts := [("alphabet", _), ("part", _)]) (ps := [.s alphabet, .i part]) (List.forall_mem_cons.mpr ⟨Or.inr (List.Mem.head _), List.forall_mem_cons.mpr ⟨Or.inr (List.Mem.tail _ (List.Mem.head _)), List.forall_mem_nil _⟩⟩)
      (EvA.cons (Ev.callF0 (by walk_at "gn") (g.X _ _ (by walk_at "wr")) rfl (fn_alphabet g (hr.fn (n := 1)).room)) (EvA.cons (hpart ▸ Ev.bin Ev.int (Ev.bin (by walk_at "ld") Ev.int (BinV.fmod_i (by decide))) (BinV.pow_i hm (by omega) (by decide))) EvA.nil)) rfl (by show 2 ≤ 100; decide) ?_ (by walk_at "wr") (by walk_at "wr"))
    refine Run.cons (Exe.assign O (p := .s (signs part n)) (Or.inl (by walk_at "wr")) ?s1 ?_ (by walk_at "wr"))
    case s1 =>
      refine' Ev.meth Ev.str MethV.join (EvA.cons (Ev.comp (W := []) (cap := [("alphabet", .s alphabet), ("part", .i part)]) ((List.range n).map fun (i : Nat) => (.i (part + (i : Int) * (2 * part)), some (.s (Txt.slice alphabet (some (part + (i : Int) * (2 * part))) (some (part + (i : Int) * (2 * part) + part)))))) ?K ?l ?it ?sz ?el) EvA.nil) ?c
      case l => exact Ev.callT (by walk_at "bn") (EvA.cons (by walk_at "ld") (EvA.cons Ev.int (EvA.cons (Ev.bin Ev.int (by walk_at "ld") (BinV.mul_i (IntMulOk.of_left (by decide)))) EvA.nil))) (CallV.range3 (by omega) (noPylong_lt (by omega)))
      case it =>
        rw [List.map_map]
        exact Itb.range hsm hn
      case K => walk_at "comp0"
      case sz => rw [List.length_map, List.length_range]; exact Nat.le_trans hn32 (by decide)
      case c =>
        refine CallV.join (ys := sgn part n) ?_ (by decide) ?_
        · show some _ = some _
          simp [sgn, List.filterMap_map, Function.comp_def]
        · have : (sgn part n).length = n := by simp [sgn]
          omega
      case el =>
        intro z hz D L'
        obtain ⟨i, hi, rfl⟩ := List.mem_map.mp hz
        refine ⟨TstL.nil, fun y hy => ?_⟩
        cases hy
        refine ⟨?_, rfl⟩
        exact Ev.slice (by walk_at "ld") (EvO.som (by walk_at "ld")) (EvO.som (Ev.bin (by walk_at "ld") (by walk_at "ld") BinV.add_i)) EvO.non (SlV.str (by decide +kernel))
    have hd := Int.fdiv_nonneg (a := bit) (b := 6) h0 (by decide)
    have hd' : bit.fdiv 6 ≤ 3 := by
      rw [Int.fdiv_eq_ediv_of_nonneg _ (by decide)]; omega
    have ml : ∀ k : Int, 0 ≤ k → k ≤ 3 → (Txt.mul "?" k).length ≤ 3 := by
      intro k h0 h1
      have : k = 0 ∨ k = 1 ∨ k = 2 ∨ k = 3 := by omega
      rcases this with rfl | rfl | rfl | rfl <;> decide +kernel
    have l1 := ml (3 - bit.fdiv 6) (by omega) (by omega)
    have l2 := ml (bit.fdiv 6) (by omega) (by omega)
    refine Run.cons (Exe.ret O (p := .s (pat bit n)) ?_ (RetsP.pl rfl))
    unfold pat
    rw [hpart]
    have e1 : ("[" : Str).length = 1 := by decide +kernel
    have e2 : ("]" : Str).length = 1 := by decide +kernel
    have mk : ∀ k : Int, 0 ≤ k → k ≤ 3 → MulOk ("?" : Str) k := fun k h0 h1 => mulOk_of 1 3 (by decide +kernel) h1 (by omega) (by decide) (by decide)
    have sl : sizeLine = 16777216 := by decide
    refine Ev.bin (Ev.bin (Ev.bin (Ev.bin (Ev.bin Ev.str (Ev.bin Ev.int (Ev.bin (by walk_at "ld") Ev.int (BinV.fdiv_i (by decide) (noPylong_lt (by decide)))) BinV.sub_i) (BinV.mul_s (mk _ (by omega) (by omega)))) Ev.str (BinV.add_s ?_)) (by walk_at "ld") (BinV.add_s ?_)) Ev.str (BinV.add_s ?_))
      (Ev.bin Ev.str (Ev.bin (by walk_at "ld") Ev.int (BinV.fdiv_i (by decide) (noPylong_lt (by decide)))) (BinV.mul_s (mk _ (by omega) (by omega)))) (BinV.add_s ?_)
    all_goals simp only [PySem.Str.length_append, e1, e2, sl]
    all_goals omega

end
section
open  PySem.Builtin PySem.Builtin.Str
set_option linter.unusedVariables false
set_option autoImplicit false
noncomputable def pB (b : Nat) : Nat := b % 6
noncomputable def aB (b : Nat) : Nat := 3 - b / 6
noncomputable def nB (b : Nat) : Nat := 32 / 2 ^ (b % 6)
noncomputable def SB' (b : Nat) : Str := signs (2 ^ (b % 6)) (nB b)
noncomputable def mB (b : Nat) : Nat := (SB' b).length
/-- the code points of the signs, by the place of the bit in its sign -/
noncomputable def sL0 : List Nat := [66, 68, 70, 72, 74, 76, 78, 80, 82, 84, 86, 88, 90, 98, 100, 102, 104, 106, 108, 110, 112, 114, 116, 118, 120, 122, 49, 51, 53, 55, 57, 47]
noncomputable def sL1 : List Nat := [67, 68, 71, 72, 75, 76, 79, 80, 83, 84, 87, 88, 97, 98, 101, 102, 105, 106, 109, 110, 113, 114, 117, 118, 121, 122, 50, 51, 54, 55, 43, 47]
noncomputable def sL2 : List Nat := [69, 70, 71, 72, 77, 78, 79, 80, 85, 86, 87, 88, 99, 100, 101, 102, 107, 108, 109, 110, 115, 116, 117, 118, 48, 49, 50, 51, 56, 57, 43, 47]
noncomputable def sL3 : List Nat := [73, 74, 75, 76, 77, 78, 79, 80, 89, 90, 97, 98, 99, 100, 101, 102, 111, 112, 113, 114, 115, 116, 117, 118, 52, 53, 54, 55, 56, 57, 43, 47]
noncomputable def sL4 : List Nat := [81, 82, 83, 84, 85, 86, 87, 88, 89, 90, 97, 98, 99, 100, 101, 102, 119, 120, 121, 122, 48, 49, 50, 51, 52, 53, 54, 55, 56, 57, 43, 47]
noncomputable def sL5 : List Nat := [103, 104, 105, 106, 107, 108, 109, 110, 111, 112, 113, 114, 115, 116, 117, 118, 119, 120, 121, 122, 48, 49, 50, 51, 52, 53, 54, 55, 56, 57, 43, 47]
noncomputable def sT : Nat → Str
  | 0 => ⟨⟨sL0⟩⟩ | 1 => ⟨⟨sL1⟩⟩ | 2 => ⟨⟨sL2⟩⟩ | 3 => ⟨⟨sL3⟩⟩ | 4 => ⟨⟨sL4⟩⟩ | _ => ⟨⟨sL5⟩⟩
theorem sT_is : ∀ p : _root_.Fin 6, signs (2 ^ p.val) (32 / 2 ^ p.val) = sT p.val := by decide +kernel
theorem SB_is (b : Nat) : SB' b = sT (b % 6) := sT_is ⟨b % 6, Nat.mod_lt _ (by decide)⟩
theorem sT_len : ∀ p : _root_.Fin 6, (sT p.val).length = 32 := by decide +kernel
theorem mB_is (b : Nat) : mB b = 32 := by
  unfold mB
  rw [SB_is]
  exact sT_len ⟨b % 6, Nat.mod_lt _ (by decide)⟩

end
section
open  PySem.Builtin PySem.Builtin.Str
set_option maxHeartbeats 4000000
set_option linter.unusedVariables false
set_option autoImplicit false
/-- the code words of ([&~|]) -/
noncomputable def twinCode : List Nat := [14, 14, 4, 1, 1, 9, 0, 64, 0, 1342177280, 0, 0, 0, 0, 0, 17, 0, 13, 11, 9, 0, 64, 0, 1342177280, 0, 0, 0, 0, 0, 17, 1, 1]
noncomputable def failedOut (m : Sre.M) : Bool := match m.outcome with
  | some .failed => true
  | _ => false
theorem twin_fails6 : ∀ p : Fin 6, failedOut ((Sre.forSearch twinCode.toArray (sT p.val).cps 1 0 (sT p.val).cps.size false).runFor 4) = true := by decide +kernel
theorem twin_fails (b : Fin 24) : failedOut ((Sre.forSearch twinCode.toArray (SB' b.val).cps 1 0 (SB' b.val).cps.size false).runFor 4) = true := by
  rw [SB_is]
  exact twin_fails6 ⟨b.val % 6, Nat.mod_lt _ (by decide)⟩
theorem forIn_rules {M : Model} {A : Around} {E : Value → Shared → Prop} {s : Shared} (p : Nat → Bool) (nm : Nat → String) {Q : PUnit → Shared → Prop} : ∀ (l : List Nat) , Q ⟨⟩ s →
    wpAny M A (forIn l PUnit.unit fun i _ => do
      if p i then rule (nm i)
      pure (ForInStep.yield PUnit.unit)) Q E s
  | [], h => by rw [List.forIn_nil]; exact wpAny_pure h
  | i :: l, h => by
    rw [List.forIn_cons]
    refine wpAny_bind ?_
    cases hp : p i with
    | true => rw [if_pos rfl]; exact wpAny_bind (wpAny_rule (wpAny_pure (forIn_rules p nm l h)))
    | false => rw [if_neg (by decide)]; exact wpAny_pure (forIn_rules p nm l h)
theorem run_failed {M : Model} {A : Around} {E : Value → Shared → Prop} {s : Shared} {m : Sre.M} (h : failedOut (m.runFor 4) = true) {Q : Option Sre.M → Shared → Prop} (hQ : Q none s) : wpAny M A (Re.reRunToEnd m) Q E s := by
  have ho : (m.runFor 4).outcome = some .failed := by
    unfold failedOut at h
    cases e : (m.runFor 4).outcome with
    | none => rw [e] at h; cases h
    | some o => cases o with
      | failed => rfl
      | _ => rw [e] at h; cases h
  have hd : Re.reDrive (2 ^ 64) m = pure (m.runFor 4) := by
    have h2 : (2 : Nat) ^ 64 = (2 ^ 64 - 1) + 1 := by decide
    rw [h2, Re.reDrive]
    show (if (m.runFor 4).outcome.isSome = true then pure (m.runFor 4) else _) = _
    rw [ho]; rfl
  unfold Re.reRunToEnd
  rw [hd]
  refine wpAny_bind (wpAny_pure ?_)
  refine wpAny_bind (forIn_rules _ _ _ ?_)
  rw [ho]
  exact wpAny_pure hQ
theorem slot_sub : Slot "re.Pattern" "sub" "re.Pattern.sub" :=
  .of (owner := "re.Pattern") (n := "sub") (by rw [typeLookup_type, builtinLookup_eq_fast]; kernel_rfl) (by decide +kernel) (by decide +kernel) (by decide +kernel)
    (by first | exact .inl (by decide +kernel) | exact .inr (by decide +kernel)) (by rw [isSubtype_type]; kernel_rfl)
theorem entry_sub : entryFor table "re.Pattern.sub" = some Builtin.«re.Pattern.sub» := entryFor_of_tree (by kernel_rfl)
theorem entry_subloop : entryFor table "re.Pattern.sub.loop" = some Builtin.«re.Pattern.sub.loop» := entryFor_of_tree (by kernel_rfl)
theorem args_sub (a b c : Value) : argsOk "re.Pattern.sub" ⟨[a, b, c], []⟩ := by unfold argsOk; kernel_rfl
theorem type_sub : typeOf (.builtin "re.Pattern.sub") = pure (.type "method_descriptor") := by show builtinType _ = _; rw [builtinType_eq_fast]; kernel_rfl
theorem plain_re : PlainAttrs "re.Pattern" := by
  refine ⟨?_, by rw [typeLookup_type, builtinLookup_eq_fast]; kernel_rfl⟩
  first
    | exact ⟨"re.Pattern.__getattribute__", by rw [typeLookup_type, builtinLookup_eq_fast]; kernel_rfl, by decide +kernel⟩
    | exact ⟨"object.__getattribute__", by rw [typeLookup_type, builtinLookup_eq_fast]; kernel_rfl, by decide +kernel⟩

end
section
open  PySem.Builtin PySem.Builtin.Str
set_option maxHeartbeats 4000000
set_option linter.unusedVariables false
set_option autoImplicit false
noncomputable abbrev reObj : Obj := { cls := .type "re.Pattern", data := .fields #[.str (Str.ofString "([&~|])") 399, .int 32 434, .int 1 0, .none, .none, .ref 116, .int 0 0] }
noncomputable abbrev reTup : Obj := { cls := .type "tuple", data := .seq (twinCode.map fun (n : Nat) => Value.int n 0).toArray }
section
variable {M : Model} {A : Around} {E : Value → Shared → Prop} {s : Shared}
theorem whole {S : Str} {t : Tok} (h1 : s.heap.get? 117 = some reObj) (h2 : s.heap.get? 116 = some reTup) {Q : Re.ReTarget → Shared → Prop}
    (hQ : Q ⟨.ref 117, .str S t, twinCode.toArray, S.cps, 0, 1, 0, S.cps.size⟩ s) : wpAny M A (Re.reWholeTarget (.ref 117) (.str S t)) Q E s := by
  unfold Re.reWholeTarget
  obtain ⟨hp, g, d, tk, os⟩ := s
  have h1' : hp.get? 117 = some reObj := h1
  have h2' : hp.get? 116 = some reTup := h2
  unfold Re.reRawItems
  repeat (any_goals (first | assumption | wp_step))
  have e1 : Array.map Int.toNat (Array.map Re.reRawOf (twinCode.map fun (n : Nat) => Value.int n 0).toArray) = twinCode.toArray := by decide +kernel
  have e3 : Re.ReTarget.mk (.ref 117) (.str S t) (Array.map Int.toNat (Array.map Re.reRawOf (twinCode.map fun (n : Nat) => Value.int n 0).toArray)) S.cps 0 1 0 S.cps.size = ⟨.ref 117, .str S t, twinCode.toArray, S.cps, 0, 1, 0, S.cps.size⟩ := by rw [e1]
  rw [← e3] at hQ
  exact hQ
end
section
variable {prog : Program} {w : World} {A : Around} {s : Shared}
theorem run_subloop {S : Str} {t : Tok} {f L : Addr} {n : Nat} {R : Result → Shared → Prop} (b : Fin 24) (hS : S = SB' b.val) (h1 : s.heap.get? 117 = some reObj) (h2 : s.heap.get? 116 = some reTup) (hl : s.heap.get? L = some (lobj [] n))
    (hR : ∀ t' k h', (∀ b o, b ≠ L → s.heap.get? b = some o → h'.get? b = some o) → R (.ok (.ret (.str S t'))) { s with heap := h', toks := k }) :
    codeAny (model prog w) A (.builtin "re.Pattern.sub.loop" ⟨[.ref 117, .str S t, .ref f, rawInt 1, rawInt 0, rawInt 0, rawInt 0, rawInt 0, .bool false, .ref L, .bool false], []⟩) R s := by
  refine codeAny_builtin entry_subloop ?_
  unfold Builtin.«re.Pattern.sub.loop»
  refine wpAny_bind (whole h1 h2 ?_)
  have hf := twin_fails b
  rw [← hS] at hf
  obtain ⟨hp, g, d, tk, os⟩ := s
  have h1' : hp.get? 117 = some reObj := h1
  have h2' : hp.get? 116 = some reTup := h2
  have hl' : hp.get? L = some (lobj [] n) := hl
  dsimp only [rawInt]
  rw [if_neg (by decide)]
  unfold Re.reNextFound
  refine wpAny_bind ?_
  rw [if_neg (by decide)]
  show wpAny _ _ (Re.reRunToEnd (Sre.forSearch twinCode.toArray S.cps 1 0 S.cps.size false)) _ _ _
  with_reducible refine run_failed hf ?_
  dsimp only
  have hne : 0 < S.cps.size ∧ S.cps.size ≤ 1000 := by rw [hS]; clear hf h1 h2 hl hR hS; revert b; decide +kernel
  have hsz : S.length ≤ 1000 := hne.2
  have hex : (⟨S.cps.extract (Int.toNat 0) S.cps.size⟩ : Str) = S := by
    show (⟨S.cps.extract 0 S.cps.size⟩ : Str) = S
    rw [Array.extract_size]
  rw [if_pos (show Int.toNat 0 < S.cps.size from hne.1)]
  unfold Re.reSlice
  rw [if_pos (by decide)]
  rw [hex]
  refine wpAny_bind (wpAny_mkStr ?_ (by simp only [sizeLine]; omega))
  refine wpAny_bind (wpAny_updateSeq (o := lobj [] n) hl' rfl ?_)
  refine wpAny_bind ?_
  rw [if_pos (by decide)]
  have hz0 : (⟨S.cps.extract 0 0⟩ : Str) = ⟨#[]⟩ := by simp
  rw [hz0]
  refine wpAny_mkStr ?_ (by decide)
  have hl2 : (hp.update L (Obj.mapSeq (·.push (Value.str S tk)))).get? L = some (Obj.mapSeq (·.push (Value.str S tk)) (lobj [] n)) := Heap.get?_update_self _ hl' rfl
  refine wpAny_bind (wpAny_seqItems hl2 rfl ?_)
  rw [if_neg (by simp)]
  refine wpAny_bind ?_
  rw [if_pos (by decide)]
  refine join_listW (items := #[Value.str S tk]) (ys := [S]) ⟨_, hl2, rfl, _, rfl⟩ (.cons _ _ .nil) (by decide) (by simp; omega) fun t' k => ?_
  rw [if_neg (by decide)]
  have hj : Txt.join ⟨#[]⟩ [S] = S := by
    cases S
    simp [Txt.join, glued]
  rw [hj]
  refine wpAny_pure ?_
  refine hR _ _ _ fun b o hb e => ?_
  exact (Heap.get?_update_ne _ _ _ _ hb).trans e
end

end
section
open  PySem.Builtin PySem.Builtin.Str
set_option maxHeartbeats 4000000
set_option linter.unusedVariables false
set_option autoImplicit false
section
variable {prog : Program} {w : World} {A A' : Around} {s : Shared}
theorem run_sub {S : Str} {t : Tok} {f : Addr} {fo : Obj} {R : Result → Shared → Prop} (b : _root_.Fin 24) (hS : S = SB' b.val) (h1 : s.heap.get? 117 = some reObj) (h2 : s.heap.get? 116 = some reTup) (hf : s.heap.get? f = some fo) (hfc : fo.cls = .type "function")
    (hR : ∀ t' k h', (∀ b o, s.heap.get? b = some o → h'.get? b = some o) → R (.ok (.ret (.str S t'))) { s with heap := h', toks := k }) :
    wpAny (model prog w) A' (Builtin.«re.Pattern.sub» ⟨[.ref 117, .ref f, .str S t], []⟩) (fun fin s' => match fin with | .done f => R (.ok f) s' | .again c' => c'.quiet = true ∧ codeAny (model prog w) A c' R s') (fun e s' => R (.error e) s') s := by
  unfold Builtin.«re.Pattern.sub» Re.reSubstitute
  dsimp only
  refine wpAny_bind ?_
  have hn : Re.reNamed "re.Pattern.sub" "sub" ["repl", "string", "count"] 2 [.ref f, .str S t] [] = pure [some (.ref f), some (.str S t), none] := by
    rfl
  refine wpAny_of_eq hn ?_
  dsimp only
  refine wpAny_bind (wpAny_pure ?_)
  have hlk : typeLookup (.type "function") (Str.ofString "__call__") = pure (some (.builtin "function.__call__")) := by
    first | rfl | kernel_rfl
  unfold specialOf
  refine wpAny_bind (wpAny_bind (wpAny_typeOf (T := "function") ⟨_, hf, hfc⟩ ?_))
  refine wpAny_of_eq hlk ?_
  rw [if_pos (show (some (Value.builtin "function.__call__")).isSome = true from rfl)]
  refine wpAny_bind (wpAny_pure ?_)
  rw [if_pos (show (some (Value.builtin "function.__call__")).isSome = true from rfl)]
  refine wpAny_bind (wpAny_pure ?_)
  refine wpAny_bind (wpAny_holding (whole h1 h2 ?_))
  dsimp only
  rw [if_pos (by decide)]
  have hnh : Re.reNotHeld "re.Pattern.sub" (Value.str S t) = pure () := by rfl
  refine wpAny_bind (wpAny_of_eq hnh ?_)
  refine wpAny_bind (wpAny_newList ?_)
  refine wpAny_pure ⟨Code.quiet_builtin _ (by decide +kernel), ?_⟩
  refine run_subloop (n := 0) b hS (Heap.get?_push_of_some _ h1) (Heap.get?_push_of_some _ h2) (Heap.get?_push_size _ rfl) ?_
  intro t' k h' hk
  refine hR _ _ _ fun b o e => ?_
  have hb : b ≠ s.heap.objs.size := by
    intro hb
    obtain ⟨e1, _⟩ := Heap.get?_some_iff.mp e
    rw [hb] at e1
    simp at e1
  exact hk b o hb (Heap.get?_push_of_some _ e)
end

end
section
open  PySem.Builtin PySem.Builtin.Str
set_option maxHeartbeats 4000000
set_option linter.unusedVariables false
set_option autoImplicit false
variable {P : Params} {C : Cx} {env : Env} {σ : St} {mg mb : Addr}
theorem Ev.reSub {o e1 e2 : Expr} {S : Str} {apos pos : Pos} {pl : Sem Bool} (b : _root_.Fin 24) (hS : S = SB' b.val) (g1 : C.g.get? 117 = some reObj) (g2 : C.g.get? 116 = some reTup)
    (h1 : Ev C env σ o (.v (.ref 117)))
    (hlam : ∀ {s : Shared} {Q : Value → Shared → Prop} {E : Value → Shared → Prop}, Inv C s → Frm env σ s → (∀ f o s', Ext C.fs s s' → s'.heap.get? f = some o → o.cls = .type "function" → Stable o → Q (.ref f) s') → wpAny C.M C.A (eval e1 env) Q E s)
    (h2 : Ev C env σ e2 (.s S))
    (he : eval (.Call (.Attribute o "sub" apos) [e1, e2] [] pos) env = (do
      let ov ← eval o env
      standAt apos.atName
      let (f, first) ← holding [ov] (getMethod ov "sub" pl)
      callWith pos f first (backTo pos (starEach [e1, e2] env)) []) := by rfl)
    (hs : starEach [e1, e2] env = (false, eval e1 env) :: starEach [e2] env := by rfl) (hs2 : starEach [e2] env = (false, eval e2 env) :: starEach [] env := by rfl)
    (hp : (backTo pos (starEach [e2] env)).any (·.1) = false := by rfl) : Ev C env σ (.Call (.Attribute o "sub" apos) [e1, e2] [] pos) (.s S) :=
  .mk fun s I F => by
    refine MethodCall_ (h1.use I F fun v s1 x1 I1 F1 r1 => ?_) he
    have hv : v = .ref 117 := by
      cases r1 with
      | v => rfl
    subst hv
    have k1 := I1.base _ _ g1
    refine getMethod_builtin ⟨_, k1, rfl⟩ plain_re slot_sub type_sub (fun a e => by cases e; exact ⟨_, k1, rfl⟩) ?_
    dsimp only
    refine callWith_method1 ?_ hs hp
    refine args_cons (hlam I1 F1 fun f fo s2 x2 ef fc fst => ?_) hs
    have I2 := I1.ext x2
    have F2 := I1.frm x2 F1
    refine args_cons (h2.use I2 F2 fun v s3 x3 I3 F3 r3 => args_nil ?_) hs2
    obtain ⟨t, rfl⟩ := r3.s_inv
    have f3 := I2.stable x3 ef fst
    refine wpAny_call (codeAny_call_builtin slot_sub.plain entry_sub (slot_sub.check _ _ _ _ _ _ _ _ ⟨_, I3.base _ _ g1, rfl⟩ (args_sub _ _ _) (run_sub (R := fun r s' => match r with | .ok (.ret v) => Ext C.fs s s' ∧ Rep σ.mu s'.heap v (PV.s S) | .ok _ => False | .error _ => False) b hS (I3.base _ _ g1) (I3.base _ _ g2) f3 fc ?_)))
    intro t' k h' hk
    exact ⟨((x1.trans x2).trans x3).trans ⟨fun b o e _ _ => hk b o e, fun b o e _ => ⟨o.slots, hk b o e⟩, rfl, rfl, fun ps e tt => ⟨#[], by simpa using hk _ _ e, by simpa using tt⟩⟩, Rep.s⟩

end
local macro_rules | `(tactic| walk_at "fo") => `(tactic| exact (Gok.X (by assumption)) _ _ (by with_unfolding_all rfl))
section
open  PySem.Builtin PySem.Builtin.Str
set_option maxHeartbeats 4000000
set_option linter.unusedVariables false
set_option autoImplicit false
variable {C : Cx} {env : Env} {σ : St} {mu : List Addr} {mg mb : Str → Option Value} {P : Params} {X : Fx} {Q : St → Res → Prop}
theorem CallV.typeY {b : Array UInt8} : CallV C mu (.type "type") [.y b] (.v (.type "bytes")) := by
  refine ⟨?_⟩
  intro vs s I hm rl
  obtain ⟨v, rfl, r⟩ := rl.one
  obtain ⟨t, rfl⟩ := r.y_inv
  exact call_type_of (typeIs_bytes s b t) rfl ⟨Ext.refl _ _, Rep.v⟩
theorem CallV.typeB {b : Bool} : CallV C mu (.type "type") [.b b] (.v (.type "bool")) := by
  refine ⟨?_⟩
  intro vs s I hm rl
  obtain ⟨v, rfl, r⟩ := rl.one
  rw [r.b_inv]
  exact call_type_of (Tx := "bool") rfl rfl ⟨Ext.refl _ _, Rep.v⟩
theorem CmpV.is_self {a : Value} (hp : plainIs a a = true) : CmpV C mu .Is (.v a) (.v a) true := by
  refine ⟨?_⟩
  intro v w s I r1 r2
  rw [r1.v_inv, r2.v_inv]
  exact wpAny_is_self hp ⟨rfl, Ext.refl _ _⟩
theorem CmpV.isNot_self {a : Value} (hp : plainIs a a = true) : CmpV C mu .IsNot (.v a) (.v a) false := by
  refine ⟨?_⟩
  intro v w s I r1 r2
  rw [r1.v_inv, r2.v_inv]
  exact wpAny_isNot_self hp ⟨rfl, Ext.refl _ _⟩
theorem CmpV.is_bNone {b : Bool} : CmpV C mu .Is (.b b) (.v .none) false := by
  refine ⟨?_⟩
  intro v w s I r1 r2
  rw [r1.b_inv, r2.v_inv]
  exact wpAny_is_other rfl (fun e => nomatch e) ⟨rfl, Ext.refl _ _⟩
theorem Ev.non {k : Nat} {pos : Pos} : Ev C env σ (.Constant .none k pos) (.v .none) := Ev.mk fun s I _ => by
  with_unfolding_all exact wpAny_pure (a := Value.none) ⟨Ext.refl _ _, Rep.v⟩
theorem Tst.or12 {a b : Expr} {rest : List Expr} {pos : Pos} (h1 : Tst C env σ a false) (h2 : Tst C env σ b true) : Tst C env σ (.BoolOp .Or (a :: b :: rest) pos) true := by
  refine ⟨?_⟩
  intro s I F
  with_reducible refine isTrue_or (h1.use I F fun s1 x1 I1 F1 => ?_)
  with_reducible refine itf (isTrue_or (h2.use I1 F1 fun s2 x2 I2 F2 => ?_))
  exact itt ⟨rfl, x1.trans x2⟩
theorem fn_buffer (g : Gok P C.g mg mb) (hr : Rm C 1) {b : Array UInt8} : CallV C mu (.ref 89) [.y b] (.y b) := by
  refine' CallV.fk (ns := ["data"]) (W := []) g (by walk_at "wr") (by walk_at "wr") (by walk_at "wr") ?room rfl (by walk_at "wr") (by walk_at "wr") (by walk_at "wr") ?hbind ?hkind ?hnd ?hW (by walk_at "wr") (by walk_at "wr") (by walk_at "wr") fun L s O => ?run
  case room => exact hr.room
  case hbind =>
    intro vs h
    match vs, h with
    | [v0], _ => walk_at "wr"
  case hkind => exact List.forall_mem_cons.mpr ⟨Or.inl (by walk_at "wr"), List.forall_mem_nil _⟩
  case hnd => decide +kernel
  case hW => exact List.forall_mem_nil _
  case run =>
    refine Run.cons (Exe.assign O (p := .v (.type "bytes")) (Or.inl (by walk_at "wr")) (Ev.callT (by walk_at "bn") (EvA.cons (by walk_at "ld") EvA.nil) CallV.typeY) ?_ (by walk_at "wr"))
    exact Run.ite O (b := true) (Tst.cmp (by walk_at "ld") (by walk_at "bn") (CmpV.is_self rfl)) (fun _ => Run.cons (Exe.ret O (by walk_at "ld") (RetsP.pl rfl))) (fun h => nomatch h)
theorem fn_truth (g : Gok P C.g mg mb) (hr : Rm C 1) : CallV C mu (.ref 96) [.b false] (.b false) := by
  refine' CallV.fk (ns := ["x"]) (W := []) g (by walk_at "wr") (by walk_at "wr") (by walk_at "wr") ?room rfl (by walk_at "wr") (by walk_at "wr") (by walk_at "wr") ?hbind ?hkind ?hnd ?hW (by walk_at "wr") (by walk_at "wr") (by walk_at "wr") fun L s O => ?run
  case room => exact hr.room
  case hbind =>
    intro vs h
    match vs, h with
    | [v0], _ => walk_at "wr"
  case hkind => exact List.forall_mem_cons.mpr ⟨Or.inl (by walk_at "wr"), List.forall_mem_nil _⟩
  case hnd => decide +kernel
  case hW => exact List.forall_mem_nil _
  case run =>
    refine Run.cons (Exe.assign O (p := .v (.type "bool")) (Or.inl (by walk_at "wr")) (Ev.callT (by walk_at "bn") (EvA.cons (by walk_at "ld") EvA.nil) CallV.typeB) ?_ (by walk_at "wr"))
    exact Run.ite O (b := true) (Tst.or12 (Tst.cmp (by walk_at "ld") Ev.non CmpV.is_bNone) (Tst.cmp (by walk_at "ld") (by walk_at "bn") (CmpV.is_self rfl))) (fun _ => Run.cons (Exe.ret O (p := .b false) (Ev.ifexp (x := false) (Tst.val (by walk_at "ld")) (fun h => nomatch h) (fun _ => Ev.boo)) (RetsP.pl rfl))) (fun h => nomatch h)
noncomputable def b64L : List UInt8 := [65, 66, 67, 68, 69, 70, 71, 72, 73, 74, 75, 76, 77, 78, 79, 80, 81, 82, 83, 84, 85, 86, 87, 88, 89, 90, 97, 98, 99, 100, 101, 102, 103, 104, 105, 106, 107, 108, 109, 110, 111, 112, 113, 114, 115, 116, 117, 118, 119, 120, 121, 122, 48, 49, 50, 51, 52, 53, 54, 55, 56, 57, 43, 47]
/-- the sign's code -/
noncomputable def sgc (k : Int) : Int := (b64L.getD k.toNat 0).toNat
theorem sgc_lt (k : Int) : 0 ≤ sgc k ∧ sgc k < 256 := by
  unfold sgc
  have := (b64L.getD k.toNat 0).toNat_lt
  omega
noncomputable def wl (lc : Int) (lb : Nat) (out : List Int) : Nat × List Int :=
  if 6 ≤ lb then wl lc (lb - 6) (out ++ [sgc ((lc.fdiv (2 ^ (lb - 6))) % 64)]) else (lb, out)
termination_by lb
noncomputable def lcStep (lc c : Int) : Int := Builtin.bitOr (lc * 2 ^ 8) c % 65536
noncomputable def encTo : List Int → Int × Nat × List Int
  | [] => (0, 0, [])
  | c :: cs => (lcStep (encTo cs).1 c, wl (lcStep (encTo cs).1 c) ((encTo cs).2.1 + 8) (encTo cs).2.2)
theorem wl_lt (lc : Int) (lb : Nat) (out : List Int) : (wl lc lb out).1 < 6 ∧ (∀ n ∈ out, 0 ≤ n ∧ n < 256) → (∀ n ∈ (wl lc lb out).2, 0 ≤ n ∧ n < 256) := by
  induction lb using Nat.strongRecOn generalizing out with
  | _ lb ih =>
    intro h
    rw [wl] at h ⊢
    by_cases h6 : 6 ≤ lb
    · rw [if_pos h6] at h ⊢
      refine ih (lb - 6) (by omega) _ ⟨h.1, fun n hn => ?_⟩
      rcases List.mem_append.mp hn with hn | hn
      · exact h.2 n hn
      · rw [List.mem_singleton.mp hn]; exact sgc_lt _
    · rw [if_neg h6]; exact h.2
theorem wl_fst (lc : Int) (lb : Nat) (out : List Int) : (wl lc lb out).1 < 6 := by
  induction lb using Nat.strongRecOn generalizing out with
  | _ lb ih =>
    rw [wl]
    by_cases h6 : 6 ≤ lb
    · rw [if_pos h6]; exact ih (lb - 6) (by omega) _
    · rw [if_neg h6]; omega
theorem wl_len (lc : Int) (lb : Nat) (out : List Int) : (wl lc lb out).2.length ≤ out.length + lb := by
  induction lb using Nat.strongRecOn generalizing out with
  | _ lb ih =>
    rw [wl]
    by_cases h6 : 6 ≤ lb
    · rw [if_pos h6]
      have := ih (lb - 6) (by omega) (out ++ [sgc ((lc.fdiv (2 ^ (lb - 6))) % 64)])
      rw [List.length_append, List.length_singleton] at this
      omega
    · rw [if_neg h6]; show out.length ≤ _; omega
theorem encTo_bounds : ∀ cs : List Int, 0 ≤ (encTo cs).1 ∧ (encTo cs).1 < 65536 ∧ (encTo cs).2.1 < 6 ∧ (∀ n ∈ (encTo cs).2.2, 0 ≤ n ∧ n < 256) ∧ (encTo cs).2.2.length ≤ 14 * cs.length
  | [] => ⟨by decide, by decide, by decide, (fun _ h => by cases h), by decide⟩
  | c :: cs => by
    obtain ⟨h1, h2, h3, h4, h5⟩ := encTo_bounds cs
    have w1 := wl_fst (lcStep (encTo cs).1 c) ((encTo cs).2.1 + 8) (encTo cs).2.2
    have w2 := wl_len (lcStep (encTo cs).1 c) ((encTo cs).2.1 + 8) (encTo cs).2.2
    refine ⟨?_, ?_, w1, wl_lt _ _ _ ⟨w1, h4⟩, ?_⟩
    · show 0 ≤ lcStep _ _
      unfold lcStep; omega
    · show lcStep _ _ < _
      unfold lcStep; omega
    · show (wl _ _ _).2.length ≤ _
      rw [List.length_cons]; omega
/-- what the code writes of three octets -/
noncomputable def b64of (cs : List Int) : Array UInt8 := byteArr (encTo cs.reverse).2.2
theorem fn_b2a (g : Gok P C.g mg mb) (hr : Rm C 2) {b : Array UInt8} (hb : b.size ≤ 100) (h0 : (encTo (b.toList.map fun c => (c.toNat : Int)).reverse).2.1 = 0) : CallK C mu (.ref 104) [("newline", .bool false)] [.y b] (.y (b64of (b.toList.map fun c => (c.toNat : Int)))) := by
  refine' CallK.fn (ns := ["data", "newline"]) (ps := [.y b, .b false]) (W := []) g.nl (g.X 104 _ (by walk_at "wr")) rfl (codeRec_of g.X (by walk_at "wr")) hr.room rfl (fun L s O => ?run) (by walk_at "wr") (by walk_at "wr") (by walk_at "wr") (by walk_at "wr") ?hbind ?hkind (by decide +kernel) (fun _ h => nomatch h) (by walk_at "wr") (by walk_at "wr") (by walk_at "wr")
  case hbind =>
    intro vs s I rl
    obtain ⟨v, rfl, r⟩ := rl.one
    exact ⟨[v, .bool false], BindsTo.of_eq (by walk_at "wr"), .cons r (.cons Rep.b .nil)⟩
  case hkind => exact List.forall_mem_cons.mpr ⟨Or.inl (by walk_at "wr"), List.forall_mem_cons.mpr ⟨Or.inl (by walk_at "wr"), List.forall_mem_nil _⟩⟩
  case run =>
    have sl' : sizeLine = 16777216 := by decide
    refine Run.cons (Exe.assign O (p := .y b) (Or.inl (by walk_at "wr")) (Ev.callF (by walk_at "gn") (by walk_at "fo") rfl (EvA.cons (by walk_at "ld") EvA.nil) (fn_buffer g.fn hr.fn)) ?_ (by walk_at "wr"))
    refine Run.cons (Exe.assign O (p := .b false) (Or.inl (by walk_at "wr")) (Ev.callF (by walk_at "gn") (by walk_at "fo") rfl (EvA.cons (by walk_at "ld") EvA.nil) (fn_truth g.fn hr.fn)) ?_ (by walk_at "wr"))
    refine Run.cons (Exe.own O (xs := []) (Or.inl (by walk_at "wr")) (EvF.list EvA.nil rfl) (fun al hal => ?_) (by walk_at "wr"))
    refine Run.cons (Exe.assign O (p := .i 0) (Or.inl (by walk_at "wr")) Ev.int ?_ (by walk_at "wr"))
    refine Run.cons (Exe.assign O (p := .i 0) (Or.inl (by walk_at "wr")) Ev.int ?_ (by walk_at "wr"))
    generalize hcs : (b.toList.map fun c => (c.toNat : Int)) = cs at *
    have hlen : cs.length ≤ 100 := by rw [← hcs, List.length_map, Array.length_toList]; exact hb
    have hps : (b.toList.map fun c => PV.i c.toNat) = cs.map PV.i := by rw [← hcs, List.map_map]; rfl
    refine Run.for O (ps := cs.map PV.i) (p := .y b) (Or.inl (by walk_at "wr")) (by walk_at "ld") (hps ▸ Itb.bytes) rfl
      (fun k σ => k ≤ cs.length ∧ σ = ⟨mu, [al], [("newline", .b false), ("out", .la al ((encTo (cs.take k).reverse).2.2.map .i)), ("leftbits", .i ((encTo (cs.take k).reverse).2.1 : Nat)), ("leftchar", .i (encTo (cs.take k).reverse).1)]⟩)
      ⟨mu, [al], [("newline", .b false), ("out", .la al []), ("leftbits", .i (0 : Nat)), ("leftchar", .i 0)]⟩ (Can.of rfl rfl (by walk_at "mems")) ⟨Nat.zero_le _, rfl⟩ ?turn ?hend
    case turn =>
      rintro k q σ hq ⟨hk, rfl⟩
      rw [List.getElem?_map] at hq
      obtain ⟨c, hc, rfl⟩ := Option.map_eq_some_iff.mp hq
      have hlt : k < cs.length := (List.getElem?_eq_some_iff.mp hc).1
      have htake : (cs.take (k + 1)).reverse = c :: (cs.take k).reverse := by
        rw [List.take_add_one, hc, List.reverse_append]; rfl
      obtain ⟨b1, b2, b3, b4, b5⟩ := encTo_bounds (cs.take k).reverse
      have b5' : (encTo (cs.take k).reverse).2.2.length ≤ 1400 := by
        rw [List.length_reverse, List.length_take] at b5; omega
      rw [htake]
      show Run _ _ _ (Turn (fun σ2 => ∃ σ3, Can σ2 σ3 ∧ (k + 1 ≤ cs.length ∧ σ3 = ⟨mu, [al], [("newline", .b false), ("out", .la al ((wl (lcStep (encTo (cs.take k).reverse).1 c) ((encTo (cs.take k).reverse).2.1 + 8) (encTo (cs.take k).reverse).2.2).2.map .i)), ("leftbits", .i ((wl (lcStep (encTo (cs.take k).reverse).1 c) ((encTo (cs.take k).reverse).2.1 + 8) (encTo (cs.take k).reverse).2.2).1 : Nat)), ("leftchar", .i (lcStep (encTo (cs.take k).reverse).1 c))]⟩)) _)
      generalize (encTo (cs.take k).reverse).1 = lc at *
      generalize (encTo (cs.take k).reverse).2.1 = lb at *
      generalize (encTo (cs.take k).reverse).2.2 = out at *
      have hlc : lcStep lc c = Builtin.bitAnd (Builtin.bitOr (lc * 2 ^ ((8 : Int)).toNat) c) 65535 := by
        rw [bitAnd_m16]; rfl
      refine Run.cons (Exe.assign O (p := .i (lcStep lc c)) (Or.inl (by walk_at "wr")) ?e1 ?_ (by walk_at "wr"))
      case e1 =>
        rw [hlc]
        exact Ev.bin (Ev.bin (Ev.bin (by walk_at "ld") Ev.int (BinV.shl_i (by decide) (by decide) (by omega))) (by walk_at "ld") BinV.or_i) Ev.int BinV.and_i
      refine Run.cons (Exe.assign O (p := .i ((lb + 8 : Nat) : Int)) (Or.inl (by walk_at "wr")) (Ev.is (Ev.bin (by walk_at "ld") Ev.int BinV.add_i) rfl) ?_ (by walk_at "wr"))
      have hl0 : 0 ≤ lcStep lc c ∧ lcStep lc c < 65536 := by unfold lcStep; omega
      generalize lcStep lc c = lc' at *
      refine Run.while O (fun n σ => ∃ (lb1 : Nat) (out1 : List Int), n = lb1 ∧ lb1 ≤ 13 ∧ out1.length ≤ 1413 - lb1 ∧ wl lc' lb1 out1 = wl lc' (lb + 8) out ∧ σ = ⟨mu, [al], [("newline", .b false), ("out", .la al (out1.map .i)), ("leftbits", .i lb1), ("leftchar", .i lc')]⟩) ?w (lb + 8)
        ⟨mu, [al], [("newline", .b false), ("out", .la al (out.map .i)), ("leftbits", .i ((lb + 8 : Nat) : Int)), ("leftchar", .i lc')]⟩ (Can.of rfl rfl (by walk_at "mems")) ⟨lb + 8, out, rfl, by omega, by omega, rfl, rfl⟩
      case w =>
        rintro lb1 σ ⟨_, out1, rfl, h13, hol, hw, rfl⟩
        refine ⟨decide ((6 : Int) ≤ (lb1 : Int)), Tst.cmp (by walk_at "ld") Ev.int CmpV.ge_i, fun hb => ?_, fun hb => ?_⟩
        · have hb := of_decide_eq_false hb
          refine Run.nil ⟨_, ?_, hlt, rfl⟩
          rw [← hw, wl, if_neg (by omega)]
          exact Can.refl
        · have hb := of_decide_eq_true hb
          have hm0 : 0 ≤ (lc'.fdiv (2 ^ (lb1 - 6))) % 64 := by omega
          have hm1 : (lc'.fdiv (2 ^ (lb1 - 6))) % 64 < 64 := by omega
          refine' Run.cons (Exe.append O (a := al) (xs := out1.map .i) (p := .i (sgc ((lc'.fdiv (2 ^ (lb1 - 6))) % 64))) (by walk_at "ld") List.mem_cons_self ?e3 rfl (by rw [List.length_map]; omega) ?up ?_)
          case e3 =>
            have hsh : ((lb1 : Int) - 6).toNat = lb1 - 6 := by omega
            refine Ev.is (Ev.item (p := .y b64L.toArray) (Ev.gval (by walk_at "gn") (fun h => Rep.y)) (Ev.bin (Ev.bin (by walk_at "ld") (Ev.bin (by walk_at "ld") Ev.int BinV.sub_i) (BinV.shr_i (by omega))) Ev.int BinV.and_i) (ItV.bytes (by decide) (by rw [bitAnd_m6, hsh]; exact hm0) (by rw [bitAnd_m6, hsh]; exact hm1))) ?_
            rw [bitAnd_m6, hsh]; rfl
          case up => exact UpdL.miss (fun _ h => nomatch h) (UpdL.hit (UpdL.miss (fun _ h => nomatch h) (UpdL.miss (fun _ h => nomatch h) UpdL.nil)))
          refine Run.cons (Exe.assign O (p := .i ((lb1 - 6 : Nat) : Int)) (Or.inl (by walk_at "wr")) (Ev.is (Ev.bin (by walk_at "ld") Ev.int BinV.sub_i) (by congr 1; omega)) ?_ (by walk_at "wr"))
          refine Run.nil ⟨lb1 - 6, ⟨mu, [al], [("newline", .b false), ("out", .la al ((out1 ++ [sgc ((lc'.fdiv (2 ^ (lb1 - 6))) % 64)]).map .i)), ("leftbits", .i ((lb1 - 6 : Nat) : Int)), ("leftchar", .i lc')]⟩, by omega, Can.of rfl rfl ?_, lb1 - 6, out1 ++ [sgc ((lc'.fdiv (2 ^ (lb1 - 6))) % 64)], rfl, by omega, ?_, ?_, rfl⟩
          · rw [List.map_append]
            walk_at "mems"
          · rw [List.length_append, List.length_singleton]; omega
          · rw [← hw]
            conv => rhs; rw [wl]
            rw [if_pos (by omega)]
    case hend =>
      rintro σ ⟨hk, rfl⟩
      rw [List.length_map, List.take_length]
      rw [h0]
      obtain ⟨b1, b2, b3, b4, b5⟩ := encTo_bounds cs.reverse
      rw [List.length_reverse] at b5
      refine Run.ite O (b := false) (Tst.is (Tst.cmp (by walk_at "ld") Ev.int CmpV.eq_i) (by decide)) (fun h => nomatch h) (fun _ => ?_)
      refine Run.ite O (b := false) (Tst.is (Tst.cmp (by walk_at "ld") Ev.int CmpV.eq_i) (by decide)) (fun h => nomatch h) (fun _ => Run.nil (Run.nil ?_))
      refine Run.ite O (b := false) (Tst.val (by walk_at "ld")) (fun h => nomatch h) (fun _ => Run.nil ?_)
      exact Run.cons (Exe.ret O (Ev.callT (by walk_at "bn") (EvA.cons (by walk_at "ld") EvA.nil) (CallV.bytes (ns := (encTo cs.reverse).2.2) rfl b4 (by omega))) (RetsP.pl rfl))

end
section
set_option linter.unusedVariables false
set_option autoImplicit false
variable {C : Cx} {env : Env} {σ : St} {mu : List Addr}
/-- what a call leaves that writes to some objects of its own -/
structure ExW (fs wr : List Addr) (s s' : Shared) : Prop where
  keep : ∀ b o, s.heap.get? b = some o → b ∉ fs → b ∉ wr → b ≠ tabA → s'.heap.get? b = some o
  slot : ∀ b o, s.heap.get? b = some o → b ∈ fs → ∃ sl, s'.heap.get? b = some { o with slots := sl }
  gens : s'.gens = s.gens
  os : s'.os = s.os
  tab : ∀ ps : Array Value, s.heap.get? tabA = some (tabObj ps) → TriplesOk ps.toList → ∃ more, s'.heap.get? tabA = some (tabObj (ps ++ more)) ∧ TriplesOk (ps ++ more).toList
theorem Ext.exW {fs wr : List Addr} {s s' : Shared} (x : Ext fs s s') : ExW fs wr s s' := ⟨fun b o e h _ t => x.keep b o e h t, x.slot, x.gens, x.os, x.tab⟩
theorem ExW.trans {fs wr : List Addr} {s s' s'' : Shared} (x : ExW fs wr s s') (y : ExW fs wr s' s'') : ExW fs wr s s'' :=
  ⟨fun b o e h q t => y.keep b o (x.keep b o e h q t) h q t, fun b o e h => by
    obtain ⟨sl, e'⟩ := x.slot b o e h
    obtain ⟨sl', e''⟩ := y.slot b _ e' h
    exact ⟨sl', e''⟩, y.gens.trans x.gens, y.os.trans x.os, fun ps e t => by
    obtain ⟨m, e', t'⟩ := x.tab ps e t
    obtain ⟨m', e'', t''⟩ := y.tab _ e' t'
    exact ⟨m ++ m', by rw [← Array.append_assoc]; exact e'', by rw [← Array.append_assoc]; exact t''⟩⟩
theorem ExW.wider {fs wr wr' : List Addr} {s s' : Shared} (x : ExW fs wr s s') (h : ∀ a ∈ wr, a ∈ wr') : ExW fs wr' s s' :=
  ⟨fun b o e q r t => x.keep b o e q (fun z => r (h b z)) t, x.slot, x.gens, x.os, x.tab⟩
/-- the written ones were not there before -/
theorem ExW.ext {fs wr : List Addr} {s s' s'' : Shared} (x : Ext fs s s') (y : ExW fs wr s' s'') (h : ∀ a ∈ wr, s.heap.get? a = none) : Ext fs s s'' :=
  ⟨fun b o e q t => y.keep b o (x.keep b o e q t) q (fun z => by rw [h b z] at e; cases e) t, fun b o e q => by
    obtain ⟨sl, e'⟩ := x.slot b o e q
    obtain ⟨sl', e''⟩ := y.slot b _ e' q
    exact ⟨sl', e''⟩, y.gens.trans x.gens, y.os.trans x.os, fun ps e t => by
    obtain ⟨m, e', t'⟩ := x.tab ps e t
    obtain ⟨m', e'', t''⟩ := y.tab _ e' t'
    exact ⟨m ++ m', by rw [← Array.append_assoc]; exact e'', by rw [← Array.append_assoc]; exact t''⟩⟩
theorem ExW.but {fs wr : List Addr} {s : Shared} {a : Addr} {h' : Heap} {t : Tok} (ha : a ∈ wr) (hf : a ∉ fs) (ht : a ≠ tabA) (k : ∀ b o, b ≠ a → s.heap.get? b = some o → h'.get? b = some o) : ExW fs wr s { s with heap := h', toks := t } :=
  ⟨fun b o e _ q _ => k b o (fun z => q (z ▸ ha)) e, fun b o e q => ⟨o.slots, k b o (fun z => hf (z ▸ q)) e⟩, rfl, rfl, fun ps e t => ⟨#[], by simpa using k _ _ (fun z => ht z.symm) e, by simpa using t⟩⟩
theorem Inv.exW {s s' : Shared} {wr : List Addr} (I : Inv C s) (x : ExW C.fs wr s s') (h : ∀ a ∈ wr, C.g.get? a = none) : Inv C s' := by
  obtain ⟨outer, ho, hf⟩ := I.frames
  refine ⟨fun b o e => x.keep b o (I.base b o e) (fun q => by rw [(hf.mem q).1] at e; cases e) (fun q => by rw [h b q] at e; cases e) (fun q => by subst q; rw [I.gtab] at e; cases e), x.gens.trans I.gens, x.os.trans I.os, ?_, I.hand, ⟨outer, ho, hf.ext fun b hb o es n e d => ?_⟩, I.gtab⟩
  · obtain ⟨ps, e, t⟩ := I.tab
    obtain ⟨m, e', t'⟩ := x.tab ps e t
    exact ⟨_, e', t'⟩
  · obtain ⟨sl, e'⟩ := x.slot b o e hb
    exact ⟨_, es, n, e', d⟩
theorem Inv.stableW {s s' : Shared} {wr : List Addr} (I : Inv C s) (x : ExW C.fs wr s s') {b : Addr} {o : Obj} (e : s.heap.get? b = some o) (st : Stable o) (hw : b ∉ wr) : s'.heap.get? b = some o := by
  obtain ⟨outer, ho, hf⟩ := I.frames
  refine x.keep b o e (fun q => ?_) hw fun q => ?_
  · obtain ⟨_, _, o', es, n, e', d⟩ := hf.mem q
    rw [e] at e'; cases e'
    exact st.1 _ _ d
  · obtain ⟨ps, e', _⟩ := I.tab
    subst q
    rw [e] at e'; cases e'
    exact st.2.2 rfl
/-- an address that holds a stable object is no frame's, no table's -/
theorem Inv.off {s : Shared} (I : Inv C s) {b : Addr} {o : Obj} (e : s.heap.get? b = some o) (st : Stable o) : b ∉ C.fs ∧ b ≠ tabA := by
  obtain ⟨outer, ho, hf⟩ := I.frames
  refine ⟨fun q => ?_, fun q => ?_⟩
  · obtain ⟨_, _, o', es, n, e', d⟩ := hf.mem q
    rw [e] at e'; cases e'
    exact st.1 _ _ d
  · obtain ⟨ps, e', _⟩ := I.tab
    subst q
    rw [e] at e'; cases e'
    exact st.2.2 rfl
/-- the state with some objects out of sight -/
noncomputable abbrev hid (s : Shared) (as : List Addr) : Shared := { s with heap := hideAll s.heap as }
theorem hid_get {s : Shared} {as : List Addr} {b : Addr} {o : Obj} (e : s.heap.get? b = some o) (h : b ∉ as) : (hid s as).heap.get? b = some o := hideAll_get _ e h
theorem of_hid {s : Shared} {as : List Addr} {b : Addr} {o : Obj} (e : (hid s as).heap.get? b = some o) : s.heap.get? b = some o := of_hideAll _ e
theorem hid_none {s : Shared} {as : List Addr} {b : Addr} (h : b ∈ as) : (hid s as).heap.get? b = none := hideAll_none _ h
theorem hid_fresh {s : Shared} {as : List Addr} {b : Addr} (h : s.heap.get? b = none) : (hid s as).heap.get? b = none := by
  cases e : (hid s as).heap.get? b with
  | none => rfl
  | some o => rw [of_hid e] at h; cases h
theorem hid_of_none {s : Shared} {as : List Addr} {b : Addr} (h : (hid s as).heap.get? b = none) : b ∈ as ∨ s.heap.get? b = none := by
  by_cases q : b ∈ as
  · exact .inl q
  · refine .inr ?_
    cases e : s.heap.get? b with
    | none => rfl
    | some o => rw [hid_get e q] at h; cases h
theorem Ext.unhid {fs as : List Addr} {s s' : Shared} (x : Ext fs (hid s as) s') (hf : ∀ a ∈ as, a ∉ fs) (ht : tabA ∉ as) : ExW fs as s s' :=
  ⟨fun b o e q r t => x.keep b o (hid_get e r) q t, fun b o e q => x.slot b o (hid_get e fun z => hf b z q) q, x.gens, x.os, fun ps e t => x.tab ps (hid_get e ht) t⟩
/-- the value that a body gives back -/
noncomputable def retOf : Flow → Value
  | .ret v => v
  | _ => .none
theorem enter_code {hs : List Addr} {a : Addr} {o : Obj} {fd : FuncData} {body : List Stmt} {ns : List Str} {ps : List PV} {vs : List Value} {s : Shared} (hG : C.g.NoLimit) (ho : C.g.get? a = some o) (hd : o.data = .func fd) (hcd : C.g.CodeRec fd.code fd.qualname)
    (hroom : C.A.depth < recursionLimit) (hlen : ns.length = ps.length) (hhg : ∀ b ∈ hs, C.g.get? b = none) (hht : tabA ∉ hs)
    (hb : fd.body = .stmts body) (hcl : fd.closure = []) (hgl : fd.globals = mainGlobals) (hbl : fd.builtins = builtinsNs)
    (I : Inv C s) (rl : RepL [] s.heap vs ps) (hbind : bindArgs fd ⟨vs, []⟩ = pure (ns.zip vs))
    (hkind : ∀ n ∈ ns, fd.scope.names.lookup n = some .local) (hnd : ns.Nodup)
    (hco : fd.scope.isCoroutine = false) (hgen : fd.scope.isGenerator = false) (hk : fd.scope.kind = .function)
    {R : Result → Shared → Prop}
    (run : ∀ L s1, FxOK (fnX C fd a L (hid s hs) []) → At (fnX C fd a L (hid s hs) []) ⟨[], [], ns.zip ps⟩ s1 → (∀ b o, s.heap.get? b = some o → s1.heap.get? b = some o) → s.heap.get? L = none →
      wpAny C.M (fnX C fd a L (hid s hs) []).C.A (execs body (callEnvC fd L a)) (fun f s' => R (.ok (.ret (retOf f))) s')
        (fun e s' => wpAny C.M (fnX C fd a L (hid s hs) []).C.A (leaving (callEnvC fd L a) e) (fun _ s'' => R (.error e) s'') (fun e' s'' => R (.error e') s'') s') s1) :
    codeAny C.M C.A (.call (.ref a) ⟨vs, []⟩) R s := by
  have hvl : vs.length = ns.length := rl.length.trans hlen.symm
  have hzm : (ns.zip vs).map (·.1) = ns := by rw [List.map_fst_zip]; omega
  refine codeAny_call_function hroom (I.base _ _ ho) hd hco hgen hb ?_ (BindsTo.of_eq hbind _ _ _ _ ?_)
  · obtain ⟨c, oc, ws, t, h1, h2, h3, h4⟩ := hcd
    exact ⟨c, oc, ws, t, h1, I.base _ _ h2, h3, h4⟩
  rw [hcl]
  refine wpAny_newFunctionEnv_cells hk ?_ fun env he s1 x => ?_
  · intro e he
    have hn : e.1 ∈ ns := by rw [← hzm]; exact List.mem_map_of_mem he
    exact .inl (hkind _ hn)
  subst he
  refine ⟨?_, codeAny_func ?_⟩
  · obtain ⟨mc, h1, h2⟩ := hG
    exact ⟨mc, (I.bns h1).keeps x.toInCall.keep, h2⟩
  have x : InCallC s (callEnvC fd s.heap.objs.size a).locals (bindL (callEnvC fd s.heap.objs.size a).kindOf (ns.zip vs) fun _ => none) (callEnvC fd s.heap.objs.size a).cells (bindC (callEnvC fd s.heap.objs.size a).kindOf (ns.zip vs) fun _ => none) s1 := x
  obtain ⟨⟨⟨h1, tk, rfl⟩, hns, hkeep, hfresh⟩, hcell, hap, hab⟩ := x
  generalize hL : s.heap.objs.size = L at *
  have fL : s.heap.get? L = none := hL ▸ fresh_size _
  have gL : C.g.get? L = none := by
    cases e : C.g.get? L with
    | none => rfl
    | some o => rw [I.base _ _ e] at fL; cases fL
  have x01 : Ext C.fs s { s with heap := h1, toks := tk } := Ext.of_keeps hkeep rfl rfl
  have x01' : Ext C.fs (hid s hs) { s with heap := h1, toks := tk } := Ext.of_keeps (fun b o e => hkeep b o (of_hid e)) rfl rfl
  have I1 := I.ext x01
  obtain ⟨outer, hou, hfr⟩ := I1.frames
  have hLt : L ≠ tabA := fun q => by
    obtain ⟨ps, e, _⟩ := I.tab
    rw [← q, fL] at e; cases e
  have hdict : ∃ o es n, h1.get? L = some o ∧ o.data = .dict es n := ns_dict hns
  have O : FxOK (fnX C fd a L (hid s hs) []) := by
    refine ⟨fun b hb => ?_, fun b hb => ?_, hid_fresh fL, fun n hn => (nomatch hn), ?_, fun q => (hfr.mem q).2.1 rfl⟩
    · rcases List.mem_cons.mp hb with rfl | hb
      · exact .inr (hid_fresh fL)
      · exact .inl hb
    · show C.g.get? b = none
      rcases hid_of_none hb with q | q
      · exact hhg b q
      · cases e : C.g.get? b with
        | none => rfl
        | some o => have := I.base b o e; rw [q] at this; cases this
    · obtain ⟨ps, e, _⟩ := I.tab
      intro q
      rcases hid_of_none q with z | z
      · exact hht z
      · rw [e] at z; cases z
  refine run L _ O ?_ hkeep fL
  refine ⟨⟨I1.base, I1.gens, I1.os, I1.tab, I1.hand, ⟨callEnvC fd L a :: outer, ?_, ⟨?_, rfl, gL, hLt, hdict, hfr⟩⟩, I1.gtab⟩, ⟨hk, hgl, hbl, ⟨_, hns, fun y q e k => ?_⟩, fun y q e k => ?_, fun n c hc => ⟨_, hcell n c hc⟩, fun b hb => (nomatch hb)⟩, x01', fun b hb => nomatch hb⟩
  · show Option.map _ C.A.frames = _
    rw [hou]; rfl
  · show fd.scope.kind ≠ .module
    rw [hk]; decide
  · obtain ⟨v, h2, h3⟩ := rl.zip e
    exact ⟨v, bindL_lookup k (by rw [hzm]; exact hnd) h2, I.rep x01 h3⟩
  · have hn : y ∈ ns := (List.of_mem_zip (mem_of_lookup e)).1
    exact absurd (hkind y hn) k

end
section
open  Builtin Builtin.ObjectAttr Builtin.Getset_descriptor
set_option maxHeartbeats 4000000
set_option linter.unusedVariables false
set_option autoImplicit false
section
variable {prog : Program} {w : World} {A : Around} {E : Value → Shared → Prop} {s : Shared} {K : Frag} {p x C : Addr} {name : Str} {v : Value} {ox : Obj} {od : Obj} {i : Nat}
theorem getAttr_slot {expr : Bool} {Q : Value → Shared → Prop} (X : K.In s.heap) (I : InstAt s.heap x ox C (some od)) (hg : plainGet K C name = true) (hc : isClsIn K C = true)
    (ha : findIn K (.ref C) name = some (some (.ref p))) (hn : specialIn K (.ref p) "__get__" = some (some (.builtin "member_descriptor.__get__"))) (ht : takesIn K (.ref p) = some true) (hp : slotIn K p C = some i)
    (hv : (ox.slots[i]?).join = some v) (hh : handedIn v = true) (h : Q v { s with toks := s.toks + 1 }) : wpAny (model prog w) A (getAttr (.ref x) name expr) Q E s :=
  get_bind X I (plainGet_of hg).1 (findObj_data hc ha hn ht) (plainGet_of hg).2 (wpAny_call (slot_get (s := { s with toks := s.toks + 1 }) X I hp hv (handed_on hh h)))
theorem run_slotset {R : Result → Shared → Prop} (X : K.In s.heap) (I : InstAt s.heap x ox C (some od)) (hp : slotIn K p C = some i) (hi : i < 1000)
    (h : R (.ok (.ret .none)) { s with heap := s.heap.update x (fun o => { o with slots := (o.slots ++ Array.replicate (i + 1 - o.slots.size) none).setIfInBounds i (some v) }) }) :
    codeAny (model prog w) A (.call (.builtin "member_descriptor.__set__") ⟨[.ref p, .ref x, v], []⟩) R s := by
  obtain ⟨n, tn, owner, behind, tb, d, sl, cd, ho, hc, hm, hb, rfl⟩ := slot_of X hp
  obtain ⟨hh, g, dr, t, os⟩ := s
  have L0 := I.type (M := model prog w)
  have L1 := looks_mroIn (M := model prog w) X hm
  have L2 : Looks (model prog w) hh (Slots.slotNamesOf (.ref C)) cd.slotNames := (looks_clsIn X hc).andThen .now
  have hx := I.at_
  dsimp only at ho hx L0 L1
  have f0 := looks_field (M := model prog w) ho 0 (v := .str n tn) rfl
  have f1 := looks_field (M := model prog w) ho 1 (v := owner) rfl
  have f3 := looks_field (M := model prog w) ho 3 (v := .builtin "proto.slot#set") rfl
  have f4 := looks_field (M := model prog w) ho 4 (v := .int behind tb) rfl
  refine codeAny_call_builtin KF.slot_mset.plain KF.entry_mset (KF.slot_mset.check _ _ _ _ _ _ _ _ ⟨_, ho, rfl⟩ (KF.args_mset _ _ _) ?_)
  unfold Builtin.«member_descriptor.__set__» descrSet descrStoreThrough descrCheckInstance descrNameAndClass isInstance
  have f5 : Looks (model prog w) hh (descrItself (.ref p)) [.ref p] := ((Looks.ld (part := none) ho).andThen .now).andThen (Looks.of_pure (by kernel_rfl))
  repeat lk
  refine ⟨Code.quiet_builtin _ (by decide +kernel), codeAny_builtin KF.entry_slotset ?_⟩
  unfold Builtin.«proto.slot#set» Slots.target
  repeat lk
  rw [if_neg hb]
  refine wpAny_pure (wpAny_bind ?_)
  unfold setSlotAt
  dsimp only
  rw [if_neg (by rw [sizeLine_eq]; omega)]
  exact wpAny_updatePart hx (wpAny_pure h)
theorem setAttr_slot {Q : Unit → Shared → Prop} (X : K.In s.heap) (I : InstAt s.heap x ox C (some od)) 
    (hs : findIn K (.ref C) "__setattr__" = some (some (.builtin "object.__setattr__"))) (ho : plainOver K C = true) (ht : takerIn K C name = some (some (.ref p))) (hT : typeIn K (.ref p) = some (.type "member_descriptor")) (hp : slotIn K p C = some i) (hi : i < 1000)
    (h : Q () { s with heap := s.heap.update x (fun o => { o with slots := (o.slots ++ Array.replicate (i + 1 - o.slots.size) none).setIfInBounds i (some v) }), toks := s.toks + 1 }) :
    wpAny (model prog w) A (setAttr (.ref x) name v) Q E s :=
  set_plain X I hs (osa_descr (s := { s with toks := s.toks + 1 }) KF.slot_mset X I ho ht hT (run_slotset (s := { s with toks := s.toks + 1 }) X I hp hi h))
end
section
variable {prog : Program} {w : World} {A : Around} {E : Value → Shared → Prop} {s : Shared} {it l : Addr} {i : Nat} {vs : List Value} {n : Nat}
theorem nx_entry : entryFor table "next" = some Builtin.«next» := entryFor_of_tree (by kernel_rfl)
theorem nx_args (a : Value) : argsOk "next" ⟨[a], []⟩ := by unfold argsOk; kernel_rfl
theorem it_entry : entryFor table "iter" = some Builtin.«iter» := entryFor_of_tree (by kernel_rfl)
theorem it_args (a : Value) : argsOk "iter" ⟨[a], []⟩ := by unfold argsOk; kernel_rfl
/-- a list's iterator -/
noncomputable abbrev lit (l : Addr) (i : Nat) : Obj := { cls := .type "list_iterator", data := .fields #[.ref l, .int i 0] }
theorem next_item {x : Value} {Q : Value → Shared → Prop} (hi : s.heap.get? it = some (lit l i)) (hl : s.heap.get? l = some (lobj vs n)) (hx : vs[i]? = some x)
    (h : ∀ h', h'.get? it = some (lit l (i + 1)) → Heap.SameBut it s.heap h' → Q x { s with heap := h' }) : wpAny (model prog w) A (call (.builtin "next") [.ref it]) Q E s := by
  have hT : s.TypeIs (.ref it) "list_iterator" := ⟨_, hi, rfl⟩
  refine call_function_entry (by decide +kernel) (by decide +kernel) nx_entry (nx_args _) ?_
  unfold Builtin.«next»
  refine wpAny_bind (m := someArgs "next" 1 2 _) (wpAny_of_eq (a := [Value.ref it]) (by first | rfl | kernel_rfl) ?_)
  dsimp only
  refine wpAny_bind (wpAny_specialOf (name := Str.ofString "__next__") hT slot_listiter_next.lookup ?_)
  refine wpAny_ite_split (fun hab => absurd hab (by decide)) (fun _ => ?_)
  refine wpAny_bind (wpAny_callSpecial?_slot (name := Str.ofString "__next__") hT slot_listiter_next (wpAny_call_entry slot_listiter_next hT entry_listiter_next ?_ (args_listiter_next _)))
  show wpAny _ _ (field (.ref it) 0 >>= _) _ _ s
  refine wpAny_bind (wpAny_field hi rfl (x := .ref l) rfl ?_)
  show wpAny _ _ (if (Value.ref l == Value.none) = true then _ else _) _ _ s
  rw [if_neg (show ¬ ((Value.ref l == Value.none) = true) from Bool.false_ne_true)]
  show wpAny _ _ (field (.ref it) 1 >>= _) _ _ s
  refine wpAny_bind (wpAny_field hi rfl (x := .int i 0) rfl ?_)
  show wpAny _ _ (seqItems? (.ref l) >>= _) _ _ s
  refine wpAny_bind (wpAny_seqItems hl rfl ?_)
  have hx' : vs.toArray[i]? = some x := by simpa using hx
  simp only [Int.toNat_natCast, hx']
  refine wpAny_bind (wpAny_setField hi rfl (by simp) (wpAny_pure ⟨x, rfl, wpAny_pure ⟨_, rfl, h _ ?_ (Heap.SameBut.update ..)⟩⟩))
  exact Heap.get?_update_self _ hi rfl
theorem next_end {Q : Value → Shared → Prop} (hh : A.handled = none) (hi : s.heap.get? it = some (lit l i)) (hl : s.heap.get? l = some (lobj vs n)) (hx : vs[i]? = none)
    (h : ∀ h1 h' e, Heap.ExtBut it s.heap h1 → Heap.MadeExcOf h1 h' e (.type "StopIteration") [] → E (.ref e) { s with heap := h' }) : wpAny (model prog w) A (call (.builtin "next") [.ref it]) Q E s := by
  have hT : s.TypeIs (.ref it) "list_iterator" := ⟨_, hi, rfl⟩
  refine call_function_entry (by decide +kernel) (by decide +kernel) nx_entry (nx_args _) ?_
  unfold Builtin.«next»
  refine wpAny_bind (m := someArgs "next" 1 2 _) (wpAny_of_eq (a := [Value.ref it]) (by first | rfl | kernel_rfl) ?_)
  dsimp only
  refine wpAny_bind (wpAny_specialOf (name := Str.ofString "__next__") hT slot_listiter_next.lookup ?_)
  refine wpAny_ite_split (fun hab => absurd hab (by decide)) (fun _ => ?_)
  refine wpAny_bind (wpAny_callSpecial?_slot (name := Str.ofString "__next__") hT slot_listiter_next (wpAny_call_entry slot_listiter_next hT entry_listiter_next ?_ (args_listiter_next _)))
  show wpAny _ _ (field (.ref it) 0 >>= _) _ _ s
  refine wpAny_bind (wpAny_field hi rfl (x := .ref l) rfl ?_)
  show wpAny _ _ (if (Value.ref l == Value.none) = true then _ else _) _ _ s
  rw [if_neg (show ¬ ((Value.ref l == Value.none) = true) from Bool.false_ne_true)]
  show wpAny _ _ (field (.ref it) 1 >>= _) _ _ s
  refine wpAny_bind (wpAny_field hi rfl (x := .int i 0) rfl ?_)
  show wpAny _ _ (seqItems? (.ref l) >>= _) _ _ s
  refine wpAny_bind (wpAny_seqItems hl rfl ?_)
  have hx' : vs.toArray[i]? = none := by simpa using hx
  simp only [Int.toNat_natCast, hx']
  refine wpAny_bind (wpAny_rule (wpAny_bind (wpAny_setField hi rfl (by simp) ?_)))
  show wpAny _ _ (newExc (.type "StopIteration") [] >>= _) _ _ _
  refine wpAny_bind ?_
  simp only [newExc, newTuple]
  refine wpAny_bind (wpAny_newObj_type ?_ (by size_fits))
  refine wpAny_bind (m := firstArgMember _ _) (wpAny_of_eq (a := Value.none) (by first | rfl | (simp only [firstArgMember]; rfl)) ?_)
  refine wpAny_newObj_type ?_ (by size_fits)
  simp only [raiseNew]
  refine wpAny_bind (wpAny_handled ?_)
  rw [show A.in1.in1.handled = none from hh]
  refine wpAny_bind (wpAny_pure (wpAny_throw ?_))
  refine h (s.heap.update it (Obj.mapFields fun x => x.setIfInBounds 0 Value.none)) _ _ (Heap.SameBut.update ..).extBut ⟨fun b o e => Heap.get?_push_of_some _ (Heap.get?_push_of_some _ e), ?_, _, Heap.get?_push_size _ rfl, fresh_size _, Heap.get?_push_of_some _ (Heap.get?_push_size _ rfl)⟩
  rw [Heap.size_push]
  exact Heap.get?_none_of_le (Nat.le_succ _)
end

end
section
set_option linter.unusedVariables false
set_option autoImplicit false
variable {C : Cx} {env : Env} {σ : St} {mu : List Addr}
theorem FrOK.fun {g h b : Heap} : ∀ {fs : List Addr} {es : List Env}, FrOK g h fs es → (∀ a ∈ fs, b.get? a = none) → h.FunFrames b es
  | [], [], _, _ => trivial
  | L :: fs, env :: r, x, k => by
    obtain ⟨h0, h1, h2, h3, ⟨o, es, n, e, d⟩, h4⟩ := x
    exact ⟨h0, ⟨L, o, h1, k L (.head _), e, fun vs q => by rw [d] at q; cases q⟩, FrOK.fun h4 fun a ha => k a (.tail _ ha)⟩
  | [], _ :: _, x, _ => x.elim
  | _ :: _, [], x, _ => x.elim
/-- an exception of StopIteration's own -/
noncomputable def StopE (v : Value) (s : Shared) : Prop := ∃ e, v = .ref e ∧ s.TypeIs (.ref e) "StopIteration"
/-- a frame is left by the end of an iterator -/
theorem leave_stop {fd : FuncData} {a L it : Addr} {s s1 : Shared} {h1 h' : Heap} {e : Addr} {hs : List Addr} {Q : Value → Shared → Prop} {E : Value → Shared → Prop} (O : FxOK (fnX C fd a L (hid s hs) []))
    (A : At (fnX C fd a L (hid s hs) []) σ s1) (hit : it ∈ hs) (hfs : ∀ b ∈ hs, b ∉ C.fs) (hht : tabA ∉ hs) (k : Heap.ExtBut it s1.heap h1) (hx : Heap.MadeExcOf h1 h' e (.type "StopIteration") [])
    (ho : ∃ o, s1.heap.get? it = some o ∧ Stable o)
    (hQ : ∀ s2, ExW C.fs hs s s2 → StopE (.ref e) s2 → (∀ b o, s1.heap.get? b = some o → Stable o → b ≠ it → s2.heap.get? b = some o) → Q (.ref e) s2) :
    wpAny C.M (fnX C fd a L (hid s hs) []).C.A (leaving (callEnvC fd L a) (.ref e)) (fun _ s'' => Q (.ref e) s'') E { s1 with heap := h' } := by
  obtain ⟨outer, hou, hfr⟩ := A.inv.frames
  cases outer with
  | nil => exact hfr.elim
  | cons env0 rest =>
  have hou' : Option.map (fun es => callEnvC fd L a :: es) C.A.frames = some (env0 :: rest) := hou
  obtain ⟨rest', hr1, hr2⟩ := Option.map_eq_some_iff.mp hou'
  cases hr2
  obtain ⟨oi, ei, sti⟩ := ho
  have off := A.inv.off ei sti
  have B : (hideAll h1 (L :: C.fs)) = hideAll h1 (L :: C.fs) := rfl
  have kf : ∀ b, b ∈ L :: C.fs → b ≠ it := fun b hb q => off.1 (q ▸ hb)
  have hf1 : h1.FunFrames (hideAll h1 (L :: C.fs)) (callEnvC fd L a :: rest) := FrOK.fun (g := C.g) (fs := L :: C.fs) (hfr.ext fun b hb o es n e d => ⟨o, es, n, k _ _ (kf b hb) e, d⟩) fun b hb => hideAll_none _ hb
  refine wpAny_leaves_madeW (M := C.M) (A := (fnX C fd a L (hid s hs) []).C.A) hou rfl (fun b o q => of_hideAll _ q) hf1 hx fun h2 t x1 x2 x3 x4 => ?_
  obtain ⟨ob, eo, co⟩ := x1.there
  have st : ∀ b o, s1.heap.get? b = some o → b ∉ L :: C.fs → b ≠ it → h2.get? b = some o := fun b o e hb hi => x1.1 b o (hideAll_get _ (k b o hi e) hb)
  have back : ∀ b o, (hid s hs).heap.get? b = some o → b ≠ it := fun b o e q => by rw [q, hid_none hit] at e; cases e
  have bL : ∀ b o, (hid s hs).heap.get? b = some o → b ≠ L := fun b o e q => by
    have := O.loc
    have this : (hid s hs).heap.get? L = none := this
    rw [q, this] at e; cases e
  refine hQ _ (Ext.unhid (s' := { s1 with heap := h2 }) ⟨fun b o e q t => ?_, fun b o e q => ?_, A.ext.gens, A.ext.os, fun ps e tr => ?_⟩ hfs hht) ⟨e, rfl, ob, eo, co⟩ fun b o e so hi => st b o e (A.inv.off e so).1 hi
  · refine st b o (A.ext.keep b o e q t) (fun z => ?_) (back b o e)
    rcases List.mem_cons.mp z with z | z
    · exact bL b o e z
    · exact q z
  · obtain ⟨sl, e'⟩ := A.ext.slot b o e q
    obtain ⟨_, _, o', es, n, e'', d⟩ := hfr.mem (List.mem_cons_of_mem L q)
    have e4 := hx.keeps _ _ (k _ _ (back b o e) e')
    obtain ⟨sl', e5⟩ := x4 b _ e4 fun vs z => by
      rw [e'] at e''; cases e''
      have d : o.data = _ := d
      have z : o.data = _ := z
      rw [d] at z; cases z
    exact ⟨sl', e5⟩
  · obtain ⟨m, e', t'⟩ := A.ext.tab ps e tr
    refine ⟨m, st _ _ e' (fun z => (hfr.mem z).2.1 rfl) fun z => ?_, t'⟩
    exact hht (z ▸ hit)

end
section
open  PySem.Builtin PySem.Builtin.Str
set_option maxHeartbeats 4000000
set_option linter.unusedVariables false
set_option autoImplicit false
variable {C : Cx} {env : Env} {σ : St} {mu : List Addr} {mg mb : Str → Option Value} {P : Params} {X : Fx} {Q : St → Res → Prop}
/-- an object of filterfalse, made -/
noncomputable abbrev instF (dx : Addr) (m it : Addr) : Obj := { cls := .ref 71, dict := some dx, data := .plain, slots := #[some (.ref m), some (.ref it)] }
structure FilSt (x dx m it l k : Addr) (vs ws : List Value) (nl nk i : Nat) (h : Heap) : Prop where
  hx : h.get? x = some (instF dx m it)
  hd : h.get? dx = some emptyDict
  hm : h.get? m = some (bndC k)
  hk : h.get? k = some (lobj ws nk)
  hl : h.get? l = some (lobj vs nl)
  hit : h.get? it = some (lit l i)
variable {x dx m it l k : Addr} {vs ws : List Value} {nl nk i : Nat}
theorem FilSt.keep {h h' : Heap} (H : FilSt x dx m it l k vs ws nl nk i h) (kp : ∀ b o, h.get? b = some o → (Stable o ∨ b = dx) → h'.get? b = some o) : FilSt x dx m it l k vs ws nl nk i h' :=
  have sx : ∀ a, Stable (instF dx a it) := fun a => ⟨fun _ _ e => (nomatch e), fun _ e => (nomatch e), fun e => nomatch e⟩
  ⟨kp _ _ H.hx (.inl (sx m)), kp _ _ H.hd (.inr rfl), kp _ _ H.hm (.inl (fix_bndC _).1), kp _ _ H.hk (.inl (stable_lobj _ _)), kp _ _ H.hl (.inl (stable_lobj _ _)), kp _ _ H.hit (.inl ⟨fun _ _ e => (nomatch e), fun _ e => (nomatch e), fun e => nomatch e⟩)⟩
theorem stable_lit (l : Addr) (i : Nat) : Stable (lit l i) := ⟨fun _ _ e => (nomatch e), fun _ e => (nomatch e), fun e => nomatch e⟩
theorem FilSt.next {h h' : Heap} (H : FilSt x dx m it l k vs ws nl nk i h) {j : Nat} (e : h'.get? it = some (lit l j)) (sb : ∀ b o, b ≠ it → h.get? b = some o → h'.get? b = some o) : FilSt x dx m it l k vs ws nl nk j h' := by
  have tne : ∀ {a b : String}, a ≠ b → Value.type a ≠ Value.type b := fun c q => by injection q with q; exact c q
  have ne : ∀ {b : Addr} {o : Obj}, h.get? b = some o → o.cls ≠ .type "list_iterator" → b ≠ it := fun e c q => by
    rw [q, H.hit] at e; cases e; exact c rfl
  exact ⟨sb _ _ (ne H.hx (fun q => nomatch q)) H.hx, sb _ _ (ne H.hd (tne (by decide))) H.hd, sb _ _ (ne H.hm (tne (by decide))) H.hm, sb _ _ (ne H.hk (tne (by decide))) H.hk, sb _ _ (ne H.hl (tne (by decide))) H.hl, e⟩
theorem FilSt.inst {h : Heap} (H : FilSt x dx m it l k vs ws nl nk i h) : InstAt h x (instF dx m it) 71 (some emptyDict) := ⟨H.hx, rfl, rfl, H.hd⟩
theorem callWith_bndC {M : Model} {A : Around} {E : Value → Shared → Prop} {s : Shared} {pos : Pos} {u a : Addr} {first : List Value} {args : List (Bool × Sem Value)} {Q : Value → Shared → Prop} (hplain : args.any (·.1) = false)
    (h : wpAny M A (evalArgs (.ref u) true args []) (fun x s₁ => s₁.heap.get? u = some (bndC a) ∧ wpAny M A (call (.ref u) (first ++ x.pos) x.kw) Q E s₁) E s) : wpAny M A (callWith pos (.ref u) first args []) Q E s := by
  unfold callWith
  refine wpAny_bind (wpAny_holding (wpAny_mono h (fun x s₁ h₁ => wpAny_bind (wpAny_standAt ?_)) fun _ _ x => x))
  obtain ⟨ho, hcall⟩ := h₁
  simp only [hplain, List.any_nil, Bool.or_false]
  refine wpAny_bind (m := keeperOf (.ref u)) ?_
  unfold keeperOf
  refine wpAny_bind (wpAny_load ho ?_)
  simp only [show (Value.type "method-wrapper" != Value.type "method") = true by decide, show (Value.type "method-wrapper" == Value.type "builtin_function_or_method" || Value.type "method-wrapper" == Value.type "method-wrapper") = true by decide, if_true]
  refine wpAny_pure ?_
  exact wpAny_bind (wpAny_mono hcall (fun r s₂ hr => wpAny_bind (wpAny_holding (wpAny_point (wpAny_pure hr)))) fun _ _ x => x)
/-- the frame of `__next__` at work -/
structure NxAt (X : Fx) (σ : St) (x dx m it l k : Addr) (vs ws : List Value) (nl nk i : Nat) (s : Shared) : Prop where
  a : At X σ s
  f : FilSt x dx m it l k vs ws nl nk i s.heap
  d : dx ∉ X.C.fs
theorem NxAt.ev {X : Fx} (O : FxOK X) {σ : St} {s s' : Shared} (h : NxAt X σ x dx m it l k vs ws nl nk i s) (e : Ext X.C.fs s s') : NxAt X σ x dx m it l k vs ws nl nk i s' :=
  ⟨h.a.ev O e, h.f.keep (fun b o q z => by
    rcases z with z | rfl
    · exact h.a.inv.stable e q z
    · refine e.keep _ _ q h.d fun t => ?_
      obtain ⟨ps, e', _⟩ := h.a.inv.tab
      have q' := h.f.hd
      rw [t, e'] at q'; cases q'), h.d⟩
theorem NxAt.off {X : Fx} {σ : St} {s : Shared} (h : NxAt X σ x dx m it l k vs ws nl nk i s) {b : Addr} {o : Obj} (e : s.heap.get? b = some o) (z : Stable o ∨ b = dx) : b ∉ X.C.fs ∧ b ≠ tabA := by
  rcases z with z | rfl
  · exact h.a.inv.off e z
  · refine ⟨h.d, fun t => ?_⟩
    obtain ⟨ps, e', _⟩ := h.a.inv.tab
    have q' := h.f.hd
    rw [t, e'] at q'; cases q'
theorem NxAt.store {X : Fx} (O : FxOK X) {σ : St} {s : Shared} (h : NxAt X σ x dx m it l k vs ws nl nk i s) (hl : X.env.locals ∈ X.C.fs) {y : Str} {p : PV} {v : Value} (hk : X.env.kindOf y = some .local) (r : Rep σ.mu s.heap v p) {Q : Unit → Shared → Prop} {E : Value → Shared → Prop}
    (kk : ∀ s', NxAt X (σ.set y p) x dx m it l k vs ws nl nk i s' → Q () s') : wpAny X.C.M X.C.A (storeName X.env y v) Q E s := by
  refine store_wpB O (.inl hk) h.a r fun s2 A2 c2 hsb => kk s2 ⟨A2, h.f.keep fun b o e z => ?_, h.d⟩
  obtain ⟨a, sb, ha⟩ := hsb
  refine sb.extBut _ _ (fun q => ?_) e
  rcases ha with rfl | ⟨v, ov, e', d'⟩
  · exact (h.off e z).1 (q ▸ hl)
  · rw [q] at e
    rw [e] at e'; cases e'
    rcases z with z | z
    · exact z.2.1 _ d'
    · have q' := h.f.hd
      rw [← z, q, e] at q'; cases q'; cases d'
theorem NxAt.kin {X : Fx} {σ : St} {s : Shared} (h : NxAt X σ x dx m it l k vs ws nl nk i s) (g : Gok P X.C.g mg mb) : (K0 P).In s.heap := g.X.keeps h.a.inv.base
theorem nx_func {X : Fx} {σ : St} {s : Shared} (h : NxAt X σ x dx m it l k vs ws nl nk i s) (g : Gok P X.C.g mg mb) {Q : Value → Shared → Prop} {E : Value → Shared → Prop} (kk : Q (.ref m) { s with toks := s.toks + 1 }) : wpAny X.C.M X.C.A (getAttr (.ref x) "_func" true) Q E s :=
  getAttr_slot (K := K0 P) (C := 71) (p := 72) (i := 0) (v := .ref m) (h.kin g) h.f.inst (by with_unfolding_all rfl) (by with_unfolding_all rfl) (by with_unfolding_all rfl) (by with_unfolding_all rfl) (by with_unfolding_all rfl) (by with_unfolding_all rfl) rfl rfl kk
theorem nx_it {X : Fx} {σ : St} {s : Shared} (h : NxAt X σ x dx m it l k vs ws nl nk i s) (g : Gok P X.C.g mg mb) {Q : Value → Shared → Prop} {E : Value → Shared → Prop} (kk : Q (.ref it) { s with toks := s.toks + 1 }) : wpAny X.C.M X.C.A (getAttr (.ref x) "_it" true) Q E s :=
  getAttr_slot (K := K0 P) (C := 71) (p := 73) (i := 1) (v := .ref it) (h.kin g) h.f.inst (by with_unfolding_all rfl) (by with_unfolding_all rfl) (by with_unfolding_all rfl) (by with_unfolding_all rfl) (by with_unfolding_all rfl) (by with_unfolding_all rfl) rfl rfl kk

end
section
open  PySem.Builtin PySem.Builtin.Str
set_option maxHeartbeats 4000000
set_option linter.unusedVariables false
set_option autoImplicit false
variable {C : Cx} {env : Env} {σ : St} {mu : List Addr} {mg mb : Str → Option Value} {P : Params} {X : Fx} {Q : St → Res → Prop}
variable {x dx m it l k : Addr} {vs ws : List Value} {nl nk i : Nat} {xs ys : List Str}
theorem CmpV.is_rv {a : Addr} {v : Value} (hp : plainIs (.ref a) v = true) (hn : Value.ref a ≠ v) : CmpV C mu .Is (.v (.ref a)) (.v v) false := by
  refine ⟨?_⟩
  intro v w s I r1 r2
  rw [r1.v_inv, r2.v_inv]
  exact wpAny_is_other hp hn ⟨rfl, Ext.refl _ _⟩
noncomputable abbrev outF (xs ys : List Str) : List Str := xs.filter fun t => decide (t ∉ ys)
theorem strs_get {vs : List Value} {xs : List Str} (h : StrsAre vs xs) : ∀ {i : Nat} {v : Value}, vs[i]? = some v → ∃ y t, v = .str y t ∧ xs[i]? = some y := by
  induction h with
  | nil => intro i v e; simp at e
  | cons n t h ih =>
    intro i v e
    cases i with
    | zero => simp at e; exact ⟨_, _, e.symm, by simp⟩
    | succ i => simpa using ih (by simpa using e)
theorem strs_len {vs : List Value} {xs : List Str} (h : StrsAre vs xs) : vs.length = xs.length := by
  induction h with
  | nil => rfl
  | cons n t h ih => simp [ih]
/-- func(item), func being skip.__contains__ -/
theorem nx_has {X : Fx} (O : FxOK X) {σ : St} {s : Shared} {f y : Str} {fp yp pos : Pos} {z : Str} (N : NxAt X σ x dx m it l k vs ws nl nk i s) (hw : StrsAre ws ys) (h1 : Ev X.C X.env σ (.Name f fp) (.v (.ref m))) (h2 : Ev X.C X.env σ (.Name y yp) (.s z))
    {Q : Value → Shared → Prop} {E : Value → Shared → Prop} (kk : ∀ s', Ext X.C.fs s s' → Q (.bool (ys.any (· == z))) s')
    (he : eval (.Call (.Name f fp) [.Name y yp] [] pos) X.env = (do callWith pos (← eval (.Name f fp) X.env) [] (backTo pos (starEach [.Name y yp] X.env)) (backToKw pos (keywordEach [] X.env))) := by rfl)
    (hs : backTo pos (starEach [.Name y yp] X.env) = [(false, eval (.Name y yp) X.env)] := by rfl) : wpAny X.C.M X.C.A (eval (.Call (.Name f fp) [.Name y yp] [] pos) X.env) Q E s := by
  refine Call_ (h1.use N.a.inv N.a.frm fun v s1 x1 I1 F1 r1 => ?_) he
  rw [r1.v_inv, hs]
  have N1 := N.ev O x1
  refine callWith_bndC (a := k) rfl (evalArgs_plain (spliced_cons (h2.use I1 F1 fun v s2 x2 I2 F2 r2 => spliced_nil ?_)))
  have N2 := N1.ev O x2
  obtain ⟨t, rfl⟩ := r2.s_inv
  refine ⟨N2.f.hm, call_bndC N2.f.hm N2.f.hk (isStrOf z) (fun y hy => (eq_isStrOf z t hw y (by simpa using hy)).at _ _) ?_⟩
  rw [← Array.any_toList, show ws.toArray.toList = ws from rfl, any_isStrOf z hw]
  exact kk _ (x1.trans x2)
theorem NxAt.can {X : Fx} {σ σ' : St} {s : Shared} (c : Can σ σ') (N : NxAt X σ x dx m it l k vs ws nl nk i s) : NxAt X σ' x dx m it l k vs ws nl nk i s := ⟨c.at N.a, N.f, N.d⟩
theorem enter_fkc {hs : List Addr} {a : Addr} {cls : Value} {od : Option Addr} {sl : Array (Option Value)} {fd : FuncData} {body : List Stmt} {ns : List Str} {ps : List PV} {vs : List Value} {s : Shared} (g : Gok P C.g mg mb)
    (hK : (K0 P).lookup a = some ⟨cls, od, .func fd, sl⟩) (hcd : codeIn (K0 P) fd.code fd.qualname = true) (hb : fd.body = .stmts body)
    (hroom : C.A.depth < recursionLimit) (hlen : ns.length = ps.length) (hhg : ∀ b ∈ hs, C.g.get? b = none) (hht : tabA ∉ hs)
    (hcl : fd.closure = []) (hgl : fd.globals = mainGlobals) (hbl : fd.builtins = builtinsNs)
    (I : Inv C s) (rl : RepL [] s.heap vs ps) (hbind : bindArgs fd ⟨vs, []⟩ = pure (ns.zip vs))
    (hkind : ∀ n ∈ ns, fd.scope.names.lookup n = some .local) (hnd : ns.Nodup)
    (hco : fd.scope.isCoroutine = false) (hgen : fd.scope.isGenerator = false) (hk : fd.scope.kind = .function)
    {R : Result → Shared → Prop}
    (run : ∀ L s1, FxOK (fnX C fd a L (hid s hs) []) → At (fnX C fd a L (hid s hs) []) ⟨[], [], ns.zip ps⟩ s1 → (∀ b o, s.heap.get? b = some o → s1.heap.get? b = some o) → s.heap.get? L = none →
      wpAny C.M (fnX C fd a L (hid s hs) []).C.A (execs body (callEnvC fd L a)) (fun f s' => R (.ok (.ret (retOf f))) s')
        (fun e s' => wpAny C.M (fnX C fd a L (hid s hs) []).C.A (leaving (callEnvC fd L a) e) (fun _ s'' => R (.error e) s'') (fun e' s'' => R (.error e') s'') s') s1) :
    codeAny C.M C.A (.call (.ref a) ⟨vs, []⟩) R s :=
  enter_code g.nl (g.X _ _ hK) rfl (codeRec_of g.X hcd) hroom hlen hhg hht hb hcl hgl hbl I rl hbind hkind hnd hco hgen hk run
theorem enter_fk {hs : List Addr} {a : Addr} {cls : Value} {od : Option Addr} {sl : Array (Option Value)} {fd : FuncData} {body : List Stmt} {ns : List Str} {ps : List PV} {vs : List Value} {s : Shared} (g : Gok P C.g mg mb)
    (hK : (K0 P).lookup a = some ⟨cls, od, .func fd, sl⟩) (hcd : codeIn (K0 P) fd.code fd.qualname = true) (hb : fd.body = .stmts body)
    (hroom : C.A.depth < recursionLimit) (hlen : ns.length = ps.length) (hhg : ∀ b ∈ hs, C.g.get? b = none) (hht : tabA ∉ hs)
    (hcl : fd.closure = []) (hgl : fd.globals = mainGlobals) (hbl : fd.builtins = builtinsNs)
    (I : Inv C s) (rl : RepL [] s.heap vs ps) (hbind : bindArgs fd ⟨vs, []⟩ = pure (ns.zip vs))
    (hkind : ∀ n ∈ ns, fd.scope.names.lookup n = some .local) (hnd : ns.Nodup)
    (hco : fd.scope.isCoroutine = false) (hgen : fd.scope.isGenerator = false) (hk : fd.scope.kind = .function)
    {Q : Value → Shared → Prop} {E : Value → Shared → Prop}
    (run : ∀ L s1, FxOK (fnX C fd a L (hid s hs) []) → At (fnX C fd a L (hid s hs) []) ⟨[], [], ns.zip ps⟩ s1 → (∀ b o, s.heap.get? b = some o → s1.heap.get? b = some o) → s.heap.get? L = none →
      wpAny C.M (fnX C fd a L (hid s hs) []).C.A (execs body (callEnvC fd L a)) (fun f s' => Q (retOf f) s')
        (fun e s' => wpAny C.M (fnX C fd a L (hid s hs) []).C.A (leaving (callEnvC fd L a) e) (fun _ s'' => E e s'') (fun e' s'' => E e' s'') s') s1) :
    wpAny C.M C.A (call (.ref a) vs) Q E s :=
  wpAny_call (enter_fkc g hK hcd hb hroom hlen hhg hht hcl hgl hbl I rl hbind hkind hnd hco hgen hk run)
theorem run_next (g : Gok P C.g mg mb) (hr : Rm C 3) {s : Shared} (I : Inv C s) (H : FilSt x dx m it l k vs ws nl nk i s.heap) (hd : dx ∉ C.fs) (hv : StrsAre vs xs) (hw : StrsAre ws ys) (hig : C.g.get? it = none) (hi : i ≤ xs.length)
    {Q : Value → Shared → Prop} {E : Value → Shared → Prop}
    (hQ : ∀ j y t s2, i < j → j ≤ xs.length → outF (xs.drop i) ys = y :: outF (xs.drop j) ys → ExW C.fs [it] s s2 → FilSt x dx m it l k vs ws nl nk j s2.heap → Q (.str y t) s2)
    (hE : ∀ v s2, outF (xs.drop i) ys = [] → ExW C.fs [it] s s2 → StopE v s2 → E v s2) : wpAny C.M C.A (call (.ref 67) [.ref x]) Q E s := by
  have hti : it ≠ tabA := fun q => by
    obtain ⟨ps, e, _⟩ := I.tab
    have := H.hit
    rw [q, e] at this; cases this
  have hfi := (I.off H.hit (stable_lit l i)).1
  have hvl := strs_len hv
  refine' enter_fk (C := C) (hs := [it]) (ns := ["self"]) (ps := [.v (.ref x)]) g (by walk_at "wr") (by walk_at "wr") (by walk_at "wr") hr.room rfl ?hg ?ht (by walk_at "wr") (by walk_at "wr") (by walk_at "wr") I (.cons Rep.v .nil) (by walk_at "wr") ?kind ?nd (by walk_at "wr") (by walk_at "wr") (by walk_at "wr") fun L s1 O A kp fL => ?run
  case hg => exact List.forall_mem_cons.mpr ⟨hig, List.forall_mem_nil _⟩
  case ht => exact fun q => hti (List.mem_singleton.mp q).symm
  case kind => exact List.forall_mem_cons.mpr ⟨by walk_at "wr", List.forall_mem_nil _⟩
  case nd => decide +kernel
  case run =>
    have hL : ∀ {b : Addr} {o : Obj}, s.heap.get? b = some o → b ≠ L := fun e q => by rw [q, fL] at e; cases e
    have N1 : NxAt (fnX C _ 67 L (hid s [it]) []) ⟨[], [], [("self", .v (.ref x))]⟩ x dx m it l k vs ws nl nk i s1 := ⟨A, H.keep fun b o e _ => kp b o e, fun q => by
      rcases List.mem_cons.mp q with q | q
      · exact hL H.hd q
      · exact hd q⟩
    refine wpAny_execs_cons (wpAny_Assign_Name (Attribute_Name_ ((show Ev _ _ _ _ (.v (.ref x)) by walk_at "ld").use N1.a.inv N1.a.frm fun v s2 x2 I2 F2 r2 => ?_) (by walk_at "wr")) (by walk_at "wr"))
    rw [r2.v_inv]
    have N2 := N1.ev O x2
    refine nx_func N2 g.fn ?_
    have N3 := N2.ev O (Ext.tok (t := s2.toks + 1))
    refine N3.store O List.mem_cons_self (by walk_at "wr") (p := .v (.ref m)) Rep.v fun s4 N4 => ?_
    have N5 := N4.can (σ' := ⟨[], [], [("self", .v (.ref x)), ("func", .v (.ref m))]⟩) (Can.of rfl rfl (by walk_at "mems"))
    clear N4 N3 N2 x2 I2 F2 r2 N1 A
    refine wpAny_execs_cons (wpAny_While (codeAny_whileLoop (fun n s' => ∃ j, n = xs.length - j ∧ i ≤ j ∧ j ≤ xs.length ∧ outF (xs.drop i) ys = outF (xs.drop j) ys ∧ NxAt (fnX C _ 67 L (hid s [it]) []) ⟨[], [], [("self", .v (.ref x)), ("func", .v (.ref m))]⟩ x dx m it l k vs ws nl nk j s') ?turn _ ⟨i, rfl, Nat.le_refl _, hi, rfl, N5⟩))
    clear N5
    rintro n s2 ⟨j, rfl, hij, hjl, ho, N⟩
    refine (Tst.val Ev.boo).use N.a.inv N.a.frm fun s3 x3 I3 F3 => itt (wpAny_passesOwn PassesOwn.leaving ?_)
    have N3 := N.ev O x3
    refine wpAny_execs_cons (wpAny_Assign_Name (Call_ ((Ev.bn g.fn (by walk_at "wr") (by walk_at "wr") (by decide) (by walk_at "wr")).use I3 F3 fun v4 s4 x4 I4 F4 r4 => ?_) (by walk_at "wr")) (by walk_at "wr"))
    rw [r4.v_inv]
    have N4 := N3.ev O x4
    refine callWith_builtin1 ?_ (by walk_at "wr") (by walk_at "wr")
    refine args_cons (Attribute_Name_ ((show Ev _ _ _ _ (.v (.ref x)) by walk_at "ld").use I4 F4 fun v5 s5 x5 I5 F5 r5 => ?_) (by walk_at "wr")) (by walk_at "wr")
    rw [r5.v_inv]
    have N5 := N4.ev O x5
    refine nx_it N5 g.fn ?_
    have N6 := N5.ev O (Ext.tok (t := s5.toks + 1))
    refine args_nil ?_
    by_cases hlt : j < xs.length
    · have hlv : j < vs.length := by omega
      obtain ⟨y, ty, ey, exy⟩ := strs_get hv (List.getElem?_eq_getElem hlv)
      refine next_item N6.f.hit N6.f.hl ((List.getElem?_eq_getElem hlv).trans (congrArg some ey)) fun h7 e7 sb7 => ?_
      have kb : ∀ b o, b ≠ it → s5.heap.get? b = some o → h7.get? b = some o := fun b o hb e => sb7.extBut b o hb e
      have N7 : NxAt (fnX C _ 67 L (hid s [it]) []) ⟨[], [], [("self", .v (.ref x)), ("func", .v (.ref m))]⟩ x dx m it l k vs ws nl nk (j + 1) { s5 with heap := h7, toks := s5.toks + 1 } :=
        ⟨N6.a.but (h' := h7) O (hid_none (List.mem_singleton_self it)) kb (fun o e => by
          have e : s5.heap.get? it = some o := e
          have e' : s5.heap.get? it = some (lit l j) := N6.f.hit
          rw [e'] at e; cases e
          exact noVal_fields (h := s5.heap) (by decide) (by decide) (Or.inl rfl) rfl rfl), N6.f.next e7 kb, N6.d⟩
      refine N7.store O List.mem_cons_self (by walk_at "wr") (p := .s y) Rep.s fun s8 N8 => ?_
      have hd1 : xs.drop j = y :: xs.drop (j + 1) := by
        rw [List.drop_eq_getElem_cons hlt]
        rw [List.getElem?_eq_getElem hlt] at exy
        rw [Option.some.inj exy]
      refine wpAny_execs_cons (wpAny_If ((Tst.is (b' := false) (Tst.or2 (x := false) (y := false) (Tst.cmp (by walk_at "ld") Ev.non (CmpV.is_rv (a := m) (v := .none) rfl (fun e => nomatch e))) (fun _ => Tst.cmp (by walk_at "ld") (Ev.bn g.fn (by walk_at "wr") (by walk_at "wr") (by decide) (by walk_at "wr")) (CmpV.is_rv (a := m) (v := .type "bool") rfl (fun e => nomatch e)))) rfl).use N8.a.inv N8.a.frm fun s9 x9 I9 F9 => itf ?_))
      have N9 := N8.ev O x9
      refine wpAny_execs_cons (wpAny_If (isTrue_not (isTrue_plain (nx_has O N9 hw (by walk_at "ld") (by walk_at "ld") (fun s10 x10 => wpAny_truthy_bool ?_) (by walk_at "wr") (by walk_at "wr")) (by walk_at "wr"))))
      have N10 := N9.ev O x10
      cases hb : ys.any (· == y) with
      | true =>
        refine itf (wpAny_execs_nil (wpAny_execs_nil (wpAny_execs_nil ?_)))
        obtain ⟨y', hy, ey'⟩ := List.any_eq_true.mp hb
        have hm : y ∈ ys := (beq_iff_eq.mp ey') ▸ hy
        refine ⟨xs.length - (j + 1), by omega, j + 1, rfl, by omega, by omega, ?_, N10.can (Can.of rfl rfl (by walk_at "mems"))⟩
        rw [ho, hd1, outF, List.filter_cons_of_neg (by simp [hm])]
      | false =>
        refine itt (wpAny_execs_cons (wpAny_Return_some ((show Ev _ _ _ _ (.s y) by walk_at "ld").use N10.a.inv N10.a.frm fun v s11 x11 I11 F11 r11 => ?_)))
        obtain ⟨t', rfl⟩ := r11.s_inv
        have N11 := N10.ev O x11
        have hm : y ∉ ys := fun q => by rw [List.any_eq_false] at hb; exact hb y q (beq_self_eq_true y)
        refine hQ (j + 1) y t' s11 (by omega) (by omega) ?_ (Ext.unhid N11.a.ext (List.forall_mem_cons.mpr ⟨hfi, List.forall_mem_nil _⟩) (fun q => hti (List.mem_singleton.mp q).symm)) N11.f
        rw [ho, hd1, outF, List.filter_cons_of_pos (by simp [hm])]
    · have hj : j = xs.length := by omega
      subst hj
      refine next_end N6.a.inv.hand N6.f.hit N6.f.hl (List.getElem?_eq_none (by omega)) fun h1 h' e kx hx => ?_
      refine leave_stop O N6.a (List.mem_singleton_self it) (List.forall_mem_cons.mpr ⟨hfi, List.forall_mem_nil _⟩) (fun q => hti (List.mem_singleton.mp q).symm) kx hx ⟨_, N6.f.hit, stable_lit l _⟩ fun s9 ew st _ => ?_
      exact hE _ _ (by rw [ho, List.drop_length]; rfl) ew st

end
section
open  PySem.Builtin PySem.Builtin.Str
set_option maxHeartbeats 4000000
set_option linter.unusedVariables false
set_option autoImplicit false
variable {C : Cx} {env : Env} {σ : St} {mu : List Addr} {mg mb : Str → Option Value} {P : Params} {X : Fx} {Q : St → Res → Prop}
variable {x dx m it l k : Addr} {vs ws : List Value} {nl nk i : Nat} {xs ys : List Str}
/-- an object of the frame's own that no name shows is stored into -/
theorem At.butV (O : FxOK X) {σ : St} {s : Shared} (A : At X σ s) {I : Addr} {h' : Heap} {t : Tok} (hf : X.s0.heap.get? I = none) (k : ∀ b o, b ≠ I → s.heap.get? b = some o → h'.get? b = some o) (hv : ∀ y p, σ.vs.lookup y = some p → ∃ v, p = .v v) (hmu : σ.mu = [])
    (hL : I ≠ X.env.locals) (hc : ∀ v, ¬ s.heap.IsCell I v) (hfs : I ∉ X.C.fs) : At X σ { s with heap := h', toks := t } := by
  have kb : ∀ b o, X.s0.heap.get? b = some o → b ≠ I := fun b o e q => by rw [q, hf] at e; cases e
  have F := A.frm
  obtain ⟨m, hm, hold⟩ := F.ns
  have cellk : ∀ c v, s.heap.IsCell c v → h'.IsCell c v := fun c v ⟨o, e, d⟩ => ⟨o, k _ _ (fun q => hc v (q ▸ ⟨o, e, d⟩)) e, d⟩
  have hm' : h'.Ns X.env.locals m := by
    obtain ⟨o, es, n, e, d, z⟩ := hm
    exact ⟨o, es, n, k _ _ (fun q => hL q.symm) e, d, z⟩
  have rv : ∀ {y p v}, σ.vs.lookup y = some p → Rep σ.mu s.heap v p → Rep σ.mu h' v p := fun e r => by
    obtain ⟨w, rfl⟩ := hv _ _ e
    rw [r.v_inv]; exact Rep.v
  obtain ⟨outer, ho, hfr⟩ := A.inv.frames
  refine ⟨⟨fun b o e => k b o (fun q => ?_) (A.inv.base b o e), A.inv.gens, A.inv.os, ?_, A.inv.hand, ⟨outer, ho, hfr.ext fun b hb o es n e d => ?_⟩, A.inv.gtab⟩,
    ⟨F.kind, F.glob, F.blt, ⟨m, hm', fun y q e kk => ?_⟩, fun y q e kk => ?_, fun n c hc => ?_, fun a ha => ?_⟩, ⟨fun b o e q t => ?_, fun b o e q => ?_, A.ext.gens, A.ext.os, fun ps e tr => ?_⟩, A.own⟩
  · have := O.base I hf
    rw [q, this] at e; cases e
  · obtain ⟨ps, e, tr⟩ := A.inv.tab
    exact ⟨ps, k _ _ (fun q => O.tab (q ▸ hf)) e, tr⟩
  · exact ⟨o, es, n, k _ _ (fun q => hfs (q ▸ hb)) e, d⟩
  · obtain ⟨v, h1, h2⟩ := hold y q e kk
    exact ⟨v, h1, rv e h2⟩
  · obtain ⟨c, v, h1, h2, h3⟩ := F.cv y q e kk
    exact ⟨c, v, h1, cellk _ _ h2, rv e h3⟩
  · obtain ⟨v, h⟩ := F.co n c hc
    exact ⟨v, cellk _ _ h⟩
  · rw [hmu] at ha; cases ha
  · exact k b _ (kb b o e) (A.ext.keep b o e q t)
  · obtain ⟨sl, e'⟩ := A.ext.slot b o e q
    exact ⟨sl, k b _ (kb b o e) e'⟩
  · obtain ⟨m, e', t'⟩ := A.ext.tab ps e tr
    exact ⟨m, k _ _ (kb _ _ e) e', t'⟩
theorem iter_list {prog : Program} {w : World} {A : Around} {E : Value → Shared → Prop} {s : Shared} {Q : Value → Shared → Prop} (hl : s.heap.get? l = some (lobj vs nl)) (h : Q (.ref s.heap.objs.size) { s with heap := s.heap.push (lit l 0) }) :
    wpAny (model prog w) A (call (.builtin "iter") [.ref l]) Q E s := by
  refine call_function_entry (by decide +kernel) (by decide +kernel) it_entry (it_args _) ?_
  unfold Builtin.«iter»
  refine wpAny_bind (m := someArgs "iter" 1 2 _) (wpAny_of_eq (a := [Value.ref l]) (by first | rfl | kernel_rfl) ?_)
  show wpAny _ _ (pyIter (.ref l) >>= _) _ _ _
  refine wpAny_bind (wpAny_pyIter_list (items := vs.toArray) ⟨_, hl, rfl, _, rfl⟩ ?_)
  exact wpAny_pure ⟨_, rfl, h⟩
/-- an object of filterfalse, its slots as given -/
noncomputable abbrev instS (dx : Addr) (sl : Array (Option Value)) : Obj := { cls := .ref 71, dict := some dx, data := .plain, slots := sl }
structure InAt (X : Fx) (σ : St) (x dx : Addr) (sl : Array (Option Value)) (s : Shared) : Prop where
  a : At X σ s
  hx : s.heap.get? x = some (instS dx sl)
  hd : s.heap.get? dx = some emptyDict
  d : dx ∉ X.C.fs
theorem stable_inst (dx : Addr) (sl : Array (Option Value)) : Stable (instS dx sl) := ⟨fun _ _ e => (nomatch e), fun _ e => (nomatch e), fun e => nomatch e⟩
theorem InAt.ev (O : FxOK X) {σ : St} {s s' : Shared} {sl : Array (Option Value)} (h : InAt X σ x dx sl s) (e : Ext X.C.fs s s') : InAt X σ x dx sl s' :=
  ⟨h.a.ev O e, h.a.inv.stable e h.hx (stable_inst _ _), e.keep _ _ h.hd h.d (fun t => by
    obtain ⟨ps, e', _⟩ := h.a.inv.tab
    have q' := h.hd
    rw [t, e'] at q'; cases q'), h.d⟩
theorem InAt.put (g : Gok P X.C.g mg mb) (O : FxOK X) {σ : St} {s : Shared} {sl sl' : Array (Option Value)} (h : InAt X σ x dx sl s) (hl : X.env.locals ∈ X.C.fs) (hf : X.s0.heap.get? x = none) (hv : ∀ y p, σ.vs.lookup y = some p → ∃ v, p = .v v) (hmu : σ.mu = []) {name : Str} {p : Addr} {i : Nat} {v : Value}
    (ht : takerIn (K0 P) 71 name = some (some (.ref p))) (hT : typeIn (K0 P) (.ref p) = some (.type "member_descriptor")) (hp : slotIn (K0 P) p 71 = some i) (hi : i < 1000)
    (hsl : (sl ++ Array.replicate (i + 1 - sl.size) none).setIfInBounds i (some v) = sl') {Q : Unit → Shared → Prop} {E : Value → Shared → Prop}
    (kk : ∀ s', InAt X σ x dx sl' s' → (∀ b o, b ≠ x → s.heap.get? b = some o → s'.heap.get? b = some o) → Q () s') : wpAny X.C.M X.C.A (setAttr (.ref x) name v) Q E s := by
  have off := h.a.inv.off h.hx (stable_inst _ _)
  refine setAttr_slot (K := K0 P) (C := 71) (p := p) (i := i) (od := emptyDict) (g.X.keeps h.a.inv.base) ⟨h.hx, rfl, rfl, h.hd⟩ (by with_unfolding_all rfl) (by with_unfolding_all rfl) ht hT hp hi ?_
  have sb : Heap.SameBut x s.heap (s.heap.update x (fun o => { o with slots := (o.slots ++ Array.replicate (i + 1 - o.slots.size) none).setIfInBounds i (some v) })) := Heap.SameBut.update ..
  have kb : ∀ b o, b ≠ x → s.heap.get? b = some o → _ := fun b o hb e => sb.extBut b o hb e
  refine kk _ ⟨h.a.butV O hf kb hv hmu (fun q => off.1 (q ▸ hl)) (fun v ⟨o, e, d⟩ => by rw [h.hx] at e; cases e; cases d) off.1, ?_, kb _ _ (fun q => by
    have e := h.hd
    rw [q, h.hx] at e; cases e) h.hd, h.d⟩ kb
  show (s.heap.update x _).get? x = _
  rw [Heap.get?_update_self _ h.hx rfl]
  show some (instS dx _) = _
  rw [hsl]
theorem run_init (g : Gok P C.g mg mb) (hr : Rm C 3) {s : Shared} (I : Inv C s) (hx : s.heap.get? x = some (instObj 71 dx)) (hdx : s.heap.get? dx = some emptyDict) (hd : dx ∉ C.fs) (hl : s.heap.get? l = some (lobj vs nl)) (hxg : C.g.get? x = none)
    {R : Result → Shared → Prop}
    (hQ : ∀ it s2, s.heap.get? it = none → ExW C.fs [x] s s2 → s2.heap.get? x = some (instF dx m it) → s2.heap.get? dx = some emptyDict → s2.heap.get? it = some (lit l 0) → R (.ok (.ret .none)) s2) : codeAny C.M C.A (.call (.ref 53) ⟨[.ref x, .ref m, .ref l], []⟩) R s := by
  have offx := I.off hx (stable_inst dx #[])
  have hL0 : ∀ {b : Addr} {o : Obj} {L : Addr}, s.heap.get? L = none → s.heap.get? b = some o → b ≠ L := fun fL e q => by rw [q, fL] at e; cases e
  refine' enter_fkc (C := C) (hs := [x]) (ns := ["self", "function", "iterable"]) (ps := [.v (.ref x), .v (.ref m), .v (.ref l)]) g (by walk_at "wr") (by walk_at "wr") (by walk_at "wr") hr.room rfl ?hg ?ht (by walk_at "wr") (by walk_at "wr") (by walk_at "wr") I (.cons Rep.v (.cons Rep.v (.cons Rep.v .nil))) (by walk_at "wr") ?kind ?nd (by walk_at "wr") (by walk_at "wr") (by walk_at "wr") fun L s1 O A kp fL => ?run
  case hg => exact List.forall_mem_cons.mpr ⟨hxg, List.forall_mem_nil _⟩
  case ht => exact fun q => offx.2 (List.mem_singleton.mp q).symm
  case kind => exact List.forall_mem_cons.mpr ⟨by walk_at "wr", List.forall_mem_cons.mpr ⟨by walk_at "wr", List.forall_mem_cons.mpr ⟨by walk_at "wr", List.forall_mem_nil _⟩⟩⟩
  case nd => decide +kernel
  case run =>
    have N1 : InAt (fnX C _ 53 L (hid s [x]) []) ⟨[], [], [("self", .v (.ref x)), ("function", .v (.ref m)), ("iterable", .v (.ref l))]⟩ x dx #[] s1 := ⟨A, kp _ _ hx, kp _ _ hdx, fun q => by
      rcases List.mem_cons.mp q with q | q
      · exact hL0 fL hdx q
      · exact hd q⟩
    have hfx : (hid s [x]).heap.get? x = none := hid_none (List.mem_singleton_self x)
    have hvs : ∀ y p, List.lookup y [(Str.ofString "self", PV.v (.ref x)), ("function", .v (.ref m)), ("iterable", .v (.ref l))] = some p → ∃ v, p = PV.v v := fun y p e => by
      have := mem_of_lookup e
      simp only [List.mem_cons, Prod.mk.injEq, List.not_mem_nil, or_false] at this
      rcases this with ⟨_, rfl⟩ | ⟨_, rfl⟩ | ⟨_, rfl⟩ <;> exact ⟨_, rfl⟩
    refine wpAny_execs_cons (plainObj_wpAny_Assign_Attribute (Call_ ((Ev.bn g.fn (by walk_at "wr") (by walk_at "wr") (by decide) (by walk_at "wr")).use N1.a.inv N1.a.frm fun v2 s2 x2 I2 F2 r2 => ?_) (by walk_at "wr")) (by walk_at "wr"))
    rw [r2.v_inv]
    have N2 := N1.ev O x2
    refine callWith_builtin1 ?_ (by walk_at "wr") (by walk_at "wr")
    refine args_cons ((show Ev _ _ _ _ (.v (.ref l)) by walk_at "ld").use I2 F2 fun v3 s3 x3 I3 F3 r3 => ?_) (by walk_at "wr")
    rw [r3.v_inv]
    have N3 := N2.ev O x3
    refine args_nil ?_
    have hl3 : s3.heap.get? l = some (lobj vs nl) := I2.stable x3 (A.inv.stable x2 (kp _ _ hl) (stable_lobj _ _)) (stable_lobj _ _)
    refine iter_list hl3 ?_
    have N4 := N3.ev O (Ext.push (t := s3.toks) (o := lit l 0))
    refine (show Ev _ _ _ _ (.v (.ref x)) by walk_at "ld").use N4.a.inv N4.a.frm fun v5 s5 x5 I5 F5 r5 => ?_
    rw [r5.v_inv]
    have N5 := N4.ev O x5
    refine N5.put g.fn O List.mem_cons_self hfx hvs rfl (p := 73) (i := 1) (by walk_at "wr") (by walk_at "wr") (by walk_at "wr") (by decide) rfl fun s6 N6 k6 => ?_
    refine wpAny_execs_cons (plainObj_wpAny_Assign_Attribute ((show Ev _ _ _ _ (.v (.ref m)) by walk_at "ld").use N6.a.inv N6.a.frm fun v7 s7 x7 I7 F7 r7 => ?_) (by walk_at "wr"))
    rw [r7.v_inv]
    have N7 := N6.ev O x7
    refine (show Ev _ _ _ _ (.v (.ref x)) by walk_at "ld").use N7.a.inv N7.a.frm fun v8 s8 x8 I8 F8 r8 => ?_
    rw [r8.v_inv]
    have N8 := N7.ev O x8
    refine N8.put g.fn O List.mem_cons_self hfx hvs rfl (p := 72) (i := 0) (by walk_at "wr") (by walk_at "wr") (by walk_at "wr") (by decide) rfl fun s9 N9 k9 => ?_
    refine wpAny_execs_nil ?_
    have hne : s3.heap.objs.size ≠ x := fun q => by
      have := N3.hx
      rw [← q, fresh_size] at this; cases this
    have f3 : s.heap.get? s3.heap.objs.size = none := by
      cases e : s.heap.get? s3.heap.objs.size with
      | none => rfl
      | some o =>
        have h1 := kp _ _ e
        have h2 := A.inv.grow x2 s3.heap.objs.size (I2.grow x3 _ (fresh_size _))
        rw [h2] at h1; cases h1
    have st := stable_lit l 0
    have i4 : (s3.heap.push (lit l 0)).get? s3.heap.objs.size = some (lit l 0) := Heap.get?_push_size _ rfl
    have i5 := N4.a.inv.stable x5 i4 st
    have i6 := k6 _ _ hne i5
    have i7 := N6.a.inv.stable x7 i6 st
    have i8 := N7.a.inv.stable x8 i7 st
    have i9 := k9 _ _ hne i8
    exact hQ _ s9 f3 (Ext.unhid N9.a.ext (List.forall_mem_cons.mpr ⟨offx.1, List.forall_mem_nil _⟩) (fun q => offx.2 (List.mem_singleton.mp q).symm)) N9.hx N9.hd i9

end
section
open  PySem.Builtin PySem.Builtin.Str
set_option maxHeartbeats 4000000
set_option linter.unusedVariables false
set_option autoImplicit false
variable {C : Cx} {env : Env} {σ : St} {mu : List Addr} {mg mb : Str → Option Value} {P : Params} {X : Fx} {Q : St → Res → Prop}
variable {x dx m it l k : Addr} {vs ws : List Value} {nl nk i : Nat} {xs ys : List Str}
/-- the context, but for what stands around -/
noncomputable abbrev Cx.at (C : Cx) (A : Around) : Cx := { C with A := A }
theorem Inv.around {A : Around} {s : Shared} (I : Inv C s) (h1 : A.handled = none) (h2 : A.frames = C.A.frames) : Inv (C.at A) s :=
  ⟨I.base, I.gens, I.os, I.tab, h1, by obtain ⟨o, e, f⟩ := I.frames; exact ⟨o, h2.trans e, f⟩, I.gtab⟩
theorem stop_is {A : Around} {v : Value} {s : Shared} (h : StopE v s) {M : Model} {Q : Bool → Shared → Prop} {E : Value → Shared → Prop} (q : Q true s) : wpAny M A (isInstance v (.type "StopIteration")) Q E s := by
  obtain ⟨e, rfl, hT⟩ := h
  exact wpAny_isInstance hT isSubtype_stop q
theorem fil_next (g : Gok P C.g mg mb) (hr : Rm C 3) {s : Shared} (I : Inv C s) (H : FilSt x dx m it l k vs ws nl nk i s.heap) (hd : dx ∉ C.fs) (hv : StrsAre vs xs) (hw : StrsAre ws ys) (hig : C.g.get? it = none) (hi : i ≤ xs.length)
    {Q : Option Value → Shared → Prop} {E : Value → Shared → Prop}
    (hQ : ∀ j y t s2, i < j → j ≤ xs.length → outF (xs.drop i) ys = y :: outF (xs.drop j) ys → ExW C.fs [it] s s2 → FilSt x dx m it l k vs ws nl nk j s2.heap → Q (some (.str y t)) s2)
    (hE : ∀ s2, outF (xs.drop i) ys = [] → ExW C.fs [it] s s2 → Q none s2) : wpAny C.M C.A (pyNext (.ref x)) Q E s := by
  unfold pyNext
  refine wpAny_bind (wpAny_attempt (special_fn (K := K0 P) (C := 71) (name := "__next__") (args := []) (f := 67) (g.X.keeps I.base) H.inst (by with_unfolding_all rfl) (by with_unfolding_all rfl) (run_next g hr I H hd hv hw hig hi (fun j y t s2 h1 h2 h3 h4 h5 => ?_) (fun v s2 h1 h2 h3 => ?_))))
  · exact wpAny_pure (hQ j y t s2 h1 h2 h3 h4 h5)
  · refine wpAny_bind (stop_is h3 ?_)
    exact wpAny_pure (hE s2 h1 h2)
theorem FilSt.but {h h' : Heap} {S : Addr} {acc : List Value} {c : Nat} (H : FilSt x dx m it l k vs ws nl nk i h) (hS : h.get? S = some (lobj acc c)) (hl : S ≠ l) (hk : S ≠ k) (sb : ∀ b o, b ≠ S → h.get? b = some o → h'.get? b = some o) : FilSt x dx m it l k vs ws nl nk i h' := by
  have ne : ∀ {b : Addr} {o : Obj}, h.get? b = some o → o.cls ≠ .type "list" → b ≠ S := fun e c q => by
    rw [q, hS] at e; cases e; exact c rfl
  have tne : ∀ {a b : String}, a ≠ b → Value.type a ≠ Value.type b := fun c q => by injection q with q; exact c q
  exact ⟨sb _ _ (ne H.hx (fun q => nomatch q)) H.hx, sb _ _ (ne H.hd (tne (by decide))) H.hd, sb _ _ (ne H.hm (tne (by decide))) H.hm, sb _ _ (Ne.symm hk) H.hk, sb _ _ (Ne.symm hl) H.hl, sb _ _ (ne H.hit (tne (by decide))) H.hit⟩
theorem strs_snoc {vs : List Value} {xs : List Str} {y : Str} {t : Tok} (h : StrsAre vs xs) : StrsAre (vs ++ [.str y t]) (xs ++ [y]) := by
  induction h with
  | nil => exact .cons _ _ .nil
  | cons n t h ih => exact .cons _ _ ih
theorem fil_loop (g : Gok P C.g mg mb) (hr : Rm C 4) {S : Addr} (hv : StrsAre vs xs) (hw : StrsAre ws ys) (hd : dx ∉ C.fs) (hig : C.g.get? it = none) (hSg : C.g.get? S = none) (hSi : S ≠ it) (hxl : xs.length ≤ 1000) {R : Result → Shared → Prop} :
    ∀ (n i : Nat) (s : Shared) (acc : List Value) (ac : List Str) (c : Nat), xs.length - i = n → i ≤ xs.length → Inv C s → FilSt x dx m it l k vs ws nl nk i s.heap → s.heap.get? S = some (lobj acc c) → StrsAre acc ac → ac.length ≤ i → S ≠ l → S ≠ k →
      (∀ s' acc' c', ExW C.fs [S, it] s s' → s'.heap.get? S = some (lobj acc' c') → StrsAre acc' (ac ++ outF (xs.drop i) ys) → R (.ok (.ret .none)) s') →
      codeAny C.M C.A (.builtin "list.extend.loop" ⟨[.ref S, .ref x, .none], []⟩) R s := by
  intro n
  induction n using Nat.strongRecOn with
  | _ n ih =>
  intro i s acc ac c hn hi I H hS ha hal hSl hSk hR
  have sz : sizeLine = 16777216 := by decide
  refine codeAny_builtin F.entry_extend_loop ?_
  rw [Around.under_plainId F.plain_extend_loop _]
  have I1 : Inv (C.at C.A.in1) s := I.around I.hand rfl
  have offS := I.off hS (stable_lobj _ _)
  show wpAny C.M C.A.in1 (pyNext (.ref x) >>= _) _ _ s
  refine wpAny_bind (fil_next (C := C.at C.A.in1) g ⟨by have := hr.d; show C.A.depth + 3 < _; omega, by have := hr.u; show C.A.units + 1 + 10 * 3 < _; omega⟩ I1 H hd hv hw hig hi (fun j y t s2 h1 h2 h3 h4 h5 => ?_) (fun s2 h1 h2 => ?_))
  · have h4 : ExW C.fs [it] s s2 := h4
    have hS2 := I.stableW h4 hS (stable_lobj _ _) (fun q => hSi (List.mem_singleton.mp q))
    show wpAny C.M C.A.in1 (updateSeq S (·.push (.str y t)) >>= _) _ _ _
    refine wpAny_bind ?_
    refine wpAny_updateSeq hS2 rfl (wpAny_pure ⟨plainId_quiet F.plain_extend_loop _, ?_⟩) ?_ ?_
    rotate_left
    · show acc.toArray.size ≤ _; rw [List.size_toArray, strs_len ha]; omega
    · show (acc.toArray.push _).size ≤ _; rw [Array.size_push, List.size_toArray, strs_len ha]; omega
    have sb : ∀ b o, b ≠ S → s2.heap.get? b = some o → (s2.heap.update S (Obj.mapSeq fun x => x.push (.str y t))).get? b = some o := fun b o hb e => (Heap.SameBut.update ..).extBut b o hb e
    have x2 : ExW C.fs [S, it] s2 { s2 with heap := s2.heap.update S (Obj.mapSeq fun x => x.push (.str y t)), toks := s2.toks } := ExW.but List.mem_cons_self offS.1 offS.2 sb
    have h4' : ExW C.fs [S, it] s s2 := h4.wider fun a q => List.mem_cons_of_mem _ q
    have I3 := I.exW (h4'.trans x2) (List.forall_mem_cons.mpr ⟨hSg, List.forall_mem_cons.mpr ⟨hig, List.forall_mem_nil _⟩⟩)
    have hS3 : (s2.heap.update S (Obj.mapSeq fun x => x.push (.str y t))).get? S = some (lobj (acc ++ [.str y t]) (c + 1)) := by
      rw [Heap.get?_update_self _ hS2 (by rw [Obj.mapSeq_push_plain]; rfl), Obj.mapSeq_push_plain]
      simp [lobj]
    refine ih (xs.length - j) (by omega) j _ (acc ++ [.str y t]) (ac ++ [y]) _ rfl h2 I3 ?_ hS3 ?_ ?_ hSl hSk ?_
    · exact h5.but hS2 hSl hSk sb
    · exact strs_snoc ha
    · rw [List.length_append]; simp only [List.length_singleton]; omega
    · intro s' acc' c' e1 e2 e3
      refine hR s' acc' c' ((h4'.trans x2).trans e1) e2 ?_
      rw [h3, ← List.singleton_append, ← List.append_assoc]
      exact e3
  · have h2 : ExW C.fs [it] s s2 := h2
    have hS2 := I.stableW h2 hS (stable_lobj _ _) (fun q => hSi (List.mem_singleton.mp q))
    exact wpAny_pure (hR s2 acc c (h2.wider fun a q => List.mem_cons_of_mem _ q) hS2 (by rw [h1, List.append_nil]; exact ha))

end
section
open  PySem.Builtin PySem.Builtin.Str
set_option maxHeartbeats 4000000
set_option linter.unusedVariables false
set_option autoImplicit false
variable {C : Cx} {env : Env} {σ : St} {mu : List Addr} {mg mb : Str → Option Value} {P : Params} {X : Fx} {Q : St → Res → Prop}
variable {x dx m it l k : Addr} {vs ws : List Value} {nl nk i : Nat} {xs ys : List Str}
theorem fn_iter (g : Gok P C.g mg mb) (hr : Rm C 2) {v : Value} : CallV C mu (.ref 60) [.v v] (.v v) := by
  refine' CallV.fk (ns := ["self"]) (W := []) g (by walk_at "wr") (by walk_at "wr") (by walk_at "wr") ?room rfl (by walk_at "wr") (by walk_at "wr") (by walk_at "wr") ?hbind ?hkind ?hnd ?hW (by walk_at "wr") (by walk_at "wr") (by walk_at "wr") fun L s O => ?run
  case room => exact hr.room
  case hbind =>
    intro vs h
    match vs, h with
    | [v0], _ => walk_at "wr"
  case hkind => exact List.forall_mem_cons.mpr ⟨Or.inl (by walk_at "wr"), List.forall_mem_nil _⟩
  case hnd => decide +kernel
  case hW => exact List.forall_mem_nil _
  case run =>
    exact Run.cons (Exe.ret O (by walk_at "ld") (RetsP.pl rfl))
theorem fil_iter (g : Gok P C.g mg mb) (hr : Rm C 2) {s : Shared} (I : Inv C s) (H : FilSt x dx m it l k vs ws nl nk i s.heap) (hd : dx ∉ C.fs)
    {Q : Value → Shared → Prop} {E : Value → Shared → Prop} (hQ : ∀ s2, Ext C.fs s s2 → Q (.ref x) s2) : wpAny C.M C.A (pyIter (.ref x)) Q E s := by
  have X : (K0 P).In s.heap := g.X.keeps I.base
  have hs : findIn (K0 P) (.ref 71) "__iter__" = some (some (.ref 60)) := by with_unfolding_all rfl
  have hf : typeIn (K0 P) (.ref 60) = some (.type "function") := by with_unfolding_all rfl
  have hn : findIn (K0 P) (.ref 71) "__next__" = some (some (.ref 67)) := by with_unfolding_all rfl
  have T := H.inst.type (M := C.M)
  have got : ∀ s2, Ext C.fs s s2 → wpAny C.M C.A (specialOf (.ref x) "__next__") (fun r s₂ => match r with | none => False | some _ => Q (.ref x) s₂) E s2 := fun s2 e => by
    have hx2 := I.stable e H.hx (stable_inst _ _)
    have T2 : Looks C.M s2.heap (typeOf (.ref x)) (.ref 71) := (Looks.ld hx2).andThen .now
    exact wpAny_bind (T2.here ((looks_findIn (g.X.keeps (I.ext e).base) hn).here (hQ s2 e)))
  have fin : wpAny C.M C.A (call (.ref 60) [.ref x] >>= fun v => pure (some v)) (fun r s' => r = some (.ref x) ∧ Ext C.fs s s') E s :=
    wpAny_bind ((fn_iter (mu := []) g hr).use I (fun _ h => nomatch h) (.cons Rep.v .nil) fun v s' e _ r => wpAny_pure ⟨by rw [r.v_inv], e⟩)
  have one : ∀ refuse : Sem Value, wpAny C.M C.A (callSpecialIfBoundUnlessNone? (.ref x) "__iter__" refuse) (fun r s' => r = some (.ref x) ∧ Ext C.fs s s') E s := by
    intro refuse
    simp only [callSpecialIfBoundUnlessNone?, bindSpecialIfBound?]
    refine wpAny_holding (wpAny_bind (wpAny_bind (wpAny_bind (T.here ((looks_findIn X hs).here ?_)))))
    refine wpAny_bind (wpAny_askSetting (wpAny_ite ?_))
    have fin2 : wpAny C.M C.A (if (Value.ref 60 == Value.none) = true then (refuse >>= fun v => pure (some v)) else (call (.ref 60) [.ref x] >>= fun v => pure (some v))) (fun r s' => r = some (.ref x) ∧ Ext C.fs s s') E s := by
      rw [if_neg (show ¬ ((Value.ref 60 == Value.none) = true) from Bool.false_ne_true)]
      exact fin
    split
    · exact wpAny_bind ((bind_fn X _ hf).here (wpAny_pure (by exact fin2)))
    · exact wpAny_tryCatch (wpAny_bind ((bind_fn X _ hf).here (wpAny_pure (by exact fin2))))
  unfold pyIter
  refine wpAny_bind (wpAny_bind (T.here ((looks_findIn X hs).here ?_)))
  show wpAny C.M C.A (callSpecialIfBoundUnlessNone? (.ref x) "__iter__" _ >>= _) Q E s
  refine wpAny_bind (wpAny_mono (one _) (fun r s' hr => ?_) fun _ _ z => z)
  obtain ⟨rfl, e⟩ := hr
  refine wpAny_bind (wpAny_mono (got s' e) (fun r s₂ hr => ?_) fun _ _ z => z)
  cases r with
  | none => exact hr.elim
  | some g => exact wpAny_pure hr
/-- list(filterfalse(..)) -/
theorem list_fil (g : Gok P C.g mg mb) (hr : Rm C 5) {s : Shared} (I : Inv C s) (H : FilSt x dx m it l k vs ws nl nk 0 s.heap) (hd : dx ∉ C.fs) (hv : StrsAre vs xs) (hw : StrsAre ws ys) (hig : C.g.get? it = none) (hxl : xs.length ≤ 1000)
    {Q : Value → Shared → Prop} {E : Value → Shared → Prop} (hQ : ∀ S acc c s2, s.heap.get? S = none → ExW C.fs [S, it] s s2 → s2.heap.get? S = some (lobj acc c) → StrsAre acc (outF xs ys) → Q (.ref S) s2) : wpAny C.M C.A (call (.type "list") [.ref x]) Q E s := by
  have sz : sizeLine = 16777216 := by decide
  refine callType_codes (Q₁ := fun obj s₁ => obj = .ref s.heap.objs.size ∧ s₁ = { s with heap := s.heap.push { cls := .type "list", data := .seq #[] } }) F.called_list (F.typeCall_list_1 _) F.entry_list_init
    (code_list_new _ ⟨rfl, rfl⟩) fun obj s₁ h₁ => ?_
  obtain ⟨rfl, rfl⟩ := h₁
  have fS := fresh_size s.heap
  generalize hSS : s.heap.objs.size = S at *
  have hS : (s.heap.push { cls := .type "list", data := .seq #[] }).get? S = some (lobj [] 0) := by rw [← hSS]; exact Heap.get?_push_size _ rfl
  refine ⟨⟨_, hS, rfl⟩, F.args_list_init_2 _ _, ?_⟩
  have x1 : Ext C.fs s { s with heap := s.heap.push { cls := .type "list", data := .seq #[] } } := Ext.push (t := s.toks)
  have I1 := I.ext x1
  have H1 : FilSt x dx m it l k vs ws nl nk 0 (s.heap.push { cls := .type "list", data := .seq #[] }) := H.keep fun b o e _ => Heap.get?_push_of_some _ e
  have hSl : S ≠ l := fun q => by have := H.hl; rw [← q, fS] at this; cases this
  have hSk : S ≠ k := fun q => by have := H.hk; rw [← q, fS] at this; cases this
  have hSi : S ≠ it := fun q => by have := H.hit; rw [← q, fS] at this; cases this
  have hSg : C.g.get? S = none := by
    cases e : C.g.get? S with
    | none => rfl
    | some o => rw [I.base _ _ e] at fS; cases fS
  have off1 := I1.off hS (stable_lobj _ _)
  show wpAny C.M C.A.in1.in1 (do let old ← Builtin.List.listItems (.ref S); Builtin.List.listUpdate (.ref S) (fun _ => #[]); letGo old.toList.reverse; Builtin.List.listExtendWith (.ref S) (.ref x) .none) _ _ _
  refine wpAny_bind ?_
  unfold Builtin.List.listItems
  refine wpAny_bind (wpAny_seqItems hS rfl (wpAny_pure ?_))
  show wpAny C.M C.A.in1.in1 (updateSeq S (fun _ => #[]) >>= fun _ => letGo (#[] : Array Value).toList.reverse >>= fun _ => Builtin.List.listExtendWith (.ref S) (.ref x) .none) _ _ _
  refine wpAny_bind (wpAny_updateSeq hS rfl ?_)
  have hS2 := Heap.get?_update_self (Obj.mapSeq (fun _ => (#[] : Array Value))) hS rfl
  have sb2 : ∀ b o, b ≠ S → (s.heap.push { cls := .type "list", data := .seq #[] }).get? b = some o → ((s.heap.push { cls := .type "list", data := .seq #[] }).update S (Obj.mapSeq (fun _ => (#[] : Array Value)))).get? b = some o := fun b o hb e => (Heap.SameBut.update ..).extBut b o hb e
  refine wpAny_bind (wpAny_letGo ?_)
  have x2 : ExW C.fs [S, it] { s with heap := s.heap.push { cls := .type "list", data := .seq #[] } } { s with heap := (s.heap.push { cls := .type "list", data := .seq #[] }).update S (Obj.mapSeq (fun _ => (#[] : Array Value))), toks := s.toks } := ExW.but List.mem_cons_self off1.1 off1.2 sb2
  have hwr : ∀ a ∈ [S, it], C.g.get? a = none := List.forall_mem_cons.mpr ⟨hSg, List.forall_mem_cons.mpr ⟨hig, List.forall_mem_nil _⟩⟩
  have I2 := I1.exW x2 hwr
  have H2 := H1.but hS hSl hSk sb2
  have hSx : S ≠ x := fun q => by have := H.hx; rw [← q, fS] at this; cases this
  unfold Builtin.List.listExtendWith
  refine wpAny_bind (H2.inst.type.here ?_)
  have h1 : Builtin.List.listSameRef (.ref S) (.ref x) = false := by simp [Builtin.List.listSameRef, hSx]
  have h2 : (Value.ref 71 == Value.type "list") = false := rfl
  have h3 : (Value.ref 71 == Value.type "tuple") = false := rfl
  simp only [h1, h2, h3, Bool.or_false, Bool.false_eq_true, if_false]
  have I2' : Inv (C.at C.A.in1.in1) { s with heap := (s.heap.push { cls := .type "list", data := .seq #[] }).update S (Obj.mapSeq (fun _ => (#[] : Array Value))), toks := s.toks } := I2.around I.hand rfl
  refine wpAny_bind (fil_iter (C := C.at C.A.in1.in1) g ⟨by have := hr.d; show C.A.depth + 2 < _; omega, by have := hr.u; show C.A.units + 1 + 1 + 10 * 2 < _; omega⟩ I2' H2 hd fun s3 x3 => ?_)
  have x3 : Ext C.fs _ s3 := x3
  have I3 := I2.ext x3
  have off2 := I2.off hS2 ⟨fun _ _ e => (nomatch e), fun _ e => (nomatch e), fun e => nomatch e⟩
  have H3 : FilSt x dx m it l k vs ws nl nk 0 s3.heap := H2.keep fun b o e z => by
    rcases z with z | rfl
    · exact I2.stable x3 e z
    · refine x3.keep _ _ e hd fun t => ?_
      obtain ⟨ps, e', _⟩ := I2.tab
      have q' := H2.hd
      rw [t, e'] at q'; cases q'
  have hS3 : s3.heap.get? S = some _ := x3.keep _ _ hS2 off2.1 off2.2
  refine wpAny_bind (wpAny_holding ?_)
  unfold Builtin.List.listLengthHint
  have X3 : (K0 P).In s3.heap := g.X.keeps I3.base
  refine wpAny_bind (wpAny_bind (H3.inst.type.here ((looks_findIn X3 (show findIn (K0 P) (.ref 71) "__len__" = some none by with_unfolding_all rfl)).here ?_)))
  show wpAny C.M C.A.in1.in1 (specialOf (Value.ref x) (Str.ofString "__length_hint__") >>= _) _ _ _
  refine wpAny_bind (wpAny_bind (H3.inst.type.here ((looks_findIn X3 (show findIn (K0 P) (.ref 71) "__length_hint__" = some none by with_unfolding_all rfl)).here ?_)))
  refine wpAny_pure ?_
  show wpAny C.M C.A.in1.in1 (rule "list.extend.makes-room" >>= fun _ => Builtin.List.listTouch (.ref S) >>= fun _ =>
    again (.builtin "list.extend.loop" ⟨[.ref S, .ref x, .none], []⟩)) _ _ _
  refine wpAny_bind (wpAny_rule ?_)
  refine wpAny_bind ?_
  show wpAny C.M C.A.in1.in1 (updateSeq S (·.push .none) >>= fun _ => updateSeq S (·.pop)) _ _ _
  refine wpAny_bind (wpAny_updateSeq hS3 rfl ?_)
  have hS4 := Heap.get?_update_self (Obj.mapSeq (·.push Value.none)) hS3 rfl
  refine wpAny_updateSeq (hz := by seq_fits) hS4 rfl ?_
  have hS5 := Heap.get?_update_self (Obj.mapSeq (·.pop)) hS4 rfl
  have sb5 : ∀ b o, b ≠ S → s3.heap.get? b = some o → ((s3.heap.update S (Obj.mapSeq (·.push Value.none))).update S (Obj.mapSeq (·.pop))).get? b = some o :=
    fun b o hb e => (Heap.get?_update_other _ _ (Ne.symm hb)).trans ((Heap.get?_update_other _ _ (Ne.symm hb)).trans e)
  have x5 : ExW C.fs [S, it] s3 { s3 with heap := (s3.heap.update S (Obj.mapSeq (·.push Value.none))).update S (Obj.mapSeq (·.pop)), toks := s3.toks } := ExW.but List.mem_cons_self off2.1 off2.2 sb5
  have I5 := I3.exW x5 hwr
  have I5' := I5.around (A := C.A.in1) I.hand rfl
  have H5 := H3.but hS3 hSl hSk sb5
  refine wpAny_pure ⟨plainId_quiet F.plain_extend_loop _, fil_loop (C := C.at C.A.in1) g ⟨by have := hr.d; show C.A.depth + 4 < _; omega, by have := hr.u; show C.A.units + 1 + 10 * 4 < _; omega⟩ hv hw hd hig hSg hSi hxl _ 0 _ [] [] _ rfl (Nat.zero_le _) I5' H5 hS5 .nil (Nat.le_refl _) hSl hSk fun s' acc' c' e1 e2 e3 => ?_⟩
  exact ⟨rfl, hQ S acc' c' s' fS ((x1.exW.trans x2).trans ((x3.exW.trans x5).trans e1)) e2 e3⟩

end
section
open  PySem.Builtin PySem.Builtin.Str
set_option maxHeartbeats 4000000
set_option linter.unusedVariables false
set_option autoImplicit false
variable {C : Cx} {env : Env} {σ : St} {mu : List Addr} {mg mb : Str → Option Value} {P : Params} {X : Fx} {Q : St → Res → Prop}
variable {x dx m it l k : Addr} {vs ws : List Value} {nl nk i : Nat} {xs ys : List Str}
/-- filterfalse(m, l) -/
theorem make_fil (g : Gok P C.g mg mb) (hr : Rm C 5) {s : Shared} (I : Inv C s) (hl : s.heap.get? l = some (lobj vs nl)) {R : Result → Shared → Prop}
    (hQ : ∀ x dx it s2, s.heap.get? x = none → s.heap.get? it = none → s.heap.get? dx = none → Ext C.fs s s2 → s2.heap.get? x = some (instF dx m it) → s2.heap.get? dx = some emptyDict → s2.heap.get? it = some (lit l 0) → R (.ok (.ret (.ref x))) s2) :
    codeAny C.M C.A (.call (.ref 71) ⟨[.ref m, .ref l], []⟩) R s := by
  have X : (K0 P).In s.heap := g.X.keeps I.base
  obtain ⟨h, gn, d, t, os⟩ := s
  refine make_core (makes_of X (by with_unfolding_all rfl)) (looks_findIn X (show findIn (K0 P) (.ref 71) "__init__" = some (some (.ref 53)) by with_unfolding_all rfl)) (fun self => bind_fn X self (by with_unfolding_all rfl)) (.inl rfl) ?_
  have x1 : Ext C.fs ⟨h, gn, d, t, os⟩ ⟨(h.push emptyDict).push (instObj 71 h.objs.size), gn, d, t, os⟩ := Ext.of_keeps (fun b o e => Heap.get?_push_of_some _ (Heap.get?_push_of_some _ e)) rfl rfl
  have fdx : h.get? h.objs.size = none := fresh_size h
  have fx : h.get? (h.objs.size + 1) = none := Heap.get?_none_of_le (Nat.le_succ _)
  have I1 : Inv C ⟨(h.push emptyDict).push (instObj 71 h.objs.size), gn, d, t, os⟩ := I.ext x1
  have gnone : ∀ {b : Addr}, h.get? b = none → C.g.get? b = none := fun {b} e => by
    cases e' : C.g.get? b with
    | none => rfl
    | some o =>
      have := I.base _ _ e'
      have this : h.get? b = some o := this
      rw [e] at this; cases this
  obtain ⟨outer, ho, hfr⟩ := I.frames
  have hdf : h.objs.size ∉ C.fs := fun q => by
    obtain ⟨_, _, o, es, n, e, _⟩ := hfr.mem q
    have e : h.get? h.objs.size = some o := e
    rw [fdx] at e; cases e
  have e1 : ((h.push emptyDict).push (instObj 71 h.objs.size)).get? (h.objs.size + 1) = some (instObj 71 h.objs.size) := by heap_get
  have e2 : ((h.push emptyDict).push (instObj 71 h.objs.size)).get? h.objs.size = some emptyDict := Heap.get?_push_of_some _ (Heap.get?_push_size _ rfl)
  refine run_init (C := C.at (C.A.under (.builtin "type.__call__" ⟨[.ref 71, .ref m, .ref l], []⟩))) g ?hr (I1.around I.hand ?fr) e1 e2 hdf (Heap.get?_push_of_some _ (Heap.get?_push_of_some _ hl)) (gnone fx) fun it s2 f e3 e4 e5 e6 => ?_
  case hr =>
    have w1 : (Code.builtin "type.__call__" ⟨[.ref 71, .ref m, .ref l], []⟩).weight = 1 := by kernel_rfl
    have w2 : (Code.builtin "type.__call__" ⟨[.ref 71, .ref m, .ref l], []⟩).cUnits = 1 := by kernel_rfl
    refine ⟨?_, ?_⟩
    · show C.A.depth + (Code.builtin "type.__call__" ⟨[.ref 71, .ref m, .ref l], []⟩).weight + 3 < _
      rw [w1]
      have := hr.d
      omega
    · show C.A.units + (Code.builtin "type.__call__" ⟨[.ref 71, .ref m, .ref l], []⟩).cUnits + 10 * 3 < _
      rw [w2]
      have := hr.u
      omega
  case fr =>
    have w3 : (Code.builtin "type.__call__" ⟨[.ref 71, .ref m, .ref l], []⟩).envs = [] := by kernel_rfl
    show pushEnvs (Code.builtin "type.__call__" ⟨[.ref 71, .ref m, .ref l], []⟩).envs C.A.frames = C.A.frames
    rw [w3]
    rfl
  have fit : h.get? it = none := by
    cases e : h.get? it with
    | none => rfl
    | some o =>
      have := Heap.get?_push_of_some (instObj 71 h.objs.size) (Heap.get?_push_of_some emptyDict e)
      have f : ((h.push emptyDict).push (instObj 71 h.objs.size)).get? it = none := f
      rw [f] at this; cases this
  exact ⟨rfl, hQ _ _ it s2 fx fit fdx (ExW.ext x1 e3 (List.forall_mem_cons.mpr ⟨fx, List.forall_mem_nil _⟩)) e4 e5 e6⟩

end
section
open  PySem.Builtin PySem.Builtin.Str
set_option maxHeartbeats 4000000
set_option linter.unusedVariables false
set_option autoImplicit false
variable {C : Cx} {env : Env} {σ : St} {mu : List Addr} {mg mb : Str → Option Value} {P : Params} {X : Fx} {Q : St → Res → Prop}
noncomputable def dotP : PV := .l [.s "", .b true]
noncomputable def setP (S : Str) : PV := .l [.s S, .b false]
noncomputable def itemsTo (a m : Nat) (S : Str) (k : Nat) : List PV := if k ≤ a then List.replicate k dotP else List.replicate a dotP ++ [setP S] ++ List.replicate (k - (a + m + 2)) dotP
structure ItemsOK (made T S : Str) (a m : Nat) : Prop where
  hT : Txt.slice made (some 4) (some (-3)) = T
  hp : Txt.slice made none (some 4) = "(?s:"
  hq : Txt.slice made (some (-3)) none = ")\\Z"
  hlen : T.length ≤ 100
  hmade : made.length ≤ 200
  hdot : ∀ k : Nat, k < a → Txt.item T k = "."
  hset : Txt.item T a = "["
  hidx : (occurrences T "]" (fromIndex T.length a) T.length 1).head? = some (a + m + 1)
  hin : Txt.slice T (some ((a : Int) + 1)) (some ((a : Int) + m + 1 + 1 - 1)) = S
  hdot2 : ∀ k : Nat, k < T.length → a + m + 2 ≤ k → Txt.item T k = "."
  hle : a + m + 2 ≤ T.length
  hS0 : S ≠ "."
  hS1 : Txt.slice S none (some 1) ≠ "^"
  hS2 : inS S "\\" = false
  hSl : S.length ≤ 100
theorem beq_ne {x y : Str} (h : x ≠ y) : (x == y) = false := by
  cases e : x == y with
  | false => rfl
  | true => exact absurd (beq_iff_eq.mp e) h
structure Step (T S : Str) (a m k : Nat) (e : Int) (inner : Str) (it : PV) (k' : Nat) : Prop where
  idx : (Txt.item T k == "[") = true → ∃ i rest, occurrences T "]" (fromIndex T.length k) T.length 1 = i :: rest ∧ e = (i : Int) + 1
  inn : (Txt.item T k == "[") = true → Txt.slice T (some ((k : Int) + 1)) (some (e - 1)) = inner
  dot : (Txt.item T k == "[") = false → e = k + 1 ∧ Txt.item T k = inner
  it1 : (inner == ".") = true → it = dotP
  it2 : (inner == ".") = false → it = setP inner ∧ (Txt.slice inner none (some 1) == "^") = false ∧ inS inner "\\" = false
  len : inner.length ≤ 100
  pl : it.pl = true
  ek : e = (k' : Int)
  lt : k < k'
  le : k' ≤ T.length
  or : k' ≤ a ∨ a + m + 2 ≤ k'
  its : itemsTo a m S k' = itemsTo a m S k ++ [it]
theorem ItemsOK.step {made T S : Str} {a m : Nat} (H : ItemsOK made T S a m) {k : Nat} (hk : k < T.length) (hka : k ≤ a ∨ a + m + 2 ≤ k) : ∃ e inner it k', Step T S a m k e inner it k' := by
  have hle := H.hle
  have dots : Txt.item T k = "." → ((k < a) ∨ a + m + 2 ≤ k) → ∃ e inner it k', Step T S a m k e inner it k' := by
    intro hd hc
    have hne : (Txt.item T k == "[") = false := by rw [hd]; decide +kernel
    refine ⟨(k : Int) + 1, ".", dotP, k + 1, ⟨?_, ?_, ?_, ?_, ?_, by decide +kernel, rfl, by push_cast; rfl, by omega, by omega, by omega, ?_⟩⟩
    · intro h; rw [hne] at h; cases h
    · intro h; rw [hne] at h; cases h
    · intro _; exact ⟨rfl, hd⟩
    · intro _; rfl
    · intro h; exact absurd h (by decide +kernel)
    · unfold itemsTo
      rcases hc with h | h
      · rw [if_pos (by omega), if_pos (by omega), List.replicate_succ']
      · rw [if_neg (by omega), if_neg (by omega), show k + 1 - (a + m + 2) = k - (a + m + 2) + 1 by omega, List.replicate_succ', ← List.append_assoc]
  rcases hka with h | h
  · by_cases he : k = a
    · subst he
      have hb : (Txt.item T k == "[") = true := by rw [H.hset]; decide +kernel
      cases ho : occurrences T "]" (fromIndex T.length k) T.length 1 with
      | nil => have := H.hidx; rw [ho] at this; cases this
      | cons i rest =>
        have hi := H.hidx
        rw [ho] at hi
        have hi : i = k + m + 1 := by simpa using hi
        have hS := beq_ne H.hS0
        refine ⟨(i : Int) + 1, S, setP S, k + m + 2, ⟨?_, ?_, ?_, ?_, ?_, H.hSl, rfl, by rw [hi]; push_cast; omega, by omega, by omega, by omega, ?_⟩⟩
        · intro _; exact ⟨i, rest, ho, rfl⟩
        · intro _
          rw [hi]
          exact H.hin
        · intro h; rw [hb] at h; cases h
        · intro h; rw [hS] at h; cases h
        · intro _; exact ⟨rfl, beq_ne H.hS1, H.hS2⟩
        · unfold itemsTo
          rw [if_neg (by omega), if_pos (by omega)]; simp
    · exact dots (H.hdot k (by omega)) (Or.inl (by omega))
  · exact dots (H.hdot2 k hk h) (Or.inr h)
theorem fn_items (g : Gok P C.g mg mb) (hr : Rm C 2) {made T S : Str} {a m : Nat} (H : ItemsOK made T S a m) : CallV C mu (.ref 174) [.s made] (.l (itemsTo a m S T.length)) := by
  refine' CallV.fk (ns := ["made"]) (W := []) g (by walk_at "wr") (by walk_at "wr") (by walk_at "wr") ?room rfl (by walk_at "wr") (by walk_at "wr") (by walk_at "wr") ?hbind ?hkind ?hnd ?hW (by walk_at "wr") (by walk_at "wr") (by walk_at "wr") fun L s O => ?run
  case room => exact hr.room
  case hbind =>
    intro vs h
    match vs, h with
    | [v0], _ => walk_at "wr"
  case hkind => exact List.forall_mem_cons.mpr ⟨Or.inl (by walk_at "wr"), List.forall_mem_nil _⟩
  case hnd => decide +kernel
  case hW => exact List.forall_mem_nil _
  case run =>
    have sl : sizeLine = 16777216 := by decide
    have hlen := H.hlen
    refine Run.cons (Exe.tupSO O (List.forall_mem_cons.mpr ⟨Or.inl (by walk_at "wr"), List.forall_mem_cons.mpr ⟨Or.inl (by walk_at "wr"), List.forall_mem_cons.mpr ⟨Or.inl (by walk_at "wr"), List.forall_mem_nil _⟩⟩⟩) (ns := ["text", "place", "items"]) (by decide) ?_ (by walk_at "wr") (by walk_at "wr"))
    refine EvAO.cons O (p := .s T) ?_ (EvAO.cons O Ev.int (EvAO.own O (xs := []) (EvF.list EvA.nil rfl) fun al hal => EvAO.nil ⟨rfl, ?_⟩))
    · rw [← H.hT]
      exact Ev.slice (by walk_at "ld") (EvO.som Ev.int) (EvO.som (Ev.neg Ev.int)) EvO.non (SlV.str (by have := H.hmade; omega))
    refine Run.ite O (b := false) (Tst.is (Tst.or2 (x := false) (y := false) (Tst.is (Tst.cmp (Ev.slice (by walk_at "ld") EvO.non (EvO.som Ev.int) EvO.non (SlV.str (by have := H.hmade; omega))) Ev.str CmpV.ne_s) (by rw [H.hp]; rfl))
      (fun _ => Tst.is (Tst.cmp (Ev.slice (by walk_at "ld") (EvO.som (Ev.neg Ev.int)) EvO.non EvO.non (SlV.str (by have := H.hmade; omega))) Ev.str CmpV.ne_s) (by rw [H.hq]; rfl))) rfl) (fun h => nomatch h) fun _ => Run.nil ?_
    refine Run.while O (fun n σ => ∃ k : Nat, n = T.length - k ∧ k ≤ T.length ∧ (k ≤ a ∨ a + m + 2 ≤ k) ∧ σ = ⟨mu, [al], [("text", .s T), ("place", .i k), ("items", .la al (itemsTo a m S k))]⟩) ?turn T.length
      ⟨mu, [al], [("text", .s T), ("place", .i (0 : Nat)), ("items", .la al (itemsTo a m S 0))]⟩ (Can.of rfl rfl (by walk_at "mems")) ⟨0, by omega, by omega, Or.inl (by omega), rfl⟩
    case turn =>
      rintro n σ ⟨k, rfl, hk, hka, rfl⟩
      refine ⟨decide ((k : Int) < T.length), Tst.cmp (by walk_at "ld") (Ev.callB (by walk_at "bn") (EvA.cons (by walk_at "ld") EvA.nil) (CallV.len_s (by omega))) CmpV.lt_i, fun hb => ?_, fun hb => ?_⟩
      · have hb := of_decide_eq_false hb
        have : k = T.length := by omega
        subst this
        exact Run.cons (Exe.ret O (by walk_at "ld") (RetsP.la List.mem_cons_self))
      · have hb := of_decide_eq_true hb
        have fk := fits_small (k := (k : Int)) (by omega) (by omega)
        obtain ⟨e, inner, it, k', St⟩ := H.step (k := k) (by omega) hka
        refine Run.cons (Exe.assign O (p := .i e) (Or.inl (by walk_at "wr")) ?e1 ?_ (by walk_at "wr"))
        case e1 =>
          refine Ev.ifexp (Tst.cmp (Ev.item (by walk_at "ld") (by walk_at "ld") (ItV.str (by omega) hb fk)) Ev.str CmpV.eq_s) (fun hx => ?_) (fun hx => ?_)
          · obtain ⟨i, rest, ho, he⟩ := St.idx hx
            rw [he]
            exact Ev.bin (Ev.meth (by walk_at "ld") MethV.index (EvA.cons Ev.str (EvA.cons (by walk_at "ld") EvA.nil)) (CallV.index ho)) Ev.int BinV.add_i
          · rw [(St.dot hx).1]
            exact Ev.bin (by walk_at "ld") Ev.int BinV.add_i
        refine Run.cons (Exe.assign O (p := .s inner) (Or.inl (by walk_at "wr")) ?e2 ?_ (by walk_at "wr"))
        case e2 =>
          refine Ev.ifexp (Tst.cmp (Ev.item (by walk_at "ld") (by walk_at "ld") (ItV.str (by omega) hb fk)) Ev.str CmpV.eq_s) (fun hx => ?_) (fun hx => ?_)
          · rw [← St.inn hx]
            exact Ev.slice (by walk_at "ld") (EvO.som (Ev.bin (by walk_at "ld") Ev.int BinV.add_i)) (EvO.som (Ev.bin (by walk_at "ld") Ev.int BinV.sub_i)) EvO.non (SlV.str (by omega))
          · rw [← (St.dot hx).2]
            exact Ev.item (by walk_at "ld") (by walk_at "ld") (ItV.str (by omega) hb fk)
        refine' Run.cons (Exe.append O (a := al) (xs := itemsTo a m S k) (p := it) (by walk_at "ld") List.mem_cons_self ?e3 St.pl ?ln ?up ?_)
        case e3 =>
          refine Ev.ifexp (Tst.cmp (by walk_at "ld") Ev.str CmpV.eq_s) (fun hx => ?_) (fun hx => ?_)
          · rw [St.it1 hx]
            exact Ev.list (EvA.cons Ev.str (EvA.cons Ev.boo EvA.nil)) rfl
          · obtain ⟨h1, h2, h3⟩ := St.it2 hx
            rw [h1]
            refine Ev.list (EvA.cons (Ev.ifexp (x := false) (Tst.is (Tst.or2 (x := false) (y := false) (Tst.is (Tst.cmp (Ev.slice (by walk_at "ld") EvO.non (EvO.som Ev.int) EvO.non (SlV.str (by have := St.len; omega))) Ev.str CmpV.eq_s) h2)
              (fun _ => Tst.is (Tst.cmp Ev.str (by walk_at "ld") CmpV.in_s) h3)) rfl) (fun h => nomatch h) (fun _ => by walk_at "ld")) (EvA.cons Ev.boo EvA.nil)) rfl
        case ln =>
          have : (itemsTo a m S k).length ≤ 200 := by
            unfold itemsTo
            split
            · rw [List.length_replicate]; omega
            · simp only [List.length_append, List.length_replicate, List.length_singleton]; omega
          omega
        case up => exact UpdL.miss (fun _ h => nomatch h) (UpdL.miss (fun _ h => nomatch h) (UpdL.miss (fun _ h => nomatch h) (UpdL.miss (fun _ h => nomatch h) (UpdL.hit UpdL.nil))))
        refine Run.cons (Exe.assign O (p := .i e) (Or.inl (by walk_at "wr")) (by walk_at "ld") ?_ (by walk_at "wr"))
        refine Run.nil ⟨T.length - k', ⟨mu, [al], [("text", .s T), ("place", .i k'), ("items", .la al (itemsTo a m S k'))]⟩, by have := St.lt; have := St.le; omega, Can.of rfl rfl ?_, ⟨k', rfl, St.le, St.or, rfl⟩⟩
        rw [St.its, ← St.ek]
        walk_at "mems"

end
section
open  PySem.Builtin PySem.Builtin.Str
set_option maxHeartbeats 4000000
set_option linter.unusedVariables false
set_option autoImplicit false
variable {C : Cx} {env : Env} {σ : St} {mu : List Addr} {mg mb : Str → Option Value} {P : Params} {X : Fx} {Q : St → Res → Prop}
noncomputable abbrev sl (xs : List Str) : List PV := xs.map .s
noncomputable abbrev embL (xs : List Str) : PV := .l (xs.map .s)
theorem all_pl (xs : List Str) : (sl xs).all PV.pl = true := by simp [sl, PV.pl]
theorem sizeL : sizeLine = 16777216 := by decide
noncomputable def outL (xs ys : List Str) : List Str := xs.filter fun t => decide (t ∉ ys)
theorem outL_len (xs ys : List Str) : (outL xs ys).length ≤ xs.length := List.length_filter_le _ _
noncomputable def ddup (ys : List Str) : List Str := (List.range ys.length).filterMap fun i => if ys.getD i "" ∈ ys.take i then none else some (ys.getD i "")
theorem ddup_len (ys : List Str) : (ddup ys).length ≤ ys.length := by
  have := List.length_filterMap_le (fun i => if ys.getD i "" ∈ ys.take i then none else some (ys.getD i "")) (List.range ys.length)
  rwa [List.length_range] at this
theorem mem_ddup (ys : List Str) (y : Str) : y ∈ ddup ys ↔ y ∈ ys := by
  have key : ∀ n, n ≤ ys.length → (y ∈ (List.range n).filterMap (fun i => if ys.getD i "" ∈ ys.take i then none else some (ys.getD i "")) ↔ y ∈ ys.take n) := by
    intro n
    induction n with
    | zero => simp
    | succ n ih =>
      intro hn
      have ih := ih (by omega)
      have hlt : n < ys.length := by omega
      have hg : ys.getD n "" = ys[n] := by simp [hlt]
      rw [List.range_succ, List.filterMap_append, List.mem_append, ih, List.take_add_one, List.mem_append, List.getElem?_eq_getElem hlt]
      constructor
      · rintro (h | h)
        · exact Or.inl h
        · simp only [List.filterMap_cons, List.filterMap_nil] at h
          by_cases hm : ys.getD n "" ∈ ys.take n
          · rw [if_pos hm] at h; cases h
          · rw [if_neg hm] at h
            rw [hg] at h
            exact Or.inr h
      · rintro (h | h)
        · exact Or.inl h
        · have : y = ys[n] := by simpa using h
          subst this
          by_cases hm : ys.getD n "" ∈ ys.take n
          · rw [hg] at hm; exact Or.inl hm
          · right
            simp only [List.filterMap_cons, List.filterMap_nil]
            rw [if_neg hm, hg]
            simp
  have := key ys.length (Nat.le_refl _)
  rwa [List.take_length] at this
theorem outL_congr {xs ys zs : List Str} (h : ∀ y, y ∈ ys ↔ y ∈ zs) : outL xs ys = outL xs zs := by
  unfold outL
  congr 1
  funext t
  simp only [h]
theorem Inv.fresh_off {s : Shared} (I : Inv C s) {b : Addr} (e : s.heap.get? b = none) : b ∉ C.fs ∧ C.g.get? b = none := by
  obtain ⟨outer, ho, hf⟩ := I.frames
  refine ⟨fun q => ?_, ?_⟩
  · obtain ⟨_, _, o', es, n, e', d⟩ := hf.mem q
    rw [e] at e'; cases e'
  · cases e' : C.g.get? b with
    | none => rfl
    | some o => rw [I.base _ _ e'] at e; cases e
theorem RepIL.ofStrs {h : Heap} {vs : List Value} {xs : List Str} (r : StrsAre vs xs) : RepIL mu h vs (sl xs) := by
  induction r with
  | nil => exact .nil
  | cons n t r ih => exact .cons .s ih
theorem fn_filter (g : Gok P C.g mg mb) (hr : Rm C 8) {p q : PV} {xs ys : List Str} (e1 : p.lst? = some (sl xs)) (e2 : q.lst? = some (sl ys)) (h1 : xs.length ≤ 1000) (h2 : ys.length ≤ 1000) : CallV C mu (.ref 82) [p, q] (embL (outL xs ys)) := by
  refine' CallV.fk (ns := ["flist", "skip"]) (W := []) g (by walk_at "wr") (by walk_at "wr") (by walk_at "wr") ?room rfl (by walk_at "wr") (by walk_at "wr") (by walk_at "wr") ?hbind ?hkind ?hnd ?hW (by walk_at "wr") (by walk_at "wr") (by walk_at "wr") fun L s O => ?run
  case room => exact hr.room
  case hbind =>
    intro vs h
    match vs, h with
    | [v0, v1], _ => walk_at "wr"
  case hkind => exact List.forall_mem_cons.mpr ⟨Or.inl (by walk_at "wr"), List.forall_mem_cons.mpr ⟨Or.inl (by walk_at "wr"), List.forall_mem_nil _⟩⟩
  case hnd => decide +kernel
  case hW => exact List.forall_mem_nil _
  case run =>
    refine Run.cons (Exe.ret O (p := embL (outL xs ys)) (Ev.mk fun s I F => ?_) (RetsP.pl rfl))
    refine Call_ ((Ev.bn g.fn (by walk_at "wr") (by walk_at "wr") (by decide) (by walk_at "wr")).use I F fun v1 s1 x1 I1 F1 r1 => ?_) (by walk_at "wr")
    rw [r1.v_inv]
    refine callWith_type1 ?_ (by walk_at "wr") (by walk_at "wr")
    refine args_cons (Call_ ((Ev.gn (v := .ref 71) g.fn (by walk_at "wr") (by walk_at "wr")).use I1 F1 fun v2 s2 x2 I2 F2 r2 => ?_) (by walk_at "wr")) (by walk_at "wr")
    rw [r2.v_inv]
    refine callWith_K (K := K0 P) (h₀ := C.g) g.X (by walk_at "wr") ?_ (by walk_at "wr") (by walk_at "wr")
    refine args_cons (Ev.attrContains (p := q) (by walk_at "ld") e2 (by walk_at "wr") I2 F2 fun m k s3 x3 I3 F3 em rk => ?_) (by walk_at "wr")
    refine args_cons ((show Ev _ _ _ _ p by walk_at "ld").use I3 F3 fun v4 s4 x4 I4 F4 r4 => args_nil ?_) (by walk_at "wr")
    obtain ⟨l, vs, nl, rfl, el, rl⟩ := r4.lst e1
    have em4 := I3.stable x4 em (fix_bndC _).1
    obtain ⟨k', ws, nk, ek, elk, rlk⟩ := (I3.rep x4 rk).lst e2
    cases ek
    have x04 := ((x1.trans x2).trans x3).trans x4
    refine ⟨g.X.keeps I4.base, wpAny_call (make_fil g.fn (hr.fn (n := 7) |>.le (by omega)) I4 el fun x dx it s5 fx fit fdx x5 hx5 hd5 hi5 => ?_)⟩
    have I5 := I4.ext x5
    refine args_nil ?_
    have H5 : FilSt x dx m it l k vs ws nl nk 0 s5.heap := ⟨hx5, hd5, I4.stable x5 em4 (fix_bndC _).1, I4.stable x5 elk (stable_lobj _ _), I4.stable x5 el (stable_lobj _ _), hi5⟩
    refine list_fil g.fn (hr.fn (n := 7) |>.le (by omega)) I5 H5 (I4.fresh_off fdx).1 rl.strs rlk.strs (I4.fresh_off fit).2 h1 fun S acc c s6 fS x6 e6 r6 => ?_
    have x05 := x04.trans x5
    have fS0 := I.grow x05 _ fS
    refine ⟨ExW.ext x05 x6 (List.forall_mem_cons.mpr ⟨fS0, List.forall_mem_cons.mpr ⟨I.grow x04 _ fit, List.forall_mem_nil _⟩⟩), Rep.lof e6 (fun z => ?_) (RepIL.ofStrs r6)⟩
    obtain ⟨_, _, e⟩ := F.mu _ z
    rw [fS0] at e; cases e
theorem fn_out (g : Gok P C.g mg mb) (hr : Rm C 9) {p q : PV} {xs ys : List Str} (e1 : p.lst? = some (sl xs)) (e2 : q.lst? = some (sl ys)) (h1 : xs.length ≤ 1000) (h2 : ys.length ≤ 1000) : CallV C mu (.ref 184) [p, q] (embL (outL xs ys)) := by
  refine' CallV.fk (ns := ["texts", "row"]) (W := []) g (by walk_at "wr") (by walk_at "wr") (by walk_at "wr") ?room rfl (by walk_at "wr") (by walk_at "wr") (by walk_at "wr") ?hbind ?hkind ?hnd ?hW (by walk_at "wr") (by walk_at "wr") (by walk_at "wr") fun L s O => ?run
  case room => exact hr.room
  case hbind =>
    intro vs h
    match vs, h with
    | [v0, v1], _ => walk_at "wr"
  case hkind => exact List.forall_mem_cons.mpr ⟨Or.inl (by walk_at "wr"), List.forall_mem_cons.mpr ⟨Or.inr ⟨by walk_at "wr", fun _ => by walk_at "wr"⟩, List.forall_mem_nil _⟩⟩
  case hnd => decide +kernel
  case hW => exact List.forall_mem_nil _
  case run =>
    have sl' := sizeL
    refine Run.cons (Exe.ret O (p := embL (outL xs ys)) ?_ (RetsP.pl rfl))
    have hc : outL xs (ddup ys) = outL xs ys := outL_congr (mem_ddup ys)
    rw [← hc]
    refine' Ev.callF (by walk_at "gn") (by walk_at "fo") rfl (EvA.cons (by walk_at "ld") (EvA.cons (Ev.is (Ev.comp (W := []) (cap := [("row", q)]) ((List.range ys.length).map fun (i : Nat) => (.i i, if ys.getD i "" ∈ ys.take i then none else some (.s (ys.getD i "")))) ?K ?l ?it ?sz ?el) (q := embL (ddup ys)) ?res) EvA.nil)) (fn_filter g.fn (hr.fn (n := 8)) e1 rfl h1 (Nat.le_trans (ddup_len ys) h2))
    case K => walk_at "comp0"
    case l => exact Ev.callT (by walk_at "bn") (EvA.cons (Ev.callB (by walk_at "bn") (EvA.cons (by walk_at "ld") EvA.nil) (CallV.len_l e2 (by rw [List.length_map]; omega))) EvA.nil) CallV.range1
    case it =>
      rw [List.map_map, List.length_map]
      exact Itb.range1 (by omega)
    case sz => rw [List.length_map, List.length_range]; omega
    case res =>
      show PV.l _ = PV.l _
      congr 1
      unfold ddup
      rw [List.filterMap_map, List.map_filterMap]
      congr 1
      funext i
      show (if ys.getD i "" ∈ ys.take i then none else some (PV.s (ys.getD i ""))) = Option.map PV.s (if ys.getD i "" ∈ ys.take i then none else some (ys.getD i ""))
      by_cases h : ys.getD i "" ∈ ys.take i
      · rw [if_pos h, if_pos h]; rfl
      · rw [if_neg h, if_neg h]; rfl
    case el =>
      intro z hz D L'
      obtain ⟨i, hi, rfl⟩ := List.mem_map.mp hz
      have hi := List.mem_range.mp hi
      have hget : (sl ys)[((i : Int)).toNat]? = some (.s (ys.getD i "")) := by simp [sl, hi]
      have it : ∀ {C : Cx} {mu : List Addr}, ItV C mu q i (.s (ys.getD i "")) := ItV.list e2 (by omega) (by omega) hget
      refine ⟨TstL.one (Tst.is (Tst.cmp (Ev.item (by walk_at "ld") (by walk_at "ld") it) (Ev.slice (by walk_at "ld") EvO.non (EvO.som (by walk_at "ld")) EvO.non (SlV.list e2 (by decide) (by rw [List.length_map]; omega))) (CmpV.notin_l (ys := ys.take i) ?_)) ?_), fun y hy => ?_⟩
      · show some (pick _ _ _ _) = _
        rw [pick_to, ← List.map_take]
      · by_cases h : ys.getD i "" ∈ ys.take i
        · rw [if_pos h, decide_eq_true h]; rfl
        · rw [if_neg h, decide_eq_false h]; rfl
      · have hy : (if ys.getD i "" ∈ ys.take i then none else some (PV.s (ys.getD i ""))) = some y := hy
        by_cases h : ys.getD i "" ∈ ys.take i
        · rw [if_pos h] at hy; cases hy
        · rw [if_neg h] at hy; cases hy
          exact ⟨Ev.item (by walk_at "ld") (by walk_at "ld") it, rfl⟩
noncomputable def andL (xs one two : List Str) : List Str := outL xs (outL xs one ++ outL xs two)
theorem andL_len (xs one two : List Str) : (andL xs one two).length ≤ xs.length := outL_len _ _
theorem fn_and (g : Gok P C.g mg mb) (hr : Rm C 10) {p q r : PV} {xs ys zs : List Str} (e1 : p.lst? = some (sl xs)) (e2 : q.lst? = some (sl ys)) (e3 : r.lst? = some (sl zs)) (h1 : xs.length ≤ 400) (h2 : ys.length ≤ 400) (h3 : zs.length ≤ 400) :
    CallV C mu (.ref 191) [p, q, r] (embL (andL xs ys zs)) := by
  refine' CallV.fk (ns := ["texts", "one", "two"]) (W := []) g (by walk_at "wr") (by walk_at "wr") (by walk_at "wr") ?room rfl (by walk_at "wr") (by walk_at "wr") (by walk_at "wr") ?hbind ?hkind ?hnd ?hW (by walk_at "wr") (by walk_at "wr") (by walk_at "wr") fun L s O => ?run
  case room => exact hr.room
  case hbind =>
    intro vs h
    match vs, h with
    | [v0, v1, v2], _ => walk_at "wr"
  case hkind => exact List.forall_mem_cons.mpr ⟨Or.inl (by walk_at "wr"), List.forall_mem_cons.mpr ⟨Or.inl (by walk_at "wr"), List.forall_mem_cons.mpr ⟨Or.inl (by walk_at "wr"), List.forall_mem_nil _⟩⟩⟩
  case hnd => decide +kernel
  case hW => exact List.forall_mem_nil _
  case run =>
    have sl' := sizeL
    have l1 := outL_len xs ys
    have l2 := outL_len xs zs
    refine Run.cons (Exe.ret O (p := embL (andL xs ys zs)) ?_ (RetsP.pl rfl))
    exact Ev.callF (by walk_at "gn") (by walk_at "fo") rfl (EvA.cons (by walk_at "ld") (EvA.cons (Ev.addl (Ev.callF (by walk_at "gn") (by walk_at "fo") rfl (EvA.cons (by walk_at "ld") (EvA.cons (by walk_at "ld") EvA.nil)) (fn_out g.fn hr.fn e1 e2 (by omega) (by omega)))
      (Ev.callF (by walk_at "gn") (by walk_at "fo") rfl (EvA.cons (by walk_at "ld") (EvA.cons (by walk_at "ld") EvA.nil)) (fn_out g.fn hr.fn e1 e3 (by omega) (by omega))) rfl rfl (by show (sl _).length + (sl _).length ≤ _; simp only [sl, List.length_map]; omega)) EvA.nil))
      (fn_out g.fn hr.fn e1 (ys := outL xs ys ++ outL xs zs) (by simp [PV.lst?, sl]) (by omega) (by rw [List.length_append]; omega))

end
section
open  PySem.Builtin PySem.Builtin.Str
set_option maxHeartbeats 4000000
set_option linter.unusedVariables false
set_option autoImplicit false
variable {C : Cx} {env : Env} {σ : St} {mu : List Addr} {mg mb : Str → Option Value} {P : Params} {X : Fx} {Q : St → Res → Prop}
theorem fn_join (g : Gok P C.g mg mb) (hr : Rm C 2) {ys : List Str} {st : Addr} (h1 : ys.length ≤ 100) (h2 : (ys.map (·.length)).sum ≤ 1000) (h3 : (Txt.join "" ys).length ≤ 2000) :
    CallV C mu (.ref 150) [.l (sl ys), .v (.ref st)] (.s (Str.ofString "(?s:" ++ Txt.join "" ys ++ Str.ofString ")\\Z")) := by
  refine' CallV.fk (ns := ["inp", "STAR"]) (W := []) g (by walk_at "wr") (by walk_at "wr") (by walk_at "wr") ?room rfl (by walk_at "wr") (by walk_at "wr") (by walk_at "wr") ?hbind ?hkind ?hnd ?hW (by walk_at "wr") (by walk_at "wr") (by walk_at "wr") fun L s O => ?run
  case room => exact hr.room
  case hbind =>
    intro vs h
    match vs, h with
    | [v0, v1], _ => walk_at "wr"
  case hkind => exact List.forall_mem_cons.mpr ⟨Or.inl (by walk_at "wr"), List.forall_mem_cons.mpr ⟨Or.inl (by walk_at "wr"), List.forall_mem_nil _⟩⟩
  case hnd => decide +kernel
  case hW => exact List.forall_mem_nil _
  case run =>
    have sl' := sizeL
    refine Run.cons (Exe.own O (xs := []) (Or.inl (by walk_at "wr")) (EvF.list EvA.nil rfl) (fun al hal => ?_) (by walk_at "wr"))
    refine Run.cons (Exe.assign O (p := .ob (bndA al)) (Or.inl (by walk_at "wr")) (Ev.attrAppend (by walk_at "ld")) ?_ (by walk_at "wr"))
    refine Run.cons (Exe.tupS O (ns := ["i", "n"]) (ps := [.i 0, .i (sl ys).length]) (List.forall_mem_cons.mpr ⟨Or.inl (by walk_at "wr"), List.forall_mem_cons.mpr ⟨Or.inl (by walk_at "wr"), List.forall_mem_nil _⟩⟩)
      (EvA.cons Ev.int (EvA.cons (Ev.callB (by walk_at "bn") (EvA.cons (by walk_at "ld") EvA.nil) (CallV.len_l rfl (by simp only [sl, List.length_map]; omega))) EvA.nil)) rfl (by show 2 ≤ 100; decide) ?_ (by walk_at "wr") (by walk_at "wr"))
    have hlen : (sl ys).length = ys.length := by simp [sl]
    rw [hlen]
    refine Run.while O (fun n σ => ∃ k : Nat, n = ys.length - k ∧ k ≤ ys.length ∧ σ = ⟨mu, [al], [("inp", .l (sl ys)), ("STAR", .v (.ref st)), ("res", .la al (sl (ys.take k))), ("add", .ob (bndA al)), ("i", .i k), ("n", .i ys.length)]⟩) ?turn ys.length
      ⟨mu, [al], [("inp", .l (sl ys)), ("STAR", .v (.ref st)), ("res", .la al (sl (ys.take 0))), ("add", .ob (bndA al)), ("i", .i (0 : Nat)), ("n", .i ys.length)]⟩ (Can.of rfl rfl (by walk_at "mems")) ⟨0, by omega, by omega, rfl⟩
    case turn =>
      rintro n σ ⟨k, rfl, hk, rfl⟩
      by_cases hlt : k < ys.length
      · have it : ∀ {C : Cx} {mu : List Addr}, ItV C mu (.l (sl ys)) k (.s (ys.getD k "")) := ItV.list rfl (by omega) (by omega) (by simp [sl, hlt])
        refine ⟨true, Tst.and2 (x := true) (y := true) (Tst.is (Tst.cmp (by walk_at "ld") (by walk_at "ld") CmpV.lt_i) (decide_eq_true (by omega))) (fun _ => Tst.cmp (Ev.item (by walk_at "ld") (by walk_at "ld") it) (by walk_at "ld") CmpV.isNot_sv), (fun h => nomatch h), fun _ => ?_⟩
        refine' Run.cons (Exe.add O (a := al) (xs := sl (ys.take k)) (y := "res") (p := .s (ys.getD k "")) (by walk_at "ld") List.mem_cons_self (by walk_at "wr") (Ev.item (by walk_at "ld") (by walk_at "ld") it) rfl ?ln ?up ?_)
        case ln => simp only [sl, List.length_map, List.length_take]; omega
        case up => exact UpdL.miss (fun _ h => nomatch h) (UpdL.miss (fun _ h => nomatch h) (UpdL.hit (UpdL.miss (fun _ h => nomatch h) (UpdL.miss (fun _ h => nomatch h) (UpdL.miss (fun _ h => nomatch h) UpdL.nil)))))
        refine Run.cons (Exe.aug O (a := k) (b := 1) (by walk_at "wr") (by walk_at "wr") Ev.int ?_)
        refine Run.nil ⟨ys.length - (k + 1), ⟨mu, [al], [("inp", .l (sl ys)), ("STAR", .v (.ref st)), ("res", .la al (sl (ys.take (k + 1)))), ("add", .ob (bndA al)), ("i", .i (k + 1 : Nat)), ("n", .i ys.length)]⟩, by omega, Can.of rfl rfl ?_, k + 1, rfl, hlt, rfl⟩
        have e1 : sl (ys.take (k + 1)) = sl (ys.take k) ++ [.s (ys.getD k "")] := by
          simp only [sl]
          rw [List.take_add_one, List.getElem?_eq_getElem hlt, List.map_append]
          simp [hlt]
        rw [e1]
        walk_at "mems"
      · have : k = ys.length := by omega
        subst this
        refine ⟨false, Tst.and2 (x := false) (y := true) (Tst.is (Tst.cmp (by walk_at "ld") (by walk_at "ld") CmpV.lt_i) (decide_eq_false (by omega))) (fun h => nomatch h), (fun _ => ?_), fun h => nomatch h⟩
        rw [List.take_length]
        refine Run.while O (fun n σ => σ = ⟨mu, [al], [("res", .la al (sl ys)), ("i", .i ys.length), ("n", .i ys.length)]⟩) ?turn2 0
          ⟨mu, [al], [("res", .la al (sl ys)), ("i", .i ys.length), ("n", .i ys.length)]⟩ (Can.of rfl rfl (by walk_at "mems")) rfl
        case turn2 =>
          rintro n σ rfl
          refine ⟨false, Tst.is (Tst.cmp (by walk_at "ld") (by walk_at "ld") CmpV.lt_i) (decide_eq_false (by omega)), fun _ => ?_, fun h => nomatch h⟩
          refine Run.cons (Exe.assert O (Tst.is (Tst.cmp (by walk_at "ld") (by walk_at "ld") CmpV.eq_i) (beq_self_eq_true _)) ?_)
          refine Run.cons (Exe.assign O (p := .s (Txt.join "" ys)) (Or.inl (by walk_at "wr")) (Ev.meth Ev.str MethV.join (EvA.cons (by walk_at "ld") EvA.nil) (CallV.join (ys := ys) rfl (by decide) (by omega))) ?_ (by walk_at "wr"))
          exact Run.cons (Exe.ret O (Ev.fstr3 (by walk_at "ld") (by decide +kernel) (by decide +kernel) (by omega)) (RetsP.pl rfl))

end
section
open  PySem.Builtin PySem.Builtin.Str
set_option maxHeartbeats 4000000
set_option linter.unusedVariables false
set_option autoImplicit false
variable {C : Cx} {env : Env} {σ : St} {mu : List Addr} {mg mb : Str → Option Value} {P : Params} {X : Fx} {Q : St → Res → Prop}
structure PatOK (x S : Str) (a m : Nat) : Prop where
  hlen : x.length ≤ 100
  hle : a + m + 2 ≤ x.length
  hq : ∀ k : Nat, k < a → Txt.item x k = "?"
  hb : Txt.item x a = "["
  h1 : Txt.item x ((a : Int) + 1) ≠ "!"
  hin : ∀ k : Nat, a + 1 ≤ k → k < a + 1 + m → Txt.item x k ≠ "]"
  hend : Txt.item x ((a + 1 + m : Nat) : Int) = "]"
  hs : Txt.slice x (some ((a : Int) + 1)) (some ((a + 1 + m : Nat) : Int)) = S
  hm : 0 < m
  hS0 : 0 < S.length
  hSl : S.length ≤ 64
  hS1 : S ≠ "!"
  hS2 : Txt.item S 0 ≠ "!"
  hS3 : Txt.item S 0 ≠ "^"
  hS4 : Txt.item S 0 ≠ "["
  hdash : inS S "-" = false
  hrep : (occurrences S "\\" 0 S.length (S.length + 1)).isEmpty = true
  hq2 : ∀ k : Nat, a + m + 2 ≤ k → k < x.length → Txt.item x k = "?"
noncomputable def partsTo (a m : Nat) (S : Str) (k : Nat) : List Str := if k ≤ a then List.replicate k (Str.ofString ".") else List.replicate a (Str.ofString ".") ++ [Str.ofString "[" ++ S ++ Str.ofString "]"] ++ List.replicate (k - (a + m + 2)) (Str.ofString ".")
theorem partsTo_len (a m : Nat) (S : Str) (k : Nat) : (partsTo a m S k).length ≤ a + k + 1 := by
  unfold partsTo
  split
  · rw [List.length_replicate]; omega
  · simp only [List.length_append, List.length_replicate, List.length_singleton]; omega
theorem bne_of {x y : Str} (h : x ≠ y) : (x != y) = true := bne_iff_ne.mpr h
theorem fn_translate_ (g : Gok P C.g mg mb) (hr : Rm C 3) {x S : Str} {a m : Nat} {st : Addr} (b : _root_.Fin 24) (hSb : S = SB' b.val) (H : PatOK x S a m) : CallV C mu (.ref 143) [.s x, .v (.ref st), .s "."] (.l (sl (partsTo a m S x.length))) := by
  refine' CallV.fk (ns := ["pat", "STAR", "QUESTION_MARK"]) (W := []) g (by walk_at "wr") (by walk_at "wr") (by walk_at "wr") ?room rfl (by walk_at "wr") (by walk_at "wr") (by walk_at "wr") ?hbind ?hkind ?hnd ?hW (by walk_at "wr") (by walk_at "wr") (by walk_at "wr") fun L s O => ?run
  case room => exact hr.room
  case hbind =>
    intro vs h
    match vs, h with
    | [v0, v1, v2], _ => walk_at "wr"
  case hkind => exact List.forall_mem_cons.mpr ⟨Or.inl (by walk_at "wr"), List.forall_mem_cons.mpr ⟨Or.inl (by walk_at "wr"), List.forall_mem_cons.mpr ⟨Or.inl (by walk_at "wr"), List.forall_mem_nil _⟩⟩⟩
  case hnd => decide +kernel
  case hW => exact List.forall_mem_nil _
  case run =>
    have sl' := sizeL
    have hlen := H.hlen
    have hle := H.hle
    have hmp := H.hm
    refine Run.cons (Exe.own O (xs := []) (Or.inl (by walk_at "wr")) (EvF.list EvA.nil rfl) (fun al hal => ?_) (by walk_at "wr"))
    refine Run.cons (Exe.assign O (p := .ob (bndA al)) (Or.inl (by walk_at "wr")) (Ev.attrAppend (by walk_at "ld")) ?_ (by walk_at "wr"))
    refine Run.cons (Exe.tupS O (ns := ["i", "n"]) (ps := [.i 0, .i x.length]) (List.forall_mem_cons.mpr ⟨Or.inl (by walk_at "wr"), List.forall_mem_cons.mpr ⟨Or.inl (by walk_at "wr"), List.forall_mem_nil _⟩⟩)
      (EvA.cons Ev.int (EvA.cons (Ev.callB (by walk_at "bn") (EvA.cons (by walk_at "ld") EvA.nil) (CallV.len_s (by omega))) EvA.nil)) rfl (by show 2 ≤ 100; decide) ?_ (by walk_at "wr") (by walk_at "wr"))
    refine Run.while O (fun n σ => ∃ k : Nat, n = x.length - k ∧ k ≤ x.length ∧ (k ≤ a ∨ a + m + 2 ≤ k) ∧ σ = ⟨mu, [al], [("pat", .s x), ("QUESTION_MARK", .s "."), ("res", .la al (sl (partsTo a m S k))), ("add", .ob (bndA al)), ("i", .i k), ("n", .i x.length)]⟩) ?turn x.length
      ⟨mu, [al], [("pat", .s x), ("QUESTION_MARK", .s "."), ("res", .la al (sl (partsTo a m S 0))), ("add", .ob (bndA al)), ("i", .i (0 : Nat)), ("n", .i x.length)]⟩ (Can.of rfl rfl (by walk_at "mems")) ⟨0, by omega, by omega, Or.inl (by omega), rfl⟩
    case turn =>
      rintro n σ ⟨k, rfl, hk, hka, rfl⟩
      have fit : ∀ k : Nat, k ≤ 200 → fitsSsize (k : Int) = true := fun k hk => fits_small (by omega) (by omega)
      refine ⟨decide ((k : Int) < x.length), Tst.cmp (by walk_at "ld") (by walk_at "ld") CmpV.lt_i, fun hb => ?_, fun hb => ?_⟩
      · have hb := of_decide_eq_false hb
        have : k = x.length := by omega
        subst this
        refine Run.cons (Exe.assert O (Tst.is (Tst.cmp (by walk_at "ld") (by walk_at "ld") CmpV.eq_i) (beq_self_eq_true _)) ?_)
        exact Run.cons (Exe.ret O (by walk_at "ld") (RetsP.la List.mem_cons_self))
      · have hb := of_decide_eq_true hb
        have hlt : k < x.length := by omega
        have pl := partsTo_len a m S k
        refine Run.cons (Exe.assign O (p := .s (Txt.item x k)) (Or.inl (by walk_at "wr")) (Ev.item (by walk_at "ld") (by walk_at "ld") (ItV.str (by omega) hb (fit k (by omega)))) ?_ (by walk_at "wr"))
        refine Run.cons (Exe.assign O (p := .i ((k + 1 : Nat) : Int)) (Or.inl (by walk_at "wr")) (Ev.is (Ev.bin (by walk_at "ld") Ev.int BinV.add_i) rfl) ?_ (by walk_at "wr"))
        have sq : ∀ {q : Str}, Txt.item x k = q → ∀ r : Str, (Txt.item x k == r) = (q == r) := fun h r => by rw [h]
        by_cases he : k = a
        · subst he
          have hbk := H.hb
          refine Run.ite O (b := false) (Tst.is (Tst.cmp (by walk_at "ld") Ev.str CmpV.eq_s) (by rw [hbk]; decide +kernel)) (fun h => nomatch h) (fun _ => Run.ite O (b := false) (Tst.is (Tst.cmp (by walk_at "ld") Ev.str CmpV.eq_s) (by rw [hbk]; decide +kernel)) (fun h => nomatch h) (fun _ => Run.ite O (b := true) (Tst.is (Tst.cmp (by walk_at "ld") Ev.str CmpV.eq_s) (by rw [hbk]; decide +kernel)) (fun _ => ?_) (fun h => nomatch h)))
          refine Run.cons (Exe.assign O (p := .i ((k + 1 : Nat) : Int)) (Or.inl (by walk_at "wr")) (by walk_at "ld") ?_ (by walk_at "wr"))
          have e1 : Txt.item x ((k + 1 : Nat) : Int) ≠ "!" := H.h1
          have e2 : Txt.item x ((k + 1 : Nat) : Int) ≠ "]" := H.hin (k + 1) (by omega) (by omega)
          have itj : ∀ (j : Nat), j < x.length → ∀ {C : Cx} {mu : List Addr}, ItV C mu (.s x) j (.s (Txt.item x j)) := fun j hj => ItV.str (by omega) (by omega) (fit j (by omega))
          refine Run.ite O (b := false) (Tst.and2 (x := true) (y := false) (Tst.is (Tst.cmp (by walk_at "ld") (by walk_at "ld") CmpV.lt_i) (decide_eq_true (by omega))) (fun _ => Tst.is (Tst.cmp (Ev.item (by walk_at "ld") (by walk_at "ld") (itj (k + 1) (by omega))) Ev.str CmpV.eq_s) (beq_ne e1))) (fun h => nomatch h) (fun _ => Run.nil ?_)
          refine Run.ite O (b := false) (Tst.and2 (x := true) (y := false) (Tst.is (Tst.cmp (by walk_at "ld") (by walk_at "ld") CmpV.lt_i) (decide_eq_true (by omega))) (fun _ => Tst.is (Tst.cmp (Ev.item (by walk_at "ld") (by walk_at "ld") (itj (k + 1) (by omega))) Ev.str CmpV.eq_s) (beq_ne e2))) (fun h => nomatch h) (fun _ => Run.nil ?_)
          refine Run.while O (fun n σ => ∃ j : Nat, n = x.length - j ∧ k + 1 ≤ j ∧ j ≤ k + 1 + m ∧ σ = ⟨mu, [al], [("pat", .s x), ("QUESTION_MARK", .s "."), ("res", .la al (sl (partsTo k m S k))), ("add", .ob (bndA al)), ("i", .i ((k + 1 : Nat) : Int)), ("n", .i x.length), ("j", .i j)]⟩) ?turn_j (x.length - (k + 1))
            ⟨mu, [al], [("pat", .s x), ("QUESTION_MARK", .s "."), ("res", .la al (sl (partsTo k m S k))), ("add", .ob (bndA al)), ("i", .i ((k + 1 : Nat) : Int)), ("n", .i x.length), ("j", .i ((k + 1 : Nat) : Int))]⟩ (Can.of rfl rfl (by walk_at "mems")) ⟨k + 1, rfl, by omega, by omega, rfl⟩
          case turn_j =>
            rintro n σ ⟨j, rfl, hj1, hj2, rfl⟩
            have hjl : j < x.length := by omega
            by_cases hje : j < k + 1 + m
            · refine ⟨true, Tst.and2 (x := true) (y := true) (Tst.is (Tst.cmp (by walk_at "ld") (by walk_at "ld") CmpV.lt_i) (decide_eq_true (by omega))) (fun _ => Tst.is (Tst.cmp (Ev.item (by walk_at "ld") (by walk_at "ld") (itj j hjl)) Ev.str CmpV.ne_s) (bne_of (H.hin j hj1 hje))), (fun h => nomatch h), fun _ => ?_⟩
              refine Run.cons (Exe.assign O (p := .i ((j + 1 : Nat) : Int)) (Or.inl (by walk_at "wr")) (Ev.is (Ev.bin (by walk_at "ld") Ev.int BinV.add_i) rfl) ?_ (by walk_at "wr"))
              exact Run.nil ⟨x.length - (j + 1), ⟨mu, [al], [("pat", .s x), ("QUESTION_MARK", .s "."), ("res", .la al (sl (partsTo k m S k))), ("add", .ob (bndA al)), ("i", .i ((k + 1 : Nat) : Int)), ("n", .i x.length), ("j", .i ((j + 1 : Nat) : Int))]⟩, by omega, Can.of rfl rfl (by walk_at "mems"), j + 1, rfl, by omega, by omega, rfl⟩
            · have hj : j = k + 1 + m := by omega
              subst hj
              refine ⟨false, Tst.and2 (x := true) (y := false) (Tst.is (Tst.cmp (by walk_at "ld") (by walk_at "ld") CmpV.lt_i) (decide_eq_true (by omega))) (fun _ => Tst.is (Tst.cmp (Ev.item (by walk_at "ld") (by walk_at "ld") (itj (k + 1 + m) hjl)) Ev.str CmpV.ne_s) (by rw [H.hend]; decide +kernel)), (fun _ => ?_), fun h => nomatch h⟩
              refine Run.ite O (b := false) (Tst.is (Tst.cmp (by walk_at "ld") (by walk_at "ld") CmpV.ge_i) (decide_eq_false (by omega))) (fun h => nomatch h) (fun _ => ?_)
              refine Run.cons (Exe.assign O (p := .s S) (Or.inl (by walk_at "wr")) (Ev.is (Ev.slice (by walk_at "ld") (EvO.som (by walk_at "ld")) (EvO.som (by walk_at "ld")) EvO.non (SlV.str (by omega))) (congrArg PV.s H.hs)) ?_ (by walk_at "wr"))
              refine Run.ite O (b := true) (Tst.is (Tst.cmp Ev.str (by walk_at "ld") CmpV.notin_s) (by rw [H.hdash]; rfl)) (fun _ => ?_) (fun h => nomatch h)
              refine Run.cons (Exe.assign O (p := .s S) (Or.inl (by walk_at "wr")) (Ev.meth (by walk_at "ld") MethV.replace (EvA.cons Ev.str (EvA.cons Ev.str EvA.nil)) (CallV.replace0 H.hrep)) ?_ (by walk_at "wr"))
              refine Run.nil ?_
              refine Run.cons (Exe.assign O (p := .s S) (Or.inl (by walk_at "wr")) ?twin ?_ (by walk_at "wr"))
              case twin => exact Ev.reSub b hSb (g.X _ _ (by walk_at "wr")) (g.X _ _ (by walk_at "wr")) (by walk_at "gn") (fun I F k => eval_lam g.fn I F (by walk_at "wr") (by walk_at "wr") (by walk_at "wr") (codeHd_of_K g.X (by walk_at "wr")) k) (by walk_at "ld")
              refine Run.cons (Exe.assign O (p := .i ((k + m + 2 : Nat) : Int)) (Or.inl (by walk_at "wr")) (Ev.is (Ev.bin (by walk_at "ld") Ev.int BinV.add_i) (by congr 1; omega)) ?_ (by walk_at "wr"))
              have hS0 := H.hS0
              have hSl := H.hSl
              have it0 : ∀ {C : Cx} {mu : List Addr}, ItV C mu (.s S) 0 (.s (Txt.item S 0)) := ItV.str (by omega) (by omega) (by decide)
              refine Run.ite O (b := false) (Tst.is (Tst.not (Tst.str (by walk_at "ld") (by omega))) (by rw [decide_eq_true hS0]; rfl)) (fun h => nomatch h) (fun _ => ?_)
              refine Run.ite O (b := false) (Tst.is (Tst.cmp (by walk_at "ld") Ev.str CmpV.eq_s) (beq_ne H.hS1)) (fun h => nomatch h) (fun _ => ?_)
              refine Run.ite O (b := false) (Tst.is (Tst.cmp (Ev.item (by walk_at "ld") Ev.int it0) Ev.str CmpV.eq_s) (beq_ne H.hS2)) (fun h => nomatch h) (fun _ => ?_)
              refine Run.ite O (b := false) (Tst.is (Tst.inTup2 (Ev.item (by walk_at "ld") Ev.int it0)) (by rw [beq_ne (Ne.symm H.hS3), beq_ne (Ne.symm H.hS4)]; rfl)) (fun h => nomatch h) (fun _ => Run.nil (Run.nil ?_))
              refine' Run.cons (Exe.add O (a := al) (xs := sl (partsTo k m S k)) (y := "res") (p := .s (Str.ofString "[" ++ S ++ Str.ofString "]")) (by walk_at "ld") List.mem_cons_self (by walk_at "wr") (Ev.fstr3 (by walk_at "ld") (by decide +kernel) (by decide +kernel) (by omega)) rfl ?ln_b ?up_b ?_)
              case ln_b => simp only [sl, List.length_map]; omega
              case up_b => exact UpdL.miss (fun _ h => nomatch h) (UpdL.miss (fun _ h => nomatch h) (UpdL.miss (fun _ h => nomatch h) (UpdL.miss (fun _ h => nomatch h) (UpdL.miss (fun _ h => nomatch h) (UpdL.miss (fun _ h => nomatch h) (UpdL.hit (UpdL.miss (fun _ h => nomatch h) (UpdL.miss (fun _ h => nomatch h) (UpdL.miss (fun _ h => nomatch h) (UpdL.miss (fun _ h => nomatch h) UpdL.nil))))))))))
              refine Run.nil (Run.nil (Run.nil (Run.nil (Run.nil (Run.nil (Run.nil ?_))))))
              refine ⟨x.length - (k + m + 2), ⟨mu, [al], [("pat", .s x), ("QUESTION_MARK", .s "."), ("res", .la al (sl (partsTo k m S (k + m + 2)))), ("add", .ob (bndA al)), ("i", .i ((k + m + 2 : Nat) : Int)), ("n", .i x.length)]⟩, by omega, Can.of rfl rfl ?_, k + m + 2, rfl, by omega, Or.inr (by omega), rfl⟩
              have ep : sl (partsTo k m S (k + m + 2)) = sl (partsTo k m S k) ++ [.s (Str.ofString "[" ++ S ++ Str.ofString "]")] := by
                unfold partsTo
                rw [if_neg (by omega), if_pos (by omega)]
                simp [sl]
              rw [ep]
              walk_at "mems"
        · have hqk : Txt.item x k = "?" := by
            rcases hka with h | h
            · exact H.hq k (by omega)
            · exact H.hq2 k h hlt
          refine Run.ite O (b := false) (Tst.is (Tst.cmp (by walk_at "ld") Ev.str CmpV.eq_s) (by rw [hqk]; decide +kernel)) (fun h => nomatch h) (fun _ => Run.ite O (b := true) (Tst.is (Tst.cmp (by walk_at "ld") Ev.str CmpV.eq_s) (by rw [hqk]; decide +kernel)) (fun _ => ?_) (fun h => nomatch h))
          refine' Run.cons (Exe.add O (a := al) (xs := sl (partsTo a m S k)) (y := "res") (p := .s (Str.ofString ".")) (by walk_at "ld") List.mem_cons_self (by walk_at "wr") (by walk_at "ld") rfl ?ln_q ?up_q ?_)
          case ln_q => simp only [sl, List.length_map]; omega
          case up_q => exact UpdL.miss (fun _ h => nomatch h) (UpdL.miss (fun _ h => nomatch h) (UpdL.miss (fun _ h => nomatch h) (UpdL.miss (fun _ h => nomatch h) (UpdL.hit (UpdL.miss (fun _ h => nomatch h) (UpdL.miss (fun _ h => nomatch h) (UpdL.miss (fun _ h => nomatch h) UpdL.nil)))))))
          refine Run.nil (Run.nil (Run.nil ?_))
          refine ⟨x.length - (k + 1), ⟨mu, [al], [("pat", .s x), ("QUESTION_MARK", .s "."), ("res", .la al (sl (partsTo a m S (k + 1)))), ("add", .ob (bndA al)), ("i", .i ((k + 1 : Nat) : Int)), ("n", .i x.length)]⟩, by omega, Can.of rfl rfl ?_, k + 1, rfl, by omega, ?_, rfl⟩
          · have ep : sl (partsTo a m S (k + 1)) = sl (partsTo a m S k) ++ [.s (Str.ofString ".")] := by
              unfold partsTo
              rcases hka with h | h
              · rw [if_pos (by omega), if_pos (by omega), List.replicate_succ']; simp [sl]
              · rw [if_neg (by omega), if_neg (by omega), show k + 1 - (a + m + 2) = k - (a + m + 2) + 1 by omega, List.replicate_succ', ← List.append_assoc]; simp [sl]
            rw [ep]
            walk_at "mems"
          · rcases hka with h | h
            · exact Or.inl (by omega)
            · exact Or.inr (by omega)

end
section
open  PySem.Builtin PySem.Builtin.Str
set_option linter.unusedVariables false
set_option autoImplicit false
noncomputable def xB (b : Nat) : Str := pat (b : Int) (nB b)
noncomputable def TB (b : Nat) : Str := Txt.join "" (partsTo (aB b) (mB b) (SB' b) (xB b).length)
noncomputable def madeB (b : Nat) : Str := Str.ofString "(?s:" ++ TB b ++ Str.ofString ")\\Z"
theorem sq {a b : Str} (h : Fast.sEq a b = true) : a = b := Fast.sEq_iff.mp h
theorem sn {a b : Str} (h : Fast.sEq a b = false) : a ≠ b := fun e => by rw [Fast.sEq_iff.mpr e] at h; cases h
/-! ### the same, written out -/
noncomputable def sLT : Nat → List Nat
  | 0 => sL0 | 1 => sL1 | 2 => sL2 | 3 => sL3 | 4 => sL4 | _ => sL5
noncomputable def rT (c b : Nat) : List Nat := List.replicate (3 - b / 6) c ++ 91 :: (sLT (b % 6) ++ 93 :: List.replicate (b / 6) c)
noncomputable def xT (b : Nat) : Str := ⟨⟨rT 63 b⟩⟩
noncomputable def tT (b : Nat) : Str := ⟨⟨rT 46 b⟩⟩
noncomputable def zT (b : Nat) : Str := ⟨⟨40 :: 63 :: 115 :: 58 :: (rT 46 b ++ [41, 92, 90])⟩⟩
theorem xB_is6 : ∀ b : Fin 24, Fast.sEq (Txt.mul "?" (3 - (b.val : Int).fdiv 6) ++ "[" ++ sT (b.val % 6) ++ "]" ++ Txt.mul "?" ((b.val : Int).fdiv 6)) (xT b.val) = true := by decide +kernel
theorem xB_is (b : Fin 24) : xB b.val = xT b.val := by
  have e : ((b.val : Int).fmod 6).toNat = b.val % 6 := by rw [Int.fmod_eq_emod_of_nonneg _ (by decide)]; omega
  have h := sT_is ⟨b.val % 6, Nat.mod_lt _ (by decide)⟩
  unfold xB pat nB
  rw [e, h]
  exact sq (xB_is6 b)
theorem TB_is6 : ∀ b : Fin 24, Fast.sEq (Txt.join "" (partsTo (aB b.val) 32 (sT (b.val % 6)) (xT b.val).length)) (tT b.val) = true := by decide +kernel
theorem TB_is (b : Fin 24) : TB b.val = tT b.val := by
  unfold TB
  rw [mB_is, SB_is, xB_is]
  exact sq (TB_is6 b)
theorem madeB_is6 : ∀ b : Fin 24, Fast.sEq (Str.ofString "(?s:" ++ tT b.val ++ Str.ofString ")\\Z") (zT b.val) = true := by decide +kernel
theorem madeB_is (b : Fin 24) : madeB b.val = zT b.val := by
  unfold madeB
  rw [TB_is]
  exact sq (madeB_is6 b)
/-! ### what they are like -/
noncomputable abbrev PatS (S : Str) : Prop := 0 < S.length ∧ S.length ≤ 64 ∧ S ≠ "!" ∧ Txt.item S 0 ≠ "!" ∧ Txt.item S 0 ≠ "^" ∧ Txt.item S 0 ≠ "[" ∧ inS S "-" = false ∧ (occurrences S "\\" 0 S.length (S.length + 1)).isEmpty = true
noncomputable abbrev PatX (x S : Str) (a m : Nat) : Prop :=
  x.length ≤ 100 ∧ a + m + 2 ≤ x.length ∧ (∀ k : Nat, k < a → Fast.sEq (Txt.item x k) "?" = true) ∧ Fast.sEq (Txt.item x a) "[" = true ∧ Fast.sEq (Txt.item x ((a : Int) + 1)) "!" = false ∧ (∀ k : Nat, k < a + 1 + m → a + 1 ≤ k → Fast.sEq (Txt.item x k) "]" = false) ∧
  Fast.sEq (Txt.item x ((a + 1 + m : Nat) : Int)) "]" = true ∧ Fast.sEq (Txt.slice x (some ((a : Int) + 1)) (some ((a + 1 + m : Nat) : Int))) S = true ∧ (∀ k : Nat, k < x.length → a + m + 2 ≤ k → Fast.sEq (Txt.item x k) "?" = true)
theorem patS_all : ∀ p : Fin 6, PatS (sT p.val) := by decide +kernel
theorem patX_all : ∀ b : Fin 24, PatX (xT b.val) (sT (b.val % 6)) (aB b.val) 32 := by decide +kernel
theorem pat_all (b : Fin 24) : PatOK (xB b.val) (SB' b.val) (aB b.val) (mB b.val) := by
  rw [xB_is, SB_is, mB_is]
  obtain ⟨h10, h11, h12, h13, h14, h15, h16, h17⟩ := patS_all ⟨b.val % 6, Nat.mod_lt _ (by decide)⟩
  obtain ⟨h1, h2, h3, h4, h5, h6, h7, h8, h18⟩ := patX_all b
  exact ⟨h1, h2, fun k q => sq (h3 k q), sq h4, sn h5, fun k q r => sn (h6 k r q), sq h7, sq h8, by decide, h10, h11, h12, h13, h14, h15, h16, h17, fun k q r => sq (h18 k r q)⟩
noncomputable abbrev ItemsS (S : Str) : Prop := S ≠ "." ∧ Txt.slice S none (some 1) ≠ "^" ∧ inS S "\\" = false ∧ S.length ≤ 100
noncomputable abbrev ItemsX (made T S : Str) (a m : Nat) : Prop :=
  Fast.sEq (Txt.slice made (some 4) (some (-3))) T = true ∧ Fast.sEq (Txt.slice made none (some 4)) "(?s:" = true ∧ Fast.sEq (Txt.slice made (some (-3)) none) ")\\Z" = true ∧ T.length ≤ 100 ∧ made.length ≤ 200 ∧ (∀ k : Nat, k < a → Fast.sEq (Txt.item T k) "." = true) ∧ Fast.sEq (Txt.item T a) "[" = true ∧
  (occurrences T "]" (fromIndex T.length a) T.length 1).head? = some (a + m + 1) ∧ Fast.sEq (Txt.slice T (some ((a : Int) + 1)) (some ((a : Int) + m + 1 + 1 - 1))) S = true ∧ (∀ k : Nat, k < T.length → a + m + 2 ≤ k → Fast.sEq (Txt.item T k) "." = true) ∧ a + m + 2 ≤ T.length
theorem itemsS_all : ∀ p : Fin 6, ItemsS (sT p.val) := by decide +kernel
theorem itemsX_all : ∀ b : Fin 24, ItemsX (zT b.val) (tT b.val) (sT (b.val % 6)) (aB b.val) 32 := by decide +kernel
theorem items_all (b : Fin 24) : ItemsOK (madeB b.val) (TB b.val) (SB' b.val) (aB b.val) (mB b.val) := by
  rw [madeB_is, TB_is, SB_is, mB_is]
  obtain ⟨h12, h13, h14, h15⟩ := itemsS_all ⟨b.val % 6, Nat.mod_lt _ (by decide)⟩
  obtain ⟨h1, h2, h3, h4, h5, h6, h7, h8, h9, h10, h11⟩ := itemsX_all b
  exact ⟨sq h1, sq h2, sq h3, h4, h5, fun k q => sq (h6 k q), sq h7, h8, sq h9, fun k q r => sq (h10 k q r), h11, h12, h13, h14, h15⟩
theorem len6 : ∀ p : Fin 6, ((sgn (2 ^ p.val) (32 / 2 ^ p.val)).map (·.length)).sum ≤ 64 ∧ Builtin.Range.rangeSize (2 ^ p.val) 64 (2 * 2 ^ p.val) = 32 / 2 ^ p.val ∧ Builtin.Range.small (2 ^ p.val) 64 (2 * 2 ^ p.val) = true := by decide +kernel
theorem len24 : ∀ b : Fin 24, (tT b.val).length = aB b.val + 32 + 2 + b.val / 6 ∧ (xT b.val).length = aB b.val + 32 + 2 + b.val / 6 ∧ ((partsTo (aB b.val) 32 (sT (b.val % 6)) (xT b.val).length).map (·.length)).sum ≤ 1000 := by decide +kernel
theorem len_all (b : Fin 24) : (TB b.val).length = aB b.val + mB b.val + 2 + b.val / 6 ∧ (xB b.val).length = aB b.val + mB b.val + 2 + b.val / 6 ∧ ((partsTo (aB b.val) (mB b.val) (SB' b.val) (xB b.val).length).map (·.length)).sum ≤ 1000 ∧
    (SB' b.val).length ≤ 64 ∧ ((sgn (2 ^ (b.val % 6)) (nB b.val)).map (·.length)).sum ≤ 64 ∧ Builtin.Range.rangeSize (2 ^ (b.val % 6)) 64 (2 * 2 ^ (b.val % 6)) = nB b.val ∧ Builtin.Range.small (2 ^ (b.val % 6)) 64 (2 * 2 ^ (b.val % 6)) = true := by
  obtain ⟨h5, h6, h7⟩ := len6 ⟨b.val % 6, Nat.mod_lt _ (by decide)⟩
  obtain ⟨h1, h2, h3⟩ := len24 b
  have h4 : (SB' b.val).length ≤ 64 := by
    rw [SB_is]
    exact (patS_all ⟨b.val % 6, Nat.mod_lt _ (by decide)⟩).2.1
  refine ⟨?_, ?_, ?_, h4, h5, h6, h7⟩
  · rw [TB_is, mB_is]; exact h1
  · rw [xB_is, mB_is]; exact h2
  · rw [xB_is, mB_is, SB_is]; exact h3

end
section
open  PySem.Builtin PySem.Builtin.Str
set_option maxHeartbeats 4000000
set_option linter.unusedVariables false
set_option autoImplicit false
variable {C : Cx} {env : Env} {σ : St} {mu : List Addr} {mg mb : Str → Option Value} {P : Params} {X : Fx} {Q : St → Res → Prop}
/-- the texts that a bit's pattern fits -/
noncomputable def ansL (xs : List Str) (bit : Int) : List Str := xs.filter fun t => inS (signs (2 ^ (bit.fmod 6).toNat) (32 / 2 ^ (bit.fmod 6).toNat)) (Txt.item t (3 - bit.fdiv 6))
theorem ansL_len (xs : List Str) (b : Int) : (ansL xs b).length ≤ xs.length := List.length_filter_le _ _
theorem fn_translate (g : Gok P C.g mg mb) (hr : Rm C 5) (b : Fin 24) : CallV C mu (.ref 124) [.s (xB b.val)] (.s (madeB b.val)) := by
  refine' CallV.fk (ns := ["pat"]) (W := []) g (by walk_at "wr") (by walk_at "wr") (by walk_at "wr") ?room rfl (by walk_at "wr") (by walk_at "wr") (by walk_at "wr") ?hbind ?hkind ?hnd ?hW (by walk_at "wr") (by walk_at "wr") (by walk_at "wr") fun L s O => ?run
  case room => exact hr.room
  case hbind =>
    intro vs h
    match vs, h with
    | [v0], _ => walk_at "wr"
  case hkind => exact List.forall_mem_cons.mpr ⟨Or.inl (by walk_at "wr"), List.forall_mem_nil _⟩
  case hnd => decide +kernel
  case hW => exact List.forall_mem_nil _
  case run =>
    have hp := (pat_all b)
    obtain ⟨l1, l2, l3, _⟩ := len_all b
    have hT := (items_all b).hlen
    have pl := partsTo_len (aB b.val) (mB b.val) (SB' b.val) (xB b.val).length
    refine Run.cons (Exe.newObject O (Or.inl (by walk_at "wr")) (by walk_at "bn") (fun st => ?_) (by walk_at "wr"))
    refine Run.cons (Exe.assign O (p := .l (sl (partsTo (aB b.val) (mB b.val) (SB' b.val) (xB b.val).length))) (Or.inl (by walk_at "wr")) (Ev.callF (by walk_at "gn") (by walk_at "fo") rfl (EvA.cons (by walk_at "ld") (EvA.cons (by walk_at "ld") (EvA.cons Ev.str EvA.nil))) (fn_translate_ g.fn (hr.fn (n := 4) |>.le (by omega)) b rfl hp)) ?_ (by walk_at "wr"))
    have hlen : (partsTo (aB b.val) (mB b.val) (SB' b.val) (xB b.val).length).length ≤ 100 := by
      unfold partsTo
      have hxl := hp.hlen
      split
      · rw [List.length_replicate]; omega
      · have := hp.hm
        simp only [List.length_append, List.length_replicate, List.length_singleton]; omega
    exact Run.cons (Exe.ret O (Ev.callF (by walk_at "gn") (by walk_at "fo") rfl (EvA.cons (by walk_at "ld") (EvA.cons (by walk_at "ld") EvA.nil)) (fn_join g.fn (hr.fn (n := 4) |>.le (by omega)) hlen l3 (by show (TB b.val).length ≤ 2000; omega))) (RetsP.pl rfl))
theorem fm_filter (p : Str → Bool) : ∀ xs : List Str, xs.filterMap (fun t => if p t = true then some (PV.s t) else none) = (xs.filter p).map .s
  | [] => rfl
  | t :: xs => by
    rw [List.filterMap_cons]
    cases h : p t with
    | true => rw [if_pos rfl, List.filter_cons_of_pos h, List.map_cons, fm_filter p xs]
    | false => rw [if_neg (by simp), List.filter_cons_of_neg (by simp [h]), fm_filter p xs]
theorem in_empty (c : Nat) : inS "" ⟨#[c]⟩ = false := by
  unfold inS
  have h0 : (Str.ofString "").length = 0 := by decide +kernel
  rw [h0]
  cases h : occurrences (Str.ofString "") ⟨#[c]⟩ 0 0 1 with
  | nil => rfl
  | cons i r =>
    have := (StrLaws.occ_spec (Str.ofString "") ⟨#[c]⟩ 0 0 1 i (by rw [h]; exact List.mem_cons_self)).1
    have h1 : (⟨#[c]⟩ : Str).length = 1 := rfl
    omega
/-- the items that the pattern of the bit has -/
noncomputable def IB (b : Nat) : List PV := List.replicate (aB b) dotP ++ [setP (SB' b)] ++ List.replicate (b / 6) dotP
theorem IB_eq (b : Fin 24) : itemsTo (aB b.val) (mB b.val) (SB' b.val) (TB b.val).length = IB b.val := by
  obtain ⟨l1, _⟩ := len_all b
  unfold itemsTo IB
  rw [if_neg (by omega)]
  congr 2
  omega
noncomputable def sK (b k : Nat) : Str := if k = aB b then SB' b else ""
noncomputable def tK (b k : Nat) : Bool := !decide (k = aB b)
theorem IB_get : ∀ (b : Fin 24) (k : Fin 4), (IB b.val)[k.val]? = some (.l [.s (sK b.val k.val), .b (tK b.val k.val)]) := by
  intro b k
  have hb : b.val / 6 ≤ 3 := by omega
  have hk := k.isLt
  unfold IB sK tK aB
  by_cases h1 : k.val < 3 - b.val / 6
  · rw [List.append_assoc, List.getElem?_append_left (by rw [List.length_replicate]; exact h1), List.getElem?_replicate, if_pos h1, if_neg (by omega), decide_eq_false (by omega)]; rfl
  · rw [List.append_assoc, List.getElem?_append_right (by rw [List.length_replicate]; omega), List.length_replicate]
    by_cases h2 : k.val = 3 - b.val / 6
    · rw [h2, Nat.sub_self, if_pos rfl, decide_eq_true rfl]; rfl
    · rw [List.getElem?_append_right (by rw [List.length_singleton]; omega), List.length_singleton, List.getElem?_replicate, if_pos (by omega), if_neg h2, decide_eq_false h2]; rfl
theorem IB_len (b : Fin 24) : (IB b.val).length = 4 := by
  unfold IB aB
  simp only [List.length_append, List.length_replicate, List.length_singleton]
  omega
theorem CmpV.eq_b {a b : Bool} : CmpV C mu .Eq (.b a) (.b b) (a == b) := by
  refine ⟨?_⟩
  intro v w s I r1 r2
  rw [r1.b_inv, r2.b_inv]
  exact PyProof.Rows.eq_bool ⟨rfl, Ext.refl _ _⟩
theorem item_one (x : Str) (k : Int) : ∃ c, Txt.item x k = ⟨#[c]⟩ := ⟨_, rfl⟩
noncomputable def keptK (b : Nat) (t : Str) (k : Nat) : Bool := inS (sK b k) (Txt.item t k) == tK b k
theorem kept_none (b : Fin 24) (t : Str) : decide (((List.range 4).filterMap fun k => if keptK b.val t k = true then some (PV.i k) else none).length = 0) = inS (SB' b.val) (Txt.item t (aB b.val)) := by
  have ha : aB b.val < 4 := by unfold aB; omega
  have hk : ∀ k, k ≠ aB b.val → keptK b.val t k = false := by
    intro k h
    obtain ⟨c, hc⟩ := item_one t k
    unfold keptK sK tK
    rw [if_neg h, decide_eq_false h, hc, in_empty]; rfl
  have hka : keptK b.val t (aB b.val) = !inS (SB' b.val) (Txt.item t (aB b.val)) := by
    unfold keptK sK tK
    rw [if_pos rfl, decide_eq_true rfl]
    cases inS (SB' b.val) (Txt.item t (aB b.val)) <;> rfl
  rw [Bool.eq_iff_iff, decide_eq_true_iff, List.length_eq_zero_iff, List.filterMap_eq_nil_iff]
  constructor
  · intro h
    have := h (aB b.val) (List.mem_range.mpr ha)
    cases hi : inS (SB' b.val) (Txt.item t (aB b.val)) with
    | true => rfl
    | false => rw [hka, hi] at this; simp at this
  · intro h k _
    by_cases hke : k = aB b.val
    · rw [hke, hka, h]; rfl
    · rw [hk k hke]; rfl
theorem fn_answer (g : Gok P C.g mg mb) (hr : Rm C 9) {p : PV} {xs : List Str} {bit : Int} (e1 : p.lst? = some (sl xs)) (h1 : xs.length ≤ 400) (h4 : ∀ t ∈ xs, t.length = 4) (hb0 : 0 ≤ bit) (hb1 : bit < 24) : CallV C mu (.ref 179) [p, .i bit] (embL (ansL xs bit)) := by
  obtain ⟨b, rfl⟩ : ∃ b : Fin 24, bit = (b.val : Int) := ⟨⟨bit.toNat, by omega⟩, by show bit = ((bit.toNat : Nat) : Int); omega⟩
  have hfm : ((b.val : Int).fmod 6).toNat = b.val % 6 := by rw [Int.fmod_eq_emod_of_nonneg _ (by decide)]; omega
  have hfd : (3 - (b.val : Int).fdiv 6) = (aB b.val : Int) := by rw [Int.fdiv_eq_ediv_of_nonneg _ (by decide)]; unfold aB; omega
  have hans : ansL xs (b.val : Int) = xs.filter fun t => inS (SB' b.val) (Txt.item t (aB b.val)) := by
    unfold ansL SB' nB
    rw [hfm, hfd]
  rw [hans]
  refine' CallV.fk (ns := ["texts", "bit"]) (W := ["items"]) g (by walk_at "wr") (by walk_at "wr") (by walk_at "wr") ?room rfl (by walk_at "wr") (by walk_at "wr") (by walk_at "wr") ?hbind ?hkind ?hnd ?hW (by walk_at "wr") (by walk_at "wr") (by walk_at "wr") fun L s O => ?run
  case room => exact hr.room
  case hbind =>
    intro vs h
    match vs, h with
    | [v0, v1], _ => walk_at "wr"
  case hkind => exact List.forall_mem_cons.mpr ⟨Or.inl (by walk_at "wr"), List.forall_mem_cons.mpr ⟨Or.inl (by walk_at "wr"), List.forall_mem_nil _⟩⟩
  case hnd => decide +kernel
  case hW => exact List.forall_mem_cons.mpr ⟨⟨by walk_at "wr", fun L => ⟨L + 1, (by show L < L + 1; omega), by walk_at "wr"⟩⟩, List.forall_mem_nil _⟩
  case run =>
    have sl' := sizeL
    have hu := hr.u
    obtain ⟨l1, l2, l3, l4, l5, l6, l7⟩ := len_all b
    have hpat : ∀ {C' : Cx} {mu' : List Addr} (g' : Gok P C'.g mg mb) (hr' : Rm C' 2), CallV C' mu' (.ref 167) [.i (b.val : Int)] (.s (xB b.val)) := by
      intro C' mu' g' hr'
      refine fn_pattern g' hr' (n := nB b.val) hb0 hb1 ?_ ?_ ?_ ?_ ?_
      · rw [hfm]; exact l6
      · rw [hfm]; exact l7
      · unfold nB; exact Nat.div_le_self _ _
      · rw [hfm]; exact l4
      · rw [hfm]; exact l5
    refine Run.cons (Exe.assign O (p := .l (IB b.val)) (Or.inr (List.Mem.head _)) (Ev.is (Ev.callF (by walk_at "gn") (by walk_at "fo") rfl (EvA.cons (Ev.callF (by walk_at "gn") (by walk_at "fo") rfl (EvA.cons (Ev.callF (by walk_at "gn") (by walk_at "fo") rfl (EvA.cons (by walk_at "ld") EvA.nil) (hpat g.fn (hr.fn (n := 8) |>.le (by omega)))) EvA.nil) (fn_translate g.fn (hr.fn (n := 8) |>.le (by omega)) b)) EvA.nil) (fn_items g.fn (hr.fn (n := 8) |>.le (by omega)) (items_all b))) (congrArg PV.l (IB_eq b))) ?_ (by walk_at "wr"))
    refine Run.cons (Exe.ret O (p := embL (xs.filter fun t => inS (SB' b.val) (Txt.item t (aB b.val)))) ?_ (RetsP.pl rfl))
    refine' Ev.is (Ev.comp (W := ["text"]) (cap := [("items", .l (IB b.val))]) (p := p) (xs.map fun t => (.s t, if inS (SB' b.val) (Txt.item t (aB b.val)) = true then some (.s t) else none)) ?K_1 ?l_1 ?it_1 ?sz_1 ?el_1) ?res_1
    case K_1 => walk_at "compW"
    case l_1 => walk_at "ld"
    case it_1 =>
      rw [List.map_map]
      exact Itb.list e1
    case sz_1 => rw [List.length_map]; omega
    case res_1 =>
      refine congrArg PV.l ?_
      rw [List.filterMap_map]
      show xs.filterMap (fun t => if inS (SB' b.val) (Txt.item t (aB b.val)) = true then some (PV.s t) else none) = (xs.filter fun t => inS (SB' b.val) (Txt.item t (aB b.val))).map .s
      exact fm_filter _ xs
    case el_1 =>
      intro z hz D L'
      obtain ⟨t, ht, rfl⟩ := List.mem_map.mp hz
      have ht4 := h4 t ht
      refine ⟨TstL.one (Tst.is (Tst.and2 (x := true) (y := inS (SB' b.val) (Txt.item t (aB b.val))) (Tst.is (Tst.cmp (Ev.callB (by walk_at "bn") (EvA.cons (by walk_at "ld") EvA.nil) (CallV.len_l (xs := IB b.val) rfl (by rw [IB_len]; decide))) Ev.int CmpV.eq_i) (by rw [IB_len]; rfl)) (fun _ => ?tst)) ?_), fun y hy => ?_⟩
      case tst =>
        refine' Tst.is (Tst.cmp (Ev.comp (W := []) (cap := [("items", .l (IB b.val)), ("text", .s t)]) ((List.range 4).map fun (k : Nat) => (.i k, if keptK b.val t k = true then some (.i k) else none)) ?K_2 ?l_2 ?it_2 ?sz_2 ?el_2) (Ev.list EvA.nil rfl) (CmpV.eq_nil rfl rfl (by show C.A.units + 3 < cLine; omega))) ?res_2
        case K_2 => walk_at "comp0"
        case l_2 => exact Ev.callT (by walk_at "bn") (EvA.cons Ev.int EvA.nil) CallV.range1
        case it_2 =>
          rw [List.map_map]
          exact Itb.range1 (n := 4) (by decide)
        case sz_2 => rw [List.length_map, List.length_range]; omega
        case res_2 =>
          rw [List.filterMap_map]
          exact kept_none b t
        case el_2 =>
          intro z hz D2 L2
          obtain ⟨k, hk, rfl⟩ := List.mem_map.mp hz
          have hk := List.mem_range.mp hk
          have hg := IB_get b ⟨k, hk⟩
          have hg : (IB b.val)[k]? = some (.l [.s (sK b.val k), .b (tK b.val k)]) := hg
          have itI : ∀ {C : Cx} {mu : List Addr}, ItV C mu (.l (IB b.val)) k (.l [.s (sK b.val k), .b (tK b.val k)]) := ItV.list rfl (by omega) (by omega) (by rw [show ((k : Int)).toNat = k by omega]; exact hg)
          have itt : ∀ {C : Cx} {mu : List Addr}, ItV C mu (.s t) k (.s (Txt.item t k)) := ItV.str (by omega) (by omega) (fits_small (by omega) (by omega))
          refine ⟨TstL.one (Tst.is (Tst.cmp (Ev.cmp (Ev.item (by walk_at "ld") (by walk_at "ld") itt) (Ev.item (Ev.item (by walk_at "ld") (by walk_at "ld") itI) Ev.int (ItV.list (r := .s (sK b.val k)) rfl (by decide) (by decide) rfl)) CmpV.in_s) (Ev.item (Ev.item (by walk_at "ld") (by walk_at "ld") itI) Ev.int (ItV.list (r := .b (tK b.val k)) rfl (by decide) (by decide) rfl)) CmpV.eq_b) ?_), fun y hy => ?_⟩
          · show keptK b.val t k = _
            cases h : keptK b.val t k <;> rfl
          · have hy : (if keptK b.val t k = true then some (PV.i k) else none) = some y := hy
            cases h : keptK b.val t k with
            | true => rw [h, if_pos rfl] at hy; cases hy; exact ⟨by walk_at "ld", rfl⟩
            | false => rw [h] at hy; cases hy
      · cases inS (SB' b.val) (Txt.item t (aB b.val)) <;> rfl
      · have hy : (if inS (SB' b.val) (Txt.item t (aB b.val)) = true then some (PV.s t) else none) = some y := hy
        cases h : inS (SB' b.val) (Txt.item t (aB b.val)) with
        | true => rw [h, if_pos rfl] at hy; cases hy; exact ⟨by walk_at "ld", rfl⟩
        | false => rw [h] at hy; cases hy

end
section
open  PySem.Builtin PySem.Builtin.Str
set_option maxHeartbeats 4000000
set_option linter.unusedVariables false
set_option autoImplicit false
variable {C : Cx} {env : Env} {σ : St} {mu : List Addr} {mg mb : Str → Option Value} {P : Params} {X : Fx} {Q : St → Res → Prop}
noncomputable def anyStep (xs : List Str) (last ans : List Str) : List Str := outL xs (outL (outL xs last) ans)
noncomputable def anyL (xs : List Str) (As : List (List Str)) : List Str := As.foldl (anyStep xs) []
theorem anyTo_len (xs : List Str) (As : List (List Str)) (k : Nat) : ((As.take k).foldl (anyStep xs) []).length ≤ xs.length := by
  cases h : (As.take k).reverse with
  | nil =>
    have : As.take k = [] := by simpa using h
    rw [this]; simp
  | cons a r =>
    have : As.take k = r.reverse ++ [a] := by
      have := congrArg List.reverse h
      simpa using this
    rw [this, List.foldl_append]
    exact outL_len _ _
theorem fn_any (g : Gok P C.g mg mb) (hr : Rm C 10) {p : PV} {xs : List Str} {As : List (List Str)} (e1 : p.lst? = some (sl xs)) (h1 : xs.length ≤ 400) (h2 : ∀ a ∈ As, a.length ≤ 400) : CallV C mu (.ref 198) [p, .l (As.map embL)] (embL (anyL xs As)) := by
  refine' CallV.fk (ns := ["texts", "answers"]) (W := []) g (by walk_at "wr") (by walk_at "wr") (by walk_at "wr") ?room rfl (by walk_at "wr") (by walk_at "wr") (by walk_at "wr") ?hbind ?hkind ?hnd ?hW (by walk_at "wr") (by walk_at "wr") (by walk_at "wr") fun L s O => ?run
  case room => exact hr.room
  case hbind =>
    intro vs h
    match vs, h with
    | [v0, v1], _ => walk_at "wr"
  case hkind => exact List.forall_mem_cons.mpr ⟨Or.inl (by walk_at "wr"), List.forall_mem_cons.mpr ⟨Or.inl (by walk_at "wr"), List.forall_mem_nil _⟩⟩
  case hnd => decide +kernel
  case hW => exact List.forall_mem_nil _
  case run =>
    have sl' := sizeL
    refine Run.cons (Exe.assign O (p := .l []) (Or.inl (by walk_at "wr")) (Ev.list EvA.nil rfl) ?_ (by walk_at "wr"))
    refine Run.for O (ps := As.map embL) (p := .l (As.map embL)) (Or.inl (by walk_at "wr")) (by walk_at "ld") (Itb.list rfl) rfl (fun k σ => k ≤ As.length ∧ σ = ⟨mu, [], [("texts", p), ("last", embL ((As.take k).foldl (anyStep xs) []))]⟩) ⟨mu, [], [("texts", p), ("last", embL [])]⟩ (Can.of rfl rfl (by walk_at "mems")) ⟨Nat.zero_le _, rfl⟩ ?turn ?hend
    case turn =>
      rintro k q σ hq ⟨hk, rfl⟩
      rw [List.getElem?_map] at hq
      obtain ⟨a, ha, rfl⟩ := Option.map_eq_some_iff.mp hq
      have hlt : k < As.length := (List.getElem?_eq_some_iff.mp ha).1
      have hal := h2 a (List.mem_of_getElem? ha)
      have hl := anyTo_len xs As k
      generalize hlast : (As.take k).foldl (anyStep xs) [] = last at *
      have l1 := outL_len xs last
      have l2 := outL_len (outL xs last) a
      refine Run.cons (Exe.assign O (p := embL (anyStep xs last a)) (Or.inl (by walk_at "wr")) ?e ?_ (by walk_at "wr"))
      case e =>
        refine Ev.callF (by walk_at "gn") (by walk_at "fo") rfl (EvA.cons (by walk_at "ld") (EvA.cons (Ev.callF (by walk_at "gn") (by walk_at "fo") rfl (EvA.cons (Ev.callF (by walk_at "gn") (by walk_at "fo") rfl (EvA.cons (by walk_at "ld") (EvA.cons (by walk_at "ld") EvA.nil)) (fn_out g.fn hr.fn e1 (ys := last) rfl (by omega) (by omega))) (EvA.cons (by walk_at "ld") EvA.nil)) (fn_out g.fn hr.fn (xs := outL xs last) (ys := a) rfl rfl (by omega) (by omega))) EvA.nil)) (fn_out g.fn hr.fn e1 rfl (by omega) (by omega))
      refine Run.nil ⟨⟨mu, [], [("texts", p), ("last", embL ((As.take (k + 1)).foldl (anyStep xs) []))]⟩, Can.of rfl rfl ?_, hlt, rfl⟩
      rw [List.take_add_one, ha, List.foldl_append, hlast]
      walk_at "mems"
    case hend =>
      rintro σ ⟨hk, rfl⟩
      have : ((As.take (As.map embL).length).foldl (anyStep xs) []) = anyL xs As := by
        rw [List.length_map, List.take_length]; rfl
      rw [this]
      exact Run.cons (Exe.ret O (by walk_at "ld") (RetsP.pl rfl))
theorem Ev.md {e : Expr} {x n : Int} {k : Nat} {pos pos' : Pos} (h : Ev C env σ e (.i x)) (hn : n ≠ 0) : Ev C env σ (.BinOp e .Mod (.Constant (.int n) k pos') pos) (.i (x.fmod n)) := Ev.bin h Ev.int (BinV.fmod_i hn)
noncomputable def doneL (xs : List Str) (Ss : List (List Str)) (x : Int) : List (List Str) :=
  if x.fmod 4 = 0 ∨ Ss = [] ∨ (1 < x.fmod 4 ∧ Ss.length < 2) then Ss ++ [ansL xs ((x.fdiv 4).fmod 24)]
  else if x.fmod 4 = 1 then Ss.take (Ss.length - 1) ++ [outL xs (Ss.getD (Ss.length - 1) [])]
  else if x.fmod 4 = 2 then Ss.take (Ss.length - 2) ++ [andL xs (Ss.getD (Ss.length - 2) []) (Ss.getD (Ss.length - 1) [])]
  else Ss.take (Ss.length - 2) ++ [anyL xs [andL xs (Ss.getD (Ss.length - 2) []) (outL xs (Ss.getD (Ss.length - 1) [])), andL xs (outL xs (Ss.getD (Ss.length - 2) [])) (Ss.getD (Ss.length - 1) [])]]
theorem fn_done (g : Gok P C.g mg mb) (hr : Rm C 11) {p : PV} {xs : List Str} {Ss : List (List Str)} {x : Int} (e1 : p.lst? = some (sl xs)) (h1 : xs.length ≤ 400) (h4 : ∀ t ∈ xs, t.length = 4) (h2 : ∀ a ∈ Ss, a.length ≤ 400) (h3 : Ss.length ≤ 400) :
    CallV C mu (.ref 205) [p, .l (Ss.map embL), .i x] (.l ((doneL xs Ss x).map embL)) := by
  refine' CallV.fk (ns := ["texts", "stack", "x"]) (W := []) g (by walk_at "wr") (by walk_at "wr") (by walk_at "wr") ?room rfl (by walk_at "wr") (by walk_at "wr") (by walk_at "wr") ?hbind ?hkind ?hnd ?hW (by walk_at "wr") (by walk_at "wr") (by walk_at "wr") fun L s O => ?run
  case room => exact hr.room
  case hbind =>
    intro vs h
    match vs, h with
    | [v0, v1, v2], _ => walk_at "wr"
  case hkind => exact List.forall_mem_cons.mpr ⟨Or.inl (by walk_at "wr"), List.forall_mem_cons.mpr ⟨Or.inl (by walk_at "wr"), List.forall_mem_cons.mpr ⟨Or.inl (by walk_at "wr"), List.forall_mem_nil _⟩⟩⟩
  case hnd => decide +kernel
  case hW => exact List.forall_mem_nil _
  case run =>
    have sl' := sizeL
    have hu := hr.u
    have hm0 := Int.fmod_nonneg_of_pos x (b := 4) (by decide)
    have hm1 := Int.fmod_lt_of_pos x (b := 4) (by decide)
    have hq0 := Int.fmod_nonneg_of_pos (x.fdiv 4) (b := 24) (by decide)
    have hq1 := Int.fmod_lt_of_pos (x.fdiv 4) (b := 24) (by decide)
    have rm : Rm C 11 := hr
    have hEq : EqE 2 embL := EqE.str.list
    refine Run.ite O (b := decide (x.fmod 4 = 0) || decide (Ss = []) || (decide (1 < x.fmod 4) && decide (Ss.length < 2))) ?t (fun hb => ?h1) (fun hb => ?h2)
    case t =>
      refine Tst.or3 (Tst.is (Tst.cmp (Ev.md (by walk_at "ld") (by decide)) Ev.int CmpV.eq_i) ?_) (fun _ => Tst.cmp (by walk_at "ld") (Ev.list EvA.nil rfl) (CmpV.eq_l hEq (xs := Ss) (ys := []) rfl rfl (by show C.A.units + 3 + 2 + 2 < cLine; omega))) (fun _ _ => Tst.and2 (Tst.cmp (Ev.md (by walk_at "ld") (by decide)) Ev.int CmpV.gt_i) (fun _ => Tst.is (Tst.cmp (Ev.callB (by walk_at "bn") (EvA.cons (by walk_at "ld") EvA.nil) (CallV.len_l rfl (by rw [List.length_map]; omega))) Ev.int CmpV.lt_i) ?_))
      · by_cases h : x.fmod 4 = 0
        · rw [h]; rfl
        · rw [decide_eq_false h]; simpa using h
      · rw [List.length_map]
        by_cases h : Ss.length < 2
        · rw [decide_eq_true h]; exact decide_eq_true (by omega)
        · rw [decide_eq_false h]; exact decide_eq_false (by omega)
    case h1 =>
      have hb : x.fmod 4 = 0 ∨ Ss = [] ∨ (1 < x.fmod 4 ∧ Ss.length < 2) := by
        simp only [Bool.or_eq_true, Bool.and_eq_true, decide_eq_true_eq] at hb
        rcases hb with (h | h) | h
        · exact Or.inl h
        · exact Or.inr (Or.inl h)
        · exact Or.inr (Or.inr h)
      refine Run.cons (Exe.ret O (p := .l ((doneL xs Ss x).map embL)) ?_ (RetsP.pl rfl))
      unfold doneL
      rw [if_pos hb, List.map_append]
      exact Ev.addl (by walk_at "ld") (Ev.list (EvA.cons (Ev.callF (by walk_at "gn") (by walk_at "fo") rfl (EvA.cons (by walk_at "ld") (EvA.cons (Ev.bin (Ev.bin (by walk_at "ld") Ev.int (BinV.fdiv_i (by decide) (noPylong_lt (by decide)))) Ev.int (BinV.fmod_i (by decide))) EvA.nil)) (fn_answer g.fn (hr.fn (n := 10) |>.le (by omega)) e1 h1 h4 hq0 hq1)) EvA.nil) rfl) rfl rfl (by show (Ss.map embL).length + 1 ≤ _; rw [List.length_map]; omega)
    case h2 =>
      have hb : ¬ (x.fmod 4 = 0 ∨ Ss = [] ∨ (1 < x.fmod 4 ∧ Ss.length < 2)) := by
        intro h
        simp only [Bool.or_eq_false_iff, Bool.and_eq_false_iff, decide_eq_false_iff_not] at hb
        obtain ⟨⟨q1, q2⟩, q3⟩ := hb
        rcases h with h | h | ⟨h, h'⟩
        · exact q1 h
        · exact q2 h
        · rcases q3 with q3 | q3
          · exact q3 h
          · exact q3 h'
      have hne : Ss ≠ [] := fun h => hb (Or.inr (Or.inl h))
      have hp : 0 < Ss.length := List.length_pos_iff.mpr hne
      have hd : doneL xs Ss x = if x.fmod 4 = 1 then Ss.take (Ss.length - 1) ++ [outL xs (Ss.getD (Ss.length - 1) [])]
          else if x.fmod 4 = 2 then Ss.take (Ss.length - 2) ++ [andL xs (Ss.getD (Ss.length - 2) []) (Ss.getD (Ss.length - 1) [])]
          else Ss.take (Ss.length - 2) ++ [anyL xs [andL xs (Ss.getD (Ss.length - 2) []) (outL xs (Ss.getD (Ss.length - 1) [])), andL xs (outL xs (Ss.getD (Ss.length - 2) [])) (Ss.getD (Ss.length - 1) [])]] := by
        unfold doneL; rw [if_neg hb]
      have hg1 : Ss.getD (Ss.length - 1) [] ∈ Ss := by
        rw [List.getD_eq_getElem?_getD, List.getElem?_eq_getElem (by omega)]
        exact List.getElem_mem _
      have hl1 := h2 _ hg1
      refine Run.nil ?_
      refine Run.ite O (b := decide (x.fmod 4 = 1)) (Tst.is (Tst.cmp (Ev.md (by walk_at "ld") (by decide)) Ev.int CmpV.eq_i) ?_) (fun hx => ?_) (fun hx => ?_)
      · by_cases h : x.fmod 4 = 1
        · rw [h]; rfl
        · rw [decide_eq_false h]; simpa using h
      · have hx := of_decide_eq_true hx
        rw [hd, if_pos hx]
        refine Run.cons (Exe.ret O (p := .l ((Ss.take (Ss.length - 1) ++ [outL xs (Ss.getD (Ss.length - 1) [])]).map embL)) ?_ (RetsP.pl rfl))
        rw [List.map_append]
        refine Ev.addl (p := .l ((Ss.take (Ss.length - 1)).map embL)) (Ev.is (Ev.slice (by walk_at "ld") EvO.non (EvO.som (Ev.neg Ev.int)) EvO.non (SlV.list rfl (by decide) (by rw [List.length_map]; omega))) ?_)
          (Ev.list (EvA.cons (Ev.callF (by walk_at "gn") (by walk_at "fo") rfl (EvA.cons (by walk_at "ld") (EvA.cons (Ev.item (by walk_at "ld") (Ev.neg Ev.int) (ItV.list_neg rfl (by decide) (by rw [List.length_map]; omega) (by decide) (r := embL (Ss.getD (Ss.length - 1) [])) ?_)) EvA.nil)) (fn_out g.fn (hr.fn (n := 10) |>.le (by omega)) e1 rfl (by omega) (by omega))) EvA.nil) rfl) rfl rfl (by show ((Ss.take _).map embL).length + 1 ≤ _; rw [List.length_map, List.length_take]; omega)
        · have := pick_toN (xs := Ss.map embL) (k := 1) (by decide) (by rw [List.length_map]; omega)
          rw [List.length_map] at this
          rw [List.map_take, ← this]; rfl
        · have e : (-1 + ((Ss.map embL).length : Int)).toNat = Ss.length - 1 := by rw [List.length_map]; omega
          rw [e, List.getElem?_map, List.getElem?_eq_getElem (by omega), List.getD_eq_getElem?_getD, List.getElem?_eq_getElem (by omega)]
          rfl
      · have hx := of_decide_eq_false hx
        have h22 : 2 ≤ Ss.length := by
          rcases Nat.lt_or_ge Ss.length 2 with h | h
          · exact absurd (Or.inr (Or.inr ⟨by
              have : x.fmod 4 ≠ 0 := fun q => hb (Or.inl q)
              omega, h⟩)) hb
          · exact h
        have hg2 : Ss.getD (Ss.length - 2) [] ∈ Ss := by
          rw [List.getD_eq_getElem?_getD, List.getElem?_eq_getElem (by omega)]
          exact List.getElem_mem _
        have hl2 := h2 _ hg2
        rw [hd, if_neg hx]
        have hdrop : Ss.drop (Ss.length - 2) = [Ss.getD (Ss.length - 2) [], Ss.getD (Ss.length - 1) []] := by
          rw [List.drop_eq_getElem_cons (by omega), List.drop_eq_getElem_cons (by omega), List.drop_of_length_le (by omega)]
          simp only [List.getD_eq_getElem?_getD]
          rw [List.getElem?_eq_getElem (by omega), List.getElem?_eq_getElem (by omega)]
          have : Ss.length - 2 + 1 = Ss.length - 1 := by omega
          simp [this]
        generalize hone : Ss.getD (Ss.length - 2) [] = one at *
        generalize htwo : Ss.getD (Ss.length - 1) [] = two at *
        refine Run.nil ?_
        refine Run.cons (Exe.tupL2 O (q := embL one) (r := embL two) (Or.inl (by walk_at "wr")) (Or.inl (by walk_at "wr")) (Ev.slice (by walk_at "ld") (EvO.som (Ev.neg Ev.int)) EvO.non EvO.non (SlV.list rfl (by decide) (by rw [List.length_map]; omega))) ?_ ?_ (by walk_at "wr") (by walk_at "wr"))
        · have := pick_fromN (xs := Ss.map embL) (k := 2) (by decide) (by rw [List.length_map]; omega)
          rw [List.length_map, ← List.map_drop, hdrop] at this
          show some (pick _ (some (-2)) none none) = _
          exact congrArg some this
        have hsl : pick (Ss.map embL) none (some (-2)) none = (Ss.take (Ss.length - 2)).map embL := by
          have := pick_toN (xs := Ss.map embL) (k := 2) (by decide) (by rw [List.length_map]; omega)
          rw [List.length_map] at this
          rw [List.map_take, ← this]; rfl
        have lo1 := outL_len xs one
        have lo2 := outL_len xs two
        refine Run.ite O (b := decide (x.fmod 4 = 2)) (Tst.is (Tst.cmp (Ev.md (by walk_at "ld") (by decide)) Ev.int CmpV.eq_i) ?_) (fun hx2 => ?_) (fun hx2 => ?_)
        · by_cases h : x.fmod 4 = 2
          · rw [h]; rfl
          · rw [decide_eq_false h]; simpa using h
        · have hx2 := of_decide_eq_true hx2
          rw [if_pos hx2]
          refine Run.cons (Exe.ret O (p := .l ((Ss.take (Ss.length - 2) ++ [andL xs one two]).map embL)) ?_ (RetsP.pl rfl))
          rw [List.map_append]
          exact Ev.addl (p := .l ((Ss.take (Ss.length - 2)).map embL)) (Ev.is (Ev.slice (by walk_at "ld") EvO.non (EvO.som (Ev.neg Ev.int)) EvO.non (SlV.list rfl (by decide) (by rw [List.length_map]; omega))) (congrArg PV.l hsl))
            (Ev.list (EvA.cons (Ev.callF (by walk_at "gn") (by walk_at "fo") rfl (EvA.cons (by walk_at "ld") (EvA.cons (by walk_at "ld") (EvA.cons (by walk_at "ld") EvA.nil))) (fn_and g.fn hr.fn e1 rfl rfl (by omega) (by omega) (by omega))) EvA.nil) rfl) rfl rfl (by show ((Ss.take _).map embL).length + 1 ≤ _; rw [List.length_map, List.length_take]; omega)
        · have hx2 := of_decide_eq_false hx2
          rw [if_neg hx2]
          refine Run.nil ?_
          refine Run.cons (Exe.ret O (p := .l ((Ss.take (Ss.length - 2) ++ [anyL xs [andL xs one (outL xs two), andL xs (outL xs one) two]]).map embL)) ?_ (RetsP.pl rfl))
          rw [List.map_append]
          have la1 := andL_len xs one (outL xs two)
          have la2 := andL_len xs (outL xs one) two
          exact Ev.addl (p := .l ((Ss.take (Ss.length - 2)).map embL)) (Ev.is (Ev.slice (by walk_at "ld") EvO.non (EvO.som (Ev.neg Ev.int)) EvO.non (SlV.list rfl (by decide) (by rw [List.length_map]; omega))) (congrArg PV.l hsl))
            (Ev.list (EvA.cons (Ev.callF (by walk_at "gn") (by walk_at "fo") rfl (EvA.cons (by walk_at "ld") (EvA.cons (Ev.list (EvA.cons (Ev.callF (by walk_at "gn") (by walk_at "fo") rfl (EvA.cons (by walk_at "ld") (EvA.cons (by walk_at "ld") (EvA.cons (Ev.callF (by walk_at "gn") (by walk_at "fo") rfl (EvA.cons (by walk_at "ld") (EvA.cons (by walk_at "ld") EvA.nil)) (fn_out g.fn (hr.fn (n := 10) |>.le (by omega)) e1 (ys := two) rfl (by omega) (by omega))) EvA.nil))) (fn_and g.fn hr.fn e1 (ys := one) (zs := outL xs two) rfl rfl (by omega) (by omega) (by omega)))
              (EvA.cons (Ev.callF (by walk_at "gn") (by walk_at "fo") rfl (EvA.cons (by walk_at "ld") (EvA.cons (Ev.callF (by walk_at "gn") (by walk_at "fo") rfl (EvA.cons (by walk_at "ld") (EvA.cons (by walk_at "ld") EvA.nil)) (fn_out g.fn (hr.fn (n := 10) |>.le (by omega)) e1 (ys := one) rfl (by omega) (by omega))) (EvA.cons (by walk_at "ld") EvA.nil))) (fn_and g.fn hr.fn e1 (ys := outL xs one) (zs := two) rfl rfl (by omega) (by omega) (by omega))) EvA.nil)) rfl) EvA.nil))
              (fn_any g.fn hr.fn e1 (As := [andL xs one (outL xs two), andL xs (outL xs one) two]) (by omega) (List.forall_mem_cons.mpr ⟨by omega, List.forall_mem_cons.mpr ⟨by omega, List.forall_mem_nil _⟩⟩))) EvA.nil) rfl) rfl rfl (by show ((Ss.take _).map embL).length + 1 ≤ _; rw [List.length_map, List.length_take]; omega)

end
section
open  PySem.Builtin PySem.Builtin.Str
set_option maxHeartbeats 4000000
set_option linter.unusedVariables false
set_option autoImplicit false
variable {C : Cx} {env : Env} {σ : St} {mu : List Addr} {mg mb : Str → Option Value} {P : Params} {X : Fx} {Q : St → Res → Prop}
noncomputable abbrev embI (xs : List Int) : PV := .l (xs.map .i)
noncomputable def toldF (φs : List (Int → Int)) (x : Int) : List (Int → Int) :=
  if x.fmod 4 = 0 ∨ φs.length = 0 ∨ (1 < x.fmod 4 ∧ φs.length < 2) then φs ++ [fun n => (n.fdiv (2 ^ ((x.fdiv 4).fmod 24).toNat)).fmod 2]
  else if x.fmod 4 = 1 then φs.take (φs.length - 1) ++ [fun n => 1 - φs.getD (φs.length - 1) (fun _ => 0) n]
  else φs.take (φs.length - 2) ++ [fun n => if x.fmod 4 = 2 then φs.getD (φs.length - 2) (fun _ => 0) n * φs.getD (φs.length - 1) (fun _ => 0) n else (φs.getD (φs.length - 2) (fun _ => 0) n + φs.getD (φs.length - 1) (fun _ => 0) n).fmod 2]
noncomputable abbrev embF (ns : List Int) (φ : Int → Int) : PV := embI (ns.map φ)
theorem getD_map_emb {α : Type} {emb : α → PV} {xs : List α} {d : α} {k : Nat} (h : k < xs.length) : (xs.map emb)[k]? = some (emb (xs.getD k d)) := by simp [h]
theorem fn_told (g : Gok P C.g mg mb) (hr : Rm C 2) {ns : List Int} {φs : List (Int → Int)} {x : Int} (h1 : ns.length ≤ 400) (h3 : φs.length ≤ 400) (hb : ∀ φ ∈ φs, ∀ n, φ n = 0 ∨ φ n = 1) :
    CallV C mu (.ref 210) [embI ns, .l (φs.map (embF ns)), .i x] (.l ((toldF φs x).map (embF ns))) := by
  refine' CallV.fk (ns := ["numbers", "stack", "x"]) (W := ["one", "two"]) g (by walk_at "wr") (by walk_at "wr") (by walk_at "wr") ?room rfl (by walk_at "wr") (by walk_at "wr") (by walk_at "wr") ?hbind ?hkind ?hnd ?hW (by walk_at "wr") (by walk_at "wr") (by walk_at "wr") fun L s O => ?run
  case room => exact hr.room
  case hbind =>
    intro vs h
    match vs, h with
    | [v0, v1, v2], _ => walk_at "wr"
  case hkind => exact List.forall_mem_cons.mpr ⟨Or.inl (by walk_at "wr"), List.forall_mem_cons.mpr ⟨Or.inl (by walk_at "wr"), List.forall_mem_cons.mpr ⟨Or.inr ⟨by walk_at "wr", fun _ => by walk_at "wr"⟩, List.forall_mem_nil _⟩⟩⟩
  case hnd => decide +kernel
  case hW => exact List.forall_mem_cons.mpr ⟨⟨by walk_at "wr", fun L => ⟨L + 2, (by show L < L + 2; omega), by walk_at "wr"⟩⟩, List.forall_mem_cons.mpr ⟨⟨by walk_at "wr", fun L => ⟨L + 3, (by show L < L + 3; omega), by walk_at "wr"⟩⟩, List.forall_mem_nil _⟩⟩
  case run =>
    have sl' := sizeL
    have hu := hr.u
    have hm0 := Int.fmod_nonneg_of_pos x (b := 4) (by decide)
    have hm1 := Int.fmod_lt_of_pos x (b := 4) (by decide)
    have hq0 := Int.fmod_nonneg_of_pos (x.fdiv 4) (b := 24) (by decide)
    have hq1 := Int.fmod_lt_of_pos (x.fdiv 4) (b := 24) (by decide)
    refine Run.ite O (b := decide (x.fmod 4 = 0) || decide (φs.length = 0) || (decide (1 < x.fmod 4) && decide (φs.length < 2))) ?t (fun hb => ?h1) (fun hb => ?h2)
    case t =>
      refine Tst.or3 (Tst.is (Tst.cmp (Ev.md (by walk_at "ld") (by decide)) Ev.int CmpV.eq_i) ?_) (fun _ => Tst.is (Tst.cmp (by walk_at "ld") (Ev.list EvA.nil rfl) (CmpV.eq_nil rfl rfl (by show C.A.units + 3 < cLine; omega))) (by rw [List.length_map])) (fun _ _ => Tst.and2 (Tst.cmp (Ev.md (by walk_at "ld") (by decide)) Ev.int CmpV.gt_i) (fun _ => Tst.is (Tst.cmp (Ev.callB (by walk_at "bn") (EvA.cons (by walk_at "ld") EvA.nil) (CallV.len_l rfl (by rw [List.length_map]; omega))) Ev.int CmpV.lt_i) ?_))
      · by_cases h : x.fmod 4 = 0
        · rw [h]; rfl
        · rw [decide_eq_false h]; simpa using h
      · rw [List.length_map]
        by_cases h : φs.length < 2
        · rw [decide_eq_true h]; exact decide_eq_true (by omega)
        · rw [decide_eq_false h]; exact decide_eq_false (by omega)
    case h1 =>
      have hb : x.fmod 4 = 0 ∨ φs.length = 0 ∨ (1 < x.fmod 4 ∧ φs.length < 2) := by
        simp only [Bool.or_eq_true, Bool.and_eq_true, decide_eq_true_eq] at hb
        rcases hb with (h | h) | h
        · exact Or.inl h
        · exact Or.inr (Or.inl h)
        · exact Or.inr (Or.inr h)
      refine Run.cons (Exe.ret O (p := .l ((toldF φs x).map (embF ns))) ?_ (RetsP.pl rfl))
      unfold toldF
      rw [if_pos hb, List.map_append]
      refine' Ev.addl (by walk_at "ld") (Ev.list (EvA.cons (Ev.is (Ev.comp (W := []) (cap := [("x", .i x)]) (ns.map fun n => (.i n, some (.i ((n.fdiv (2 ^ ((x.fdiv 4).fmod 24).toNat)).fmod 2)))) ?K ?l ?it ?sz ?el) (q := embF ns fun n => (n.fdiv (2 ^ ((x.fdiv 4).fmod 24).toNat)).fmod 2) ?res) EvA.nil) rfl) rfl rfl ?len
      case K => walk_at "comp0"
      case l => walk_at "ld"
      case it =>
        rw [List.map_map]
        exact Itb.list rfl
      case sz => rw [List.length_map]; omega
      case len => show (φs.map _).length + 1 ≤ _; rw [List.length_map]; omega
      case res =>
        show PV.l _ = PV.l _
        congr 1
        rw [List.filterMap_map]
        simp [List.map_map, Function.comp_def]
      case el =>
        intro z hz D L'
        obtain ⟨n, hn, rfl⟩ := List.mem_map.mp hz
        refine ⟨TstL.nil, fun y hy => ?_⟩
        cases hy
        refine ⟨?_, rfl⟩
        have hp : (2 : Int) ^ ((x.fdiv 4).fmod 24).toNat ≠ 0 := by
          have := Int.pow_pos (n := 2) (m := ((x.fdiv 4).fmod 24).toNat) (by decide)
          omega
        have hpl : ((2 : Int) ^ ((x.fdiv 4).fmod 24).toNat).natAbs < 2 ^ 30 := by
          have : ∀ k ≤ 23, ((2 : Int) ^ k).natAbs < 2 ^ 30 := by decide
          exact this _ (by omega)
        exact Ev.bin (Ev.bin (by walk_at "ld") (Ev.bin Ev.int (Ev.bin (Ev.bin (by walk_at "ld") Ev.int (BinV.fdiv_i (by decide) (noPylong_lt (by decide)))) Ev.int (BinV.fmod_i (by decide))) (BinV.pow_i hq0 (by omega) (by decide))) (BinV.fdiv_i hp (noPylong_lt hpl))) Ev.int (BinV.fmod_i (by decide))
    case h2 =>
      have hb' : ¬ (x.fmod 4 = 0 ∨ φs.length = 0 ∨ (1 < x.fmod 4 ∧ φs.length < 2)) := by
        intro h
        simp only [Bool.or_eq_false_iff, Bool.and_eq_false_iff, decide_eq_false_iff_not] at hb
        obtain ⟨⟨q1, q2⟩, q3⟩ := hb
        rcases h with h | h | ⟨h, h'⟩
        · exact q1 h
        · exact q2 h
        · rcases q3 with q3 | q3
          · exact q3 h
          · exact q3 h'
      have hp : 0 < φs.length := by
        rcases Nat.eq_zero_or_pos φs.length with h | h
        · exact absurd (Or.inr (Or.inl h)) hb'
        · exact h
      have hd : toldF φs x = if x.fmod 4 = 1 then φs.take (φs.length - 1) ++ [fun n => 1 - φs.getD (φs.length - 1) (fun _ => 0) n]
          else φs.take (φs.length - 2) ++ [fun n => if x.fmod 4 = 2 then φs.getD (φs.length - 2) (fun _ => 0) n * φs.getD (φs.length - 1) (fun _ => 0) n else (φs.getD (φs.length - 2) (fun _ => 0) n + φs.getD (φs.length - 1) (fun _ => 0) n).fmod 2] := by
        unfold toldF; rw [if_neg hb']
      have hg1 : φs.getD (φs.length - 1) (fun _ => 0) ∈ φs := by
        rw [List.getD_eq_getElem?_getD, List.getElem?_eq_getElem (by omega)]
        exact List.getElem_mem _
      have b1 := ‹∀ φ ∈ φs, ∀ n, φ n = 0 ∨ φ n = 1› _ hg1
      refine Run.nil ?_
      refine Run.ite O (b := decide (x.fmod 4 = 1)) (Tst.is (Tst.cmp (Ev.md (by walk_at "ld") (by decide)) Ev.int CmpV.eq_i) ?_) (fun hx => ?_) (fun hx => ?_)
      · by_cases h : x.fmod 4 = 1
        · rw [h]; rfl
        · rw [decide_eq_false h]; simpa using h
      · have hx := of_decide_eq_true hx
        rw [hd, if_pos hx]
        generalize hla : φs.getD (φs.length - 1) (fun _ => 0) = la at *
        refine Run.cons (Exe.ret O (p := .l ((φs.take (φs.length - 1) ++ [fun n => 1 - la n]).map (embF ns))) ?_ (RetsP.pl rfl))
        rw [List.map_append]
        refine' Ev.addl (p := .l ((φs.take (φs.length - 1)).map (embF ns))) (Ev.is (Ev.slice (by walk_at "ld") EvO.non (EvO.som (Ev.neg Ev.int)) EvO.non (SlV.list rfl (by decide) (by rw [List.length_map]; omega))) ?sl)
          (Ev.list (EvA.cons (Ev.is (Ev.comp (W := []) (cap := []) ((ns.map la).map fun b => (.i b, some (.i (1 - b)))) ?K ?l ?it ?sz ?el) (q := embF ns fun n => 1 - la n) ?res) EvA.nil) rfl) rfl rfl ?len
        case sl =>
          have := pick_toN (xs := φs.map (embF ns)) (k := 1) (by decide) (by rw [List.length_map]; omega)
          rw [List.length_map] at this
          rw [List.map_take, ← this]; rfl
        case K => walk_at "comp0"
        case l =>
          refine Ev.item (by walk_at "ld") (Ev.neg Ev.int) (ItV.list_neg (r := embF ns la) rfl (by decide) (by rw [List.length_map]; omega) (by decide) ?_)
          have e : (-1 + ((φs.map (embF ns)).length : Int)).toNat = φs.length - 1 := by rw [List.length_map]; omega
          rw [e, getD_map_emb (d := fun _ => 0) (by omega), hla]
        case it =>
          rw [List.map_map]
          exact Itb.list rfl
        case sz => rw [List.length_map, List.length_map]; omega
        case len => show ((φs.take _).map _).length + 1 ≤ _; rw [List.length_map, List.length_take]; omega
        case res =>
          show PV.l _ = PV.l _
          congr 1
          rw [List.filterMap_map]
          simp [List.map_map, Function.comp_def]
        case el =>
          intro z hz D L'
          obtain ⟨n, hn, rfl⟩ := List.mem_map.mp hz
          refine ⟨TstL.nil, fun y hy => ?_⟩
          cases hy
          exact ⟨Ev.bin Ev.int (by walk_at "ld") BinV.sub_i, rfl⟩
      · have hx := of_decide_eq_false hx
        have h22 : 2 ≤ φs.length := by
          rcases Nat.lt_or_ge φs.length 2 with h | h
          · exact absurd (Or.inr (Or.inr ⟨by
              have : x.fmod 4 ≠ 0 := fun q => hb' (Or.inl q)
              omega, h⟩)) hb'
          · exact h
        have hg2 : φs.getD (φs.length - 2) (fun _ => 0) ∈ φs := by
          rw [List.getD_eq_getElem?_getD, List.getElem?_eq_getElem (by omega)]
          exact List.getElem_mem _
        have b2 := ‹∀ φ ∈ φs, ∀ n, φ n = 0 ∨ φ n = 1› _ hg2
        rw [hd, if_neg hx]
        have hdrop : φs.drop (φs.length - 2) = [φs.getD (φs.length - 2) (fun _ => 0), φs.getD (φs.length - 1) (fun _ => 0)] := by
          rw [List.drop_eq_getElem_cons (by omega), List.drop_eq_getElem_cons (by omega), List.drop_of_length_le (by omega)]
          simp only [List.getD_eq_getElem?_getD]
          rw [List.getElem?_eq_getElem (by omega), List.getElem?_eq_getElem (by omega)]
          have : φs.length - 2 + 1 = φs.length - 1 := by omega
          simp [this]
        generalize hone : φs.getD (φs.length - 2) (fun _ => 0) = one at *
        generalize htwo : φs.getD (φs.length - 1) (fun _ => 0) = two at *
        refine Run.nil ?_
        refine Run.cons (Exe.tupL2 O (q := embF ns one) (r := embF ns two) (Or.inr (List.Mem.head _)) (Or.inr (List.Mem.tail _ (List.Mem.head _))) (Ev.slice (by walk_at "ld") (EvO.som (Ev.neg Ev.int)) EvO.non EvO.non (SlV.list rfl (by decide) (by rw [List.length_map]; omega))) ?_ ?_ (by walk_at "wr") (by walk_at "wr"))
        · have := pick_fromN (xs := φs.map (embF ns)) (k := 2) (by decide) (by rw [List.length_map]; omega)
          rw [List.length_map, ← List.map_drop, hdrop] at this
          show some (pick _ (some (-2)) none none) = _
          exact congrArg some this
        have hsl : pick (φs.map (embF ns)) none (some (-2)) none = (φs.take (φs.length - 2)).map (embF ns) := by
          have := pick_toN (xs := φs.map (embF ns)) (k := 2) (by decide) (by rw [List.length_map]; omega)
          rw [List.length_map] at this
          rw [List.map_take, ← this]; rfl
        refine Run.cons (Exe.ret O (p := .l ((φs.take (φs.length - 2) ++ [fun n => if x.fmod 4 = 2 then one n * two n else (one n + two n).fmod 2]).map (embF ns))) ?_ (RetsP.pl rfl))
        rw [List.map_append]
        refine' Ev.addl (p := .l ((φs.take (φs.length - 2)).map (embF ns))) (Ev.is (Ev.slice (by walk_at "ld") EvO.non (EvO.som (Ev.neg Ev.int)) EvO.non (SlV.list rfl (by decide) (by rw [List.length_map]; omega))) (congrArg PV.l hsl))
          (Ev.list (EvA.cons (Ev.is (Ev.comp (W := []) (cap := [("one", embF ns one), ("two", embF ns two), ("x", .i x)]) ((List.range ns.length).map fun (k : Nat) => (.i k, some (.i (if x.fmod 4 = 2 then one (ns.getD k 0) * two (ns.getD k 0) else (one (ns.getD k 0) + two (ns.getD k 0)).fmod 2)))) ?K ?l ?it ?sz ?el) (q := embF ns fun n => if x.fmod 4 = 2 then one n * two n else (one n + two n).fmod 2) ?res) EvA.nil) rfl) rfl rfl ?len
        case K => walk_at "comp0"
        case l => exact Ev.callT (by walk_at "bn") (EvA.cons (Ev.callB (by walk_at "bn") (EvA.cons (by walk_at "ld") EvA.nil) (CallV.len_l rfl (by rw [List.length_map]; omega))) EvA.nil) CallV.range1
        case it =>
          rw [List.map_map, List.length_map]
          exact Itb.range1 (by omega)
        case sz => rw [List.length_map, List.length_range]; omega
        case len => show ((φs.take _).map _).length + 1 ≤ _; rw [List.length_map, List.length_take]; omega
        case res =>
          show PV.l _ = PV.l _
          congr 1
          rw [List.filterMap_map, List.map_map]
          show (List.range ns.length).filterMap (fun k => some (PV.i (if x.fmod 4 = 2 then one (ns.getD k 0) * two (ns.getD k 0) else (one (ns.getD k 0) + two (ns.getD k 0)).fmod 2))) = _
          rw [fm_some, range_getD 0 (fun n => PV.i (if x.fmod 4 = 2 then one n * two n else (one n + two n).fmod 2))]
          rfl
        case el =>
          intro z hz D L'
          obtain ⟨k, hk, rfl⟩ := List.mem_map.mp hz
          have hk := List.mem_range.mp hk
          refine ⟨TstL.nil, fun y hy => ?_⟩
          cases hy
          refine ⟨?_, rfl⟩
          have it : ∀ (φ : Int → Int) {C : Cx} {mu : List Addr}, ItV C mu (embF ns φ) k (.i (φ (ns.getD k 0))) := fun φ => ItV.list rfl (by omega) (by omega) (by simp [hk])
          have mo : IntMulOk (one (ns.getD k 0)) (two (ns.getD k 0)) := IntMulOk.of_left (by rcases b2 (ns.getD k 0) with h | h <;> rw [h] <;> decide)
          refine Ev.ifexp (x := decide (x.fmod 4 = 2)) (Tst.is (Tst.cmp (Ev.md (by walk_at "ld") (by decide)) Ev.int CmpV.eq_i) ?_) (fun h => ?_) (fun h => ?_)
          · by_cases h : x.fmod 4 = 2
            · rw [h]; rfl
            · rw [decide_eq_false h]; simpa using h
          · rw [if_pos (of_decide_eq_true h)]
            exact Ev.bin (Ev.item (by walk_at "ld") (by walk_at "ld") (it one)) (Ev.item (by walk_at "ld") (by walk_at "ld") (it two)) (BinV.mul_i mo)
          · rw [if_neg (of_decide_eq_false h)]
            exact Ev.bin (Ev.bin (Ev.item (by walk_at "ld") (by walk_at "ld") (it one)) (Ev.item (by walk_at "ld") (by walk_at "ld") (it two)) BinV.add_i) Ev.int (BinV.fmod_i (by decide))

end
section
open  PySem.Builtin PySem.Builtin.Str
set_option maxHeartbeats 4000000
set_option linter.unusedVariables false
set_option autoImplicit false
variable {C : Cx} {env : Env} {σ : St} {mu : List Addr} {mg mb : Str → Option Value} {P : Params} {X : Fx} {Q : St → Res → Prop}
theorem Ev.callKw1 {id n : Str} {p pos : Pos} {e e2 : Expr} {kwd : Keyword} {a : Addr} {o : Obj} {fd : FuncData} {q r : PV} {b : Bool} (hf : Ev C env σ (.Name id p) (.v (.ref a))) (ho : C.g.get? a = some o) (hd : o.data = .func fd)
    (h1 : Ev C env σ e q) (h2 : Ev C env σ e2 (.b b)) (hc : CallK C σ.mu (.ref a) [(n, .bool b)] [q] r)
    (hs : backTo pos (starEach [e] env) = [(false, eval e env)] := by rfl) (hk : keywordEach [kwd] env = [(some n, eval e2 env)] := by rfl) : Ev C env σ (.Call (.Name id p) [e] [kwd] pos) r := Ev.mk fun s I F => by
  refine wpAny_Call_Name_kw (hf.use I F fun v s1 x1 I1 F1 r1 => ?_)
  rw [r1.v_inv, hs, hk]
  show wpAny C.M C.A (callWith pos (.ref a) [] [(false, eval e env)] [(some n, do let v ← eval e2 env; standAt pos; pure v)]) _ _ _
  refine callWith_function_kw (o := o) (fd := fd) (evalArgs_kw rfl (spliced_cons (h1.use I1 F1 fun v s2 x2 I2 F2 r2 => spliced_nil (wpAny_evalAll_cons (wpAny_bind (h2.use I2 F2 fun w s3 x3 I3 F3 r3 => wpAny_bind (wpAny_standAt (wpAny_pure (wpAny_evalAll_nil ?_)))))))))
  rw [r3.b_inv]
  refine ⟨⟨I3.base _ _ ho, hd⟩, ?_⟩
  exact wpAny_mono (hc.run [v] s3 I3 F3.mu (.cons (I2.rep x3 r2) .nil)) (fun v' s' z => ⟨((x1.trans x2).trans x3).trans z.1, z.2⟩) fun _ _ z => z
theorem fn_b64encode (g : Gok P C.g mg mb) (hr : Rm C 3) {b : Array UInt8} (hb : b.size ≤ 100) (h0 : (encTo (b.toList.map fun c => (c.toNat : Int)).reverse).2.1 = 0) : CallV C mu (.ref 112) [.y b] (.y (b64of (b.toList.map fun c => (c.toNat : Int)))) := by
  suffices CallK C mu (.ref 112) [] [.y b] (.y (b64of (b.toList.map fun c => (c.toNat : Int)))) from ⟨this.run⟩
  refine' CallK.fn (ns := ["s", "altchars"]) (ps := [.y b, .v .none]) (W := []) g.nl (g.X 112 _ (by walk_at "wr")) rfl (codeRec_of g.X (by walk_at "wr")) hr.room rfl (fun L s O => ?run) (by walk_at "wr") (by walk_at "wr") (by walk_at "wr") (by walk_at "wr") ?hbind ?hkind (by decide +kernel) (fun _ h => nomatch h) (by walk_at "wr") (by walk_at "wr") (by walk_at "wr")
  case hbind =>
    intro vs s I rl
    obtain ⟨v, rfl, r⟩ := rl.one
    refine ⟨[v, .none], BindsTo.of_defaults (T := 105) (by walk_at "wr") (I.base _ _ (g.X 105 _ (by walk_at "wr"))) (by walk_at "wr") (by walk_at "wr") (by walk_at "wr"), .cons r (.cons Rep.v .nil)⟩
  case hkind => exact List.forall_mem_cons.mpr ⟨Or.inl (by walk_at "wr"), List.forall_mem_cons.mpr ⟨Or.inl (by walk_at "wr"), List.forall_mem_nil _⟩⟩
  case run =>
    refine Run.cons (Exe.assign O (p := .y (b64of (b.toList.map fun c => (c.toNat : Int)))) (Or.inl (by walk_at "wr")) (Ev.callKw1 (by walk_at "gn") (by walk_at "fo") rfl (by walk_at "ld") Ev.boo (fn_b2a g.fn hr.fn hb h0)) ?_ (by walk_at "wr"))
    refine Run.ite O (b := false) (Tst.cmp (by walk_at "ld") Ev.non (CmpV.isNot_self rfl)) (fun h => nomatch h) (fun _ => Run.nil ?_)
    exact Run.cons (Exe.ret O (by walk_at "ld") (RetsP.pl rfl))

end
section
open  PySem.Builtin PySem.Builtin.Str
set_option maxHeartbeats 4000000
set_option linter.unusedVariables false
set_option autoImplicit false
variable {C : Cx} {env : Env} {σ : St} {mu : List Addr} {mg mb : Str → Option Value} {P : Params} {X : Fx} {Q : St → Res → Prop}
noncomputable def sumEv (ns : List Int) (j : Int) (k : Nat) : Int := (pickA ns (some (k : Int)) none (some j)).sum
noncomputable def numsOf (ns : List Int) : List Int := (List.range (ns.take 4).length).map (fun k => (sumEv ns 4 k).fmod 16777216) ++ [0, 16777215, 11259375, 5592405, 66051, 11259375, 8388609, 4194240]
noncomputable def deedsOf (ns : List Int) : List Int := [12, 52, 1, 2, 88, 3, 32, 1, 28, 2, 1, 2] ++ (List.range (ns.take 6).length).map (sumEv ns 6)
theorem numsOf_range (ns : List Int) : ∀ n ∈ numsOf ns, 0 ≤ n ∧ n < 16777216 := by
  intro n hn
  unfold numsOf at hn
  rcases List.mem_append.mp hn with h | h
  · obtain ⟨k, _, rfl⟩ := List.mem_map.mp h
    exact ⟨Int.fmod_nonneg_of_pos _ (by decide), Int.fmod_lt_of_pos _ (by decide)⟩
  · simp only [List.mem_cons, List.not_mem_nil, or_false] at h
    omega
theorem numsOf_len (ns : List Int) : (numsOf ns).length ≤ 12 := by
  unfold numsOf
  rw [List.length_append, List.length_map, List.length_range, List.length_take]
  show min 4 _ + 8 ≤ 12
  omega
theorem deedsOf_len (ns : List Int) : (deedsOf ns).length ≤ 18 := by
  unfold deedsOf
  rw [List.length_append, List.length_map, List.length_range, List.length_take]
  show 12 + min 6 _ ≤ 18
  omega
noncomputable def octets (n : Int) : List Int := [n.fdiv 65536, (n.fdiv 256).fmod 256, n.fmod 256]
theorem octets_range {n : Int} (h : 0 ≤ n ∧ n < 16777216) : ∀ c ∈ octets n, 0 ≤ c ∧ c < 256 := by
  intro c hc
  unfold octets at hc
  simp only [List.mem_cons, List.not_mem_nil, or_false] at hc
  rcases hc with rfl | rfl | rfl
  · rw [Int.fdiv_eq_ediv_of_nonneg _ (by decide)]; omega
  · exact ⟨Int.fmod_nonneg_of_pos _ (by decide), Int.fmod_lt_of_pos _ (by decide)⟩
  · exact ⟨Int.fmod_nonneg_of_pos _ (by decide), Int.fmod_lt_of_pos _ (by decide)⟩
theorem byteArr_back : ∀ {cs : List Int}, (∀ c ∈ cs, 0 ≤ c ∧ c < 256) → (byteArr cs).toList.map (fun c => (c.toNat : Int)) = cs
  | [], _ => rfl
  | c :: cs, h => by
    have ih := byteArr_back (cs := cs) fun d hd => h d (List.mem_cons_of_mem _ hd)
    have hc := h c List.mem_cons_self
    unfold byteArr at ih ⊢
    simp only [List.map_cons] at ih ⊢
    rw [ih]
    congr 1
    have : c.toNat.toUInt8.toNat = c.toNat := by
      rw [Nat.toUInt8, UInt8.toNat_ofNat']
      exact Nat.mod_eq_of_lt (by omega)
    rw [this]; omega
theorem wl_lb (lc : Int) (lb : Nat) (out : List Int) : (wl lc lb out).1 = lb % 6 := by
  induction lb using Nat.strongRecOn generalizing out with
  | _ lb ih =>
    rw [wl]
    by_cases h6 : 6 ≤ lb
    · rw [if_pos h6, ih (lb - 6) (by omega) _]; omega
    · rw [if_neg h6]; show lb = _; omega
theorem enc3_lb (a b c : Int) : (encTo [a, b, c]).2.1 = 0 := by
  show (wl _ ((wl _ ((wl _ (0 + 8) _).1 + 8) _).1 + 8) _).1 = 0
  rw [wl_lb, wl_lb, wl_lb]
noncomputable def rowOf (n : Int) : Array UInt8 := b64of (octets n)
theorem rowOf_size (n : Int) : (rowOf n).size ≤ 42 := by
  unfold rowOf b64of byteArr
  have := (encTo_bounds (octets n).reverse).2.2.2.2
  simp only [List.size_toArray, List.length_map]
  rw [List.length_reverse] at this
  exact this
noncomputable def textOf (n : Int) : Str := Txt.join "" ((rowOf n).toList.map fun c => ⟨#[c.toNat]⟩)
noncomputable def sel (nums : List Int) (φ : Int → Int) : List Str := (nums.filter fun n => decide (φ n = 1)).map written
noncomputable abbrev selS (nums : List Int) (φs : List (Int → Int)) : List (List Str) := φs.map (sel nums)
noncomputable abbrev emb2 (S : List (List Str)) : PV := .l (S.map embL)
noncomputable abbrev embG (nums : List Int) (φs : List (Int → Int)) : PV := .l (φs.map (embF nums))
/-- the stacks, one behind each deed -/
noncomputable def stacks (ds : List Int) : List (List (Int → Int)) := ds.foldl (fun acc x => acc ++ [toldF (acc.getD (acc.length - 1) []) x]) [[]]
theorem stacks_snoc (ds : List Int) (x : Int) : stacks (ds ++ [x]) = stacks ds ++ [toldF ((stacks ds).getD ((stacks ds).length - 1) []) x] := by
  unfold stacks; rw [List.foldl_append]; rfl
theorem stacks_len (ds : List Int) : (stacks ds).length = ds.length + 1 := by
  have : ∀ (ds : List Int) (acc : List (List (Int → Int))), (ds.foldl (fun acc x => acc ++ [toldF (acc.getD (acc.length - 1) []) x]) acc).length = acc.length + ds.length := by
    intro ds
    induction ds with
    | nil => intro acc; rfl
    | cons d ds ih =>
      intro acc
      rw [List.foldl_cons, ih, List.length_append, List.length_singleton, List.length_cons]; omega
  unfold stacks; rw [this]; simp; omega
theorem toldF_bits {φs : List (Int → Int)} {x : Int} (h : ∀ φ ∈ φs, ∀ n, φ n = 0 ∨ φ n = 1) : ∀ φ ∈ toldF φs x, ∀ n, φ n = 0 ∨ φ n = 1 := by
  intro φ hφ n
  have hg : ∀ k, φs.getD k (fun _ => 0) n = 0 ∨ φs.getD k (fun _ => 0) n = 1 := by
    intro k
    rw [List.getD_eq_getElem?_getD]
    cases e : φs[k]? with
    | none => exact Or.inl rfl
    | some ψ => exact h ψ (List.mem_of_getElem? e) n
  have h2 : ∀ z : Int, z.fmod 2 = 0 ∨ z.fmod 2 = 1 := by
    intro z
    have a := Int.fmod_nonneg_of_pos z (b := 2) (by decide)
    have b := Int.fmod_lt_of_pos z (b := 2) (by decide)
    omega
  unfold toldF at hφ
  split at hφ
  · rcases List.mem_append.mp hφ with q | q
    · exact h φ q n
    · rw [List.mem_singleton.mp q]; exact h2 _
  · split at hφ
    · rcases List.mem_append.mp hφ with q | q
      · exact h φ (List.mem_of_mem_take q) n
      · rw [List.mem_singleton.mp q]
        show 1 - _ = 0 ∨ 1 - _ = 1
        rcases hg (φs.length - 1) with e | e <;> rw [e] <;> simp
    · rcases List.mem_append.mp hφ with q | q
      · exact h φ (List.mem_of_mem_take q) n
      · rw [List.mem_singleton.mp q]
        show (if x.fmod 4 = 2 then _ else _) = 0 ∨ (if x.fmod 4 = 2 then _ else _) = 1
        split
        · rcases hg (φs.length - 2) with e | e <;> rcases hg (φs.length - 1) with e' | e' <;> rw [e, e'] <;> simp
        · exact h2 _
theorem toldF_len (φs : List (Int → Int)) (x : Int) : (toldF φs x).length ≤ φs.length + 1 := by
  unfold toldF
  split
  · rw [List.length_append, List.length_singleton]; omega
  · split
    · rw [List.length_append, List.length_singleton, List.length_take]; omega
    · rw [List.length_append, List.length_singleton, List.length_take]; omega
theorem stacks_ok (ds : List Int) : ∀ φs ∈ stacks ds, φs.length ≤ ds.length ∧ ∀ φ ∈ φs, ∀ n, φ n = 0 ∨ φ n = 1 := by
  have key : ∀ (r : List Int), ∀ φs ∈ stacks r.reverse, φs.length ≤ r.length ∧ ∀ φ ∈ φs, ∀ n, φ n = 0 ∨ φ n = 1 := by
    intro r
    induction r with
    | nil =>
      intro φs h
      have : φs = [] := by simpa [stacks] using h
      subst this
      exact ⟨Nat.le_refl _, fun _ h => nomatch h⟩
    | cons x r ih =>
      intro φs h
      rw [List.reverse_cons, stacks_snoc] at h
      rcases List.mem_append.mp h with h | h
      · have := ih φs h
        exact ⟨Nat.le_trans this.1 (Nat.le_succ _), this.2⟩
      · rw [List.mem_singleton.mp h]
        have hm : (stacks r.reverse).getD ((stacks r.reverse).length - 1) [] ∈ stacks r.reverse := by
          rw [List.getD_eq_getElem?_getD, List.getElem?_eq_getElem (by rw [stacks_len]; omega)]
          exact List.getElem_mem _
        have := ih _ hm
        exact ⟨Nat.le_trans (toldF_len _ _) (Nat.succ_le_succ this.1), toldF_bits this.2⟩
  have := key ds.reverse
  rw [List.reverse_reverse, List.length_reverse] at this
  exact this
theorem toldF_ne (φs : List (Int → Int)) (x : Int) : 0 < (toldF φs x).length := by
  unfold toldF
  split
  · rw [List.length_append, List.length_singleton]; omega
  · split
    · rw [List.length_append, List.length_singleton]; omega
    · rw [List.length_append, List.length_singleton]; omega
theorem stacks_ne (ds : List Int) : ∀ φs ∈ (stacks ds).drop 1, 0 < φs.length := by
  have key : ∀ (r : List Int), ∀ φs ∈ (stacks r.reverse).drop 1, 0 < φs.length := by
    intro r
    induction r with
    | nil => intro φs h; cases h
    | cons x r ih =>
      intro φs h
      rw [List.reverse_cons, stacks_snoc, List.drop_append_of_le_length (by rw [stacks_len]; omega)] at h
      rcases List.mem_append.mp h with h | h
      · exact ih φs h
      · rw [List.mem_singleton.mp h]; exact toldF_ne _ _
  have := key ds.reverse
  rwa [List.reverse_reverse] at this
theorem sel_len (nums : List Int) (φ : Int → Int) : (sel nums φ).length ≤ nums.length := by
  unfold sel; rw [List.length_map]; exact List.length_filter_le _ _
theorem range_getD_fm {α β : Type} (d : α) (F : α → Option β) (ns : List α) : (List.range ns.length).filterMap (fun k => F (ns.getD k d)) = ns.filterMap F := by
  have h := range_getD d id ns
  rw [List.map_id] at h
  conv => rhs; rw [← h]
  rw [List.filterMap_map]; rfl
theorem sel_fm (nums : List Int) (p : Int → Bool) : nums.filterMap (fun n => if p n = true then some (PV.s (written n)) else none) = ((nums.filter p).map written).map .s := by
  induction nums with
  | nil => rfl
  | cons n ns ih =>
    rw [List.filterMap_cons]
    cases h : p n with
    | true => rw [if_pos rfl, List.filter_cons_of_pos h, List.map_cons, List.map_cons, ih]
    | false => rw [if_neg (by simp), List.filter_cons_of_neg (by simp [h]), ih]

end
section
open  PySem.Builtin PySem.Builtin.Str
set_option linter.unusedVariables false
set_option autoImplicit false
theorem or_shift {a c : Int} (ha : 0 ≤ a) (hc : 0 ≤ c) (h : c < 256) : Builtin.bitOr (a * 2 ^ 8) c = a * 256 + c := by
  have e : (2 : Int) ^ 8 = 256 := by decide
  rw [e, bitOr_and, bitAnd_pp (by omega) hc]
  have h1 : (a * 256).toNat = 2 ^ 8 * a.toNat := by omega
  rw [h1]
  have h2 := Nat.two_pow_add_eq_or_of_lt (i := 8) (b := c.toNat) (by omega) a.toNat
  have h3 := nat_or_add_and (2 ^ 8 * a.toNat) c.toNat
  have h4 : 2 ^ 8 * a.toNat &&& c.toNat = 0 := by omega
  rw [h4]; simp
theorem join_ones : ∀ (l : List Nat), Txt.join "" (l.map fun c => (⟨#[c]⟩ : Str)) = ⟨l.toArray⟩
  | [] => rfl
  | c :: l => by
    show (⟨(((c :: l).map fun c => (⟨#[c]⟩ : Str)).drop 1).foldl (fun acc p => acc ++ (Str.ofString "").cps ++ p.cps) #[c]⟩ : Str) = _
    have key : ∀ (l : List Nat) (acc : Array Nat), (l.map fun c => (⟨#[c]⟩ : Str)).foldl (fun acc p => acc ++ (Str.ofString "").cps ++ p.cps) acc = acc ++ l.toArray := by
      intro l
      induction l with
      | nil => intro acc; simp
      | cons d l ih =>
        intro acc
        rw [List.map_cons, List.foldl_cons, ih]
        have : (Str.ofString "").cps = #[] := by decide +kernel
        rw [this]
        simp
    rw [List.map_cons, List.drop_one, List.tail_cons, key]
    simp
theorem item_sgc : ∀ d : Fin 64, Txt.item alphabet ((d.val : Nat) : Int) = ⟨#[(sgc (d.val : Int)).toNat]⟩ := by decide +kernel
theorem item_sgc' {d : Int} (h0 : 0 ≤ d) (h1 : d < 64) : Txt.item alphabet d = ⟨#[(sgc d).toNat]⟩ := by
  have := item_sgc ⟨d.toNat, by omega⟩
  have e : ((d.toNat : Nat) : Int) = d := by omega
  rwa [e] at this
theorem sgc_u8 (d : Int) : (sgc d).toNat.toUInt8.toNat = (sgc d).toNat := by
  have := sgc_lt d
  rw [Nat.toUInt8, UInt8.toNat_ofNat']
  exact Nat.mod_eq_of_lt (by omega)
/-- the four sextets -/
noncomputable def digs (n : Int) : List Int := [n / 262144 % 64, n / 4096 % 64, n / 64 % 64, n % 64]
theorem lcStep_eq {lc c : Int} (h0 : 0 ≤ lc) (h1 : 0 ≤ c) (h2 : c < 256) : lcStep lc c = (lc * 256 + c) % 65536 := by
  unfold lcStep; rw [or_shift h0 h1 h2]
theorem fdiv_pow (x : Int) (k : Nat) : x.fdiv (2 ^ k) = x / 2 ^ k := Int.fdiv_eq_ediv_of_nonneg _ (by
  have := Int.pow_pos (n := 2) (m := k) (by decide); omega)
theorem enc_octets {n : Int} (h : 0 ≤ n ∧ n < 16777216) : (encTo (octets n).reverse).2.2 = (digs n).map sgc := by
  have ho : octets n = [n / 65536, n / 256 % 256, n % 256] := by
    unfold octets
    rw [Int.fdiv_eq_ediv_of_nonneg _ (by decide), Int.fdiv_eq_ediv_of_nonneg _ (by decide), Int.fmod_eq_emod_of_nonneg _ (by decide), Int.fmod_eq_emod_of_nonneg _ (by decide)]
  rw [ho]
  show (wl (lcStep (lcStep (lcStep 0 (n / 65536)) (n / 256 % 256)) (n % 256)) ((wl (lcStep (lcStep 0 (n / 65536)) (n / 256 % 256)) ((wl (lcStep 0 (n / 65536)) (0 + 8) []).1 + 8) (wl (lcStep 0 (n / 65536)) (0 + 8) []).2).1 + 8) (wl (lcStep (lcStep 0 (n / 65536)) (n / 256 % 256)) ((wl (lcStep 0 (n / 65536)) (0 + 8) []).1 + 8) (wl (lcStep 0 (n / 65536)) (0 + 8) []).2).2).2 = _
  have e1 : lcStep 0 (n / 65536) = n / 65536 := by rw [lcStep_eq (by omega) (by omega) (by omega)]; omega
  rw [e1]
  have w1 : ∀ lc : Int, wl lc (0 + 8) [] = (2, [sgc (lc.fdiv (2 ^ 2) % 64)]) := by
    intro lc; rw [wl, if_pos (by omega), wl, if_neg (by omega)]; rfl
  rw [w1]
  show (wl (lcStep (lcStep (n / 65536) (n / 256 % 256)) (n % 256)) ((wl (lcStep (n / 65536) (n / 256 % 256)) 10 [sgc ((n / 65536).fdiv (2 ^ 2) % 64)]).1 + 8) (wl (lcStep (n / 65536) (n / 256 % 256)) 10 [sgc ((n / 65536).fdiv (2 ^ 2) % 64)]).2).2 = _
  have e2 : lcStep (n / 65536) (n / 256 % 256) = n / 256 := by rw [lcStep_eq (by omega) (by omega) (by omega)]; omega
  rw [e2]
  have w2 : ∀ (lc : Int) (out : List Int), wl lc 10 out = (4, out ++ [sgc (lc.fdiv (2 ^ 4) % 64)]) := by
    intro lc out; rw [wl, if_pos (by omega), wl, if_neg (by omega)]
  rw [w2]
  show (wl (lcStep (n / 256) (n % 256)) 12 ([sgc ((n / 65536).fdiv (2 ^ 2) % 64)] ++ [sgc ((n / 256).fdiv (2 ^ 4) % 64)])).2 = _
  have e3 : lcStep (n / 256) (n % 256) = n % 65536 := by rw [lcStep_eq (by omega) (by omega) (by omega)]; omega
  rw [e3]
  have w3 : ∀ (lc : Int) (out : List Int), wl lc 12 out = (0, out ++ [sgc (lc.fdiv (2 ^ 6) % 64)] ++ [sgc (lc.fdiv (2 ^ 0) % 64)]) := by
    intro lc out; rw [wl, if_pos (by omega), wl, if_pos (by omega), wl, if_neg (by omega)]
  rw [w3]
  simp only [fdiv_pow]
  unfold digs
  have p2 : (2 : Int) ^ 2 = 4 := by decide
  have p4 : (2 : Int) ^ 4 = 16 := by decide
  have p6 : (2 : Int) ^ 6 = 64 := by decide
  have p0 : (2 : Int) ^ 0 = 1 := by decide
  rw [p2, p4, p6, p0]
  have q1 : n / 65536 / 4 % 64 = n / 262144 % 64 := by omega
  have q2 : n / 256 / 16 % 64 = n / 4096 % 64 := by omega
  have q3 : n % 65536 / 64 % 64 = n / 64 % 64 := by omega
  have q4 : n % 65536 / 1 % 64 = n % 64 := by omega
  rw [q1, q2, q3, q4]
  rfl
theorem written_eq (n : Int) : written n = ⟨((digs n).map fun d => (sgc d).toNat).toArray⟩ := by
  have p : ∀ d : Int, 0 ≤ d % 64 ∧ d % 64 < 64 := fun d => by omega
  have e3 : (n.fdiv (64 ^ (3 : Int).toNat)).fmod 64 = n / 262144 % 64 := by
    rw [Int.fmod_eq_emod_of_nonneg _ (by decide), Int.fdiv_eq_ediv_of_nonneg _ (by decide)]; rfl
  have e2 : (n.fdiv (64 ^ (2 : Int).toNat)).fmod 64 = n / 4096 % 64 := by
    rw [Int.fmod_eq_emod_of_nonneg _ (by decide), Int.fdiv_eq_ediv_of_nonneg _ (by decide)]; rfl
  have e1 : (n.fdiv (64 ^ (1 : Int).toNat)).fmod 64 = n / 64 % 64 := by
    rw [Int.fmod_eq_emod_of_nonneg _ (by decide), Int.fdiv_eq_ediv_of_nonneg _ (by decide)]; rfl
  have e0 : (n.fdiv (64 ^ (0 : Int).toNat)).fmod 64 = n % 64 := by
    rw [Int.fmod_eq_emod_of_nonneg _ (by decide), Int.fdiv_eq_ediv_of_nonneg _ (by decide)]
    show n / 1 % 64 = _
    rw [Int.ediv_one]
  unfold written
  simp only [List.map_cons, List.map_nil]
  rw [e3, e2, e1, e0, item_sgc' (p _).1 (p _).2, item_sgc' (p _).1 (p _).2, item_sgc' (p _).1 (p _).2, item_sgc' (p _).1 (p _).2]
  exact join_ones ((digs n).map fun d => (sgc d).toNat)
theorem written_len' (n : Int) : (written n).length = 4 := by rw [written_eq]; rfl
theorem text_written' {n : Int} (h : 0 ≤ n ∧ n < 16777216) : textOf n = written n := by
  rw [written_eq]
  unfold textOf rowOf b64of
  rw [enc_octets h]
  have : (byteArr ((digs n).map sgc)).toList.map (fun c => (⟨#[c.toNat]⟩ : Str)) = ((digs n).map fun d => (sgc d).toNat).map fun c => (⟨#[c]⟩ : Str) := by
    unfold byteArr
    simp only [List.map_map]
    refine List.map_congr_left fun d _ => ?_
    show (⟨#[(sgc d).toNat.toUInt8.toNat]⟩ : Str) = ⟨#[(sgc d).toNat]⟩
    rw [sgc_u8]
  rw [this, join_ones]
theorem sgc_inj : ∀ a b : Fin 64, (sgc (a.val : Int)).toNat = (sgc (b.val : Int)).toNat → a = b := by decide +kernel
theorem sgc_inj' {a b : Int} (a0 : 0 ≤ a) (a1 : a < 64) (b0 : 0 ≤ b) (b1 : b < 64) (h : (sgc a).toNat = (sgc b).toNat) : a = b := by
  have ea : ((a.toNat : Nat) : Int) = a := by omega
  have eb : ((b.toNat : Nat) : Int) = b := by omega
  have := sgc_inj ⟨a.toNat, by omega⟩ ⟨b.toNat, by omega⟩ (by show (sgc ((a.toNat : Nat) : Int)).toNat = (sgc ((b.toNat : Nat) : Int)).toNat; rw [ea, eb]; exact h)
  have := congrArg Fin.val this
  have this : a.toNat = b.toNat := this
  omega
theorem written_inj {n m : Int} (hn : 0 ≤ n ∧ n < 16777216) (hm : 0 ≤ m ∧ m < 16777216) (h : written n = written m) : n = m := by
  rw [written_eq, written_eq] at h
  have h := congrArg (fun x : Str => x.cps.toList) h
  simp only [digs, List.map_cons, List.map_nil, List.cons.injEq, and_true] at h
  obtain ⟨h3, h2, h1, h0⟩ := h
  have q3 := sgc_inj' (by omega) (by omega) (by omega) (by omega) h3
  have q2 := sgc_inj' (by omega) (by omega) (by omega) (by omega) h2
  have q1 := sgc_inj' (by omega) (by omega) (by omega) (by omega) h1
  have q0 := sgc_inj' (by omega) (by omega) (by omega) (by omega) h0
  omega

end
section
open  PySem.Builtin PySem.Builtin.Str
set_option linter.unusedVariables false
set_option autoImplicit false
section
variable {nums : List Int} (hn : ∀ n ∈ nums, 0 ≤ n ∧ n < 16777216)
noncomputable def selP (nums : List Int) (p : Int → Bool) : List Str := (nums.filter p).map written
theorem sel_selP (nums : List Int) (φ : Int → Int) : sel nums φ = selP nums fun n => decide (φ n = 1) := rfl
theorem all_selP (nums : List Int) : nums.map written = selP nums fun _ => true := by
  unfold selP; rw [List.filter_eq_self.mpr (fun _ _ => rfl)]
theorem selP_congr {nums : List Int} {p q : Int → Bool} (h : ∀ n ∈ nums, p n = q n) : selP nums p = selP nums q := by
  unfold selP
  congr 1
  exact List.filter_congr h
include hn
theorem mem_selP {p : Int → Bool} {n : Int} (h : n ∈ nums) : written n ∈ selP nums p ↔ p n = true := by
  unfold selP
  constructor
  · intro hm
    obtain ⟨m, hm, e⟩ := List.mem_map.mp hm
    obtain ⟨hm1, hm2⟩ := List.mem_filter.mp hm
    have := written_inj (hn m hm1) (hn n h) e
    exact this ▸ hm2
  · intro hp
    exact List.mem_map.mpr ⟨n, List.mem_filter.mpr ⟨h, hp⟩, rfl⟩
theorem outP (p : Int → Bool) (ys : List Str) (q : Int → Bool) (hq : ∀ n ∈ nums, (written n ∈ ys ↔ q n = true)) : outL (selP nums p) ys = selP nums fun n => p n && !q n := by
  unfold outL selP
  rw [List.filter_map, List.filter_filter]
  congr 1
  refine List.filter_congr fun n h => ?_
  show (decide (written n ∉ ys) && p n) = (p n && !q n)
  have := hq n h
  rw [Bool.and_comm]
  congr 1
  cases hc : q n with
  | true => rw [decide_eq_false]; rfl; exact fun z => z (this.mpr hc)
  | false => rw [decide_eq_true]; rfl; exact fun z => by rw [this.mp z] at hc; cases hc
theorem out_sel (p q : Int → Bool) : outL (selP nums p) (selP nums q) = selP nums fun n => p n && !q n := outP hn p _ q fun n h => mem_selP hn h
theorem out_all (q : Int → Bool) : outL (nums.map written) (selP nums q) = selP nums fun n => !q n := by
  rw [all_selP, out_sel hn]
  exact selP_congr fun n _ => Bool.true_and _
theorem and_all (p q : Int → Bool) : andL (nums.map written) (selP nums p) (selP nums q) = selP nums fun n => p n && q n := by
  unfold andL
  rw [out_all hn, out_all hn, all_selP, outP hn _ _ fun n => !p n || !q n]
  · refine selP_congr fun n _ => ?_
    cases p n <;> cases q n <;> rfl
  · intro n h
    rw [List.mem_append, mem_selP hn h, mem_selP hn h, Bool.or_eq_true]
theorem any_step (p q : Int → Bool) : anyStep (nums.map written) (selP nums p) (selP nums q) = selP nums fun n => p n || q n := by
  unfold anyStep
  rw [out_all hn, out_sel hn, out_all hn]
  refine selP_congr fun n _ => ?_
  cases p n <;> cases q n <;> rfl
theorem any_fold : ∀ (qs : List (Int → Bool)) (p : Int → Bool), (qs.map (selP nums)).foldl (anyStep (nums.map written)) (selP nums p) = selP nums fun n => p n || qs.any fun q => q n
  | [], p => selP_congr fun n _ => by simp
  | q :: qs, p => by
    rw [List.map_cons, List.foldl_cons, any_step hn, any_fold qs]
    refine selP_congr fun n _ => ?_
    rw [List.any_cons, Bool.or_assoc]
theorem any_all (qs : List (Int → Bool)) : anyL (nums.map written) (qs.map (selP nums)) = selP nums fun n => qs.any fun q => q n := by
  unfold anyL
  have h0 : ([] : List Str) = selP nums fun _ => false := by unfold selP; simp
  rw [h0, any_fold hn]
  exact selP_congr fun n _ => Bool.false_or _
theorem any_told' (φs : List (Int → Int)) : anyL (nums.map written) (selS nums φs) = (nums.filter fun n => decide (1 ∈ φs.map (· n))).map written := by
  have : selS nums φs = (φs.map fun φ => fun n => decide (φ n = 1)).map (selP nums) := by
    rw [List.map_map]; rfl
  rw [this, any_all hn]
  refine selP_congr fun n _ => ?_
  rw [Bool.eq_iff_iff, List.any_eq_true, decide_eq_true_iff]
  constructor
  · rintro ⟨q, hq, e⟩
    obtain ⟨φ, hφ, rfl⟩ := List.mem_map.mp hq
    exact List.mem_map.mpr ⟨φ, hφ, of_decide_eq_true e⟩
  · intro h
    obtain ⟨φ, hφ, e⟩ := List.mem_map.mp h
    exact ⟨_, List.mem_map.mpr ⟨φ, hφ, rfl⟩, decide_eq_true e⟩
end
/-! ### a question's answer -/
theorem set_ok6 : ∀ (p : Fin 6) (d : Fin 64), inS (sT p.val) ⟨#[(sgc (d.val : Int)).toNat]⟩ = decide ((d.val : Int) / 2 ^ p.val % 2 = 1) := by decide +kernel
theorem set_ok (p : Fin 6) (d : Fin 64) : inS (signs (2 ^ p.val) (32 / 2 ^ p.val)) ⟨#[(sgc (d.val : Int)).toNat]⟩ = decide ((d.val : Int) / 2 ^ p.val % 2 = 1) := by
  rw [sT_is]
  exact set_ok6 p d
theorem set_ok' {p : Nat} (hp : p < 6) {d : Int} (h0 : 0 ≤ d) (h1 : d < 64) : inS (signs (2 ^ p) (32 / 2 ^ p)) ⟨#[(sgc d).toNat]⟩ = decide (d / 2 ^ p % 2 = 1) := by
  have := set_ok ⟨p, hp⟩ ⟨d.toNat, by omega⟩
  have e : ((d.toNat : Nat) : Int) = d := by omega
  simp only [e] at this
  exact this
theorem item_written (n : Int) (a : Nat) (ha : a < 4) : Txt.item (written n) (a : Int) = ⟨#[(sgc ((digs n).getD a 0)).toNat]⟩ := by
  rw [written_eq]
  have : a = 0 ∨ a = 1 ∨ a = 2 ∨ a = 3 := by omega
  rcases this with rfl | rfl | rfl | rfl <;> rfl
theorem ans_bit {n : Int} (hn : 0 ≤ n ∧ n < 16777216) {b : Int} (h0 : 0 ≤ b) (h1 : b < 24) :
    inS (signs (2 ^ (b.fmod 6).toNat) (32 / 2 ^ (b.fmod 6).toNat)) (Txt.item (written n) (3 - b.fdiv 6)) = decide ((n.fdiv (2 ^ b.toNat)).fmod 2 = 1) := by
  rw [Int.fmod_eq_emod_of_nonneg _ (by decide), Int.fdiv_eq_ediv_of_nonneg _ (by decide)]
  have hq : 0 ≤ b / 6 ∧ b / 6 ≤ 3 := by omega
  have ha : 3 - b / 6 = (((3 - b / 6).toNat : Nat) : Int) := by omega
  rw [ha, item_written n _ (by omega)]
  have hd : ∀ a < 4, 0 ≤ (digs n).getD a 0 ∧ (digs n).getD a 0 < 64 := by
    intro a ha
    have : a = 0 ∨ a = 1 ∨ a = 2 ∨ a = 3 := by omega
    rcases this with rfl | rfl | rfl | rfl <;> (show 0 ≤ _ % 64 ∧ _ % 64 < (64 : Int); omega)
  obtain ⟨d0, d1⟩ := hd (3 - b / 6).toNat (by omega)
  rw [set_ok' (by omega) d0 d1]
  congr 1
  rw [fdiv_pow, Int.fmod_eq_emod_of_nonneg _ (by decide)]
  have key : (digs n).getD (3 - b / 6).toNat 0 / 2 ^ (b % 6).toNat % 2 = n / 2 ^ b.toNat % 2 := by
    have : b = 0 ∨ b = 1 ∨ b = 2 ∨ b = 3 ∨ b = 4 ∨ b = 5 ∨ b = 6 ∨ b = 7 ∨ b = 8 ∨ b = 9 ∨ b = 10 ∨ b = 11 ∨ b = 12 ∨ b = 13 ∨ b = 14 ∨ b = 15 ∨ b = 16 ∨ b = 17 ∨ b = 18 ∨ b = 19 ∨ b = 20 ∨ b = 21 ∨ b = 22 ∨ b = 23 := by omega
    have g0 : (digs n).getD 0 0 = n / 262144 % 64 := rfl
    have g1 : (digs n).getD 1 0 = n / 4096 % 64 := rfl
    have g2 : (digs n).getD 2 0 = n / 64 % 64 := rfl
    have g3 : (digs n).getD 3 0 = n % 64 := rfl
    rcases this with rfl | rfl | rfl | rfl | rfl | rfl | rfl | rfl | rfl | rfl | rfl | rfl | rfl | rfl | rfl | rfl | rfl | rfl | rfl | rfl | rfl | rfl | rfl | rfl <;>
      simp only [show (3 - (0 : Int) / 6).toNat = 3 from rfl, show (3 - (1 : Int) / 6).toNat = 3 from rfl, show (3 - (2 : Int) / 6).toNat = 3 from rfl, show (3 - (3 : Int) / 6).toNat = 3 from rfl, show (3 - (4 : Int) / 6).toNat = 3 from rfl, show (3 - (5 : Int) / 6).toNat = 3 from rfl,
        show (3 - (6 : Int) / 6).toNat = 2 from rfl, show (3 - (7 : Int) / 6).toNat = 2 from rfl, show (3 - (8 : Int) / 6).toNat = 2 from rfl, show (3 - (9 : Int) / 6).toNat = 2 from rfl, show (3 - (10 : Int) / 6).toNat = 2 from rfl, show (3 - (11 : Int) / 6).toNat = 2 from rfl,
        show (3 - (12 : Int) / 6).toNat = 1 from rfl, show (3 - (13 : Int) / 6).toNat = 1 from rfl, show (3 - (14 : Int) / 6).toNat = 1 from rfl, show (3 - (15 : Int) / 6).toNat = 1 from rfl, show (3 - (16 : Int) / 6).toNat = 1 from rfl, show (3 - (17 : Int) / 6).toNat = 1 from rfl,
        show (3 - (18 : Int) / 6).toNat = 0 from rfl, show (3 - (19 : Int) / 6).toNat = 0 from rfl, show (3 - (20 : Int) / 6).toNat = 0 from rfl, show (3 - (21 : Int) / 6).toNat = 0 from rfl, show (3 - (22 : Int) / 6).toNat = 0 from rfl, show (3 - (23 : Int) / 6).toNat = 0 from rfl, g0, g1, g2, g3] <;>
      simp <;> omega
  rw [key]
theorem ans_sel {nums : List Int} (hn : ∀ n ∈ nums, 0 ≤ n ∧ n < 16777216) {b : Int} (h0 : 0 ≤ b) (h1 : b < 24) : ansL (nums.map written) b = sel nums fun n => (n.fdiv (2 ^ b.toNat)).fmod 2 := by
  unfold ansL sel
  rw [List.filter_map]
  congr 1
  exact List.filter_congr fun n h => ans_bit (hn n h) h0 h1

end
section
open  PySem.Builtin PySem.Builtin.Str
set_option linter.unusedVariables false
set_option autoImplicit false
theorem getD_sel {nums : List Int} {φs : List (Int → Int)} {k : Nat} (h : k < φs.length) : (selS nums φs).getD k [] = sel nums (φs.getD k fun _ => 0) := by
  rw [List.getD_eq_getElem?_getD, List.getD_eq_getElem?_getD, List.getElem?_map, List.getElem?_eq_getElem h]; rfl
theorem selS_nil {nums : List Int} {φs : List (Int → Int)} : selS nums φs = [] ↔ φs.length = 0 := by
  rw [List.map_eq_nil_iff, List.length_eq_zero_iff]
theorem selS_snoc {nums : List Int} (φs : List (Int → Int)) (k : Nat) (φ : Int → Int) : selS nums (φs.take k ++ [φ]) = (selS nums φs).take k ++ [sel nums φ] := by
  show (φs.take k ++ [φ]).map (sel nums) = (φs.map (sel nums)).take k ++ [sel nums φ]
  rw [List.map_append, List.map_take]; rfl
theorem done_told' {nums : List Int} (hn : ∀ n ∈ nums, 0 ≤ n ∧ n < 16777216) {φs : List (Int → Int)} (hb : ∀ φ ∈ φs, ∀ n, φ n = 0 ∨ φ n = 1) (x : Int) : doneL (nums.map written) (selS nums φs) x = selS nums (toldF φs x) := by
  have hq0 := Int.fmod_nonneg_of_pos (x.fdiv 4) (b := 24) (by decide)
  have hq1 := Int.fmod_lt_of_pos (x.fdiv 4) (b := 24) (by decide)
  have hm0 := Int.fmod_nonneg_of_pos x (b := 4) (by decide)
  have hg : ∀ k n, φs.getD k (fun _ => 0) n = 0 ∨ φs.getD k (fun _ => 0) n = 1 := by
    intro k n
    rw [List.getD_eq_getElem?_getD]
    cases e : φs[k]? with
    | none => exact Or.inl rfl
    | some ψ => exact hb ψ (List.mem_of_getElem? e) n
  have hl : (selS nums φs).length = φs.length := List.length_map _
  unfold doneL toldF
  rw [hl]
  by_cases hc : x.fmod 4 = 0 ∨ φs.length = 0 ∨ (1 < x.fmod 4 ∧ φs.length < 2)
  · have hc' : x.fmod 4 = 0 ∨ selS nums φs = [] ∨ (1 < x.fmod 4 ∧ φs.length < 2) := by
      rcases hc with h | h | h
      · exact Or.inl h
      · exact Or.inr (Or.inl (selS_nil.mpr h))
      · exact Or.inr (Or.inr h)
    rw [if_pos hc', if_pos hc, ans_sel hn hq0 hq1]
    show _ = (φs ++ [_]).map (sel nums)
    rw [List.map_append]; rfl
  · have hc' : ¬ (x.fmod 4 = 0 ∨ selS nums φs = [] ∨ (1 < x.fmod 4 ∧ φs.length < 2)) := by
      intro h
      apply hc
      rcases h with h | h | h
      · exact Or.inl h
      · exact Or.inr (Or.inl (selS_nil.mp h))
      · exact Or.inr (Or.inr h)
    rw [if_neg hc', if_neg hc]
    have hp : 0 < φs.length := by
      rcases Nat.eq_zero_or_pos φs.length with h | h
      · exact absurd (Or.inr (Or.inl h)) hc
      · exact h
    by_cases h1 : x.fmod 4 = 1
    · rw [if_pos h1, if_pos h1, selS_snoc, getD_sel (by omega)]
      congr 2
      rw [sel_selP, out_all hn, sel_selP]
      refine selP_congr fun n _ => ?_
      rcases hg (φs.length - 1) n with e | e <;> rw [e] <;> rfl
    · rw [if_neg h1, if_neg h1]
      have h2 : 2 ≤ φs.length := by
        rcases Nat.lt_or_ge φs.length 2 with h | h
        · exact absurd (Or.inr (Or.inr ⟨by
            have : x.fmod 4 ≠ 0 := fun q => hc (Or.inl q)
            omega, h⟩)) hc
        · exact h
      rw [selS_snoc, getD_sel (by omega), getD_sel (by omega)]
      generalize hone : φs.getD (φs.length - 2) (fun _ => 0) = one at *
      generalize htwo : φs.getD (φs.length - 1) (fun _ => 0) = two at *
      have o1 := hg (φs.length - 2)
      have o2 := hg (φs.length - 1)
      rw [hone] at o1
      rw [htwo] at o2
      by_cases h3 : x.fmod 4 = 2
      · rw [if_pos h3]
        congr 2
        rw [sel_selP, sel_selP, and_all hn, sel_selP]
        refine selP_congr fun n _ => ?_
        rw [if_pos h3]
        rcases o1 n with e | e <;> rcases o2 n with e' | e' <;> rw [e, e'] <;> rfl
      · rw [if_neg h3]
        congr 2
        rw [sel_selP, sel_selP, out_all hn, out_all hn, and_all hn, and_all hn]
        have := any_all hn [fun n => decide (one n = 1) && !decide (two n = 1), fun n => (!decide (one n = 1)) && decide (two n = 1)]
        simp only [List.map_cons, List.map_nil] at this
        rw [this, sel_selP]
        refine selP_congr fun n _ => ?_
        rw [if_neg h3]
        rcases o1 n with e | e <;> rcases o2 n with e' | e' <;> simp only [List.any_cons, List.any_nil] <;> rw [e, e'] <;> rfl

end
section
open  PySem.Builtin PySem.Builtin.Str
set_option maxHeartbeats 4000000
set_option linter.unusedVariables false
set_option autoImplicit false
variable {C : Cx} {env : Env} {σ : St} {mu : List Addr} {mg mb : Str → Option Value} {P : Params} {X : Fx} {Q : St → Res → Prop}
theorem fn_law (g : Gok P C.g mg mb) (hr : Rm C 14) {p : PV} {ns : List Int} (e0 : p.lst? = some (ns.map .i)) (hns : ns.length ≤ 100) : CallV C mu (.ref 215) [p] (.b true) := by
  refine' CallV.fk (ns := ["script"]) (W := ["texts", "due"]) g (by walk_at "wr") (by walk_at "wr") (by walk_at "wr") ?room rfl (by walk_at "wr") (by walk_at "wr") (by walk_at "wr") ?hbind ?hkind ?hnd ?hW (by walk_at "wr") (by walk_at "wr") (by walk_at "wr") fun L s O => ?run
  case room => exact hr.room
  case hbind =>
    intro vs h
    match vs, h with
    | [v0], _ => walk_at "wr"
  case hkind => exact List.forall_mem_cons.mpr ⟨Or.inr ⟨by walk_at "wr", fun _ => by walk_at "wr"⟩, List.forall_mem_nil _⟩
  case hnd => decide +kernel
  case hW => exact List.forall_mem_cons.mpr ⟨⟨by walk_at "wr", fun L => ⟨L + 2, (by show L < L + 2; omega), by walk_at "wr"⟩⟩, List.forall_mem_cons.mpr ⟨⟨by walk_at "wr", fun L => ⟨L + 3, (by show L < L + 3; omega), by walk_at "wr"⟩⟩, List.forall_mem_nil _⟩⟩
  case run =>
    have sl' := sizeL
    have hu := hr.u
    have hN := numsOf_range ns
    have hNl := numsOf_len ns
    have hDl := deedsOf_len ns
    have hd := stacks_ok (deedsOf ns)
    -- numbers
    refine Run.cons (Exe.assign O (p := embI (numsOf ns)) (Or.inl (by walk_at "wr")) ?s1 ?_ (by walk_at "wr"))
    case s1 =>
      refine' Ev.is (Ev.addl (Ev.comp (W := []) (cap := [("script", p)]) ((List.range (ns.take 4).length).map fun (k : Nat) => (.i k, some (.i ((sumEv ns 4 k).fmod 16777216)))) ?K_a ?l_a ?it_a ?sz_a ?el_a) (Ev.list (EvA.cons Ev.int (EvA.cons Ev.int (EvA.cons Ev.int (EvA.cons Ev.int (EvA.cons Ev.int (EvA.cons Ev.int (EvA.cons Ev.int (EvA.cons Ev.int EvA.nil)))))))) rfl) rfl rfl ?len_a) ?res_a
      case K_a => walk_at "comp0"
      case l_a =>
        refine' Ev.callT (by walk_at "bn") (EvA.cons (Ev.callB (by walk_at "bn") (EvA.cons (Ev.slice (by walk_at "ld") EvO.non (EvO.som Ev.int) EvO.non (SlV.list e0 (by decide) (by rw [List.length_map]; omega))) EvA.nil) (CallV.len_l (xs := (ns.take 4).map .i) ?q_a ?q2_a)) EvA.nil) CallV.range1
        case q_a =>
          show some (pick _ none (some 4) none) = _
          rw [show (4 : Int) = ((4 : Nat) : Int) from rfl, pick_to, List.map_take]
        case q2_a => rw [List.length_map, List.length_take]; omega
      case it_a =>
        rw [List.map_map, List.length_map]
        exact Itb.range1 (by rw [List.length_take]; omega)
      case sz_a => rw [List.length_map, List.length_range, List.length_take]; omega
      case len_a =>
        rw [List.filterMap_map]
        have := List.length_filterMap_le ((fun x : PV × Option PV => x.snd) ∘ fun (k : Nat) => (PV.i (k : Int), some (PV.i ((sumEv ns 4 k).fmod 16777216)))) (List.range (ns.take 4).length)
        rw [List.length_range] at this
        have h4 := List.length_take_le 4 ns
        refine Nat.le_trans (Nat.add_le_add_right this 8) ?_
        omega
      case res_a =>
        show PV.l _ = PV.l _
        congr 1
        unfold numsOf
        rw [List.map_append, List.filterMap_map, List.map_map]
        congr 1
        exact fm_some (fun k : Nat => PV.i ((sumEv ns 4 k).fmod 16777216)) _
      case el_a =>
        intro z hz D L'
        obtain ⟨k, hk, rfl⟩ := List.mem_map.mp hz
        refine ⟨TstL.nil, fun y hy => ?_⟩
        cases hy
        refine ⟨?_, rfl⟩
        refine Ev.is (Ev.bin (Ev.callB (by walk_at "bn") (EvA.cons (Ev.slice (by walk_at "ld") (EvO.som (by walk_at "ld")) EvO.non (EvO.som Ev.int) (SlV.list e0 (by decide) (by rw [List.length_map]; omega))) EvA.nil) (CallV.sum (ns := pickA ns (some (k : Int)) none (some 4)) ?_)) (Ev.bin Ev.int Ev.int (BinV.pow_i (by decide) (by decide) (by decide))) (BinV.fmod_i (by decide))) rfl
        show some (pick _ _ _ _) = _
        rw [pick_map]
    -- written
    have hoct : ∀ n ∈ numsOf ns, ((byteArr (octets n)).toList.map fun c => (c.toNat : Int)) = octets n := fun n hn => byteArr_back (octets_range (hN n hn))
    refine' Run.cons (Exe.assignComp O (W := []) (cap := []) (p := embI (numsOf ns)) ((numsOf ns).map fun n => (.i n, some (.y (rowOf n)))) (Or.inl (by walk_at "wr")) ?K2 (by walk_at "ld") ?it2 ?sz2 ?el2 ?_ (by walk_at "wr"))
    case K2 => walk_at "comp0"
    case it2 =>
      rw [List.map_map]
      exact Itb.list rfl
    case sz2 => rw [List.length_map]; omega
    case el2 =>
      intro z hz D L'
      obtain ⟨n, hn, rfl⟩ := List.mem_map.mp hz
      refine ⟨TstL.nil, fun y hy => ?_⟩
      cases hy
      refine ⟨?_, rfl⟩
      have ho := hoct n hn
      have hb : ∀ {C' : Cx} {mu' : List Addr} (g' : Gok P C'.g mg mb) (hr' : Rm C' 3), CallV C' mu' (.ref 112) [.y (byteArr (octets n))] (.y (rowOf n)) := by
        intro C' mu' g' hr'
        have := fn_b64encode (mu := mu') g' hr' (b := byteArr (octets n)) (by simp [byteArr, octets]) (by rw [ho]; exact enc3_lb _ _ _)
        rw [ho] at this
        exact this
      refine Ev.callF (by walk_at "gn") (by walk_at "fo") rfl (EvA.cons (Ev.callT (by walk_at "bn") (EvA.cons (Ev.list (EvA.cons (Ev.bin (by walk_at "ld") Ev.int (BinV.fdiv_i (by decide) (noPylong_lt (by decide)))) (EvA.cons (Ev.bin (Ev.bin (by walk_at "ld") Ev.int (BinV.fdiv_i (by decide) (noPylong_lt (by decide)))) Ev.int (BinV.fmod_i (by decide))) (EvA.cons (Ev.bin (by walk_at "ld") Ev.int (BinV.fmod_i (by decide))) EvA.nil))) rfl) EvA.nil) (CallV.bytes (ns := octets n) rfl (octets_range (hN n hn)) (by show 3 ≤ _; omega))) EvA.nil) (hb g.fn (hr.fn (n := 13) |>.le (by omega)))
    have hwr : ((numsOf ns).map fun n => (PV.i n, some (PV.y (rowOf n)))).filterMap (·.2) = (numsOf ns).map fun n => PV.y (rowOf n) := by
      rw [List.filterMap_map]; exact fm_some (fun n => PV.y (rowOf n)) _
    rw [hwr]
    -- texts
    generalize hnums : numsOf ns = nums at *
    refine' Run.cons (Exe.own O (xs := sl (nums.map written)) (Or.inr (List.Mem.head _)) ?s3 (fun aT haT => ?_) (by walk_at "wr"))
    case s3 =>
      refine' EvF.is (EvF.comp (W := []) (cap := []) (p := .l (nums.map fun n => PV.y (rowOf n))) (nums.map fun n => (.y (rowOf n), some (.s (textOf n)))) ?K_b ?l_b ?it_b ?sz_b ?el_b) ?res_b
      case K_b => walk_at "comp0"
      case l_b => walk_at "ld"
      case it_b =>
        rw [List.map_map]
        exact Itb.list rfl
      case sz_b => rw [List.length_map]; omega
      case res_b =>
        rw [List.filterMap_map]
        show nums.filterMap (fun n => some (PV.s (textOf n))) = (nums.map written).map .s
        rw [fm_some, List.map_map]
        refine List.map_congr_left fun n hn => ?_
        show PV.s (textOf n) = PV.s (written n)
        rw [text_written' (hN n hn)]
      case el_b =>
        intro z hz D L'
        obtain ⟨n, hn, rfl⟩ := List.mem_map.mp hz
        refine ⟨TstL.nil, fun y hy => ?_⟩
        cases hy
        refine ⟨?_, rfl⟩
        have hz := rowOf_size n
        refine' Ev.meth Ev.str MethV.join (EvA.cons (Ev.comp (W := []) (cap := []) (p := .y (rowOf n)) ((rowOf n).toList.map fun c => (.i c.toNat, some (.s ⟨#[c.toNat]⟩))) ?K3 ?l3 ?it3 ?sz3 ?el3) EvA.nil) ?c3
        case K3 => walk_at "comp0"
        case l3 => walk_at "ld"
        case it3 =>
          rw [List.map_map]
          exact Itb.bytes
        case sz3 => rw [List.length_map, Array.length_toList]; omega
        case c3 =>
          refine CallV.join (x := "") (ys := (rowOf n).toList.map fun c => ⟨#[c.toNat]⟩) ?_ (by decide) ?_
          · show some _ = some _
            rw [List.filterMap_map, List.map_map]
            exact congrArg some (fm_some (fun c : UInt8 => PV.s ⟨#[c.toNat]⟩) _)
          · have h1 : ((rowOf n).toList.map fun c => (⟨#[c.toNat]⟩ : Str)).map (·.length) = (rowOf n).toList.map fun _ => 1 := by
              rw [List.map_map]; rfl
            rw [h1, List.map_const', List.sum_replicate_nat, List.length_map, Array.length_toList]
            omega
        case el3 =>
          intro z hz D L'
          obtain ⟨c, hc, rfl⟩ := List.mem_map.mp hz
          refine ⟨TstL.nil, fun y hy => ?_⟩
          cases hy
          refine ⟨?_, rfl⟩
          have hlt := c.toNat_lt
          exact Ev.callB (by walk_at "bn") (EvA.cons (by walk_at "ld") EvA.nil) (CallV.chr (i := (c.toNat : Int)) (by omega) (by omega))
    have hTl : (nums.map written).length ≤ 12 := by rw [List.length_map]; exact hNl
    have hT4 : ∀ t ∈ nums.map written, t.length = 4 := fun t ht => by
      obtain ⟨n, _, rfl⟩ := List.mem_map.mp ht
      exact written_len' n
    -- the check
    refine' Run.ite O (b := false) (Tst.is (Tst.or2 (x := false) (y := false) ?t1 (fun _ => ?t2)) rfl) (fun h => nomatch h) (fun _ => Run.nil ?_)
    case t1 =>
      refine' Tst.is (Tst.cmp (by walk_at "ld") (Ev.comp (W := []) (cap := []) (p := embI nums) (nums.map fun n => (.i n, some (.s (written n)))) ?K_c ?l_c ?it_c ?sz_c ?el_c) (CmpV.ne_l EqE.str (xs := nums.map written) (ys := nums.map written) rfl ?q_c (by show C.A.units + 3 + 0 + 2 < cLine; omega))) (by rw [decide_eq_true rfl]; rfl)
      case K_c => walk_at "comp0"
      case l_c => walk_at "ld"
      case it_c =>
        rw [List.map_map]
        exact Itb.list rfl
      case sz_c => rw [List.length_map]; omega
      case q_c =>
        show some _ = some _
        rw [List.filterMap_map, List.map_map]
        exact congrArg some (fm_some (fun n => PV.s (written n)) _)
      case el_c =>
        intro z hz D L'
        obtain ⟨n, hn, rfl⟩ := List.mem_map.mp hz
        refine ⟨TstL.nil, fun y hy => ?_⟩
        cases hy
        exact ⟨Ev.callF (by walk_at "gn") (by walk_at "fo") rfl (EvA.cons (by walk_at "ld") EvA.nil) (fn_written g.fn (hr.fn (n := 13) |>.le (by omega))), rfl⟩
    case t2 =>
      refine' Tst.is (Tst.cmp (Ev.comp (W := []) (cap := []) (p := .l (nums.map fun n => PV.y (rowOf n))) (nums.map fun n => (.y (rowOf n), none)) ?K_d ?l_d ?it_d ?sz_d ?el_d) (Ev.list EvA.nil rfl) (CmpV.ne_nil (xs := []) ?q_d rfl (by show C.A.units + 3 < cLine; omega))) rfl
      case K_d => walk_at "comp0"
      case l_d => walk_at "ld"
      case it_d =>
        rw [List.map_map]
        exact Itb.list rfl
      case sz_d => rw [List.length_map]; omega
      case q_d =>
        show some _ = some _
        rw [List.filterMap_map]
        congr 1
        exact List.filterMap_eq_nil_iff.mpr fun _ _ => rfl
      case el_d =>
        intro z hz D L'
        obtain ⟨n, hn, rfl⟩ := List.mem_map.mp hz
        exact ⟨TstL.one (Tst.cmp (Ev.callT (by walk_at "bn") (EvA.cons (by walk_at "ld") EvA.nil) CallV.typeY) (by walk_at "bn") (CmpV.isNot_self rfl)), fun y hy => nomatch hy⟩
    -- deeds
    refine Run.cons (Exe.assign O (p := embI (deedsOf ns)) (Or.inl (by walk_at "wr")) ?s5 ?_ (by walk_at "wr"))
    case s5 =>
      refine' Ev.is (Ev.addl (Ev.list (EvA.cons Ev.int (EvA.cons Ev.int (EvA.cons Ev.int (EvA.cons Ev.int (EvA.cons Ev.int (EvA.cons Ev.int (EvA.cons Ev.int (EvA.cons Ev.int (EvA.cons Ev.int (EvA.cons Ev.int (EvA.cons Ev.int (EvA.cons Ev.int EvA.nil)))))))))))) rfl) (Ev.comp (W := []) (cap := [("script", p)]) ((List.range (ns.take 6).length).map fun (k : Nat) => (.i k, some (.i (sumEv ns 6 k)))) ?K_e ?l_e ?it_e ?sz_e ?el_e) rfl rfl ?len_e) ?res_e
      case K_e => walk_at "comp0"
      case l_e =>
        refine' Ev.callT (by walk_at "bn") (EvA.cons (Ev.callB (by walk_at "bn") (EvA.cons (Ev.slice (by walk_at "ld") EvO.non (EvO.som Ev.int) EvO.non (SlV.list e0 (by decide) (by rw [List.length_map]; omega))) EvA.nil) (CallV.len_l (xs := (ns.take 6).map .i) ?q_e ?q2_e)) EvA.nil) CallV.range1
        case q_e =>
          show some (pick _ none (some 6) none) = _
          rw [show (6 : Int) = ((6 : Nat) : Int) from rfl, pick_to, List.map_take]
        case q2_e => rw [List.length_map, List.length_take]; omega
      case it_e =>
        rw [List.map_map, List.length_map]
        exact Itb.range1 (by rw [List.length_take]; omega)
      case sz_e => rw [List.length_map, List.length_range, List.length_take]; omega
      case len_e =>
        rw [List.filterMap_map]
        have := List.length_filterMap_le ((fun x : PV × Option PV => x.snd) ∘ fun (k : Nat) => (PV.i (k : Int), some (PV.i (sumEv ns 6 k)))) (List.range (ns.take 6).length)
        rw [List.length_range] at this
        have h6 := List.length_take_le 6 ns
        refine Nat.le_trans (Nat.add_le_add_left this 12) ?_
        omega
      case res_e =>
        show PV.l _ = PV.l _
        congr 1
        unfold deedsOf
        rw [List.map_append, List.filterMap_map, List.map_map]
        congr 1
        exact fm_some (fun k : Nat => PV.i (sumEv ns 6 k)) _
      case el_e =>
        intro z hz D L'
        obtain ⟨k, hk, rfl⟩ := List.mem_map.mp hz
        refine ⟨TstL.nil, fun y hy => ?_⟩
        cases hy
        refine ⟨?_, rfl⟩
        refine Ev.callB (by walk_at "bn") (EvA.cons (Ev.slice (by walk_at "ld") (EvO.som (by walk_at "ld")) EvO.non (EvO.som Ev.int) (SlV.list e0 (by decide) (by rw [List.length_map]; omega))) EvA.nil) (CallV.sum (ns := pickA ns (some (k : Int)) none (some 6)) ?_)
        show some (pick _ _ _ _) = _
        rw [pick_map]
    -- told, due
    refine Run.cons (Exe.tupO O (ts := [("told", _), ("due", _)]) (List.forall_mem_cons.mpr ⟨Or.inl (by walk_at "wr"), List.forall_mem_cons.mpr ⟨Or.inr (List.Mem.tail _ (List.Mem.head _)), List.forall_mem_nil _⟩⟩) (by show 2 ≤ 100; decide) ?_ (by walk_at "wr") (by walk_at "wr"))
    refine EvAO.own O (xs := [.l []]) (EvF.list (EvA.cons (Ev.list EvA.nil rfl) EvA.nil) rfl) fun a1 ha1 => EvAO.own O (xs := [.l []]) (EvF.list (EvA.cons (Ev.list EvA.nil rfl) EvA.nil) rfl) fun a2 ha2 => EvAO.nil ⟨rfl, ?_⟩
    have n1 : a1 ≠ aT := fun h => ha1 (h ▸ List.mem_cons_self)
    have n2 : a2 ≠ aT := fun h => ha2 (h ▸ List.mem_cons_of_mem _ List.mem_cons_self)
    have n3 : a2 ≠ a1 := fun h => ha2 (h ▸ List.mem_cons_self)
    have hT1 : (nums.map written).length ≤ 400 := by omega
    generalize hds : deedsOf ns = ds at *
    -- the deeds
    refine Run.for O (ps := ds.map PV.i) (p := embI ds) (Or.inl (by walk_at "wr")) (by walk_at "ld") (Itb.list rfl) rfl
      (fun k σ => k ≤ ds.length ∧ σ = ⟨mu, [a2, a1, aT], [("numbers", embI nums), ("texts", .la aT (sl (nums.map written))), ("told", .la a1 ((stacks (ds.take k)).map fun φs => emb2 (selS nums φs))), ("due", .la a2 ((stacks (ds.take k)).map (embG nums)))]⟩)
      ⟨mu, [a2, a1, aT], [("numbers", embI nums), ("texts", .la aT (sl (nums.map written))), ("told", .la a1 ((stacks []).map fun φs => emb2 (selS nums φs))), ("due", .la a2 ((stacks []).map (embG nums)))]⟩ (Can.of rfl rfl (by walk_at "mems")) ⟨Nat.zero_le _, rfl⟩ ?turn ?hend
    case turn =>
      rintro k q σ hq ⟨hk, rfl⟩
      rw [List.getElem?_map] at hq
      obtain ⟨x, hx, rfl⟩ := Option.map_eq_some_iff.mp hq
      have hlt : k < ds.length := (List.getElem?_eq_some_iff.mp hx).1
      have hok := stacks_ok (ds.take k)
      have hsl := stacks_len (ds.take k)
      have htk : ds.take (k + 1) = ds.take k ++ [x] := by rw [List.take_add_one, hx]; rfl
      have hsn := stacks_snoc (ds.take k) x
      rw [← htk] at hsn
      rw [List.length_take, Nat.min_eq_left (by omega)] at hsl
      have hml : ∀ φs ∈ stacks (ds.take k), φs.length ≤ 400 := fun φs h => by
        have := (hok φs h).1
        rw [List.length_take] at this; omega
      generalize stacks (ds.take k) = stk at *
      rw [hsl, Nat.add_sub_cancel] at hsn
      have hmem : stk.getD k [] ∈ stk := by
        rw [List.getD_eq_getElem?_getD, List.getElem?_eq_getElem (by omega)]
        exact List.getElem_mem _
      have hl1 := hml _ hmem
      have hb1 := (hok _ hmem).2
      generalize hla : stk.getD k [] = la at *
      have itT : ∀ {C' : Cx} {mu' : List Addr}, ItV C' mu' (.la a1 (stk.map fun φs => emb2 (selS nums φs))) (-1) (emb2 (selS nums la)) := by
        intro C' mu'
        refine ItV.list_neg rfl (by decide) (by rw [List.length_map]; omega) (by decide) ?_
        have e : (-1 + ((stk.map fun φs => emb2 (selS nums φs)).length : Int)).toNat = k := by rw [List.length_map]; omega
        rw [e, getD_map_emb (d := []) (by omega), hla]
      have itD : ∀ {C' : Cx} {mu' : List Addr}, ItV C' mu' (.la a2 (stk.map (embG nums))) (-1) (embG nums la) := by
        intro C' mu'
        refine ItV.list_neg rfl (by decide) (by rw [List.length_map]; omega) (by decide) ?_
        have e : (-1 + ((stk.map (embG nums)).length : Int)).toNat = k := by rw [List.length_map]; omega
        rw [e, getD_map_emb (d := []) (by omega), hla]
      refine' Run.cons (Exe.append O (a := a1) (xs := stk.map fun φs => emb2 (selS nums φs)) (p := emb2 (selS nums (toldF la x))) (by walk_at "ld") (List.Mem.tail _ (List.Mem.head _)) ?e_t rfl (by rw [List.length_map]; omega) ?up_t ?_)
      case e_t =>
        rw [← done_told' hN hb1 x]
        refine Ev.callF (by walk_at "gn") (by walk_at "fo") rfl (EvA.cons (by walk_at "ld") (EvA.cons (Ev.item (by walk_at "ld") (Ev.neg Ev.int) itT) (EvA.cons (by walk_at "ld") EvA.nil))) (fn_done g.fn (hr.fn (n := 13) |>.le (by omega)) rfl hT1 hT4 ?_ ?_)
        · intro a ha
          obtain ⟨φ, _, rfl⟩ := List.mem_map.mp ha
          have := sel_len nums φ
          omega
        · rw [List.length_map]; exact hl1
      case up_t => exact UpdL.miss (fun _ h => nomatch h) (UpdL.miss (fun _ h => nomatch h) (UpdL.miss (fun _ h => by injection h with h _; exact n1 h.symm) (UpdL.hit (UpdL.miss (fun _ h => by injection h with h _; exact n3 h) UpdL.nil))))
      refine' Run.cons (Exe.append O (a := a2) (xs := stk.map (embG nums)) (p := embG nums (toldF la x)) (by walk_at "ld") (List.Mem.head _) ?e_d rfl (by rw [List.length_map]; omega) ?up_d ?_)
      case e_d =>
        exact Ev.callF (by walk_at "gn") (by walk_at "fo") rfl (EvA.cons (by walk_at "ld") (EvA.cons (Ev.item (by walk_at "ld") (Ev.neg Ev.int) itD) (EvA.cons (by walk_at "ld") EvA.nil))) (fn_told g.fn (hr.fn (n := 13) |>.le (by omega)) (by omega) hl1 hb1)
      case up_d => exact UpdL.miss (fun _ h => nomatch h) (UpdL.miss (fun _ h => nomatch h) (UpdL.miss (fun _ h => by injection h with h _; exact n2 h.symm) (UpdL.miss (fun _ h => by injection h with h _; exact n3 h.symm) (UpdL.hit UpdL.nil))))
      refine Run.nil ⟨⟨mu, [a2, a1, aT], [("numbers", embI nums), ("texts", .la aT (sl (nums.map written))), ("told", .la a1 ((stacks (ds.take (k + 1))).map fun φs => emb2 (selS nums φs))), ("due", .la a2 ((stacks (ds.take (k + 1))).map (embG nums)))]⟩, Can.of rfl rfl ?_, hlt, rfl⟩
      rw [hsn, List.map_append, List.map_append]
      walk_at "mems"
    case hend =>
      rintro σ ⟨_, rfl⟩
      rw [List.length_map, List.take_length]
      have hok := stacks_ok ds
      have hsl := stacks_len ds
      have hne := stacks_ne ds
      generalize stacks ds = stk at *
      have hmem : stk.getD ds.length [] ∈ stk := by
        rw [List.getD_eq_getElem?_getD, List.getElem?_eq_getElem (by omega)]
        exact List.getElem_mem _
      have hl1 := (hok _ hmem).1
      have hb1 := (hok _ hmem).2
      generalize hla : stk.getD ds.length [] = la at *
      -- wanted
      refine' Run.cons (Exe.assignComp O (W := []) (cap := [("texts", .la aT (sl (nums.map written)))]) (p := .la a2 (stk.map (embG nums))) (stk.map fun φs => (embG nums φs, some (emb2 (selS nums φs)))) (Or.inl (by walk_at "wr")) ?K_w (by walk_at "ld") ?it_w ?sz_w ?el_w ?_ (by walk_at "wr"))
      case K_w => walk_at "comp0"
      case it_w =>
        rw [List.map_map]
        exact Itb.list rfl
      case sz_w => rw [List.length_map]; omega
      case el_w =>
        intro z hz D L'
        obtain ⟨φs, hφs, rfl⟩ := List.mem_map.mp hz
        have hlφ := (hok _ hφs).1
        refine ⟨TstL.nil, fun y hy => ?_⟩
        cases hy
        refine ⟨?_, rfl⟩
        refine' Ev.is (Ev.comp (W := ["bits"]) (cap := [("texts", .la aT (sl (nums.map written)))]) (p := embG nums φs) (φs.map fun φ => (embF nums φ, some (embL (sel nums φ)))) ?K_x ?l_x ?it_x ?sz_x ?el_x) ?res_x
        case K_x => walk_at "compW"
        case l_x => walk_at "ld"
        case it_x =>
          rw [List.map_map]
          exact Itb.list rfl
        case sz_x => rw [List.length_map]; omega
        case res_x =>
          show PV.l _ = PV.l _
          congr 1
          rw [List.filterMap_map, List.map_map]
          exact fm_some (fun φ => embL (sel nums φ)) _
        case el_x =>
          intro z hz D2 L2
          obtain ⟨φ, hφ, rfl⟩ := List.mem_map.mp hz
          refine ⟨TstL.nil, fun y hy => ?_⟩
          cases hy
          refine ⟨?_, rfl⟩
          refine' Ev.is (Ev.comp (W := []) (cap := [("texts", .la aT (sl (nums.map written))), ("bits", embF nums φ)]) ((List.range nums.length).map fun (k : Nat) => (.i k, if decide (φ (nums.getD k 0) = 1) = true then some (.s (written (nums.getD k 0))) else none)) ?K_y ?l_y ?it_y ?sz_y ?el_y) ?res_y
          case K_y => walk_at "comp0"
          case l_y => exact Ev.callT (by walk_at "bn") (EvA.cons (Ev.callB (by walk_at "bn") (EvA.cons (by walk_at "ld") EvA.nil) (CallV.len_l (xs := sl (nums.map written)) rfl (by simp only [sl, List.length_map]; omega))) EvA.nil) CallV.range1
          case it_y =>
            rw [List.map_map]
            have : (sl (nums.map written)).length = nums.length := by simp [sl]
            rw [this]
            exact Itb.range1 (by omega)
          case sz_y => rw [List.length_map, List.length_range]; omega
          case res_y =>
            show PV.l _ = PV.l _
            congr 1
            rw [List.filterMap_map]
            show (List.range nums.length).filterMap (fun k => if decide (φ (nums.getD k 0) = 1) = true then some (PV.s (written (nums.getD k 0))) else none) = _
            rw [range_getD_fm 0 (fun n => if decide (φ n = 1) = true then some (PV.s (written n)) else none), sel_fm]
            rfl
          case el_y =>
            intro z hz D3 L3
            obtain ⟨k, hk, rfl⟩ := List.mem_map.mp hz
            have hk := List.mem_range.mp hk
            have itb : ∀ {C' : Cx} {mu' : List Addr}, ItV C' mu' (embF nums φ) k (.i (φ (nums.getD k 0))) := ItV.list rfl (by omega) (by omega) (by simp [hk])
            have itt : ∀ {C' : Cx} {mu' : List Addr}, ItV C' mu' (.la aT (sl (nums.map written))) k (.s (written (nums.getD k 0))) := ItV.list rfl (by omega) (by omega) (by simp [sl, hk])
            refine ⟨TstL.one (Tst.is (Tst.cmp (Ev.item (by walk_at "ld") (by walk_at "ld") itb) Ev.int CmpV.eq_i) ?_), fun y hy => ?_⟩
            · by_cases h : φ (nums.getD k 0) = 1
              · rw [h]; rfl
              · rw [decide_eq_false h]; simpa using h
            · have hy : (if decide (φ (nums.getD k 0) = 1) = true then some (PV.s (written (nums.getD k 0))) else none) = some y := hy
              by_cases h : φ (nums.getD k 0) = 1
              · rw [if_pos (decide_eq_true h)] at hy; cases hy
                exact ⟨Ev.item (by walk_at "ld") (by walk_at "ld") itt, rfl⟩
              · rw [decide_eq_false h] at hy; cases hy
      have hwant : (stk.map fun φs => (embG nums φs, some (emb2 (selS nums φs)))).filterMap (·.2) = stk.map fun φs => emb2 (selS nums φs) := by
        rw [List.filterMap_map]; exact fm_some (fun φs => emb2 (selS nums φs)) _
      rw [hwant]
      have hemb : (stk.map fun φs => emb2 (selS nums φs)) = (stk.map (selS nums)).map emb2 := by rw [List.map_map]; rfl
      -- the last check
      refine' Run.ite O (b := false) (Tst.is (Tst.or2 (x := false) (y := false) (Tst.is (Tst.cmp (by walk_at "ld") (by walk_at "ld") (CmpV.ne_l (p := .la a1 (stk.map fun φs => emb2 (selS nums φs))) (q := .l (stk.map fun φs => emb2 (selS nums φs))) (α := List (List Str)) EqE.str.list.list (xs := stk.map (selS nums)) (ys := stk.map (selS nums)) (congrArg some hemb) (congrArg some hemb) (by show C.A.units + 3 + 4 + 2 < cLine; omega))) (by rw [decide_eq_true rfl]; rfl)) (fun _ => ?t_2)) rfl) (fun h => nomatch h) (fun _ => Run.nil ?_)
      case t_2 =>
        refine' Tst.is (Tst.cmp (Ev.comp (W := []) (cap := [("texts", .la aT (sl (nums.map written)))]) ((stk.drop 1).map fun φs => (emb2 (selS nums φs), none)) ?K_z ?l_z ?it_z ?sz_z ?el_z) (Ev.list EvA.nil rfl) (CmpV.ne_nil (xs := []) ?q_z rfl (by show C.A.units + 3 < cLine; omega))) rfl
        case K_z => walk_at "comp0"
        case l_z => exact Ev.slice (by walk_at "ld") (EvO.som Ev.int) EvO.non EvO.non (SlV.list rfl (by decide) (by rw [List.length_map]; omega))
        case it_z =>
          rw [List.map_map]
          refine Itb.list ?_
          show some (pick _ (some 1) none none) = _
          rw [show (1 : Int) = ((1 : Nat) : Int) from rfl, pick_from, ← List.map_drop]
          rfl
        case sz_z => rw [List.length_map, List.length_drop]; omega
        case q_z =>
          show some _ = some _
          rw [List.filterMap_map]
          congr 1
          exact List.filterMap_eq_nil_iff.mpr fun _ _ => rfl
        case el_z =>
          intro z hz D L'
          obtain ⟨φs, hφs, rfl⟩ := List.mem_map.mp hz
          have hp := hne _ hφs
          refine ⟨TstL.one (Tst.cmp (Ev.item (r := embL ((selS nums φs).getD (φs.length - 1) [])) (by walk_at "ld") (Ev.neg Ev.int) (ItV.list_neg rfl (by decide) (by simp only [List.length_map]; omega) (by decide) ?_)) (by walk_at "ld") (CmpV.is_la rfl rfl)), fun y hy => nomatch hy⟩
          have e : (-1 + (((selS nums φs).map embL).length : Int)).toNat = φs.length - 1 := by simp only [List.length_map]; omega
          rw [e, getD_map_emb (d := []) (by simp only [List.length_map]; omega)]
      -- what is given back
      have hany := any_told' hN la
      refine Run.cons (Exe.ret O (p := .b true) ?_ (RetsP.pl rfl))
      have itT : ∀ {C' : Cx} {mu' : List Addr}, ItV C' mu' (.la a1 (stk.map fun φs => emb2 (selS nums φs))) (-1) (emb2 (selS nums la)) := by
        intro C' mu'
        refine ItV.list_neg rfl (by decide) (by rw [List.length_map]; omega) (by decide) ?_
        have e : (-1 + ((stk.map fun φs => emb2 (selS nums φs)).length : Int)).toNat = ds.length := by rw [List.length_map]; omega
        rw [e, getD_map_emb (d := []) (by omega), hla]
      have itD : ∀ {C' : Cx} {mu' : List Addr}, ItV C' mu' (.la a2 (stk.map (embG nums))) (-1) (embG nums la) := by
        intro C' mu'
        refine ItV.list_neg rfl (by decide) (by rw [List.length_map]; omega) (by decide) ?_
        have e : (-1 + ((stk.map (embG nums)).length : Int)).toNat = ds.length := by rw [List.length_map]; omega
        rw [e, getD_map_emb (d := []) (by omega), hla]
      refine' Ev.is (Ev.cmp (Ev.callF (by walk_at "gn") (by walk_at "fo") rfl (EvA.cons (by walk_at "ld") (EvA.cons (Ev.item (by walk_at "ld") (Ev.neg Ev.int) itT) EvA.nil)) (fn_any g.fn (hr.fn (n := 13) |>.le (by omega)) (xs := nums.map written) (As := selS nums la) rfl hT1 ?_))
        (Ev.comp (W := ["k"]) (cap := [("texts", .la aT (sl (nums.map written))), ("due", .la a2 (stk.map (embG nums)))]) ((List.range nums.length).map fun (k : Nat) => (.i k, if decide (1 ∈ la.map (· (nums.getD k 0))) = true then some (.s (written (nums.getD k 0))) else none)) ?K_u ?l_u ?it_u ?sz_u ?el_u)
        (CmpV.eq_l EqE.str (xs := anyL (nums.map written) (selS nums la)) (ys := (nums.filter fun n => decide (1 ∈ la.map (· n))).map written) rfl ?q_u (by show C.A.units + 3 + 0 + 2 < cLine; omega))) ?res_u
      · intro a ha
        obtain ⟨φ, _, rfl⟩ := List.mem_map.mp ha
        have := sel_len nums φ
        omega
      case res_u => rw [hany, decide_eq_true rfl]
      case K_u => walk_at "compW"
      case l_u => exact Ev.callT (by walk_at "bn") (EvA.cons (Ev.callB (by walk_at "bn") (EvA.cons (by walk_at "ld") EvA.nil) (CallV.len_l (xs := sl (nums.map written)) rfl (by simp only [sl, List.length_map]; omega))) EvA.nil) CallV.range1
      case it_u =>
        rw [List.map_map]
        have : (sl (nums.map written)).length = nums.length := by simp [sl]
        rw [this]
        exact Itb.range1 (by omega)
      case sz_u => rw [List.length_map, List.length_range]; omega
      case q_u =>
        show some _ = some _
        rw [List.filterMap_map]
        show some ((List.range nums.length).filterMap (fun k => if decide (1 ∈ la.map (· (nums.getD k 0))) = true then some (PV.s (written (nums.getD k 0))) else none)) = _
        rw [range_getD_fm 0 (fun n => if decide (1 ∈ la.map (· n)) = true then some (PV.s (written n)) else none), sel_fm nums (fun n => decide (1 ∈ la.map (· n)))]
      case el_u =>
        intro z hz D L'
        obtain ⟨k, hk, rfl⟩ := List.mem_map.mp hz
        have hk := List.mem_range.mp hk
        have itt : ∀ {C' : Cx} {mu' : List Addr}, ItV C' mu' (.la aT (sl (nums.map written))) k (.s (written (nums.getD k 0))) := ItV.list rfl (by omega) (by omega) (by simp [sl, hk])
        refine' ⟨TstL.one (Tst.is (Tst.cmp Ev.int (Ev.comp (W := []) (cap := [("k", .i k)]) (p := embG nums la) (la.map fun φ => (embF nums φ, some (.i (φ (nums.getD k 0))))) ?K_v ?l_v ?it_v ?sz_v ?el_v) (CmpV.in_li (ys := la.map (· (nums.getD k 0))) ?q_v)) ?r_v), fun y hy => ?_⟩
        case K_v => walk_at "comp0"
        case l_v => exact Ev.item (by walk_at "ld") (Ev.neg Ev.int) itD
        case it_v =>
          rw [List.map_map]
          exact Itb.list rfl
        case sz_v => rw [List.length_map]; omega
        case q_v =>
          show some _ = some _
          rw [List.filterMap_map, List.map_map]
          exact congrArg some (fm_some (fun φ : Int → Int => PV.i (φ (nums.getD k 0))) _)
        case r_v =>
          by_cases h : 1 ∈ la.map (· (nums.getD k 0))
          · rw [decide_eq_true h]; rfl
          · rw [decide_eq_false h]; rfl
        case el_v =>
          intro z hz D2 L2
          obtain ⟨φ, hφ, rfl⟩ := List.mem_map.mp hz
          refine ⟨TstL.nil, fun y hy => ?_⟩
          cases hy
          exact ⟨Ev.item (by walk_at "ld") (by walk_at "ld") (ItV.list rfl (by omega) (by omega) (by simp [hk])), rfl⟩
        · have hy : (if decide (1 ∈ la.map (· (nums.getD k 0))) = true then some (PV.s (written (nums.getD k 0))) else none) = some y := hy
          by_cases h : 1 ∈ la.map (· (nums.getD k 0))
          · rw [if_pos (decide_eq_true h)] at hy; cases hy
            exact ⟨Ev.item (by walk_at "ld") (by walk_at "ld") itt, rfl⟩
          · rw [decide_eq_false h] at hy; cases hy

end
section
open  PySem.Builtin PySem.Builtin.Str
set_option maxHeartbeats 4000000
set_option linter.unusedVariables false
set_option autoImplicit false
variable {C : Cx} {env : Env} {σ : St} {mu : List Addr} {mg mb : Str → Option Value} {P : Params} {X : Fx} {Q : St → Res → Prop}
theorem aF_is (P : Params) : aF = (KFT P).map (·.1) := by kernel_rfl
theorem script_obj {R : WRecords} {w : World} {s₀ s₁ : Shared} {ns : List Int} {a : Addr} {as : List Addr} (L : Laid R w s₀ s₁ [ofPy (PyData.list (ns.map PyData.int))] [.ref a] as) : ∃ vs, s₁.heap.get? a = some (lobj vs 0) := by
  obtain ⟨ord, _, e⟩ := L.laid
  simp only [ofPy, layAllW, layW] at e
  cases q : layAllW R (classAt s₀.heap) w.params ord (ofPys (List.map PyData.int ns)) s₀ with
  | none => rw [q] at e; cases e
  | some r =>
    rw [q] at e
    simp only [Option.some.injEq, Prod.mk.injEq, List.cons.injEq, Value.ref.injEq] at e
    obtain ⟨⟨ea, _⟩, es⟩ := e
    refine ⟨r.1, ?_⟩
    rw [← es, ← ea]
    exact Heap.get?_push_size _ rfl
theorem RepIL.ofInts {h : Heap} {vs : List Value} {xs : List Int} (r : IntsAre vs xs) : RepIL mu h vs (xs.map .i) := by
  induction r with
  | nil => exact .nil
  | cons n t r ih => exact .cons .i ih
theorem walk {d : DefRec} {kwd : List (Str × Expr)} (hn : d.name = "law") : WalkX VW looL (XL VW []) Yf0 Ya0 PySem.Challenge.rw_il0115_01.row.toRowW d kwd fun f vs => PySem.call f vs := by
  intro w s₀ s₁ mg mb G y fa o pm cd doc dV kV ho hd hcd hD hmg hg args vals as L hpre hlay hrd hwl hlo
  rw [hn] at hmg
  have X0 : (KFT w.params).In s₀.heap := Frag.in_of (aF_is w.params) y
  have X1 : (KFT w.params).In s₁.heap := X0.keeps L.keeps
  refine Ground.open G ?_
  intro T B D TE TW
  clear ho hd hcd hD B D TE TW y
  wrow_args hpre hlay hrd hwl hlo
  rename_i ns z1 z2 z3 z4 z5 as1 as2 l vs as3 hIs z6 z7 z8 hI z9 hcond z10
  have h138 : s₁.heap.get? 138 = some (tabObj #[]) := X1 138 _ (by with_unfolding_all rfl)
  have hlen : ns.length ≤ 63 := by have := hcond; omega
  obtain ⟨vs0, hl0⟩ := script_obj L
  have hvs : vs0 = vs := by
    obtain ⟨ol, e, _, n, e2⟩ := hIs
    rw [hl0] at e
    cases e
    have e2 : (lobj vs0 0).data = Data.seq vs.toArray n := e2
    injection e2 with e2 _
    simpa using e2
  subst hvs
  have gh : ∀ b o, (hideAll s₁.heap [138]).get? b = some o → s₁.heap.get? b = some o := fun b o e => of_hideAll _ e
  have hg' : ∀ b o, s₁.heap.get? b = some o → b ≠ 138 → (hideAll s₁.heap [138]).get? b = some o := fun b o e hb => hideAll_get _ e (fun q => hb (List.mem_singleton.mp q))
  have ns' : ∀ {a : Addr} {m : Str → Option Value}, s₁.heap.Ns a m → a ≠ 138 → (hideAll s₁.heap [138]).Ns a m := fun ⟨o, es, ep, e, r⟩ hb => ⟨o, es, ep, hg' _ _ e hb, r⟩
  have g : Gok w.params (hideAll s₁.heap [138]) mg mb := by
    refine ⟨fun a o e => ?_, ns' T.g (by decide), ns' T.b (by decide), ?_, T.builtins, ?_⟩
    · have hne : a ≠ 138 := fun q => by
        rw [q] at e
        have : (KF w.params).lookup 138 = none := by with_unfolding_all rfl
        rw [this] at e; cases e
      refine hg' _ _ (X1 a o ?_) hne
      show List.lookup a ((138, _) :: KF w.params) = some o
      rw [List.lookup_cons, show (a == 138) = false by simpa using hne]
      exact e
    · obtain ⟨mc, h1, h2⟩ := T.nolimit
      exact ⟨mc, ns' h1 (by decide), h2⟩
    · obtain ⟨bm, ob, h1, h2, h3, h4, h5, h6⟩ := T.bmain
      have n138 : bm ≠ 138 := fun q => by
        rw [q, h138] at h3; cases h3; cases h4
      refine ⟨bm, ob, h1, h2, fun q => ?_, n138, hg' _ _ h3 n138, h4, h5, h6⟩
      obtain ⟨om, es, ep, e, d', _⟩ := T.g
      rw [q, e] at h3; cases h3
      rw [d'] at h6; cases h6
  have hfa : fa = 215 := by
    have := mg_of (n := "law") (v := .ref 215) g.X g.G (by with_unfolding_all rfl)
    rw [this] at hmg
    injection hmg with e
    injection e with e
    exact e.symm
  subst hfa
  have I : Inv ⟨w, hideAll s₁.heap [138], s₁.os, callerA, []⟩ s₁ := ⟨gh, hg, rfl, ⟨#[], h138, trivial⟩, rfl, ⟨[], rfl, trivial⟩, hideAll_none _ (List.mem_singleton_self _)⟩
  have hr : Rm ⟨w, hideAll s₁.heap [138], s₁.os, callerA, []⟩ 14 := ⟨show callerA.depth + 14 < recursionLimit by decide +kernel, show callerA.units + 10 * 14 < cLine by decide +kernel⟩
  have c := fn_law (mu := []) g hr (p := .l (ns.map .i)) rfl (by omega)
  refine wpAny_mono (c.run [.ref l] s₁ I (fun _ h => nomatch h) (.cons (Rep.lof hl0 (fun h => nomatch h) (RepIL.ofInts hI)) .nil)) (fun v s' z => ?_) fun _ _ z => z.elim
  obtain ⟨x, r⟩ := z
  rw [r.b_inv]
  have it : isCodeTable s₁.heap 138 := by
    have e142 := X1 142 _ (show (KFT w.params).lookup 142 = some _ by with_unfolding_all rfl)
    exact ⟨142, _, _, e142, rfl, rfl, by with_unfolding_all rfl⟩
  refine ⟨.inl ⟨.bool true, .bool true, [], rfl, raisesW_false ?_, .bool true, ?_, unshared_nil⟩, ⟨fun b o e => ?_, fun b o e => ?_⟩, x.os, ?_⟩
  · wrow_none_raised
  · wrow_post
  · by_cases hb : b = 138
    · subst hb
      rw [h138] at e; cases e
      obtain ⟨more, e', _⟩ := x.tab #[] h138 trivial
      exact .inr (.inl ⟨it, rfl, _, _, rfl, e'⟩)
    · exact .inl (x.keep b o e (fun h => nomatch h) hb)
  · by_cases hb : b = 138
    · subst hb
      obtain ⟨more, e', _⟩ := x.tab #[] h138 trivial
      exact ⟨_, e'⟩
    · exact ⟨o, x.keep b o e (fun h => nomatch h) hb⟩
  · exact .of_eq (x.gens.trans hg)

end
section
open PySem PySem.W PyProof.Rows
set_option maxHeartbeats 0
noncomputable abbrev WalkMine : Prop := ∀ {d : DefRec} {kwd : List (Str × Expr)}, d.name = "law" → WalkX VW looL (XL VW []) Yf0 Ya0 PySem.Challenge.rw_il0115_01.row.toRowW d kwd fun f vs => PySem.call f vs
theorem said0 : PySem.Challenge.rw_il0115_01.wellSaid = true := by
  rw [PySem.W.Fast.te9446332074065402090]
  kernel_rfl
theorem fin_ (walk : WalkMine) : PySem.Challenge.rw_il0115_01.Holds := by
  refine holds_law said0 fun said => ?_
  refine holds_openX (q := VW) (loose := looL) (Xt := Xt0) (XP := XL VW []) (Yf := Yf0) (Ya := Ya0) (N := 4870) left (fun s e => xl_of s (Bool.and_eq_true_iff.mp e).1) XL.keeps (by rfl) (by rfl) (by rfl) (fun s e => recFacts_of (Bool.and_eq_true_iff.mp e).2) (by rfl) (by first | assumption | decide +kernel) (by decide +kernel) ⟨rfl, rfl, rfl, rfl, rfl, by decide +kernel⟩ ?hw ?hc
  case hw => w_witness2
  case hc => exact walk rfl

end
end Mine
theorem PySem.Challenge.cw_il0115_01_holds : PySem.Challenge.rw_il0115_01.Holds :=
  Mine.fin_ Mine.walk
