import PyProof.Rows.All
import Wide.All
import OpenK.AllK
import Wide.FinOn
import PySem.Challenge.RW_wf0074_01
open PySem PySem.W PyProof.Rows
set_option Elab.async false
set_option compiler.extract_closed false
set_option maxRecDepth 100000
set_option linter.unusedVariables false
namespace Mine
section
noncomputable abbrev pw : Program := PySem.Challenge.pw_wf0074_01
noncomputable def stmOf (p : Program) (i : Nat) : Stmt := (p.main.body[i]?).getD (.Pass ⟨0, 0, 0, 0⟩)
noncomputable def mthOf (p : Program) (i j : Nat) : Stmt := match stmOf p i with
  | .ClassDef _ _ _ b _ _ _ _ _ _ _ => (b[j]?).getD (.Pass ⟨0, 0, 0, 0⟩)
  | s => s
noncomputable def pars : Stmt → Arguments
  | .FunctionDef _ a _ _ _ _ _ _ _ _ => a
  | _ => ⟨[], [], none, [], [], none, []⟩
noncomputable def bodyS : Stmt → List Stmt
  | .FunctionDef _ _ b _ _ _ _ _ _ _ => b
  | _ => []
noncomputable def scopeS : Stmt → Scope
  | .FunctionDef _ _ _ _ _ _ s _ _ _ => s
  | _ => ⟨.function, [], false, false, []⟩
noncomputable abbrev pick {α : Type} {a : α} (s : α) (_ : a = s) : α := s
noncomputable def o0 (P : Params) : Obj := ⟨(.type "dict"), none, (.dict #[⟨PyData.keyHash P (Str.ofString "__name__"), (.str (Str.ofString "__name__") 1), (.str (Str.ofString "builtins") 160)⟩, ⟨PyData.keyHash P (Str.ofString "__doc__"), (.str (Str.ofString "__doc__") 2), (.builtin "builtins.__doc__:str#opaque")⟩, ⟨PyData.keyHash P (Str.ofString "__package__"), (.str (Str.ofString "__package__") 3), (.builtin "builtins.__package__:str#opaque")⟩, ⟨PyData.keyHash P (Str.ofString "__loader__"), (.str (Str.ofString "__loader__") 4), (.builtin "builtins.__loader__:shared#opaque")⟩, ⟨PyData.keyHash P (Str.ofString "__spec__"), (.str (Str.ofString "__spec__") 5), (.builtin "builtins.__spec__#opaque")⟩, ⟨PyData.keyHash P (Str.ofString "__build_class__"), (.str (Str.ofString "__build_class__") 6), (.builtin "__build_class__")⟩, ⟨PyData.keyHash P (Str.ofString "__import__"), (.str (Str.ofString "__import__") 7), (.builtin "__import__")⟩, ⟨PyData.keyHash P (Str.ofString "abs"), (.str (Str.ofString "abs") 8), (.builtin "abs")⟩, ⟨PyData.keyHash P (Str.ofString "all"), (.str (Str.ofString "all") 9), (.builtin "all")⟩, ⟨PyData.keyHash P (Str.ofString "any"), (.str (Str.ofString "any") 10), (.builtin "any")⟩, ⟨PyData.keyHash P (Str.ofString "ascii"), (.str (Str.ofString "ascii") 11), (.builtin "ascii")⟩, ⟨PyData.keyHash P (Str.ofString "bin"), (.str (Str.ofString "bin") 12), (.builtin "bin")⟩, ⟨PyData.keyHash P (Str.ofString "breakpoint"), (.str (Str.ofString "breakpoint") 13), (.builtin "breakpoint")⟩, ⟨PyData.keyHash P (Str.ofString "callable"), (.str (Str.ofString "callable") 14), (.builtin "callable")⟩, ⟨PyData.keyHash P (Str.ofString "chr"), (.str (Str.ofString "chr") 15), (.builtin "chr")⟩, ⟨PyData.keyHash P (Str.ofString "compile"), (.str (Str.ofString "compile") 16), (.builtin "compile")⟩, ⟨PyData.keyHash P (Str.ofString "delattr"), (.str (Str.ofString "delattr") 17), (.builtin "delattr")⟩, ⟨PyData.keyHash P (Str.ofString "dir"), (.str (Str.ofString "dir") 18), (.builtin "dir")⟩, ⟨PyData.keyHash P (Str.ofString "divmod"), (.str (Str.ofString "divmod") 19), (.builtin "divmod")⟩, ⟨PyData.keyHash P (Str.ofString "eval"), (.str (Str.ofString "eval") 20), (.builtin "eval")⟩, ⟨PyData.keyHash P (Str.ofString "exec"), (.str (Str.ofString "exec") 21), (.builtin "exec")⟩, ⟨PyData.keyHash P (Str.ofString "format"), (.str (Str.ofString "format") 22), (.builtin "format")⟩, ⟨PyData.keyHash P (Str.ofString "getattr"), (.str (Str.ofString "getattr") 23), (.builtin "getattr")⟩, ⟨PyData.keyHash P (Str.ofString "globals"), (.str (Str.ofString "globals") 24), (.builtin "globals")⟩, ⟨PyData.keyHash P (Str.ofString "hasattr"), (.str (Str.ofString "hasattr") 25), (.builtin "hasattr")⟩, ⟨PyData.keyHash P (Str.ofString "hash"), (.str (Str.ofString "hash") 26), (.builtin "hash")⟩, ⟨PyData.keyHash P (Str.ofString "hex"), (.str (Str.ofString "hex") 27), (.builtin "hex")⟩, ⟨PyData.keyHash P (Str.ofString "id"), (.str (Str.ofString "id") 28), (.builtin "id")⟩, ⟨PyData.keyHash P (Str.ofString "input"), (.str (Str.ofString "input") 29), (.builtin "input")⟩, ⟨PyData.keyHash P (Str.ofString "isinstance"), (.str (Str.ofString "isinstance") 30), (.builtin "isinstance")⟩, ⟨PyData.keyHash P (Str.ofString "issubclass"), (.str (Str.ofString "issubclass") 31), (.builtin "issubclass")⟩, ⟨PyData.keyHash P (Str.ofString "iter"), (.str (Str.ofString "iter") 32), (.builtin "iter")⟩, ⟨PyData.keyHash P (Str.ofString "aiter"), (.str (Str.ofString "aiter") 33), (.builtin "aiter")⟩, ⟨PyData.keyHash P (Str.ofString "len"), (.str (Str.ofString "len") 34), (.builtin "len")⟩, ⟨PyData.keyHash P (Str.ofString "locals"), (.str (Str.ofString "locals") 35), (.builtin "locals")⟩, ⟨PyData.keyHash P (Str.ofString "max"), (.str (Str.ofString "max") 36), (.builtin "max")⟩, ⟨PyData.keyHash P (Str.ofString "min"), (.str (Str.ofString "min") 37), (.builtin "min")⟩, ⟨PyData.keyHash P (Str.ofString "next"), (.str (Str.ofString "next") 38), (.builtin "next")⟩, ⟨PyData.keyHash P (Str.ofString "anext"), (.str (Str.ofString "anext") 39), (.builtin "anext")⟩, ⟨PyData.keyHash P (Str.ofString "oct"), (.str (Str.ofString "oct") 40), (.builtin "oct")⟩, ⟨PyData.keyHash P (Str.ofString "ord"), (.str (Str.ofString "ord") 41), (.builtin "ord")⟩, ⟨PyData.keyHash P (Str.ofString "pow"), (.str (Str.ofString "pow") 42), (.builtin "pow")⟩, ⟨PyData.keyHash P (Str.ofString "print"), (.str (Str.ofString "print") 43), (.builtin "print")⟩, ⟨PyData.keyHash P (Str.ofString "repr"), (.str (Str.ofString "repr") 44), (.builtin "repr")⟩, ⟨PyData.keyHash P (Str.ofString "round"), (.str (Str.ofString "round") 45), (.builtin "round")⟩, ⟨PyData.keyHash P (Str.ofString "setattr"), (.str (Str.ofString "setattr") 46), (.builtin "setattr")⟩, ⟨PyData.keyHash P (Str.ofString "sorted"), (.str (Str.ofString "sorted") 47), (.builtin "sorted")⟩, ⟨PyData.keyHash P (Str.ofString "sum"), (.str (Str.ofString "sum") 48), (.builtin "sum")⟩, ⟨PyData.keyHash P (Str.ofString "vars"), (.str (Str.ofString "vars") 49), (.builtin "vars")⟩, ⟨PyData.keyHash P (Str.ofString "None"), (.str (Str.ofString "None") 50), .none⟩, ⟨PyData.keyHash P (Str.ofString "Ellipsis"), (.str (Str.ofString "Ellipsis") 51), .ellipsis⟩, ⟨PyData.keyHash P (Str.ofString "NotImplemented"), (.str (Str.ofString "NotImplemented") 52), .notImplemented⟩, ⟨PyData.keyHash P (Str.ofString "False"), (.str (Str.ofString "False") 53), (.bool false)⟩, ⟨PyData.keyHash P (Str.ofString "True"), (.str (Str.ofString "True") 54), (.bool true)⟩, ⟨PyData.keyHash P (Str.ofString "bool"), (.str (Str.ofString "bool") 55), (.type "bool")⟩, ⟨PyData.keyHash P (Str.ofString "memoryview"), (.str (Str.ofString "memoryview") 56), (.type "memoryview")⟩, ⟨PyData.keyHash P (Str.ofString "bytearray"), (.str (Str.ofString "bytearray") 57), (.type "bytearray")⟩, ⟨PyData.keyHash P (Str.ofString "bytes"), (.str (Str.ofString "bytes") 58), (.type "bytes")⟩, ⟨PyData.keyHash P (Str.ofString "classmethod"), (.str (Str.ofString "classmethod") 59), (.type "classmethod")⟩, ⟨PyData.keyHash P (Str.ofString "complex"), (.str (Str.ofString "complex") 60), (.type "complex")⟩, ⟨PyData.keyHash P (Str.ofString "dict"), (.str (Str.ofString "dict") 61), (.type "dict")⟩, ⟨PyData.keyHash P (Str.ofString "enumerate"), (.str (Str.ofString "enumerate") 62), (.type "enumerate")⟩, ⟨PyData.keyHash P (Str.ofString "filter"), (.str (Str.ofString "filter") 63), (.type "filter")⟩, ⟨PyData.keyHash P (Str.ofString "float"), (.str (Str.ofString "float") 64), (.type "float")⟩, ⟨PyData.keyHash P (Str.ofString "frozenset"), (.str (Str.ofString "frozenset") 65), (.type "frozenset")⟩, ⟨PyData.keyHash P (Str.ofString "property"), (.str (Str.ofString "property") 66), (.type "property")⟩, ⟨PyData.keyHash P (Str.ofString "int"), (.str (Str.ofString "int") 67), (.type "int")⟩, ⟨PyData.keyHash P (Str.ofString "list"), (.str (Str.ofString "list") 68), (.type "list")⟩, ⟨PyData.keyHash P (Str.ofString "map"), (.str (Str.ofString "map") 69), (.type "map")⟩, ⟨PyData.keyHash P (Str.ofString "object"), (.str (Str.ofString "object") 70), (.type "object")⟩, ⟨PyData.keyHash P (Str.ofString "range"), (.str (Str.ofString "range") 71), (.type "range")⟩, ⟨PyData.keyHash P (Str.ofString "reversed"), (.str (Str.ofString "reversed") 72), (.type "reversed")⟩, ⟨PyData.keyHash P (Str.ofString "set"), (.str (Str.ofString "set") 73), (.type "set")⟩, ⟨PyData.keyHash P (Str.ofString "slice"), (.str (Str.ofString "slice") 74), (.type "slice")⟩, ⟨PyData.keyHash P (Str.ofString "staticmethod"), (.str (Str.ofString "staticmethod") 75), (.type "staticmethod")⟩, ⟨PyData.keyHash P (Str.ofString "str"), (.str (Str.ofString "str") 76), (.type "str")⟩, ⟨PyData.keyHash P (Str.ofString "super"), (.str (Str.ofString "super") 77), (.type "super")⟩, ⟨PyData.keyHash P (Str.ofString "tuple"), (.str (Str.ofString "tuple") 78), (.type "tuple")⟩, ⟨PyData.keyHash P (Str.ofString "type"), (.str (Str.ofString "type") 79), (.type "type")⟩, ⟨PyData.keyHash P (Str.ofString "zip"), (.str (Str.ofString "zip") 80), (.type "zip")⟩, ⟨PyData.keyHash P (Str.ofString "__debug__"), (.str (Str.ofString "__debug__") 81), (.bool true)⟩, ⟨PyData.keyHash P (Str.ofString "BaseException"), (.str (Str.ofString "BaseException") 82), (.type "BaseException")⟩, ⟨PyData.keyHash P (Str.ofString "BaseExceptionGroup"), (.str (Str.ofString "BaseExceptionGroup") 83), (.type "BaseExceptionGroup")⟩, ⟨PyData.keyHash P (Str.ofString "Exception"), (.str (Str.ofString "Exception") 84), (.type "Exception")⟩, ⟨PyData.keyHash P (Str.ofString "GeneratorExit"), (.str (Str.ofString "GeneratorExit") 85), (.type "GeneratorExit")⟩, ⟨PyData.keyHash P (Str.ofString "KeyboardInterrupt"), (.str (Str.ofString "KeyboardInterrupt") 86), (.type "KeyboardInterrupt")⟩, ⟨PyData.keyHash P (Str.ofString "SystemExit"), (.str (Str.ofString "SystemExit") 87), (.type "SystemExit")⟩, ⟨PyData.keyHash P (Str.ofString "ArithmeticError"), (.str (Str.ofString "ArithmeticError") 88), (.type "ArithmeticError")⟩, ⟨PyData.keyHash P (Str.ofString "AssertionError"), (.str (Str.ofString "AssertionError") 89), (.type "AssertionError")⟩, ⟨PyData.keyHash P (Str.ofString "AttributeError"), (.str (Str.ofString "AttributeError") 90), (.type "AttributeError")⟩, ⟨PyData.keyHash P (Str.ofString "BufferError"), (.str (Str.ofString "BufferError") 91), (.type "BufferError")⟩, ⟨PyData.keyHash P (Str.ofString "EOFError"), (.str (Str.ofString "EOFError") 92), (.type "EOFError")⟩, ⟨PyData.keyHash P (Str.ofString "ImportError"), (.str (Str.ofString "ImportError") 93), (.type "ImportError")⟩, ⟨PyData.keyHash P (Str.ofString "LookupError"), (.str (Str.ofString "LookupError") 94), (.type "LookupError")⟩, ⟨PyData.keyHash P (Str.ofString "MemoryError"), (.str (Str.ofString "MemoryError") 95), (.type "MemoryError")⟩, ⟨PyData.keyHash P (Str.ofString "NameError"), (.str (Str.ofString "NameError") 96), (.type "NameError")⟩, ⟨PyData.keyHash P (Str.ofString "OSError"), (.str (Str.ofString "OSError") 97), (.type "OSError")⟩, ⟨PyData.keyHash P (Str.ofString "ReferenceError"), (.str (Str.ofString "ReferenceError") 98), (.type "ReferenceError")⟩, ⟨PyData.keyHash P (Str.ofString "RuntimeError"), (.str (Str.ofString "RuntimeError") 99), (.type "RuntimeError")⟩, ⟨PyData.keyHash P (Str.ofString "StopAsyncIteration"), (.str (Str.ofString "StopAsyncIteration") 100), (.type "StopAsyncIteration")⟩, ⟨PyData.keyHash P (Str.ofString "StopIteration"), (.str (Str.ofString "StopIteration") 101), (.type "StopIteration")⟩, ⟨PyData.keyHash P (Str.ofString "SyntaxError"), (.str (Str.ofString "SyntaxError") 102), (.type "SyntaxError")⟩, ⟨PyData.keyHash P (Str.ofString "SystemError"), (.str (Str.ofString "SystemError") 103), (.type "SystemError")⟩, ⟨PyData.keyHash P (Str.ofString "TypeError"), (.str (Str.ofString "TypeError") 104), (.type "TypeError")⟩, ⟨PyData.keyHash P (Str.ofString "ValueError"), (.str (Str.ofString "ValueError") 105), (.type "ValueError")⟩, ⟨PyData.keyHash P (Str.ofString "Warning"), (.str (Str.ofString "Warning") 106), (.type "Warning")⟩, ⟨PyData.keyHash P (Str.ofString "FloatingPointError"), (.str (Str.ofString "FloatingPointError") 107), (.type "FloatingPointError")⟩, ⟨PyData.keyHash P (Str.ofString "OverflowError"), (.str (Str.ofString "OverflowError") 108), (.type "OverflowError")⟩, ⟨PyData.keyHash P (Str.ofString "ZeroDivisionError"), (.str (Str.ofString "ZeroDivisionError") 109), (.type "ZeroDivisionError")⟩, ⟨PyData.keyHash P (Str.ofString "BytesWarning"), (.str (Str.ofString "BytesWarning") 110), (.type "BytesWarning")⟩, ⟨PyData.keyHash P (Str.ofString "DeprecationWarning"), (.str (Str.ofString "DeprecationWarning") 111), (.type "DeprecationWarning")⟩, ⟨PyData.keyHash P (Str.ofString "EncodingWarning"), (.str (Str.ofString "EncodingWarning") 112), (.type "EncodingWarning")⟩, ⟨PyData.keyHash P (Str.ofString "FutureWarning"), (.str (Str.ofString "FutureWarning") 113), (.type "FutureWarning")⟩, ⟨PyData.keyHash P (Str.ofString "ImportWarning"), (.str (Str.ofString "ImportWarning") 114), (.type "ImportWarning")⟩, ⟨PyData.keyHash P (Str.ofString "PendingDeprecationWarning"), (.str (Str.ofString "PendingDeprecationWarning") 115), (.type "PendingDeprecationWarning")⟩, ⟨PyData.keyHash P (Str.ofString "ResourceWarning"), (.str (Str.ofString "ResourceWarning") 116), (.type "ResourceWarning")⟩, ⟨PyData.keyHash P (Str.ofString "RuntimeWarning"), (.str (Str.ofString "RuntimeWarning") 117), (.type "RuntimeWarning")⟩, ⟨PyData.keyHash P (Str.ofString "SyntaxWarning"), (.str (Str.ofString "SyntaxWarning") 118), (.type "SyntaxWarning")⟩, ⟨PyData.keyHash P (Str.ofString "UnicodeWarning"), (.str (Str.ofString "UnicodeWarning") 119), (.type "UnicodeWarning")⟩, ⟨PyData.keyHash P (Str.ofString "UserWarning"), (.str (Str.ofString "UserWarning") 120), (.type "UserWarning")⟩, ⟨PyData.keyHash P (Str.ofString "BlockingIOError"), (.str (Str.ofString "BlockingIOError") 121), (.type "BlockingIOError")⟩, ⟨PyData.keyHash P (Str.ofString "ChildProcessError"), (.str (Str.ofString "ChildProcessError") 122), (.type "ChildProcessError")⟩, ⟨PyData.keyHash P (Str.ofString "ConnectionError"), (.str (Str.ofString "ConnectionError") 123), (.type "ConnectionError")⟩, ⟨PyData.keyHash P (Str.ofString "FileExistsError"), (.str (Str.ofString "FileExistsError") 124), (.type "FileExistsError")⟩, ⟨PyData.keyHash P (Str.ofString "FileNotFoundError"), (.str (Str.ofString "FileNotFoundError") 125), (.type "FileNotFoundError")⟩, ⟨PyData.keyHash P (Str.ofString "InterruptedError"), (.str (Str.ofString "InterruptedError") 126), (.type "InterruptedError")⟩, ⟨PyData.keyHash P (Str.ofString "IsADirectoryError"), (.str (Str.ofString "IsADirectoryError") 127), (.type "IsADirectoryError")⟩, ⟨PyData.keyHash P (Str.ofString "NotADirectoryError"), (.str (Str.ofString "NotADirectoryError") 128), (.type "NotADirectoryError")⟩, ⟨PyData.keyHash P (Str.ofString "PermissionError"), (.str (Str.ofString "PermissionError") 129), (.type "PermissionError")⟩, ⟨PyData.keyHash P (Str.ofString "ProcessLookupError"), (.str (Str.ofString "ProcessLookupError") 130), (.type "ProcessLookupError")⟩, ⟨PyData.keyHash P (Str.ofString "TimeoutError"), (.str (Str.ofString "TimeoutError") 131), (.type "TimeoutError")⟩, ⟨PyData.keyHash P (Str.ofString "IndentationError"), (.str (Str.ofString "IndentationError") 132), (.type "IndentationError")⟩, ⟨PyData.keyHash P (Str.ofString "_IncompleteInputError"), (.str (Str.ofString "_IncompleteInputError") 133), (.type "_IncompleteInputError")⟩, ⟨PyData.keyHash P (Str.ofString "IndexError"), (.str (Str.ofString "IndexError") 134), (.type "IndexError")⟩, ⟨PyData.keyHash P (Str.ofString "KeyError"), (.str (Str.ofString "KeyError") 135), (.type "KeyError")⟩, ⟨PyData.keyHash P (Str.ofString "ModuleNotFoundError"), (.str (Str.ofString "ModuleNotFoundError") 136), (.type "ModuleNotFoundError")⟩, ⟨PyData.keyHash P (Str.ofString "NotImplementedError"), (.str (Str.ofString "NotImplementedError") 137), (.type "NotImplementedError")⟩, ⟨PyData.keyHash P (Str.ofString "PythonFinalizationError"), (.str (Str.ofString "PythonFinalizationError") 138), (.type "PythonFinalizationError")⟩, ⟨PyData.keyHash P (Str.ofString "RecursionError"), (.str (Str.ofString "RecursionError") 139), (.type "RecursionError")⟩, ⟨PyData.keyHash P (Str.ofString "UnboundLocalError"), (.str (Str.ofString "UnboundLocalError") 140), (.type "UnboundLocalError")⟩, ⟨PyData.keyHash P (Str.ofString "UnicodeError"), (.str (Str.ofString "UnicodeError") 141), (.type "UnicodeError")⟩, ⟨PyData.keyHash P (Str.ofString "BrokenPipeError"), (.str (Str.ofString "BrokenPipeError") 142), (.type "BrokenPipeError")⟩, ⟨PyData.keyHash P (Str.ofString "ConnectionAbortedError"), (.str (Str.ofString "ConnectionAbortedError") 143), (.type "ConnectionAbortedError")⟩, ⟨PyData.keyHash P (Str.ofString "ConnectionRefusedError"), (.str (Str.ofString "ConnectionRefusedError") 144), (.type "ConnectionRefusedError")⟩, ⟨PyData.keyHash P (Str.ofString "ConnectionResetError"), (.str (Str.ofString "ConnectionResetError") 145), (.type "ConnectionResetError")⟩, ⟨PyData.keyHash P (Str.ofString "TabError"), (.str (Str.ofString "TabError") 146), (.type "TabError")⟩, ⟨PyData.keyHash P (Str.ofString "UnicodeDecodeError"), (.str (Str.ofString "UnicodeDecodeError") 147), (.type "UnicodeDecodeError")⟩, ⟨PyData.keyHash P (Str.ofString "UnicodeEncodeError"), (.str (Str.ofString "UnicodeEncodeError") 148), (.type "UnicodeEncodeError")⟩, ⟨PyData.keyHash P (Str.ofString "UnicodeTranslateError"), (.str (Str.ofString "UnicodeTranslateError") 149), (.type "UnicodeTranslateError")⟩, ⟨PyData.keyHash P (Str.ofString "ExceptionGroup"), (.str (Str.ofString "ExceptionGroup") 150), (.type "ExceptionGroup")⟩, ⟨PyData.keyHash P (Str.ofString "EnvironmentError"), (.str (Str.ofString "EnvironmentError") 151), (.type "OSError")⟩, ⟨PyData.keyHash P (Str.ofString "IOError"), (.str (Str.ofString "IOError") 152), (.type "OSError")⟩, ⟨PyData.keyHash P (Str.ofString "open"), (.str (Str.ofString "open") 153), (.builtin "open")⟩, ⟨PyData.keyHash P (Str.ofString "quit"), (.str (Str.ofString "quit") 154), (.builtin "builtins.quit#opaque")⟩, ⟨PyData.keyHash P (Str.ofString "exit"), (.str (Str.ofString "exit") 155), (.builtin "builtins.exit#opaque")⟩, ⟨PyData.keyHash P (Str.ofString "copyright"), (.str (Str.ofString "copyright") 156), (.builtin "builtins.copyright#opaque")⟩, ⟨PyData.keyHash P (Str.ofString "credits"), (.str (Str.ofString "credits") 157), (.builtin "builtins.credits#opaque")⟩, ⟨PyData.keyHash P (Str.ofString "license"), (.str (Str.ofString "license") 158), (.builtin "builtins.license#opaque")⟩, ⟨PyData.keyHash P (Str.ofString "help"), (.str (Str.ofString "help") 159), (.builtin "builtins.help#opaque")⟩] 159), #[]⟩
noncomputable def o1 (P : Params) : Obj := ⟨(.type "dict"), none, (.dict #[⟨PyData.keyHash P (Str.ofString "builtins"), (.str (Str.ofString "builtins") 162), (.ref 4)⟩, ⟨PyData.keyHash P (Str.ofString "__main__"), (.str (Str.ofString "__main__") 163), (.ref 5)⟩, ⟨PyData.keyHash P (Str.ofString "_sre"), (.str (Str.ofString "_sre") 244), (.ref 12)⟩] 3), #[]⟩
noncomputable def o2 (P : Params) : Obj := ⟨.none, none, (.dict #[⟨PyData.keyHash P (Str.ofString "imp\x6frt.loaded._sre"), (.str (Str.ofString "imp\x6frt.loaded._sre") 183), (.bool true)⟩, ⟨PyData.keyHash P (Str.ofString "class._frozen_importlib.BuiltinImporter"), (.str (Str.ofString "class._frozen_importlib.BuiltinImporter") 185), (.ref 14)⟩, ⟨PyData.keyHash P (Str.ofString "watched.imp\x6frt"), (.str (Str.ofString "watched.imp\x6frt") 206), (.ref 18)⟩, ⟨PyData.keyHash P (Str.ofString "class._frozen_importlib.ModuleSpec"), (.str (Str.ofString "class._frozen_importlib.ModuleSpec") 216), (.ref 22)⟩, ⟨PyData.keyHash P (Str.ofString "sys.modules.booked-epoch"), (.str (Str.ofString "sys.modules.booked-epoch") 245), (.int 3 0)⟩, ⟨PyData.keyHash P (Str.ofString "imp\x6frt.later-laid._sre"), (.str (Str.ofString "imp\x6frt.later-laid._sre") 270), (.bool true)⟩, ⟨PyData.keyHash P (Str.ofString "watched.library"), (.str (Str.ofString "watched.library") 272), (.ref 27)⟩, ⟨PyData.keyHash P (Str.ofString "watched.library-objects"), (.str (Str.ofString "watched.library-objects") 0), (.str (Str.mk #[12]) 0)⟩, ⟨PyData.keyHash P (Str.ofString "watched.library-deep._sre"), (.str (Str.ofString "watched.library-deep._sre") 273), (.str (Str.mk #[4, 0, 0, 11, 4, 0, 0, 11, 4, 0, 0, 3, 4, 0, 0, 11, 8, 4, 100, 105, 99, 116, 2]) 0)⟩] 9), #[]⟩
noncomputable def o3 (P : Params) : Obj := ⟨(.type "dict"), none, (.dict #[⟨PyData.keyHash P (Str.ofString "__name__"), (.str (Str.ofString "__name__") 165), (.str (Str.ofString "law_wf0074_01") 988)⟩, ⟨PyData.keyHash P (Str.ofString "__doc__"), (.str (Str.ofString "__doc__") 166), .none⟩, ⟨PyData.keyHash P (Str.ofString "__package__"), (.str (Str.ofString "__package__") 167), .none⟩, ⟨PyData.keyHash P (Str.ofString "__loader__"), (.str (Str.ofString "__loader__") 168), (.builtin "__main__.__loader__#opaque")⟩, ⟨PyData.keyHash P (Str.ofString "__spec__"), (.str (Str.ofString "__spec__") 169), .none⟩, ⟨PyData.keyHash P (Str.ofString "__annotations__"), (.str (Str.ofString "__annotations__") 170), (.ref 6)⟩, ⟨PyData.keyHash P (Str.ofString "__builtins__"), (.str (Str.ofString "__builtins__") 171), (.ref 4)⟩, ⟨PyData.keyHash P (Str.ofString "__file__"), (.str (Str.ofString "__file__") 173), (.str (Str.ofString "/claim/cut.py") 172)⟩, ⟨PyData.keyHash P (Str.ofString "__cached__"), (.str (Str.ofString "__cached__") 174), .none⟩, ⟨PyData.keyHash P (Str.ofString "_sre"), (.str (Str.ofString "_sre") 275), (.ref 12)⟩, ⟨PyData.keyHash P (Str.ofString "_wall"), (.str (Str.ofString "_wall") 288), (.ref 38)⟩, ⟨PyData.keyHash P (Str.ofString "b1_set"), (.str (Str.ofString "b1_set") 350), (.ref 46)⟩, ⟨PyData.keyHash P (Str.ofString "in_table_b1"), (.str (Str.ofString "in_table_b1") 357), (.ref 56)⟩, ⟨PyData.keyHash P (Str.ofString "in_table_c11"), (.str (Str.ofString "in_table_c11") 364), (.ref 63)⟩, ⟨PyData.keyHash P (Str.ofString "in_table_c4"), (.str (Str.ofString "in_table_c4") 372), (.ref 70)⟩, ⟨PyData.keyHash P (Str.ofString "c6_set"), (.str (Str.ofString "c6_set") 386), (.ref 72)⟩, ⟨PyData.keyHash P (Str.ofString "in_table_c6"), (.str (Str.ofString "in_table_c6") 393), (.ref 82)⟩, ⟨PyData.keyHash P (Str.ofString "c7_set"), (.str (Str.ofString "c7_set") 421), (.ref 84)⟩, ⟨PyData.keyHash P (Str.ofString "in_table_c7"), (.str (Str.ofString "in_table_c7") 428), (.ref 94)⟩, ⟨PyData.keyHash P (Str.ofString "c8_set"), (.str (Str.ofString "c8_set") 469), (.ref 108)⟩, ⟨PyData.keyHash P (Str.ofString "in_table_c8"), (.str (Str.ofString "in_table_c8") 476), (.ref 118)⟩, ⟨PyData.keyHash P (Str.ofString "c9_set"), (.str (Str.ofString "c9_set") 676), (.ref 126)⟩, ⟨PyData.keyHash P (Str.ofString "in_table_c9"), (.str (Str.ofString "in_table_c9") 683), (.ref 136)⟩, ⟨PyData.keyHash P (Str.ofString "rgb_to_hsv"), (.str (Str.ofString "rgb_to_hsv") 703), (.ref 143)⟩, ⟨PyData.keyHash P (Str.ofString "hsv_to_rgb"), (.str (Str.ofString "hsv_to_rgb") 717), (.ref 150)⟩, ⟨PyData.keyHash P (Str.ofString "COMPILER_FLAG_NAMES"), (.str (Str.ofString "COMPILER_FLAG_NAMES") 750), (.ref 151)⟩, ⟨PyData.keyHash P (Str.ofString "pretty_flags"), (.str (Str.ofString "pretty_flags") 760), (.ref 158)⟩, ⟨PyData.keyHash P (Str.ofString "_parse_varint"), (.str (Str.ofString "_parse_varint") 769), (.ref 165)⟩, ⟨PyData.keyHash P (Str.ofString "_name_disallowed_re"), (.str (Str.ofString "_name_disallowed_re") 797), (.ref 170)⟩, ⟨PyData.keyHash P (Str.ofString "_value_disallowed_re"), (.str (Str.ofString "_value_disallowed_re") 831), (.ref 175)⟩, ⟨PyData.keyHash P (Str.ofString "Headers"), (.str (Str.ofString "Headers") 987), (.ref 298)⟩, ⟨PyData.keyHash P (Str.ofString "_law_signs"), (.str (Str.ofString "_law_signs") 995), (.ref 307)⟩, ⟨PyData.keyHash P (Str.ofString "_law_tape"), (.str (Str.ofString "_law_tape") 1006), (.ref 314)⟩, ⟨PyData.keyHash P (Str.ofString "_law_seats"), (.str (Str.ofString "_law_seats") 1012), (.ref 319)⟩, ⟨PyData.keyHash P (Str.ofString "_law_heard"), (.str (Str.ofString "_law_heard") 1023), (.ref 326)⟩, ⟨PyData.keyHash P (Str.ofString "_law_says"), (.str (Str.ofString "_law_says") 1044), (.ref 333)⟩, ⟨PyData.keyHash P (Str.ofString "_law_unlucky"), (.str (Str.ofString "_law_unlucky") 1050), (.ref 338)⟩, ⟨PyData.keyHash P (Str.ofString "law"), (.str (Str.ofString "law") 1056), (.ref 343)⟩] 38), #[]⟩
noncomputable def o4 (P : Params) : Obj := ⟨(.type "module"), (some 0), .plain, #[]⟩
noncomputable def o5 (P : Params) : Obj := ⟨(.type "module"), (some 3), .plain, #[]⟩
noncomputable def o6 (P : Params) : Obj := ⟨(.type "dict"), none, (.dict #[] 0), #[]⟩
noncomputable def o7 (P : Params) : Obj := ⟨(.type "tuple"), none, (.seq #[] 0), #[]⟩
noncomputable def o8 (P : Params) : Obj := ⟨.none, none, (.fields #[]), #[]⟩
noncomputable def o9 (P : Params) : Obj := ⟨(.type "code"), none, (.fields #[(.str (Str.ofString "<module>") 176), (.str (Str.ofString "<module>") 177), (.str (Str.ofString "/claim/cut.py") 178), (.int 1 0), (.int 0 0), (.int 0 0), (.int 0 0), (.int 0 0), (.ref 7), (.bool false), (.int 175 0), (.ref 8), .none, .none, .none, .none, (.int 179 0), (.int 1 0), (.str (Str.ofString "/claim/cut.py") 180)]), #[]⟩
noncomputable def o10 (P : Params) : Obj := ⟨(.type "frame"), none, .plain, #[(some (.ref 9)), (some (.ref 3)), (some (.ref 3)), none, (some (.str (Str.ofString "__main__") 164)), none, (some (.ref 0))]⟩
noncomputable def o11 (P : Params) : Obj := ⟨(.type "dict"), none, (.dict #[⟨PyData.keyHash P (Str.ofString "__name__"), (.str (Str.ofString "__name__") 247), (.str (Str.ofString "_sre") 246)⟩, ⟨PyData.keyHash P (Str.ofString "__doc__"), (.str (Str.ofString "__doc__") 248), .none⟩, ⟨PyData.keyHash P (Str.ofString "__package__"), (.str (Str.ofString "__package__") 250), (.str (Str.ofString "") 249)⟩, ⟨PyData.keyHash P (Str.ofString "__loader__"), (.str (Str.ofString "__loader__") 251), (.builtin "off-the-table:_sre.__loader__:shared#opaque")⟩, ⟨PyData.keyHash P (Str.ofString "__spec__"), (.str (Str.ofString "__spec__") 252), (.builtin "off-the-table:_sre.__spec__:shared#opaque")⟩, ⟨PyData.keyHash P (Str.ofString "compile"), (.str (Str.ofString "compile") 253), (.builtin "_sre.compile")⟩, ⟨PyData.keyHash P (Str.ofString "template"), (.str (Str.ofString "template") 254), (.builtin "off-the-table:_sre.template:shared#opaque")⟩, ⟨PyData.keyHash P (Str.ofString "getcodesize"), (.str (Str.ofString "getcodesize") 255), (.builtin "off-the-table:_sre.getcodesize:shared#opaque")⟩, ⟨PyData.keyHash P (Str.ofString "ascii_iscased"), (.str (Str.ofString "ascii_iscased") 256), (.builtin "off-the-table:_sre.ascii_iscased:shared#opaque")⟩, ⟨PyData.keyHash P (Str.ofString "unicode_iscased"), (.str (Str.ofString "unicode_iscased") 257), (.builtin "off-the-table:_sre.unicode_iscased:shared#opaque")⟩, ⟨PyData.keyHash P (Str.ofString "ascii_tolower"), (.str (Str.ofString "ascii_tolower") 258), (.builtin "off-the-table:_sre.ascii_tolower:shared#opaque")⟩, ⟨PyData.keyHash P (Str.ofString "unicode_tolower"), (.str (Str.ofString "unicode_tolower") 259), (.builtin "off-the-table:_sre.unicode_tolower:shared#opaque")⟩, ⟨PyData.keyHash P (Str.ofString "MAGIC"), (.str (Str.ofString "MAGIC") 261), (.int 20230612 260)⟩, ⟨PyData.keyHash P (Str.ofString "CODESIZE"), (.str (Str.ofString "CODESIZE") 263), (.int 4 262)⟩, ⟨PyData.keyHash P (Str.ofString "MAXREPEAT"), (.str (Str.ofString "MAXREPEAT") 265), (.int 4294967295 264)⟩, ⟨PyData.keyHash P (Str.ofString "MAXGROUPS"), (.str (Str.ofString "MAXGROUPS") 267), (.int 1073741823 266)⟩, ⟨PyData.keyHash P (Str.ofString "copyright"), (.str (Str.ofString "copyright") 269), (.str (Str.ofString " SRE 2.2.2 Copyright (c) 1997-2002 by Secret Labs AB ") 268)⟩] 17), #[]⟩
noncomputable def o12 (P : Params) : Obj := ⟨(.type "module"), (some 11), .plain, #[]⟩
noncomputable def o13 (P : Params) : Obj := ⟨(.type "dict"), none, (.dict #[⟨PyData.keyHash P (Str.ofString "__module__"), (.str (Str.ofString "__module__") 189), (.str (Str.ofString "_frozen_importlib") 186)⟩, ⟨PyData.keyHash P (Str.ofString "__firstlineno__"), (.str (Str.ofString "__firstlineno__") 190), (.int 971 187)⟩, ⟨PyData.keyHash P (Str.ofString "__doc__"), (.str (Str.ofString "__doc__") 191), (.builtin "_frozen_importlib.BuiltinImporter.__doc__:str#opaque")⟩, ⟨PyData.keyHash P (Str.ofString "_ORIGIN"), (.str (Str.ofString "_ORIGIN") 192), (.str (Str.ofString "built-in") 188)⟩, ⟨PyData.keyHash P (Str.ofString "find_spec"), (.str (Str.ofString "find_spec") 193), (.builtin "_frozen_importlib.BuiltinImporter.find_spec#opaque")⟩, ⟨PyData.keyHash P (Str.ofString "create_module"), (.str (Str.ofString "create_module") 194), (.builtin "_frozen_importlib.BuiltinImporter.create_module#opaque")⟩, ⟨PyData.keyHash P (Str.ofString "exec_module"), (.str (Str.ofString "exec_module") 195), (.builtin "_frozen_importlib.BuiltinImporter.exec_module#opaque")⟩, ⟨PyData.keyHash P (Str.ofString "get_code"), (.str (Str.ofString "get_code") 196), (.builtin "_frozen_importlib.BuiltinImporter.get_code#opaque")⟩, ⟨PyData.keyHash P (Str.ofString "get_source"), (.str (Str.ofString "get_source") 197), (.builtin "_frozen_importlib.BuiltinImporter.get_source#opaque")⟩, ⟨PyData.keyHash P (Str.ofString "is_package"), (.str (Str.ofString "is_package") 198), (.builtin "_frozen_importlib.BuiltinImporter.is_package#opaque")⟩, ⟨PyData.keyHash P (Str.ofString "load_module"), (.str (Str.ofString "load_module") 199), (.builtin "_frozen_importlib.BuiltinImporter.load_module#opaque")⟩, ⟨PyData.keyHash P (Str.ofString "__static_attributes__"), (.str (Str.ofString "__static_attributes__") 200), (.ref 15)⟩, ⟨PyData.keyHash P (Str.ofString "__dict__"), (.str (Str.ofString "__dict__") 202), (.ref 16)⟩, ⟨PyData.keyHash P (Str.ofString "__weakref__"), (.str (Str.ofString "__weakref__") 204), (.ref 17)⟩] 14), #[]⟩
noncomputable def o14 (P : Params) : Obj := ⟨(.type "type"), none, (Data.cls { name := (Str.ofString "BuiltinImporter"), bases := [(.type "object")], mro := [(.ref 14), (.type "object")], ns := 13, qualname := (Str.ofString "BuiltinImporter"), hasDict := true, slotNames := [], subclasses := [], abstract := false, collection := none, hasDel := false }), #[]⟩
noncomputable def o15 (P : Params) : Obj := ⟨(.type "tuple"), none, (.seq #[] 0), #[]⟩
noncomputable def o16 (P : Params) : Obj := ⟨(.type "getset_descriptor"), none, (.fields #[(.str (Str.ofString "__dict__") 201), (.ref 14), (.builtin "function.__dict__"), (.builtin "function.__dict__#set")]), #[]⟩
noncomputable def o17 (P : Params) : Obj := ⟨(.type "getset_descriptor"), none, (.fields #[(.str (Str.ofString "__weakref__") 203), (.ref 14), (.builtin "ExceptionGroup.__weakref__"), .none]), #[]⟩
noncomputable def o18 (P : Params) : Obj := ⟨.none, none, (.seq #[(.int 13 0), (.str (Str.mk #[6, 189, 10, 95, 95, 109, 111, 100, 117, 108, 101, 95, 95, 6, 186, 17, 95, 102, 114, 111, 122, 101, 110, 95, 105, 109, 112, 111, 114, 116, 108, 105, 98, 6, 190, 15, 95, 95, 102, 105, 114, 115, 116, 108, 105, 110, 101, 110, 111, 95, 95, 4, 187, 0, 971, 6, 191, 7, 95, 95, 100, 111, 99, 95, 95, 9, 52, 95, 102, 114, 111, 122, 101, 110, 95, 105, 109, 112, 111, 114, 116, 108, 105, 98, 46, 66, 117, 105, 108, 116, 105, 110, 73, 109, 112, 111, 114, 116, 101, 114, 46, 95, 95, 100, 111, 99, 95, 95, 58, 115, 116, 114, 35, 111, 112, 97, 113, 117, 101, 6, 192, 7, 95, 79, 82, 73, 71, 73, 78, 6, 188, 8, 98, 117, 105, 108, 116, 45, 105, 110, 6, 193, 9, 102, 105, 110, 100, 95, 115, 112, 101, 99, 9, 50, 95, 102, 114, 111, 122, 101, 110, 95, 105, 109, 112, 111, 114, 116, 108, 105, 98, 46, 66, 117, 105, 108, 116, 105, 110, 73, 109, 112, 111, 114, 116, 101, 114, 46, 102, 105, 110, 100, 95, 115, 112, 101, 99, 35, 111, 112, 97, 113, 117, 101, 6, 194, 13, 99, 114, 101, 97, 116, 101, 95, 109, 111, 100, 117, 108, 101, 9, 54, 95, 102, 114, 111, 122, 101, 110, 95, 105, 109, 112, 111, 114, 116, 108, 105, 98, 46, 66, 117, 105, 108, 116, 105, 110, 73, 109, 112, 111, 114, 116, 101, 114, 46, 99, 114, 101, 97, 116, 101, 95, 109, 111, 100, 117, 108, 101, 35, 111, 112, 97, 113, 117, 101, 6, 195, 11, 101, 120, 101, 99, 95, 109, 111, 100, 117, 108, 101, 9, 52, 95, 102, 114, 111, 122, 101, 110, 95, 105, 109, 112, 111, 114, 116, 108, 105, 98, 46, 66, 117, 105, 108, 116, 105, 110, 73, 109, 112, 111, 114, 116, 101, 114, 46, 101, 120, 101, 99, 95, 109, 111, 100, 117, 108, 101, 35, 111, 112, 97, 113, 117, 101, 6, 196, 8, 103, 101, 116, 95, 99, 111, 100, 101, 9, 49, 95, 102, 114, 111, 122, 101, 110, 95, 105, 109, 112, 111, 114, 116, 108, 105, 98, 46, 66, 117, 105, 108, 116, 105, 110, 73, 109, 112, 111, 114, 116, 101, 114, 46, 103, 101, 116, 95, 99, 111, 100, 101, 35, 111, 112, 97, 113, 117, 101, 6, 197, 10, 103, 101, 116, 95, 115, 111, 117, 114, 99, 101, 9, 51, 95, 102, 114, 111, 122, 101, 110, 95, 105, 109, 112, 111, 114, 116, 108, 105, 98, 46, 66, 117, 105, 108, 116, 105, 110, 73, 109, 112, 111, 114, 116, 101, 114, 46, 103, 101, 116, 95, 115, 111, 117, 114, 99, 101, 35, 111, 112, 97, 113, 117, 101, 6, 198, 10, 105, 115, 95, 112, 97, 99, 107, 97, 103, 101, 9, 51, 95, 102, 114, 111, 122, 101, 110, 95, 105, 109, 112, 111, 114, 116, 108, 105, 98, 46, 66, 117, 105, 108, 116, 105, 110, 73, 109, 112, 111, 114, 116, 101, 114, 46, 105, 115, 95, 112, 97, 99, 107, 97, 103, 101, 35, 111, 112, 97, 113, 117, 101, 6, 199, 11, 108, 111, 97, 100, 95, 109, 111, 100, 117, 108, 101, 9, 52, 95, 102, 114, 111, 122, 101, 110, 95, 105, 109, 112, 111, 114, 116, 108, 105, 98, 46, 66, 117, 105, 108, 116, 105, 110, 73, 109, 112, 111, 114, 116, 101, 114, 46, 108, 111, 97, 100, 95, 109, 111, 100, 117, 108, 101, 35, 111, 112, 97, 113, 117, 101, 6, 200, 21, 95, 95, 115, 116, 97, 116, 105, 99, 95, 97, 116, 116, 114, 105, 98, 117, 116, 101, 115, 95, 95, 4, 0, 0, 15, 6, 202, 8, 95, 95, 100, 105, 99, 116, 95, 95, 4, 0, 0, 16, 6, 204, 11, 95, 95, 119, 101, 97, 107, 114, 101, 102, 95, 95, 4, 0, 0, 17]) 0), (.bool true), (.bool true), (.str (Str.ofString "") 205), (.int 21 0), (.str (Str.mk #[6, 227, 10, 95, 95, 109, 111, 100, 117, 108, 101, 95, 95, 6, 217, 17, 95, 102, 114, 111, 122, 101, 110, 95, 105, 109, 112, 111, 114, 116, 108, 105, 98, 6, 228, 15, 95, 95, 102, 105, 114, 115, 116, 108, 105, 110, 101, 110, 111, 95, 95, 4, 218, 0, 562, 6, 229, 7, 95, 95, 100, 111, 99, 95, 95, 9, 47, 95, 102, 114, 111, 122, 101, 110, 95, 105, 109, 112, 111, 114, 116, 108, 105, 98, 46, 77, 111, 100, 117, 108, 101, 83, 112, 101, 99, 46, 95, 95, 100, 111, 99, 95, 95, 58, 115, 116, 114, 35, 111, 112, 97, 113, 117, 101, 6, 230, 8, 95, 95, 105, 110, 105, 116, 95, 95, 9, 44, 95, 102, 114, 111, 122, 101, 110, 95, 105, 109, 112, 111, 114, 116, 108, 105, 98, 46, 77, 111, 100, 117, 108, 101, 83, 112, 101, 99, 46, 95, 95, 105, 110, 105, 116, 95, 95, 35, 111, 112, 97, 113, 117, 101, 6, 231, 8, 95, 95, 114, 101, 112, 114, 95, 95, 9, 44, 95, 102, 114, 111, 122, 101, 110, 95, 105, 109, 112, 111, 114, 116, 108, 105, 98, 46, 77, 111, 100, 117, 108, 101, 83, 112, 101, 99, 46, 95, 95, 114, 101, 112, 114, 95, 95, 35, 111, 112, 97, 113, 117, 101, 6, 232, 6, 95, 95, 101, 113, 95, 95, 9, 42, 95, 102, 114, 111, 122, 101, 110, 95, 105, 109, 112, 111, 114, 116, 108, 105, 98, 46, 77, 111, 100, 117, 108, 101, 83, 112, 101, 99, 46, 95, 95, 101, 113, 95, 95, 35, 111, 112, 97, 113, 117, 101, 6, 233, 6, 99, 97, 99, 104, 101, 100, 9, 42, 95, 102, 114, 111, 122, 101, 110, 95, 105, 109, 112, 111, 114, 116, 108, 105, 98, 46, 77, 111, 100, 117, 108, 101, 83, 112, 101, 99, 46, 99, 97, 99, 104, 101, 100, 35, 111, 112, 97, 113, 117, 101, 6, 234, 6, 112, 97, 114, 101, 110, 116, 9, 42, 95, 102, 114, 111, 122, 101, 110, 95, 105, 109, 112, 111, 114, 116, 108, 105, 98, 46, 77, 111, 100, 117, 108, 101, 83, 112, 101, 99, 46, 112, 97, 114, 101, 110, 116, 35, 111, 112, 97, 113, 117, 101, 6, 235, 12, 104, 97, 115, 95, 108, 111, 99, 97, 116, 105, 111, 110, 9, 48, 95, 102, 114, 111, 122, 101, 110, 95, 105, 109, 112, 111, 114, 116, 108, 105, 98, 46, 77, 111, 100, 117, 108, 101, 83, 112, 101, 99, 46, 104, 97, 115, 95, 108, 111, 99, 97, 116, 105, 111, 110, 35, 111, 112, 97, 113, 117, 101, 6, 236, 21, 95, 95, 115, 116, 97, 116, 105, 99, 95, 97, 116, 116, 114, 105, 98, 117, 116, 101, 115, 95, 95, 4, 0, 0, 23, 6, 238, 8, 95, 95, 100, 105, 99, 116, 95, 95, 4, 0, 0, 24, 6, 240, 11, 95, 95, 119, 101, 97, 107, 114, 101, 102, 95, 95, 4, 0, 0, 25, 6, 241, 8, 95, 95, 104, 97, 115, 104, 95, 95, 0]) 0), (.bool true), (.bool true), (.str (Str.ofString "") 242)] 1), #[]⟩
noncomputable def o19 (P : Params) : Obj := ⟨(.type "list"), none, (.seq #[] 0), #[]⟩
noncomputable def o20 (P : Params) : Obj := ⟨(.type "dict"), none, (.dict #[⟨PyData.keyHash P (Str.ofString "name"), (.str (Str.ofString "name") 208), (.str (Str.ofString "_sre") 207)⟩, ⟨PyData.keyHash P (Str.ofString "loader"), (.str (Str.ofString "loader") 209), (.ref 14)⟩, ⟨PyData.keyHash P (Str.ofString "origin"), (.str (Str.ofString "origin") 210), (.str (Str.ofString "built-in") 184)⟩, ⟨PyData.keyHash P (Str.ofString "loader_state"), (.str (Str.ofString "loader_state") 211), .none⟩, ⟨PyData.keyHash P (Str.ofString "submodule_search_locations"), (.str (Str.ofString "submodule_search_locations") 212), .none⟩, ⟨PyData.keyHash P (Str.ofString "_uninitialized_submodules"), (.str (Str.ofString "_uninitialized_submodules") 213), (.ref 19)⟩, ⟨PyData.keyHash P (Str.ofString "_set_fileattr"), (.str (Str.ofString "_set_fileattr") 214), (.bool false)⟩, ⟨PyData.keyHash P (Str.ofString "_cached"), (.str (Str.ofString "_cached") 215), .none⟩, ⟨PyData.keyHash P (Str.ofString "_initializing"), (.str (Str.ofString "_initializing") 243), (.bool false)⟩] 9), #[]⟩
noncomputable def o21 (P : Params) : Obj := ⟨(.type "dict"), none, (.dict #[⟨PyData.keyHash P (Str.ofString "__module__"), (.str (Str.ofString "__module__") 227), (.str (Str.ofString "_frozen_importlib") 217)⟩, ⟨PyData.keyHash P (Str.ofString "__firstlineno__"), (.str (Str.ofString "__firstlineno__") 228), (.int 562 218)⟩, ⟨PyData.keyHash P (Str.ofString "__doc__"), (.str (Str.ofString "__doc__") 229), (.builtin "_frozen_importlib.ModuleSpec.__doc__:str#opaque")⟩, ⟨PyData.keyHash P (Str.ofString "__init__"), (.str (Str.ofString "__init__") 230), (.builtin "_frozen_importlib.ModuleSpec.__init__#opaque")⟩, ⟨PyData.keyHash P (Str.ofString "__repr__"), (.str (Str.ofString "__repr__") 231), (.builtin "_frozen_importlib.ModuleSpec.__repr__#opaque")⟩, ⟨PyData.keyHash P (Str.ofString "__eq__"), (.str (Str.ofString "__eq__") 232), (.builtin "_frozen_importlib.ModuleSpec.__eq__#opaque")⟩, ⟨PyData.keyHash P (Str.ofString "cached"), (.str (Str.ofString "cached") 233), (.builtin "_frozen_importlib.ModuleSpec.cached#opaque")⟩, ⟨PyData.keyHash P (Str.ofString "parent"), (.str (Str.ofString "parent") 234), (.builtin "_frozen_importlib.ModuleSpec.parent#opaque")⟩, ⟨PyData.keyHash P (Str.ofString "has_location"), (.str (Str.ofString "has_location") 235), (.builtin "_frozen_importlib.ModuleSpec.has_location#opaque")⟩, ⟨PyData.keyHash P (Str.ofString "__static_attributes__"), (.str (Str.ofString "__static_attributes__") 236), (.ref 23)⟩, ⟨PyData.keyHash P (Str.ofString "__dict__"), (.str (Str.ofString "__dict__") 238), (.ref 24)⟩, ⟨PyData.keyHash P (Str.ofString "__weakref__"), (.str (Str.ofString "__weakref__") 240), (.ref 25)⟩, ⟨PyData.keyHash P (Str.ofString "__hash__"), (.str (Str.ofString "__hash__") 241), .none⟩] 13), #[]⟩
noncomputable def o22 (P : Params) : Obj := ⟨(.type "type"), none, (Data.cls { name := (Str.ofString "ModuleSpec"), bases := [(.type "object")], mro := [(.ref 22), (.type "object")], ns := 21, qualname := (Str.ofString "ModuleSpec"), hasDict := true, slotNames := [], subclasses := [], abstract := false, collection := none, hasDel := false }), #[]⟩
noncomputable def o23 (P : Params) : Obj := ⟨(.type "tuple"), none, (.seq #[(.str (Str.ofString "_cached") 219), (.str (Str.ofString "_set_fileattr") 220), (.str (Str.ofString "_uninitialized_submodules") 221), (.str (Str.ofString "loader") 222), (.str (Str.ofString "loader_state") 223), (.str (Str.ofString "name") 224), (.str (Str.ofString "origin") 225), (.str (Str.ofString "submodule_search_locations") 226)] 0), #[]⟩
noncomputable def o24 (P : Params) : Obj := ⟨(.type "getset_descriptor"), none, (.fields #[(.str (Str.ofString "__dict__") 237), (.ref 22), (.builtin "function.__dict__"), (.builtin "function.__dict__#set")]), #[]⟩
noncomputable def o25 (P : Params) : Obj := ⟨(.type "getset_descriptor"), none, (.fields #[(.str (Str.ofString "__weakref__") 239), (.ref 22), (.builtin "ExceptionGroup.__weakref__"), .none]), #[]⟩
noncomputable def o26 (P : Params) : Obj := ⟨(.ref 22), (some 20), .plain, #[]⟩
noncomputable def o27 (P : Params) : Obj := ⟨.none, none, (.seq #[(.int 11 0), (.str (Str.mk #[6, 247, 8, 95, 95, 110, 97, 109, 101, 95, 95, 6, 246, 4, 95, 115, 114, 101, 6, 248, 7, 95, 95, 100, 111, 99, 95, 95, 0, 6, 250, 11, 95, 95, 112, 97, 99, 107, 97, 103, 101, 95, 95, 6, 249, 0, 6, 251, 10, 95, 95, 108, 111, 97, 100, 101, 114, 95, 95, 4, 0, 0, 14, 6, 252, 8, 95, 95, 115, 112, 101, 99, 95, 95, 4, 0, 0, 26, 6, 253, 7, 99, 111, 109, 112, 105, 108, 101, 9, 12, 95, 115, 114, 101, 46, 99, 111, 109, 112, 105, 108, 101, 6, 254, 8, 116, 101, 109, 112, 108, 97, 116, 101, 9, 13, 95, 115, 114, 101, 46, 116, 101, 109, 112, 108, 97, 116, 101, 6, 255, 11, 103, 101, 116, 99, 111, 100, 101, 115, 105, 122, 101, 9, 16, 95, 115, 114, 101, 46, 103, 101, 116, 99, 111, 100, 101, 115, 105, 122, 101, 6, 256, 13, 97, 115, 99, 105, 105, 95, 105, 115, 99, 97, 115, 101, 100, 9, 18, 95, 115, 114, 101, 46, 97, 115, 99, 105, 105, 95, 105, 115, 99, 97, 115, 101, 100, 6, 257, 15, 117, 110, 105, 99, 111, 100, 101, 95, 105, 115, 99, 97, 115, 101, 100, 9, 20, 95, 115, 114, 101, 46, 117, 110, 105, 99, 111, 100, 101, 95, 105, 115, 99, 97, 115, 101, 100, 6, 258, 13, 97, 115, 99, 105, 105, 95, 116, 111, 108, 111, 119, 101, 114, 9, 18, 95, 115, 114, 101, 46, 97, 115, 99, 105, 105, 95, 116, 111, 108, 111, 119, 101, 114, 6, 259, 15, 117, 110, 105, 99, 111, 100, 101, 95, 116, 111, 108, 111, 119, 101, 114, 9, 20, 95, 115, 114, 101, 46, 117, 110, 105, 99, 111, 100, 101, 95, 116, 111, 108, 111, 119, 101, 114, 6, 261, 5, 77, 65, 71, 73, 67, 4, 260, 0, 20230612, 6, 263, 8, 67, 79, 68, 69, 83, 73, 90, 69, 4, 262, 0, 4, 6, 265, 9, 77, 65, 88, 82, 69, 80, 69, 65, 84, 4, 264, 0, 4294967295, 6, 267, 9, 77, 65, 88, 71, 82, 79, 85, 80, 83, 4, 266, 0, 1073741823, 6, 269, 9, 99, 111, 112, 121, 114, 105, 103, 104, 116, 6, 268, 53, 32, 83, 82, 69, 32, 50, 46, 50, 46, 50, 32, 67, 111, 112, 121, 114, 105, 103, 104, 116, 32, 40, 99, 41, 32, 49, 57, 57, 55, 45, 50, 48, 48, 50, 32, 98, 121, 32, 83, 101, 99, 114, 101, 116, 32, 76, 97, 98, 115, 32, 65, 66, 32]) 0), (.bool true), (.bool false), (.str (Str.ofString "_sre") 271)] 0), #[]⟩
noncomputable def o28 (P : Params) : Obj := ⟨(.type "tuple"), none, (.seq #[] 0), #[]⟩
noncomputable def o29 (P : Params) : Obj := ⟨.none, none, (.fields #[(.int 2 0), (.int 0 0), (.ref 37), (.int 7 0), (.int 0 0), (.ref 55), (.int 9 0), (.int 0 0), (.ref 62), (.int 11 0), (.int 0 0), (.ref 69), (.int 19 0), (.int 0 0), (.ref 81), (.int 22 0), (.int 0 0), (.ref 93), (.int 25 0), (.int 0 0), (.ref 117), (.int 28 0), (.int 0 0), (.ref 135), (.int 31 0), (.int 0 0), (.ref 142), (.int 50 0), (.int 0 0), (.ref 149), (.int 73 0), (.int 0 0), (.ref 157), (.int 85 0), (.int 0 0), (.ref 164), (.int 96 0), (.int 0 0), (.ref 181), (.int 167 0), (.int 0 0), (.ref 306), (.int 177 0), (.int 0 0), (.ref 313), (.int 187 0), (.int 0 0), (.ref 318), (.int 190 0), (.int 0 0), (.ref 325), (.int 203 0), (.int 0 0), (.ref 332), (.int 219 0), (.int 0 0), (.ref 337), (.int 223 0), (.int 0 0), (.ref 342)]), #[]⟩
noncomputable def o30 (P : Params) : Obj := ⟨(.type "code"), none, (.fields #[(.str (Str.ofString "<module>") 277), (.str (Str.ofString "<module>") 278), (.str (Str.ofString "/claim/cut.py") 279), (.int 1 0), (.int 0 0), (.int 0 0), (.int 0 0), (.int 0 0), (.ref 28), (.bool false), (.int 276 0), (.ref 29), .none, .none, .none, .none, (.int 280 0), (.int 1 0), (.str (Str.ofString "/claim/cut.py") 281)]), #[]⟩
noncomputable def o31 (P : Params) : Obj := ⟨(.type "frame"), none, .plain, #[(some (.ref 30)), (some (.ref 3)), (some (.ref 3)), none, (some (.str (Str.ofString "__main__") 164)), none, (some (.ref 0))]⟩
noncomputable def o32 (P : Params) : Obj := ⟨(.type "tuple"), none, (.seq #[] 0), #[]⟩
noncomputable def o33 (P : Params) : Obj := ⟨.none, none, (.fields #[]), #[]⟩
noncomputable def o34 (P : Params) : Obj := ⟨(.type "tuple"), none, (.seq #[(.str (Str.ofString "k") 285)] 0), #[]⟩
noncomputable def o35 (P : Params) : Obj := ⟨(.type "tuple"), none, (.seq #[] 0), #[]⟩
noncomputable def o36 (A : Arguments) (B : List Stmt) (S : Scope) (P : Params) : Obj := ⟨.none, none, (Data.func { name := (Str.ofString "_wall"), qualname := (Str.ofString "_wall"), params := A, body := .stmts B, scope := S, globals := 0, closure := [], defaults := .none, kwdefaults := .none, doc := .none, pyModule := .none, annotations := none, code := .none, closureTuple := .none, builtins := 0 }), #[]⟩
noncomputable def o37 (P : Params) : Obj := ⟨(.type "code"), none, (.fields #[(.str (Str.ofString "_wall") 282), (.str (Str.ofString "_wall") 283), (.str (Str.ofString "/claim/cut.py") 284), (.int 2 0), (.int 1 0), (.int 0 0), (.int 0 0), (.int 3 0), (.ref 32), (.bool true), (.int 276 0), (.ref 33), .none, (.ref 34), (.ref 35), (.ref 36), (.int 286 0), (.int 2 0), (.str (Str.ofString "/claim/cut.py") 287)]), #[]⟩
noncomputable def o38 (A : Arguments) (B : List Stmt) (S : Scope) (P : Params) : Obj := ⟨(.type "function"), none, (Data.func { name := (Str.ofString "_wall"), qualname := (Str.ofString "_wall"), params := A, body := .stmts B, scope := S, globals := 3, closure := [], defaults := .none, kwdefaults := .none, doc := .none, pyModule := (.str (Str.ofString "__main__") 164), annotations := none, code := (.ref 37), closureTuple := .none, builtins := 0 }), #[]⟩
noncomputable def o39 (P : Params) : Obj := ⟨(.type "list"), none, (.seq #[(.int 173 291), (.int 847 292), (.int 6150 293), (.int 6155 294), (.int 6156 295), (.int 6157 296), (.int 8203 297), (.int 8204 298), (.int 8205 299), (.int 8288 300), (.int 65279 301)] 0), #[]⟩
noncomputable def o40 (P : Params) : Obj := ⟨(.type "range"), none, (.fields #[(.int 65024 302), (.int 65040 303), (.int 1 304)]), #[]⟩
noncomputable def o41 (P : Params) : Obj := ⟨(.type "list"), none, (.seq #[(.int 65024 307), (.int 65025 308), (.int 65026 309), (.int 65027 310), (.int 65028 311), (.int 65029 312), (.int 65030 313), (.int 65031 314), (.int 65032 315), (.int 65033 316), (.int 65034 317), (.int 65035 318), (.int 65036 319), (.int 65037 320), (.int 65038 321), (.int 65039 322)] 18), #[]⟩
noncomputable def o42 (P : Params) : Obj := ⟨(.type "range_iterator"), none, (.fields #[(.int 65040 0), (.int 0 0), (.int 1 0)]), #[]⟩
noncomputable def o43 (P : Params) : Obj := ⟨(.type "tuple"), none, (.seq #[] 0), #[]⟩
noncomputable def o44 (P : Params) : Obj := ⟨(.type "StopIteration"), none, (.fields #[(.ref 43), .none, .none, .none, (.bool false), .none]), #[]⟩
noncomputable def o45 (P : Params) : Obj := ⟨(.type "list"), none, (.seq #[(.int 173 291), (.int 847 292), (.int 6150 293), (.int 6155 294), (.int 6156 295), (.int 6157 296), (.int 8203 297), (.int 8204 298), (.int 8205 299), (.int 8288 300), (.int 65279 301), (.int 65024 307), (.int 65025 308), (.int 65026 309), (.int 65027 310), (.int 65028 311), (.int 65029 312), (.int 65030 313), (.int 65031 314), (.int 65032 315), (.int 65033 316), (.int 65034 317), (.int 65035 318), (.int 65036 319), (.int 65037 320), (.int 65038 321), (.int 65039 322)] 0), #[]⟩
noncomputable def o46 (P : Params) : Obj := ⟨(.type "set"), none, (.set #[(65024, (.int 65024 307)), (65025, (.int 65025 308)), (65026, (.int 65026 309)), (65027, (.int 65027 310)), (65028, (.int 65028 311)), (65029, (.int 65029 312)), (6150, (.int 6150 293)), (65030, (.int 65030 313)), (65031, (.int 65031 314)), (65032, (.int 65032 315)), (65033, (.int 65033 316)), (6155, (.int 6155 294)), (6156, (.int 6156 295)), (6157, (.int 6157 296)), (8203, (.int 8203 297)), (8204, (.int 8204 298)), (8205, (.int 8205 299)), (65034, (.int 65034 317)), (65035, (.int 65035 318)), (65036, (.int 65036 319)), (65037, (.int 65037 320)), (65038, (.int 65038 321)), (65039, (.int 65039 322)), (173, (.int 173 291)), (847, (.int 847 292)), (8288, (.int 8288 300)), (65279, (.int 65279 301))] 29 { mask := 127, place := #[0, 1, 2, 3, 4, 5, 6, 7, 8, 9, 10, 11, 12, 13, 14, 15, 16, 17, 18, 19, 20, 21, 22, 45, 79, 96, 127], dummies := #[], finger := 0, led := !P.followText "set-order", moves := 2, plain := true }), #[]⟩
noncomputable def o47 (P : Params) : Obj := ⟨(.type "list_iterator"), none, (.fields #[.none, (.int 27 0)]), #[]⟩
noncomputable def o48 (P : Params) : Obj := ⟨(.type "tuple"), none, (.seq #[] 0), #[]⟩
noncomputable def o49 (P : Params) : Obj := ⟨(.type "StopIteration"), none, (.fields #[(.ref 48), .none, .none, .none, (.bool false), .none]), #[]⟩
noncomputable def o50 (P : Params) : Obj := ⟨(.type "tuple"), none, (.seq #[] 0), #[]⟩
noncomputable def o51 (P : Params) : Obj := ⟨.none, none, (.fields #[]), #[]⟩
noncomputable def o52 (P : Params) : Obj := ⟨(.type "tuple"), none, (.seq #[(.str (Str.ofString "code") 354)] 0), #[]⟩
noncomputable def o53 (P : Params) : Obj := ⟨(.type "tuple"), none, (.seq #[] 0), #[]⟩
noncomputable def o54 (A : Arguments) (B : List Stmt) (S : Scope) (P : Params) : Obj := ⟨.none, none, (Data.func { name := (Str.ofString "in_table_b1"), qualname := (Str.ofString "in_table_b1"), params := A, body := .stmts B, scope := S, globals := 0, closure := [], defaults := .none, kwdefaults := .none, doc := .none, pyModule := .none, annotations := none, code := .none, closureTuple := .none, builtins := 0 }), #[]⟩
noncomputable def o55 (P : Params) : Obj := ⟨(.type "code"), none, (.fields #[(.str (Str.ofString "in_table_b1") 351), (.str (Str.ofString "in_table_b1") 352), (.str (Str.ofString "/claim/cut.py") 353), (.int 7 0), (.int 1 0), (.int 0 0), (.int 0 0), (.int 3 0), (.ref 50), (.bool true), (.int 276 0), (.ref 51), .none, (.ref 52), (.ref 53), (.ref 54), (.int 355 0), (.int 7 0), (.str (Str.ofString "/claim/cut.py") 356)]), #[]⟩
noncomputable def o56 (A : Arguments) (B : List Stmt) (S : Scope) (P : Params) : Obj := ⟨(.type "function"), none, (Data.func { name := (Str.ofString "in_table_b1"), qualname := (Str.ofString "in_table_b1"), params := A, body := .stmts B, scope := S, globals := 3, closure := [], defaults := .none, kwdefaults := .none, doc := .none, pyModule := (.str (Str.ofString "cpy313.stringprep") 289), annotations := none, code := (.ref 55), closureTuple := .none, builtins := 0 }), #[]⟩
noncomputable def o57 (P : Params) : Obj := ⟨(.type "tuple"), none, (.seq #[] 0), #[]⟩
noncomputable def o58 (P : Params) : Obj := ⟨.none, none, (.fields #[]), #[]⟩
noncomputable def o59 (P : Params) : Obj := ⟨(.type "tuple"), none, (.seq #[(.str (Str.ofString "code") 361)] 0), #[]⟩
noncomputable def o60 (P : Params) : Obj := ⟨(.type "tuple"), none, (.seq #[] 0), #[]⟩
noncomputable def o61 (A : Arguments) (B : List Stmt) (S : Scope) (P : Params) : Obj := ⟨.none, none, (Data.func { name := (Str.ofString "in_table_c11"), qualname := (Str.ofString "in_table_c11"), params := A, body := .stmts B, scope := S, globals := 0, closure := [], defaults := .none, kwdefaults := .none, doc := .none, pyModule := .none, annotations := none, code := .none, closureTuple := .none, builtins := 0 }), #[]⟩
noncomputable def o62 (P : Params) : Obj := ⟨(.type "code"), none, (.fields #[(.str (Str.ofString "in_table_c11") 358), (.str (Str.ofString "in_table_c11") 359), (.str (Str.ofString "/claim/cut.py") 360), (.int 9 0), (.int 1 0), (.int 0 0), (.int 0 0), (.int 3 0), (.ref 57), (.bool true), (.int 276 0), (.ref 58), .none, (.ref 59), (.ref 60), (.ref 61), (.int 362 0), (.int 9 0), (.str (Str.ofString "/claim/cut.py") 363)]), #[]⟩
noncomputable def o63 (A : Arguments) (B : List Stmt) (S : Scope) (P : Params) : Obj := ⟨(.type "function"), none, (Data.func { name := (Str.ofString "in_table_c11"), qualname := (Str.ofString "in_table_c11"), params := A, body := .stmts B, scope := S, globals := 3, closure := [], defaults := .none, kwdefaults := .none, doc := .none, pyModule := (.str (Str.ofString "cpy313.stringprep") 289), annotations := none, code := (.ref 62), closureTuple := .none, builtins := 0 }), #[]⟩
noncomputable def o64 (P : Params) : Obj := ⟨(.type "tuple"), none, (.seq #[] 0), #[]⟩
noncomputable def o65 (P : Params) : Obj := ⟨.none, none, (.fields #[]), #[]⟩
noncomputable def o66 (P : Params) : Obj := ⟨(.type "tuple"), none, (.seq #[(.str (Str.ofString "code") 368), (.str (Str.ofString "c") 369)] 0), #[]⟩
noncomputable def o67 (P : Params) : Obj := ⟨(.type "tuple"), none, (.seq #[] 0), #[]⟩
noncomputable def o68 (A : Arguments) (B : List Stmt) (S : Scope) (P : Params) : Obj := ⟨.none, none, (Data.func { name := (Str.ofString "in_table_c4"), qualname := (Str.ofString "in_table_c4"), params := A, body := .stmts B, scope := S, globals := 0, closure := [], defaults := .none, kwdefaults := .none, doc := .none, pyModule := .none, annotations := none, code := .none, closureTuple := .none, builtins := 0 }), #[]⟩
noncomputable def o69 (P : Params) : Obj := ⟨(.type "code"), none, (.fields #[(.str (Str.ofString "in_table_c4") 365), (.str (Str.ofString "in_table_c4") 366), (.str (Str.ofString "/claim/cut.py") 367), (.int 11 0), (.int 1 0), (.int 0 0), (.int 0 0), (.int 3 0), (.ref 64), (.bool true), (.int 276 0), (.ref 65), .none, (.ref 66), (.ref 67), (.ref 68), (.int 370 0), (.int 11 0), (.str (Str.ofString "/claim/cut.py") 371)]), #[]⟩
noncomputable def o70 (A : Arguments) (B : List Stmt) (S : Scope) (P : Params) : Obj := ⟨(.type "function"), none, (Data.func { name := (Str.ofString "in_table_c4"), qualname := (Str.ofString "in_table_c4"), params := A, body := .stmts B, scope := S, globals := 3, closure := [], defaults := .none, kwdefaults := .none, doc := .none, pyModule := (.str (Str.ofString "cpy313.stringprep") 289), annotations := none, code := (.ref 69), closureTuple := .none, builtins := 0 }), #[]⟩
noncomputable def o71 (P : Params) : Obj := ⟨(.type "range"), none, (.fields #[(.int 65529 373), (.int 65534 374), (.int 1 375)]), #[]⟩
noncomputable def o72 (P : Params) : Obj := ⟨(.type "set"), none, (.set #[(65529, (.int 65529 376)), (65530, (.int 65530 378)), (65531, (.int 65531 380)), (65532, (.int 65532 382)), (65533, (.int 65533 384))] 6 { mask := 31, place := #[25, 26, 27, 28, 29], dummies := #[], finger := 0, led := !P.followText "set-order", moves := 1, plain := true }), #[]⟩
noncomputable def o73 (P : Params) : Obj := ⟨(.type "range_iterator"), none, (.fields #[(.int 65534 0), (.int 0 0), (.int 1 0)]), #[]⟩
noncomputable def o74 (P : Params) : Obj := ⟨(.type "tuple"), none, (.seq #[] 0), #[]⟩
noncomputable def o75 (P : Params) : Obj := ⟨(.type "StopIteration"), none, (.fields #[(.ref 74), .none, .none, .none, (.bool false), .none]), #[]⟩
noncomputable def o76 (P : Params) : Obj := ⟨(.type "tuple"), none, (.seq #[] 0), #[]⟩
noncomputable def o77 (P : Params) : Obj := ⟨.none, none, (.fields #[]), #[]⟩
noncomputable def o78 (P : Params) : Obj := ⟨(.type "tuple"), none, (.seq #[(.str (Str.ofString "code") 390)] 0), #[]⟩
noncomputable def o79 (P : Params) : Obj := ⟨(.type "tuple"), none, (.seq #[] 0), #[]⟩
noncomputable def o80 (A : Arguments) (B : List Stmt) (S : Scope) (P : Params) : Obj := ⟨.none, none, (Data.func { name := (Str.ofString "in_table_c6"), qualname := (Str.ofString "in_table_c6"), params := A, body := .stmts B, scope := S, globals := 0, closure := [], defaults := .none, kwdefaults := .none, doc := .none, pyModule := .none, annotations := none, code := .none, closureTuple := .none, builtins := 0 }), #[]⟩
noncomputable def o81 (P : Params) : Obj := ⟨(.type "code"), none, (.fields #[(.str (Str.ofString "in_table_c6") 387), (.str (Str.ofString "in_table_c6") 388), (.str (Str.ofString "/claim/cut.py") 389), (.int 19 0), (.int 1 0), (.int 0 0), (.int 0 0), (.int 3 0), (.ref 76), (.bool true), (.int 276 0), (.ref 77), .none, (.ref 78), (.ref 79), (.ref 80), (.int 391 0), (.int 19 0), (.str (Str.ofString "/claim/cut.py") 392)]), #[]⟩
noncomputable def o82 (A : Arguments) (B : List Stmt) (S : Scope) (P : Params) : Obj := ⟨(.type "function"), none, (Data.func { name := (Str.ofString "in_table_c6"), qualname := (Str.ofString "in_table_c6"), params := A, body := .stmts B, scope := S, globals := 3, closure := [], defaults := .none, kwdefaults := .none, doc := .none, pyModule := (.str (Str.ofString "cpy313.stringprep") 289), annotations := none, code := (.ref 81), closureTuple := .none, builtins := 0 }), #[]⟩
noncomputable def o83 (P : Params) : Obj := ⟨(.type "range"), none, (.fields #[(.int 12272 394), (.int 12284 395), (.int 1 396)]), #[]⟩
noncomputable def o84 (P : Params) : Obj := ⟨(.type "set"), none, (.set #[(12272, (.int 12272 397)), (12273, (.int 12273 399)), (12274, (.int 12274 401)), (12275, (.int 12275 403)), (12276, (.int 12276 405)), (12277, (.int 12277 407)), (12278, (.int 12278 409)), (12279, (.int 12279 411)), (12280, (.int 12280 413)), (12281, (.int 12281 415)), (12282, (.int 12282 417)), (12283, (.int 12283 419))] 13 { mask := 31, place := #[16, 17, 18, 19, 20, 21, 22, 23, 24, 25, 26, 27], dummies := #[], finger := 0, led := !P.followText "set-order", moves := 1, plain := true }), #[]⟩
noncomputable def o85 (P : Params) : Obj := ⟨(.type "range_iterator"), none, (.fields #[(.int 12284 0), (.int 0 0), (.int 1 0)]), #[]⟩
noncomputable def o86 (P : Params) : Obj := ⟨(.type "tuple"), none, (.seq #[] 0), #[]⟩
noncomputable def o87 (P : Params) : Obj := ⟨(.type "StopIteration"), none, (.fields #[(.ref 86), .none, .none, .none, (.bool false), .none]), #[]⟩
noncomputable def o88 (P : Params) : Obj := ⟨(.type "tuple"), none, (.seq #[] 0), #[]⟩
noncomputable def o89 (P : Params) : Obj := ⟨.none, none, (.fields #[]), #[]⟩
noncomputable def o90 (P : Params) : Obj := ⟨(.type "tuple"), none, (.seq #[(.str (Str.ofString "code") 425)] 0), #[]⟩
noncomputable def o91 (P : Params) : Obj := ⟨(.type "tuple"), none, (.seq #[] 0), #[]⟩
noncomputable def o92 (A : Arguments) (B : List Stmt) (S : Scope) (P : Params) : Obj := ⟨.none, none, (Data.func { name := (Str.ofString "in_table_c7"), qualname := (Str.ofString "in_table_c7"), params := A, body := .stmts B, scope := S, globals := 0, closure := [], defaults := .none, kwdefaults := .none, doc := .none, pyModule := .none, annotations := none, code := .none, closureTuple := .none, builtins := 0 }), #[]⟩
noncomputable def o93 (P : Params) : Obj := ⟨(.type "code"), none, (.fields #[(.str (Str.ofString "in_table_c7") 422), (.str (Str.ofString "in_table_c7") 423), (.str (Str.ofString "/claim/cut.py") 424), (.int 22 0), (.int 1 0), (.int 0 0), (.int 0 0), (.int 3 0), (.ref 88), (.bool true), (.int 276 0), (.ref 89), .none, (.ref 90), (.ref 91), (.ref 92), (.int 426 0), (.int 22 0), (.str (Str.ofString "/claim/cut.py") 427)]), #[]⟩
noncomputable def o94 (A : Arguments) (B : List Stmt) (S : Scope) (P : Params) : Obj := ⟨(.type "function"), none, (Data.func { name := (Str.ofString "in_table_c7"), qualname := (Str.ofString "in_table_c7"), params := A, body := .stmts B, scope := S, globals := 3, closure := [], defaults := .none, kwdefaults := .none, doc := .none, pyModule := (.str (Str.ofString "cpy313.stringprep") 289), annotations := none, code := (.ref 93), closureTuple := .none, builtins := 0 }), #[]⟩
noncomputable def o95 (P : Params) : Obj := ⟨(.type "list"), none, (.seq #[(.int 832 429), (.int 833 430), (.int 8206 431), (.int 8207 432)] 0), #[]⟩
noncomputable def o96 (P : Params) : Obj := ⟨(.type "range"), none, (.fields #[(.int 8234 433), (.int 8239 434), (.int 1 435)]), #[]⟩
noncomputable def o97 (P : Params) : Obj := ⟨(.type "list"), none, (.seq #[(.int 8234 438), (.int 8235 439), (.int 8236 440), (.int 8237 441), (.int 8238 442)] 7), #[]⟩
noncomputable def o98 (P : Params) : Obj := ⟨(.type "range_iterator"), none, (.fields #[(.int 8239 0), (.int 0 0), (.int 1 0)]), #[]⟩
noncomputable def o99 (P : Params) : Obj := ⟨(.type "tuple"), none, (.seq #[] 0), #[]⟩
noncomputable def o100 (P : Params) : Obj := ⟨(.type "StopIteration"), none, (.fields #[(.ref 99), .none, .none, .none, (.bool false), .none]), #[]⟩
noncomputable def o101 (P : Params) : Obj := ⟨(.type "list"), none, (.seq #[(.int 832 429), (.int 833 430), (.int 8206 431), (.int 8207 432), (.int 8234 438), (.int 8235 439), (.int 8236 440), (.int 8237 441), (.int 8238 442)] 0), #[]⟩
noncomputable def o102 (P : Params) : Obj := ⟨(.type "range"), none, (.fields #[(.int 8298 443), (.int 8304 444), (.int 1 445)]), #[]⟩
noncomputable def o103 (P : Params) : Obj := ⟨(.type "list"), none, (.seq #[(.int 8298 448), (.int 8299 449), (.int 8300 450), (.int 8301 451), (.int 8302 452), (.int 8303 453)] 8), #[]⟩
noncomputable def o104 (P : Params) : Obj := ⟨(.type "range_iterator"), none, (.fields #[(.int 8304 0), (.int 0 0), (.int 1 0)]), #[]⟩
noncomputable def o105 (P : Params) : Obj := ⟨(.type "tuple"), none, (.seq #[] 0), #[]⟩
noncomputable def o106 (P : Params) : Obj := ⟨(.type "StopIteration"), none, (.fields #[(.ref 105), .none, .none, .none, (.bool false), .none]), #[]⟩
noncomputable def o107 (P : Params) : Obj := ⟨(.type "list"), none, (.seq #[(.int 832 429), (.int 833 430), (.int 8206 431), (.int 8207 432), (.int 8234 438), (.int 8235 439), (.int 8236 440), (.int 8237 441), (.int 8238 442), (.int 8298 448), (.int 8299 449), (.int 8300 450), (.int 8301 451), (.int 8302 452), (.int 8303 453)] 0), #[]⟩
noncomputable def o108 (P : Params) : Obj := ⟨(.type "set"), none, (.set #[(832, (.int 832 429)), (833, (.int 833 430)), (8234, (.int 8234 438)), (8235, (.int 8235 439)), (8236, (.int 8236 440)), (8237, (.int 8237 441)), (8206, (.int 8206 431)), (8207, (.int 8207 432)), (8238, (.int 8238 442)), (8298, (.int 8298 448)), (8299, (.int 8299 449)), (8300, (.int 8300 450)), (8301, (.int 8301 451)), (8302, (.int 8302 452)), (8303, (.int 8303 453))] 16 { mask := 31, place := #[0, 1, 10, 11, 12, 13, 14, 15, 16, 17, 18, 19, 20, 21, 22], dummies := #[], finger := 0, led := !P.followText "set-order", moves := 1, plain := true }), #[]⟩
noncomputable def o109 (P : Params) : Obj := ⟨(.type "list_iterator"), none, (.fields #[.none, (.int 15 0)]), #[]⟩
noncomputable def o110 (P : Params) : Obj := ⟨(.type "tuple"), none, (.seq #[] 0), #[]⟩
noncomputable def o111 (P : Params) : Obj := ⟨(.type "StopIteration"), none, (.fields #[(.ref 110), .none, .none, .none, (.bool false), .none]), #[]⟩
noncomputable def o112 (P : Params) : Obj := ⟨(.type "tuple"), none, (.seq #[] 0), #[]⟩
noncomputable def o113 (P : Params) : Obj := ⟨.none, none, (.fields #[]), #[]⟩
noncomputable def o114 (P : Params) : Obj := ⟨(.type "tuple"), none, (.seq #[(.str (Str.ofString "code") 473)] 0), #[]⟩
noncomputable def o115 (P : Params) : Obj := ⟨(.type "tuple"), none, (.seq #[] 0), #[]⟩
noncomputable def o116 (A : Arguments) (B : List Stmt) (S : Scope) (P : Params) : Obj := ⟨.none, none, (Data.func { name := (Str.ofString "in_table_c8"), qualname := (Str.ofString "in_table_c8"), params := A, body := .stmts B, scope := S, globals := 0, closure := [], defaults := .none, kwdefaults := .none, doc := .none, pyModule := .none, annotations := none, code := .none, closureTuple := .none, builtins := 0 }), #[]⟩
noncomputable def o117 (P : Params) : Obj := ⟨(.type "code"), none, (.fields #[(.str (Str.ofString "in_table_c8") 470), (.str (Str.ofString "in_table_c8") 471), (.str (Str.ofString "/claim/cut.py") 472), (.int 25 0), (.int 1 0), (.int 0 0), (.int 0 0), (.int 3 0), (.ref 112), (.bool true), (.int 276 0), (.ref 113), .none, (.ref 114), (.ref 115), (.ref 116), (.int 474 0), (.int 25 0), (.str (Str.ofString "/claim/cut.py") 475)]), #[]⟩
noncomputable def o118 (A : Arguments) (B : List Stmt) (S : Scope) (P : Params) : Obj := ⟨(.type "function"), none, (Data.func { name := (Str.ofString "in_table_c8"), qualname := (Str.ofString "in_table_c8"), params := A, body := .stmts B, scope := S, globals := 3, closure := [], defaults := .none, kwdefaults := .none, doc := .none, pyModule := (.str (Str.ofString "cpy313.stringprep") 289), annotations := none, code := (.ref 117), closureTuple := .none, builtins := 0 }), #[]⟩
noncomputable def o119 (P : Params) : Obj := ⟨(.type "list"), none, (.seq #[(.int 917505 477)] 0), #[]⟩
noncomputable def o120 (P : Params) : Obj := ⟨(.type "range"), none, (.fields #[(.int 917536 478), (.int 917632 479), (.int 1 480)]), #[]⟩
noncomputable def o121 (P : Params) : Obj := ⟨(.type "list"), none, (.seq #[(.int 917536 483), (.int 917537 484), (.int 917538 485), (.int 917539 486), (.int 917540 487), (.int 917541 488), (.int 917542 489), (.int 917543 490), (.int 917544 491), (.int 917545 492), (.int 917546 493), (.int 917547 494), (.int 917548 495), (.int 917549 496), (.int 917550 497), (.int 917551 498), (.int 917552 499), (.int 917553 500), (.int 917554 501), (.int 917555 502), (.int 917556 503), (.int 917557 504), (.int 917558 505), (.int 917559 506), (.int 917560 507), (.int 917561 508), (.int 917562 509), (.int 917563 510), (.int 917564 511), (.int 917565 512), (.int 917566 513), (.int 917567 514), (.int 917568 515), (.int 917569 516), (.int 917570 517), (.int 917571 518), (.int 917572 519), (.int 917573 520), (.int 917574 521), (.int 917575 522), (.int 917576 523), (.int 917577 524), (.int 917578 525), (.int 917579 526), (.int 917580 527), (.int 917581 528), (.int 917582 529), (.int 917583 530), (.int 917584 531), (.int 917585 532), (.int 917586 533), (.int 917587 534), (.int 917588 535), (.int 917589 536), (.int 917590 537), (.int 917591 538), (.int 917592 539), (.int 917593 540), (.int 917594 541), (.int 917595 542), (.int 917596 543), (.int 917597 544), (.int 917598 545), (.int 917599 546), (.int 917600 547), (.int 917601 548), (.int 917602 549), (.int 917603 550), (.int 917604 551), (.int 917605 552), (.int 917606 553), (.int 917607 554), (.int 917608 555), (.int 917609 556), (.int 917610 557), (.int 917611 558), (.int 917612 559), (.int 917613 560), (.int 917614 561), (.int 917615 562), (.int 917616 563), (.int 917617 564), (.int 917618 565), (.int 917619 566), (.int 917620 567), (.int 917621 568), (.int 917622 569), (.int 917623 570), (.int 917624 571), (.int 917625 572), (.int 917626 573), (.int 917627 574), (.int 917628 575), (.int 917629 576), (.int 917630 577), (.int 917631 578)] 98), #[]⟩
noncomputable def o122 (P : Params) : Obj := ⟨(.type "range_iterator"), none, (.fields #[(.int 917632 0), (.int 0 0), (.int 1 0)]), #[]⟩
noncomputable def o123 (P : Params) : Obj := ⟨(.type "tuple"), none, (.seq #[] 0), #[]⟩
noncomputable def o124 (P : Params) : Obj := ⟨(.type "StopIteration"), none, (.fields #[(.ref 123), .none, .none, .none, (.bool false), .none]), #[]⟩
noncomputable def o125 (P : Params) : Obj := ⟨(.type "list"), none, (.seq #[(.int 917505 477), (.int 917536 483), (.int 917537 484), (.int 917538 485), (.int 917539 486), (.int 917540 487), (.int 917541 488), (.int 917542 489), (.int 917543 490), (.int 917544 491), (.int 917545 492), (.int 917546 493), (.int 917547 494), (.int 917548 495), (.int 917549 496), (.int 917550 497), (.int 917551 498), (.int 917552 499), (.int 917553 500), (.int 917554 501), (.int 917555 502), (.int 917556 503), (.int 917557 504), (.int 917558 505), (.int 917559 506), (.int 917560 507), (.int 917561 508), (.int 917562 509), (.int 917563 510), (.int 917564 511), (.int 917565 512), (.int 917566 513), (.int 917567 514), (.int 917568 515), (.int 917569 516), (.int 917570 517), (.int 917571 518), (.int 917572 519), (.int 917573 520), (.int 917574 521), (.int 917575 522), (.int 917576 523), (.int 917577 524), (.int 917578 525), (.int 917579 526), (.int 917580 527), (.int 917581 528), (.int 917582 529), (.int 917583 530), (.int 917584 531), (.int 917585 532), (.int 917586 533), (.int 917587 534), (.int 917588 535), (.int 917589 536), (.int 917590 537), (.int 917591 538), (.int 917592 539), (.int 917593 540), (.int 917594 541), (.int 917595 542), (.int 917596 543), (.int 917597 544), (.int 917598 545), (.int 917599 546), (.int 917600 547), (.int 917601 548), (.int 917602 549), (.int 917603 550), (.int 917604 551), (.int 917605 552), (.int 917606 553), (.int 917607 554), (.int 917608 555), (.int 917609 556), (.int 917610 557), (.int 917611 558), (.int 917612 559), (.int 917613 560), (.int 917614 561), (.int 917615 562), (.int 917616 563), (.int 917617 564), (.int 917618 565), (.int 917619 566), (.int 917620 567), (.int 917621 568), (.int 917622 569), (.int 917623 570), (.int 917624 571), (.int 917625 572), (.int 917626 573), (.int 917627 574), (.int 917628 575), (.int 917629 576), (.int 917630 577), (.int 917631 578)] 0), #[]⟩
noncomputable def o126 (P : Params) : Obj := ⟨(.type "set"), none, (.set #[(917505, (.int 917505 477)), (917536, (.int 917536 483)), (917537, (.int 917537 484)), (917538, (.int 917538 485)), (917539, (.int 917539 486)), (917540, (.int 917540 487)), (917541, (.int 917541 488)), (917542, (.int 917542 489)), (917543, (.int 917543 490)), (917544, (.int 917544 491)), (917545, (.int 917545 492)), (917546, (.int 917546 493)), (917547, (.int 917547 494)), (917548, (.int 917548 495)), (917549, (.int 917549 496)), (917550, (.int 917550 497)), (917551, (.int 917551 498)), (917552, (.int 917552 499)), (917553, (.int 917553 500)), (917554, (.int 917554 501)), (917555, (.int 917555 502)), (917556, (.int 917556 503)), (917557, (.int 917557 504)), (917558, (.int 917558 505)), (917559, (.int 917559 506)), (917560, (.int 917560 507)), (917561, (.int 917561 508)), (917562, (.int 917562 509)), (917563, (.int 917563 510)), (917564, (.int 917564 511)), (917565, (.int 917565 512)), (917566, (.int 917566 513)), (917567, (.int 917567 514)), (917568, (.int 917568 515)), (917569, (.int 917569 516)), (917570, (.int 917570 517)), (917571, (.int 917571 518)), (917572, (.int 917572 519)), (917573, (.int 917573 520)), (917574, (.int 917574 521)), (917575, (.int 917575 522)), (917576, (.int 917576 523)), (917577, (.int 917577 524)), (917578, (.int 917578 525)), (917579, (.int 917579 526)), (917580, (.int 917580 527)), (917581, (.int 917581 528)), (917582, (.int 917582 529)), (917583, (.int 917583 530)), (917584, (.int 917584 531)), (917585, (.int 917585 532)), (917586, (.int 917586 533)), (917587, (.int 917587 534)), (917588, (.int 917588 535)), (917589, (.int 917589 536)), (917590, (.int 917590 537)), (917591, (.int 917591 538)), (917592, (.int 917592 539)), (917593, (.int 917593 540)), (917594, (.int 917594 541)), (917595, (.int 917595 542)), (917596, (.int 917596 543)), (917597, (.int 917597 544)), (917598, (.int 917598 545)), (917599, (.int 917599 546)), (917600, (.int 917600 547)), (917601, (.int 917601 548)), (917602, (.int 917602 549)), (917603, (.int 917603 550)), (917604, (.int 917604 551)), (917605, (.int 917605 552)), (917606, (.int 917606 553)), (917607, (.int 917607 554)), (917608, (.int 917608 555)), (917609, (.int 917609 556)), (917610, (.int 917610 557)), (917611, (.int 917611 558)), (917612, (.int 917612 559)), (917613, (.int 917613 560)), (917614, (.int 917614 561)), (917615, (.int 917615 562)), (917616, (.int 917616 563)), (917617, (.int 917617 564)), (917618, (.int 917618 565)), (917619, (.int 917619 566)), (917620, (.int 917620 567)), (917621, (.int 917621 568)), (917622, (.int 917622 569)), (917623, (.int 917623 570)), (917624, (.int 917624 571)), (917625, (.int 917625 572)), (917626, (.int 917626 573)), (917627, (.int 917627 574)), (917628, (.int 917628 575)), (917629, (.int 917629 576)), (917630, (.int 917630 577)), (917631, (.int 917631 578))] 100 { mask := 511, place := #[1, 32, 33, 34, 35, 36, 37, 38, 39, 40, 41, 42, 43, 44, 45, 46, 47, 48, 49, 50, 51, 52, 53, 54, 55, 56, 57, 58, 59, 60, 61, 62, 63, 64, 65, 66, 67, 68, 69, 70, 71, 72, 73, 74, 75, 76, 77, 78, 79, 80, 81, 82, 83, 84, 85, 86, 87, 88, 89, 90, 91, 92, 93, 94, 95, 96, 97, 98, 99, 100, 101, 102, 103, 104, 105, 106, 107, 108, 109, 110, 111, 112, 113, 114, 115, 116, 117, 118, 119, 120, 121, 122, 123, 124, 125, 126, 127], dummies := #[], finger := 0, led := !P.followText "set-order", moves := 3, plain := true }), #[]⟩
noncomputable def o127 (P : Params) : Obj := ⟨(.type "list_iterator"), none, (.fields #[.none, (.int 97 0)]), #[]⟩
noncomputable def o128 (P : Params) : Obj := ⟨(.type "tuple"), none, (.seq #[] 0), #[]⟩
noncomputable def o129 (P : Params) : Obj := ⟨(.type "StopIteration"), none, (.fields #[(.ref 128), .none, .none, .none, (.bool false), .none]), #[]⟩
noncomputable def o130 (P : Params) : Obj := ⟨(.type "tuple"), none, (.seq #[] 0), #[]⟩
noncomputable def o131 (P : Params) : Obj := ⟨.none, none, (.fields #[]), #[]⟩
noncomputable def o132 (P : Params) : Obj := ⟨(.type "tuple"), none, (.seq #[(.str (Str.ofString "code") 680)] 0), #[]⟩
noncomputable def o133 (P : Params) : Obj := ⟨(.type "tuple"), none, (.seq #[] 0), #[]⟩
noncomputable def o134 (A : Arguments) (B : List Stmt) (S : Scope) (P : Params) : Obj := ⟨.none, none, (Data.func { name := (Str.ofString "in_table_c9"), qualname := (Str.ofString "in_table_c9"), params := A, body := .stmts B, scope := S, globals := 0, closure := [], defaults := .none, kwdefaults := .none, doc := .none, pyModule := .none, annotations := none, code := .none, closureTuple := .none, builtins := 0 }), #[]⟩
noncomputable def o135 (P : Params) : Obj := ⟨(.type "code"), none, (.fields #[(.str (Str.ofString "in_table_c9") 677), (.str (Str.ofString "in_table_c9") 678), (.str (Str.ofString "/claim/cut.py") 679), (.int 28 0), (.int 1 0), (.int 0 0), (.int 0 0), (.int 3 0), (.ref 130), (.bool true), (.int 276 0), (.ref 131), .none, (.ref 132), (.ref 133), (.ref 134), (.int 681 0), (.int 28 0), (.str (Str.ofString "/claim/cut.py") 682)]), #[]⟩
noncomputable def o136 (A : Arguments) (B : List Stmt) (S : Scope) (P : Params) : Obj := ⟨(.type "function"), none, (Data.func { name := (Str.ofString "in_table_c9"), qualname := (Str.ofString "in_table_c9"), params := A, body := .stmts B, scope := S, globals := 3, closure := [], defaults := .none, kwdefaults := .none, doc := .none, pyModule := (.str (Str.ofString "cpy313.stringprep") 289), annotations := none, code := (.ref 135), closureTuple := .none, builtins := 0 }), #[]⟩
noncomputable def o137 (P : Params) : Obj := ⟨(.type "tuple"), none, (.seq #[] 0), #[]⟩
noncomputable def o138 (P : Params) : Obj := ⟨.none, none, (.fields #[]), #[]⟩
noncomputable def o139 (P : Params) : Obj := ⟨(.type "tuple"), none, (.seq #[(.str (Str.ofString "r") 689), (.str (Str.ofString "g") 690), (.str (Str.ofString "b") 691), (.str (Str.ofString "maxc") 692), (.str (Str.ofString "minc") 693), (.str (Str.ofString "rangec") 694), (.str (Str.ofString "v") 695), (.str (Str.ofString "s") 696), (.str (Str.ofString "rc") 697), (.str (Str.ofString "gc") 698), (.str (Str.ofString "bc") 699), (.str (Str.ofString "h") 700)] 0), #[]⟩
noncomputable def o140 (P : Params) : Obj := ⟨(.type "tuple"), none, (.seq #[] 0), #[]⟩
noncomputable def o141 (A : Arguments) (B : List Stmt) (S : Scope) (P : Params) : Obj := ⟨.none, none, (Data.func { name := (Str.ofString "rgb_to_hsv"), qualname := (Str.ofString "rgb_to_hsv"), params := A, body := .stmts B, scope := S, globals := 0, closure := [], defaults := .none, kwdefaults := .none, doc := .none, pyModule := .none, annotations := none, code := .none, closureTuple := .none, builtins := 0 }), #[]⟩
noncomputable def o142 (P : Params) : Obj := ⟨(.type "code"), none, (.fields #[(.str (Str.ofString "rgb_to_hsv") 686), (.str (Str.ofString "rgb_to_hsv") 687), (.str (Str.ofString "/claim/cut.py") 688), (.int 31 0), (.int 3 0), (.int 0 0), (.int 0 0), (.int 3 0), (.ref 137), (.bool true), (.int 276 0), (.ref 138), .none, (.ref 139), (.ref 140), (.ref 141), (.int 701 0), (.int 31 0), (.str (Str.ofString "/claim/cut.py") 702)]), #[]⟩
noncomputable def o143 (A : Arguments) (B : List Stmt) (S : Scope) (P : Params) : Obj := ⟨(.type "function"), none, (Data.func { name := (Str.ofString "rgb_to_hsv"), qualname := (Str.ofString "rgb_to_hsv"), params := A, body := .stmts B, scope := S, globals := 3, closure := [], defaults := .none, kwdefaults := .none, doc := .none, pyModule := (.str (Str.ofString "cpy313.colorsys") 684), annotations := none, code := (.ref 142), closureTuple := .none, builtins := 0 }), #[]⟩
noncomputable def o144 (P : Params) : Obj := ⟨(.type "tuple"), none, (.seq #[] 0), #[]⟩
noncomputable def o145 (P : Params) : Obj := ⟨.none, none, (.fields #[]), #[]⟩
noncomputable def o146 (P : Params) : Obj := ⟨(.type "tuple"), none, (.seq #[(.str (Str.ofString "h") 707), (.str (Str.ofString "s") 708), (.str (Str.ofString "v") 709), (.str (Str.ofString "i") 710), (.str (Str.ofString "f") 711), (.str (Str.ofString "p") 712), (.str (Str.ofString "q") 713), (.str (Str.ofString "t") 714)] 0), #[]⟩
noncomputable def o147 (P : Params) : Obj := ⟨(.type "tuple"), none, (.seq #[] 0), #[]⟩
noncomputable def o148 (A : Arguments) (B : List Stmt) (S : Scope) (P : Params) : Obj := ⟨.none, none, (Data.func { name := (Str.ofString "hsv_to_rgb"), qualname := (Str.ofString "hsv_to_rgb"), params := A, body := .stmts B, scope := S, globals := 0, closure := [], defaults := .none, kwdefaults := .none, doc := .none, pyModule := .none, annotations := none, code := .none, closureTuple := .none, builtins := 0 }), #[]⟩
noncomputable def o149 (P : Params) : Obj := ⟨(.type "code"), none, (.fields #[(.str (Str.ofString "hsv_to_rgb") 704), (.str (Str.ofString "hsv_to_rgb") 705), (.str (Str.ofString "/claim/cut.py") 706), (.int 50 0), (.int 3 0), (.int 0 0), (.int 0 0), (.int 3 0), (.ref 144), (.bool true), (.int 276 0), (.ref 145), .none, (.ref 146), (.ref 147), (.ref 148), (.int 715 0), (.int 50 0), (.str (Str.ofString "/claim/cut.py") 716)]), #[]⟩
noncomputable def o150 (A : Arguments) (B : List Stmt) (S : Scope) (P : Params) : Obj := ⟨(.type "function"), none, (Data.func { name := (Str.ofString "hsv_to_rgb"), qualname := (Str.ofString "hsv_to_rgb"), params := A, body := .stmts B, scope := S, globals := 3, closure := [], defaults := .none, kwdefaults := .none, doc := .none, pyModule := (.str (Str.ofString "cpy313.colorsys") 684), annotations := none, code := (.ref 149), closureTuple := .none, builtins := 0 }), #[]⟩
noncomputable def o151 (P : Params) : Obj := ⟨(.type "dict"), none, (.dict #[⟨1, (.int 1 720), (.str (Str.ofString "OPTIMIZED") 721)⟩, ⟨2, (.int 2 722), (.str (Str.ofString "NEWLOCALS") 723)⟩, ⟨4, (.int 4 724), (.str (Str.ofString "VARARGS") 725)⟩, ⟨8, (.int 8 726), (.str (Str.ofString "VARKEYWORDS") 727)⟩, ⟨16, (.int 16 728), (.str (Str.ofString "NESTED") 729)⟩, ⟨32, (.int 32 730), (.str (Str.ofString "GENERATOR") 731)⟩, ⟨64, (.int 64 732), (.str (Str.ofString "NOFREE") 733)⟩, ⟨128, (.int 128 734), (.str (Str.ofString "COROUTINE") 735)⟩, ⟨256, (.int 256 736), (.str (Str.ofString "ITERABLE_COROUTINE") 737)⟩, ⟨512, (.int 512 738), (.str (Str.ofString "ASYNC_GENERATOR") 739)⟩] 10), #[]⟩
noncomputable def o152 (P : Params) : Obj := ⟨(.type "tuple"), none, (.seq #[] 0), #[]⟩
noncomputable def o153 (P : Params) : Obj := ⟨.none, none, (.fields #[]), #[]⟩
noncomputable def o154 (P : Params) : Obj := ⟨(.type "tuple"), none, (.seq #[(.str (Str.ofString "flags") 754), (.str (Str.ofString "names") 755), (.str (Str.ofString "i") 756), (.str (Str.ofString "flag") 757)] 0), #[]⟩
noncomputable def o155 (P : Params) : Obj := ⟨(.type "tuple"), none, (.seq #[] 0), #[]⟩
noncomputable def o156 (A : Arguments) (B : List Stmt) (S : Scope) (P : Params) : Obj := ⟨.none, none, (Data.func { name := (Str.ofString "pretty_flags"), qualname := (Str.ofString "pretty_flags"), params := A, body := .stmts B, scope := S, globals := 0, closure := [], defaults := .none, kwdefaults := .none, doc := .none, pyModule := .none, annotations := none, code := .none, closureTuple := .none, builtins := 0 }), #[]⟩
noncomputable def o157 (P : Params) : Obj := ⟨(.type "code"), none, (.fields #[(.str (Str.ofString "pretty_flags") 751), (.str (Str.ofString "pretty_flags") 752), (.str (Str.ofString "/claim/cut.py") 753), (.int 73 0), (.int 1 0), (.int 0 0), (.int 0 0), (.int 3 0), (.ref 152), (.bool true), (.int 276 0), (.ref 153), .none, (.ref 154), (.ref 155), (.ref 156), (.int 758 0), (.int 73 0), (.str (Str.ofString "/claim/cut.py") 759)]), #[]⟩
noncomputable def o158 (A : Arguments) (B : List Stmt) (S : Scope) (P : Params) : Obj := ⟨(.type "function"), none, (Data.func { name := (Str.ofString "pretty_flags"), qualname := (Str.ofString "pretty_flags"), params := A, body := .stmts B, scope := S, globals := 3, closure := [], defaults := .none, kwdefaults := .none, doc := .none, pyModule := (.str (Str.ofString "cpy313.dis") 718), annotations := none, code := (.ref 157), closureTuple := .none, builtins := 0 }), #[]⟩
noncomputable def o159 (P : Params) : Obj := ⟨(.type "tuple"), none, (.seq #[] 0), #[]⟩
noncomputable def o160 (P : Params) : Obj := ⟨.none, none, (.fields #[]), #[]⟩
noncomputable def o161 (P : Params) : Obj := ⟨(.type "tuple"), none, (.seq #[(.str (Str.ofString "iterator") 764), (.str (Str.ofString "b") 765), (.str (Str.ofString "val") 766)] 0), #[]⟩
noncomputable def o162 (P : Params) : Obj := ⟨(.type "tuple"), none, (.seq #[] 0), #[]⟩
noncomputable def o163 (A : Arguments) (B : List Stmt) (S : Scope) (P : Params) : Obj := ⟨.none, none, (Data.func { name := (Str.ofString "_parse_varint"), qualname := (Str.ofString "_parse_varint"), params := A, body := .stmts B, scope := S, globals := 0, closure := [], defaults := .none, kwdefaults := .none, doc := .none, pyModule := .none, annotations := none, code := .none, closureTuple := .none, builtins := 0 }), #[]⟩
noncomputable def o164 (P : Params) : Obj := ⟨(.type "code"), none, (.fields #[(.str (Str.ofString "_parse_varint") 761), (.str (Str.ofString "_parse_varint") 762), (.str (Str.ofString "/claim/cut.py") 763), (.int 85 0), (.int 1 0), (.int 0 0), (.int 0 0), (.int 3 0), (.ref 159), (.bool true), (.int 276 0), (.ref 160), .none, (.ref 161), (.ref 162), (.ref 163), (.int 767 0), (.int 85 0), (.str (Str.ofString "/claim/cut.py") 768)]), #[]⟩
noncomputable def o165 (A : Arguments) (B : List Stmt) (S : Scope) (P : Params) : Obj := ⟨(.type "function"), none, (Data.func { name := (Str.ofString "_parse_varint"), qualname := (Str.ofString "_parse_varint"), params := A, body := .stmts B, scope := S, globals := 3, closure := [], defaults := .none, kwdefaults := .none, doc := .none, pyModule := (.str (Str.ofString "cpy313.dis") 718), annotations := none, code := (.ref 164), closureTuple := .none, builtins := 0 }), #[]⟩
noncomputable def o166 (P : Params) : Obj := ⟨(.type "list"), none, (.seq #[(.int 14 775), (.int 10 776), (.int 4 777), (.int 1 778), (.int 1 779), (.int 22 780), (.int 0 781), (.int 31 782), (.int 16 783), (.int 127 784), (.int 0 785), (.int 13 786), (.int 7 787), (.int 22 788), (.int 0 789), (.int 31 790), (.int 16 791), (.int 127 792), (.int 0 793), (.int 1 794)] 0), #[]⟩
noncomputable def o167 (P : Params) : Obj := ⟨(.type "dict"), none, (.dict #[] 0), #[]⟩
noncomputable def o168 (P : Params) : Obj := ⟨(.type "tuple"), none, (.seq #[.none] 0), #[]⟩
noncomputable def o169 (P : Params) : Obj := ⟨(.type "tuple"), none, (.seq #[(.int 14 0), (.int 10 0), (.int 4 0), (.int 1 0), (.int 1 0), (.int 22 0), (.int 0 0), (.int 31 0), (.int 16 0), (.int 127 0), (.int 0 0), (.int 13 0), (.int 7 0), (.int 22 0), (.int 0 0), (.int 31 0), (.int 16 0), (.int 127 0), (.int 0 0), (.int 1 0)] 0), #[]⟩
noncomputable def o170 (P : Params) : Obj := ⟨(.type "re.Pattern"), none, (.fields #[(.str (Str.ofString "[\\x00-\\x1F\\x7F]") 773), (.int 32 796), (.int 0 0), .none, .none, (.ref 169), (.int 0 0)]), #[]⟩
noncomputable def o171 (P : Params) : Obj := ⟨(.type "list"), none, (.seq #[(.int 14 801), (.int 14 802), (.int 4 803), (.int 1 804), (.int 1 805), (.int 9 806), (.int 4294966783 807), (.int 0 808), (.int 0 809), (.int 2147483648 810), (.int 0 811), (.int 0 812), (.int 0 813), (.int 0 814), (.int 0 815), (.int 13 816), (.int 11 817), (.int 9 818), (.int 4294966783 819), (.int 0 820), (.int 0 821), (.int 2147483648 822), (.int 0 823), (.int 0 824), (.int 0 825), (.int 0 826), (.int 0 827), (.int 1 828)] 0), #[]⟩
noncomputable def o172 (P : Params) : Obj := ⟨(.type "dict"), none, (.dict #[] 0), #[]⟩
noncomputable def o173 (P : Params) : Obj := ⟨(.type "tuple"), none, (.seq #[.none] 0), #[]⟩
noncomputable def o174 (P : Params) : Obj := ⟨(.type "tuple"), none, (.seq #[(.int 14 0), (.int 14 0), (.int 4 0), (.int 1 0), (.int 1 0), (.int 9 0), (.int 4294966783 0), (.int 0 0), (.int 0 0), (.int 2147483648 0), (.int 0 0), (.int 0 0), (.int 0 0), (.int 0 0), (.int 0 0), (.int 13 0), (.int 11 0), (.int 9 0), (.int 4294966783 0), (.int 0 0), (.int 0 0), (.int 2147483648 0), (.int 0 0), (.int 0 0), (.int 0 0), (.int 0 0), (.int 0 0), (.int 1 0)] 0), #[]⟩
noncomputable def o175 (P : Params) : Obj := ⟨(.type "re.Pattern"), none, (.fields #[(.str (Str.ofString "[\\x00-\\x08\\x0A-\\x1F\\x7F]") 799), (.int 32 830), (.int 0 0), .none, .none, (.ref 174), (.int 0 0)]), #[]⟩
noncomputable def o176 (P : Params) : Obj := ⟨(.type "tuple"), none, (.seq #[] 0), #[]⟩
noncomputable def o177 (P : Params) : Obj := ⟨(.type "builtin_function_or_method"), none, (.fields #[(.builtin "type.__prepare__"), (.type "type")]), #[]⟩
noncomputable def o178 (P : Params) : Obj := ⟨(.type "dict"), none, (.dict #[⟨PyData.keyHash P (Str.ofString "__module__"), (.str (Str.ofString "__module__") 839), (.str (Str.ofString "cpy313.wsgiref.headers") 770)⟩, ⟨PyData.keyHash P (Str.ofString "__qualname__"), (.str (Str.ofString "__qualname__") 841), (.str (Str.ofString "Headers") 840)⟩, ⟨PyData.keyHash P (Str.ofString "__firstlineno__"), (.str (Str.ofString "__firstlineno__") 843), (.int 96 842)⟩, ⟨PyData.keyHash P (Str.ofString "__init__"), (.str (Str.ofString "__init__") 853), (.ref 190)⟩, ⟨PyData.keyHash P (Str.ofString "_convert_string_type"), (.str (Str.ofString "_convert_string_type") 863), (.ref 197)⟩, ⟨PyData.keyHash P (Str.ofString "__len__"), (.str (Str.ofString "__len__") 870), (.ref 204)⟩, ⟨PyData.keyHash P (Str.ofString "__setitem__"), (.str (Str.ofString "__setitem__") 879), (.ref 211)⟩, ⟨PyData.keyHash P (Str.ofString "__delitem__"), (.str (Str.ofString "__delitem__") 885), (.ref 216)⟩, ⟨PyData.keyHash P (Str.ofString "__getitem__"), (.str (Str.ofString "__getitem__") 893), (.ref 223)⟩, ⟨PyData.keyHash P (Str.ofString "__contains__"), (.str (Str.ofString "__contains__") 901), (.ref 230)⟩, ⟨PyData.keyHash P (Str.ofString "get_all"), (.str (Str.ofString "get_all") 909), (.ref 237)⟩, ⟨PyData.keyHash P (Str.ofString "get"), (.str (Str.ofString "get") 920), (.ref 245)⟩, ⟨PyData.keyHash P (Str.ofString "keys"), (.str (Str.ofString "keys") 926), (.ref 250)⟩, ⟨PyData.keyHash P (Str.ofString "values"), (.str (Str.ofString "values") 932), (.ref 255)⟩, ⟨PyData.keyHash P (Str.ofString "items"), (.str (Str.ofString "items") 939), (.ref 262)⟩, ⟨PyData.keyHash P (Str.ofString "__repr__"), (.str (Str.ofString "__repr__") 946), (.ref 269)⟩, ⟨PyData.keyHash P (Str.ofString "__str__"), (.str (Str.ofString "__str__") 952), (.ref 274)⟩, ⟨PyData.keyHash P (Str.ofString "__bytes__"), (.str (Str.ofString "__bytes__") 959), (.ref 281)⟩, ⟨PyData.keyHash P (Str.ofString "setdefault"), (.str (Str.ofString "setdefault") 968), (.ref 288)⟩, ⟨PyData.keyHash P (Str.ofString "add_header"), (.str (Str.ofString "add_header") 978), (.ref 295)⟩, ⟨PyData.keyHash P (Str.ofString "__static_attributes__"), (.str (Str.ofString "__static_attributes__") 980), (.ref 296)⟩] 21), #[]⟩
noncomputable def o179 (P : Params) : Obj := ⟨(.type "tuple"), none, (.seq #[] 0), #[]⟩
noncomputable def o180 (P : Params) : Obj := ⟨.none, none, (.fields #[(.int 98 0), (.int 4 0), (.ref 189), (.int 108 0), (.int 4 0), (.ref 196), (.int 116 0), (.int 4 0), (.ref 203), (.int 119 0), (.int 4 0), (.ref 210), (.int 123 0), (.int 4 0), (.ref 215), (.int 127 0), (.int 4 0), (.ref 222), (.int 130 0), (.int 4 0), (.ref 229), (.int 133 0), (.int 4 0), (.ref 236), (.int 136 0), (.int 4 0), (.ref 244), (.int 143 0), (.int 4 0), (.ref 249), (.int 146 0), (.int 4 0), (.ref 254), (.int 149 0), (.int 4 0), (.ref 261), (.int 152 0), (.int 4 0), (.ref 268), (.int 155 0), (.int 4 0), (.ref 273), (.int 158 0), (.int 4 0), (.ref 280), (.int 161 0), (.int 4 0), (.ref 287), (.int 164 0), (.int 4 0), (.ref 294)]), #[]⟩
noncomputable def o181 (P : Params) : Obj := ⟨(.type "code"), none, (.fields #[(.str (Str.ofString "Headers") 834), (.str (Str.ofString "Headers") 835), (.str (Str.ofString "/claim/cut.py") 836), (.int 96 0), (.int 0 0), (.int 0 0), (.int 0 0), (.int 0 0), (.ref 179), (.bool false), (.int 276 0), (.ref 180), .none, .none, .none, .none, (.int 837 0), (.int 96 0), (.str (Str.ofString "/claim/cut.py") 838)]), #[]⟩
noncomputable def o182 (P : Params) : Obj := ⟨(.type "frame"), none, .plain, #[(some (.ref 181)), (some (.ref 3)), (some (.ref 178)), none, (some (.str (Str.ofString "cpy313.wsgiref.headers") 770)), none, (some (.ref 0))]⟩
noncomputable def o183 (P : Params) : Obj := ⟨(.type "tuple"), none, (.seq #[.none] 0), #[]⟩
noncomputable def o184 (P : Params) : Obj := ⟨(.type "tuple"), none, (.seq #[] 0), #[]⟩
noncomputable def o185 (P : Params) : Obj := ⟨.none, none, (.fields #[]), #[]⟩
noncomputable def o186 (P : Params) : Obj := ⟨(.type "tuple"), none, (.seq #[(.str (Str.ofString "self") 847), (.str (Str.ofString "headers") 848), (.str (Str.ofString "k") 849), (.str (Str.ofString "v") 850)] 0), #[]⟩
noncomputable def o187 (P : Params) : Obj := ⟨(.type "tuple"), none, (.seq #[] 0), #[]⟩
noncomputable def o188 (A : Arguments) (B : List Stmt) (S : Scope) (P : Params) : Obj := ⟨.none, none, (Data.func { name := (Str.ofString "__init__"), qualname := (Str.ofString "Headers.__init__"), params := A, body := .stmts B, scope := S, globals := 0, closure := [], defaults := .none, kwdefaults := .none, doc := .none, pyModule := .none, annotations := none, code := .none, closureTuple := .none, builtins := 0 }), #[]⟩
noncomputable def o189 (P : Params) : Obj := ⟨(.type "code"), none, (.fields #[(.str (Str.ofString "__init__") 844), (.str (Str.ofString "Headers.__init__") 845), (.str (Str.ofString "/claim/cut.py") 846), (.int 98 0), (.int 2 0), (.int 0 0), (.int 0 0), (.int 3 0), (.ref 184), (.bool true), (.int 276 0), (.ref 185), .none, (.ref 186), (.ref 187), (.ref 188), (.int 851 0), (.int 98 0), (.str (Str.ofString "/claim/cut.py") 852)]), #[]⟩
noncomputable def o190 (A : Arguments) (B : List Stmt) (S : Scope) (P : Params) : Obj := ⟨(.type "function"), none, (Data.func { name := (Str.ofString "__init__"), qualname := (Str.ofString "Headers.__init__"), params := A, body := .stmts B, scope := S, globals := 3, closure := [], defaults := (.ref 183), kwdefaults := .none, doc := .none, pyModule := (.str (Str.ofString "cpy313.wsgiref.headers") 770), annotations := none, code := (.ref 189), closureTuple := .none, builtins := 0 }), #[]⟩
noncomputable def o191 (P : Params) : Obj := ⟨(.type "tuple"), none, (.seq #[] 0), #[]⟩
noncomputable def o192 (P : Params) : Obj := ⟨.none, none, (.fields #[]), #[]⟩
noncomputable def o193 (P : Params) : Obj := ⟨(.type "tuple"), none, (.seq #[(.str (Str.ofString "self") 857), (.str (Str.ofString "value") 858), (.str (Str.ofString "name") 859), (.str (Str.ofString "regex") 860)] 0), #[]⟩
noncomputable def o194 (P : Params) : Obj := ⟨(.type "tuple"), none, (.seq #[] 0), #[]⟩
noncomputable def o195 (A : Arguments) (B : List Stmt) (S : Scope) (P : Params) : Obj := ⟨.none, none, (Data.func { name := (Str.ofString "_convert_string_type"), qualname := (Str.ofString "Headers._convert_string_type"), params := A, body := .stmts B, scope := S, globals := 0, closure := [], defaults := .none, kwdefaults := .none, doc := .none, pyModule := .none, annotations := none, code := .none, closureTuple := .none, builtins := 0 }), #[]⟩
noncomputable def o196 (P : Params) : Obj := ⟨(.type "code"), none, (.fields #[(.str (Str.ofString "_convert_string_type") 854), (.str (Str.ofString "Headers._convert_string_type") 855), (.str (Str.ofString "/claim/cut.py") 856), (.int 108 0), (.int 2 0), (.int 0 0), (.int 1 0), (.int 3 0), (.ref 191), (.bool true), (.int 276 0), (.ref 192), .none, (.ref 193), (.ref 194), (.ref 195), (.int 861 0), (.int 108 0), (.str (Str.ofString "/claim/cut.py") 862)]), #[]⟩
noncomputable def o197 (A : Arguments) (B : List Stmt) (S : Scope) (P : Params) : Obj := ⟨(.type "function"), none, (Data.func { name := (Str.ofString "_convert_string_type"), qualname := (Str.ofString "Headers._convert_string_type"), params := A, body := .stmts B, scope := S, globals := 3, closure := [], defaults := .none, kwdefaults := .none, doc := .none, pyModule := (.str (Str.ofString "cpy313.wsgiref.headers") 770), annotations := none, code := (.ref 196), closureTuple := .none, builtins := 0 }), #[]⟩
noncomputable def o198 (P : Params) : Obj := ⟨(.type "tuple"), none, (.seq #[] 0), #[]⟩
noncomputable def o199 (P : Params) : Obj := ⟨.none, none, (.fields #[]), #[]⟩
noncomputable def o200 (P : Params) : Obj := ⟨(.type "tuple"), none, (.seq #[(.str (Str.ofString "self") 867)] 0), #[]⟩
noncomputable def o201 (P : Params) : Obj := ⟨(.type "tuple"), none, (.seq #[] 0), #[]⟩
noncomputable def o202 (A : Arguments) (B : List Stmt) (S : Scope) (P : Params) : Obj := ⟨.none, none, (Data.func { name := (Str.ofString "__len__"), qualname := (Str.ofString "Headers.__len__"), params := A, body := .stmts B, scope := S, globals := 0, closure := [], defaults := .none, kwdefaults := .none, doc := .none, pyModule := .none, annotations := none, code := .none, closureTuple := .none, builtins := 0 }), #[]⟩
noncomputable def o203 (P : Params) : Obj := ⟨(.type "code"), none, (.fields #[(.str (Str.ofString "__len__") 864), (.str (Str.ofString "Headers.__len__") 865), (.str (Str.ofString "/claim/cut.py") 866), (.int 116 0), (.int 1 0), (.int 0 0), (.int 0 0), (.int 3 0), (.ref 198), (.bool true), (.int 276 0), (.ref 199), .none, (.ref 200), (.ref 201), (.ref 202), (.int 868 0), (.int 116 0), (.str (Str.ofString "/claim/cut.py") 869)]), #[]⟩
noncomputable def o204 (A : Arguments) (B : List Stmt) (S : Scope) (P : Params) : Obj := ⟨(.type "function"), none, (Data.func { name := (Str.ofString "__len__"), qualname := (Str.ofString "Headers.__len__"), params := A, body := .stmts B, scope := S, globals := 3, closure := [], defaults := .none, kwdefaults := .none, doc := .none, pyModule := (.str (Str.ofString "cpy313.wsgiref.headers") 770), annotations := none, code := (.ref 203), closureTuple := .none, builtins := 0 }), #[]⟩
noncomputable def o205 (P : Params) : Obj := ⟨(.type "tuple"), none, (.seq #[] 0), #[]⟩
noncomputable def o206 (P : Params) : Obj := ⟨.none, none, (.fields #[]), #[]⟩
noncomputable def o207 (P : Params) : Obj := ⟨(.type "tuple"), none, (.seq #[(.str (Str.ofString "self") 874), (.str (Str.ofString "name") 875), (.str (Str.ofString "val") 876)] 0), #[]⟩
noncomputable def o208 (P : Params) : Obj := ⟨(.type "tuple"), none, (.seq #[] 0), #[]⟩
noncomputable def o209 (A : Arguments) (B : List Stmt) (S : Scope) (P : Params) : Obj := ⟨.none, none, (Data.func { name := (Str.ofString "__setitem__"), qualname := (Str.ofString "Headers.__setitem__"), params := A, body := .stmts B, scope := S, globals := 0, closure := [], defaults := .none, kwdefaults := .none, doc := .none, pyModule := .none, annotations := none, code := .none, closureTuple := .none, builtins := 0 }), #[]⟩
noncomputable def o210 (P : Params) : Obj := ⟨(.type "code"), none, (.fields #[(.str (Str.ofString "__setitem__") 871), (.str (Str.ofString "Headers.__setitem__") 872), (.str (Str.ofString "/claim/cut.py") 873), (.int 119 0), (.int 3 0), (.int 0 0), (.int 0 0), (.int 3 0), (.ref 205), (.bool true), (.int 276 0), (.ref 206), .none, (.ref 207), (.ref 208), (.ref 209), (.int 877 0), (.int 119 0), (.str (Str.ofString "/claim/cut.py") 878)]), #[]⟩
noncomputable def o211 (A : Arguments) (B : List Stmt) (S : Scope) (P : Params) : Obj := ⟨(.type "function"), none, (Data.func { name := (Str.ofString "__setitem__"), qualname := (Str.ofString "Headers.__setitem__"), params := A, body := .stmts B, scope := S, globals := 3, closure := [], defaults := .none, kwdefaults := .none, doc := .none, pyModule := (.str (Str.ofString "cpy313.wsgiref.headers") 770), annotations := none, code := (.ref 210), closureTuple := .none, builtins := 0 }), #[]⟩
noncomputable def o212 (P : Params) : Obj := ⟨(.type "tuple"), none, (.seq #[] 0), #[]⟩
noncomputable def o213 (P : Params) : Obj := ⟨.none, none, (.fields #[]), #[]⟩
noncomputable def o214 (A : Arguments) (B : List Stmt) (S : Scope) (P : Params) : Obj := ⟨.none, none, (Data.func { name := (Str.ofString "__delitem__"), qualname := (Str.ofString "Headers.__delitem__"), params := A, body := .stmts B, scope := S, globals := 0, closure := [], defaults := .none, kwdefaults := .none, doc := .none, pyModule := .none, annotations := none, code := .none, closureTuple := .none, builtins := 0 }), #[]⟩
noncomputable def o215 (P : Params) : Obj := ⟨(.type "code"), none, (.fields #[(.str (Str.ofString "__delitem__") 880), (.str (Str.ofString "Headers.__delitem__") 881), (.str (Str.ofString "/claim/cut.py") 882), (.int 123 0), (.int 2 0), (.int 0 0), (.int 0 0), (.int 3 0), (.ref 212), (.bool true), (.int 276 0), (.ref 213), .none, .none, .none, (.ref 214), (.int 883 0), (.int 123 0), (.str (Str.ofString "/claim/cut.py") 884)]), #[]⟩
noncomputable def o216 (A : Arguments) (B : List Stmt) (S : Scope) (P : Params) : Obj := ⟨(.type "function"), none, (Data.func { name := (Str.ofString "__delitem__"), qualname := (Str.ofString "Headers.__delitem__"), params := A, body := .stmts B, scope := S, globals := 3, closure := [], defaults := .none, kwdefaults := .none, doc := .none, pyModule := (.str (Str.ofString "cpy313.wsgiref.headers") 770), annotations := none, code := (.ref 215), closureTuple := .none, builtins := 0 }), #[]⟩
noncomputable def o217 (P : Params) : Obj := ⟨(.type "tuple"), none, (.seq #[] 0), #[]⟩
noncomputable def o218 (P : Params) : Obj := ⟨.none, none, (.fields #[]), #[]⟩
noncomputable def o219 (P : Params) : Obj := ⟨(.type "tuple"), none, (.seq #[(.str (Str.ofString "self") 889), (.str (Str.ofString "name") 890)] 0), #[]⟩
noncomputable def o220 (P : Params) : Obj := ⟨(.type "tuple"), none, (.seq #[] 0), #[]⟩
noncomputable def o221 (A : Arguments) (B : List Stmt) (S : Scope) (P : Params) : Obj := ⟨.none, none, (Data.func { name := (Str.ofString "__getitem__"), qualname := (Str.ofString "Headers.__getitem__"), params := A, body := .stmts B, scope := S, globals := 0, closure := [], defaults := .none, kwdefaults := .none, doc := .none, pyModule := .none, annotations := none, code := .none, closureTuple := .none, builtins := 0 }), #[]⟩
noncomputable def o222 (P : Params) : Obj := ⟨(.type "code"), none, (.fields #[(.str (Str.ofString "__getitem__") 886), (.str (Str.ofString "Headers.__getitem__") 887), (.str (Str.ofString "/claim/cut.py") 888), (.int 127 0), (.int 2 0), (.int 0 0), (.int 0 0), (.int 3 0), (.ref 217), (.bool true), (.int 276 0), (.ref 218), .none, (.ref 219), (.ref 220), (.ref 221), (.int 891 0), (.int 127 0), (.str (Str.ofString "/claim/cut.py") 892)]), #[]⟩
noncomputable def o223 (A : Arguments) (B : List Stmt) (S : Scope) (P : Params) : Obj := ⟨(.type "function"), none, (Data.func { name := (Str.ofString "__getitem__"), qualname := (Str.ofString "Headers.__getitem__"), params := A, body := .stmts B, scope := S, globals := 3, closure := [], defaults := .none, kwdefaults := .none, doc := .none, pyModule := (.str (Str.ofString "cpy313.wsgiref.headers") 770), annotations := none, code := (.ref 222), closureTuple := .none, builtins := 0 }), #[]⟩
noncomputable def o224 (P : Params) : Obj := ⟨(.type "tuple"), none, (.seq #[] 0), #[]⟩
noncomputable def o225 (P : Params) : Obj := ⟨.none, none, (.fields #[]), #[]⟩
noncomputable def o226 (P : Params) : Obj := ⟨(.type "tuple"), none, (.seq #[(.str (Str.ofString "self") 897), (.str (Str.ofString "name") 898)] 0), #[]⟩
noncomputable def o227 (P : Params) : Obj := ⟨(.type "tuple"), none, (.seq #[] 0), #[]⟩
noncomputable def o228 (A : Arguments) (B : List Stmt) (S : Scope) (P : Params) : Obj := ⟨.none, none, (Data.func { name := (Str.ofString "__contains__"), qualname := (Str.ofString "Headers.__contains__"), params := A, body := .stmts B, scope := S, globals := 0, closure := [], defaults := .none, kwdefaults := .none, doc := .none, pyModule := .none, annotations := none, code := .none, closureTuple := .none, builtins := 0 }), #[]⟩
noncomputable def o229 (P : Params) : Obj := ⟨(.type "code"), none, (.fields #[(.str (Str.ofString "__contains__") 894), (.str (Str.ofString "Headers.__contains__") 895), (.str (Str.ofString "/claim/cut.py") 896), (.int 130 0), (.int 2 0), (.int 0 0), (.int 0 0), (.int 3 0), (.ref 224), (.bool true), (.int 276 0), (.ref 225), .none, (.ref 226), (.ref 227), (.ref 228), (.int 899 0), (.int 130 0), (.str (Str.ofString "/claim/cut.py") 900)]), #[]⟩
noncomputable def o230 (A : Arguments) (B : List Stmt) (S : Scope) (P : Params) : Obj := ⟨(.type "function"), none, (Data.func { name := (Str.ofString "__contains__"), qualname := (Str.ofString "Headers.__contains__"), params := A, body := .stmts B, scope := S, globals := 3, closure := [], defaults := .none, kwdefaults := .none, doc := .none, pyModule := (.str (Str.ofString "cpy313.wsgiref.headers") 770), annotations := none, code := (.ref 229), closureTuple := .none, builtins := 0 }), #[]⟩
noncomputable def o231 (P : Params) : Obj := ⟨(.type "tuple"), none, (.seq #[] 0), #[]⟩
noncomputable def o232 (P : Params) : Obj := ⟨.none, none, (.fields #[]), #[]⟩
noncomputable def o233 (P : Params) : Obj := ⟨(.type "tuple"), none, (.seq #[(.str (Str.ofString "self") 905), (.str (Str.ofString "name") 906)] 0), #[]⟩
noncomputable def o234 (P : Params) : Obj := ⟨(.type "tuple"), none, (.seq #[] 0), #[]⟩
noncomputable def o235 (A : Arguments) (B : List Stmt) (S : Scope) (P : Params) : Obj := ⟨.none, none, (Data.func { name := (Str.ofString "get_all"), qualname := (Str.ofString "Headers.get_all"), params := A, body := .stmts B, scope := S, globals := 0, closure := [], defaults := .none, kwdefaults := .none, doc := .none, pyModule := .none, annotations := none, code := .none, closureTuple := .none, builtins := 0 }), #[]⟩
noncomputable def o236 (P : Params) : Obj := ⟨(.type "code"), none, (.fields #[(.str (Str.ofString "get_all") 902), (.str (Str.ofString "Headers.get_all") 903), (.str (Str.ofString "/claim/cut.py") 904), (.int 133 0), (.int 2 0), (.int 0 0), (.int 0 0), (.int 3 0), (.ref 231), (.bool true), (.int 276 0), (.ref 232), .none, (.ref 233), (.ref 234), (.ref 235), (.int 907 0), (.int 133 0), (.str (Str.ofString "/claim/cut.py") 908)]), #[]⟩
noncomputable def o237 (A : Arguments) (B : List Stmt) (S : Scope) (P : Params) : Obj := ⟨(.type "function"), none, (Data.func { name := (Str.ofString "get_all"), qualname := (Str.ofString "Headers.get_all"), params := A, body := .stmts B, scope := S, globals := 3, closure := [], defaults := .none, kwdefaults := .none, doc := .none, pyModule := (.str (Str.ofString "cpy313.wsgiref.headers") 770), annotations := none, code := (.ref 236), closureTuple := .none, builtins := 0 }), #[]⟩
noncomputable def o238 (P : Params) : Obj := ⟨(.type "tuple"), none, (.seq #[.none] 0), #[]⟩
noncomputable def o239 (P : Params) : Obj := ⟨(.type "tuple"), none, (.seq #[] 0), #[]⟩
noncomputable def o240 (P : Params) : Obj := ⟨.none, none, (.fields #[]), #[]⟩
noncomputable def o241 (P : Params) : Obj := ⟨(.type "tuple"), none, (.seq #[(.str (Str.ofString "self") 913), (.str (Str.ofString "name") 914), (.str (Str.ofString "default") 915), (.str (Str.ofString "k") 916), (.str (Str.ofString "v") 917)] 0), #[]⟩
noncomputable def o242 (P : Params) : Obj := ⟨(.type "tuple"), none, (.seq #[] 0), #[]⟩
noncomputable def o243 (A : Arguments) (B : List Stmt) (S : Scope) (P : Params) : Obj := ⟨.none, none, (Data.func { name := (Str.ofString "get"), qualname := (Str.ofString "Headers.get"), params := A, body := .stmts B, scope := S, globals := 0, closure := [], defaults := .none, kwdefaults := .none, doc := .none, pyModule := .none, annotations := none, code := .none, closureTuple := .none, builtins := 0 }), #[]⟩
noncomputable def o244 (P : Params) : Obj := ⟨(.type "code"), none, (.fields #[(.str (Str.ofString "get") 910), (.str (Str.ofString "Headers.get") 911), (.str (Str.ofString "/claim/cut.py") 912), (.int 136 0), (.int 3 0), (.int 0 0), (.int 0 0), (.int 3 0), (.ref 239), (.bool true), (.int 276 0), (.ref 240), .none, (.ref 241), (.ref 242), (.ref 243), (.int 918 0), (.int 136 0), (.str (Str.ofString "/claim/cut.py") 919)]), #[]⟩
noncomputable def o245 (A : Arguments) (B : List Stmt) (S : Scope) (P : Params) : Obj := ⟨(.type "function"), none, (Data.func { name := (Str.ofString "get"), qualname := (Str.ofString "Headers.get"), params := A, body := .stmts B, scope := S, globals := 3, closure := [], defaults := (.ref 238), kwdefaults := .none, doc := .none, pyModule := (.str (Str.ofString "cpy313.wsgiref.headers") 770), annotations := none, code := (.ref 244), closureTuple := .none, builtins := 0 }), #[]⟩
noncomputable def o246 (P : Params) : Obj := ⟨(.type "tuple"), none, (.seq #[] 0), #[]⟩
noncomputable def o247 (P : Params) : Obj := ⟨.none, none, (.fields #[]), #[]⟩
noncomputable def o248 (A : Arguments) (B : List Stmt) (S : Scope) (P : Params) : Obj := ⟨.none, none, (Data.func { name := (Str.ofString "keys"), qualname := (Str.ofString "Headers.keys"), params := A, body := .stmts B, scope := S, globals := 0, closure := [], defaults := .none, kwdefaults := .none, doc := .none, pyModule := .none, annotations := none, code := .none, closureTuple := .none, builtins := 0 }), #[]⟩
noncomputable def o249 (P : Params) : Obj := ⟨(.type "code"), none, (.fields #[(.str (Str.ofString "keys") 921), (.str (Str.ofString "Headers.keys") 922), (.str (Str.ofString "/claim/cut.py") 923), (.int 143 0), (.int 1 0), (.int 0 0), (.int 0 0), (.int 3 0), (.ref 246), (.bool true), (.int 276 0), (.ref 247), .none, .none, .none, (.ref 248), (.int 924 0), (.int 143 0), (.str (Str.ofString "/claim/cut.py") 925)]), #[]⟩
noncomputable def o250 (A : Arguments) (B : List Stmt) (S : Scope) (P : Params) : Obj := ⟨(.type "function"), none, (Data.func { name := (Str.ofString "keys"), qualname := (Str.ofString "Headers.keys"), params := A, body := .stmts B, scope := S, globals := 3, closure := [], defaults := .none, kwdefaults := .none, doc := .none, pyModule := (.str (Str.ofString "cpy313.wsgiref.headers") 770), annotations := none, code := (.ref 249), closureTuple := .none, builtins := 0 }), #[]⟩
noncomputable def o251 (P : Params) : Obj := ⟨(.type "tuple"), none, (.seq #[] 0), #[]⟩
noncomputable def o252 (P : Params) : Obj := ⟨.none, none, (.fields #[]), #[]⟩
noncomputable def o253 (A : Arguments) (B : List Stmt) (S : Scope) (P : Params) : Obj := ⟨.none, none, (Data.func { name := (Str.ofString "values"), qualname := (Str.ofString "Headers.values"), params := A, body := .stmts B, scope := S, globals := 0, closure := [], defaults := .none, kwdefaults := .none, doc := .none, pyModule := .none, annotations := none, code := .none, closureTuple := .none, builtins := 0 }), #[]⟩
noncomputable def o254 (P : Params) : Obj := ⟨(.type "code"), none, (.fields #[(.str (Str.ofString "values") 927), (.str (Str.ofString "Headers.values") 928), (.str (Str.ofString "/claim/cut.py") 929), (.int 146 0), (.int 1 0), (.int 0 0), (.int 0 0), (.int 3 0), (.ref 251), (.bool true), (.int 276 0), (.ref 252), .none, .none, .none, (.ref 253), (.int 930 0), (.int 146 0), (.str (Str.ofString "/claim/cut.py") 931)]), #[]⟩
noncomputable def o255 (A : Arguments) (B : List Stmt) (S : Scope) (P : Params) : Obj := ⟨(.type "function"), none, (Data.func { name := (Str.ofString "values"), qualname := (Str.ofString "Headers.values"), params := A, body := .stmts B, scope := S, globals := 3, closure := [], defaults := .none, kwdefaults := .none, doc := .none, pyModule := (.str (Str.ofString "cpy313.wsgiref.headers") 770), annotations := none, code := (.ref 254), closureTuple := .none, builtins := 0 }), #[]⟩
noncomputable def o256 (P : Params) : Obj := ⟨(.type "tuple"), none, (.seq #[] 0), #[]⟩
noncomputable def o257 (P : Params) : Obj := ⟨.none, none, (.fields #[]), #[]⟩
noncomputable def o258 (P : Params) : Obj := ⟨(.type "tuple"), none, (.seq #[(.str (Str.ofString "self") 936)] 0), #[]⟩
noncomputable def o259 (P : Params) : Obj := ⟨(.type "tuple"), none, (.seq #[] 0), #[]⟩
noncomputable def o260 (A : Arguments) (B : List Stmt) (S : Scope) (P : Params) : Obj := ⟨.none, none, (Data.func { name := (Str.ofString "items"), qualname := (Str.ofString "Headers.items"), params := A, body := .stmts B, scope := S, globals := 0, closure := [], defaults := .none, kwdefaults := .none, doc := .none, pyModule := .none, annotations := none, code := .none, closureTuple := .none, builtins := 0 }), #[]⟩
noncomputable def o261 (P : Params) : Obj := ⟨(.type "code"), none, (.fields #[(.str (Str.ofString "items") 933), (.str (Str.ofString "Headers.items") 934), (.str (Str.ofString "/claim/cut.py") 935), (.int 149 0), (.int 1 0), (.int 0 0), (.int 0 0), (.int 3 0), (.ref 256), (.bool true), (.int 276 0), (.ref 257), .none, (.ref 258), (.ref 259), (.ref 260), (.int 937 0), (.int 149 0), (.str (Str.ofString "/claim/cut.py") 938)]), #[]⟩
noncomputable def o262 (A : Arguments) (B : List Stmt) (S : Scope) (P : Params) : Obj := ⟨(.type "function"), none, (Data.func { name := (Str.ofString "items"), qualname := (Str.ofString "Headers.items"), params := A, body := .stmts B, scope := S, globals := 3, closure := [], defaults := .none, kwdefaults := .none, doc := .none, pyModule := (.str (Str.ofString "cpy313.wsgiref.headers") 770), annotations := none, code := (.ref 261), closureTuple := .none, builtins := 0 }), #[]⟩
noncomputable def o263 (P : Params) : Obj := ⟨(.type "tuple"), none, (.seq #[] 0), #[]⟩
noncomputable def o264 (P : Params) : Obj := ⟨.none, none, (.fields #[]), #[]⟩
noncomputable def o265 (P : Params) : Obj := ⟨(.type "tuple"), none, (.seq #[(.str (Str.ofString "self") 943)] 0), #[]⟩
noncomputable def o266 (P : Params) : Obj := ⟨(.type "tuple"), none, (.seq #[] 0), #[]⟩
noncomputable def o267 (A : Arguments) (B : List Stmt) (S : Scope) (P : Params) : Obj := ⟨.none, none, (Data.func { name := (Str.ofString "__repr__"), qualname := (Str.ofString "Headers.__repr__"), params := A, body := .stmts B, scope := S, globals := 0, closure := [], defaults := .none, kwdefaults := .none, doc := .none, pyModule := .none, annotations := none, code := .none, closureTuple := .none, builtins := 0 }), #[]⟩
noncomputable def o268 (P : Params) : Obj := ⟨(.type "code"), none, (.fields #[(.str (Str.ofString "__repr__") 940), (.str (Str.ofString "Headers.__repr__") 941), (.str (Str.ofString "/claim/cut.py") 942), (.int 152 0), (.int 1 0), (.int 0 0), (.int 0 0), (.int 3 0), (.ref 263), (.bool true), (.int 276 0), (.ref 264), .none, (.ref 265), (.ref 266), (.ref 267), (.int 944 0), (.int 152 0), (.str (Str.ofString "/claim/cut.py") 945)]), #[]⟩
noncomputable def o269 (A : Arguments) (B : List Stmt) (S : Scope) (P : Params) : Obj := ⟨(.type "function"), none, (Data.func { name := (Str.ofString "__repr__"), qualname := (Str.ofString "Headers.__repr__"), params := A, body := .stmts B, scope := S, globals := 3, closure := [], defaults := .none, kwdefaults := .none, doc := .none, pyModule := (.str (Str.ofString "cpy313.wsgiref.headers") 770), annotations := none, code := (.ref 268), closureTuple := .none, builtins := 0 }), #[]⟩
noncomputable def o270 (P : Params) : Obj := ⟨(.type "tuple"), none, (.seq #[] 0), #[]⟩
noncomputable def o271 (P : Params) : Obj := ⟨.none, none, (.fields #[]), #[]⟩
noncomputable def o272 (A : Arguments) (B : List Stmt) (S : Scope) (P : Params) : Obj := ⟨.none, none, (Data.func { name := (Str.ofString "__str__"), qualname := (Str.ofString "Headers.__str__"), params := A, body := .stmts B, scope := S, globals := 0, closure := [], defaults := .none, kwdefaults := .none, doc := .none, pyModule := .none, annotations := none, code := .none, closureTuple := .none, builtins := 0 }), #[]⟩
noncomputable def o273 (P : Params) : Obj := ⟨(.type "code"), none, (.fields #[(.str (Str.ofString "__str__") 947), (.str (Str.ofString "Headers.__str__") 948), (.str (Str.ofString "/claim/cut.py") 949), (.int 155 0), (.int 1 0), (.int 0 0), (.int 0 0), (.int 3 0), (.ref 270), (.bool true), (.int 276 0), (.ref 271), .none, .none, .none, (.ref 272), (.int 950 0), (.int 155 0), (.str (Str.ofString "/claim/cut.py") 951)]), #[]⟩
noncomputable def o274 (A : Arguments) (B : List Stmt) (S : Scope) (P : Params) : Obj := ⟨(.type "function"), none, (Data.func { name := (Str.ofString "__str__"), qualname := (Str.ofString "Headers.__str__"), params := A, body := .stmts B, scope := S, globals := 3, closure := [], defaults := .none, kwdefaults := .none, doc := .none, pyModule := (.str (Str.ofString "cpy313.wsgiref.headers") 770), annotations := none, code := (.ref 273), closureTuple := .none, builtins := 0 }), #[]⟩
noncomputable def o275 (P : Params) : Obj := ⟨(.type "tuple"), none, (.seq #[] 0), #[]⟩
noncomputable def o276 (P : Params) : Obj := ⟨.none, none, (.fields #[]), #[]⟩
noncomputable def o277 (P : Params) : Obj := ⟨(.type "tuple"), none, (.seq #[(.str (Str.ofString "self") 956)] 0), #[]⟩
noncomputable def o278 (P : Params) : Obj := ⟨(.type "tuple"), none, (.seq #[] 0), #[]⟩
noncomputable def o279 (A : Arguments) (B : List Stmt) (S : Scope) (P : Params) : Obj := ⟨.none, none, (Data.func { name := (Str.ofString "__bytes__"), qualname := (Str.ofString "Headers.__bytes__"), params := A, body := .stmts B, scope := S, globals := 0, closure := [], defaults := .none, kwdefaults := .none, doc := .none, pyModule := .none, annotations := none, code := .none, closureTuple := .none, builtins := 0 }), #[]⟩
noncomputable def o280 (P : Params) : Obj := ⟨(.type "code"), none, (.fields #[(.str (Str.ofString "__bytes__") 953), (.str (Str.ofString "Headers.__bytes__") 954), (.str (Str.ofString "/claim/cut.py") 955), (.int 158 0), (.int 1 0), (.int 0 0), (.int 0 0), (.int 3 0), (.ref 275), (.bool true), (.int 276 0), (.ref 276), .none, (.ref 277), (.ref 278), (.ref 279), (.int 957 0), (.int 158 0), (.str (Str.ofString "/claim/cut.py") 958)]), #[]⟩
noncomputable def o281 (A : Arguments) (B : List Stmt) (S : Scope) (P : Params) : Obj := ⟨(.type "function"), none, (Data.func { name := (Str.ofString "__bytes__"), qualname := (Str.ofString "Headers.__bytes__"), params := A, body := .stmts B, scope := S, globals := 3, closure := [], defaults := .none, kwdefaults := .none, doc := .none, pyModule := (.str (Str.ofString "cpy313.wsgiref.headers") 770), annotations := none, code := (.ref 280), closureTuple := .none, builtins := 0 }), #[]⟩
noncomputable def o282 (P : Params) : Obj := ⟨(.type "tuple"), none, (.seq #[] 0), #[]⟩
noncomputable def o283 (P : Params) : Obj := ⟨.none, none, (.fields #[]), #[]⟩
noncomputable def o284 (P : Params) : Obj := ⟨(.type "tuple"), none, (.seq #[(.str (Str.ofString "self") 963), (.str (Str.ofString "name") 964), (.str (Str.ofString "value") 965)] 0), #[]⟩
noncomputable def o285 (P : Params) : Obj := ⟨(.type "tuple"), none, (.seq #[] 0), #[]⟩
noncomputable def o286 (A : Arguments) (B : List Stmt) (S : Scope) (P : Params) : Obj := ⟨.none, none, (Data.func { name := (Str.ofString "setdefault"), qualname := (Str.ofString "Headers.setdefault"), params := A, body := .stmts B, scope := S, globals := 0, closure := [], defaults := .none, kwdefaults := .none, doc := .none, pyModule := .none, annotations := none, code := .none, closureTuple := .none, builtins := 0 }), #[]⟩
noncomputable def o287 (P : Params) : Obj := ⟨(.type "code"), none, (.fields #[(.str (Str.ofString "setdefault") 960), (.str (Str.ofString "Headers.setdefault") 961), (.str (Str.ofString "/claim/cut.py") 962), (.int 161 0), (.int 3 0), (.int 0 0), (.int 0 0), (.int 3 0), (.ref 282), (.bool true), (.int 276 0), (.ref 283), .none, (.ref 284), (.ref 285), (.ref 286), (.int 966 0), (.int 161 0), (.str (Str.ofString "/claim/cut.py") 967)]), #[]⟩
noncomputable def o288 (A : Arguments) (B : List Stmt) (S : Scope) (P : Params) : Obj := ⟨(.type "function"), none, (Data.func { name := (Str.ofString "setdefault"), qualname := (Str.ofString "Headers.setdefault"), params := A, body := .stmts B, scope := S, globals := 3, closure := [], defaults := .none, kwdefaults := .none, doc := .none, pyModule := (.str (Str.ofString "cpy313.wsgiref.headers") 770), annotations := none, code := (.ref 287), closureTuple := .none, builtins := 0 }), #[]⟩
noncomputable def o289 (P : Params) : Obj := ⟨(.type "tuple"), none, (.seq #[] 0), #[]⟩
noncomputable def o290 (P : Params) : Obj := ⟨.none, none, (.fields #[]), #[]⟩
noncomputable def o291 (P : Params) : Obj := ⟨(.type "tuple"), none, (.seq #[(.str (Str.ofString "self") 972), (.str (Str.ofString "_name") 973), (.str (Str.ofString "_value") 974), (.str (Str.ofString "_params") 975)] 0), #[]⟩
noncomputable def o292 (P : Params) : Obj := ⟨(.type "tuple"), none, (.seq #[] 0), #[]⟩
noncomputable def o293 (A : Arguments) (B : List Stmt) (S : Scope) (P : Params) : Obj := ⟨.none, none, (Data.func { name := (Str.ofString "add_header"), qualname := (Str.ofString "Headers.add_header"), params := A, body := .stmts B, scope := S, globals := 0, closure := [], defaults := .none, kwdefaults := .none, doc := .none, pyModule := .none, annotations := none, code := .none, closureTuple := .none, builtins := 0 }), #[]⟩
noncomputable def o294 (P : Params) : Obj := ⟨(.type "code"), none, (.fields #[(.str (Str.ofString "add_header") 969), (.str (Str.ofString "Headers.add_header") 970), (.str (Str.ofString "/claim/cut.py") 971), (.int 164 0), (.int 3 0), (.int 0 0), (.int 0 0), (.int 11 0), (.ref 289), (.bool true), (.int 276 0), (.ref 290), .none, (.ref 291), (.ref 292), (.ref 293), (.int 976 0), (.int 164 0), (.str (Str.ofString "/claim/cut.py") 977)]), #[]⟩
noncomputable def o295 (A : Arguments) (B : List Stmt) (S : Scope) (P : Params) : Obj := ⟨(.type "function"), none, (Data.func { name := (Str.ofString "add_header"), qualname := (Str.ofString "Headers.add_header"), params := A, body := .stmts B, scope := S, globals := 3, closure := [], defaults := .none, kwdefaults := .none, doc := .none, pyModule := (.str (Str.ofString "cpy313.wsgiref.headers") 770), annotations := none, code := (.ref 294), closureTuple := .none, builtins := 0 }), #[]⟩
noncomputable def o296 (P : Params) : Obj := ⟨(.type "tuple"), none, (.seq #[(.str (Str.ofString "_headers") 979)] 0), #[]⟩
noncomputable def o297 (P : Params) : Obj := ⟨(.type "dict"), none, (.dict #[⟨PyData.keyHash P (Str.ofString "__module__"), (.str (Str.ofString "__module__") 839), (.str (Str.ofString "cpy313.wsgiref.headers") 770)⟩, ⟨PyData.keyHash P (Str.ofString "__firstlineno__"), (.str (Str.ofString "__firstlineno__") 843), (.int 96 842)⟩, ⟨PyData.keyHash P (Str.ofString "__init__"), (.str (Str.ofString "__init__") 853), (.ref 190)⟩, ⟨PyData.keyHash P (Str.ofString "_convert_string_type"), (.str (Str.ofString "_convert_string_type") 863), (.ref 197)⟩, ⟨PyData.keyHash P (Str.ofString "__len__"), (.str (Str.ofString "__len__") 870), (.ref 204)⟩, ⟨PyData.keyHash P (Str.ofString "__setitem__"), (.str (Str.ofString "__setitem__") 879), (.ref 211)⟩, ⟨PyData.keyHash P (Str.ofString "__delitem__"), (.str (Str.ofString "__delitem__") 885), (.ref 216)⟩, ⟨PyData.keyHash P (Str.ofString "__getitem__"), (.str (Str.ofString "__getitem__") 893), (.ref 223)⟩, ⟨PyData.keyHash P (Str.ofString "__contains__"), (.str (Str.ofString "__contains__") 901), (.ref 230)⟩, ⟨PyData.keyHash P (Str.ofString "get_all"), (.str (Str.ofString "get_all") 909), (.ref 237)⟩, ⟨PyData.keyHash P (Str.ofString "get"), (.str (Str.ofString "get") 920), (.ref 245)⟩, ⟨PyData.keyHash P (Str.ofString "keys"), (.str (Str.ofString "keys") 926), (.ref 250)⟩, ⟨PyData.keyHash P (Str.ofString "values"), (.str (Str.ofString "values") 932), (.ref 255)⟩, ⟨PyData.keyHash P (Str.ofString "items"), (.str (Str.ofString "items") 939), (.ref 262)⟩, ⟨PyData.keyHash P (Str.ofString "__repr__"), (.str (Str.ofString "__repr__") 946), (.ref 269)⟩, ⟨PyData.keyHash P (Str.ofString "__str__"), (.str (Str.ofString "__str__") 952), (.ref 274)⟩, ⟨PyData.keyHash P (Str.ofString "__bytes__"), (.str (Str.ofString "__bytes__") 959), (.ref 281)⟩, ⟨PyData.keyHash P (Str.ofString "setdefault"), (.str (Str.ofString "setdefault") 968), (.ref 288)⟩, ⟨PyData.keyHash P (Str.ofString "add_header"), (.str (Str.ofString "add_header") 978), (.ref 295)⟩, ⟨PyData.keyHash P (Str.ofString "__static_attributes__"), (.str (Str.ofString "__static_attributes__") 980), (.ref 296)⟩, ⟨PyData.keyHash P (Str.ofString "__dict__"), (.str (Str.ofString "__dict__") 982), (.ref 299)⟩, ⟨PyData.keyHash P (Str.ofString "__weakref__"), (.str (Str.ofString "__weakref__") 984), (.ref 300)⟩, ⟨PyData.keyHash P (Str.ofString "__doc__"), (.str (Str.ofString "__doc__") 985), .none⟩] 4), #[]⟩
noncomputable def o298 (P : Params) : Obj := ⟨(.type "type"), none, (Data.cls { name := (Str.ofString "Headers"), bases := [(.type "object")], mro := [(.ref 298), (.type "object")], ns := 297, qualname := (Str.ofString "Headers"), hasDict := true, slotNames := [], subclasses := [], abstract := false, collection := none, hasDel := false }), #[none, none, (some (.str (Str.ofString "Headers") 832)), (some (.str (Str.ofString "Headers") 840)), (some (.builtin "object.__new__")), (some (.bool true))]⟩
noncomputable def o299 (P : Params) : Obj := ⟨(.type "getset_descriptor"), none, (.fields #[(.str (Str.ofString "__dict__") 981), (.ref 298), (.builtin "function.__dict__"), (.builtin "function.__dict__#set")]), #[]⟩
noncomputable def o300 (P : Params) : Obj := ⟨(.type "getset_descriptor"), none, (.fields #[(.str (Str.ofString "__weakref__") 983), (.ref 298), (.builtin "ExceptionGroup.__weakref__"), .none]), #[]⟩
noncomputable def o301 (P : Params) : Obj := ⟨(.type "super"), none, (.fields #[(.ref 298), (.ref 298), (.ref 298)]), #[]⟩
noncomputable def o302 (P : Params) : Obj := ⟨(.type "builtin_function_or_method"), none, (.fields #[(.builtin "object.__init_subclass__"), (.ref 298)]), #[]⟩
noncomputable def o303 (P : Params) : Obj := ⟨(.type "tuple"), none, (.seq #[] 0), #[]⟩
noncomputable def o304 (P : Params) : Obj := ⟨.none, none, (.fields #[]), #[]⟩
noncomputable def o305 (A : Arguments) (B : List Stmt) (S : Scope) (P : Params) : Obj := ⟨.none, none, (Data.func { name := (Str.ofString "_law_signs"), qualname := (Str.ofString "_law_signs"), params := A, body := .stmts B, scope := S, globals := 0, closure := [], defaults := .none, kwdefaults := .none, doc := .none, pyModule := .none, annotations := none, code := .none, closureTuple := .none, builtins := 0 }), #[]⟩
noncomputable def o306 (P : Params) : Obj := ⟨(.type "code"), none, (.fields #[(.str (Str.ofString "_law_signs") 990), (.str (Str.ofString "_law_signs") 991), (.str (Str.ofString "/claim/cut.py") 992), (.int 167 0), (.int 1 0), (.int 0 0), (.int 0 0), (.int 3 0), (.ref 303), (.bool true), (.int 276 0), (.ref 304), .none, .none, .none, (.ref 305), (.int 993 0), (.int 167 0), (.str (Str.ofString "/claim/cut.py") 994)]), #[]⟩
noncomputable def o307 (A : Arguments) (B : List Stmt) (S : Scope) (P : Params) : Obj := ⟨(.type "function"), none, (Data.func { name := (Str.ofString "_law_signs"), qualname := (Str.ofString "_law_signs"), params := A, body := .stmts B, scope := S, globals := 3, closure := [], defaults := .none, kwdefaults := .none, doc := .none, pyModule := (.str (Str.ofString "law_wf0074_01") 988), annotations := none, code := (.ref 306), closureTuple := .none, builtins := 0 }), #[]⟩
noncomputable def o308 (P : Params) : Obj := ⟨(.type "tuple"), none, (.seq #[] 0), #[]⟩
noncomputable def o309 (P : Params) : Obj := ⟨.none, none, (.fields #[]), #[]⟩
noncomputable def o310 (P : Params) : Obj := ⟨(.type "tuple"), none, (.seq #[(.str (Str.ofString "points") 999), (.str (Str.ofString "tape") 1000), (.str (Str.ofString "point") 1001), (.str (Str.ofString "left") 1002), (.str (Str.ofString "octets") 1003)] 0), #[]⟩
noncomputable def o311 (P : Params) : Obj := ⟨(.type "tuple"), none, (.seq #[] 0), #[]⟩
noncomputable def o312 (A : Arguments) (B : List Stmt) (S : Scope) (P : Params) : Obj := ⟨.none, none, (Data.func { name := (Str.ofString "_law_tape"), qualname := (Str.ofString "_law_tape"), params := A, body := .stmts B, scope := S, globals := 0, closure := [], defaults := .none, kwdefaults := .none, doc := .none, pyModule := .none, annotations := none, code := .none, closureTuple := .none, builtins := 0 }), #[]⟩
noncomputable def o313 (P : Params) : Obj := ⟨(.type "code"), none, (.fields #[(.str (Str.ofString "_law_tape") 996), (.str (Str.ofString "_law_tape") 997), (.str (Str.ofString "/claim/cut.py") 998), (.int 177 0), (.int 1 0), (.int 0 0), (.int 0 0), (.int 3 0), (.ref 308), (.bool true), (.int 276 0), (.ref 309), .none, (.ref 310), (.ref 311), (.ref 312), (.int 1004 0), (.int 177 0), (.str (Str.ofString "/claim/cut.py") 1005)]), #[]⟩
noncomputable def o314 (A : Arguments) (B : List Stmt) (S : Scope) (P : Params) : Obj := ⟨(.type "function"), none, (Data.func { name := (Str.ofString "_law_tape"), qualname := (Str.ofString "_law_tape"), params := A, body := .stmts B, scope := S, globals := 3, closure := [], defaults := .none, kwdefaults := .none, doc := .none, pyModule := (.str (Str.ofString "law_wf0074_01") 988), annotations := none, code := (.ref 313), closureTuple := .none, builtins := 0 }), #[]⟩
noncomputable def o315 (P : Params) : Obj := ⟨(.type "tuple"), none, (.seq #[] 0), #[]⟩
noncomputable def o316 (P : Params) : Obj := ⟨.none, none, (.fields #[]), #[]⟩
noncomputable def o317 (A : Arguments) (B : List Stmt) (S : Scope) (P : Params) : Obj := ⟨.none, none, (Data.func { name := (Str.ofString "_law_seats"), qualname := (Str.ofString "_law_seats"), params := A, body := .stmts B, scope := S, globals := 0, closure := [], defaults := .none, kwdefaults := .none, doc := .none, pyModule := .none, annotations := none, code := .none, closureTuple := .none, builtins := 0 }), #[]⟩
noncomputable def o318 (P : Params) : Obj := ⟨(.type "code"), none, (.fields #[(.str (Str.ofString "_law_seats") 1007), (.str (Str.ofString "_law_seats") 1008), (.str (Str.ofString "/claim/cut.py") 1009), (.int 187 0), (.int 1 0), (.int 0 0), (.int 0 0), (.int 3 0), (.ref 315), (.bool true), (.int 276 0), (.ref 316), .none, .none, .none, (.ref 317), (.int 1010 0), (.int 187 0), (.str (Str.ofString "/claim/cut.py") 1011)]), #[]⟩
noncomputable def o319 (A : Arguments) (B : List Stmt) (S : Scope) (P : Params) : Obj := ⟨(.type "function"), none, (Data.func { name := (Str.ofString "_law_seats"), qualname := (Str.ofString "_law_seats"), params := A, body := .stmts B, scope := S, globals := 3, closure := [], defaults := .none, kwdefaults := .none, doc := .none, pyModule := (.str (Str.ofString "law_wf0074_01") 988), annotations := none, code := (.ref 318), closureTuple := .none, builtins := 0 }), #[]⟩
noncomputable def o320 (P : Params) : Obj := ⟨(.type "tuple"), none, (.seq #[] 0), #[]⟩
noncomputable def o321 (P : Params) : Obj := ⟨.none, none, (.fields #[]), #[]⟩
noncomputable def o322 (P : Params) : Obj := ⟨(.type "tuple"), none, (.seq #[(.str (Str.ofString "tape") 1016), (.str (Str.ofString "table") 1017), (.str (Str.ofString "reader") 1018), (.str (Str.ofString "seat") 1019), (.str (Str.ofString "word") 1020)] 0), #[]⟩
noncomputable def o323 (P : Params) : Obj := ⟨(.type "tuple"), none, (.seq #[] 0), #[]⟩
noncomputable def o324 (A : Arguments) (B : List Stmt) (S : Scope) (P : Params) : Obj := ⟨.none, none, (Data.func { name := (Str.ofString "_law_heard"), qualname := (Str.ofString "_law_heard"), params := A, body := .stmts B, scope := S, globals := 0, closure := [], defaults := .none, kwdefaults := .none, doc := .none, pyModule := .none, annotations := none, code := .none, closureTuple := .none, builtins := 0 }), #[]⟩
noncomputable def o325 (P : Params) : Obj := ⟨(.type "code"), none, (.fields #[(.str (Str.ofString "_law_heard") 1013), (.str (Str.ofString "_law_heard") 1014), (.str (Str.ofString "/claim/cut.py") 1015), (.int 190 0), (.int 1 0), (.int 0 0), (.int 0 0), (.int 3 0), (.ref 320), (.bool true), (.int 276 0), (.ref 321), .none, (.ref 322), (.ref 323), (.ref 324), (.int 1021 0), (.int 190 0), (.str (Str.ofString "/claim/cut.py") 1022)]), #[]⟩
noncomputable def o326 (A : Arguments) (B : List Stmt) (S : Scope) (P : Params) : Obj := ⟨(.type "function"), none, (Data.func { name := (Str.ofString "_law_heard"), qualname := (Str.ofString "_law_heard"), params := A, body := .stmts B, scope := S, globals := 3, closure := [], defaults := .none, kwdefaults := .none, doc := .none, pyModule := (.str (Str.ofString "law_wf0074_01") 988), annotations := none, code := (.ref 325), closureTuple := .none, builtins := 0 }), #[]⟩
noncomputable def o327 (P : Params) : Obj := ⟨(.type "tuple"), none, (.seq #[] 0), #[]⟩
noncomputable def o328 (P : Params) : Obj := ⟨.none, none, (.fields #[]), #[]⟩
noncomputable def o329 (P : Params) : Obj := ⟨(.type "tuple"), none, (.seq #[(.str (Str.ofString "table") 1027), (.str (Str.ofString "roll") 1028), (.str (Str.ofString "seat") 1029), (.str (Str.ofString "own") 1030), (.str (Str.ofString "red") 1031), (.str (Str.ofString "green") 1032), (.str (Str.ofString "blue") 1033), (.str (Str.ofString "word") 1034), (.str (Str.ofString "value") 1035), (.str (Str.ofString "place") 1036), (.str (Str.ofString "corner") 1037), (.str (Str.ofString "hue") 1038), (.str (Str.ofString "share") 1039), (.str (Str.ofString "level") 1040), (.str (Str.ofString "mixed") 1041)] 0), #[]⟩
noncomputable def o330 (P : Params) : Obj := ⟨(.type "tuple"), none, (.seq #[] 0), #[]⟩
noncomputable def o331 (A : Arguments) (B : List Stmt) (S : Scope) (P : Params) : Obj := ⟨.none, none, (Data.func { name := (Str.ofString "_law_says"), qualname := (Str.ofString "_law_says"), params := A, body := .stmts B, scope := S, globals := 0, closure := [], defaults := .none, kwdefaults := .none, doc := .none, pyModule := .none, annotations := none, code := .none, closureTuple := .none, builtins := 0 }), #[]⟩
noncomputable def o332 (P : Params) : Obj := ⟨(.type "code"), none, (.fields #[(.str (Str.ofString "_law_says") 1024), (.str (Str.ofString "_law_says") 1025), (.str (Str.ofString "/claim/cut.py") 1026), (.int 203 0), (.int 3 0), (.int 0 0), (.int 0 0), (.int 3 0), (.ref 327), (.bool true), (.int 276 0), (.ref 328), .none, (.ref 329), (.ref 330), (.ref 331), (.int 1042 0), (.int 203 0), (.str (Str.ofString "/claim/cut.py") 1043)]), #[]⟩
noncomputable def o333 (A : Arguments) (B : List Stmt) (S : Scope) (P : Params) : Obj := ⟨(.type "function"), none, (Data.func { name := (Str.ofString "_law_says"), qualname := (Str.ofString "_law_says"), params := A, body := .stmts B, scope := S, globals := 3, closure := [], defaults := .none, kwdefaults := .none, doc := .none, pyModule := (.str (Str.ofString "law_wf0074_01") 988), annotations := none, code := (.ref 332), closureTuple := .none, builtins := 0 }), #[]⟩
noncomputable def o334 (P : Params) : Obj := ⟨(.type "tuple"), none, (.seq #[] 0), #[]⟩
noncomputable def o335 (P : Params) : Obj := ⟨.none, none, (.fields #[]), #[]⟩
noncomputable def o336 (A : Arguments) (B : List Stmt) (S : Scope) (P : Params) : Obj := ⟨.none, none, (Data.func { name := (Str.ofString "_law_unlucky"), qualname := (Str.ofString "_law_unlucky"), params := A, body := .stmts B, scope := S, globals := 0, closure := [], defaults := .none, kwdefaults := .none, doc := .none, pyModule := .none, annotations := none, code := .none, closureTuple := .none, builtins := 0 }), #[]⟩
noncomputable def o337 (P : Params) : Obj := ⟨(.type "code"), none, (.fields #[(.str (Str.ofString "_law_unlucky") 1045), (.str (Str.ofString "_law_unlucky") 1046), (.str (Str.ofString "/claim/cut.py") 1047), (.int 219 0), (.int 1 0), (.int 0 0), (.int 0 0), (.int 3 0), (.ref 334), (.bool true), (.int 276 0), (.ref 335), .none, .none, .none, (.ref 336), (.int 1048 0), (.int 219 0), (.str (Str.ofString "/claim/cut.py") 1049)]), #[]⟩
noncomputable def o338 (A : Arguments) (B : List Stmt) (S : Scope) (P : Params) : Obj := ⟨(.type "function"), none, (Data.func { name := (Str.ofString "_law_unlucky"), qualname := (Str.ofString "_law_unlucky"), params := A, body := .stmts B, scope := S, globals := 3, closure := [], defaults := .none, kwdefaults := .none, doc := .none, pyModule := (.str (Str.ofString "law_wf0074_01") 988), annotations := none, code := (.ref 337), closureTuple := .none, builtins := 0 }), #[]⟩
noncomputable def o339 (P : Params) : Obj := ⟨(.type "tuple"), none, (.seq #[] 0), #[]⟩
noncomputable def o340 (P : Params) : Obj := ⟨.none, none, (.fields #[]), #[]⟩
noncomputable def o341 (A : Arguments) (B : List Stmt) (S : Scope) (P : Params) : Obj := ⟨.none, none, (Data.func { name := (Str.ofString "law"), qualname := (Str.ofString "law"), params := A, body := .stmts B, scope := S, globals := 0, closure := [], defaults := .none, kwdefaults := .none, doc := .none, pyModule := .none, annotations := none, code := .none, closureTuple := .none, builtins := 0 }), #[]⟩
noncomputable def o342 (P : Params) : Obj := ⟨(.type "code"), none, (.fields #[(.str (Str.ofString "law") 1051), (.str (Str.ofString "law") 1052), (.str (Str.ofString "/claim/cut.py") 1053), (.int 223 0), (.int 1 0), (.int 0 0), (.int 0 0), (.int 3 0), (.ref 339), (.bool true), (.int 276 0), (.ref 340), .none, .none, .none, (.ref 341), (.int 1054 0), (.int 223 0), (.str (Str.ofString "/claim/cut.py") 1055)]), #[]⟩
noncomputable def o343 (A : Arguments) (B : List Stmt) (S : Scope) (P : Params) : Obj := ⟨(.type "function"), none, (Data.func { name := (Str.ofString "law"), qualname := (Str.ofString "law"), params := A, body := .stmts B, scope := S, globals := 3, closure := [], defaults := .none, kwdefaults := .none, doc := .none, pyModule := (.str (Str.ofString "law_wf0074_01") 988), annotations := none, code := (.ref 342), closureTuple := .none, builtins := 0 }), #[]⟩
noncomputable def o3v1 (P : Params) : Obj := ⟨(.type "dict"), none, (.dict #[⟨PyData.keyHash P (Str.ofString "__name__"), (.str (Str.ofString "__name__") 165), (.str (Str.ofString "__main__") 164)⟩, ⟨PyData.keyHash P (Str.ofString "__doc__"), (.str (Str.ofString "__doc__") 166), .none⟩, ⟨PyData.keyHash P (Str.ofString "__package__"), (.str (Str.ofString "__package__") 167), .none⟩, ⟨PyData.keyHash P (Str.ofString "__loader__"), (.str (Str.ofString "__loader__") 168), (.builtin "__main__.__loader__#opaque")⟩, ⟨PyData.keyHash P (Str.ofString "__spec__"), (.str (Str.ofString "__spec__") 169), .none⟩, ⟨PyData.keyHash P (Str.ofString "__annotations__"), (.str (Str.ofString "__annotations__") 170), (.ref 6)⟩, ⟨PyData.keyHash P (Str.ofString "__builtins__"), (.str (Str.ofString "__builtins__") 171), (.ref 4)⟩, ⟨PyData.keyHash P (Str.ofString "__file__"), (.str (Str.ofString "__file__") 173), (.str (Str.ofString "/claim/cut.py") 172)⟩, ⟨PyData.keyHash P (Str.ofString "__cached__"), (.str (Str.ofString "__cached__") 174), .none⟩, ⟨PyData.keyHash P (Str.ofString "_sre"), (.str (Str.ofString "_sre") 275), (.ref 12)⟩] 10), #[]⟩
noncomputable def o11v1 (P : Params) : Obj := ⟨(.type "dict"), none, (.dict #[⟨PyData.keyHash P (Str.ofString "__name__"), (.str (Str.ofString "__name__") 247), (.str (Str.ofString "_sre") 246)⟩, ⟨PyData.keyHash P (Str.ofString "__doc__"), (.str (Str.ofString "__doc__") 248), .none⟩, ⟨PyData.keyHash P (Str.ofString "__package__"), (.str (Str.ofString "__package__") 250), (.str (Str.ofString "") 249)⟩, ⟨PyData.keyHash P (Str.ofString "__loader__"), (.str (Str.ofString "__loader__") 251), (.ref 14)⟩, ⟨PyData.keyHash P (Str.ofString "__spec__"), (.str (Str.ofString "__spec__") 252), (.ref 26)⟩, ⟨PyData.keyHash P (Str.ofString "compile"), (.str (Str.ofString "compile") 253), (.builtin "_sre.compile")⟩, ⟨PyData.keyHash P (Str.ofString "template"), (.str (Str.ofString "template") 254), (.builtin "_sre.template")⟩, ⟨PyData.keyHash P (Str.ofString "getcodesize"), (.str (Str.ofString "getcodesize") 255), (.builtin "_sre.getcodesize")⟩, ⟨PyData.keyHash P (Str.ofString "ascii_iscased"), (.str (Str.ofString "ascii_iscased") 256), (.builtin "_sre.ascii_iscased")⟩, ⟨PyData.keyHash P (Str.ofString "unicode_iscased"), (.str (Str.ofString "unicode_iscased") 257), (.builtin "_sre.unicode_iscased")⟩, ⟨PyData.keyHash P (Str.ofString "ascii_tolower"), (.str (Str.ofString "ascii_tolower") 258), (.builtin "_sre.ascii_tolower")⟩, ⟨PyData.keyHash P (Str.ofString "unicode_tolower"), (.str (Str.ofString "unicode_tolower") 259), (.builtin "_sre.unicode_tolower")⟩, ⟨PyData.keyHash P (Str.ofString "MAGIC"), (.str (Str.ofString "MAGIC") 261), (.int 20230612 260)⟩, ⟨PyData.keyHash P (Str.ofString "CODESIZE"), (.str (Str.ofString "CODESIZE") 263), (.int 4 262)⟩, ⟨PyData.keyHash P (Str.ofString "MAXREPEAT"), (.str (Str.ofString "MAXREPEAT") 265), (.int 4294967295 264)⟩, ⟨PyData.keyHash P (Str.ofString "MAXGROUPS"), (.str (Str.ofString "MAXGROUPS") 267), (.int 1073741823 266)⟩, ⟨PyData.keyHash P (Str.ofString "copyright"), (.str (Str.ofString "copyright") 269), (.str (Str.ofString " SRE 2.2.2 Copyright (c) 1997-2002 by Secret Labs AB ") 268)⟩] 17), #[]⟩
noncomputable def o29v1 (P : Params) : Obj := ⟨.none, none, (.fields #[]), #[]⟩
noncomputable def o3v2 (P : Params) : Obj := ⟨(.type "dict"), none, (.dict #[⟨PyData.keyHash P (Str.ofString "__name__"), (.str (Str.ofString "__name__") 165), (.str (Str.ofString "__main__") 164)⟩, ⟨PyData.keyHash P (Str.ofString "__doc__"), (.str (Str.ofString "__doc__") 166), .none⟩, ⟨PyData.keyHash P (Str.ofString "__package__"), (.str (Str.ofString "__package__") 167), .none⟩, ⟨PyData.keyHash P (Str.ofString "__loader__"), (.str (Str.ofString "__loader__") 168), (.builtin "__main__.__loader__#opaque")⟩, ⟨PyData.keyHash P (Str.ofString "__spec__"), (.str (Str.ofString "__spec__") 169), .none⟩, ⟨PyData.keyHash P (Str.ofString "__annotations__"), (.str (Str.ofString "__annotations__") 170), (.ref 6)⟩, ⟨PyData.keyHash P (Str.ofString "__builtins__"), (.str (Str.ofString "__builtins__") 171), (.ref 4)⟩, ⟨PyData.keyHash P (Str.ofString "__file__"), (.str (Str.ofString "__file__") 173), (.str (Str.ofString "/claim/cut.py") 172)⟩, ⟨PyData.keyHash P (Str.ofString "__cached__"), (.str (Str.ofString "__cached__") 174), .none⟩, ⟨PyData.keyHash P (Str.ofString "_sre"), (.str (Str.ofString "_sre") 275), (.ref 12)⟩, ⟨PyData.keyHash P (Str.ofString "_wall"), (.str (Str.ofString "_wall") 288), (.ref 38)⟩] 11), #[]⟩
noncomputable def o29v2 (P : Params) : Obj := ⟨.none, none, (.fields #[(.int 2 0), (.int 0 0), (.ref 37)]), #[]⟩
noncomputable def o3v3 (P : Params) : Obj := ⟨(.type "dict"), none, (.dict #[⟨PyData.keyHash P (Str.ofString "__name__"), (.str (Str.ofString "__name__") 165), (.str (Str.ofString "cpy313.stringprep") 289)⟩, ⟨PyData.keyHash P (Str.ofString "__doc__"), (.str (Str.ofString "__doc__") 166), .none⟩, ⟨PyData.keyHash P (Str.ofString "__package__"), (.str (Str.ofString "__package__") 167), .none⟩, ⟨PyData.keyHash P (Str.ofString "__loader__"), (.str (Str.ofString "__loader__") 168), (.builtin "__main__.__loader__#opaque")⟩, ⟨PyData.keyHash P (Str.ofString "__spec__"), (.str (Str.ofString "__spec__") 169), .none⟩, ⟨PyData.keyHash P (Str.ofString "__annotations__"), (.str (Str.ofString "__annotations__") 170), (.ref 6)⟩, ⟨PyData.keyHash P (Str.ofString "__builtins__"), (.str (Str.ofString "__builtins__") 171), (.ref 4)⟩, ⟨PyData.keyHash P (Str.ofString "__file__"), (.str (Str.ofString "__file__") 173), (.str (Str.ofString "/claim/cut.py") 172)⟩, ⟨PyData.keyHash P (Str.ofString "__cached__"), (.str (Str.ofString "__cached__") 174), .none⟩, ⟨PyData.keyHash P (Str.ofString "_sre"), (.str (Str.ofString "_sre") 275), (.ref 12)⟩, ⟨PyData.keyHash P (Str.ofString "_wall"), (.str (Str.ofString "_wall") 288), (.ref 38)⟩] 11), #[]⟩
noncomputable def o3v4 (P : Params) : Obj := ⟨(.type "dict"), none, (.dict #[⟨PyData.keyHash P (Str.ofString "__name__"), (.str (Str.ofString "__name__") 165), (.str (Str.ofString "cpy313.stringprep") 289)⟩, ⟨PyData.keyHash P (Str.ofString "__doc__"), (.str (Str.ofString "__doc__") 166), .none⟩, ⟨PyData.keyHash P (Str.ofString "__package__"), (.str (Str.ofString "__package__") 167), .none⟩, ⟨PyData.keyHash P (Str.ofString "__loader__"), (.str (Str.ofString "__loader__") 168), (.builtin "__main__.__loader__#opaque")⟩, ⟨PyData.keyHash P (Str.ofString "__spec__"), (.str (Str.ofString "__spec__") 169), .none⟩, ⟨PyData.keyHash P (Str.ofString "__annotations__"), (.str (Str.ofString "__annotations__") 170), (.ref 6)⟩, ⟨PyData.keyHash P (Str.ofString "__builtins__"), (.str (Str.ofString "__builtins__") 171), (.ref 4)⟩, ⟨PyData.keyHash P (Str.ofString "__file__"), (.str (Str.ofString "__file__") 173), (.str (Str.ofString "/claim/cut.py") 172)⟩, ⟨PyData.keyHash P (Str.ofString "__cached__"), (.str (Str.ofString "__cached__") 174), .none⟩, ⟨PyData.keyHash P (Str.ofString "_sre"), (.str (Str.ofString "_sre") 275), (.ref 12)⟩, ⟨PyData.keyHash P (Str.ofString "_wall"), (.str (Str.ofString "_wall") 288), (.ref 38)⟩, ⟨PyData.keyHash P (Str.ofString "b1_set"), (.str (Str.ofString "b1_set") 350), (.ref 46)⟩] 12), #[]⟩
noncomputable def o3v5 (P : Params) : Obj := ⟨(.type "dict"), none, (.dict #[⟨PyData.keyHash P (Str.ofString "__name__"), (.str (Str.ofString "__name__") 165), (.str (Str.ofString "cpy313.stringprep") 289)⟩, ⟨PyData.keyHash P (Str.ofString "__doc__"), (.str (Str.ofString "__doc__") 166), .none⟩, ⟨PyData.keyHash P (Str.ofString "__package__"), (.str (Str.ofString "__package__") 167), .none⟩, ⟨PyData.keyHash P (Str.ofString "__loader__"), (.str (Str.ofString "__loader__") 168), (.builtin "__main__.__loader__#opaque")⟩, ⟨PyData.keyHash P (Str.ofString "__spec__"), (.str (Str.ofString "__spec__") 169), .none⟩, ⟨PyData.keyHash P (Str.ofString "__annotations__"), (.str (Str.ofString "__annotations__") 170), (.ref 6)⟩, ⟨PyData.keyHash P (Str.ofString "__builtins__"), (.str (Str.ofString "__builtins__") 171), (.ref 4)⟩, ⟨PyData.keyHash P (Str.ofString "__file__"), (.str (Str.ofString "__file__") 173), (.str (Str.ofString "/claim/cut.py") 172)⟩, ⟨PyData.keyHash P (Str.ofString "__cached__"), (.str (Str.ofString "__cached__") 174), .none⟩, ⟨PyData.keyHash P (Str.ofString "_sre"), (.str (Str.ofString "_sre") 275), (.ref 12)⟩, ⟨PyData.keyHash P (Str.ofString "_wall"), (.str (Str.ofString "_wall") 288), (.ref 38)⟩, ⟨PyData.keyHash P (Str.ofString "b1_set"), (.str (Str.ofString "b1_set") 350), (.ref 46)⟩, ⟨PyData.keyHash P (Str.ofString "in_table_b1"), (.str (Str.ofString "in_table_b1") 357), (.ref 56)⟩] 13), #[]⟩
noncomputable def o29v3 (P : Params) : Obj := ⟨.none, none, (.fields #[(.int 2 0), (.int 0 0), (.ref 37), (.int 7 0), (.int 0 0), (.ref 55)]), #[]⟩
noncomputable def o3v6 (P : Params) : Obj := ⟨(.type "dict"), none, (.dict #[⟨PyData.keyHash P (Str.ofString "__name__"), (.str (Str.ofString "__name__") 165), (.str (Str.ofString "cpy313.stringprep") 289)⟩, ⟨PyData.keyHash P (Str.ofString "__doc__"), (.str (Str.ofString "__doc__") 166), .none⟩, ⟨PyData.keyHash P (Str.ofString "__package__"), (.str (Str.ofString "__package__") 167), .none⟩, ⟨PyData.keyHash P (Str.ofString "__loader__"), (.str (Str.ofString "__loader__") 168), (.builtin "__main__.__loader__#opaque")⟩, ⟨PyData.keyHash P (Str.ofString "__spec__"), (.str (Str.ofString "__spec__") 169), .none⟩, ⟨PyData.keyHash P (Str.ofString "__annotations__"), (.str (Str.ofString "__annotations__") 170), (.ref 6)⟩, ⟨PyData.keyHash P (Str.ofString "__builtins__"), (.str (Str.ofString "__builtins__") 171), (.ref 4)⟩, ⟨PyData.keyHash P (Str.ofString "__file__"), (.str (Str.ofString "__file__") 173), (.str (Str.ofString "/claim/cut.py") 172)⟩, ⟨PyData.keyHash P (Str.ofString "__cached__"), (.str (Str.ofString "__cached__") 174), .none⟩, ⟨PyData.keyHash P (Str.ofString "_sre"), (.str (Str.ofString "_sre") 275), (.ref 12)⟩, ⟨PyData.keyHash P (Str.ofString "_wall"), (.str (Str.ofString "_wall") 288), (.ref 38)⟩, ⟨PyData.keyHash P (Str.ofString "b1_set"), (.str (Str.ofString "b1_set") 350), (.ref 46)⟩, ⟨PyData.keyHash P (Str.ofString "in_table_b1"), (.str (Str.ofString "in_table_b1") 357), (.ref 56)⟩, ⟨PyData.keyHash P (Str.ofString "in_table_c11"), (.str (Str.ofString "in_table_c11") 364), (.ref 63)⟩] 14), #[]⟩
noncomputable def o29v4 (P : Params) : Obj := ⟨.none, none, (.fields #[(.int 2 0), (.int 0 0), (.ref 37), (.int 7 0), (.int 0 0), (.ref 55), (.int 9 0), (.int 0 0), (.ref 62)]), #[]⟩
noncomputable def o3v7 (P : Params) : Obj := ⟨(.type "dict"), none, (.dict #[⟨PyData.keyHash P (Str.ofString "__name__"), (.str (Str.ofString "__name__") 165), (.str (Str.ofString "cpy313.stringprep") 289)⟩, ⟨PyData.keyHash P (Str.ofString "__doc__"), (.str (Str.ofString "__doc__") 166), .none⟩, ⟨PyData.keyHash P (Str.ofString "__package__"), (.str (Str.ofString "__package__") 167), .none⟩, ⟨PyData.keyHash P (Str.ofString "__loader__"), (.str (Str.ofString "__loader__") 168), (.builtin "__main__.__loader__#opaque")⟩, ⟨PyData.keyHash P (Str.ofString "__spec__"), (.str (Str.ofString "__spec__") 169), .none⟩, ⟨PyData.keyHash P (Str.ofString "__annotations__"), (.str (Str.ofString "__annotations__") 170), (.ref 6)⟩, ⟨PyData.keyHash P (Str.ofString "__builtins__"), (.str (Str.ofString "__builtins__") 171), (.ref 4)⟩, ⟨PyData.keyHash P (Str.ofString "__file__"), (.str (Str.ofString "__file__") 173), (.str (Str.ofString "/claim/cut.py") 172)⟩, ⟨PyData.keyHash P (Str.ofString "__cached__"), (.str (Str.ofString "__cached__") 174), .none⟩, ⟨PyData.keyHash P (Str.ofString "_sre"), (.str (Str.ofString "_sre") 275), (.ref 12)⟩, ⟨PyData.keyHash P (Str.ofString "_wall"), (.str (Str.ofString "_wall") 288), (.ref 38)⟩, ⟨PyData.keyHash P (Str.ofString "b1_set"), (.str (Str.ofString "b1_set") 350), (.ref 46)⟩, ⟨PyData.keyHash P (Str.ofString "in_table_b1"), (.str (Str.ofString "in_table_b1") 357), (.ref 56)⟩, ⟨PyData.keyHash P (Str.ofString "in_table_c11"), (.str (Str.ofString "in_table_c11") 364), (.ref 63)⟩, ⟨PyData.keyHash P (Str.ofString "in_table_c4"), (.str (Str.ofString "in_table_c4") 372), (.ref 70)⟩] 15), #[]⟩
noncomputable def o29v5 (P : Params) : Obj := ⟨.none, none, (.fields #[(.int 2 0), (.int 0 0), (.ref 37), (.int 7 0), (.int 0 0), (.ref 55), (.int 9 0), (.int 0 0), (.ref 62), (.int 11 0), (.int 0 0), (.ref 69)]), #[]⟩
noncomputable def o3v8 (P : Params) : Obj := ⟨(.type "dict"), none, (.dict #[⟨PyData.keyHash P (Str.ofString "__name__"), (.str (Str.ofString "__name__") 165), (.str (Str.ofString "cpy313.stringprep") 289)⟩, ⟨PyData.keyHash P (Str.ofString "__doc__"), (.str (Str.ofString "__doc__") 166), .none⟩, ⟨PyData.keyHash P (Str.ofString "__package__"), (.str (Str.ofString "__package__") 167), .none⟩, ⟨PyData.keyHash P (Str.ofString "__loader__"), (.str (Str.ofString "__loader__") 168), (.builtin "__main__.__loader__#opaque")⟩, ⟨PyData.keyHash P (Str.ofString "__spec__"), (.str (Str.ofString "__spec__") 169), .none⟩, ⟨PyData.keyHash P (Str.ofString "__annotations__"), (.str (Str.ofString "__annotations__") 170), (.ref 6)⟩, ⟨PyData.keyHash P (Str.ofString "__builtins__"), (.str (Str.ofString "__builtins__") 171), (.ref 4)⟩, ⟨PyData.keyHash P (Str.ofString "__file__"), (.str (Str.ofString "__file__") 173), (.str (Str.ofString "/claim/cut.py") 172)⟩, ⟨PyData.keyHash P (Str.ofString "__cached__"), (.str (Str.ofString "__cached__") 174), .none⟩, ⟨PyData.keyHash P (Str.ofString "_sre"), (.str (Str.ofString "_sre") 275), (.ref 12)⟩, ⟨PyData.keyHash P (Str.ofString "_wall"), (.str (Str.ofString "_wall") 288), (.ref 38)⟩, ⟨PyData.keyHash P (Str.ofString "b1_set"), (.str (Str.ofString "b1_set") 350), (.ref 46)⟩, ⟨PyData.keyHash P (Str.ofString "in_table_b1"), (.str (Str.ofString "in_table_b1") 357), (.ref 56)⟩, ⟨PyData.keyHash P (Str.ofString "in_table_c11"), (.str (Str.ofString "in_table_c11") 364), (.ref 63)⟩, ⟨PyData.keyHash P (Str.ofString "in_table_c4"), (.str (Str.ofString "in_table_c4") 372), (.ref 70)⟩, ⟨PyData.keyHash P (Str.ofString "c6_set"), (.str (Str.ofString "c6_set") 386), (.ref 72)⟩] 16), #[]⟩
noncomputable def o3v9 (P : Params) : Obj := ⟨(.type "dict"), none, (.dict #[⟨PyData.keyHash P (Str.ofString "__name__"), (.str (Str.ofString "__name__") 165), (.str (Str.ofString "cpy313.stringprep") 289)⟩, ⟨PyData.keyHash P (Str.ofString "__doc__"), (.str (Str.ofString "__doc__") 166), .none⟩, ⟨PyData.keyHash P (Str.ofString "__package__"), (.str (Str.ofString "__package__") 167), .none⟩, ⟨PyData.keyHash P (Str.ofString "__loader__"), (.str (Str.ofString "__loader__") 168), (.builtin "__main__.__loader__#opaque")⟩, ⟨PyData.keyHash P (Str.ofString "__spec__"), (.str (Str.ofString "__spec__") 169), .none⟩, ⟨PyData.keyHash P (Str.ofString "__annotations__"), (.str (Str.ofString "__annotations__") 170), (.ref 6)⟩, ⟨PyData.keyHash P (Str.ofString "__builtins__"), (.str (Str.ofString "__builtins__") 171), (.ref 4)⟩, ⟨PyData.keyHash P (Str.ofString "__file__"), (.str (Str.ofString "__file__") 173), (.str (Str.ofString "/claim/cut.py") 172)⟩, ⟨PyData.keyHash P (Str.ofString "__cached__"), (.str (Str.ofString "__cached__") 174), .none⟩, ⟨PyData.keyHash P (Str.ofString "_sre"), (.str (Str.ofString "_sre") 275), (.ref 12)⟩, ⟨PyData.keyHash P (Str.ofString "_wall"), (.str (Str.ofString "_wall") 288), (.ref 38)⟩, ⟨PyData.keyHash P (Str.ofString "b1_set"), (.str (Str.ofString "b1_set") 350), (.ref 46)⟩, ⟨PyData.keyHash P (Str.ofString "in_table_b1"), (.str (Str.ofString "in_table_b1") 357), (.ref 56)⟩, ⟨PyData.keyHash P (Str.ofString "in_table_c11"), (.str (Str.ofString "in_table_c11") 364), (.ref 63)⟩, ⟨PyData.keyHash P (Str.ofString "in_table_c4"), (.str (Str.ofString "in_table_c4") 372), (.ref 70)⟩, ⟨PyData.keyHash P (Str.ofString "c6_set"), (.str (Str.ofString "c6_set") 386), (.ref 72)⟩, ⟨PyData.keyHash P (Str.ofString "in_table_c6"), (.str (Str.ofString "in_table_c6") 393), (.ref 82)⟩] 17), #[]⟩
noncomputable def o29v6 (P : Params) : Obj := ⟨.none, none, (.fields #[(.int 2 0), (.int 0 0), (.ref 37), (.int 7 0), (.int 0 0), (.ref 55), (.int 9 0), (.int 0 0), (.ref 62), (.int 11 0), (.int 0 0), (.ref 69), (.int 19 0), (.int 0 0), (.ref 81)]), #[]⟩
noncomputable def o3v10 (P : Params) : Obj := ⟨(.type "dict"), none, (.dict #[⟨PyData.keyHash P (Str.ofString "__name__"), (.str (Str.ofString "__name__") 165), (.str (Str.ofString "cpy313.stringprep") 289)⟩, ⟨PyData.keyHash P (Str.ofString "__doc__"), (.str (Str.ofString "__doc__") 166), .none⟩, ⟨PyData.keyHash P (Str.ofString "__package__"), (.str (Str.ofString "__package__") 167), .none⟩, ⟨PyData.keyHash P (Str.ofString "__loader__"), (.str (Str.ofString "__loader__") 168), (.builtin "__main__.__loader__#opaque")⟩, ⟨PyData.keyHash P (Str.ofString "__spec__"), (.str (Str.ofString "__spec__") 169), .none⟩, ⟨PyData.keyHash P (Str.ofString "__annotations__"), (.str (Str.ofString "__annotations__") 170), (.ref 6)⟩, ⟨PyData.keyHash P (Str.ofString "__builtins__"), (.str (Str.ofString "__builtins__") 171), (.ref 4)⟩, ⟨PyData.keyHash P (Str.ofString "__file__"), (.str (Str.ofString "__file__") 173), (.str (Str.ofString "/claim/cut.py") 172)⟩, ⟨PyData.keyHash P (Str.ofString "__cached__"), (.str (Str.ofString "__cached__") 174), .none⟩, ⟨PyData.keyHash P (Str.ofString "_sre"), (.str (Str.ofString "_sre") 275), (.ref 12)⟩, ⟨PyData.keyHash P (Str.ofString "_wall"), (.str (Str.ofString "_wall") 288), (.ref 38)⟩, ⟨PyData.keyHash P (Str.ofString "b1_set"), (.str (Str.ofString "b1_set") 350), (.ref 46)⟩, ⟨PyData.keyHash P (Str.ofString "in_table_b1"), (.str (Str.ofString "in_table_b1") 357), (.ref 56)⟩, ⟨PyData.keyHash P (Str.ofString "in_table_c11"), (.str (Str.ofString "in_table_c11") 364), (.ref 63)⟩, ⟨PyData.keyHash P (Str.ofString "in_table_c4"), (.str (Str.ofString "in_table_c4") 372), (.ref 70)⟩, ⟨PyData.keyHash P (Str.ofString "c6_set"), (.str (Str.ofString "c6_set") 386), (.ref 72)⟩, ⟨PyData.keyHash P (Str.ofString "in_table_c6"), (.str (Str.ofString "in_table_c6") 393), (.ref 82)⟩, ⟨PyData.keyHash P (Str.ofString "c7_set"), (.str (Str.ofString "c7_set") 421), (.ref 84)⟩] 18), #[]⟩
noncomputable def o3v11 (P : Params) : Obj := ⟨(.type "dict"), none, (.dict #[⟨PyData.keyHash P (Str.ofString "__name__"), (.str (Str.ofString "__name__") 165), (.str (Str.ofString "cpy313.stringprep") 289)⟩, ⟨PyData.keyHash P (Str.ofString "__doc__"), (.str (Str.ofString "__doc__") 166), .none⟩, ⟨PyData.keyHash P (Str.ofString "__package__"), (.str (Str.ofString "__package__") 167), .none⟩, ⟨PyData.keyHash P (Str.ofString "__loader__"), (.str (Str.ofString "__loader__") 168), (.builtin "__main__.__loader__#opaque")⟩, ⟨PyData.keyHash P (Str.ofString "__spec__"), (.str (Str.ofString "__spec__") 169), .none⟩, ⟨PyData.keyHash P (Str.ofString "__annotations__"), (.str (Str.ofString "__annotations__") 170), (.ref 6)⟩, ⟨PyData.keyHash P (Str.ofString "__builtins__"), (.str (Str.ofString "__builtins__") 171), (.ref 4)⟩, ⟨PyData.keyHash P (Str.ofString "__file__"), (.str (Str.ofString "__file__") 173), (.str (Str.ofString "/claim/cut.py") 172)⟩, ⟨PyData.keyHash P (Str.ofString "__cached__"), (.str (Str.ofString "__cached__") 174), .none⟩, ⟨PyData.keyHash P (Str.ofString "_sre"), (.str (Str.ofString "_sre") 275), (.ref 12)⟩, ⟨PyData.keyHash P (Str.ofString "_wall"), (.str (Str.ofString "_wall") 288), (.ref 38)⟩, ⟨PyData.keyHash P (Str.ofString "b1_set"), (.str (Str.ofString "b1_set") 350), (.ref 46)⟩, ⟨PyData.keyHash P (Str.ofString "in_table_b1"), (.str (Str.ofString "in_table_b1") 357), (.ref 56)⟩, ⟨PyData.keyHash P (Str.ofString "in_table_c11"), (.str (Str.ofString "in_table_c11") 364), (.ref 63)⟩, ⟨PyData.keyHash P (Str.ofString "in_table_c4"), (.str (Str.ofString "in_table_c4") 372), (.ref 70)⟩, ⟨PyData.keyHash P (Str.ofString "c6_set"), (.str (Str.ofString "c6_set") 386), (.ref 72)⟩, ⟨PyData.keyHash P (Str.ofString "in_table_c6"), (.str (Str.ofString "in_table_c6") 393), (.ref 82)⟩, ⟨PyData.keyHash P (Str.ofString "c7_set"), (.str (Str.ofString "c7_set") 421), (.ref 84)⟩, ⟨PyData.keyHash P (Str.ofString "in_table_c7"), (.str (Str.ofString "in_table_c7") 428), (.ref 94)⟩] 19), #[]⟩
noncomputable def o29v7 (P : Params) : Obj := ⟨.none, none, (.fields #[(.int 2 0), (.int 0 0), (.ref 37), (.int 7 0), (.int 0 0), (.ref 55), (.int 9 0), (.int 0 0), (.ref 62), (.int 11 0), (.int 0 0), (.ref 69), (.int 19 0), (.int 0 0), (.ref 81), (.int 22 0), (.int 0 0), (.ref 93)]), #[]⟩
noncomputable def o3v12 (P : Params) : Obj := ⟨(.type "dict"), none, (.dict #[⟨PyData.keyHash P (Str.ofString "__name__"), (.str (Str.ofString "__name__") 165), (.str (Str.ofString "cpy313.stringprep") 289)⟩, ⟨PyData.keyHash P (Str.ofString "__doc__"), (.str (Str.ofString "__doc__") 166), .none⟩, ⟨PyData.keyHash P (Str.ofString "__package__"), (.str (Str.ofString "__package__") 167), .none⟩, ⟨PyData.keyHash P (Str.ofString "__loader__"), (.str (Str.ofString "__loader__") 168), (.builtin "__main__.__loader__#opaque")⟩, ⟨PyData.keyHash P (Str.ofString "__spec__"), (.str (Str.ofString "__spec__") 169), .none⟩, ⟨PyData.keyHash P (Str.ofString "__annotations__"), (.str (Str.ofString "__annotations__") 170), (.ref 6)⟩, ⟨PyData.keyHash P (Str.ofString "__builtins__"), (.str (Str.ofString "__builtins__") 171), (.ref 4)⟩, ⟨PyData.keyHash P (Str.ofString "__file__"), (.str (Str.ofString "__file__") 173), (.str (Str.ofString "/claim/cut.py") 172)⟩, ⟨PyData.keyHash P (Str.ofString "__cached__"), (.str (Str.ofString "__cached__") 174), .none⟩, ⟨PyData.keyHash P (Str.ofString "_sre"), (.str (Str.ofString "_sre") 275), (.ref 12)⟩, ⟨PyData.keyHash P (Str.ofString "_wall"), (.str (Str.ofString "_wall") 288), (.ref 38)⟩, ⟨PyData.keyHash P (Str.ofString "b1_set"), (.str (Str.ofString "b1_set") 350), (.ref 46)⟩, ⟨PyData.keyHash P (Str.ofString "in_table_b1"), (.str (Str.ofString "in_table_b1") 357), (.ref 56)⟩, ⟨PyData.keyHash P (Str.ofString "in_table_c11"), (.str (Str.ofString "in_table_c11") 364), (.ref 63)⟩, ⟨PyData.keyHash P (Str.ofString "in_table_c4"), (.str (Str.ofString "in_table_c4") 372), (.ref 70)⟩, ⟨PyData.keyHash P (Str.ofString "c6_set"), (.str (Str.ofString "c6_set") 386), (.ref 72)⟩, ⟨PyData.keyHash P (Str.ofString "in_table_c6"), (.str (Str.ofString "in_table_c6") 393), (.ref 82)⟩, ⟨PyData.keyHash P (Str.ofString "c7_set"), (.str (Str.ofString "c7_set") 421), (.ref 84)⟩, ⟨PyData.keyHash P (Str.ofString "in_table_c7"), (.str (Str.ofString "in_table_c7") 428), (.ref 94)⟩, ⟨PyData.keyHash P (Str.ofString "c8_set"), (.str (Str.ofString "c8_set") 469), (.ref 108)⟩] 20), #[]⟩
noncomputable def o3v13 (P : Params) : Obj := ⟨(.type "dict"), none, (.dict #[⟨PyData.keyHash P (Str.ofString "__name__"), (.str (Str.ofString "__name__") 165), (.str (Str.ofString "cpy313.stringprep") 289)⟩, ⟨PyData.keyHash P (Str.ofString "__doc__"), (.str (Str.ofString "__doc__") 166), .none⟩, ⟨PyData.keyHash P (Str.ofString "__package__"), (.str (Str.ofString "__package__") 167), .none⟩, ⟨PyData.keyHash P (Str.ofString "__loader__"), (.str (Str.ofString "__loader__") 168), (.builtin "__main__.__loader__#opaque")⟩, ⟨PyData.keyHash P (Str.ofString "__spec__"), (.str (Str.ofString "__spec__") 169), .none⟩, ⟨PyData.keyHash P (Str.ofString "__annotations__"), (.str (Str.ofString "__annotations__") 170), (.ref 6)⟩, ⟨PyData.keyHash P (Str.ofString "__builtins__"), (.str (Str.ofString "__builtins__") 171), (.ref 4)⟩, ⟨PyData.keyHash P (Str.ofString "__file__"), (.str (Str.ofString "__file__") 173), (.str (Str.ofString "/claim/cut.py") 172)⟩, ⟨PyData.keyHash P (Str.ofString "__cached__"), (.str (Str.ofString "__cached__") 174), .none⟩, ⟨PyData.keyHash P (Str.ofString "_sre"), (.str (Str.ofString "_sre") 275), (.ref 12)⟩, ⟨PyData.keyHash P (Str.ofString "_wall"), (.str (Str.ofString "_wall") 288), (.ref 38)⟩, ⟨PyData.keyHash P (Str.ofString "b1_set"), (.str (Str.ofString "b1_set") 350), (.ref 46)⟩, ⟨PyData.keyHash P (Str.ofString "in_table_b1"), (.str (Str.ofString "in_table_b1") 357), (.ref 56)⟩, ⟨PyData.keyHash P (Str.ofString "in_table_c11"), (.str (Str.ofString "in_table_c11") 364), (.ref 63)⟩, ⟨PyData.keyHash P (Str.ofString "in_table_c4"), (.str (Str.ofString "in_table_c4") 372), (.ref 70)⟩, ⟨PyData.keyHash P (Str.ofString "c6_set"), (.str (Str.ofString "c6_set") 386), (.ref 72)⟩, ⟨PyData.keyHash P (Str.ofString "in_table_c6"), (.str (Str.ofString "in_table_c6") 393), (.ref 82)⟩, ⟨PyData.keyHash P (Str.ofString "c7_set"), (.str (Str.ofString "c7_set") 421), (.ref 84)⟩, ⟨PyData.keyHash P (Str.ofString "in_table_c7"), (.str (Str.ofString "in_table_c7") 428), (.ref 94)⟩, ⟨PyData.keyHash P (Str.ofString "c8_set"), (.str (Str.ofString "c8_set") 469), (.ref 108)⟩, ⟨PyData.keyHash P (Str.ofString "in_table_c8"), (.str (Str.ofString "in_table_c8") 476), (.ref 118)⟩] 21), #[]⟩
noncomputable def o29v8 (P : Params) : Obj := ⟨.none, none, (.fields #[(.int 2 0), (.int 0 0), (.ref 37), (.int 7 0), (.int 0 0), (.ref 55), (.int 9 0), (.int 0 0), (.ref 62), (.int 11 0), (.int 0 0), (.ref 69), (.int 19 0), (.int 0 0), (.ref 81), (.int 22 0), (.int 0 0), (.ref 93), (.int 25 0), (.int 0 0), (.ref 117)]), #[]⟩
noncomputable def o3v14 (P : Params) : Obj := ⟨(.type "dict"), none, (.dict #[⟨PyData.keyHash P (Str.ofString "__name__"), (.str (Str.ofString "__name__") 165), (.str (Str.ofString "cpy313.stringprep") 289)⟩, ⟨PyData.keyHash P (Str.ofString "__doc__"), (.str (Str.ofString "__doc__") 166), .none⟩, ⟨PyData.keyHash P (Str.ofString "__package__"), (.str (Str.ofString "__package__") 167), .none⟩, ⟨PyData.keyHash P (Str.ofString "__loader__"), (.str (Str.ofString "__loader__") 168), (.builtin "__main__.__loader__#opaque")⟩, ⟨PyData.keyHash P (Str.ofString "__spec__"), (.str (Str.ofString "__spec__") 169), .none⟩, ⟨PyData.keyHash P (Str.ofString "__annotations__"), (.str (Str.ofString "__annotations__") 170), (.ref 6)⟩, ⟨PyData.keyHash P (Str.ofString "__builtins__"), (.str (Str.ofString "__builtins__") 171), (.ref 4)⟩, ⟨PyData.keyHash P (Str.ofString "__file__"), (.str (Str.ofString "__file__") 173), (.str (Str.ofString "/claim/cut.py") 172)⟩, ⟨PyData.keyHash P (Str.ofString "__cached__"), (.str (Str.ofString "__cached__") 174), .none⟩, ⟨PyData.keyHash P (Str.ofString "_sre"), (.str (Str.ofString "_sre") 275), (.ref 12)⟩, ⟨PyData.keyHash P (Str.ofString "_wall"), (.str (Str.ofString "_wall") 288), (.ref 38)⟩, ⟨PyData.keyHash P (Str.ofString "b1_set"), (.str (Str.ofString "b1_set") 350), (.ref 46)⟩, ⟨PyData.keyHash P (Str.ofString "in_table_b1"), (.str (Str.ofString "in_table_b1") 357), (.ref 56)⟩, ⟨PyData.keyHash P (Str.ofString "in_table_c11"), (.str (Str.ofString "in_table_c11") 364), (.ref 63)⟩, ⟨PyData.keyHash P (Str.ofString "in_table_c4"), (.str (Str.ofString "in_table_c4") 372), (.ref 70)⟩, ⟨PyData.keyHash P (Str.ofString "c6_set"), (.str (Str.ofString "c6_set") 386), (.ref 72)⟩, ⟨PyData.keyHash P (Str.ofString "in_table_c6"), (.str (Str.ofString "in_table_c6") 393), (.ref 82)⟩, ⟨PyData.keyHash P (Str.ofString "c7_set"), (.str (Str.ofString "c7_set") 421), (.ref 84)⟩, ⟨PyData.keyHash P (Str.ofString "in_table_c7"), (.str (Str.ofString "in_table_c7") 428), (.ref 94)⟩, ⟨PyData.keyHash P (Str.ofString "c8_set"), (.str (Str.ofString "c8_set") 469), (.ref 108)⟩, ⟨PyData.keyHash P (Str.ofString "in_table_c8"), (.str (Str.ofString "in_table_c8") 476), (.ref 118)⟩, ⟨PyData.keyHash P (Str.ofString "c9_set"), (.str (Str.ofString "c9_set") 676), (.ref 126)⟩] 22), #[]⟩
noncomputable def o3v15 (P : Params) : Obj := ⟨(.type "dict"), none, (.dict #[⟨PyData.keyHash P (Str.ofString "__name__"), (.str (Str.ofString "__name__") 165), (.str (Str.ofString "cpy313.stringprep") 289)⟩, ⟨PyData.keyHash P (Str.ofString "__doc__"), (.str (Str.ofString "__doc__") 166), .none⟩, ⟨PyData.keyHash P (Str.ofString "__package__"), (.str (Str.ofString "__package__") 167), .none⟩, ⟨PyData.keyHash P (Str.ofString "__loader__"), (.str (Str.ofString "__loader__") 168), (.builtin "__main__.__loader__#opaque")⟩, ⟨PyData.keyHash P (Str.ofString "__spec__"), (.str (Str.ofString "__spec__") 169), .none⟩, ⟨PyData.keyHash P (Str.ofString "__annotations__"), (.str (Str.ofString "__annotations__") 170), (.ref 6)⟩, ⟨PyData.keyHash P (Str.ofString "__builtins__"), (.str (Str.ofString "__builtins__") 171), (.ref 4)⟩, ⟨PyData.keyHash P (Str.ofString "__file__"), (.str (Str.ofString "__file__") 173), (.str (Str.ofString "/claim/cut.py") 172)⟩, ⟨PyData.keyHash P (Str.ofString "__cached__"), (.str (Str.ofString "__cached__") 174), .none⟩, ⟨PyData.keyHash P (Str.ofString "_sre"), (.str (Str.ofString "_sre") 275), (.ref 12)⟩, ⟨PyData.keyHash P (Str.ofString "_wall"), (.str (Str.ofString "_wall") 288), (.ref 38)⟩, ⟨PyData.keyHash P (Str.ofString "b1_set"), (.str (Str.ofString "b1_set") 350), (.ref 46)⟩, ⟨PyData.keyHash P (Str.ofString "in_table_b1"), (.str (Str.ofString "in_table_b1") 357), (.ref 56)⟩, ⟨PyData.keyHash P (Str.ofString "in_table_c11"), (.str (Str.ofString "in_table_c11") 364), (.ref 63)⟩, ⟨PyData.keyHash P (Str.ofString "in_table_c4"), (.str (Str.ofString "in_table_c4") 372), (.ref 70)⟩, ⟨PyData.keyHash P (Str.ofString "c6_set"), (.str (Str.ofString "c6_set") 386), (.ref 72)⟩, ⟨PyData.keyHash P (Str.ofString "in_table_c6"), (.str (Str.ofString "in_table_c6") 393), (.ref 82)⟩, ⟨PyData.keyHash P (Str.ofString "c7_set"), (.str (Str.ofString "c7_set") 421), (.ref 84)⟩, ⟨PyData.keyHash P (Str.ofString "in_table_c7"), (.str (Str.ofString "in_table_c7") 428), (.ref 94)⟩, ⟨PyData.keyHash P (Str.ofString "c8_set"), (.str (Str.ofString "c8_set") 469), (.ref 108)⟩, ⟨PyData.keyHash P (Str.ofString "in_table_c8"), (.str (Str.ofString "in_table_c8") 476), (.ref 118)⟩, ⟨PyData.keyHash P (Str.ofString "c9_set"), (.str (Str.ofString "c9_set") 676), (.ref 126)⟩, ⟨PyData.keyHash P (Str.ofString "in_table_c9"), (.str (Str.ofString "in_table_c9") 683), (.ref 136)⟩] 23), #[]⟩
noncomputable def o29v9 (P : Params) : Obj := ⟨.none, none, (.fields #[(.int 2 0), (.int 0 0), (.ref 37), (.int 7 0), (.int 0 0), (.ref 55), (.int 9 0), (.int 0 0), (.ref 62), (.int 11 0), (.int 0 0), (.ref 69), (.int 19 0), (.int 0 0), (.ref 81), (.int 22 0), (.int 0 0), (.ref 93), (.int 25 0), (.int 0 0), (.ref 117), (.int 28 0), (.int 0 0), (.ref 135)]), #[]⟩
noncomputable def o3v16 (P : Params) : Obj := ⟨(.type "dict"), none, (.dict #[⟨PyData.keyHash P (Str.ofString "__name__"), (.str (Str.ofString "__name__") 165), (.str (Str.ofString "cpy313.colorsys") 684)⟩, ⟨PyData.keyHash P (Str.ofString "__doc__"), (.str (Str.ofString "__doc__") 166), .none⟩, ⟨PyData.keyHash P (Str.ofString "__package__"), (.str (Str.ofString "__package__") 167), .none⟩, ⟨PyData.keyHash P (Str.ofString "__loader__"), (.str (Str.ofString "__loader__") 168), (.builtin "__main__.__loader__#opaque")⟩, ⟨PyData.keyHash P (Str.ofString "__spec__"), (.str (Str.ofString "__spec__") 169), .none⟩, ⟨PyData.keyHash P (Str.ofString "__annotations__"), (.str (Str.ofString "__annotations__") 170), (.ref 6)⟩, ⟨PyData.keyHash P (Str.ofString "__builtins__"), (.str (Str.ofString "__builtins__") 171), (.ref 4)⟩, ⟨PyData.keyHash P (Str.ofString "__file__"), (.str (Str.ofString "__file__") 173), (.str (Str.ofString "/claim/cut.py") 172)⟩, ⟨PyData.keyHash P (Str.ofString "__cached__"), (.str (Str.ofString "__cached__") 174), .none⟩, ⟨PyData.keyHash P (Str.ofString "_sre"), (.str (Str.ofString "_sre") 275), (.ref 12)⟩, ⟨PyData.keyHash P (Str.ofString "_wall"), (.str (Str.ofString "_wall") 288), (.ref 38)⟩, ⟨PyData.keyHash P (Str.ofString "b1_set"), (.str (Str.ofString "b1_set") 350), (.ref 46)⟩, ⟨PyData.keyHash P (Str.ofString "in_table_b1"), (.str (Str.ofString "in_table_b1") 357), (.ref 56)⟩, ⟨PyData.keyHash P (Str.ofString "in_table_c11"), (.str (Str.ofString "in_table_c11") 364), (.ref 63)⟩, ⟨PyData.keyHash P (Str.ofString "in_table_c4"), (.str (Str.ofString "in_table_c4") 372), (.ref 70)⟩, ⟨PyData.keyHash P (Str.ofString "c6_set"), (.str (Str.ofString "c6_set") 386), (.ref 72)⟩, ⟨PyData.keyHash P (Str.ofString "in_table_c6"), (.str (Str.ofString "in_table_c6") 393), (.ref 82)⟩, ⟨PyData.keyHash P (Str.ofString "c7_set"), (.str (Str.ofString "c7_set") 421), (.ref 84)⟩, ⟨PyData.keyHash P (Str.ofString "in_table_c7"), (.str (Str.ofString "in_table_c7") 428), (.ref 94)⟩, ⟨PyData.keyHash P (Str.ofString "c8_set"), (.str (Str.ofString "c8_set") 469), (.ref 108)⟩, ⟨PyData.keyHash P (Str.ofString "in_table_c8"), (.str (Str.ofString "in_table_c8") 476), (.ref 118)⟩, ⟨PyData.keyHash P (Str.ofString "c9_set"), (.str (Str.ofString "c9_set") 676), (.ref 126)⟩, ⟨PyData.keyHash P (Str.ofString "in_table_c9"), (.str (Str.ofString "in_table_c9") 683), (.ref 136)⟩] 23), #[]⟩
noncomputable def o3v17 (P : Params) : Obj := ⟨(.type "dict"), none, (.dict #[⟨PyData.keyHash P (Str.ofString "__name__"), (.str (Str.ofString "__name__") 165), (.str (Str.ofString "cpy313.colorsys") 684)⟩, ⟨PyData.keyHash P (Str.ofString "__doc__"), (.str (Str.ofString "__doc__") 166), .none⟩, ⟨PyData.keyHash P (Str.ofString "__package__"), (.str (Str.ofString "__package__") 167), .none⟩, ⟨PyData.keyHash P (Str.ofString "__loader__"), (.str (Str.ofString "__loader__") 168), (.builtin "__main__.__loader__#opaque")⟩, ⟨PyData.keyHash P (Str.ofString "__spec__"), (.str (Str.ofString "__spec__") 169), .none⟩, ⟨PyData.keyHash P (Str.ofString "__annotations__"), (.str (Str.ofString "__annotations__") 170), (.ref 6)⟩, ⟨PyData.keyHash P (Str.ofString "__builtins__"), (.str (Str.ofString "__builtins__") 171), (.ref 4)⟩, ⟨PyData.keyHash P (Str.ofString "__file__"), (.str (Str.ofString "__file__") 173), (.str (Str.ofString "/claim/cut.py") 172)⟩, ⟨PyData.keyHash P (Str.ofString "__cached__"), (.str (Str.ofString "__cached__") 174), .none⟩, ⟨PyData.keyHash P (Str.ofString "_sre"), (.str (Str.ofString "_sre") 275), (.ref 12)⟩, ⟨PyData.keyHash P (Str.ofString "_wall"), (.str (Str.ofString "_wall") 288), (.ref 38)⟩, ⟨PyData.keyHash P (Str.ofString "b1_set"), (.str (Str.ofString "b1_set") 350), (.ref 46)⟩, ⟨PyData.keyHash P (Str.ofString "in_table_b1"), (.str (Str.ofString "in_table_b1") 357), (.ref 56)⟩, ⟨PyData.keyHash P (Str.ofString "in_table_c11"), (.str (Str.ofString "in_table_c11") 364), (.ref 63)⟩, ⟨PyData.keyHash P (Str.ofString "in_table_c4"), (.str (Str.ofString "in_table_c4") 372), (.ref 70)⟩, ⟨PyData.keyHash P (Str.ofString "c6_set"), (.str (Str.ofString "c6_set") 386), (.ref 72)⟩, ⟨PyData.keyHash P (Str.ofString "in_table_c6"), (.str (Str.ofString "in_table_c6") 393), (.ref 82)⟩, ⟨PyData.keyHash P (Str.ofString "c7_set"), (.str (Str.ofString "c7_set") 421), (.ref 84)⟩, ⟨PyData.keyHash P (Str.ofString "in_table_c7"), (.str (Str.ofString "in_table_c7") 428), (.ref 94)⟩, ⟨PyData.keyHash P (Str.ofString "c8_set"), (.str (Str.ofString "c8_set") 469), (.ref 108)⟩, ⟨PyData.keyHash P (Str.ofString "in_table_c8"), (.str (Str.ofString "in_table_c8") 476), (.ref 118)⟩, ⟨PyData.keyHash P (Str.ofString "c9_set"), (.str (Str.ofString "c9_set") 676), (.ref 126)⟩, ⟨PyData.keyHash P (Str.ofString "in_table_c9"), (.str (Str.ofString "in_table_c9") 683), (.ref 136)⟩, ⟨PyData.keyHash P (Str.ofString "rgb_to_hsv"), (.str (Str.ofString "rgb_to_hsv") 703), (.ref 143)⟩] 24), #[]⟩
noncomputable def o29v10 (P : Params) : Obj := ⟨.none, none, (.fields #[(.int 2 0), (.int 0 0), (.ref 37), (.int 7 0), (.int 0 0), (.ref 55), (.int 9 0), (.int 0 0), (.ref 62), (.int 11 0), (.int 0 0), (.ref 69), (.int 19 0), (.int 0 0), (.ref 81), (.int 22 0), (.int 0 0), (.ref 93), (.int 25 0), (.int 0 0), (.ref 117), (.int 28 0), (.int 0 0), (.ref 135), (.int 31 0), (.int 0 0), (.ref 142)]), #[]⟩
noncomputable def o3v18 (P : Params) : Obj := ⟨(.type "dict"), none, (.dict #[⟨PyData.keyHash P (Str.ofString "__name__"), (.str (Str.ofString "__name__") 165), (.str (Str.ofString "cpy313.colorsys") 684)⟩, ⟨PyData.keyHash P (Str.ofString "__doc__"), (.str (Str.ofString "__doc__") 166), .none⟩, ⟨PyData.keyHash P (Str.ofString "__package__"), (.str (Str.ofString "__package__") 167), .none⟩, ⟨PyData.keyHash P (Str.ofString "__loader__"), (.str (Str.ofString "__loader__") 168), (.builtin "__main__.__loader__#opaque")⟩, ⟨PyData.keyHash P (Str.ofString "__spec__"), (.str (Str.ofString "__spec__") 169), .none⟩, ⟨PyData.keyHash P (Str.ofString "__annotations__"), (.str (Str.ofString "__annotations__") 170), (.ref 6)⟩, ⟨PyData.keyHash P (Str.ofString "__builtins__"), (.str (Str.ofString "__builtins__") 171), (.ref 4)⟩, ⟨PyData.keyHash P (Str.ofString "__file__"), (.str (Str.ofString "__file__") 173), (.str (Str.ofString "/claim/cut.py") 172)⟩, ⟨PyData.keyHash P (Str.ofString "__cached__"), (.str (Str.ofString "__cached__") 174), .none⟩, ⟨PyData.keyHash P (Str.ofString "_sre"), (.str (Str.ofString "_sre") 275), (.ref 12)⟩, ⟨PyData.keyHash P (Str.ofString "_wall"), (.str (Str.ofString "_wall") 288), (.ref 38)⟩, ⟨PyData.keyHash P (Str.ofString "b1_set"), (.str (Str.ofString "b1_set") 350), (.ref 46)⟩, ⟨PyData.keyHash P (Str.ofString "in_table_b1"), (.str (Str.ofString "in_table_b1") 357), (.ref 56)⟩, ⟨PyData.keyHash P (Str.ofString "in_table_c11"), (.str (Str.ofString "in_table_c11") 364), (.ref 63)⟩, ⟨PyData.keyHash P (Str.ofString "in_table_c4"), (.str (Str.ofString "in_table_c4") 372), (.ref 70)⟩, ⟨PyData.keyHash P (Str.ofString "c6_set"), (.str (Str.ofString "c6_set") 386), (.ref 72)⟩, ⟨PyData.keyHash P (Str.ofString "in_table_c6"), (.str (Str.ofString "in_table_c6") 393), (.ref 82)⟩, ⟨PyData.keyHash P (Str.ofString "c7_set"), (.str (Str.ofString "c7_set") 421), (.ref 84)⟩, ⟨PyData.keyHash P (Str.ofString "in_table_c7"), (.str (Str.ofString "in_table_c7") 428), (.ref 94)⟩, ⟨PyData.keyHash P (Str.ofString "c8_set"), (.str (Str.ofString "c8_set") 469), (.ref 108)⟩, ⟨PyData.keyHash P (Str.ofString "in_table_c8"), (.str (Str.ofString "in_table_c8") 476), (.ref 118)⟩, ⟨PyData.keyHash P (Str.ofString "c9_set"), (.str (Str.ofString "c9_set") 676), (.ref 126)⟩, ⟨PyData.keyHash P (Str.ofString "in_table_c9"), (.str (Str.ofString "in_table_c9") 683), (.ref 136)⟩, ⟨PyData.keyHash P (Str.ofString "rgb_to_hsv"), (.str (Str.ofString "rgb_to_hsv") 703), (.ref 143)⟩, ⟨PyData.keyHash P (Str.ofString "hsv_to_rgb"), (.str (Str.ofString "hsv_to_rgb") 717), (.ref 150)⟩] 25), #[]⟩
noncomputable def o29v11 (P : Params) : Obj := ⟨.none, none, (.fields #[(.int 2 0), (.int 0 0), (.ref 37), (.int 7 0), (.int 0 0), (.ref 55), (.int 9 0), (.int 0 0), (.ref 62), (.int 11 0), (.int 0 0), (.ref 69), (.int 19 0), (.int 0 0), (.ref 81), (.int 22 0), (.int 0 0), (.ref 93), (.int 25 0), (.int 0 0), (.ref 117), (.int 28 0), (.int 0 0), (.ref 135), (.int 31 0), (.int 0 0), (.ref 142), (.int 50 0), (.int 0 0), (.ref 149)]), #[]⟩
noncomputable def o3v19 (P : Params) : Obj := ⟨(.type "dict"), none, (.dict #[⟨PyData.keyHash P (Str.ofString "__name__"), (.str (Str.ofString "__name__") 165), (.str (Str.ofString "cpy313.dis") 718)⟩, ⟨PyData.keyHash P (Str.ofString "__doc__"), (.str (Str.ofString "__doc__") 166), .none⟩, ⟨PyData.keyHash P (Str.ofString "__package__"), (.str (Str.ofString "__package__") 167), .none⟩, ⟨PyData.keyHash P (Str.ofString "__loader__"), (.str (Str.ofString "__loader__") 168), (.builtin "__main__.__loader__#opaque")⟩, ⟨PyData.keyHash P (Str.ofString "__spec__"), (.str (Str.ofString "__spec__") 169), .none⟩, ⟨PyData.keyHash P (Str.ofString "__annotations__"), (.str (Str.ofString "__annotations__") 170), (.ref 6)⟩, ⟨PyData.keyHash P (Str.ofString "__builtins__"), (.str (Str.ofString "__builtins__") 171), (.ref 4)⟩, ⟨PyData.keyHash P (Str.ofString "__file__"), (.str (Str.ofString "__file__") 173), (.str (Str.ofString "/claim/cut.py") 172)⟩, ⟨PyData.keyHash P (Str.ofString "__cached__"), (.str (Str.ofString "__cached__") 174), .none⟩, ⟨PyData.keyHash P (Str.ofString "_sre"), (.str (Str.ofString "_sre") 275), (.ref 12)⟩, ⟨PyData.keyHash P (Str.ofString "_wall"), (.str (Str.ofString "_wall") 288), (.ref 38)⟩, ⟨PyData.keyHash P (Str.ofString "b1_set"), (.str (Str.ofString "b1_set") 350), (.ref 46)⟩, ⟨PyData.keyHash P (Str.ofString "in_table_b1"), (.str (Str.ofString "in_table_b1") 357), (.ref 56)⟩, ⟨PyData.keyHash P (Str.ofString "in_table_c11"), (.str (Str.ofString "in_table_c11") 364), (.ref 63)⟩, ⟨PyData.keyHash P (Str.ofString "in_table_c4"), (.str (Str.ofString "in_table_c4") 372), (.ref 70)⟩, ⟨PyData.keyHash P (Str.ofString "c6_set"), (.str (Str.ofString "c6_set") 386), (.ref 72)⟩, ⟨PyData.keyHash P (Str.ofString "in_table_c6"), (.str (Str.ofString "in_table_c6") 393), (.ref 82)⟩, ⟨PyData.keyHash P (Str.ofString "c7_set"), (.str (Str.ofString "c7_set") 421), (.ref 84)⟩, ⟨PyData.keyHash P (Str.ofString "in_table_c7"), (.str (Str.ofString "in_table_c7") 428), (.ref 94)⟩, ⟨PyData.keyHash P (Str.ofString "c8_set"), (.str (Str.ofString "c8_set") 469), (.ref 108)⟩, ⟨PyData.keyHash P (Str.ofString "in_table_c8"), (.str (Str.ofString "in_table_c8") 476), (.ref 118)⟩, ⟨PyData.keyHash P (Str.ofString "c9_set"), (.str (Str.ofString "c9_set") 676), (.ref 126)⟩, ⟨PyData.keyHash P (Str.ofString "in_table_c9"), (.str (Str.ofString "in_table_c9") 683), (.ref 136)⟩, ⟨PyData.keyHash P (Str.ofString "rgb_to_hsv"), (.str (Str.ofString "rgb_to_hsv") 703), (.ref 143)⟩, ⟨PyData.keyHash P (Str.ofString "hsv_to_rgb"), (.str (Str.ofString "hsv_to_rgb") 717), (.ref 150)⟩] 25), #[]⟩
noncomputable def o3v20 (P : Params) : Obj := ⟨(.type "dict"), none, (.dict #[⟨PyData.keyHash P (Str.ofString "__name__"), (.str (Str.ofString "__name__") 165), (.str (Str.ofString "cpy313.dis") 718)⟩, ⟨PyData.keyHash P (Str.ofString "__doc__"), (.str (Str.ofString "__doc__") 166), .none⟩, ⟨PyData.keyHash P (Str.ofString "__package__"), (.str (Str.ofString "__package__") 167), .none⟩, ⟨PyData.keyHash P (Str.ofString "__loader__"), (.str (Str.ofString "__loader__") 168), (.builtin "__main__.__loader__#opaque")⟩, ⟨PyData.keyHash P (Str.ofString "__spec__"), (.str (Str.ofString "__spec__") 169), .none⟩, ⟨PyData.keyHash P (Str.ofString "__annotations__"), (.str (Str.ofString "__annotations__") 170), (.ref 6)⟩, ⟨PyData.keyHash P (Str.ofString "__builtins__"), (.str (Str.ofString "__builtins__") 171), (.ref 4)⟩, ⟨PyData.keyHash P (Str.ofString "__file__"), (.str (Str.ofString "__file__") 173), (.str (Str.ofString "/claim/cut.py") 172)⟩, ⟨PyData.keyHash P (Str.ofString "__cached__"), (.str (Str.ofString "__cached__") 174), .none⟩, ⟨PyData.keyHash P (Str.ofString "_sre"), (.str (Str.ofString "_sre") 275), (.ref 12)⟩, ⟨PyData.keyHash P (Str.ofString "_wall"), (.str (Str.ofString "_wall") 288), (.ref 38)⟩, ⟨PyData.keyHash P (Str.ofString "b1_set"), (.str (Str.ofString "b1_set") 350), (.ref 46)⟩, ⟨PyData.keyHash P (Str.ofString "in_table_b1"), (.str (Str.ofString "in_table_b1") 357), (.ref 56)⟩, ⟨PyData.keyHash P (Str.ofString "in_table_c11"), (.str (Str.ofString "in_table_c11") 364), (.ref 63)⟩, ⟨PyData.keyHash P (Str.ofString "in_table_c4"), (.str (Str.ofString "in_table_c4") 372), (.ref 70)⟩, ⟨PyData.keyHash P (Str.ofString "c6_set"), (.str (Str.ofString "c6_set") 386), (.ref 72)⟩, ⟨PyData.keyHash P (Str.ofString "in_table_c6"), (.str (Str.ofString "in_table_c6") 393), (.ref 82)⟩, ⟨PyData.keyHash P (Str.ofString "c7_set"), (.str (Str.ofString "c7_set") 421), (.ref 84)⟩, ⟨PyData.keyHash P (Str.ofString "in_table_c7"), (.str (Str.ofString "in_table_c7") 428), (.ref 94)⟩, ⟨PyData.keyHash P (Str.ofString "c8_set"), (.str (Str.ofString "c8_set") 469), (.ref 108)⟩, ⟨PyData.keyHash P (Str.ofString "in_table_c8"), (.str (Str.ofString "in_table_c8") 476), (.ref 118)⟩, ⟨PyData.keyHash P (Str.ofString "c9_set"), (.str (Str.ofString "c9_set") 676), (.ref 126)⟩, ⟨PyData.keyHash P (Str.ofString "in_table_c9"), (.str (Str.ofString "in_table_c9") 683), (.ref 136)⟩, ⟨PyData.keyHash P (Str.ofString "rgb_to_hsv"), (.str (Str.ofString "rgb_to_hsv") 703), (.ref 143)⟩, ⟨PyData.keyHash P (Str.ofString "hsv_to_rgb"), (.str (Str.ofString "hsv_to_rgb") 717), (.ref 150)⟩, ⟨PyData.keyHash P (Str.ofString "COMPILER_FLAG_NAMES"), (.str (Str.ofString "COMPILER_FLAG_NAMES") 750), (.ref 151)⟩] 26), #[]⟩
noncomputable def o3v21 (P : Params) : Obj := ⟨(.type "dict"), none, (.dict #[⟨PyData.keyHash P (Str.ofString "__name__"), (.str (Str.ofString "__name__") 165), (.str (Str.ofString "cpy313.dis") 718)⟩, ⟨PyData.keyHash P (Str.ofString "__doc__"), (.str (Str.ofString "__doc__") 166), .none⟩, ⟨PyData.keyHash P (Str.ofString "__package__"), (.str (Str.ofString "__package__") 167), .none⟩, ⟨PyData.keyHash P (Str.ofString "__loader__"), (.str (Str.ofString "__loader__") 168), (.builtin "__main__.__loader__#opaque")⟩, ⟨PyData.keyHash P (Str.ofString "__spec__"), (.str (Str.ofString "__spec__") 169), .none⟩, ⟨PyData.keyHash P (Str.ofString "__annotations__"), (.str (Str.ofString "__annotations__") 170), (.ref 6)⟩, ⟨PyData.keyHash P (Str.ofString "__builtins__"), (.str (Str.ofString "__builtins__") 171), (.ref 4)⟩, ⟨PyData.keyHash P (Str.ofString "__file__"), (.str (Str.ofString "__file__") 173), (.str (Str.ofString "/claim/cut.py") 172)⟩, ⟨PyData.keyHash P (Str.ofString "__cached__"), (.str (Str.ofString "__cached__") 174), .none⟩, ⟨PyData.keyHash P (Str.ofString "_sre"), (.str (Str.ofString "_sre") 275), (.ref 12)⟩, ⟨PyData.keyHash P (Str.ofString "_wall"), (.str (Str.ofString "_wall") 288), (.ref 38)⟩, ⟨PyData.keyHash P (Str.ofString "b1_set"), (.str (Str.ofString "b1_set") 350), (.ref 46)⟩, ⟨PyData.keyHash P (Str.ofString "in_table_b1"), (.str (Str.ofString "in_table_b1") 357), (.ref 56)⟩, ⟨PyData.keyHash P (Str.ofString "in_table_c11"), (.str (Str.ofString "in_table_c11") 364), (.ref 63)⟩, ⟨PyData.keyHash P (Str.ofString "in_table_c4"), (.str (Str.ofString "in_table_c4") 372), (.ref 70)⟩, ⟨PyData.keyHash P (Str.ofString "c6_set"), (.str (Str.ofString "c6_set") 386), (.ref 72)⟩, ⟨PyData.keyHash P (Str.ofString "in_table_c6"), (.str (Str.ofString "in_table_c6") 393), (.ref 82)⟩, ⟨PyData.keyHash P (Str.ofString "c7_set"), (.str (Str.ofString "c7_set") 421), (.ref 84)⟩, ⟨PyData.keyHash P (Str.ofString "in_table_c7"), (.str (Str.ofString "in_table_c7") 428), (.ref 94)⟩, ⟨PyData.keyHash P (Str.ofString "c8_set"), (.str (Str.ofString "c8_set") 469), (.ref 108)⟩, ⟨PyData.keyHash P (Str.ofString "in_table_c8"), (.str (Str.ofString "in_table_c8") 476), (.ref 118)⟩, ⟨PyData.keyHash P (Str.ofString "c9_set"), (.str (Str.ofString "c9_set") 676), (.ref 126)⟩, ⟨PyData.keyHash P (Str.ofString "in_table_c9"), (.str (Str.ofString "in_table_c9") 683), (.ref 136)⟩, ⟨PyData.keyHash P (Str.ofString "rgb_to_hsv"), (.str (Str.ofString "rgb_to_hsv") 703), (.ref 143)⟩, ⟨PyData.keyHash P (Str.ofString "hsv_to_rgb"), (.str (Str.ofString "hsv_to_rgb") 717), (.ref 150)⟩, ⟨PyData.keyHash P (Str.ofString "COMPILER_FLAG_NAMES"), (.str (Str.ofString "COMPILER_FLAG_NAMES") 750), (.ref 151)⟩, ⟨PyData.keyHash P (Str.ofString "pretty_flags"), (.str (Str.ofString "pretty_flags") 760), (.ref 158)⟩] 27), #[]⟩
noncomputable def o29v12 (P : Params) : Obj := ⟨.none, none, (.fields #[(.int 2 0), (.int 0 0), (.ref 37), (.int 7 0), (.int 0 0), (.ref 55), (.int 9 0), (.int 0 0), (.ref 62), (.int 11 0), (.int 0 0), (.ref 69), (.int 19 0), (.int 0 0), (.ref 81), (.int 22 0), (.int 0 0), (.ref 93), (.int 25 0), (.int 0 0), (.ref 117), (.int 28 0), (.int 0 0), (.ref 135), (.int 31 0), (.int 0 0), (.ref 142), (.int 50 0), (.int 0 0), (.ref 149), (.int 73 0), (.int 0 0), (.ref 157)]), #[]⟩
noncomputable def o3v22 (P : Params) : Obj := ⟨(.type "dict"), none, (.dict #[⟨PyData.keyHash P (Str.ofString "__name__"), (.str (Str.ofString "__name__") 165), (.str (Str.ofString "cpy313.dis") 718)⟩, ⟨PyData.keyHash P (Str.ofString "__doc__"), (.str (Str.ofString "__doc__") 166), .none⟩, ⟨PyData.keyHash P (Str.ofString "__package__"), (.str (Str.ofString "__package__") 167), .none⟩, ⟨PyData.keyHash P (Str.ofString "__loader__"), (.str (Str.ofString "__loader__") 168), (.builtin "__main__.__loader__#opaque")⟩, ⟨PyData.keyHash P (Str.ofString "__spec__"), (.str (Str.ofString "__spec__") 169), .none⟩, ⟨PyData.keyHash P (Str.ofString "__annotations__"), (.str (Str.ofString "__annotations__") 170), (.ref 6)⟩, ⟨PyData.keyHash P (Str.ofString "__builtins__"), (.str (Str.ofString "__builtins__") 171), (.ref 4)⟩, ⟨PyData.keyHash P (Str.ofString "__file__"), (.str (Str.ofString "__file__") 173), (.str (Str.ofString "/claim/cut.py") 172)⟩, ⟨PyData.keyHash P (Str.ofString "__cached__"), (.str (Str.ofString "__cached__") 174), .none⟩, ⟨PyData.keyHash P (Str.ofString "_sre"), (.str (Str.ofString "_sre") 275), (.ref 12)⟩, ⟨PyData.keyHash P (Str.ofString "_wall"), (.str (Str.ofString "_wall") 288), (.ref 38)⟩, ⟨PyData.keyHash P (Str.ofString "b1_set"), (.str (Str.ofString "b1_set") 350), (.ref 46)⟩, ⟨PyData.keyHash P (Str.ofString "in_table_b1"), (.str (Str.ofString "in_table_b1") 357), (.ref 56)⟩, ⟨PyData.keyHash P (Str.ofString "in_table_c11"), (.str (Str.ofString "in_table_c11") 364), (.ref 63)⟩, ⟨PyData.keyHash P (Str.ofString "in_table_c4"), (.str (Str.ofString "in_table_c4") 372), (.ref 70)⟩, ⟨PyData.keyHash P (Str.ofString "c6_set"), (.str (Str.ofString "c6_set") 386), (.ref 72)⟩, ⟨PyData.keyHash P (Str.ofString "in_table_c6"), (.str (Str.ofString "in_table_c6") 393), (.ref 82)⟩, ⟨PyData.keyHash P (Str.ofString "c7_set"), (.str (Str.ofString "c7_set") 421), (.ref 84)⟩, ⟨PyData.keyHash P (Str.ofString "in_table_c7"), (.str (Str.ofString "in_table_c7") 428), (.ref 94)⟩, ⟨PyData.keyHash P (Str.ofString "c8_set"), (.str (Str.ofString "c8_set") 469), (.ref 108)⟩, ⟨PyData.keyHash P (Str.ofString "in_table_c8"), (.str (Str.ofString "in_table_c8") 476), (.ref 118)⟩, ⟨PyData.keyHash P (Str.ofString "c9_set"), (.str (Str.ofString "c9_set") 676), (.ref 126)⟩, ⟨PyData.keyHash P (Str.ofString "in_table_c9"), (.str (Str.ofString "in_table_c9") 683), (.ref 136)⟩, ⟨PyData.keyHash P (Str.ofString "rgb_to_hsv"), (.str (Str.ofString "rgb_to_hsv") 703), (.ref 143)⟩, ⟨PyData.keyHash P (Str.ofString "hsv_to_rgb"), (.str (Str.ofString "hsv_to_rgb") 717), (.ref 150)⟩, ⟨PyData.keyHash P (Str.ofString "COMPILER_FLAG_NAMES"), (.str (Str.ofString "COMPILER_FLAG_NAMES") 750), (.ref 151)⟩, ⟨PyData.keyHash P (Str.ofString "pretty_flags"), (.str (Str.ofString "pretty_flags") 760), (.ref 158)⟩, ⟨PyData.keyHash P (Str.ofString "_parse_varint"), (.str (Str.ofString "_parse_varint") 769), (.ref 165)⟩] 28), #[]⟩
noncomputable def o29v13 (P : Params) : Obj := ⟨.none, none, (.fields #[(.int 2 0), (.int 0 0), (.ref 37), (.int 7 0), (.int 0 0), (.ref 55), (.int 9 0), (.int 0 0), (.ref 62), (.int 11 0), (.int 0 0), (.ref 69), (.int 19 0), (.int 0 0), (.ref 81), (.int 22 0), (.int 0 0), (.ref 93), (.int 25 0), (.int 0 0), (.ref 117), (.int 28 0), (.int 0 0), (.ref 135), (.int 31 0), (.int 0 0), (.ref 142), (.int 50 0), (.int 0 0), (.ref 149), (.int 73 0), (.int 0 0), (.ref 157), (.int 85 0), (.int 0 0), (.ref 164)]), #[]⟩
noncomputable def o3v23 (P : Params) : Obj := ⟨(.type "dict"), none, (.dict #[⟨PyData.keyHash P (Str.ofString "__name__"), (.str (Str.ofString "__name__") 165), (.str (Str.ofString "cpy313.wsgiref.headers") 770)⟩, ⟨PyData.keyHash P (Str.ofString "__doc__"), (.str (Str.ofString "__doc__") 166), .none⟩, ⟨PyData.keyHash P (Str.ofString "__package__"), (.str (Str.ofString "__package__") 167), .none⟩, ⟨PyData.keyHash P (Str.ofString "__loader__"), (.str (Str.ofString "__loader__") 168), (.builtin "__main__.__loader__#opaque")⟩, ⟨PyData.keyHash P (Str.ofString "__spec__"), (.str (Str.ofString "__spec__") 169), .none⟩, ⟨PyData.keyHash P (Str.ofString "__annotations__"), (.str (Str.ofString "__annotations__") 170), (.ref 6)⟩, ⟨PyData.keyHash P (Str.ofString "__builtins__"), (.str (Str.ofString "__builtins__") 171), (.ref 4)⟩, ⟨PyData.keyHash P (Str.ofString "__file__"), (.str (Str.ofString "__file__") 173), (.str (Str.ofString "/claim/cut.py") 172)⟩, ⟨PyData.keyHash P (Str.ofString "__cached__"), (.str (Str.ofString "__cached__") 174), .none⟩, ⟨PyData.keyHash P (Str.ofString "_sre"), (.str (Str.ofString "_sre") 275), (.ref 12)⟩, ⟨PyData.keyHash P (Str.ofString "_wall"), (.str (Str.ofString "_wall") 288), (.ref 38)⟩, ⟨PyData.keyHash P (Str.ofString "b1_set"), (.str (Str.ofString "b1_set") 350), (.ref 46)⟩, ⟨PyData.keyHash P (Str.ofString "in_table_b1"), (.str (Str.ofString "in_table_b1") 357), (.ref 56)⟩, ⟨PyData.keyHash P (Str.ofString "in_table_c11"), (.str (Str.ofString "in_table_c11") 364), (.ref 63)⟩, ⟨PyData.keyHash P (Str.ofString "in_table_c4"), (.str (Str.ofString "in_table_c4") 372), (.ref 70)⟩, ⟨PyData.keyHash P (Str.ofString "c6_set"), (.str (Str.ofString "c6_set") 386), (.ref 72)⟩, ⟨PyData.keyHash P (Str.ofString "in_table_c6"), (.str (Str.ofString "in_table_c6") 393), (.ref 82)⟩, ⟨PyData.keyHash P (Str.ofString "c7_set"), (.str (Str.ofString "c7_set") 421), (.ref 84)⟩, ⟨PyData.keyHash P (Str.ofString "in_table_c7"), (.str (Str.ofString "in_table_c7") 428), (.ref 94)⟩, ⟨PyData.keyHash P (Str.ofString "c8_set"), (.str (Str.ofString "c8_set") 469), (.ref 108)⟩, ⟨PyData.keyHash P (Str.ofString "in_table_c8"), (.str (Str.ofString "in_table_c8") 476), (.ref 118)⟩, ⟨PyData.keyHash P (Str.ofString "c9_set"), (.str (Str.ofString "c9_set") 676), (.ref 126)⟩, ⟨PyData.keyHash P (Str.ofString "in_table_c9"), (.str (Str.ofString "in_table_c9") 683), (.ref 136)⟩, ⟨PyData.keyHash P (Str.ofString "rgb_to_hsv"), (.str (Str.ofString "rgb_to_hsv") 703), (.ref 143)⟩, ⟨PyData.keyHash P (Str.ofString "hsv_to_rgb"), (.str (Str.ofString "hsv_to_rgb") 717), (.ref 150)⟩, ⟨PyData.keyHash P (Str.ofString "COMPILER_FLAG_NAMES"), (.str (Str.ofString "COMPILER_FLAG_NAMES") 750), (.ref 151)⟩, ⟨PyData.keyHash P (Str.ofString "pretty_flags"), (.str (Str.ofString "pretty_flags") 760), (.ref 158)⟩, ⟨PyData.keyHash P (Str.ofString "_parse_varint"), (.str (Str.ofString "_parse_varint") 769), (.ref 165)⟩] 28), #[]⟩
noncomputable def o3v24 (P : Params) : Obj := ⟨(.type "dict"), none, (.dict #[⟨PyData.keyHash P (Str.ofString "__name__"), (.str (Str.ofString "__name__") 165), (.str (Str.ofString "cpy313.wsgiref.headers") 770)⟩, ⟨PyData.keyHash P (Str.ofString "__doc__"), (.str (Str.ofString "__doc__") 166), .none⟩, ⟨PyData.keyHash P (Str.ofString "__package__"), (.str (Str.ofString "__package__") 167), .none⟩, ⟨PyData.keyHash P (Str.ofString "__loader__"), (.str (Str.ofString "__loader__") 168), (.builtin "__main__.__loader__#opaque")⟩, ⟨PyData.keyHash P (Str.ofString "__spec__"), (.str (Str.ofString "__spec__") 169), .none⟩, ⟨PyData.keyHash P (Str.ofString "__annotations__"), (.str (Str.ofString "__annotations__") 170), (.ref 6)⟩, ⟨PyData.keyHash P (Str.ofString "__builtins__"), (.str (Str.ofString "__builtins__") 171), (.ref 4)⟩, ⟨PyData.keyHash P (Str.ofString "__file__"), (.str (Str.ofString "__file__") 173), (.str (Str.ofString "/claim/cut.py") 172)⟩, ⟨PyData.keyHash P (Str.ofString "__cached__"), (.str (Str.ofString "__cached__") 174), .none⟩, ⟨PyData.keyHash P (Str.ofString "_sre"), (.str (Str.ofString "_sre") 275), (.ref 12)⟩, ⟨PyData.keyHash P (Str.ofString "_wall"), (.str (Str.ofString "_wall") 288), (.ref 38)⟩, ⟨PyData.keyHash P (Str.ofString "b1_set"), (.str (Str.ofString "b1_set") 350), (.ref 46)⟩, ⟨PyData.keyHash P (Str.ofString "in_table_b1"), (.str (Str.ofString "in_table_b1") 357), (.ref 56)⟩, ⟨PyData.keyHash P (Str.ofString "in_table_c11"), (.str (Str.ofString "in_table_c11") 364), (.ref 63)⟩, ⟨PyData.keyHash P (Str.ofString "in_table_c4"), (.str (Str.ofString "in_table_c4") 372), (.ref 70)⟩, ⟨PyData.keyHash P (Str.ofString "c6_set"), (.str (Str.ofString "c6_set") 386), (.ref 72)⟩, ⟨PyData.keyHash P (Str.ofString "in_table_c6"), (.str (Str.ofString "in_table_c6") 393), (.ref 82)⟩, ⟨PyData.keyHash P (Str.ofString "c7_set"), (.str (Str.ofString "c7_set") 421), (.ref 84)⟩, ⟨PyData.keyHash P (Str.ofString "in_table_c7"), (.str (Str.ofString "in_table_c7") 428), (.ref 94)⟩, ⟨PyData.keyHash P (Str.ofString "c8_set"), (.str (Str.ofString "c8_set") 469), (.ref 108)⟩, ⟨PyData.keyHash P (Str.ofString "in_table_c8"), (.str (Str.ofString "in_table_c8") 476), (.ref 118)⟩, ⟨PyData.keyHash P (Str.ofString "c9_set"), (.str (Str.ofString "c9_set") 676), (.ref 126)⟩, ⟨PyData.keyHash P (Str.ofString "in_table_c9"), (.str (Str.ofString "in_table_c9") 683), (.ref 136)⟩, ⟨PyData.keyHash P (Str.ofString "rgb_to_hsv"), (.str (Str.ofString "rgb_to_hsv") 703), (.ref 143)⟩, ⟨PyData.keyHash P (Str.ofString "hsv_to_rgb"), (.str (Str.ofString "hsv_to_rgb") 717), (.ref 150)⟩, ⟨PyData.keyHash P (Str.ofString "COMPILER_FLAG_NAMES"), (.str (Str.ofString "COMPILER_FLAG_NAMES") 750), (.ref 151)⟩, ⟨PyData.keyHash P (Str.ofString "pretty_flags"), (.str (Str.ofString "pretty_flags") 760), (.ref 158)⟩, ⟨PyData.keyHash P (Str.ofString "_parse_varint"), (.str (Str.ofString "_parse_varint") 769), (.ref 165)⟩, ⟨PyData.keyHash P (Str.ofString "_name_disallowed_re"), (.str (Str.ofString "_name_disallowed_re") 797), (.ref 170)⟩] 29), #[]⟩
noncomputable def o3v25 (P : Params) : Obj := ⟨(.type "dict"), none, (.dict #[⟨PyData.keyHash P (Str.ofString "__name__"), (.str (Str.ofString "__name__") 165), (.str (Str.ofString "cpy313.wsgiref.headers") 770)⟩, ⟨PyData.keyHash P (Str.ofString "__doc__"), (.str (Str.ofString "__doc__") 166), .none⟩, ⟨PyData.keyHash P (Str.ofString "__package__"), (.str (Str.ofString "__package__") 167), .none⟩, ⟨PyData.keyHash P (Str.ofString "__loader__"), (.str (Str.ofString "__loader__") 168), (.builtin "__main__.__loader__#opaque")⟩, ⟨PyData.keyHash P (Str.ofString "__spec__"), (.str (Str.ofString "__spec__") 169), .none⟩, ⟨PyData.keyHash P (Str.ofString "__annotations__"), (.str (Str.ofString "__annotations__") 170), (.ref 6)⟩, ⟨PyData.keyHash P (Str.ofString "__builtins__"), (.str (Str.ofString "__builtins__") 171), (.ref 4)⟩, ⟨PyData.keyHash P (Str.ofString "__file__"), (.str (Str.ofString "__file__") 173), (.str (Str.ofString "/claim/cut.py") 172)⟩, ⟨PyData.keyHash P (Str.ofString "__cached__"), (.str (Str.ofString "__cached__") 174), .none⟩, ⟨PyData.keyHash P (Str.ofString "_sre"), (.str (Str.ofString "_sre") 275), (.ref 12)⟩, ⟨PyData.keyHash P (Str.ofString "_wall"), (.str (Str.ofString "_wall") 288), (.ref 38)⟩, ⟨PyData.keyHash P (Str.ofString "b1_set"), (.str (Str.ofString "b1_set") 350), (.ref 46)⟩, ⟨PyData.keyHash P (Str.ofString "in_table_b1"), (.str (Str.ofString "in_table_b1") 357), (.ref 56)⟩, ⟨PyData.keyHash P (Str.ofString "in_table_c11"), (.str (Str.ofString "in_table_c11") 364), (.ref 63)⟩, ⟨PyData.keyHash P (Str.ofString "in_table_c4"), (.str (Str.ofString "in_table_c4") 372), (.ref 70)⟩, ⟨PyData.keyHash P (Str.ofString "c6_set"), (.str (Str.ofString "c6_set") 386), (.ref 72)⟩, ⟨PyData.keyHash P (Str.ofString "in_table_c6"), (.str (Str.ofString "in_table_c6") 393), (.ref 82)⟩, ⟨PyData.keyHash P (Str.ofString "c7_set"), (.str (Str.ofString "c7_set") 421), (.ref 84)⟩, ⟨PyData.keyHash P (Str.ofString "in_table_c7"), (.str (Str.ofString "in_table_c7") 428), (.ref 94)⟩, ⟨PyData.keyHash P (Str.ofString "c8_set"), (.str (Str.ofString "c8_set") 469), (.ref 108)⟩, ⟨PyData.keyHash P (Str.ofString "in_table_c8"), (.str (Str.ofString "in_table_c8") 476), (.ref 118)⟩, ⟨PyData.keyHash P (Str.ofString "c9_set"), (.str (Str.ofString "c9_set") 676), (.ref 126)⟩, ⟨PyData.keyHash P (Str.ofString "in_table_c9"), (.str (Str.ofString "in_table_c9") 683), (.ref 136)⟩, ⟨PyData.keyHash P (Str.ofString "rgb_to_hsv"), (.str (Str.ofString "rgb_to_hsv") 703), (.ref 143)⟩, ⟨PyData.keyHash P (Str.ofString "hsv_to_rgb"), (.str (Str.ofString "hsv_to_rgb") 717), (.ref 150)⟩, ⟨PyData.keyHash P (Str.ofString "COMPILER_FLAG_NAMES"), (.str (Str.ofString "COMPILER_FLAG_NAMES") 750), (.ref 151)⟩, ⟨PyData.keyHash P (Str.ofString "pretty_flags"), (.str (Str.ofString "pretty_flags") 760), (.ref 158)⟩, ⟨PyData.keyHash P (Str.ofString "_parse_varint"), (.str (Str.ofString "_parse_varint") 769), (.ref 165)⟩, ⟨PyData.keyHash P (Str.ofString "_name_disallowed_re"), (.str (Str.ofString "_name_disallowed_re") 797), (.ref 170)⟩, ⟨PyData.keyHash P (Str.ofString "_value_disallowed_re"), (.str (Str.ofString "_value_disallowed_re") 831), (.ref 175)⟩] 30), #[]⟩
noncomputable def o3v26 (P : Params) : Obj := ⟨(.type "dict"), none, (.dict #[⟨PyData.keyHash P (Str.ofString "__name__"), (.str (Str.ofString "__name__") 165), (.str (Str.ofString "cpy313.wsgiref.headers") 770)⟩, ⟨PyData.keyHash P (Str.ofString "__doc__"), (.str (Str.ofString "__doc__") 166), .none⟩, ⟨PyData.keyHash P (Str.ofString "__package__"), (.str (Str.ofString "__package__") 167), .none⟩, ⟨PyData.keyHash P (Str.ofString "__loader__"), (.str (Str.ofString "__loader__") 168), (.builtin "__main__.__loader__#opaque")⟩, ⟨PyData.keyHash P (Str.ofString "__spec__"), (.str (Str.ofString "__spec__") 169), .none⟩, ⟨PyData.keyHash P (Str.ofString "__annotations__"), (.str (Str.ofString "__annotations__") 170), (.ref 6)⟩, ⟨PyData.keyHash P (Str.ofString "__builtins__"), (.str (Str.ofString "__builtins__") 171), (.ref 4)⟩, ⟨PyData.keyHash P (Str.ofString "__file__"), (.str (Str.ofString "__file__") 173), (.str (Str.ofString "/claim/cut.py") 172)⟩, ⟨PyData.keyHash P (Str.ofString "__cached__"), (.str (Str.ofString "__cached__") 174), .none⟩, ⟨PyData.keyHash P (Str.ofString "_sre"), (.str (Str.ofString "_sre") 275), (.ref 12)⟩, ⟨PyData.keyHash P (Str.ofString "_wall"), (.str (Str.ofString "_wall") 288), (.ref 38)⟩, ⟨PyData.keyHash P (Str.ofString "b1_set"), (.str (Str.ofString "b1_set") 350), (.ref 46)⟩, ⟨PyData.keyHash P (Str.ofString "in_table_b1"), (.str (Str.ofString "in_table_b1") 357), (.ref 56)⟩, ⟨PyData.keyHash P (Str.ofString "in_table_c11"), (.str (Str.ofString "in_table_c11") 364), (.ref 63)⟩, ⟨PyData.keyHash P (Str.ofString "in_table_c4"), (.str (Str.ofString "in_table_c4") 372), (.ref 70)⟩, ⟨PyData.keyHash P (Str.ofString "c6_set"), (.str (Str.ofString "c6_set") 386), (.ref 72)⟩, ⟨PyData.keyHash P (Str.ofString "in_table_c6"), (.str (Str.ofString "in_table_c6") 393), (.ref 82)⟩, ⟨PyData.keyHash P (Str.ofString "c7_set"), (.str (Str.ofString "c7_set") 421), (.ref 84)⟩, ⟨PyData.keyHash P (Str.ofString "in_table_c7"), (.str (Str.ofString "in_table_c7") 428), (.ref 94)⟩, ⟨PyData.keyHash P (Str.ofString "c8_set"), (.str (Str.ofString "c8_set") 469), (.ref 108)⟩, ⟨PyData.keyHash P (Str.ofString "in_table_c8"), (.str (Str.ofString "in_table_c8") 476), (.ref 118)⟩, ⟨PyData.keyHash P (Str.ofString "c9_set"), (.str (Str.ofString "c9_set") 676), (.ref 126)⟩, ⟨PyData.keyHash P (Str.ofString "in_table_c9"), (.str (Str.ofString "in_table_c9") 683), (.ref 136)⟩, ⟨PyData.keyHash P (Str.ofString "rgb_to_hsv"), (.str (Str.ofString "rgb_to_hsv") 703), (.ref 143)⟩, ⟨PyData.keyHash P (Str.ofString "hsv_to_rgb"), (.str (Str.ofString "hsv_to_rgb") 717), (.ref 150)⟩, ⟨PyData.keyHash P (Str.ofString "COMPILER_FLAG_NAMES"), (.str (Str.ofString "COMPILER_FLAG_NAMES") 750), (.ref 151)⟩, ⟨PyData.keyHash P (Str.ofString "pretty_flags"), (.str (Str.ofString "pretty_flags") 760), (.ref 158)⟩, ⟨PyData.keyHash P (Str.ofString "_parse_varint"), (.str (Str.ofString "_parse_varint") 769), (.ref 165)⟩, ⟨PyData.keyHash P (Str.ofString "_name_disallowed_re"), (.str (Str.ofString "_name_disallowed_re") 797), (.ref 170)⟩, ⟨PyData.keyHash P (Str.ofString "_value_disallowed_re"), (.str (Str.ofString "_value_disallowed_re") 831), (.ref 175)⟩, ⟨PyData.keyHash P (Str.ofString "Headers"), (.str (Str.ofString "Headers") 987), (.ref 298)⟩] 31), #[]⟩
noncomputable def o29v14 (P : Params) : Obj := ⟨.none, none, (.fields #[(.int 2 0), (.int 0 0), (.ref 37), (.int 7 0), (.int 0 0), (.ref 55), (.int 9 0), (.int 0 0), (.ref 62), (.int 11 0), (.int 0 0), (.ref 69), (.int 19 0), (.int 0 0), (.ref 81), (.int 22 0), (.int 0 0), (.ref 93), (.int 25 0), (.int 0 0), (.ref 117), (.int 28 0), (.int 0 0), (.ref 135), (.int 31 0), (.int 0 0), (.ref 142), (.int 50 0), (.int 0 0), (.ref 149), (.int 73 0), (.int 0 0), (.ref 157), (.int 85 0), (.int 0 0), (.ref 164), (.int 96 0), (.int 0 0), (.ref 181)]), #[]⟩
noncomputable def o3v27 (P : Params) : Obj := ⟨(.type "dict"), none, (.dict #[⟨PyData.keyHash P (Str.ofString "__name__"), (.str (Str.ofString "__name__") 165), (.str (Str.ofString "law_wf0074_01") 988)⟩, ⟨PyData.keyHash P (Str.ofString "__doc__"), (.str (Str.ofString "__doc__") 166), .none⟩, ⟨PyData.keyHash P (Str.ofString "__package__"), (.str (Str.ofString "__package__") 167), .none⟩, ⟨PyData.keyHash P (Str.ofString "__loader__"), (.str (Str.ofString "__loader__") 168), (.builtin "__main__.__loader__#opaque")⟩, ⟨PyData.keyHash P (Str.ofString "__spec__"), (.str (Str.ofString "__spec__") 169), .none⟩, ⟨PyData.keyHash P (Str.ofString "__annotations__"), (.str (Str.ofString "__annotations__") 170), (.ref 6)⟩, ⟨PyData.keyHash P (Str.ofString "__builtins__"), (.str (Str.ofString "__builtins__") 171), (.ref 4)⟩, ⟨PyData.keyHash P (Str.ofString "__file__"), (.str (Str.ofString "__file__") 173), (.str (Str.ofString "/claim/cut.py") 172)⟩, ⟨PyData.keyHash P (Str.ofString "__cached__"), (.str (Str.ofString "__cached__") 174), .none⟩, ⟨PyData.keyHash P (Str.ofString "_sre"), (.str (Str.ofString "_sre") 275), (.ref 12)⟩, ⟨PyData.keyHash P (Str.ofString "_wall"), (.str (Str.ofString "_wall") 288), (.ref 38)⟩, ⟨PyData.keyHash P (Str.ofString "b1_set"), (.str (Str.ofString "b1_set") 350), (.ref 46)⟩, ⟨PyData.keyHash P (Str.ofString "in_table_b1"), (.str (Str.ofString "in_table_b1") 357), (.ref 56)⟩, ⟨PyData.keyHash P (Str.ofString "in_table_c11"), (.str (Str.ofString "in_table_c11") 364), (.ref 63)⟩, ⟨PyData.keyHash P (Str.ofString "in_table_c4"), (.str (Str.ofString "in_table_c4") 372), (.ref 70)⟩, ⟨PyData.keyHash P (Str.ofString "c6_set"), (.str (Str.ofString "c6_set") 386), (.ref 72)⟩, ⟨PyData.keyHash P (Str.ofString "in_table_c6"), (.str (Str.ofString "in_table_c6") 393), (.ref 82)⟩, ⟨PyData.keyHash P (Str.ofString "c7_set"), (.str (Str.ofString "c7_set") 421), (.ref 84)⟩, ⟨PyData.keyHash P (Str.ofString "in_table_c7"), (.str (Str.ofString "in_table_c7") 428), (.ref 94)⟩, ⟨PyData.keyHash P (Str.ofString "c8_set"), (.str (Str.ofString "c8_set") 469), (.ref 108)⟩, ⟨PyData.keyHash P (Str.ofString "in_table_c8"), (.str (Str.ofString "in_table_c8") 476), (.ref 118)⟩, ⟨PyData.keyHash P (Str.ofString "c9_set"), (.str (Str.ofString "c9_set") 676), (.ref 126)⟩, ⟨PyData.keyHash P (Str.ofString "in_table_c9"), (.str (Str.ofString "in_table_c9") 683), (.ref 136)⟩, ⟨PyData.keyHash P (Str.ofString "rgb_to_hsv"), (.str (Str.ofString "rgb_to_hsv") 703), (.ref 143)⟩, ⟨PyData.keyHash P (Str.ofString "hsv_to_rgb"), (.str (Str.ofString "hsv_to_rgb") 717), (.ref 150)⟩, ⟨PyData.keyHash P (Str.ofString "COMPILER_FLAG_NAMES"), (.str (Str.ofString "COMPILER_FLAG_NAMES") 750), (.ref 151)⟩, ⟨PyData.keyHash P (Str.ofString "pretty_flags"), (.str (Str.ofString "pretty_flags") 760), (.ref 158)⟩, ⟨PyData.keyHash P (Str.ofString "_parse_varint"), (.str (Str.ofString "_parse_varint") 769), (.ref 165)⟩, ⟨PyData.keyHash P (Str.ofString "_name_disallowed_re"), (.str (Str.ofString "_name_disallowed_re") 797), (.ref 170)⟩, ⟨PyData.keyHash P (Str.ofString "_value_disallowed_re"), (.str (Str.ofString "_value_disallowed_re") 831), (.ref 175)⟩, ⟨PyData.keyHash P (Str.ofString "Headers"), (.str (Str.ofString "Headers") 987), (.ref 298)⟩] 31), #[]⟩
noncomputable def o3v28 (P : Params) : Obj := ⟨(.type "dict"), none, (.dict #[⟨PyData.keyHash P (Str.ofString "__name__"), (.str (Str.ofString "__name__") 165), (.str (Str.ofString "law_wf0074_01") 988)⟩, ⟨PyData.keyHash P (Str.ofString "__doc__"), (.str (Str.ofString "__doc__") 166), .none⟩, ⟨PyData.keyHash P (Str.ofString "__package__"), (.str (Str.ofString "__package__") 167), .none⟩, ⟨PyData.keyHash P (Str.ofString "__loader__"), (.str (Str.ofString "__loader__") 168), (.builtin "__main__.__loader__#opaque")⟩, ⟨PyData.keyHash P (Str.ofString "__spec__"), (.str (Str.ofString "__spec__") 169), .none⟩, ⟨PyData.keyHash P (Str.ofString "__annotations__"), (.str (Str.ofString "__annotations__") 170), (.ref 6)⟩, ⟨PyData.keyHash P (Str.ofString "__builtins__"), (.str (Str.ofString "__builtins__") 171), (.ref 4)⟩, ⟨PyData.keyHash P (Str.ofString "__file__"), (.str (Str.ofString "__file__") 173), (.str (Str.ofString "/claim/cut.py") 172)⟩, ⟨PyData.keyHash P (Str.ofString "__cached__"), (.str (Str.ofString "__cached__") 174), .none⟩, ⟨PyData.keyHash P (Str.ofString "_sre"), (.str (Str.ofString "_sre") 275), (.ref 12)⟩, ⟨PyData.keyHash P (Str.ofString "_wall"), (.str (Str.ofString "_wall") 288), (.ref 38)⟩, ⟨PyData.keyHash P (Str.ofString "b1_set"), (.str (Str.ofString "b1_set") 350), (.ref 46)⟩, ⟨PyData.keyHash P (Str.ofString "in_table_b1"), (.str (Str.ofString "in_table_b1") 357), (.ref 56)⟩, ⟨PyData.keyHash P (Str.ofString "in_table_c11"), (.str (Str.ofString "in_table_c11") 364), (.ref 63)⟩, ⟨PyData.keyHash P (Str.ofString "in_table_c4"), (.str (Str.ofString "in_table_c4") 372), (.ref 70)⟩, ⟨PyData.keyHash P (Str.ofString "c6_set"), (.str (Str.ofString "c6_set") 386), (.ref 72)⟩, ⟨PyData.keyHash P (Str.ofString "in_table_c6"), (.str (Str.ofString "in_table_c6") 393), (.ref 82)⟩, ⟨PyData.keyHash P (Str.ofString "c7_set"), (.str (Str.ofString "c7_set") 421), (.ref 84)⟩, ⟨PyData.keyHash P (Str.ofString "in_table_c7"), (.str (Str.ofString "in_table_c7") 428), (.ref 94)⟩, ⟨PyData.keyHash P (Str.ofString "c8_set"), (.str (Str.ofString "c8_set") 469), (.ref 108)⟩, ⟨PyData.keyHash P (Str.ofString "in_table_c8"), (.str (Str.ofString "in_table_c8") 476), (.ref 118)⟩, ⟨PyData.keyHash P (Str.ofString "c9_set"), (.str (Str.ofString "c9_set") 676), (.ref 126)⟩, ⟨PyData.keyHash P (Str.ofString "in_table_c9"), (.str (Str.ofString "in_table_c9") 683), (.ref 136)⟩, ⟨PyData.keyHash P (Str.ofString "rgb_to_hsv"), (.str (Str.ofString "rgb_to_hsv") 703), (.ref 143)⟩, ⟨PyData.keyHash P (Str.ofString "hsv_to_rgb"), (.str (Str.ofString "hsv_to_rgb") 717), (.ref 150)⟩, ⟨PyData.keyHash P (Str.ofString "COMPILER_FLAG_NAMES"), (.str (Str.ofString "COMPILER_FLAG_NAMES") 750), (.ref 151)⟩, ⟨PyData.keyHash P (Str.ofString "pretty_flags"), (.str (Str.ofString "pretty_flags") 760), (.ref 158)⟩, ⟨PyData.keyHash P (Str.ofString "_parse_varint"), (.str (Str.ofString "_parse_varint") 769), (.ref 165)⟩, ⟨PyData.keyHash P (Str.ofString "_name_disallowed_re"), (.str (Str.ofString "_name_disallowed_re") 797), (.ref 170)⟩, ⟨PyData.keyHash P (Str.ofString "_value_disallowed_re"), (.str (Str.ofString "_value_disallowed_re") 831), (.ref 175)⟩, ⟨PyData.keyHash P (Str.ofString "Headers"), (.str (Str.ofString "Headers") 987), (.ref 298)⟩, ⟨PyData.keyHash P (Str.ofString "_law_signs"), (.str (Str.ofString "_law_signs") 995), (.ref 307)⟩] 32), #[]⟩
noncomputable def o29v15 (P : Params) : Obj := ⟨.none, none, (.fields #[(.int 2 0), (.int 0 0), (.ref 37), (.int 7 0), (.int 0 0), (.ref 55), (.int 9 0), (.int 0 0), (.ref 62), (.int 11 0), (.int 0 0), (.ref 69), (.int 19 0), (.int 0 0), (.ref 81), (.int 22 0), (.int 0 0), (.ref 93), (.int 25 0), (.int 0 0), (.ref 117), (.int 28 0), (.int 0 0), (.ref 135), (.int 31 0), (.int 0 0), (.ref 142), (.int 50 0), (.int 0 0), (.ref 149), (.int 73 0), (.int 0 0), (.ref 157), (.int 85 0), (.int 0 0), (.ref 164), (.int 96 0), (.int 0 0), (.ref 181), (.int 167 0), (.int 0 0), (.ref 306)]), #[]⟩
noncomputable def o3v29 (P : Params) : Obj := ⟨(.type "dict"), none, (.dict #[⟨PyData.keyHash P (Str.ofString "__name__"), (.str (Str.ofString "__name__") 165), (.str (Str.ofString "law_wf0074_01") 988)⟩, ⟨PyData.keyHash P (Str.ofString "__doc__"), (.str (Str.ofString "__doc__") 166), .none⟩, ⟨PyData.keyHash P (Str.ofString "__package__"), (.str (Str.ofString "__package__") 167), .none⟩, ⟨PyData.keyHash P (Str.ofString "__loader__"), (.str (Str.ofString "__loader__") 168), (.builtin "__main__.__loader__#opaque")⟩, ⟨PyData.keyHash P (Str.ofString "__spec__"), (.str (Str.ofString "__spec__") 169), .none⟩, ⟨PyData.keyHash P (Str.ofString "__annotations__"), (.str (Str.ofString "__annotations__") 170), (.ref 6)⟩, ⟨PyData.keyHash P (Str.ofString "__builtins__"), (.str (Str.ofString "__builtins__") 171), (.ref 4)⟩, ⟨PyData.keyHash P (Str.ofString "__file__"), (.str (Str.ofString "__file__") 173), (.str (Str.ofString "/claim/cut.py") 172)⟩, ⟨PyData.keyHash P (Str.ofString "__cached__"), (.str (Str.ofString "__cached__") 174), .none⟩, ⟨PyData.keyHash P (Str.ofString "_sre"), (.str (Str.ofString "_sre") 275), (.ref 12)⟩, ⟨PyData.keyHash P (Str.ofString "_wall"), (.str (Str.ofString "_wall") 288), (.ref 38)⟩, ⟨PyData.keyHash P (Str.ofString "b1_set"), (.str (Str.ofString "b1_set") 350), (.ref 46)⟩, ⟨PyData.keyHash P (Str.ofString "in_table_b1"), (.str (Str.ofString "in_table_b1") 357), (.ref 56)⟩, ⟨PyData.keyHash P (Str.ofString "in_table_c11"), (.str (Str.ofString "in_table_c11") 364), (.ref 63)⟩, ⟨PyData.keyHash P (Str.ofString "in_table_c4"), (.str (Str.ofString "in_table_c4") 372), (.ref 70)⟩, ⟨PyData.keyHash P (Str.ofString "c6_set"), (.str (Str.ofString "c6_set") 386), (.ref 72)⟩, ⟨PyData.keyHash P (Str.ofString "in_table_c6"), (.str (Str.ofString "in_table_c6") 393), (.ref 82)⟩, ⟨PyData.keyHash P (Str.ofString "c7_set"), (.str (Str.ofString "c7_set") 421), (.ref 84)⟩, ⟨PyData.keyHash P (Str.ofString "in_table_c7"), (.str (Str.ofString "in_table_c7") 428), (.ref 94)⟩, ⟨PyData.keyHash P (Str.ofString "c8_set"), (.str (Str.ofString "c8_set") 469), (.ref 108)⟩, ⟨PyData.keyHash P (Str.ofString "in_table_c8"), (.str (Str.ofString "in_table_c8") 476), (.ref 118)⟩, ⟨PyData.keyHash P (Str.ofString "c9_set"), (.str (Str.ofString "c9_set") 676), (.ref 126)⟩, ⟨PyData.keyHash P (Str.ofString "in_table_c9"), (.str (Str.ofString "in_table_c9") 683), (.ref 136)⟩, ⟨PyData.keyHash P (Str.ofString "rgb_to_hsv"), (.str (Str.ofString "rgb_to_hsv") 703), (.ref 143)⟩, ⟨PyData.keyHash P (Str.ofString "hsv_to_rgb"), (.str (Str.ofString "hsv_to_rgb") 717), (.ref 150)⟩, ⟨PyData.keyHash P (Str.ofString "COMPILER_FLAG_NAMES"), (.str (Str.ofString "COMPILER_FLAG_NAMES") 750), (.ref 151)⟩, ⟨PyData.keyHash P (Str.ofString "pretty_flags"), (.str (Str.ofString "pretty_flags") 760), (.ref 158)⟩, ⟨PyData.keyHash P (Str.ofString "_parse_varint"), (.str (Str.ofString "_parse_varint") 769), (.ref 165)⟩, ⟨PyData.keyHash P (Str.ofString "_name_disallowed_re"), (.str (Str.ofString "_name_disallowed_re") 797), (.ref 170)⟩, ⟨PyData.keyHash P (Str.ofString "_value_disallowed_re"), (.str (Str.ofString "_value_disallowed_re") 831), (.ref 175)⟩, ⟨PyData.keyHash P (Str.ofString "Headers"), (.str (Str.ofString "Headers") 987), (.ref 298)⟩, ⟨PyData.keyHash P (Str.ofString "_law_signs"), (.str (Str.ofString "_law_signs") 995), (.ref 307)⟩, ⟨PyData.keyHash P (Str.ofString "_law_tape"), (.str (Str.ofString "_law_tape") 1006), (.ref 314)⟩] 33), #[]⟩
noncomputable def o29v16 (P : Params) : Obj := ⟨.none, none, (.fields #[(.int 2 0), (.int 0 0), (.ref 37), (.int 7 0), (.int 0 0), (.ref 55), (.int 9 0), (.int 0 0), (.ref 62), (.int 11 0), (.int 0 0), (.ref 69), (.int 19 0), (.int 0 0), (.ref 81), (.int 22 0), (.int 0 0), (.ref 93), (.int 25 0), (.int 0 0), (.ref 117), (.int 28 0), (.int 0 0), (.ref 135), (.int 31 0), (.int 0 0), (.ref 142), (.int 50 0), (.int 0 0), (.ref 149), (.int 73 0), (.int 0 0), (.ref 157), (.int 85 0), (.int 0 0), (.ref 164), (.int 96 0), (.int 0 0), (.ref 181), (.int 167 0), (.int 0 0), (.ref 306), (.int 177 0), (.int 0 0), (.ref 313)]), #[]⟩
noncomputable def o3v30 (P : Params) : Obj := ⟨(.type "dict"), none, (.dict #[⟨PyData.keyHash P (Str.ofString "__name__"), (.str (Str.ofString "__name__") 165), (.str (Str.ofString "law_wf0074_01") 988)⟩, ⟨PyData.keyHash P (Str.ofString "__doc__"), (.str (Str.ofString "__doc__") 166), .none⟩, ⟨PyData.keyHash P (Str.ofString "__package__"), (.str (Str.ofString "__package__") 167), .none⟩, ⟨PyData.keyHash P (Str.ofString "__loader__"), (.str (Str.ofString "__loader__") 168), (.builtin "__main__.__loader__#opaque")⟩, ⟨PyData.keyHash P (Str.ofString "__spec__"), (.str (Str.ofString "__spec__") 169), .none⟩, ⟨PyData.keyHash P (Str.ofString "__annotations__"), (.str (Str.ofString "__annotations__") 170), (.ref 6)⟩, ⟨PyData.keyHash P (Str.ofString "__builtins__"), (.str (Str.ofString "__builtins__") 171), (.ref 4)⟩, ⟨PyData.keyHash P (Str.ofString "__file__"), (.str (Str.ofString "__file__") 173), (.str (Str.ofString "/claim/cut.py") 172)⟩, ⟨PyData.keyHash P (Str.ofString "__cached__"), (.str (Str.ofString "__cached__") 174), .none⟩, ⟨PyData.keyHash P (Str.ofString "_sre"), (.str (Str.ofString "_sre") 275), (.ref 12)⟩, ⟨PyData.keyHash P (Str.ofString "_wall"), (.str (Str.ofString "_wall") 288), (.ref 38)⟩, ⟨PyData.keyHash P (Str.ofString "b1_set"), (.str (Str.ofString "b1_set") 350), (.ref 46)⟩, ⟨PyData.keyHash P (Str.ofString "in_table_b1"), (.str (Str.ofString "in_table_b1") 357), (.ref 56)⟩, ⟨PyData.keyHash P (Str.ofString "in_table_c11"), (.str (Str.ofString "in_table_c11") 364), (.ref 63)⟩, ⟨PyData.keyHash P (Str.ofString "in_table_c4"), (.str (Str.ofString "in_table_c4") 372), (.ref 70)⟩, ⟨PyData.keyHash P (Str.ofString "c6_set"), (.str (Str.ofString "c6_set") 386), (.ref 72)⟩, ⟨PyData.keyHash P (Str.ofString "in_table_c6"), (.str (Str.ofString "in_table_c6") 393), (.ref 82)⟩, ⟨PyData.keyHash P (Str.ofString "c7_set"), (.str (Str.ofString "c7_set") 421), (.ref 84)⟩, ⟨PyData.keyHash P (Str.ofString "in_table_c7"), (.str (Str.ofString "in_table_c7") 428), (.ref 94)⟩, ⟨PyData.keyHash P (Str.ofString "c8_set"), (.str (Str.ofString "c8_set") 469), (.ref 108)⟩, ⟨PyData.keyHash P (Str.ofString "in_table_c8"), (.str (Str.ofString "in_table_c8") 476), (.ref 118)⟩, ⟨PyData.keyHash P (Str.ofString "c9_set"), (.str (Str.ofString "c9_set") 676), (.ref 126)⟩, ⟨PyData.keyHash P (Str.ofString "in_table_c9"), (.str (Str.ofString "in_table_c9") 683), (.ref 136)⟩, ⟨PyData.keyHash P (Str.ofString "rgb_to_hsv"), (.str (Str.ofString "rgb_to_hsv") 703), (.ref 143)⟩, ⟨PyData.keyHash P (Str.ofString "hsv_to_rgb"), (.str (Str.ofString "hsv_to_rgb") 717), (.ref 150)⟩, ⟨PyData.keyHash P (Str.ofString "COMPILER_FLAG_NAMES"), (.str (Str.ofString "COMPILER_FLAG_NAMES") 750), (.ref 151)⟩, ⟨PyData.keyHash P (Str.ofString "pretty_flags"), (.str (Str.ofString "pretty_flags") 760), (.ref 158)⟩, ⟨PyData.keyHash P (Str.ofString "_parse_varint"), (.str (Str.ofString "_parse_varint") 769), (.ref 165)⟩, ⟨PyData.keyHash P (Str.ofString "_name_disallowed_re"), (.str (Str.ofString "_name_disallowed_re") 797), (.ref 170)⟩, ⟨PyData.keyHash P (Str.ofString "_value_disallowed_re"), (.str (Str.ofString "_value_disallowed_re") 831), (.ref 175)⟩, ⟨PyData.keyHash P (Str.ofString "Headers"), (.str (Str.ofString "Headers") 987), (.ref 298)⟩, ⟨PyData.keyHash P (Str.ofString "_law_signs"), (.str (Str.ofString "_law_signs") 995), (.ref 307)⟩, ⟨PyData.keyHash P (Str.ofString "_law_tape"), (.str (Str.ofString "_law_tape") 1006), (.ref 314)⟩, ⟨PyData.keyHash P (Str.ofString "_law_seats"), (.str (Str.ofString "_law_seats") 1012), (.ref 319)⟩] 34), #[]⟩
noncomputable def o29v17 (P : Params) : Obj := ⟨.none, none, (.fields #[(.int 2 0), (.int 0 0), (.ref 37), (.int 7 0), (.int 0 0), (.ref 55), (.int 9 0), (.int 0 0), (.ref 62), (.int 11 0), (.int 0 0), (.ref 69), (.int 19 0), (.int 0 0), (.ref 81), (.int 22 0), (.int 0 0), (.ref 93), (.int 25 0), (.int 0 0), (.ref 117), (.int 28 0), (.int 0 0), (.ref 135), (.int 31 0), (.int 0 0), (.ref 142), (.int 50 0), (.int 0 0), (.ref 149), (.int 73 0), (.int 0 0), (.ref 157), (.int 85 0), (.int 0 0), (.ref 164), (.int 96 0), (.int 0 0), (.ref 181), (.int 167 0), (.int 0 0), (.ref 306), (.int 177 0), (.int 0 0), (.ref 313), (.int 187 0), (.int 0 0), (.ref 318)]), #[]⟩
noncomputable def o3v31 (P : Params) : Obj := ⟨(.type "dict"), none, (.dict #[⟨PyData.keyHash P (Str.ofString "__name__"), (.str (Str.ofString "__name__") 165), (.str (Str.ofString "law_wf0074_01") 988)⟩, ⟨PyData.keyHash P (Str.ofString "__doc__"), (.str (Str.ofString "__doc__") 166), .none⟩, ⟨PyData.keyHash P (Str.ofString "__package__"), (.str (Str.ofString "__package__") 167), .none⟩, ⟨PyData.keyHash P (Str.ofString "__loader__"), (.str (Str.ofString "__loader__") 168), (.builtin "__main__.__loader__#opaque")⟩, ⟨PyData.keyHash P (Str.ofString "__spec__"), (.str (Str.ofString "__spec__") 169), .none⟩, ⟨PyData.keyHash P (Str.ofString "__annotations__"), (.str (Str.ofString "__annotations__") 170), (.ref 6)⟩, ⟨PyData.keyHash P (Str.ofString "__builtins__"), (.str (Str.ofString "__builtins__") 171), (.ref 4)⟩, ⟨PyData.keyHash P (Str.ofString "__file__"), (.str (Str.ofString "__file__") 173), (.str (Str.ofString "/claim/cut.py") 172)⟩, ⟨PyData.keyHash P (Str.ofString "__cached__"), (.str (Str.ofString "__cached__") 174), .none⟩, ⟨PyData.keyHash P (Str.ofString "_sre"), (.str (Str.ofString "_sre") 275), (.ref 12)⟩, ⟨PyData.keyHash P (Str.ofString "_wall"), (.str (Str.ofString "_wall") 288), (.ref 38)⟩, ⟨PyData.keyHash P (Str.ofString "b1_set"), (.str (Str.ofString "b1_set") 350), (.ref 46)⟩, ⟨PyData.keyHash P (Str.ofString "in_table_b1"), (.str (Str.ofString "in_table_b1") 357), (.ref 56)⟩, ⟨PyData.keyHash P (Str.ofString "in_table_c11"), (.str (Str.ofString "in_table_c11") 364), (.ref 63)⟩, ⟨PyData.keyHash P (Str.ofString "in_table_c4"), (.str (Str.ofString "in_table_c4") 372), (.ref 70)⟩, ⟨PyData.keyHash P (Str.ofString "c6_set"), (.str (Str.ofString "c6_set") 386), (.ref 72)⟩, ⟨PyData.keyHash P (Str.ofString "in_table_c6"), (.str (Str.ofString "in_table_c6") 393), (.ref 82)⟩, ⟨PyData.keyHash P (Str.ofString "c7_set"), (.str (Str.ofString "c7_set") 421), (.ref 84)⟩, ⟨PyData.keyHash P (Str.ofString "in_table_c7"), (.str (Str.ofString "in_table_c7") 428), (.ref 94)⟩, ⟨PyData.keyHash P (Str.ofString "c8_set"), (.str (Str.ofString "c8_set") 469), (.ref 108)⟩, ⟨PyData.keyHash P (Str.ofString "in_table_c8"), (.str (Str.ofString "in_table_c8") 476), (.ref 118)⟩, ⟨PyData.keyHash P (Str.ofString "c9_set"), (.str (Str.ofString "c9_set") 676), (.ref 126)⟩, ⟨PyData.keyHash P (Str.ofString "in_table_c9"), (.str (Str.ofString "in_table_c9") 683), (.ref 136)⟩, ⟨PyData.keyHash P (Str.ofString "rgb_to_hsv"), (.str (Str.ofString "rgb_to_hsv") 703), (.ref 143)⟩, ⟨PyData.keyHash P (Str.ofString "hsv_to_rgb"), (.str (Str.ofString "hsv_to_rgb") 717), (.ref 150)⟩, ⟨PyData.keyHash P (Str.ofString "COMPILER_FLAG_NAMES"), (.str (Str.ofString "COMPILER_FLAG_NAMES") 750), (.ref 151)⟩, ⟨PyData.keyHash P (Str.ofString "pretty_flags"), (.str (Str.ofString "pretty_flags") 760), (.ref 158)⟩, ⟨PyData.keyHash P (Str.ofString "_parse_varint"), (.str (Str.ofString "_parse_varint") 769), (.ref 165)⟩, ⟨PyData.keyHash P (Str.ofString "_name_disallowed_re"), (.str (Str.ofString "_name_disallowed_re") 797), (.ref 170)⟩, ⟨PyData.keyHash P (Str.ofString "_value_disallowed_re"), (.str (Str.ofString "_value_disallowed_re") 831), (.ref 175)⟩, ⟨PyData.keyHash P (Str.ofString "Headers"), (.str (Str.ofString "Headers") 987), (.ref 298)⟩, ⟨PyData.keyHash P (Str.ofString "_law_signs"), (.str (Str.ofString "_law_signs") 995), (.ref 307)⟩, ⟨PyData.keyHash P (Str.ofString "_law_tape"), (.str (Str.ofString "_law_tape") 1006), (.ref 314)⟩, ⟨PyData.keyHash P (Str.ofString "_law_seats"), (.str (Str.ofString "_law_seats") 1012), (.ref 319)⟩, ⟨PyData.keyHash P (Str.ofString "_law_heard"), (.str (Str.ofString "_law_heard") 1023), (.ref 326)⟩] 35), #[]⟩
noncomputable def o29v18 (P : Params) : Obj := ⟨.none, none, (.fields #[(.int 2 0), (.int 0 0), (.ref 37), (.int 7 0), (.int 0 0), (.ref 55), (.int 9 0), (.int 0 0), (.ref 62), (.int 11 0), (.int 0 0), (.ref 69), (.int 19 0), (.int 0 0), (.ref 81), (.int 22 0), (.int 0 0), (.ref 93), (.int 25 0), (.int 0 0), (.ref 117), (.int 28 0), (.int 0 0), (.ref 135), (.int 31 0), (.int 0 0), (.ref 142), (.int 50 0), (.int 0 0), (.ref 149), (.int 73 0), (.int 0 0), (.ref 157), (.int 85 0), (.int 0 0), (.ref 164), (.int 96 0), (.int 0 0), (.ref 181), (.int 167 0), (.int 0 0), (.ref 306), (.int 177 0), (.int 0 0), (.ref 313), (.int 187 0), (.int 0 0), (.ref 318), (.int 190 0), (.int 0 0), (.ref 325)]), #[]⟩
noncomputable def o3v32 (P : Params) : Obj := ⟨(.type "dict"), none, (.dict #[⟨PyData.keyHash P (Str.ofString "__name__"), (.str (Str.ofString "__name__") 165), (.str (Str.ofString "law_wf0074_01") 988)⟩, ⟨PyData.keyHash P (Str.ofString "__doc__"), (.str (Str.ofString "__doc__") 166), .none⟩, ⟨PyData.keyHash P (Str.ofString "__package__"), (.str (Str.ofString "__package__") 167), .none⟩, ⟨PyData.keyHash P (Str.ofString "__loader__"), (.str (Str.ofString "__loader__") 168), (.builtin "__main__.__loader__#opaque")⟩, ⟨PyData.keyHash P (Str.ofString "__spec__"), (.str (Str.ofString "__spec__") 169), .none⟩, ⟨PyData.keyHash P (Str.ofString "__annotations__"), (.str (Str.ofString "__annotations__") 170), (.ref 6)⟩, ⟨PyData.keyHash P (Str.ofString "__builtins__"), (.str (Str.ofString "__builtins__") 171), (.ref 4)⟩, ⟨PyData.keyHash P (Str.ofString "__file__"), (.str (Str.ofString "__file__") 173), (.str (Str.ofString "/claim/cut.py") 172)⟩, ⟨PyData.keyHash P (Str.ofString "__cached__"), (.str (Str.ofString "__cached__") 174), .none⟩, ⟨PyData.keyHash P (Str.ofString "_sre"), (.str (Str.ofString "_sre") 275), (.ref 12)⟩, ⟨PyData.keyHash P (Str.ofString "_wall"), (.str (Str.ofString "_wall") 288), (.ref 38)⟩, ⟨PyData.keyHash P (Str.ofString "b1_set"), (.str (Str.ofString "b1_set") 350), (.ref 46)⟩, ⟨PyData.keyHash P (Str.ofString "in_table_b1"), (.str (Str.ofString "in_table_b1") 357), (.ref 56)⟩, ⟨PyData.keyHash P (Str.ofString "in_table_c11"), (.str (Str.ofString "in_table_c11") 364), (.ref 63)⟩, ⟨PyData.keyHash P (Str.ofString "in_table_c4"), (.str (Str.ofString "in_table_c4") 372), (.ref 70)⟩, ⟨PyData.keyHash P (Str.ofString "c6_set"), (.str (Str.ofString "c6_set") 386), (.ref 72)⟩, ⟨PyData.keyHash P (Str.ofString "in_table_c6"), (.str (Str.ofString "in_table_c6") 393), (.ref 82)⟩, ⟨PyData.keyHash P (Str.ofString "c7_set"), (.str (Str.ofString "c7_set") 421), (.ref 84)⟩, ⟨PyData.keyHash P (Str.ofString "in_table_c7"), (.str (Str.ofString "in_table_c7") 428), (.ref 94)⟩, ⟨PyData.keyHash P (Str.ofString "c8_set"), (.str (Str.ofString "c8_set") 469), (.ref 108)⟩, ⟨PyData.keyHash P (Str.ofString "in_table_c8"), (.str (Str.ofString "in_table_c8") 476), (.ref 118)⟩, ⟨PyData.keyHash P (Str.ofString "c9_set"), (.str (Str.ofString "c9_set") 676), (.ref 126)⟩, ⟨PyData.keyHash P (Str.ofString "in_table_c9"), (.str (Str.ofString "in_table_c9") 683), (.ref 136)⟩, ⟨PyData.keyHash P (Str.ofString "rgb_to_hsv"), (.str (Str.ofString "rgb_to_hsv") 703), (.ref 143)⟩, ⟨PyData.keyHash P (Str.ofString "hsv_to_rgb"), (.str (Str.ofString "hsv_to_rgb") 717), (.ref 150)⟩, ⟨PyData.keyHash P (Str.ofString "COMPILER_FLAG_NAMES"), (.str (Str.ofString "COMPILER_FLAG_NAMES") 750), (.ref 151)⟩, ⟨PyData.keyHash P (Str.ofString "pretty_flags"), (.str (Str.ofString "pretty_flags") 760), (.ref 158)⟩, ⟨PyData.keyHash P (Str.ofString "_parse_varint"), (.str (Str.ofString "_parse_varint") 769), (.ref 165)⟩, ⟨PyData.keyHash P (Str.ofString "_name_disallowed_re"), (.str (Str.ofString "_name_disallowed_re") 797), (.ref 170)⟩, ⟨PyData.keyHash P (Str.ofString "_value_disallowed_re"), (.str (Str.ofString "_value_disallowed_re") 831), (.ref 175)⟩, ⟨PyData.keyHash P (Str.ofString "Headers"), (.str (Str.ofString "Headers") 987), (.ref 298)⟩, ⟨PyData.keyHash P (Str.ofString "_law_signs"), (.str (Str.ofString "_law_signs") 995), (.ref 307)⟩, ⟨PyData.keyHash P (Str.ofString "_law_tape"), (.str (Str.ofString "_law_tape") 1006), (.ref 314)⟩, ⟨PyData.keyHash P (Str.ofString "_law_seats"), (.str (Str.ofString "_law_seats") 1012), (.ref 319)⟩, ⟨PyData.keyHash P (Str.ofString "_law_heard"), (.str (Str.ofString "_law_heard") 1023), (.ref 326)⟩, ⟨PyData.keyHash P (Str.ofString "_law_says"), (.str (Str.ofString "_law_says") 1044), (.ref 333)⟩] 36), #[]⟩
noncomputable def o29v19 (P : Params) : Obj := ⟨.none, none, (.fields #[(.int 2 0), (.int 0 0), (.ref 37), (.int 7 0), (.int 0 0), (.ref 55), (.int 9 0), (.int 0 0), (.ref 62), (.int 11 0), (.int 0 0), (.ref 69), (.int 19 0), (.int 0 0), (.ref 81), (.int 22 0), (.int 0 0), (.ref 93), (.int 25 0), (.int 0 0), (.ref 117), (.int 28 0), (.int 0 0), (.ref 135), (.int 31 0), (.int 0 0), (.ref 142), (.int 50 0), (.int 0 0), (.ref 149), (.int 73 0), (.int 0 0), (.ref 157), (.int 85 0), (.int 0 0), (.ref 164), (.int 96 0), (.int 0 0), (.ref 181), (.int 167 0), (.int 0 0), (.ref 306), (.int 177 0), (.int 0 0), (.ref 313), (.int 187 0), (.int 0 0), (.ref 318), (.int 190 0), (.int 0 0), (.ref 325), (.int 203 0), (.int 0 0), (.ref 332)]), #[]⟩
noncomputable def o3v33 (P : Params) : Obj := ⟨(.type "dict"), none, (.dict #[⟨PyData.keyHash P (Str.ofString "__name__"), (.str (Str.ofString "__name__") 165), (.str (Str.ofString "law_wf0074_01") 988)⟩, ⟨PyData.keyHash P (Str.ofString "__doc__"), (.str (Str.ofString "__doc__") 166), .none⟩, ⟨PyData.keyHash P (Str.ofString "__package__"), (.str (Str.ofString "__package__") 167), .none⟩, ⟨PyData.keyHash P (Str.ofString "__loader__"), (.str (Str.ofString "__loader__") 168), (.builtin "__main__.__loader__#opaque")⟩, ⟨PyData.keyHash P (Str.ofString "__spec__"), (.str (Str.ofString "__spec__") 169), .none⟩, ⟨PyData.keyHash P (Str.ofString "__annotations__"), (.str (Str.ofString "__annotations__") 170), (.ref 6)⟩, ⟨PyData.keyHash P (Str.ofString "__builtins__"), (.str (Str.ofString "__builtins__") 171), (.ref 4)⟩, ⟨PyData.keyHash P (Str.ofString "__file__"), (.str (Str.ofString "__file__") 173), (.str (Str.ofString "/claim/cut.py") 172)⟩, ⟨PyData.keyHash P (Str.ofString "__cached__"), (.str (Str.ofString "__cached__") 174), .none⟩, ⟨PyData.keyHash P (Str.ofString "_sre"), (.str (Str.ofString "_sre") 275), (.ref 12)⟩, ⟨PyData.keyHash P (Str.ofString "_wall"), (.str (Str.ofString "_wall") 288), (.ref 38)⟩, ⟨PyData.keyHash P (Str.ofString "b1_set"), (.str (Str.ofString "b1_set") 350), (.ref 46)⟩, ⟨PyData.keyHash P (Str.ofString "in_table_b1"), (.str (Str.ofString "in_table_b1") 357), (.ref 56)⟩, ⟨PyData.keyHash P (Str.ofString "in_table_c11"), (.str (Str.ofString "in_table_c11") 364), (.ref 63)⟩, ⟨PyData.keyHash P (Str.ofString "in_table_c4"), (.str (Str.ofString "in_table_c4") 372), (.ref 70)⟩, ⟨PyData.keyHash P (Str.ofString "c6_set"), (.str (Str.ofString "c6_set") 386), (.ref 72)⟩, ⟨PyData.keyHash P (Str.ofString "in_table_c6"), (.str (Str.ofString "in_table_c6") 393), (.ref 82)⟩, ⟨PyData.keyHash P (Str.ofString "c7_set"), (.str (Str.ofString "c7_set") 421), (.ref 84)⟩, ⟨PyData.keyHash P (Str.ofString "in_table_c7"), (.str (Str.ofString "in_table_c7") 428), (.ref 94)⟩, ⟨PyData.keyHash P (Str.ofString "c8_set"), (.str (Str.ofString "c8_set") 469), (.ref 108)⟩, ⟨PyData.keyHash P (Str.ofString "in_table_c8"), (.str (Str.ofString "in_table_c8") 476), (.ref 118)⟩, ⟨PyData.keyHash P (Str.ofString "c9_set"), (.str (Str.ofString "c9_set") 676), (.ref 126)⟩, ⟨PyData.keyHash P (Str.ofString "in_table_c9"), (.str (Str.ofString "in_table_c9") 683), (.ref 136)⟩, ⟨PyData.keyHash P (Str.ofString "rgb_to_hsv"), (.str (Str.ofString "rgb_to_hsv") 703), (.ref 143)⟩, ⟨PyData.keyHash P (Str.ofString "hsv_to_rgb"), (.str (Str.ofString "hsv_to_rgb") 717), (.ref 150)⟩, ⟨PyData.keyHash P (Str.ofString "COMPILER_FLAG_NAMES"), (.str (Str.ofString "COMPILER_FLAG_NAMES") 750), (.ref 151)⟩, ⟨PyData.keyHash P (Str.ofString "pretty_flags"), (.str (Str.ofString "pretty_flags") 760), (.ref 158)⟩, ⟨PyData.keyHash P (Str.ofString "_parse_varint"), (.str (Str.ofString "_parse_varint") 769), (.ref 165)⟩, ⟨PyData.keyHash P (Str.ofString "_name_disallowed_re"), (.str (Str.ofString "_name_disallowed_re") 797), (.ref 170)⟩, ⟨PyData.keyHash P (Str.ofString "_value_disallowed_re"), (.str (Str.ofString "_value_disallowed_re") 831), (.ref 175)⟩, ⟨PyData.keyHash P (Str.ofString "Headers"), (.str (Str.ofString "Headers") 987), (.ref 298)⟩, ⟨PyData.keyHash P (Str.ofString "_law_signs"), (.str (Str.ofString "_law_signs") 995), (.ref 307)⟩, ⟨PyData.keyHash P (Str.ofString "_law_tape"), (.str (Str.ofString "_law_tape") 1006), (.ref 314)⟩, ⟨PyData.keyHash P (Str.ofString "_law_seats"), (.str (Str.ofString "_law_seats") 1012), (.ref 319)⟩, ⟨PyData.keyHash P (Str.ofString "_law_heard"), (.str (Str.ofString "_law_heard") 1023), (.ref 326)⟩, ⟨PyData.keyHash P (Str.ofString "_law_says"), (.str (Str.ofString "_law_says") 1044), (.ref 333)⟩, ⟨PyData.keyHash P (Str.ofString "_law_unlucky"), (.str (Str.ofString "_law_unlucky") 1050), (.ref 338)⟩] 37), #[]⟩
noncomputable def o29v20 (P : Params) : Obj := ⟨.none, none, (.fields #[(.int 2 0), (.int 0 0), (.ref 37), (.int 7 0), (.int 0 0), (.ref 55), (.int 9 0), (.int 0 0), (.ref 62), (.int 11 0), (.int 0 0), (.ref 69), (.int 19 0), (.int 0 0), (.ref 81), (.int 22 0), (.int 0 0), (.ref 93), (.int 25 0), (.int 0 0), (.ref 117), (.int 28 0), (.int 0 0), (.ref 135), (.int 31 0), (.int 0 0), (.ref 142), (.int 50 0), (.int 0 0), (.ref 149), (.int 73 0), (.int 0 0), (.ref 157), (.int 85 0), (.int 0 0), (.ref 164), (.int 96 0), (.int 0 0), (.ref 181), (.int 167 0), (.int 0 0), (.ref 306), (.int 177 0), (.int 0 0), (.ref 313), (.int 187 0), (.int 0 0), (.ref 318), (.int 190 0), (.int 0 0), (.ref 325), (.int 203 0), (.int 0 0), (.ref 332), (.int 219 0), (.int 0 0), (.ref 337)]), #[]⟩
noncomputable def o121v1 (P : Params) : Obj := ⟨(.type "list"), none, (.seq #[(.int 917536 483)] 3), #[]⟩
noncomputable def o122v1 (P : Params) : Obj := ⟨(.type "range_iterator"), none, (.fields #[(.int 917537 0), (.int 95 0), (.int 1 0)]), #[]⟩
noncomputable def o121v2 (P : Params) : Obj := ⟨(.type "list"), none, (.seq #[(.int 917536 483), (.int 917537 484), (.int 917538 485), (.int 917539 486), (.int 917540 487), (.int 917541 488), (.int 917542 489), (.int 917543 490), (.int 917544 491), (.int 917545 492), (.int 917546 493), (.int 917547 494), (.int 917548 495), (.int 917549 496), (.int 917550 497), (.int 917551 498), (.int 917552 499), (.int 917553 500), (.int 917554 501), (.int 917555 502), (.int 917556 503)] 23), #[]⟩
noncomputable def o122v2 (P : Params) : Obj := ⟨(.type "range_iterator"), none, (.fields #[(.int 917557 0), (.int 75 0), (.int 1 0)]), #[]⟩
noncomputable def o121v3 (P : Params) : Obj := ⟨(.type "list"), none, (.seq #[(.int 917536 483), (.int 917537 484), (.int 917538 485), (.int 917539 486), (.int 917540 487), (.int 917541 488), (.int 917542 489), (.int 917543 490), (.int 917544 491), (.int 917545 492), (.int 917546 493), (.int 917547 494), (.int 917548 495), (.int 917549 496), (.int 917550 497), (.int 917551 498), (.int 917552 499), (.int 917553 500), (.int 917554 501), (.int 917555 502), (.int 917556 503), (.int 917557 504), (.int 917558 505), (.int 917559 506), (.int 917560 507), (.int 917561 508), (.int 917562 509), (.int 917563 510), (.int 917564 511), (.int 917565 512), (.int 917566 513), (.int 917567 514), (.int 917568 515), (.int 917569 516), (.int 917570 517), (.int 917571 518), (.int 917572 519), (.int 917573 520), (.int 917574 521), (.int 917575 522), (.int 917576 523)] 43), #[]⟩
noncomputable def o122v3 (P : Params) : Obj := ⟨(.type "range_iterator"), none, (.fields #[(.int 917577 0), (.int 55 0), (.int 1 0)]), #[]⟩
noncomputable def o121v4 (P : Params) : Obj := ⟨(.type "list"), none, (.seq #[(.int 917536 483), (.int 917537 484), (.int 917538 485), (.int 917539 486), (.int 917540 487), (.int 917541 488), (.int 917542 489), (.int 917543 490), (.int 917544 491), (.int 917545 492), (.int 917546 493), (.int 917547 494), (.int 917548 495), (.int 917549 496), (.int 917550 497), (.int 917551 498), (.int 917552 499), (.int 917553 500), (.int 917554 501), (.int 917555 502), (.int 917556 503), (.int 917557 504), (.int 917558 505), (.int 917559 506), (.int 917560 507), (.int 917561 508), (.int 917562 509), (.int 917563 510), (.int 917564 511), (.int 917565 512), (.int 917566 513), (.int 917567 514), (.int 917568 515), (.int 917569 516), (.int 917570 517), (.int 917571 518), (.int 917572 519), (.int 917573 520), (.int 917574 521), (.int 917575 522), (.int 917576 523), (.int 917577 524), (.int 917578 525), (.int 917579 526), (.int 917580 527), (.int 917581 528), (.int 917582 529), (.int 917583 530), (.int 917584 531), (.int 917585 532), (.int 917586 533), (.int 917587 534), (.int 917588 535), (.int 917589 536), (.int 917590 537), (.int 917591 538), (.int 917592 539), (.int 917593 540), (.int 917594 541), (.int 917595 542), (.int 917596 543)] 63), #[]⟩
noncomputable def o122v4 (P : Params) : Obj := ⟨(.type "range_iterator"), none, (.fields #[(.int 917597 0), (.int 35 0), (.int 1 0)]), #[]⟩
noncomputable def o121v5 (P : Params) : Obj := ⟨(.type "list"), none, (.seq #[(.int 917536 483), (.int 917537 484), (.int 917538 485), (.int 917539 486), (.int 917540 487), (.int 917541 488), (.int 917542 489), (.int 917543 490), (.int 917544 491), (.int 917545 492), (.int 917546 493), (.int 917547 494), (.int 917548 495), (.int 917549 496), (.int 917550 497), (.int 917551 498), (.int 917552 499), (.int 917553 500), (.int 917554 501), (.int 917555 502), (.int 917556 503), (.int 917557 504), (.int 917558 505), (.int 917559 506), (.int 917560 507), (.int 917561 508), (.int 917562 509), (.int 917563 510), (.int 917564 511), (.int 917565 512), (.int 917566 513), (.int 917567 514), (.int 917568 515), (.int 917569 516), (.int 917570 517), (.int 917571 518), (.int 917572 519), (.int 917573 520), (.int 917574 521), (.int 917575 522), (.int 917576 523), (.int 917577 524), (.int 917578 525), (.int 917579 526), (.int 917580 527), (.int 917581 528), (.int 917582 529), (.int 917583 530), (.int 917584 531), (.int 917585 532), (.int 917586 533), (.int 917587 534), (.int 917588 535), (.int 917589 536), (.int 917590 537), (.int 917591 538), (.int 917592 539), (.int 917593 540), (.int 917594 541), (.int 917595 542), (.int 917596 543), (.int 917597 544), (.int 917598 545), (.int 917599 546), (.int 917600 547), (.int 917601 548), (.int 917602 549), (.int 917603 550), (.int 917604 551), (.int 917605 552), (.int 917606 553), (.int 917607 554), (.int 917608 555), (.int 917609 556), (.int 917610 557), (.int 917611 558), (.int 917612 559), (.int 917613 560), (.int 917614 561), (.int 917615 562), (.int 917616 563)] 83), #[]⟩
noncomputable def o122v5 (P : Params) : Obj := ⟨(.type "range_iterator"), none, (.fields #[(.int 917617 0), (.int 15 0), (.int 1 0)]), #[]⟩
noncomputable def o126v1 (P : Params) : Obj := ⟨(.type "set"), none, (.set #[(917505, (.int 917505 477))] 1 { mask := 7, place := #[1], dummies := #[], finger := 0, led := !P.followText "set-order", moves := 0, plain := true }), #[]⟩
noncomputable def o127v1 (P : Params) : Obj := ⟨(.type "list_iterator"), none, (.fields #[(.ref 125), (.int 1 0)]), #[]⟩
noncomputable def o126v2 (P : Params) : Obj := ⟨(.type "set"), none, (.set #[(917536, (.int 917536 483)), (917505, (.int 917505 477))] 2 { mask := 7, place := #[0, 1], dummies := #[], finger := 0, led := !P.followText "set-order", moves := 0, plain := true }), #[]⟩
noncomputable def o127v2 (P : Params) : Obj := ⟨(.type "list_iterator"), none, (.fields #[(.ref 125), (.int 2 0)]), #[]⟩
noncomputable def o126v3 (P : Params) : Obj := ⟨(.type "set"), none, (.set #[(917536, (.int 917536 483)), (917505, (.int 917505 477)), (917537, (.int 917537 484))] 3 { mask := 7, place := #[0, 1, 7], dummies := #[], finger := 0, led := !P.followText "set-order", moves := 0, plain := true }), #[]⟩
noncomputable def o127v3 (P : Params) : Obj := ⟨(.type "list_iterator"), none, (.fields #[(.ref 125), (.int 3 0)]), #[]⟩
noncomputable def o126v4 (P : Params) : Obj := ⟨(.type "set"), none, (.set #[(917536, (.int 917536 483)), (917505, (.int 917505 477)), (917538, (.int 917538 485)), (917537, (.int 917537 484))] 4 { mask := 7, place := #[0, 1, 2, 7], dummies := #[], finger := 0, led := !P.followText "set-order", moves := 0, plain := true }), #[]⟩
noncomputable def o127v4 (P : Params) : Obj := ⟨(.type "list_iterator"), none, (.fields #[(.ref 125), (.int 4 0)]), #[]⟩
noncomputable def o126v5 (P : Params) : Obj := ⟨(.type "set"), none, (.set #[(917536, (.int 917536 483)), (917505, (.int 917505 477)), (917538, (.int 917538 485)), (917539, (.int 917539 486)), (917537, (.int 917537 484))] 6 { mask := 31, place := #[0, 1, 2, 3, 4], dummies := #[], finger := 0, led := !P.followText "set-order", moves := 1, plain := true }), #[]⟩
noncomputable def o127v5 (P : Params) : Obj := ⟨(.type "list_iterator"), none, (.fields #[(.ref 125), (.int 5 0)]), #[]⟩
noncomputable def o126v6 (P : Params) : Obj := ⟨(.type "set"), none, (.set #[(917536, (.int 917536 483)), (917505, (.int 917505 477)), (917538, (.int 917538 485)), (917539, (.int 917539 486)), (917537, (.int 917537 484)), (917540, (.int 917540 487))] 7 { mask := 31, place := #[0, 1, 2, 3, 4, 5], dummies := #[], finger := 0, led := !P.followText "set-order", moves := 1, plain := true }), #[]⟩
noncomputable def o127v6 (P : Params) : Obj := ⟨(.type "list_iterator"), none, (.fields #[(.ref 125), (.int 6 0)]), #[]⟩
noncomputable def o126v7 (P : Params) : Obj := ⟨(.type "set"), none, (.set #[(917536, (.int 917536 483)), (917505, (.int 917505 477)), (917538, (.int 917538 485)), (917539, (.int 917539 486)), (917537, (.int 917537 484)), (917540, (.int 917540 487)), (917541, (.int 917541 488))] 8 { mask := 31, place := #[0, 1, 2, 3, 4, 5, 6], dummies := #[], finger := 0, led := !P.followText "set-order", moves := 1, plain := true }), #[]⟩
noncomputable def o127v7 (P : Params) : Obj := ⟨(.type "list_iterator"), none, (.fields #[(.ref 125), (.int 7 0)]), #[]⟩
noncomputable def o126v8 (P : Params) : Obj := ⟨(.type "set"), none, (.set #[(917536, (.int 917536 483)), (917505, (.int 917505 477)), (917538, (.int 917538 485)), (917539, (.int 917539 486)), (917537, (.int 917537 484)), (917540, (.int 917540 487)), (917541, (.int 917541 488)), (917542, (.int 917542 489))] 9 { mask := 31, place := #[0, 1, 2, 3, 4, 5, 6, 7], dummies := #[], finger := 0, led := !P.followText "set-order", moves := 1, plain := true }), #[]⟩
noncomputable def o127v8 (P : Params) : Obj := ⟨(.type "list_iterator"), none, (.fields #[(.ref 125), (.int 8 0)]), #[]⟩
noncomputable def o126v9 (P : Params) : Obj := ⟨(.type "set"), none, (.set #[(917536, (.int 917536 483)), (917505, (.int 917505 477)), (917538, (.int 917538 485)), (917539, (.int 917539 486)), (917537, (.int 917537 484)), (917540, (.int 917540 487)), (917541, (.int 917541 488)), (917542, (.int 917542 489)), (917543, (.int 917543 490))] 10 { mask := 31, place := #[0, 1, 2, 3, 4, 5, 6, 7, 8], dummies := #[], finger := 0, led := !P.followText "set-order", moves := 1, plain := true }), #[]⟩
noncomputable def o127v9 (P : Params) : Obj := ⟨(.type "list_iterator"), none, (.fields #[(.ref 125), (.int 9 0)]), #[]⟩
noncomputable def o126v10 (P : Params) : Obj := ⟨(.type "set"), none, (.set #[(917536, (.int 917536 483)), (917505, (.int 917505 477)), (917538, (.int 917538 485)), (917539, (.int 917539 486)), (917537, (.int 917537 484)), (917540, (.int 917540 487)), (917541, (.int 917541 488)), (917542, (.int 917542 489)), (917543, (.int 917543 490)), (917544, (.int 917544 491))] 11 { mask := 31, place := #[0, 1, 2, 3, 4, 5, 6, 7, 8, 9], dummies := #[], finger := 0, led := !P.followText "set-order", moves := 1, plain := true }), #[]⟩
noncomputable def o127v10 (P : Params) : Obj := ⟨(.type "list_iterator"), none, (.fields #[(.ref 125), (.int 10 0)]), #[]⟩
noncomputable def o126v11 (P : Params) : Obj := ⟨(.type "set"), none, (.set #[(917536, (.int 917536 483)), (917505, (.int 917505 477)), (917538, (.int 917538 485)), (917539, (.int 917539 486)), (917537, (.int 917537 484)), (917540, (.int 917540 487)), (917541, (.int 917541 488)), (917542, (.int 917542 489)), (917543, (.int 917543 490)), (917544, (.int 917544 491)), (917545, (.int 917545 492))] 12 { mask := 31, place := #[0, 1, 2, 3, 4, 5, 6, 7, 8, 9, 10], dummies := #[], finger := 0, led := !P.followText "set-order", moves := 1, plain := true }), #[]⟩
noncomputable def o127v11 (P : Params) : Obj := ⟨(.type "list_iterator"), none, (.fields #[(.ref 125), (.int 11 0)]), #[]⟩
noncomputable def o126v12 (P : Params) : Obj := ⟨(.type "set"), none, (.set #[(917536, (.int 917536 483)), (917505, (.int 917505 477)), (917538, (.int 917538 485)), (917539, (.int 917539 486)), (917537, (.int 917537 484)), (917540, (.int 917540 487)), (917541, (.int 917541 488)), (917542, (.int 917542 489)), (917543, (.int 917543 490)), (917544, (.int 917544 491)), (917545, (.int 917545 492)), (917546, (.int 917546 493))] 13 { mask := 31, place := #[0, 1, 2, 3, 4, 5, 6, 7, 8, 9, 10, 11], dummies := #[], finger := 0, led := !P.followText "set-order", moves := 1, plain := true }), #[]⟩
noncomputable def o127v12 (P : Params) : Obj := ⟨(.type "list_iterator"), none, (.fields #[(.ref 125), (.int 12 0)]), #[]⟩
noncomputable def o126v13 (P : Params) : Obj := ⟨(.type "set"), none, (.set #[(917536, (.int 917536 483)), (917505, (.int 917505 477)), (917538, (.int 917538 485)), (917539, (.int 917539 486)), (917537, (.int 917537 484)), (917540, (.int 917540 487)), (917541, (.int 917541 488)), (917542, (.int 917542 489)), (917543, (.int 917543 490)), (917544, (.int 917544 491)), (917545, (.int 917545 492)), (917546, (.int 917546 493)), (917547, (.int 917547 494))] 14 { mask := 31, place := #[0, 1, 2, 3, 4, 5, 6, 7, 8, 9, 10, 11, 12], dummies := #[], finger := 0, led := !P.followText "set-order", moves := 1, plain := true }), #[]⟩
noncomputable def o127v13 (P : Params) : Obj := ⟨(.type "list_iterator"), none, (.fields #[(.ref 125), (.int 13 0)]), #[]⟩
noncomputable def o126v14 (P : Params) : Obj := ⟨(.type "set"), none, (.set #[(917536, (.int 917536 483)), (917505, (.int 917505 477)), (917538, (.int 917538 485)), (917539, (.int 917539 486)), (917537, (.int 917537 484)), (917540, (.int 917540 487)), (917541, (.int 917541 488)), (917542, (.int 917542 489)), (917543, (.int 917543 490)), (917544, (.int 917544 491)), (917545, (.int 917545 492)), (917546, (.int 917546 493)), (917547, (.int 917547 494)), (917548, (.int 917548 495))] 15 { mask := 31, place := #[0, 1, 2, 3, 4, 5, 6, 7, 8, 9, 10, 11, 12, 13], dummies := #[], finger := 0, led := !P.followText "set-order", moves := 1, plain := true }), #[]⟩
noncomputable def o127v14 (P : Params) : Obj := ⟨(.type "list_iterator"), none, (.fields #[(.ref 125), (.int 14 0)]), #[]⟩
noncomputable def o126v15 (P : Params) : Obj := ⟨(.type "set"), none, (.set #[(917536, (.int 917536 483)), (917505, (.int 917505 477)), (917538, (.int 917538 485)), (917539, (.int 917539 486)), (917537, (.int 917537 484)), (917540, (.int 917540 487)), (917541, (.int 917541 488)), (917542, (.int 917542 489)), (917543, (.int 917543 490)), (917544, (.int 917544 491)), (917545, (.int 917545 492)), (917546, (.int 917546 493)), (917547, (.int 917547 494)), (917548, (.int 917548 495)), (917549, (.int 917549 496))] 16 { mask := 31, place := #[0, 1, 2, 3, 4, 5, 6, 7, 8, 9, 10, 11, 12, 13, 14], dummies := #[], finger := 0, led := !P.followText "set-order", moves := 1, plain := true }), #[]⟩
noncomputable def o127v15 (P : Params) : Obj := ⟨(.type "list_iterator"), none, (.fields #[(.ref 125), (.int 15 0)]), #[]⟩
noncomputable def o126v16 (P : Params) : Obj := ⟨(.type "set"), none, (.set #[(917536, (.int 917536 483)), (917505, (.int 917505 477)), (917538, (.int 917538 485)), (917539, (.int 917539 486)), (917537, (.int 917537 484)), (917540, (.int 917540 487)), (917541, (.int 917541 488)), (917542, (.int 917542 489)), (917543, (.int 917543 490)), (917544, (.int 917544 491)), (917545, (.int 917545 492)), (917546, (.int 917546 493)), (917547, (.int 917547 494)), (917548, (.int 917548 495)), (917549, (.int 917549 496)), (917550, (.int 917550 497))] 17 { mask := 31, place := #[0, 1, 2, 3, 4, 5, 6, 7, 8, 9, 10, 11, 12, 13, 14, 15], dummies := #[], finger := 0, led := !P.followText "set-order", moves := 1, plain := true }), #[]⟩
noncomputable def o127v16 (P : Params) : Obj := ⟨(.type "list_iterator"), none, (.fields #[(.ref 125), (.int 16 0)]), #[]⟩
noncomputable def o126v17 (P : Params) : Obj := ⟨(.type "set"), none, (.set #[(917536, (.int 917536 483)), (917505, (.int 917505 477)), (917538, (.int 917538 485)), (917539, (.int 917539 486)), (917537, (.int 917537 484)), (917540, (.int 917540 487)), (917541, (.int 917541 488)), (917542, (.int 917542 489)), (917543, (.int 917543 490)), (917544, (.int 917544 491)), (917545, (.int 917545 492)), (917546, (.int 917546 493)), (917547, (.int 917547 494)), (917548, (.int 917548 495)), (917549, (.int 917549 496)), (917550, (.int 917550 497)), (917551, (.int 917551 498))] 18 { mask := 31, place := #[0, 1, 2, 3, 4, 5, 6, 7, 8, 9, 10, 11, 12, 13, 14, 15, 16], dummies := #[], finger := 0, led := !P.followText "set-order", moves := 1, plain := true }), #[]⟩
noncomputable def o127v17 (P : Params) : Obj := ⟨(.type "list_iterator"), none, (.fields #[(.ref 125), (.int 17 0)]), #[]⟩
noncomputable def o126v18 (P : Params) : Obj := ⟨(.type "set"), none, (.set #[(917536, (.int 917536 483)), (917505, (.int 917505 477)), (917538, (.int 917538 485)), (917539, (.int 917539 486)), (917537, (.int 917537 484)), (917540, (.int 917540 487)), (917541, (.int 917541 488)), (917542, (.int 917542 489)), (917543, (.int 917543 490)), (917544, (.int 917544 491)), (917545, (.int 917545 492)), (917546, (.int 917546 493)), (917547, (.int 917547 494)), (917548, (.int 917548 495)), (917549, (.int 917549 496)), (917550, (.int 917550 497)), (917551, (.int 917551 498)), (917552, (.int 917552 499))] 19 { mask := 31, place := #[0, 1, 2, 3, 4, 5, 6, 7, 8, 9, 10, 11, 12, 13, 14, 15, 16, 17], dummies := #[], finger := 0, led := !P.followText "set-order", moves := 1, plain := true }), #[]⟩
noncomputable def o127v18 (P : Params) : Obj := ⟨(.type "list_iterator"), none, (.fields #[(.ref 125), (.int 18 0)]), #[]⟩
noncomputable def o126v19 (P : Params) : Obj := ⟨(.type "set"), none, (.set #[(917505, (.int 917505 477)), (917536, (.int 917536 483)), (917537, (.int 917537 484)), (917538, (.int 917538 485)), (917539, (.int 917539 486)), (917540, (.int 917540 487)), (917541, (.int 917541 488)), (917542, (.int 917542 489)), (917543, (.int 917543 490)), (917544, (.int 917544 491)), (917545, (.int 917545 492)), (917546, (.int 917546 493)), (917547, (.int 917547 494)), (917548, (.int 917548 495)), (917549, (.int 917549 496)), (917550, (.int 917550 497)), (917551, (.int 917551 498)), (917552, (.int 917552 499)), (917553, (.int 917553 500))] 21 { mask := 127, place := #[1, 32, 33, 34, 35, 36, 37, 38, 39, 40, 41, 42, 43, 44, 45, 46, 47, 48, 49], dummies := #[], finger := 0, led := !P.followText "set-order", moves := 2, plain := true }), #[]⟩
noncomputable def o127v19 (P : Params) : Obj := ⟨(.type "list_iterator"), none, (.fields #[(.ref 125), (.int 19 0)]), #[]⟩
noncomputable abbrev pa1 : Arguments := by
  refine pick (a := pars (stmOf pw 1)) ?_ ?_
  rotate_left 1
  conv => lhs; whnf
noncomputable abbrev bo1 : List Stmt := by
  refine pick (a := bodyS (stmOf pw 1)) ?_ ?_
  rotate_left 1
  conv => lhs; whnf
noncomputable abbrev sc1 : Scope := by
  refine pick (a := scopeS (stmOf pw 1)) ?_ ?_
  rotate_left 1
  conv => lhs; whnf
noncomputable abbrev pa4 : Arguments := by
  refine pick (a := pars (stmOf pw 4)) ?_ ?_
  rotate_left 1
  conv => lhs; whnf
noncomputable abbrev bo4 : List Stmt := by
  refine pick (a := bodyS (stmOf pw 4)) ?_ ?_
  rotate_left 1
  conv => lhs; whnf
noncomputable abbrev sc4 : Scope := by
  refine pick (a := scopeS (stmOf pw 4)) ?_ ?_
  rotate_left 1
  conv => lhs; whnf
noncomputable abbrev pa5 : Arguments := by
  refine pick (a := pars (stmOf pw 5)) ?_ ?_
  rotate_left 1
  conv => lhs; whnf
noncomputable abbrev bo5 : List Stmt := by
  refine pick (a := bodyS (stmOf pw 5)) ?_ ?_
  rotate_left 1
  conv => lhs; whnf
noncomputable abbrev sc5 : Scope := by
  refine pick (a := scopeS (stmOf pw 5)) ?_ ?_
  rotate_left 1
  conv => lhs; whnf
noncomputable abbrev pa6 : Arguments := by
  refine pick (a := pars (stmOf pw 6)) ?_ ?_
  rotate_left 1
  conv => lhs; whnf
noncomputable abbrev bo6 : List Stmt := by
  refine pick (a := bodyS (stmOf pw 6)) ?_ ?_
  rotate_left 1
  conv => lhs; whnf
noncomputable abbrev sc6 : Scope := by
  refine pick (a := scopeS (stmOf pw 6)) ?_ ?_
  rotate_left 1
  conv => lhs; whnf
noncomputable abbrev pa8 : Arguments := by
  refine pick (a := pars (stmOf pw 8)) ?_ ?_
  rotate_left 1
  conv => lhs; whnf
noncomputable abbrev bo8 : List Stmt := by
  refine pick (a := bodyS (stmOf pw 8)) ?_ ?_
  rotate_left 1
  conv => lhs; whnf
noncomputable abbrev sc8 : Scope := by
  refine pick (a := scopeS (stmOf pw 8)) ?_ ?_
  rotate_left 1
  conv => lhs; whnf
noncomputable abbrev pa10 : Arguments := by
  refine pick (a := pars (stmOf pw 10)) ?_ ?_
  rotate_left 1
  conv => lhs; whnf
noncomputable abbrev bo10 : List Stmt := by
  refine pick (a := bodyS (stmOf pw 10)) ?_ ?_
  rotate_left 1
  conv => lhs; whnf
noncomputable abbrev sc10 : Scope := by
  refine pick (a := scopeS (stmOf pw 10)) ?_ ?_
  rotate_left 1
  conv => lhs; whnf
noncomputable abbrev pa12 : Arguments := by
  refine pick (a := pars (stmOf pw 12)) ?_ ?_
  rotate_left 1
  conv => lhs; whnf
noncomputable abbrev bo12 : List Stmt := by
  refine pick (a := bodyS (stmOf pw 12)) ?_ ?_
  rotate_left 1
  conv => lhs; whnf
noncomputable abbrev sc12 : Scope := by
  refine pick (a := scopeS (stmOf pw 12)) ?_ ?_
  rotate_left 1
  conv => lhs; whnf
noncomputable abbrev pa14 : Arguments := by
  refine pick (a := pars (stmOf pw 14)) ?_ ?_
  rotate_left 1
  conv => lhs; whnf
noncomputable abbrev bo14 : List Stmt := by
  refine pick (a := bodyS (stmOf pw 14)) ?_ ?_
  rotate_left 1
  conv => lhs; whnf
noncomputable abbrev sc14 : Scope := by
  refine pick (a := scopeS (stmOf pw 14)) ?_ ?_
  rotate_left 1
  conv => lhs; whnf
noncomputable abbrev pa16 : Arguments := by
  refine pick (a := pars (stmOf pw 16)) ?_ ?_
  rotate_left 1
  conv => lhs; whnf
noncomputable abbrev bo16 : List Stmt := by
  refine pick (a := bodyS (stmOf pw 16)) ?_ ?_
  rotate_left 1
  conv => lhs; whnf
noncomputable abbrev sc16 : Scope := by
  refine pick (a := scopeS (stmOf pw 16)) ?_ ?_
  rotate_left 1
  conv => lhs; whnf
noncomputable abbrev pa17 : Arguments := by
  refine pick (a := pars (stmOf pw 17)) ?_ ?_
  rotate_left 1
  conv => lhs; whnf
noncomputable abbrev bo17 : List Stmt := by
  refine pick (a := bodyS (stmOf pw 17)) ?_ ?_
  rotate_left 1
  conv => lhs; whnf
noncomputable abbrev sc17 : Scope := by
  refine pick (a := scopeS (stmOf pw 17)) ?_ ?_
  rotate_left 1
  conv => lhs; whnf
noncomputable abbrev pa20 : Arguments := by
  refine pick (a := pars (stmOf pw 20)) ?_ ?_
  rotate_left 1
  conv => lhs; whnf
noncomputable abbrev bo20 : List Stmt := by
  refine pick (a := bodyS (stmOf pw 20)) ?_ ?_
  rotate_left 1
  conv => lhs; whnf
noncomputable abbrev sc20 : Scope := by
  refine pick (a := scopeS (stmOf pw 20)) ?_ ?_
  rotate_left 1
  conv => lhs; whnf
noncomputable abbrev pa21 : Arguments := by
  refine pick (a := pars (stmOf pw 21)) ?_ ?_
  rotate_left 1
  conv => lhs; whnf
noncomputable abbrev bo21 : List Stmt := by
  refine pick (a := bodyS (stmOf pw 21)) ?_ ?_
  rotate_left 1
  conv => lhs; whnf
noncomputable abbrev sc21 : Scope := by
  refine pick (a := scopeS (stmOf pw 21)) ?_ ?_
  rotate_left 1
  conv => lhs; whnf
noncomputable abbrev pa25_0 : Arguments := by
  refine pick (a := pars (mthOf pw 25 0)) ?_ ?_
  rotate_left 1
  conv => lhs; whnf
noncomputable abbrev bo25_0 : List Stmt := by
  refine pick (a := bodyS (mthOf pw 25 0)) ?_ ?_
  rotate_left 1
  conv => lhs; whnf
noncomputable abbrev sc25_0 : Scope := by
  refine pick (a := scopeS (mthOf pw 25 0)) ?_ ?_
  rotate_left 1
  conv => lhs; whnf
noncomputable abbrev pa25_1 : Arguments := by
  refine pick (a := pars (mthOf pw 25 1)) ?_ ?_
  rotate_left 1
  conv => lhs; whnf
noncomputable abbrev bo25_1 : List Stmt := by
  refine pick (a := bodyS (mthOf pw 25 1)) ?_ ?_
  rotate_left 1
  conv => lhs; whnf
noncomputable abbrev sc25_1 : Scope := by
  refine pick (a := scopeS (mthOf pw 25 1)) ?_ ?_
  rotate_left 1
  conv => lhs; whnf
noncomputable abbrev pa25_2 : Arguments := by
  refine pick (a := pars (mthOf pw 25 2)) ?_ ?_
  rotate_left 1
  conv => lhs; whnf
noncomputable abbrev bo25_2 : List Stmt := by
  refine pick (a := bodyS (mthOf pw 25 2)) ?_ ?_
  rotate_left 1
  conv => lhs; whnf
noncomputable abbrev sc25_2 : Scope := by
  refine pick (a := scopeS (mthOf pw 25 2)) ?_ ?_
  rotate_left 1
  conv => lhs; whnf
noncomputable abbrev pa25_3 : Arguments := by
  refine pick (a := pars (mthOf pw 25 3)) ?_ ?_
  rotate_left 1
  conv => lhs; whnf
noncomputable abbrev bo25_3 : List Stmt := by
  refine pick (a := bodyS (mthOf pw 25 3)) ?_ ?_
  rotate_left 1
  conv => lhs; whnf
noncomputable abbrev sc25_3 : Scope := by
  refine pick (a := scopeS (mthOf pw 25 3)) ?_ ?_
  rotate_left 1
  conv => lhs; whnf
noncomputable abbrev pa25_4 : Arguments := by
  refine pick (a := pars (mthOf pw 25 4)) ?_ ?_
  rotate_left 1
  conv => lhs; whnf
noncomputable abbrev bo25_4 : List Stmt := by
  refine pick (a := bodyS (mthOf pw 25 4)) ?_ ?_
  rotate_left 1
  conv => lhs; whnf
noncomputable abbrev sc25_4 : Scope := by
  refine pick (a := scopeS (mthOf pw 25 4)) ?_ ?_
  rotate_left 1
  conv => lhs; whnf
noncomputable abbrev pa25_5 : Arguments := by
  refine pick (a := pars (mthOf pw 25 5)) ?_ ?_
  rotate_left 1
  conv => lhs; whnf
noncomputable abbrev bo25_5 : List Stmt := by
  refine pick (a := bodyS (mthOf pw 25 5)) ?_ ?_
  rotate_left 1
  conv => lhs; whnf
noncomputable abbrev sc25_5 : Scope := by
  refine pick (a := scopeS (mthOf pw 25 5)) ?_ ?_
  rotate_left 1
  conv => lhs; whnf
noncomputable abbrev pa25_6 : Arguments := by
  refine pick (a := pars (mthOf pw 25 6)) ?_ ?_
  rotate_left 1
  conv => lhs; whnf
noncomputable abbrev bo25_6 : List Stmt := by
  refine pick (a := bodyS (mthOf pw 25 6)) ?_ ?_
  rotate_left 1
  conv => lhs; whnf
noncomputable abbrev sc25_6 : Scope := by
  refine pick (a := scopeS (mthOf pw 25 6)) ?_ ?_
  rotate_left 1
  conv => lhs; whnf
noncomputable abbrev pa25_7 : Arguments := by
  refine pick (a := pars (mthOf pw 25 7)) ?_ ?_
  rotate_left 1
  conv => lhs; whnf
noncomputable abbrev bo25_7 : List Stmt := by
  refine pick (a := bodyS (mthOf pw 25 7)) ?_ ?_
  rotate_left 1
  conv => lhs; whnf
noncomputable abbrev sc25_7 : Scope := by
  refine pick (a := scopeS (mthOf pw 25 7)) ?_ ?_
  rotate_left 1
  conv => lhs; whnf
noncomputable abbrev pa25_8 : Arguments := by
  refine pick (a := pars (mthOf pw 25 8)) ?_ ?_
  rotate_left 1
  conv => lhs; whnf
noncomputable abbrev bo25_8 : List Stmt := by
  refine pick (a := bodyS (mthOf pw 25 8)) ?_ ?_
  rotate_left 1
  conv => lhs; whnf
noncomputable abbrev sc25_8 : Scope := by
  refine pick (a := scopeS (mthOf pw 25 8)) ?_ ?_
  rotate_left 1
  conv => lhs; whnf
noncomputable abbrev pa25_9 : Arguments := by
  refine pick (a := pars (mthOf pw 25 9)) ?_ ?_
  rotate_left 1
  conv => lhs; whnf
noncomputable abbrev bo25_9 : List Stmt := by
  refine pick (a := bodyS (mthOf pw 25 9)) ?_ ?_
  rotate_left 1
  conv => lhs; whnf
noncomputable abbrev sc25_9 : Scope := by
  refine pick (a := scopeS (mthOf pw 25 9)) ?_ ?_
  rotate_left 1
  conv => lhs; whnf
noncomputable abbrev pa25_10 : Arguments := by
  refine pick (a := pars (mthOf pw 25 10)) ?_ ?_
  rotate_left 1
  conv => lhs; whnf
noncomputable abbrev bo25_10 : List Stmt := by
  refine pick (a := bodyS (mthOf pw 25 10)) ?_ ?_
  rotate_left 1
  conv => lhs; whnf
noncomputable abbrev sc25_10 : Scope := by
  refine pick (a := scopeS (mthOf pw 25 10)) ?_ ?_
  rotate_left 1
  conv => lhs; whnf
noncomputable abbrev pa25_11 : Arguments := by
  refine pick (a := pars (mthOf pw 25 11)) ?_ ?_
  rotate_left 1
  conv => lhs; whnf
noncomputable abbrev bo25_11 : List Stmt := by
  refine pick (a := bodyS (mthOf pw 25 11)) ?_ ?_
  rotate_left 1
  conv => lhs; whnf
noncomputable abbrev sc25_11 : Scope := by
  refine pick (a := scopeS (mthOf pw 25 11)) ?_ ?_
  rotate_left 1
  conv => lhs; whnf
noncomputable abbrev pa25_12 : Arguments := by
  refine pick (a := pars (mthOf pw 25 12)) ?_ ?_
  rotate_left 1
  conv => lhs; whnf
noncomputable abbrev bo25_12 : List Stmt := by
  refine pick (a := bodyS (mthOf pw 25 12)) ?_ ?_
  rotate_left 1
  conv => lhs; whnf
noncomputable abbrev sc25_12 : Scope := by
  refine pick (a := scopeS (mthOf pw 25 12)) ?_ ?_
  rotate_left 1
  conv => lhs; whnf
noncomputable abbrev pa25_13 : Arguments := by
  refine pick (a := pars (mthOf pw 25 13)) ?_ ?_
  rotate_left 1
  conv => lhs; whnf
noncomputable abbrev bo25_13 : List Stmt := by
  refine pick (a := bodyS (mthOf pw 25 13)) ?_ ?_
  rotate_left 1
  conv => lhs; whnf
noncomputable abbrev sc25_13 : Scope := by
  refine pick (a := scopeS (mthOf pw 25 13)) ?_ ?_
  rotate_left 1
  conv => lhs; whnf
noncomputable abbrev pa25_14 : Arguments := by
  refine pick (a := pars (mthOf pw 25 14)) ?_ ?_
  rotate_left 1
  conv => lhs; whnf
noncomputable abbrev bo25_14 : List Stmt := by
  refine pick (a := bodyS (mthOf pw 25 14)) ?_ ?_
  rotate_left 1
  conv => lhs; whnf
noncomputable abbrev sc25_14 : Scope := by
  refine pick (a := scopeS (mthOf pw 25 14)) ?_ ?_
  rotate_left 1
  conv => lhs; whnf
noncomputable abbrev pa25_15 : Arguments := by
  refine pick (a := pars (mthOf pw 25 15)) ?_ ?_
  rotate_left 1
  conv => lhs; whnf
noncomputable abbrev bo25_15 : List Stmt := by
  refine pick (a := bodyS (mthOf pw 25 15)) ?_ ?_
  rotate_left 1
  conv => lhs; whnf
noncomputable abbrev sc25_15 : Scope := by
  refine pick (a := scopeS (mthOf pw 25 15)) ?_ ?_
  rotate_left 1
  conv => lhs; whnf
noncomputable abbrev pa25_16 : Arguments := by
  refine pick (a := pars (mthOf pw 25 16)) ?_ ?_
  rotate_left 1
  conv => lhs; whnf
noncomputable abbrev bo25_16 : List Stmt := by
  refine pick (a := bodyS (mthOf pw 25 16)) ?_ ?_
  rotate_left 1
  conv => lhs; whnf
noncomputable abbrev sc25_16 : Scope := by
  refine pick (a := scopeS (mthOf pw 25 16)) ?_ ?_
  rotate_left 1
  conv => lhs; whnf
noncomputable abbrev pa27 : Arguments := by
  refine pick (a := pars (stmOf pw 27)) ?_ ?_
  rotate_left 1
  conv => lhs; whnf
noncomputable abbrev bo27 : List Stmt := by
  refine pick (a := bodyS (stmOf pw 27)) ?_ ?_
  rotate_left 1
  conv => lhs; whnf
noncomputable abbrev sc27 : Scope := by
  refine pick (a := scopeS (stmOf pw 27)) ?_ ?_
  rotate_left 1
  conv => lhs; whnf
noncomputable abbrev pa28 : Arguments := by
  refine pick (a := pars (stmOf pw 28)) ?_ ?_
  rotate_left 1
  conv => lhs; whnf
noncomputable abbrev bo28 : List Stmt := by
  refine pick (a := bodyS (stmOf pw 28)) ?_ ?_
  rotate_left 1
  conv => lhs; whnf
noncomputable abbrev sc28 : Scope := by
  refine pick (a := scopeS (stmOf pw 28)) ?_ ?_
  rotate_left 1
  conv => lhs; whnf
noncomputable abbrev pa29 : Arguments := by
  refine pick (a := pars (stmOf pw 29)) ?_ ?_
  rotate_left 1
  conv => lhs; whnf
noncomputable abbrev bo29 : List Stmt := by
  refine pick (a := bodyS (stmOf pw 29)) ?_ ?_
  rotate_left 1
  conv => lhs; whnf
noncomputable abbrev sc29 : Scope := by
  refine pick (a := scopeS (stmOf pw 29)) ?_ ?_
  rotate_left 1
  conv => lhs; whnf
noncomputable abbrev pa30 : Arguments := by
  refine pick (a := pars (stmOf pw 30)) ?_ ?_
  rotate_left 1
  conv => lhs; whnf
noncomputable abbrev bo30 : List Stmt := by
  refine pick (a := bodyS (stmOf pw 30)) ?_ ?_
  rotate_left 1
  conv => lhs; whnf
noncomputable abbrev sc30 : Scope := by
  refine pick (a := scopeS (stmOf pw 30)) ?_ ?_
  rotate_left 1
  conv => lhs; whnf
noncomputable abbrev pa31 : Arguments := by
  refine pick (a := pars (stmOf pw 31)) ?_ ?_
  rotate_left 1
  conv => lhs; whnf
noncomputable abbrev bo31 : List Stmt := by
  refine pick (a := bodyS (stmOf pw 31)) ?_ ?_
  rotate_left 1
  conv => lhs; whnf
noncomputable abbrev sc31 : Scope := by
  refine pick (a := scopeS (stmOf pw 31)) ?_ ?_
  rotate_left 1
  conv => lhs; whnf
noncomputable abbrev pa32 : Arguments := by
  refine pick (a := pars (stmOf pw 32)) ?_ ?_
  rotate_left 1
  conv => lhs; whnf
noncomputable abbrev bo32 : List Stmt := by
  refine pick (a := bodyS (stmOf pw 32)) ?_ ?_
  rotate_left 1
  conv => lhs; whnf
noncomputable abbrev sc32 : Scope := by
  refine pick (a := scopeS (stmOf pw 32)) ?_ ?_
  rotate_left 1
  conv => lhs; whnf
noncomputable abbrev pa33 : Arguments := by
  refine pick (a := pars (stmOf pw 33)) ?_ ?_
  rotate_left 1
  conv => lhs; whnf
noncomputable abbrev bo33 : List Stmt := by
  refine pick (a := bodyS (stmOf pw 33)) ?_ ?_
  rotate_left 1
  conv => lhs; whnf
noncomputable abbrev sc33 : Scope := by
  refine pick (a := scopeS (stmOf pw 33)) ?_ ?_
  rotate_left 1
  conv => lhs; whnf
noncomputable def myK (P : Params) : Frag :=
  (nat_lit 0, o0 P) ::
  (nat_lit 1, o1 P) ::
  (nat_lit 2, o2 P) ::
  (nat_lit 3, o3 P) ::
  (nat_lit 4, o4 P) ::
  (nat_lit 5, o5 P) ::
  (nat_lit 6, o6 P) ::
  (nat_lit 7, o7 P) ::
  (nat_lit 8, o8 P) ::
  (nat_lit 9, o9 P) ::
  (nat_lit 10, o10 P) ::
  (nat_lit 11, o11 P) ::
  (nat_lit 12, o12 P) ::
  (nat_lit 13, o13 P) ::
  (nat_lit 14, o14 P) ::
  (nat_lit 15, o15 P) ::
  (nat_lit 32, o32 P) ::
  (nat_lit 33, o33 P) ::
  (nat_lit 34, o34 P) ::
  (nat_lit 35, o35 P) ::
  (nat_lit 36, o36 pa1 bo1 sc1 P) ::
  (nat_lit 37, o37 P) ::
  (nat_lit 38, o38 pa1 bo1 sc1 P) ::
  (nat_lit 46, o46 P) ::
  (nat_lit 50, o50 P) ::
  (nat_lit 51, o51 P) ::
  (nat_lit 52, o52 P) ::
  (nat_lit 53, o53 P) ::
  (nat_lit 54, o54 pa4 bo4 sc4 P) ::
  (nat_lit 55, o55 P) ::
  (nat_lit 56, o56 pa4 bo4 sc4 P) ::
  (nat_lit 57, o57 P) ::
  (nat_lit 58, o58 P) ::
  (nat_lit 59, o59 P) ::
  (nat_lit 60, o60 P) ::
  (nat_lit 61, o61 pa5 bo5 sc5 P) ::
  (nat_lit 62, o62 P) ::
  (nat_lit 63, o63 pa5 bo5 sc5 P) ::
  (nat_lit 64, o64 P) ::
  (nat_lit 65, o65 P) ::
  (nat_lit 66, o66 P) ::
  (nat_lit 67, o67 P) ::
  (nat_lit 68, o68 pa6 bo6 sc6 P) ::
  (nat_lit 69, o69 P) ::
  (nat_lit 70, o70 pa6 bo6 sc6 P) ::
  (nat_lit 72, o72 P) ::
  (nat_lit 76, o76 P) ::
  (nat_lit 77, o77 P) ::
  (nat_lit 78, o78 P) ::
  (nat_lit 79, o79 P) ::
  (nat_lit 80, o80 pa8 bo8 sc8 P) ::
  (nat_lit 81, o81 P) ::
  (nat_lit 82, o82 pa8 bo8 sc8 P) ::
  (nat_lit 84, o84 P) ::
  (nat_lit 88, o88 P) ::
  (nat_lit 89, o89 P) ::
  (nat_lit 90, o90 P) ::
  (nat_lit 91, o91 P) ::
  (nat_lit 92, o92 pa10 bo10 sc10 P) ::
  (nat_lit 93, o93 P) ::
  (nat_lit 94, o94 pa10 bo10 sc10 P) ::
  (nat_lit 108, o108 P) ::
  (nat_lit 112, o112 P) ::
  (nat_lit 113, o113 P) ::
  (nat_lit 114, o114 P) ::
  (nat_lit 115, o115 P) ::
  (nat_lit 116, o116 pa12 bo12 sc12 P) ::
  (nat_lit 117, o117 P) ::
  (nat_lit 118, o118 pa12 bo12 sc12 P) ::
  (nat_lit 126, o126 P) ::
  (nat_lit 130, o130 P) ::
  (nat_lit 131, o131 P) ::
  (nat_lit 132, o132 P) ::
  (nat_lit 133, o133 P) ::
  (nat_lit 134, o134 pa14 bo14 sc14 P) ::
  (nat_lit 135, o135 P) ::
  (nat_lit 136, o136 pa14 bo14 sc14 P) ::
  (nat_lit 137, o137 P) ::
  (nat_lit 138, o138 P) ::
  (nat_lit 139, o139 P) ::
  (nat_lit 140, o140 P) ::
  (nat_lit 141, o141 pa16 bo16 sc16 P) ::
  (nat_lit 142, o142 P) ::
  (nat_lit 143, o143 pa16 bo16 sc16 P) ::
  (nat_lit 144, o144 P) ::
  (nat_lit 145, o145 P) ::
  (nat_lit 146, o146 P) ::
  (nat_lit 147, o147 P) ::
  (nat_lit 148, o148 pa17 bo17 sc17 P) ::
  (nat_lit 149, o149 P) ::
  (nat_lit 150, o150 pa17 bo17 sc17 P) ::
  (nat_lit 151, o151 P) ::
  (nat_lit 152, o152 P) ::
  (nat_lit 153, o153 P) ::
  (nat_lit 154, o154 P) ::
  (nat_lit 155, o155 P) ::
  (nat_lit 156, o156 pa20 bo20 sc20 P) ::
  (nat_lit 157, o157 P) ::
  (nat_lit 158, o158 pa20 bo20 sc20 P) ::
  (nat_lit 159, o159 P) ::
  (nat_lit 160, o160 P) ::
  (nat_lit 161, o161 P) ::
  (nat_lit 162, o162 P) ::
  (nat_lit 163, o163 pa21 bo21 sc21 P) ::
  (nat_lit 164, o164 P) ::
  (nat_lit 165, o165 pa21 bo21 sc21 P) ::
  (nat_lit 169, o169 P) ::
  (nat_lit 170, o170 P) ::
  (nat_lit 174, o174 P) ::
  (nat_lit 175, o175 P) ::
  (nat_lit 183, o183 P) ::
  (nat_lit 184, o184 P) ::
  (nat_lit 185, o185 P) ::
  (nat_lit 186, o186 P) ::
  (nat_lit 187, o187 P) ::
  (nat_lit 188, o188 pa25_0 bo25_0 sc25_0 P) ::
  (nat_lit 189, o189 P) ::
  (nat_lit 190, o190 pa25_0 bo25_0 sc25_0 P) ::
  (nat_lit 191, o191 P) ::
  (nat_lit 192, o192 P) ::
  (nat_lit 193, o193 P) ::
  (nat_lit 194, o194 P) ::
  (nat_lit 195, o195 pa25_1 bo25_1 sc25_1 P) ::
  (nat_lit 196, o196 P) ::
  (nat_lit 197, o197 pa25_1 bo25_1 sc25_1 P) ::
  (nat_lit 198, o198 P) ::
  (nat_lit 199, o199 P) ::
  (nat_lit 200, o200 P) ::
  (nat_lit 201, o201 P) ::
  (nat_lit 202, o202 pa25_2 bo25_2 sc25_2 P) ::
  (nat_lit 203, o203 P) ::
  (nat_lit 204, o204 pa25_2 bo25_2 sc25_2 P) ::
  (nat_lit 205, o205 P) ::
  (nat_lit 206, o206 P) ::
  (nat_lit 207, o207 P) ::
  (nat_lit 208, o208 P) ::
  (nat_lit 209, o209 pa25_3 bo25_3 sc25_3 P) ::
  (nat_lit 210, o210 P) ::
  (nat_lit 211, o211 pa25_3 bo25_3 sc25_3 P) ::
  (nat_lit 212, o212 P) ::
  (nat_lit 213, o213 P) ::
  (nat_lit 214, o214 pa25_4 bo25_4 sc25_4 P) ::
  (nat_lit 215, o215 P) ::
  (nat_lit 216, o216 pa25_4 bo25_4 sc25_4 P) ::
  (nat_lit 217, o217 P) ::
  (nat_lit 218, o218 P) ::
  (nat_lit 219, o219 P) ::
  (nat_lit 220, o220 P) ::
  (nat_lit 221, o221 pa25_5 bo25_5 sc25_5 P) ::
  (nat_lit 222, o222 P) ::
  (nat_lit 223, o223 pa25_5 bo25_5 sc25_5 P) ::
  (nat_lit 224, o224 P) ::
  (nat_lit 225, o225 P) ::
  (nat_lit 226, o226 P) ::
  (nat_lit 227, o227 P) ::
  (nat_lit 228, o228 pa25_6 bo25_6 sc25_6 P) ::
  (nat_lit 229, o229 P) ::
  (nat_lit 230, o230 pa25_6 bo25_6 sc25_6 P) ::
  (nat_lit 231, o231 P) ::
  (nat_lit 232, o232 P) ::
  (nat_lit 233, o233 P) ::
  (nat_lit 234, o234 P) ::
  (nat_lit 235, o235 pa25_7 bo25_7 sc25_7 P) ::
  (nat_lit 236, o236 P) ::
  (nat_lit 237, o237 pa25_7 bo25_7 sc25_7 P) ::
  (nat_lit 238, o238 P) ::
  (nat_lit 239, o239 P) ::
  (nat_lit 240, o240 P) ::
  (nat_lit 241, o241 P) ::
  (nat_lit 242, o242 P) ::
  (nat_lit 243, o243 pa25_8 bo25_8 sc25_8 P) ::
  (nat_lit 244, o244 P) ::
  (nat_lit 245, o245 pa25_8 bo25_8 sc25_8 P) ::
  (nat_lit 246, o246 P) ::
  (nat_lit 247, o247 P) ::
  (nat_lit 248, o248 pa25_9 bo25_9 sc25_9 P) ::
  (nat_lit 249, o249 P) ::
  (nat_lit 250, o250 pa25_9 bo25_9 sc25_9 P) ::
  (nat_lit 251, o251 P) ::
  (nat_lit 252, o252 P) ::
  (nat_lit 253, o253 pa25_10 bo25_10 sc25_10 P) ::
  (nat_lit 254, o254 P) ::
  (nat_lit 255, o255 pa25_10 bo25_10 sc25_10 P) ::
  (nat_lit 256, o256 P) ::
  (nat_lit 257, o257 P) ::
  (nat_lit 258, o258 P) ::
  (nat_lit 259, o259 P) ::
  (nat_lit 260, o260 pa25_11 bo25_11 sc25_11 P) ::
  (nat_lit 261, o261 P) ::
  (nat_lit 262, o262 pa25_11 bo25_11 sc25_11 P) ::
  (nat_lit 263, o263 P) ::
  (nat_lit 264, o264 P) ::
  (nat_lit 265, o265 P) ::
  (nat_lit 266, o266 P) ::
  (nat_lit 267, o267 pa25_12 bo25_12 sc25_12 P) ::
  (nat_lit 268, o268 P) ::
  (nat_lit 269, o269 pa25_12 bo25_12 sc25_12 P) ::
  (nat_lit 270, o270 P) ::
  (nat_lit 271, o271 P) ::
  (nat_lit 272, o272 pa25_13 bo25_13 sc25_13 P) ::
  (nat_lit 273, o273 P) ::
  (nat_lit 274, o274 pa25_13 bo25_13 sc25_13 P) ::
  (nat_lit 275, o275 P) ::
  (nat_lit 276, o276 P) ::
  (nat_lit 277, o277 P) ::
  (nat_lit 278, o278 P) ::
  (nat_lit 279, o279 pa25_14 bo25_14 sc25_14 P) ::
  (nat_lit 280, o280 P) ::
  (nat_lit 281, o281 pa25_14 bo25_14 sc25_14 P) ::
  (nat_lit 282, o282 P) ::
  (nat_lit 283, o283 P) ::
  (nat_lit 284, o284 P) ::
  (nat_lit 285, o285 P) ::
  (nat_lit 286, o286 pa25_15 bo25_15 sc25_15 P) ::
  (nat_lit 287, o287 P) ::
  (nat_lit 288, o288 pa25_15 bo25_15 sc25_15 P) ::
  (nat_lit 289, o289 P) ::
  (nat_lit 290, o290 P) ::
  (nat_lit 291, o291 P) ::
  (nat_lit 292, o292 P) ::
  (nat_lit 293, o293 pa25_16 bo25_16 sc25_16 P) ::
  (nat_lit 294, o294 P) ::
  (nat_lit 295, o295 pa25_16 bo25_16 sc25_16 P) ::
  (nat_lit 296, o296 P) ::
  (nat_lit 297, o297 P) ::
  (nat_lit 298, o298 P) ::
  (nat_lit 299, o299 P) ::
  (nat_lit 300, o300 P) ::
  (nat_lit 303, o303 P) ::
  (nat_lit 304, o304 P) ::
  (nat_lit 305, o305 pa27 bo27 sc27 P) ::
  (nat_lit 306, o306 P) ::
  (nat_lit 307, o307 pa27 bo27 sc27 P) ::
  (nat_lit 308, o308 P) ::
  (nat_lit 309, o309 P) ::
  (nat_lit 310, o310 P) ::
  (nat_lit 311, o311 P) ::
  (nat_lit 312, o312 pa28 bo28 sc28 P) ::
  (nat_lit 313, o313 P) ::
  (nat_lit 314, o314 pa28 bo28 sc28 P) ::
  (nat_lit 315, o315 P) ::
  (nat_lit 316, o316 P) ::
  (nat_lit 317, o317 pa29 bo29 sc29 P) ::
  (nat_lit 318, o318 P) ::
  (nat_lit 319, o319 pa29 bo29 sc29 P) ::
  (nat_lit 320, o320 P) ::
  (nat_lit 321, o321 P) ::
  (nat_lit 322, o322 P) ::
  (nat_lit 323, o323 P) ::
  (nat_lit 324, o324 pa30 bo30 sc30 P) ::
  (nat_lit 325, o325 P) ::
  (nat_lit 326, o326 pa30 bo30 sc30 P) ::
  (nat_lit 327, o327 P) ::
  (nat_lit 328, o328 P) ::
  (nat_lit 329, o329 P) ::
  (nat_lit 330, o330 P) ::
  (nat_lit 331, o331 pa31 bo31 sc31 P) ::
  (nat_lit 332, o332 P) ::
  (nat_lit 333, o333 pa31 bo31 sc31 P) ::
  (nat_lit 334, o334 P) ::
  (nat_lit 335, o335 P) ::
  (nat_lit 336, o336 pa32 bo32 sc32 P) ::
  (nat_lit 337, o337 P) ::
  (nat_lit 338, o338 pa32 bo32 sc32 P) ::
  (nat_lit 339, o339 P) ::
  (nat_lit 340, o340 P) ::
  (nat_lit 341, o341 pa33 bo33 sc33 P) ::
  (nat_lit 342, o342 P) ::
  (nat_lit 343, o343 pa33 bo33 sc33 P) :: []
noncomputable def myAs : List Addr := [0, 1, 2, 3, 4, 5, 6, 7, 8, 9, 10, 11, 12, 13, 14, 15, 32, 33, 34, 35, 36, 37, 38, 46, 50, 51, 52, 53, 54, 55, 56, 57, 58, 59, 60, 61, 62, 63, 64, 65, 66, 67, 68, 69, 70, 72, 76, 77, 78, 79, 80, 81, 82, 84, 88, 89, 90, 91, 92, 93, 94, 108, 112, 113, 114, 115, 116, 117, 118, 126, 130, 131, 132, 133, 134, 135, 136, 137, 138, 139, 140, 141, 142, 143, 144, 145, 146, 147, 148, 149, 150, 151, 152, 153, 154, 155, 156, 157, 158, 159, 160, 161, 162, 163, 164, 165, 169, 170, 174, 175, 183, 184, 185, 186, 187, 188, 189, 190, 191, 192, 193, 194, 195, 196, 197, 198, 199, 200, 201, 202, 203, 204, 205, 206, 207, 208, 209, 210, 211, 212, 213, 214, 215, 216, 217, 218, 219, 220, 221, 222, 223, 224, 225, 226, 227, 228, 229, 230, 231, 232, 233, 234, 235, 236, 237, 238, 239, 240, 241, 242, 243, 244, 245, 246, 247, 248, 249, 250, 251, 252, 253, 254, 255, 256, 257, 258, 259, 260, 261, 262, 263, 264, 265, 266, 267, 268, 269, 270, 271, 272, 273, 274, 275, 276, 277, 278, 279, 280, 281, 282, 283, 284, 285, 286, 287, 288, 289, 290, 291, 292, 293, 294, 295, 296, 297, 298, 299, 300, 303, 304, 305, 306, 307, 308, 309, 310, 311, 312, 313, 314, 315, 316, 317, 318, 319, 320, 321, 322, 323, 324, 325, 326, 327, 328, 329, 330, 331, 332, 333, 334, 335, 336, 337, 338, 339, 340, 341, 342, 343]
noncomputable def q : Program := view pw [0,  1,  3,  4,  5,  6,  7,  8,  9,  10,  11,  12,  13,  14,  16,  17,  19,  20,  21,  23,  24,  25,  27,  28,  29,  30,  31,  32,  33]
noncomputable def loose : List Str := ["b1_set", "c6_set", "c7_set", "c8_set", "c9_set", "COMPILER_FLAG_NAMES", "_name_disallowed_re", "_value_disallowed_re"]
theorem myAs_is (P : Params) : myAs = (myK P).map (·.1) := by kernel_rfl
noncomputable def TF (p : Program) (P : Params) : BT := (.node (o0 P) (.node (o1 P) (.node (o3 P) (.node (o7 P) (.node (o15 P) (.node (o31 P) (.node (o63 (pars (stmOf p 5)) (bodyS (stmOf p 5)) (scopeS (stmOf p 5)) P) (.node (o127 P) (.node (o255 (pars (mthOf p 25 10)) (bodyS (mthOf p 25 10)) (scopeS (mthOf p 25 10)) P) .nil .nil) .nil) (.node (o191 P) (.node (o319 (pars (stmOf p 29)) (bodyS (stmOf p 29)) (scopeS (stmOf p 29)) P) .nil .nil) .nil)) (.node (o95 P) (.node (o159 P) (.node (o287 P) .nil .nil) .nil) (.node (o223 (pars (mthOf p 25 5)) (bodyS (mthOf p 25 5)) (scopeS (mthOf p 25 5)) P) .nil .nil))) (.node (o47 P) (.node (o79 P) (.node (o143 (pars (stmOf p 16)) (bodyS (stmOf p 16)) (scopeS (stmOf p 16)) P) (.node (o271 P) .nil .nil) .nil) (.node (o207 P) (.node (o335 P) .nil .nil) .nil)) (.node (o111 P) (.node (o175 P) (.node (o303 P) .nil .nil) .nil) (.node (o239 P) .nil .nil)))) (.node (o23 P) (.node (o39 P) (.node (o71 P) (.node (o135 P) (.node (o263 P) .nil .nil) .nil) (.node (o199 P) (.node (o327 P) .nil .nil) .nil)) (.node (o103 P) (.node (o167 P) (.node (o295 (pars (mthOf p 25 16)) (bodyS (mthOf p 25 16)) (scopeS (mthOf p 25 16)) P) .nil .nil) .nil) (.node (o231 P) .nil .nil))) (.node (o55 P) (.node (o87 P) (.node (o151 P) (.node (o279 (pars (mthOf p 25 14)) (bodyS (mthOf p 25 14)) (scopeS (mthOf p 25 14)) P) .nil .nil) .nil) (.node (o215 P) (.node (o343 (pars (stmOf p 33)) (bodyS (stmOf p 33)) (scopeS (stmOf p 33)) P) .nil .nil) .nil)) (.node (o119 P) (.node (o183 P) (.node (o311 P) .nil .nil) .nil) (.node (o247 P) .nil .nil))))) (.node (o11 P) (.node (o19 P) (.node (o35 P) (.node (o67 P) (.node (o131 P) (.node (o259 P) .nil .nil) .nil) (.node (o195 (pars (mthOf p 25 1)) (bodyS (mthOf p 25 1)) (scopeS (mthOf p 25 1)) P) (.node (o323 P) .nil .nil) .nil)) (.node (o99 P) (.node (o163 (pars (stmOf p 21)) (bodyS (stmOf p 21)) (scopeS (stmOf p 21)) P) (.node (o291 P) .nil .nil) .nil) (.node (o227 P) .nil .nil))) (.node (o51 P) (.node (o83 P) (.node (o147 P) (.node (o275 P) .nil .nil) .nil) (.node (o211 (pars (mthOf p 25 3)) (bodyS (mthOf p 25 3)) (scopeS (mthOf p 25 3)) P) (.node (o339 P) .nil .nil) .nil)) (.node (o115 P) (.node (o179 P) (.node (o307 (pars (stmOf p 27)) (bodyS (stmOf p 27)) (scopeS (stmOf p 27)) P) .nil .nil) .nil) (.node (o243 (pars (mthOf p 25 8)) (bodyS (mthOf p 25 8)) (scopeS (mthOf p 25 8)) P) .nil .nil)))) (.node (o27 P) (.node (o43 P) (.node (o75 P) (.node (o139 P) (.node (o267 (pars (mthOf p 25 12)) (bodyS (mthOf p 25 12)) (scopeS (mthOf p 25 12)) P) .nil .nil) .nil) (.node (o203 P) (.node (o331 (pars (stmOf p 31)) (bodyS (stmOf p 31)) (scopeS (stmOf p 31)) P) .nil .nil) .nil)) (.node (o107 P) (.node (o171 P) (.node (o299 P) .nil .nil) .nil) (.node (o235 (pars (mthOf p 25 7)) (bodyS (mthOf p 25 7)) (scopeS (mthOf p 25 7)) P) .nil .nil))) (.node (o59 P) (.node (o91 P) (.node (o155 P) (.node (o283 P) .nil .nil) .nil) (.node (o219 P) .nil .nil)) (.node (o123 P) (.node (o187 P) (.node (o315 P) .nil .nil) .nil) (.node (o251 P) .nil .nil)))))) (.node (o5 P) (.node (o9 P) (.node (o17 P) (.node (o33 P) (.node (o65 P) (.node (o129 P) (.node (o257 P) .nil .nil) .nil) (.node (o193 P) (.node (o321 P) .nil .nil) .nil)) (.node (o97 P) (.node (o161 P) (.node (o289 P) .nil .nil) .nil) (.node (o225 P) .nil .nil))) (.node (o49 P) (.node (o81 P) (.node (o145 P) (.node (o273 P) .nil .nil) .nil) (.node (o209 (pars (mthOf p 25 3)) (bodyS (mthOf p 25 3)) (scopeS (mthOf p 25 3)) P) (.node (o337 P) .nil .nil) .nil)) (.node (o113 P) (.node (o177 P) (.node (o305 (pars (stmOf p 27)) (bodyS (stmOf p 27)) (scopeS (stmOf p 27)) P) .nil .nil) .nil) (.node (o241 P) .nil .nil)))) (.node (o25 P) (.node (o41 P) (.node (o73 P) (.node (o137 P) (.node (o265 P) .nil .nil) .nil) (.node (o201 P) (.node (o329 P) .nil .nil) .nil)) (.node (o105 P) (.node (o169 P) (.node (o297 P) .nil .nil) .nil) (.node (o233 P) .nil .nil))) (.node (o57 P) (.node (o89 P) (.node (o153 P) (.node (o281 (pars (mthOf p 25 14)) (bodyS (mthOf p 25 14)) (scopeS (mthOf p 25 14)) P) .nil .nil) .nil) (.node (o217 P) .nil .nil)) (.node (o121 P) (.node (o185 P) (.node (o313 P) .nil .nil) .nil) (.node (o249 P) .nil .nil))))) (.node (o13 P) (.node (o21 P) (.node (o37 P) (.node (o69 P) (.node (o133 P) (.node (o261 P) .nil .nil) .nil) (.node (o197 (pars (mthOf p 25 1)) (bodyS (mthOf p 25 1)) (scopeS (mthOf p 25 1)) P) (.node (o325 P) .nil .nil) .nil)) (.node (o101 P) (.node (o165 (pars (stmOf p 21)) (bodyS (stmOf p 21)) (scopeS (stmOf p 21)) P) (.node (o293 (pars (mthOf p 25 16)) (bodyS (mthOf p 25 16)) (scopeS (mthOf p 25 16)) P) .nil .nil) .nil) (.node (o229 P) .nil .nil))) (.node (o53 P) (.node (o85 P) (.node (o149 P) (.node (o277 P) .nil .nil) .nil) (.node (o213 P) (.node (o341 (pars (stmOf p 33)) (bodyS (stmOf p 33)) (scopeS (stmOf p 33)) P) .nil .nil) .nil)) (.node (o117 P) (.node (o181 P) (.node (o309 P) .nil .nil) .nil) (.node (o245 (pars (mthOf p 25 8)) (bodyS (mthOf p 25 8)) (scopeS (mthOf p 25 8)) P) .nil .nil)))) (.node (o29 P) (.node (o45 P) (.node (o77 P) (.node (o141 (pars (stmOf p 16)) (bodyS (stmOf p 16)) (scopeS (stmOf p 16)) P) (.node (o269 (pars (mthOf p 25 12)) (bodyS (mthOf p 25 12)) (scopeS (mthOf p 25 12)) P) .nil .nil) .nil) (.node (o205 P) (.node (o333 (pars (stmOf p 31)) (bodyS (stmOf p 31)) (scopeS (stmOf p 31)) P) .nil .nil) .nil)) (.node (o109 P) (.node (o173 P) (.node (o301 P) .nil .nil) .nil) (.node (o237 (pars (mthOf p 25 7)) (bodyS (mthOf p 25 7)) (scopeS (mthOf p 25 7)) P) .nil .nil))) (.node (o61 (pars (stmOf p 5)) (bodyS (stmOf p 5)) (scopeS (stmOf p 5)) P) (.node (o93 P) (.node (o157 P) (.node (o285 P) .nil .nil) .nil) (.node (o221 (pars (mthOf p 25 5)) (bodyS (mthOf p 25 5)) (scopeS (mthOf p 25 5)) P) .nil .nil)) (.node (o125 P) (.node (o189 P) (.node (o317 (pars (stmOf p 29)) (bodyS (stmOf p 29)) (scopeS (stmOf p 29)) P) .nil .nil) .nil) (.node (o253 (pars (mthOf p 25 10)) (bodyS (mthOf p 25 10)) (scopeS (mthOf p 25 10)) P) .nil .nil))))))) (.node (o2 P) (.node (o4 P) (.node (o8 P) (.node (o16 P) (.node (o32 P) (.node (o64 P) (.node (o128 P) (.node (o256 P) .nil .nil) .nil) (.node (o192 P) (.node (o320 P) .nil .nil) .nil)) (.node (o96 P) (.node (o160 P) (.node (o288 (pars (mthOf p 25 15)) (bodyS (mthOf p 25 15)) (scopeS (mthOf p 25 15)) P) .nil .nil) .nil) (.node (o224 P) .nil .nil))) (.node (o48 P) (.node (o80 (pars (stmOf p 8)) (bodyS (stmOf p 8)) (scopeS (stmOf p 8)) P) (.node (o144 P) (.node (o272 (pars (mthOf p 25 13)) (bodyS (mthOf p 25 13)) (scopeS (mthOf p 25 13)) P) .nil .nil) .nil) (.node (o208 P) (.node (o336 (pars (stmOf p 32)) (bodyS (stmOf p 32)) (scopeS (stmOf p 32)) P) .nil .nil) .nil)) (.node (o112 P) (.node (o176 P) (.node (o304 P) .nil .nil) .nil) (.node (o240 P) .nil .nil)))) (.node (o24 P) (.node (o40 P) (.node (o72 P) (.node (o136 (pars (stmOf p 14)) (bodyS (stmOf p 14)) (scopeS (stmOf p 14)) P) (.node (o264 P) .nil .nil) .nil) (.node (o200 P) (.node (o328 P) .nil .nil) .nil)) (.node (o104 P) (.node (o168 P) (.node (o296 P) .nil .nil) .nil) (.node (o232 P) .nil .nil))) (.node (o56 (pars (stmOf p 4)) (bodyS (stmOf p 4)) (scopeS (stmOf p 4)) P) (.node (o88 P) (.node (o152 P) (.node (o280 P) .nil .nil) .nil) (.node (o216 (pars (mthOf p 25 4)) (bodyS (mthOf p 25 4)) (scopeS (mthOf p 25 4)) P) .nil .nil)) (.node (o120 P) (.node (o184 P) (.node (o312 (pars (stmOf p 28)) (bodyS (stmOf p 28)) (scopeS (stmOf p 28)) P) .nil .nil) .nil) (.node (o248 (pars (mthOf p 25 9)) (bodyS (mthOf p 25 9)) (scopeS (mthOf p 25 9)) P) .nil .nil))))) (.node (o12 P) (.node (o20 P) (.node (o36 (pars (stmOf p 1)) (bodyS (stmOf p 1)) (scopeS (stmOf p 1)) P) (.node (o68 (pars (stmOf p 6)) (bodyS (stmOf p 6)) (scopeS (stmOf p 6)) P) (.node (o132 P) (.node (o260 (pars (mthOf p 25 11)) (bodyS (mthOf p 25 11)) (scopeS (mthOf p 25 11)) P) .nil .nil) .nil) (.node (o196 P) (.node (o324 (pars (stmOf p 30)) (bodyS (stmOf p 30)) (scopeS (stmOf p 30)) P) .nil .nil) .nil)) (.node (o100 P) (.node (o164 P) (.node (o292 P) .nil .nil) .nil) (.node (o228 (pars (mthOf p 25 6)) (bodyS (mthOf p 25 6)) (scopeS (mthOf p 25 6)) P) .nil .nil))) (.node (o52 P) (.node (o84 P) (.node (o148 (pars (stmOf p 17)) (bodyS (stmOf p 17)) (scopeS (stmOf p 17)) P) (.node (o276 P) .nil .nil) .nil) (.node (o212 P) (.node (o340 P) .nil .nil) .nil)) (.node (o116 (pars (stmOf p 12)) (bodyS (stmOf p 12)) (scopeS (stmOf p 12)) P) (.node (o180 P) (.node (o308 P) .nil .nil) .nil) (.node (o244 P) .nil .nil)))) (.node (o28 P) (.node (o44 P) (.node (o76 P) (.node (o140 P) (.node (o268 P) .nil .nil) .nil) (.node (o204 (pars (mthOf p 25 2)) (bodyS (mthOf p 25 2)) (scopeS (mthOf p 25 2)) P) (.node (o332 P) .nil .nil) .nil)) (.node (o108 P) (.node (o172 P) (.node (o300 P) .nil .nil) .nil) (.node (o236 P) .nil .nil))) (.node (o60 P) (.node (o92 (pars (stmOf p 10)) (bodyS (stmOf p 10)) (scopeS (stmOf p 10)) P) (.node (o156 (pars (stmOf p 20)) (bodyS (stmOf p 20)) (scopeS (stmOf p 20)) P) (.node (o284 P) .nil .nil) .nil) (.node (o220 P) .nil .nil)) (.node (o124 P) (.node (o188 (pars (mthOf p 25 0)) (bodyS (mthOf p 25 0)) (scopeS (mthOf p 25 0)) P) (.node (o316 P) .nil .nil) .nil) (.node (o252 P) .nil .nil)))))) (.node (o6 P) (.node (o10 P) (.node (o18 P) (.node (o34 P) (.node (o66 P) (.node (o130 P) (.node (o258 P) .nil .nil) .nil) (.node (o194 P) (.node (o322 P) .nil .nil) .nil)) (.node (o98 P) (.node (o162 P) (.node (o290 P) .nil .nil) .nil) (.node (o226 P) .nil .nil))) (.node (o50 P) (.node (o82 (pars (stmOf p 8)) (bodyS (stmOf p 8)) (scopeS (stmOf p 8)) P) (.node (o146 P) (.node (o274 (pars (mthOf p 25 13)) (bodyS (mthOf p 25 13)) (scopeS (mthOf p 25 13)) P) .nil .nil) .nil) (.node (o210 P) (.node (o338 (pars (stmOf p 32)) (bodyS (stmOf p 32)) (scopeS (stmOf p 32)) P) .nil .nil) .nil)) (.node (o114 P) (.node (o178 P) (.node (o306 P) .nil .nil) .nil) (.node (o242 P) .nil .nil)))) (.node (o26 P) (.node (o42 P) (.node (o74 P) (.node (o138 P) (.node (o266 P) .nil .nil) .nil) (.node (o202 (pars (mthOf p 25 2)) (bodyS (mthOf p 25 2)) (scopeS (mthOf p 25 2)) P) (.node (o330 P) .nil .nil) .nil)) (.node (o106 P) (.node (o170 P) (.node (o298 P) .nil .nil) .nil) (.node (o234 P) .nil .nil))) (.node (o58 P) (.node (o90 P) (.node (o154 P) (.node (o282 P) .nil .nil) .nil) (.node (o218 P) .nil .nil)) (.node (o122 P) (.node (o186 P) (.node (o314 (pars (stmOf p 28)) (bodyS (stmOf p 28)) (scopeS (stmOf p 28)) P) .nil .nil) .nil) (.node (o250 (pars (mthOf p 25 9)) (bodyS (mthOf p 25 9)) (scopeS (mthOf p 25 9)) P) .nil .nil))))) (.node (o14 P) (.node (o22 P) (.node (o38 (pars (stmOf p 1)) (bodyS (stmOf p 1)) (scopeS (stmOf p 1)) P) (.node (o70 (pars (stmOf p 6)) (bodyS (stmOf p 6)) (scopeS (stmOf p 6)) P) (.node (o134 (pars (stmOf p 14)) (bodyS (stmOf p 14)) (scopeS (stmOf p 14)) P) (.node (o262 (pars (mthOf p 25 11)) (bodyS (mthOf p 25 11)) (scopeS (mthOf p 25 11)) P) .nil .nil) .nil) (.node (o198 P) (.node (o326 (pars (stmOf p 30)) (bodyS (stmOf p 30)) (scopeS (stmOf p 30)) P) .nil .nil) .nil)) (.node (o102 P) (.node (o166 P) (.node (o294 P) .nil .nil) .nil) (.node (o230 (pars (mthOf p 25 6)) (bodyS (mthOf p 25 6)) (scopeS (mthOf p 25 6)) P) .nil .nil))) (.node (o54 (pars (stmOf p 4)) (bodyS (stmOf p 4)) (scopeS (stmOf p 4)) P) (.node (o86 P) (.node (o150 (pars (stmOf p 17)) (bodyS (stmOf p 17)) (scopeS (stmOf p 17)) P) (.node (o278 P) .nil .nil) .nil) (.node (o214 (pars (mthOf p 25 4)) (bodyS (mthOf p 25 4)) (scopeS (mthOf p 25 4)) P) (.node (o342 P) .nil .nil) .nil)) (.node (o118 (pars (stmOf p 12)) (bodyS (stmOf p 12)) (scopeS (stmOf p 12)) P) (.node (o182 P) (.node (o310 P) .nil .nil) .nil) (.node (o246 P) .nil .nil)))) (.node (o30 P) (.node (o46 P) (.node (o78 P) (.node (o142 P) (.node (o270 P) .nil .nil) .nil) (.node (o206 P) (.node (o334 P) .nil .nil) .nil)) (.node (o110 P) (.node (o174 P) (.node (o302 P) .nil .nil) .nil) (.node (o238 P) .nil .nil))) (.node (o62 P) (.node (o94 (pars (stmOf p 10)) (bodyS (stmOf p 10)) (scopeS (stmOf p 10)) P) (.node (o158 (pars (stmOf p 20)) (bodyS (stmOf p 20)) (scopeS (stmOf p 20)) P) (.node (o286 (pars (mthOf p 25 15)) (bodyS (mthOf p 25 15)) (scopeS (mthOf p 25 15)) P) .nil .nil) .nil) (.node (o222 P) .nil .nil)) (.node (o126 P) (.node (o190 (pars (mthOf p 25 0)) (bodyS (mthOf p 25 0)) (scopeS (mthOf p 25 0)) P) (.node (o318 P) .nil .nil) .nil) (.node (o254 P) .nil .nil))))))))
noncomputable def Tr (p : Program) (a3 a29 : Params → Obj) (P : Params) : BT := ((TF p P).set 3 fun _ => a3 P).set 29 fun _ => a29 P
noncomputable def envOn (p : Program) : Env := { scope := p.main.scope, locals := mainNs, globals := mainNs, cells := [], code := .ref 30, frame := some 31 }
noncomputable def codeOn (p : Program) : Code := .body (behindTheImports p) (envOn p)
noncomputable def q0 : Pos := ⟨0, 0, 0, 0⟩
end
section
noncomputable def pwT : Program := pw
theorem tePw : pw = pwT := rfl
theorem teSeg : @segRunT = @PySem.W.Fast.tw10110043849684766642 := PySem.W.Fast.te10110043849684766642
theorem teTab : treeTable = PySem.W.Fast.tw14364793385576792824 := PySem.W.Fast.te14364793385576792824
theorem teEx : @execs = @PySem.W.Fast.tw12563942051412417395 := PySem.W.Fast.te12563942051412417395
theorem teGo : @segGoT = @PySem.W.Fast.tw10295753902157049106 := PySem.W.Fast.te10295753902157049106
noncomputable abbrev Piece (sr : (String → Option Builtin) → Program → World → Nat → Option Value → Nat → Nat → SharedT → Thread → Option (Flow × SharedT × Code × Pos)) (tb : String → Option Builtin) (ex : List Stmt → Env → Sem Flow) (p : Program) (i N : Nat) (a3 a29 : Params → Obj) (n toks : Nat) (pos : Pos) (b3 b29 : Params → Obj) (n' toks' : Nat) (pos' : Pos) (w : World) : Prop :=
  ∀ os : OsState, sr tb p w 28 (some (.ref 6)) 1 N ⟨Tr p a3 a29 w.params, n, {}, #[], {}, toks, os⟩ (⟨(ex [stmOf p i] (envOn p)).wrap doneF deadEnd id id, codeOn p, pos, [topFrame q0]⟩ : Thread) = some (.next, ⟨Tr p b3 b29 w.params, n', {}, #[], {}, toks', os⟩, codeOn p, pos')
theorem Piece.twin {i N : Nat} {a3 a29 : Params → Obj} {n toks : Nat} {pos : Pos} {b3 b29 : Params → Obj} {n' toks' : Nat} {pos' : Pos} {w : World}
    (h : Piece @PySem.W.Fast.tw10110043849684766642 PySem.W.Fast.tw14364793385576792824 @PySem.W.Fast.tw12563942051412417395 pwT i N a3 a29 n toks pos b3 b29 n' toks' pos' w) :
    Piece @segRunT treeTable @execs pw i N a3 a29 n toks pos b3 b29 n' toks' pos' w := by
  rw [tePw, teSeg, teTab, teEx]
  exact h
section
variable {tb : String → Option Builtin} {p : Program} {w : World} {n₀ : Nat} {ann : Option Value} {b : Nat}
theorem segT_run : ∀ {n N : Nat} {s s' : SharedT} {t t' : Thread} {r : Flow × SharedT × Code × Pos}, segGoT tb p w n₀ ann b n s t = some (s', t') → segRunT tb p w n₀ ann b N s' t' = some r → segRunT tb p w n₀ ann b (n + N) s t = some r
  | 0, N, s, s', t, t', r, h, k => by
    obtain ⟨rfl, rfl⟩ : s = s' ∧ t = t' := by simpa [segGoT] using h
    rw [Nat.zero_add]; exact k
  | n + 1, N, s, s', t, t', r, h, k => by
    rw [show n + 1 + N = n + N + 1 by omega]
    unfold segGoT at h
    unfold segRunT
    cases he : endAt b t with
    | some f => rw [he] at h; cases h
    | none =>
      rw [he] at h
      cases hk : stepOk n₀ ann t with
      | false => rw [hk] at h; cases h
      | true =>
        rw [hk] at h
        cases hs : stepT (denote tb) p w s t with
        | none => rw [hs] at h; cases h
        | some x => obtain ⟨s₂, t₂⟩ := x; rw [hs] at h; exact segT_run h k
theorem segT_go : ∀ {n N : Nat} {s s' : SharedT} {t t' : Thread} {r : SharedT × Thread}, segGoT tb p w n₀ ann b n s t = some (s', t') → segGoT tb p w n₀ ann b N s' t' = some r → segGoT tb p w n₀ ann b (n + N) s t = some r
  | 0, N, s, s', t, t', r, h, k => by
    obtain ⟨rfl, rfl⟩ : s = s' ∧ t = t' := by simpa [segGoT] using h
    rw [Nat.zero_add]; exact k
  | n + 1, N, s, s', t, t', r, h, k => by
    rw [show n + 1 + N = n + N + 1 by omega]
    unfold segGoT at h ⊢
    cases he : endAt b t with
    | some f => rw [he] at h; cases h
    | none =>
      rw [he] at h
      cases hk : stepOk n₀ ann t with
      | false => rw [hk] at h; cases h
      | true =>
        rw [hk] at h
        cases hs : stepT (denote tb) p w s t with
        | none => rw [hs] at h; cases h
        | some x => obtain ⟨s₂, t₂⟩ := x; rw [hs] at h; exact segT_go h k
theorem tGo_run {n N : Nat} {s s' : SharedT} {t t' : Thread} {r : Flow × SharedT × Code × Pos} (h : @PySem.W.Fast.tw10295753902157049106 tb p w n₀ ann b n s t = some (s', t')) (k : @PySem.W.Fast.tw10110043849684766642 tb p w n₀ ann b N s' t' = some r) : @PySem.W.Fast.tw10110043849684766642 tb p w n₀ ann b (n + N) s t = some r := by
  rw [← teGo] at h
  rw [← teSeg] at k ⊢
  exact segT_run h k
theorem tGo_go {n N : Nat} {s s' : SharedT} {t t' : Thread} {r : SharedT × Thread} (h : @PySem.W.Fast.tw10295753902157049106 tb p w n₀ ann b n s t = some (s', t')) (k : @PySem.W.Fast.tw10295753902157049106 tb p w n₀ ann b N s' t' = some r) : @PySem.W.Fast.tw10295753902157049106 tb p w n₀ ann b (n + N) s t = some r := by
  rw [← teGo] at h k ⊢
  exact segT_go h k
end
theorem blt_if {α : Type} (a b : Nat) (x y : α) : (if a < b then x else y) = match Nat.blt a b with | true => x | false => y := by
  by_cases h : a < b
  · rw [if_pos h, show Nat.blt a b = true from Nat.ble_eq_true_of_le h]
  · rw [if_neg h]
    cases q : Nat.blt a b with
    | true => exact absurd (Nat.le_of_ble_eq_true q) h
    | false => rfl
noncomputable def byScanF (x : Value) (es : Array (Int × Value)) : Bool := x.scannable && Nat.blt es.toList.length scanBound && es.toList.all fun e => e.2.scannable
theorem byScanF_eq : byScan = byScanF := by
  funext x es
  have e : decide (es.size < scanBound) = Nat.blt es.toList.length scanBound := by
    rw [Array.length_toList]
    by_cases h : es.size < scanBound
    · rw [decide_eq_true h, show Nat.blt es.size scanBound = true from Nat.ble_eq_true_of_le h]
    · rw [decide_eq_false h]
      cases q : Nat.blt es.size scanBound with
      | true => exact absurd (Nat.le_of_ble_eq_true q) h
      | false => rfl
  unfold byScan byScanF
  rw [← e, Array.all_toList]
noncomputable def qGetF (d : Nat) (l : List Nat) (i : Nat) : Nat := match l, i with
  | [], _ => d
  | x :: _, 0 => x
  | _ :: r, i + 1 => qGetF d r i
theorem qGetF_eq (xs : Array Nat) (i d : Nat) : xs.getD i d = qGetF d xs.toList i := by
  obtain ⟨l⟩ := xs
  show (if h : i < l.length then l[i] else d) = qGetF d l i
  induction l generalizing i with
  | nil => simp [qGetF]
  | cons x r ih =>
    cases i with
    | zero => simp [qGetF]
    | succ i => simpa [qGetF] using ih i
noncomputable def belowGo (l : List Nat) (j : Nat) : Nat → Nat → Nat → Nat
  | 0, lo, _ => lo
  | fuel + 1, lo, hi => match Nat.blt lo hi with
    | true => match Nat.blt (qGetF j l ((lo + hi) / 2)) j with
      | true => belowGo l j fuel ((lo + hi) / 2 + 1) hi
      | false => belowGo l j fuel lo ((lo + hi) / 2)
    | false => lo
theorem belowGo_eq (xs : Array Nat) (j : Nat) : ∀ (fuel lo hi : Nat), SetTable.below.go xs j fuel lo hi = belowGo xs.toList j fuel lo hi
  | 0, _, _ => rfl
  | fuel + 1, lo, hi => by
    unfold SetTable.below.go belowGo
    rw [blt_if]
    cases Nat.blt lo hi with
    | false => rfl
    | true =>
      dsimp only
      rw [qGetF_eq, blt_if, belowGo_eq xs j fuel, belowGo_eq xs j fuel]
noncomputable def belowF (xs : Array Nat) (j : Nat) : Nat := belowGo xs.toList j xs.toList.length 0 xs.toList.length
theorem belowF_eq : SetTable.below = belowF := by
  funext xs j
  unfold SetTable.below belowF
  rw [belowGo_eq]
  rfl
noncomputable def insL {α : Type} (x : α) (l : List α) : Nat → List α := @List.rec α (fun _ => Nat → List α) (fun _ => [x]) (fun a r ih p => @Nat.rec (fun _ => List α) (x :: a :: r) (fun q _ => a :: ih q) p) l
theorem insL_eq {α : Type} (x : α) : ∀ (l : List α) (p : Nat), insL x l p = l.take p ++ x :: l.drop p
  | [], p => by simp [insL]
  | a :: r, 0 => rfl
  | a :: r, p + 1 => by
    show a :: insL x r p = _
    rw [insL_eq x r p]
    rfl
noncomputable def insF (α : Type) (xs : Array α) (p : Nat) (x : α) : Array α := ⟨insL x xs.toList p⟩
theorem insF_eq : @SetTable.insertAt = @insF := by
  funext α xs p x
  apply Array.ext'
  simp [SetTable.insertAt, insF, insL_eq, List.take_of_length_le]
noncomputable def hasP : { f // @SetTable.has = f } := by
  refine ⟨?_, ?_⟩
  rotate_left 1
  delta SetTable.has
  rw [belowF_eq]
noncomputable def slotP : { f // @SetTable.slot = f } := by
  refine ⟨?_, ?_⟩
  rotate_left 1
  delta SetTable.slot
  rw [belowF_eq, hasP.2]
noncomputable def goFP : { f // @SetTable.probe.go._f = f } := by
  refine ⟨?_, ?_⟩
  rotate_left 1
  delta SetTable.probe.go._f
  rw [slotP.2]
noncomputable def goP : { f // @SetTable.probe.go = f } := by
  refine ⟨?_, ?_⟩
  rotate_left 1
  delta SetTable.probe.go
  rw [goFP.2]
noncomputable def probeP : { f // @SetTable.probe = f } := by
  refine ⟨?_, ?_⟩
  rotate_left 1
  delta SetTable.probe
  rw [goP.2]
noncomputable def freeSlotP : { f // @SetTable.freeSlot = f } := by
  refine ⟨?_, ?_⟩
  rotate_left 1
  delta SetTable.freeSlot
  rw [probeP.2]
noncomputable def putP : { f // @SetTable.put = f } := by
  refine ⟨?_, ?_⟩
  rotate_left 1
  delta SetTable.put
  rw [belowF_eq, insF_eq]
theorem twPut : PySem.W.Fast.tw12466709759006461402 = putP.1 := PySem.W.Fast.te12466709759006461402.symm.trans putP.2
theorem twIns : @PySem.W.Fast.tw6250550593420942560 = @insF := (@PySem.W.Fast.te6250550593420942560).symm.trans insF_eq
noncomputable def layNewP : { f // @PySem.W.Fast.tw89073463820356996 = f } := by
  refine ⟨?_, ?_⟩
  rotate_left 1
  delta PySem.W.Fast.tw89073463820356996
  rw [freeSlotP.2, twPut, twIns]
noncomputable def c9l (k : Nat) : Nat → List (Int × Value) := @Nat.rec (fun _ => Nat → List (Int × Value)) (fun _ => []) (fun _ ih j => (Int.ofNat (917536 + j), .int (Int.ofNat (917536 + j)) (483 + j)) :: ih (j + 1)) k
noncomputable def c9p (k : Nat) : Nat → List Nat := @Nat.rec (fun _ => Nat → List Nat) (fun _ => []) (fun _ ih j => j :: ih (j + 1)) k
noncomputable def c9o (k mask moves ep : Nat) (P : Params) : Obj := ⟨.type "set", none, .set ⟨(917505, .int 917505 477) :: c9l (k - 1) 0⟩ ep { mask := mask, place := ⟨1 :: c9p (k - 1) 32⟩, dummies := ⟨[]⟩, finger := 0, led := !P.followText "set-order", moves := moves, plain := true }, #[]⟩
noncomputable def c9it (k : Nat) (P : Params) : Obj := ⟨.type "list_iterator", none, .fields #[.ref 125, .int (Int.ofNat k) 0], #[]⟩
noncomputable def fN (n : Nat) : Nat := match n with | 0 => 0 | k + 1 => k + 1
theorem fN_eq (n : Nat) : fN n = n := by cases n <;> rfl
noncomputable def fI (i : Int) : Int := match i with | .ofNat n => .ofNat (fN n) | .negSucc n => .negSucc (fN n)
theorem fI_eq (i : Int) : fI i = i := by cases i <;> simp [fI, fN_eq]
noncomputable def fV (v : Value) : Value := match v with | .int i t => .int (fI i) (fN t) | x => x
theorem fV_eq (v : Value) : fV v = v := by cases v <;> simp [fV, fN_eq, fI_eq]
noncomputable def fL (l : List Nat) : List Nat := @List.rec Nat (fun _ => List Nat) [] (fun a _ ih => fN a :: ih) l
theorem fL_eq : ∀ l, fL l = l
  | [] => rfl
  | a :: l => by
    show fN a :: fL l = _
    rw [fN_eq, fL_eq l]
noncomputable def fE (l : List (Int × Value)) : List (Int × Value) := @List.rec (Int × Value) (fun _ => List (Int × Value)) [] (fun a _ ih => (fI a.1, fV a.2) :: ih) l
theorem fE_eq : ∀ l, fE l = l
  | [] => rfl
  | (h, x) :: l => by
    show (fI h, fV x) :: fE l = _
    rw [fI_eq, fV_eq, fE_eq l]
noncomputable def fT (t : SetTable) : SetTable := match t with | ⟨m, p, d, f, l, mv, pl⟩ => ⟨fN m, ⟨fL p.toList⟩, ⟨fL d.toList⟩, fN f, l, fN mv, pl⟩
theorem fT_eq (t : SetTable) : fT t = t := by cases t; simp [fT, fN_eq, fL_eq]
noncomputable def fD (d : Data) : Data := match d with | .set es n t => .set ⟨fE es.toList⟩ (fN n) (fT t) | x => x
theorem fD_eq (d : Data) : fD d = d := by cases d <;> simp [fD, fN_eq, fE_eq, fT_eq]
noncomputable def fO (o : Obj) : Obj := match o with | ⟨c, d, x, s⟩ => ⟨c, d, fD x, s⟩
theorem fO_eq (o : Obj) : fO o = o := by cases o; simp [fO, fD_eq]
theorem setSame : ∀ (t : BT) (i : Nat), t.set i fO = t
  | .nil, _ => rfl
  | .node v l r, i => by
    rw [BT.set_node, fO_eq, setSame l, setSame r]
    split <;> first | rfl | (split <;> rfl)
noncomputable def fS (s : SharedT) : SharedT := match s with | ⟨tr, n, l, g, d, tk, os⟩ => ⟨tr.set 126 fO, n, l, g, d, fN tk, os⟩
theorem fS_eq (s : SharedT) : fS s = s := by cases s; simp [fS, fN_eq, setSame]
noncomputable def fR (r : Option (SharedT × Thread)) : Option (SharedT × Thread) := match r with
  | some (s, t) => some (fS s, t)
  | none => none
theorem fR_eq (r : Option (SharedT × Thread)) : fR r = r := by rcases r with _ | ⟨s, t⟩ <;> simp [fR, fS_eq]
noncomputable def okL (l : List (Int × Value)) : Nat → Bool := @List.rec (Int × Value) (fun _ => Nat → Bool) (fun n => Nat.beq n 917612) (fun e _ ih n => match e.1 with
  | .ofNat m => and (Nat.beq m n) (ih (n + 1))
  | .negSucc _ => false) l
theorem okL_is : ∀ (l : List (Int × Value)) (n : Nat), okL l n = true → n + l.length = 917612 ∧ l.map (·.1) = (List.range' n l.length).map Int.ofNat
  | [], n, h => ⟨Nat.eq_of_beq_eq_true h, rfl⟩
  | (.ofNat m, x) :: r, n, h => by
    have h : (Nat.beq m n && okL r (n + 1)) = true := h
    rw [Bool.and_eq_true] at h
    obtain ⟨a, b⟩ := okL_is r (n + 1) h.2
    have e := Nat.eq_of_beq_eq_true h.1
    subst e
    refine ⟨by simp only [List.length_cons]; omega, ?_⟩
    simp only [List.map_cons, List.length_cons, List.range'_succ, b]
  | (.negSucc m, x) :: r, n, h => by
    have h : false = true := h
    cases h
noncomputable def hs77 : List Int := .ofNat 917505 :: (List.range' 917536 76).map Int.ofNat
noncomputable def known (t : SetTable) (es : Array (Int × Value)) (wanted : Nat) : Bool := and (Nat.beq t.mask 127) (and (Nat.beq wanted 308) (match es.toList with
  | [] => false
  | e :: r => match e.1 with
    | .ofNat m => and (Nat.beq m 917505) (okL r 917536)
    | .negSucc _ => false))
theorem known_is {t : SetTable} {es : Array (Int × Value)} {wanted : Nat} (h : known t es wanted = true) : t.mask = 127 ∧ wanted = 308 ∧ es.map (·.1) = ⟨hs77⟩ := by
  obtain ⟨l⟩ := es
  unfold known at h
  simp only [Bool.and_eq_true] at h
  obtain ⟨a, b, c⟩ := h
  refine ⟨Nat.eq_of_beq_eq_true a, Nat.eq_of_beq_eq_true b, ?_⟩
  match l, c with
  | (.ofNat m, x) :: r, c =>
    have c : (Nat.beq m 917505 && okL r 917536) = true := c
    rw [Bool.and_eq_true] at c
    obtain ⟨c1, c2⟩ := okL_is r _ c.2
    have e := Nat.eq_of_beq_eq_true c.1
    subst e
    have e : r.length = 76 := by omega
    apply Array.ext'
    simp only [Array.toList_map, List.map_cons, c2, e]
    rfl
  | (.negSucc m, x) :: r, c =>
    have c : false = true := c
    cases c
noncomputable def pl77 : List Nat := 1 :: List.range' 32 76
noncomputable def live77 : List (Nat × Nat) := (1, 0) :: (List.range' 0 76).map fun (j : Nat) => (32 + j, j + 1)
theorem fm_congr {α β : Type} {f g : α → Option β} : ∀ {l : List α}, (∀ x ∈ l, f x = g x) → l.filterMap f = l.filterMap g
  | [], _ => rfl
  | a :: l, h => by
    rw [List.filterMap_cons, List.filterMap_cons, h a (.head _), fm_congr fun x hx => h x (.tail _ hx)]
theorem live_zip : ∀ (l : List (Option Nat)) (i : Nat), (List.range' i l.length).filterMap (fun j => ((l[j - i]?).getD none).map (j, ·)) = (l.zipIdx i).filterMap fun p => p.1.map fun k => (p.2, k)
  | [], _ => rfl
  | a :: l, i => by
    rw [List.length_cons, List.range'_succ, List.filterMap_cons, List.zipIdx_cons, List.filterMap_cons, ← live_zip l (i + 1)]
    have e : (List.range' (i + 1) l.length).filterMap (fun j => (((a :: l)[j - i]?).getD none).map (j, ·)) = (List.range' (i + 1) l.length).filterMap fun j => ((l[j - (i + 1)]?).getD none).map (j, ·) := by
      refine fm_congr fun j hj => ?_
      have h := (List.mem_range'_1.mp hj).1
      rw [show j - i = (j - (i + 1)) + 1 by omega, List.getElem?_cons_succ]
    rw [e, Nat.sub_self, List.getElem?_cons_zero]
    rfl
theorem live_of {o : Array (Option Nat)} {n : Nat} (h : o.size = n) : (List.range n).filterMap (fun j => (o.getD j none).map (j, ·)) = o.toList.zipIdx.filterMap fun p => p.1.map fun k => (p.2, k) := by
  subst h
  have e := live_zip o.toList 0
  rw [← e, List.range_eq_range', Array.length_toList]
  refine fm_congr fun j _ => ?_
  rw [Nat.sub_zero, Array.getElem?_toList, Array.getD_eq_getD_getElem?]
theorem live_is : ((SetTable.layClean 511 ⟨hs77⟩).map fun o => (o.size, o.toList.zipIdx.filterMap fun p => p.1.map fun k => (p.2, k))) = some (512, live77) := by decide +kernel
noncomputable def tab77 (t : SetTable) : SetTable := { mask := 511, place := ⟨pl77⟩, dummies := #[], finger := t.finger, led := t.led, moves := t.movedTo 511, plain := t.plain }
theorem laid77 (f m : Nat) (a b : Bool) : SetTable.laid 511 f m a b ⟨hs77⟩ = some ({ mask := 511, place := ⟨pl77⟩, dummies := #[], finger := f, led := a, moves := m, plain := b }, Array.range 77) := by
  have h := live_is
  unfold SetTable.laid
  cases e : SetTable.layClean 511 ⟨hs77⟩ with
  | none => rw [e] at h; cases h
  | some owner =>
    rw [e] at h
    have h := Option.some.inj h
    have h := (live_of (congrArg (·.1) h)).trans (congrArg (·.2) h)
    have h : ((List.range 512).filterMap fun j => (owner.getD j none).map (j, ·)) = live77 := h
    show some (_, _) = _
    rw [h]
    rfl
theorem range_self {α : Type} (es : Array α) : (Array.range es.size).filterMap (fun k => es[k]?) = es := by
  apply Array.ext'
  rw [Array.toList_filterMap, Array.toList_range]
  obtain ⟨l⟩ := es
  simp only [List.size_toArray, List.getElem?_toArray]
  induction l with
  | nil => rfl
  | cons a r ih =>
    rw [List.length_cons, List.range_succ_eq_map, List.filterMap_cons]
    simp only [List.getElem?_cons_zero, List.filterMap_map]
    congr 1
theorem relay77 {t : SetTable} {es : Array (Int × Value)} {wanted : Nat} (h : known t es wanted = true) : relayAll t es wanted = (es, tab77 t, false) := by
  obtain ⟨_, rfl, hm⟩ := known_is h
  have hz : es.size = 77 := by
    have := congrArg Array.size hm
    rw [Array.size_map] at this
    rw [this]
    rfl
  have hr : t.relaid (es.map (·.1)) 308 = some (tab77 t, Array.range 77) := by
    rw [hm]
    exact laid77 _ _ _ _
  have hs : (Array.range 77).filterMap (fun k => es[k]?) = es := by
    rw [← hz]
    exact range_self es
  have hc : coversAll (Array.range 77) 77 = true := by decide +kernel
  have hf : (tab77 t).fits 77 = true := rfl
  unfold relayAll
  rw [hr]
  show (if (coversAll (Array.range 77) es.size && (tab77 t).fits ((Array.range 77).filterMap (fun k => es[k]?)).size) = true then _ else _) = _
  rw [hs, hz, hc, hf]
  rfl
noncomputable def relayM (t : SetTable) (es : Array (Int × Value)) (wanted : Nat) : Array (Int × Value) × SetTable × Bool := match known t es wanted with
  | true => (es, tab77 t, false)
  | false => PySem.W.Fast.tw7057874960865805170 t es wanted
theorem relayM_eq : @PySem.W.Fast.tw7057874960865805170 = relayM := by
  funext t es wanted
  unfold relayM
  cases h : known t es wanted with
  | false => rfl
  | true =>
    rw [← PySem.W.Fast.te7057874960865805170]
    exact relay77 h
noncomputable def chainAs : { f // @PySem.W.Fast.tw93129132117342410 = f } := by
  refine ⟨?_, ?_⟩
  rotate_left 1
  delta PySem.W.Fast.tw93129132117342410
  rw [layNewP.2, relayM_eq]
noncomputable def chainF : { f // @PySem.W.Fast.tw4328697075774883827 = f } := by
  refine ⟨?_, ?_⟩
  rotate_left 1
  delta PySem.W.Fast.tw4328697075774883827
  rw [byScanF_eq, chainAs.2]
noncomputable def chainIn : { f // @PySem.W.Fast.tw1802229478528348949 = f } := by
  refine ⟨?_, ?_⟩
  rotate_left 1
  delta PySem.W.Fast.tw1802229478528348949
  rw [chainF.2]
noncomputable def chainAh : { f // @PySem.W.Fast.tw16065284519293194179 = f } := by
  refine ⟨?_, ?_⟩
  rotate_left 1
  delta PySem.W.Fast.tw16065284519293194179
  rw [chainIn.2]
/-- an int's hash asks the row on bound specials, but both answers are one: here the answer is not looked at -/
noncomputable def hashN : Str := ⟨#[95, 95, 104, 97, 115, 104, 95, 95]⟩
theorem bind_int (i : Int) (t : Tok) : bindSpecialIfBound? (.int i t) hashN = Sem.ask fun _ => .pure (some (.builtin "int.__hash__", [.int i t])) := by
  have e : bindSpecialIfBound? (.int i t) hashN = Sem.ask fun st => if st.params.followText "special-get-raises" then .pure (some (.builtin "int.__hash__", [.int i t])) else .pure (some (.builtin "int.__hash__", [.int i t])) := by
    kernel_rfl
  rw [e]
  congr 1
  funext st
  exact ite_self _
noncomputable def bindM (v : Value) (n : Str) : Sem (Option (Value × List Value)) := match v with
  | .int i t => (match PySem.W.Fast.sEq n hashN with
    | true => Sem.ask fun _ => .pure (some (.builtin "int.__hash__", [.int i t]))
    | false => PySem.W.Fast.tw4429936409751238260 (.int i t) n)
  | v => PySem.W.Fast.tw4429936409751238260 v n
theorem bindM_eq : PySem.W.Fast.tw4429936409751238260 = bindM := by
  funext v n
  unfold bindM
  split
  · rename_i i t
    cases h : PySem.W.Fast.sEq n hashN with
    | false => rfl
    | true =>
      obtain rfl := PySem.W.Fast.sEq_iff.mp h
      rw [← PySem.W.Fast.te4429936409751238260]
      exact bind_int i t
  · rfl
noncomputable def hashC : { f // PySem.W.Fast.tw16697807410369149715 = f } := by
  refine ⟨?_, ?_⟩
  rotate_left 1
  delta PySem.W.Fast.tw16697807410369149715
  rw [bindM_eq]
noncomputable def hashT : { f // PySem.W.Fast.tw17926724086988771738 = f } := by
  refine ⟨?_, ?_⟩
  rotate_left 1
  delta PySem.W.Fast.tw17926724086988771738
  rw [hashC.2]
noncomputable def hashM : { f // PySem.W.Fast.tw10540108854288196387 = f } := by
  refine ⟨?_, ?_⟩
  rotate_left 1
  delta PySem.W.Fast.tw10540108854288196387
  rw [hashT.2]
noncomputable def chainAd : { f // @PySem.W.Fast.tw5518019106960326183 = f } := by
  refine ⟨?_, ?_⟩
  rotate_left 1
  delta PySem.W.Fast.tw5518019106960326183
  rw [chainAh.2, hashM.2]
noncomputable def chainUp : { f // @PySem.W.Fast.tw14453038532278432606 = f } := by
  refine ⟨?_, ?_⟩
  rotate_left 1
  delta PySem.W.Fast.tw14453038532278432606
  rw [chainAd.2]
noncomputable def tabU (s : String) : Option Builtin := @ite _ (s = "set.update.loop") (PySem.W.S.strDecS s "set.update.loop") (some chainUp.1) (PySem.W.Fast.tw14364793385576792824 s)
theorem tabU_eq : PySem.W.Fast.tw14364793385576792824 = tabU := by
  funext s
  unfold tabU
  split
  · rename_i e
    subst e
    rw [← chainUp.2]
    kernel_rfl
  · rfl
noncomputable abbrev SegTy (β : Type) := (String → Option Builtin) → Program → World → Nat → Option Value → Nat → Nat → SharedT → Thread → Option β
noncomputable def Tx (p : Program) (l : List (Nat × (Params → Obj))) (P : Params) : BT := l.foldl (fun t x => t.set x.1 fun _ => x.2 P) (TF p P)
noncomputable abbrev exT (ex : List Stmt → Env → Sem Flow) (p : Program) (i : Nat) (pos : Pos) : Thread := ⟨(ex [stmOf p i] (envOn p)).wrap doneF deadEnd id id, codeOn p, pos, [topFrame q0]⟩
noncomputable abbrev loT (dn : (String → Option Builtin) → Code → Sem Fin) (tb : String → Option Builtin) (x : String) (args : List Value) (pos : Pos) (stk : List Frame) : Thread := ⟨dn tb (.builtin x ⟨args, []⟩), .builtin x ⟨args, []⟩, pos, stk⟩
noncomputable abbrev sT (p : Program) (A : List (Nat × (Params → Obj))) (n toks : Nat) (w : World) (os : OsState) : SharedT := ⟨Tx p A w.params, n, {}, #[], {}, toks, os⟩
noncomputable abbrev Cut (sg : SegTy (SharedT × Thread)) (tb : String → Option Builtin) (p : Program) (N : Nat) (A : List (Nat × (Params → Obj))) (n toks : Nat) (A' : List (Nat × (Params → Obj))) (n' toks' : Nat) (w : World) (os : OsState) (t t' : Thread) : Prop :=
  sg tb p w 28 (some (.ref 6)) 1 N (sT p A n toks w os) t = some (sT p A' n' toks' w os, t')
noncomputable abbrev CutF (sg : SegTy (SharedT × Thread)) (tb : String → Option Builtin) (p : Program) (N : Nat) (A : List (Nat × (Params → Obj))) (n toks : Nat) (A' : List (Nat × (Params → Obj))) (n' toks' : Nat) (w : World) (os : OsState) (t t' : Thread) : Prop :=
  fR (sg tb p w 28 (some (.ref 6)) 1 N (sT p A n toks w os) t) = some (sT p A' n' toks' w os, t')
noncomputable def fQ (r : Option (Flow × SharedT × Code × Pos)) : Option (Flow × SharedT × Code × Pos) := match r with
  | some (f, s, t) => some (f, fS s, t)
  | none => none
theorem fQ_eq (r : Option (Flow × SharedT × Code × Pos)) : fQ r = r := by rcases r with _ | ⟨f, s, t⟩ <;> simp [fQ, fS_eq]
noncomputable abbrev CutEndF (sg : SegTy (Flow × SharedT × Code × Pos)) (tb : String → Option Builtin) (p : Program) (N : Nat) (A : List (Nat × (Params → Obj))) (n toks : Nat) (A' : List (Nat × (Params → Obj))) (n' toks' : Nat) (pos' : Pos) (w : World) (os : OsState) (t : Thread) : Prop :=
  fQ (sg tb p w 28 (some (.ref 6)) 1 N (sT p A n toks w os) t) = some (.next, sT p A' n' toks' w os, codeOn p, pos')
noncomputable abbrev CutEnd (sg : SegTy (Flow × SharedT × Code × Pos)) (tb : String → Option Builtin) (p : Program) (N : Nat) (A : List (Nat × (Params → Obj))) (n toks : Nat) (A' : List (Nat × (Params → Obj))) (n' toks' : Nat) (pos' : Pos) (w : World) (os : OsState) (t : Thread) : Prop :=
  sg tb p w 28 (some (.ref 6)) 1 N (sT p A n toks w os) t = some (.next, sT p A' n' toks' w os, codeOn p, pos')
noncomputable def stkOf (r : Option (SharedT × Thread)) : List Frame := match r with
  | some (_, t) => t.stack
  | none => []
noncomputable def two : List Frame → Bool
  | _ :: _ :: _ => true
  | _ => false
theorem two_of {l : List Frame} (h : two l = true) : ∃ f g r, l = f :: g :: r := by
  match l, h with
  | f :: g :: r, _ => exact ⟨f, g, r, rfl⟩
noncomputable abbrev t0 : Thread := exT @PySem.W.Fast.tw12563942051412417395 pwT 13 ⟨25, 0, 26, 30⟩
noncomputable abbrev thE (stk : List Frame) : Thread := loT @PySem.W.Fast.tw11892475500146522536 PySem.W.Fast.tw14364793385576792824 "list.extend.loop" [(.ref 121), (.ref 122), .none] ⟨27, 24, 27, 51⟩ stk
noncomputable abbrev thU (stk : List Frame) : Thread := loT @PySem.W.Fast.tw11892475500146522536 PySem.W.Fast.tw14364793385576792824 "set.update.loop" [.ref 126, .ref 127] ⟨27, 9, 27, 52⟩ stk
noncomputable def stkA (w : World) (os : OsState) : List Frame := stkOf (@PySem.W.Fast.tw10295753902157049106 PySem.W.Fast.tw14364793385576792824 pwT w 28 (some (.ref 6)) 1 104 (sT pwT [(3, o3v13), (29, o29v8)] 119 477 w os) t0)
noncomputable def stkB (w : World) (os : OsState) : List Frame := stkOf (@PySem.W.Fast.tw10295753902157049106 PySem.W.Fast.tw14364793385576792824 pwT w 28 (some (.ref 6)) 1 334 (sT pwT [(3, o3v13), (29, o29v8), (121, o121v5), (122, o122v5)] 123 564 w os) (thE (stkA w os)))
theorem cA_f (w : World) (os : OsState) : Cut @PySem.W.Fast.tw10295753902157049106 PySem.W.Fast.tw14364793385576792824 pwT 104 [(3, o3v13), (29, o29v8)] 119 477 [(3, o3v13), (29, o29v8), (121, o121v1), (122, o122v1)] 123 484 (w.withFollow "special-get-raises" false) os t0 (thE (stkA (w.withFollow "special-get-raises" false) os)) := by
  kernel_rfl
theorem kA_f (w : World) (os : OsState) : two (stkA (w.withFollow "special-get-raises" false) os) = true := by
  kernel_rfl
theorem cA_t (w : World) (os : OsState) : Cut @PySem.W.Fast.tw10295753902157049106 PySem.W.Fast.tw14364793385576792824 pwT 104 [(3, o3v13), (29, o29v8)] 119 477 [(3, o3v13), (29, o29v8), (121, o121v1), (122, o122v1)] 123 484 (w.withFollow "special-get-raises" true) os t0 (thE (stkA (w.withFollow "special-get-raises" true) os)) := by
  kernel_rfl
theorem kA_t (w : World) (os : OsState) : two (stkA (w.withFollow "special-get-raises" true) os) = true := by
  kernel_rfl
theorem cE1 (w : World) (os : OsState) (f g : Frame) (r : List Frame) : Cut @PySem.W.Fast.tw10295753902157049106 PySem.W.Fast.tw14364793385576792824 pwT 340 [(3, o3v13), (29, o29v8), (121, o121v1), (122, o122v1)] 123 484 [(3, o3v13), (29, o29v8), (121, o121v2), (122, o122v2)] 123 504 w os (thE (f :: g :: r)) (thE (f :: g :: r)) := by
  kernel_rfl
theorem cE2 (w : World) (os : OsState) (f g : Frame) (r : List Frame) : Cut @PySem.W.Fast.tw10295753902157049106 PySem.W.Fast.tw14364793385576792824 pwT 340 [(3, o3v13), (29, o29v8), (121, o121v2), (122, o122v2)] 123 504 [(3, o3v13), (29, o29v8), (121, o121v3), (122, o122v3)] 123 524 w os (thE (f :: g :: r)) (thE (f :: g :: r)) := by
  kernel_rfl
theorem cE3 (w : World) (os : OsState) (f g : Frame) (r : List Frame) : Cut @PySem.W.Fast.tw10295753902157049106 PySem.W.Fast.tw14364793385576792824 pwT 340 [(3, o3v13), (29, o29v8), (121, o121v3), (122, o122v3)] 123 524 [(3, o3v13), (29, o29v8), (121, o121v4), (122, o122v4)] 123 544 w os (thE (f :: g :: r)) (thE (f :: g :: r)) := by
  kernel_rfl
theorem cE4 (w : World) (os : OsState) (f g : Frame) (r : List Frame) : Cut @PySem.W.Fast.tw10295753902157049106 PySem.W.Fast.tw14364793385576792824 pwT 340 [(3, o3v13), (29, o29v8), (121, o121v4), (122, o122v4)] 123 544 [(3, o3v13), (29, o29v8), (121, o121v5), (122, o122v5)] 123 564 w os (thE (f :: g :: r)) (thE (f :: g :: r)) := by
  kernel_rfl
theorem cB_f (w : World) (os : OsState) : CutF @PySem.W.Fast.tw10295753902157049106 PySem.W.Fast.tw14364793385576792824 pwT 334 [(3, o3v13), (29, o29v8), (121, o121v5), (122, o122v5)] 123 564 [(3, o3v13), (29, o29v8), (126, o126v1), (127, o127v1)] 128 580 (w.withFollow "special-get-raises" false) os (thE (stkA (w.withFollow "special-get-raises" false) os)) (thU (stkB (w.withFollow "special-get-raises" false) os)) := by
  kernel_rfl
theorem kB_f (w : World) (os : OsState) : two (stkB (w.withFollow "special-get-raises" false) os) = true := by
  kernel_rfl
theorem cB_t (w : World) (os : OsState) : CutF @PySem.W.Fast.tw10295753902157049106 PySem.W.Fast.tw14364793385576792824 pwT 334 [(3, o3v13), (29, o29v8), (121, o121v5), (122, o122v5)] 123 564 [(3, o3v13), (29, o29v8), (126, o126v1), (127, o127v1)] 128 580 (w.withFollow "special-get-raises" true) os (thE (stkA (w.withFollow "special-get-raises" true) os)) (thU (stkB (w.withFollow "special-get-raises" true) os)) := by
  kernel_rfl
theorem kB_t (w : World) (os : OsState) : two (stkB (w.withFollow "special-get-raises" true) os) = true := by
  kernel_rfl
noncomputable abbrev oT (p : Program) (a b : Params → Obj) (tk : Nat) (w : World) (os : OsState) : SharedT := sT p [(3, o3v13), (29, o29v8), (126, a), (127, b)] 128 tk w os
noncomputable abbrev thV (tb : String → Option Builtin) (stk : List Frame) : Thread := loT @PySem.W.Fast.tw11892475500146522536 tb "set.update.loop" [.ref 126, .ref 127] ⟨27, 9, 27, 52⟩ stk
noncomputable def runU (tb : String → Option Builtin) (N : Nat) (a b : Params → Obj) (tk : Nat) (w : World) (os : OsState) (f g : Frame) (r : List Frame) : Option (SharedT × Thread) := @PySem.W.Fast.tw10295753902157049106 tb pwT w 28 (some (.ref 6)) 1 N (oT pwT a b tk w os) (thV tb (f :: g :: r))
noncomputable def resU (tb : String → Option Builtin) (a b : Params → Obj) (tk : Nat) (w : World) (os : OsState) (f g : Frame) (r : List Frame) : Option (SharedT × Thread) := some (oT pwT a b tk w os, thV tb (f :: g :: r))
noncomputable def TurnF (N : Nat) (a b : Params → Obj) (tk : Nat) (a' b' : Params → Obj) (tk' : Nat) : Prop := ∀ w os f g r, fR (runU tabU N a b tk w os f g r) = resU tabU a' b' tk' w os f g r
noncomputable def Turn (N : Nat) (a b : Params → Obj) (tk : Nat) (a' b' : Params → Obj) (tk' : Nat) : Prop := ∀ w os f g r, runU PySem.W.Fast.tw14364793385576792824 N a b tk w os f g r = resU PySem.W.Fast.tw14364793385576792824 a' b' tk' w os f g r
theorem Turn.of {N : Nat} {a b : Params → Obj} {tk : Nat} {a' b' : Params → Obj} {tk' : Nat} (h : TurnF N a b tk a' b' tk') : Turn N a b tk a' b' tk' := fun w os f g r => by
  have h := (fR_eq _).symm.trans (h w os f g r)
  rw [tabU_eq]
  exact h
theorem Turn.trans {N M K : Nat} {a b : Params → Obj} {tk : Nat} {a' b' : Params → Obj} {tk' : Nat} {a'' b'' : Params → Obj} {tk'' : Nat} (e : N + M = K) (h : TurnF N a b tk a' b' tk') (h' : Turn M a' b' tk' a'' b'' tk'') : Turn K a b tk a'' b'' tk'' := fun w os f g r => e ▸ tGo_go (Turn.of h w os f g r) (h' w os f g r)
theorem dU96 : Turn 20 (c9o 96 511 3 99) (c9it 96) 675 (c9o 97 511 3 100) (c9it 97) 676 := by
  refine Turn.of ?_
  intro w os f g r
  kernel_rfl
theorem dU95 : Turn 40 (c9o 95 511 3 98) (c9it 95) 674 (c9o 97 511 3 100) (c9it 97) 676 := by
  refine Turn.trans (N := 20) (a' := (c9o 96 511 3 99)) (b' := (c9it 96)) (tk' := 675) rfl ?_ dU96
  intro w os f g r
  kernel_rfl
theorem dU94 : Turn 60 (c9o 94 511 3 97) (c9it 94) 673 (c9o 97 511 3 100) (c9it 97) 676 := by
  refine Turn.trans (N := 20) (a' := (c9o 95 511 3 98)) (b' := (c9it 95)) (tk' := 674) rfl ?_ dU95
  intro w os f g r
  kernel_rfl
theorem dU93 : Turn 80 (c9o 93 511 3 96) (c9it 93) 672 (c9o 97 511 3 100) (c9it 97) 676 := by
  refine Turn.trans (N := 20) (a' := (c9o 94 511 3 97)) (b' := (c9it 94)) (tk' := 673) rfl ?_ dU94
  intro w os f g r
  kernel_rfl
theorem dU92 : Turn 100 (c9o 92 511 3 95) (c9it 92) 671 (c9o 97 511 3 100) (c9it 97) 676 := by
  refine Turn.trans (N := 20) (a' := (c9o 93 511 3 96)) (b' := (c9it 93)) (tk' := 672) rfl ?_ dU93
  intro w os f g r
  kernel_rfl
theorem dU91 : Turn 120 (c9o 91 511 3 94) (c9it 91) 670 (c9o 97 511 3 100) (c9it 97) 676 := by
  refine Turn.trans (N := 20) (a' := (c9o 92 511 3 95)) (b' := (c9it 92)) (tk' := 671) rfl ?_ dU92
  intro w os f g r
  kernel_rfl
theorem dU90 : Turn 140 (c9o 90 511 3 93) (c9it 90) 669 (c9o 97 511 3 100) (c9it 97) 676 := by
  refine Turn.trans (N := 20) (a' := (c9o 91 511 3 94)) (b' := (c9it 91)) (tk' := 670) rfl ?_ dU91
  intro w os f g r
  kernel_rfl
theorem dU89 : Turn 160 (c9o 89 511 3 92) (c9it 89) 668 (c9o 97 511 3 100) (c9it 97) 676 := by
  refine Turn.trans (N := 20) (a' := (c9o 90 511 3 93)) (b' := (c9it 90)) (tk' := 669) rfl ?_ dU90
  intro w os f g r
  kernel_rfl
theorem dU88 : Turn 180 (c9o 88 511 3 91) (c9it 88) 667 (c9o 97 511 3 100) (c9it 97) 676 := by
  refine Turn.trans (N := 20) (a' := (c9o 89 511 3 92)) (b' := (c9it 89)) (tk' := 668) rfl ?_ dU89
  intro w os f g r
  kernel_rfl
theorem dU87 : Turn 200 (c9o 87 511 3 90) (c9it 87) 666 (c9o 97 511 3 100) (c9it 97) 676 := by
  refine Turn.trans (N := 20) (a' := (c9o 88 511 3 91)) (b' := (c9it 88)) (tk' := 667) rfl ?_ dU88
  intro w os f g r
  kernel_rfl
theorem dU86 : Turn 220 (c9o 86 511 3 89) (c9it 86) 665 (c9o 97 511 3 100) (c9it 97) 676 := by
  refine Turn.trans (N := 20) (a' := (c9o 87 511 3 90)) (b' := (c9it 87)) (tk' := 666) rfl ?_ dU87
  intro w os f g r
  kernel_rfl
theorem dU85 : Turn 240 (c9o 85 511 3 88) (c9it 85) 664 (c9o 97 511 3 100) (c9it 97) 676 := by
  refine Turn.trans (N := 20) (a' := (c9o 86 511 3 89)) (b' := (c9it 86)) (tk' := 665) rfl ?_ dU86
  intro w os f g r
  kernel_rfl
theorem dU84 : Turn 260 (c9o 84 511 3 87) (c9it 84) 663 (c9o 97 511 3 100) (c9it 97) 676 := by
  refine Turn.trans (N := 20) (a' := (c9o 85 511 3 88)) (b' := (c9it 85)) (tk' := 664) rfl ?_ dU85
  intro w os f g r
  kernel_rfl
theorem dU83 : Turn 280 (c9o 83 511 3 86) (c9it 83) 662 (c9o 97 511 3 100) (c9it 97) 676 := by
  refine Turn.trans (N := 20) (a' := (c9o 84 511 3 87)) (b' := (c9it 84)) (tk' := 663) rfl ?_ dU84
  intro w os f g r
  kernel_rfl
theorem dU82 : Turn 300 (c9o 82 511 3 85) (c9it 82) 661 (c9o 97 511 3 100) (c9it 97) 676 := by
  refine Turn.trans (N := 20) (a' := (c9o 83 511 3 86)) (b' := (c9it 83)) (tk' := 662) rfl ?_ dU83
  intro w os f g r
  kernel_rfl
theorem dU81 : Turn 320 (c9o 81 511 3 84) (c9it 81) 660 (c9o 97 511 3 100) (c9it 97) 676 := by
  refine Turn.trans (N := 20) (a' := (c9o 82 511 3 85)) (b' := (c9it 82)) (tk' := 661) rfl ?_ dU82
  intro w os f g r
  kernel_rfl
theorem dU80 : Turn 340 (c9o 80 511 3 83) (c9it 80) 659 (c9o 97 511 3 100) (c9it 97) 676 := by
  refine Turn.trans (N := 20) (a' := (c9o 81 511 3 84)) (b' := (c9it 81)) (tk' := 660) rfl ?_ dU81
  intro w os f g r
  kernel_rfl
theorem dU79 : Turn 360 (c9o 79 511 3 82) (c9it 79) 658 (c9o 97 511 3 100) (c9it 97) 676 := by
  refine Turn.trans (N := 20) (a' := (c9o 80 511 3 83)) (b' := (c9it 80)) (tk' := 659) rfl ?_ dU80
  intro w os f g r
  kernel_rfl
theorem dU78 : Turn 380 (c9o 78 511 3 81) (c9it 78) 657 (c9o 97 511 3 100) (c9it 97) 676 := by
  refine Turn.trans (N := 20) (a' := (c9o 79 511 3 82)) (b' := (c9it 79)) (tk' := 658) rfl ?_ dU79
  intro w os f g r
  kernel_rfl
theorem dU77 : Turn 400 (c9o 77 511 3 80) (c9it 77) 656 (c9o 97 511 3 100) (c9it 97) 676 := by
  refine Turn.trans (N := 20) (a' := (c9o 78 511 3 81)) (b' := (c9it 78)) (tk' := 657) rfl ?_ dU78
  intro w os f g r
  kernel_rfl
theorem dU76 : Turn 422 (c9o 76 127 2 78) (c9it 76) 655 (c9o 97 511 3 100) (c9it 97) 676 := by
  refine Turn.trans (N := 22) (a' := (c9o 77 511 3 80)) (b' := (c9it 77)) (tk' := 656) rfl ?_ dU77
  intro w os f g r
  kernel_rfl
theorem dU75 : Turn 442 (c9o 75 127 2 77) (c9it 75) 654 (c9o 97 511 3 100) (c9it 97) 676 := by
  refine Turn.trans (N := 20) (a' := (c9o 76 127 2 78)) (b' := (c9it 76)) (tk' := 655) rfl ?_ dU76
  intro w os f g r
  kernel_rfl
theorem dU74 : Turn 462 (c9o 74 127 2 76) (c9it 74) 653 (c9o 97 511 3 100) (c9it 97) 676 := by
  refine Turn.trans (N := 20) (a' := (c9o 75 127 2 77)) (b' := (c9it 75)) (tk' := 654) rfl ?_ dU75
  intro w os f g r
  kernel_rfl
theorem dU73 : Turn 482 (c9o 73 127 2 75) (c9it 73) 652 (c9o 97 511 3 100) (c9it 97) 676 := by
  refine Turn.trans (N := 20) (a' := (c9o 74 127 2 76)) (b' := (c9it 74)) (tk' := 653) rfl ?_ dU74
  intro w os f g r
  kernel_rfl
theorem dU72 : Turn 502 (c9o 72 127 2 74) (c9it 72) 651 (c9o 97 511 3 100) (c9it 97) 676 := by
  refine Turn.trans (N := 20) (a' := (c9o 73 127 2 75)) (b' := (c9it 73)) (tk' := 652) rfl ?_ dU73
  intro w os f g r
  kernel_rfl
theorem dU71 : Turn 522 (c9o 71 127 2 73) (c9it 71) 650 (c9o 97 511 3 100) (c9it 97) 676 := by
  refine Turn.trans (N := 20) (a' := (c9o 72 127 2 74)) (b' := (c9it 72)) (tk' := 651) rfl ?_ dU72
  intro w os f g r
  kernel_rfl
theorem dU70 : Turn 542 (c9o 70 127 2 72) (c9it 70) 649 (c9o 97 511 3 100) (c9it 97) 676 := by
  refine Turn.trans (N := 20) (a' := (c9o 71 127 2 73)) (b' := (c9it 71)) (tk' := 650) rfl ?_ dU71
  intro w os f g r
  kernel_rfl
theorem dU69 : Turn 562 (c9o 69 127 2 71) (c9it 69) 648 (c9o 97 511 3 100) (c9it 97) 676 := by
  refine Turn.trans (N := 20) (a' := (c9o 70 127 2 72)) (b' := (c9it 70)) (tk' := 649) rfl ?_ dU70
  intro w os f g r
  kernel_rfl
theorem dU68 : Turn 582 (c9o 68 127 2 70) (c9it 68) 647 (c9o 97 511 3 100) (c9it 97) 676 := by
  refine Turn.trans (N := 20) (a' := (c9o 69 127 2 71)) (b' := (c9it 69)) (tk' := 648) rfl ?_ dU69
  intro w os f g r
  kernel_rfl
theorem dU67 : Turn 602 (c9o 67 127 2 69) (c9it 67) 646 (c9o 97 511 3 100) (c9it 97) 676 := by
  refine Turn.trans (N := 20) (a' := (c9o 68 127 2 70)) (b' := (c9it 68)) (tk' := 647) rfl ?_ dU68
  intro w os f g r
  kernel_rfl
theorem dU66 : Turn 622 (c9o 66 127 2 68) (c9it 66) 645 (c9o 97 511 3 100) (c9it 97) 676 := by
  refine Turn.trans (N := 20) (a' := (c9o 67 127 2 69)) (b' := (c9it 67)) (tk' := 646) rfl ?_ dU67
  intro w os f g r
  kernel_rfl
theorem dU65 : Turn 642 (c9o 65 127 2 67) (c9it 65) 644 (c9o 97 511 3 100) (c9it 97) 676 := by
  refine Turn.trans (N := 20) (a' := (c9o 66 127 2 68)) (b' := (c9it 66)) (tk' := 645) rfl ?_ dU66
  intro w os f g r
  kernel_rfl
theorem dU64 : Turn 662 (c9o 64 127 2 66) (c9it 64) 643 (c9o 97 511 3 100) (c9it 97) 676 := by
  refine Turn.trans (N := 20) (a' := (c9o 65 127 2 67)) (b' := (c9it 65)) (tk' := 644) rfl ?_ dU65
  intro w os f g r
  kernel_rfl
theorem dU63 : Turn 682 (c9o 63 127 2 65) (c9it 63) 642 (c9o 97 511 3 100) (c9it 97) 676 := by
  refine Turn.trans (N := 20) (a' := (c9o 64 127 2 66)) (b' := (c9it 64)) (tk' := 643) rfl ?_ dU64
  intro w os f g r
  kernel_rfl
theorem dU62 : Turn 702 (c9o 62 127 2 64) (c9it 62) 641 (c9o 97 511 3 100) (c9it 97) 676 := by
  refine Turn.trans (N := 20) (a' := (c9o 63 127 2 65)) (b' := (c9it 63)) (tk' := 642) rfl ?_ dU63
  intro w os f g r
  kernel_rfl
theorem dU61 : Turn 722 (c9o 61 127 2 63) (c9it 61) 640 (c9o 97 511 3 100) (c9it 97) 676 := by
  refine Turn.trans (N := 20) (a' := (c9o 62 127 2 64)) (b' := (c9it 62)) (tk' := 641) rfl ?_ dU62
  intro w os f g r
  kernel_rfl
theorem dU60 : Turn 742 (c9o 60 127 2 62) (c9it 60) 639 (c9o 97 511 3 100) (c9it 97) 676 := by
  refine Turn.trans (N := 20) (a' := (c9o 61 127 2 63)) (b' := (c9it 61)) (tk' := 640) rfl ?_ dU61
  intro w os f g r
  kernel_rfl
theorem dU59 : Turn 762 (c9o 59 127 2 61) (c9it 59) 638 (c9o 97 511 3 100) (c9it 97) 676 := by
  refine Turn.trans (N := 20) (a' := (c9o 60 127 2 62)) (b' := (c9it 60)) (tk' := 639) rfl ?_ dU60
  intro w os f g r
  kernel_rfl
theorem dU58 : Turn 782 (c9o 58 127 2 60) (c9it 58) 637 (c9o 97 511 3 100) (c9it 97) 676 := by
  refine Turn.trans (N := 20) (a' := (c9o 59 127 2 61)) (b' := (c9it 59)) (tk' := 638) rfl ?_ dU59
  intro w os f g r
  kernel_rfl
theorem dU57 : Turn 802 (c9o 57 127 2 59) (c9it 57) 636 (c9o 97 511 3 100) (c9it 97) 676 := by
  refine Turn.trans (N := 20) (a' := (c9o 58 127 2 60)) (b' := (c9it 58)) (tk' := 637) rfl ?_ dU58
  intro w os f g r
  kernel_rfl
theorem dU56 : Turn 822 (c9o 56 127 2 58) (c9it 56) 635 (c9o 97 511 3 100) (c9it 97) 676 := by
  refine Turn.trans (N := 20) (a' := (c9o 57 127 2 59)) (b' := (c9it 57)) (tk' := 636) rfl ?_ dU57
  intro w os f g r
  kernel_rfl
theorem dU55 : Turn 842 (c9o 55 127 2 57) (c9it 55) 634 (c9o 97 511 3 100) (c9it 97) 676 := by
  refine Turn.trans (N := 20) (a' := (c9o 56 127 2 58)) (b' := (c9it 56)) (tk' := 635) rfl ?_ dU56
  intro w os f g r
  kernel_rfl
theorem dU54 : Turn 862 (c9o 54 127 2 56) (c9it 54) 633 (c9o 97 511 3 100) (c9it 97) 676 := by
  refine Turn.trans (N := 20) (a' := (c9o 55 127 2 57)) (b' := (c9it 55)) (tk' := 634) rfl ?_ dU55
  intro w os f g r
  kernel_rfl
theorem dU53 : Turn 882 (c9o 53 127 2 55) (c9it 53) 632 (c9o 97 511 3 100) (c9it 97) 676 := by
  refine Turn.trans (N := 20) (a' := (c9o 54 127 2 56)) (b' := (c9it 54)) (tk' := 633) rfl ?_ dU54
  intro w os f g r
  kernel_rfl
theorem dU52 : Turn 902 (c9o 52 127 2 54) (c9it 52) 631 (c9o 97 511 3 100) (c9it 97) 676 := by
  refine Turn.trans (N := 20) (a' := (c9o 53 127 2 55)) (b' := (c9it 53)) (tk' := 632) rfl ?_ dU53
  intro w os f g r
  kernel_rfl
theorem dU51 : Turn 922 (c9o 51 127 2 53) (c9it 51) 630 (c9o 97 511 3 100) (c9it 97) 676 := by
  refine Turn.trans (N := 20) (a' := (c9o 52 127 2 54)) (b' := (c9it 52)) (tk' := 631) rfl ?_ dU52
  intro w os f g r
  kernel_rfl
theorem dU50 : Turn 942 (c9o 50 127 2 52) (c9it 50) 629 (c9o 97 511 3 100) (c9it 97) 676 := by
  refine Turn.trans (N := 20) (a' := (c9o 51 127 2 53)) (b' := (c9it 51)) (tk' := 630) rfl ?_ dU51
  intro w os f g r
  kernel_rfl
theorem dU49 : Turn 962 (c9o 49 127 2 51) (c9it 49) 628 (c9o 97 511 3 100) (c9it 97) 676 := by
  refine Turn.trans (N := 20) (a' := (c9o 50 127 2 52)) (b' := (c9it 50)) (tk' := 629) rfl ?_ dU50
  intro w os f g r
  kernel_rfl
theorem dU48 : Turn 982 (c9o 48 127 2 50) (c9it 48) 627 (c9o 97 511 3 100) (c9it 97) 676 := by
  refine Turn.trans (N := 20) (a' := (c9o 49 127 2 51)) (b' := (c9it 49)) (tk' := 628) rfl ?_ dU49
  intro w os f g r
  kernel_rfl
theorem dU47 : Turn 1002 (c9o 47 127 2 49) (c9it 47) 626 (c9o 97 511 3 100) (c9it 97) 676 := by
  refine Turn.trans (N := 20) (a' := (c9o 48 127 2 50)) (b' := (c9it 48)) (tk' := 627) rfl ?_ dU48
  intro w os f g r
  kernel_rfl
theorem dU46 : Turn 1022 (c9o 46 127 2 48) (c9it 46) 625 (c9o 97 511 3 100) (c9it 97) 676 := by
  refine Turn.trans (N := 20) (a' := (c9o 47 127 2 49)) (b' := (c9it 47)) (tk' := 626) rfl ?_ dU47
  intro w os f g r
  kernel_rfl
theorem dU45 : Turn 1042 (c9o 45 127 2 47) (c9it 45) 624 (c9o 97 511 3 100) (c9it 97) 676 := by
  refine Turn.trans (N := 20) (a' := (c9o 46 127 2 48)) (b' := (c9it 46)) (tk' := 625) rfl ?_ dU46
  intro w os f g r
  kernel_rfl
theorem dU44 : Turn 1062 (c9o 44 127 2 46) (c9it 44) 623 (c9o 97 511 3 100) (c9it 97) 676 := by
  refine Turn.trans (N := 20) (a' := (c9o 45 127 2 47)) (b' := (c9it 45)) (tk' := 624) rfl ?_ dU45
  intro w os f g r
  kernel_rfl
theorem dU43 : Turn 1082 (c9o 43 127 2 45) (c9it 43) 622 (c9o 97 511 3 100) (c9it 97) 676 := by
  refine Turn.trans (N := 20) (a' := (c9o 44 127 2 46)) (b' := (c9it 44)) (tk' := 623) rfl ?_ dU44
  intro w os f g r
  kernel_rfl
theorem dU42 : Turn 1102 (c9o 42 127 2 44) (c9it 42) 621 (c9o 97 511 3 100) (c9it 97) 676 := by
  refine Turn.trans (N := 20) (a' := (c9o 43 127 2 45)) (b' := (c9it 43)) (tk' := 622) rfl ?_ dU43
  intro w os f g r
  kernel_rfl
theorem dU41 : Turn 1122 (c9o 41 127 2 43) (c9it 41) 620 (c9o 97 511 3 100) (c9it 97) 676 := by
  refine Turn.trans (N := 20) (a' := (c9o 42 127 2 44)) (b' := (c9it 42)) (tk' := 621) rfl ?_ dU42
  intro w os f g r
  kernel_rfl
theorem dU40 : Turn 1142 (c9o 40 127 2 42) (c9it 40) 619 (c9o 97 511 3 100) (c9it 97) 676 := by
  refine Turn.trans (N := 20) (a' := (c9o 41 127 2 43)) (b' := (c9it 41)) (tk' := 620) rfl ?_ dU41
  intro w os f g r
  kernel_rfl
theorem dU39 : Turn 1162 (c9o 39 127 2 41) (c9it 39) 618 (c9o 97 511 3 100) (c9it 97) 676 := by
  refine Turn.trans (N := 20) (a' := (c9o 40 127 2 42)) (b' := (c9it 40)) (tk' := 619) rfl ?_ dU40
  intro w os f g r
  kernel_rfl
theorem dU38 : Turn 1182 (c9o 38 127 2 40) (c9it 38) 617 (c9o 97 511 3 100) (c9it 97) 676 := by
  refine Turn.trans (N := 20) (a' := (c9o 39 127 2 41)) (b' := (c9it 39)) (tk' := 618) rfl ?_ dU39
  intro w os f g r
  kernel_rfl
theorem dU37 : Turn 1202 (c9o 37 127 2 39) (c9it 37) 616 (c9o 97 511 3 100) (c9it 97) 676 := by
  refine Turn.trans (N := 20) (a' := (c9o 38 127 2 40)) (b' := (c9it 38)) (tk' := 617) rfl ?_ dU38
  intro w os f g r
  kernel_rfl
theorem dU36 : Turn 1222 (c9o 36 127 2 38) (c9it 36) 615 (c9o 97 511 3 100) (c9it 97) 676 := by
  refine Turn.trans (N := 20) (a' := (c9o 37 127 2 39)) (b' := (c9it 37)) (tk' := 616) rfl ?_ dU37
  intro w os f g r
  kernel_rfl
theorem dU35 : Turn 1242 (c9o 35 127 2 37) (c9it 35) 614 (c9o 97 511 3 100) (c9it 97) 676 := by
  refine Turn.trans (N := 20) (a' := (c9o 36 127 2 38)) (b' := (c9it 36)) (tk' := 615) rfl ?_ dU36
  intro w os f g r
  kernel_rfl
theorem dU34 : Turn 1262 (c9o 34 127 2 36) (c9it 34) 613 (c9o 97 511 3 100) (c9it 97) 676 := by
  refine Turn.trans (N := 20) (a' := (c9o 35 127 2 37)) (b' := (c9it 35)) (tk' := 614) rfl ?_ dU35
  intro w os f g r
  kernel_rfl
theorem dU33 : Turn 1282 (c9o 33 127 2 35) (c9it 33) 612 (c9o 97 511 3 100) (c9it 97) 676 := by
  refine Turn.trans (N := 20) (a' := (c9o 34 127 2 36)) (b' := (c9it 34)) (tk' := 613) rfl ?_ dU34
  intro w os f g r
  kernel_rfl
theorem dU32 : Turn 1302 (c9o 32 127 2 34) (c9it 32) 611 (c9o 97 511 3 100) (c9it 97) 676 := by
  refine Turn.trans (N := 20) (a' := (c9o 33 127 2 35)) (b' := (c9it 33)) (tk' := 612) rfl ?_ dU33
  intro w os f g r
  kernel_rfl
theorem dU31 : Turn 1322 (c9o 31 127 2 33) (c9it 31) 610 (c9o 97 511 3 100) (c9it 97) 676 := by
  refine Turn.trans (N := 20) (a' := (c9o 32 127 2 34)) (b' := (c9it 32)) (tk' := 611) rfl ?_ dU32
  intro w os f g r
  kernel_rfl
theorem dU30 : Turn 1342 (c9o 30 127 2 32) (c9it 30) 609 (c9o 97 511 3 100) (c9it 97) 676 := by
  refine Turn.trans (N := 20) (a' := (c9o 31 127 2 33)) (b' := (c9it 31)) (tk' := 610) rfl ?_ dU31
  intro w os f g r
  kernel_rfl
theorem dU29 : Turn 1362 (c9o 29 127 2 31) (c9it 29) 608 (c9o 97 511 3 100) (c9it 97) 676 := by
  refine Turn.trans (N := 20) (a' := (c9o 30 127 2 32)) (b' := (c9it 30)) (tk' := 609) rfl ?_ dU30
  intro w os f g r
  kernel_rfl
theorem dU28 : Turn 1382 (c9o 28 127 2 30) (c9it 28) 607 (c9o 97 511 3 100) (c9it 97) 676 := by
  refine Turn.trans (N := 20) (a' := (c9o 29 127 2 31)) (b' := (c9it 29)) (tk' := 608) rfl ?_ dU29
  intro w os f g r
  kernel_rfl
theorem dU27 : Turn 1402 (c9o 27 127 2 29) (c9it 27) 606 (c9o 97 511 3 100) (c9it 97) 676 := by
  refine Turn.trans (N := 20) (a' := (c9o 28 127 2 30)) (b' := (c9it 28)) (tk' := 607) rfl ?_ dU28
  intro w os f g r
  kernel_rfl
theorem dU26 : Turn 1422 (c9o 26 127 2 28) (c9it 26) 605 (c9o 97 511 3 100) (c9it 97) 676 := by
  refine Turn.trans (N := 20) (a' := (c9o 27 127 2 29)) (b' := (c9it 27)) (tk' := 606) rfl ?_ dU27
  intro w os f g r
  kernel_rfl
theorem dU25 : Turn 1442 (c9o 25 127 2 27) (c9it 25) 604 (c9o 97 511 3 100) (c9it 97) 676 := by
  refine Turn.trans (N := 20) (a' := (c9o 26 127 2 28)) (b' := (c9it 26)) (tk' := 605) rfl ?_ dU26
  intro w os f g r
  kernel_rfl
theorem dU24 : Turn 1462 (c9o 24 127 2 26) (c9it 24) 603 (c9o 97 511 3 100) (c9it 97) 676 := by
  refine Turn.trans (N := 20) (a' := (c9o 25 127 2 27)) (b' := (c9it 25)) (tk' := 604) rfl ?_ dU25
  intro w os f g r
  kernel_rfl
theorem dU23 : Turn 1482 (c9o 23 127 2 25) (c9it 23) 602 (c9o 97 511 3 100) (c9it 97) 676 := by
  refine Turn.trans (N := 20) (a' := (c9o 24 127 2 26)) (b' := (c9it 24)) (tk' := 603) rfl ?_ dU24
  intro w os f g r
  kernel_rfl
theorem dU22 : Turn 1502 (c9o 22 127 2 24) (c9it 22) 601 (c9o 97 511 3 100) (c9it 97) 676 := by
  refine Turn.trans (N := 20) (a' := (c9o 23 127 2 25)) (b' := (c9it 23)) (tk' := 602) rfl ?_ dU23
  intro w os f g r
  kernel_rfl
theorem dU21 : Turn 1522 (c9o 21 127 2 23) (c9it 21) 600 (c9o 97 511 3 100) (c9it 97) 676 := by
  refine Turn.trans (N := 20) (a' := (c9o 22 127 2 24)) (b' := (c9it 22)) (tk' := 601) rfl ?_ dU22
  intro w os f g r
  kernel_rfl
theorem dU20 : Turn 1542 (c9o 20 127 2 22) (c9it 20) 599 (c9o 97 511 3 100) (c9it 97) 676 := by
  refine Turn.trans (N := 20) (a' := (c9o 21 127 2 23)) (b' := (c9it 21)) (tk' := 600) rfl ?_ dU21
  intro w os f g r
  kernel_rfl
theorem dU19 : Turn 1562 o126v19 o127v19 598 (c9o 97 511 3 100) (c9it 97) 676 := by
  refine Turn.trans (N := 20) (a' := (c9o 20 127 2 22)) (b' := (c9it 20)) (tk' := 599) rfl ?_ dU20
  intro w os f g r
  kernel_rfl
theorem dU18 : Turn 1584 o126v18 o127v18 597 (c9o 97 511 3 100) (c9it 97) 676 := by
  refine Turn.trans (N := 22) (a' := o126v19) (b' := o127v19) (tk' := 598) rfl ?_ dU19
  intro w os f g r
  kernel_rfl
theorem dU17 : Turn 1604 o126v17 o127v17 596 (c9o 97 511 3 100) (c9it 97) 676 := by
  refine Turn.trans (N := 20) (a' := o126v18) (b' := o127v18) (tk' := 597) rfl ?_ dU18
  intro w os f g r
  kernel_rfl
theorem dU16 : Turn 1624 o126v16 o127v16 595 (c9o 97 511 3 100) (c9it 97) 676 := by
  refine Turn.trans (N := 20) (a' := o126v17) (b' := o127v17) (tk' := 596) rfl ?_ dU17
  intro w os f g r
  kernel_rfl
theorem dU15 : Turn 1644 o126v15 o127v15 594 (c9o 97 511 3 100) (c9it 97) 676 := by
  refine Turn.trans (N := 20) (a' := o126v16) (b' := o127v16) (tk' := 595) rfl ?_ dU16
  intro w os f g r
  kernel_rfl
theorem dU14 : Turn 1664 o126v14 o127v14 593 (c9o 97 511 3 100) (c9it 97) 676 := by
  refine Turn.trans (N := 20) (a' := o126v15) (b' := o127v15) (tk' := 594) rfl ?_ dU15
  intro w os f g r
  kernel_rfl
theorem dU13 : Turn 1684 o126v13 o127v13 592 (c9o 97 511 3 100) (c9it 97) 676 := by
  refine Turn.trans (N := 20) (a' := o126v14) (b' := o127v14) (tk' := 593) rfl ?_ dU14
  intro w os f g r
  kernel_rfl
theorem dU12 : Turn 1704 o126v12 o127v12 591 (c9o 97 511 3 100) (c9it 97) 676 := by
  refine Turn.trans (N := 20) (a' := o126v13) (b' := o127v13) (tk' := 592) rfl ?_ dU13
  intro w os f g r
  kernel_rfl
theorem dU11 : Turn 1724 o126v11 o127v11 590 (c9o 97 511 3 100) (c9it 97) 676 := by
  refine Turn.trans (N := 20) (a' := o126v12) (b' := o127v12) (tk' := 591) rfl ?_ dU12
  intro w os f g r
  kernel_rfl
theorem dU10 : Turn 1744 o126v10 o127v10 589 (c9o 97 511 3 100) (c9it 97) 676 := by
  refine Turn.trans (N := 20) (a' := o126v11) (b' := o127v11) (tk' := 590) rfl ?_ dU11
  intro w os f g r
  kernel_rfl
theorem dU9 : Turn 1764 o126v9 o127v9 588 (c9o 97 511 3 100) (c9it 97) 676 := by
  refine Turn.trans (N := 20) (a' := o126v10) (b' := o127v10) (tk' := 589) rfl ?_ dU10
  intro w os f g r
  kernel_rfl
theorem dU8 : Turn 1784 o126v8 o127v8 587 (c9o 97 511 3 100) (c9it 97) 676 := by
  refine Turn.trans (N := 20) (a' := o126v9) (b' := o127v9) (tk' := 588) rfl ?_ dU9
  intro w os f g r
  kernel_rfl
theorem dU7 : Turn 1804 o126v7 o127v7 586 (c9o 97 511 3 100) (c9it 97) 676 := by
  refine Turn.trans (N := 20) (a' := o126v8) (b' := o127v8) (tk' := 587) rfl ?_ dU8
  intro w os f g r
  kernel_rfl
theorem dU6 : Turn 1824 o126v6 o127v6 585 (c9o 97 511 3 100) (c9it 97) 676 := by
  refine Turn.trans (N := 20) (a' := o126v7) (b' := o127v7) (tk' := 586) rfl ?_ dU7
  intro w os f g r
  kernel_rfl
theorem dU5 : Turn 1844 o126v5 o127v5 584 (c9o 97 511 3 100) (c9it 97) 676 := by
  refine Turn.trans (N := 20) (a' := o126v6) (b' := o127v6) (tk' := 585) rfl ?_ dU6
  intro w os f g r
  kernel_rfl
theorem dU4 : Turn 1866 o126v4 o127v4 583 (c9o 97 511 3 100) (c9it 97) 676 := by
  refine Turn.trans (N := 22) (a' := o126v5) (b' := o127v5) (tk' := 584) rfl ?_ dU5
  intro w os f g r
  kernel_rfl
theorem dU3 : Turn 1886 o126v3 o127v3 582 (c9o 97 511 3 100) (c9it 97) 676 := by
  refine Turn.trans (N := 20) (a' := o126v4) (b' := o127v4) (tk' := 583) rfl ?_ dU4
  intro w os f g r
  kernel_rfl
theorem dU2 : Turn 1906 o126v2 o127v2 581 (c9o 97 511 3 100) (c9it 97) 676 := by
  refine Turn.trans (N := 20) (a' := o126v3) (b' := o127v3) (tk' := 582) rfl ?_ dU3
  intro w os f g r
  kernel_rfl
theorem dU1 : Turn 1926 o126v1 o127v1 580 (c9o 97 511 3 100) (c9it 97) 676 := by
  refine Turn.trans (N := 20) (a' := o126v2) (b' := o127v2) (tk' := 581) rfl ?_ dU2
  intro w os f g r
  kernel_rfl
theorem cZ_f (w : World) (os : OsState) : CutEndF @PySem.W.Fast.tw10110043849684766642 PySem.W.Fast.tw14364793385576792824 pwT 27 [(3, o3v13), (29, o29v8), (126, (c9o 97 511 3 100)), (127, (c9it 97))] 128 676 [(3, o3v14), (29, o29v8)] 130 677 ⟨27, 0, 27, 6⟩ (w.withFollow "special-get-raises" false) os (thU (stkB (w.withFollow "special-get-raises" false) os)) := by
  kernel_rfl
theorem cZ_t (w : World) (os : OsState) : CutEndF @PySem.W.Fast.tw10110043849684766642 PySem.W.Fast.tw14364793385576792824 pwT 27 [(3, o3v13), (29, o29v8), (126, (c9o 97 511 3 100)), (127, (c9it 97))] 128 676 [(3, o3v14), (29, o29v8)] 130 677 ⟨27, 0, 27, 6⟩ (w.withFollow "special-get-raises" true) os (thU (stkB (w.withFollow "special-get-raises" true) os)) := by
  kernel_rfl
theorem pc12_f (w : World) : Piece @PySem.W.Fast.tw10110043849684766642 PySem.W.Fast.tw14364793385576792824 @PySem.W.Fast.tw12563942051412417395 pwT 13 3751 o3v13 o29v8 119 477 ⟨25, 0, 26, 30⟩ o3v14 o29v8 130 677 ⟨27, 0, 27, 6⟩ (w.withFollow "special-get-raises" false) := by
  intro os
  obtain ⟨f, g, r, eB⟩ := two_of (kB_f w os)
  obtain ⟨f1, g1, r1, eA⟩ := two_of (kA_f w os)
  have z := (fQ_eq _).symm.trans (cZ_f w os)
  have u := dU1 (w.withFollow "special-get-raises" false) os f g r
  unfold runU resU at u
  rw [← eB] at u
  have z := tGo_run u z
  have z := tGo_run ((fR_eq _).symm.trans (cB_f w os)) z
  have e := cE4 (w.withFollow "special-get-raises" false) os f1 g1 r1
  rw [← eA] at e
  have z := tGo_run e z
  have e := cE3 (w.withFollow "special-get-raises" false) os f1 g1 r1
  rw [← eA] at e
  have z := tGo_run e z
  have e := cE2 (w.withFollow "special-get-raises" false) os f1 g1 r1
  rw [← eA] at e
  have z := tGo_run e z
  have e := cE1 (w.withFollow "special-get-raises" false) os f1 g1 r1
  rw [← eA] at e
  have z := tGo_run e z
  exact tGo_run (cA_f w os) z
theorem pc12_t (w : World) : Piece @PySem.W.Fast.tw10110043849684766642 PySem.W.Fast.tw14364793385576792824 @PySem.W.Fast.tw12563942051412417395 pwT 13 3751 o3v13 o29v8 119 477 ⟨25, 0, 26, 30⟩ o3v14 o29v8 130 677 ⟨27, 0, 27, 6⟩ (w.withFollow "special-get-raises" true) := by
  intro os
  obtain ⟨f, g, r, eB⟩ := two_of (kB_t w os)
  obtain ⟨f1, g1, r1, eA⟩ := two_of (kA_t w os)
  have z := (fQ_eq _).symm.trans (cZ_t w os)
  have u := dU1 (w.withFollow "special-get-raises" true) os f g r
  unfold runU resU at u
  rw [← eB] at u
  have z := tGo_run u z
  have z := tGo_run ((fR_eq _).symm.trans (cB_t w os)) z
  have e := cE4 (w.withFollow "special-get-raises" true) os f1 g1 r1
  rw [← eA] at e
  have z := tGo_run e z
  have e := cE3 (w.withFollow "special-get-raises" true) os f1 g1 r1
  rw [← eA] at e
  have z := tGo_run e z
  have e := cE2 (w.withFollow "special-get-raises" true) os f1 g1 r1
  rw [← eA] at e
  have z := tGo_run e z
  have e := cE1 (w.withFollow "special-get-raises" true) os f1 g1 r1
  rw [← eA] at e
  have z := tGo_run e z
  exact tGo_run (cA_t w os) z
theorem pc12 (w : World) : Piece @segRunT treeTable @execs pw 13 3751 o3v13 o29v8 119 477 ⟨25, 0, 26, 30⟩ o3v14 o29v8 130 677 ⟨27, 0, 27, 6⟩ w :=
  Piece.twin (byRow2 "special-get-raises" (P := fun w => Piece @PySem.W.Fast.tw10110043849684766642 PySem.W.Fast.tw14364793385576792824 @PySem.W.Fast.tw12563942051412417395 pwT 13 3751 o3v13 o29v8 119 477 ⟨25, 0, 26, 30⟩ o3v14 o29v8 130 677 ⟨27, 0, 27, 6⟩ w) pc12_f pc12_t w)
end
section
theorem pc0 (w : World) : Piece @segRunT treeTable @execs pw 1 30 o3v1 o29v1 32 282 ⟨0, 0, 0, 0⟩ o3v2 o29v2 39 289 ⟨2, 0, 4, 12⟩ w := by
  refine Piece.twin ?_
  intro os
  kernel_rfl
theorem pc1 (w : World) : Piece @segRunT treeTable @execs pw 2 10 o3v2 o29v2 39 289 ⟨2, 0, 4, 12⟩ o3v3 o29v2 39 291 ⟨5, 0, 5, 8⟩ w := by
  refine Piece.twin ?_
  intro os
  kernel_rfl
theorem pc2_false (w : World) : Piece PySem.W.Fast.tw10110043849684766642 PySem.W.Fast.tw14364793385576792824 PySem.W.Fast.tw12563942051412417395 pwT 3 999 o3v3 o29v2 39 291 ⟨5, 0, 5, 8⟩ o3v4 o29v2 50 351 ⟨6, 0, 6, 6⟩ (w.withFollow "special-get-raises" false) := by
  unfold Piece
  rw [tabU_eq]
  intro os
  kernel_rfl
theorem pc2_true (w : World) : Piece PySem.W.Fast.tw10110043849684766642 PySem.W.Fast.tw14364793385576792824 PySem.W.Fast.tw12563942051412417395 pwT 3 999 o3v3 o29v2 39 291 ⟨5, 0, 5, 8⟩ o3v4 o29v2 50 351 ⟨6, 0, 6, 6⟩ (w.withFollow "special-get-raises" true) := by
  unfold Piece
  rw [tabU_eq]
  intro os
  kernel_rfl
theorem pc2 (w : World) : Piece @segRunT treeTable @execs pw 3 999 o3v3 o29v2 39 291 ⟨5, 0, 5, 8⟩ o3v4 o29v2 50 351 ⟨6, 0, 6, 6⟩ w :=
  Piece.twin (byRow2 "special-get-raises" (P := fun w => Piece PySem.W.Fast.tw10110043849684766642 PySem.W.Fast.tw14364793385576792824 PySem.W.Fast.tw12563942051412417395 pwT 3 999 o3v3 o29v2 39 291 ⟨5, 0, 5, 8⟩ o3v4 o29v2 50 351 ⟨6, 0, 6, 6⟩ w) pc2_false pc2_true w)
theorem pc3 (w : World) : Piece @segRunT treeTable @execs pw 4 30 o3v4 o29v2 50 351 ⟨6, 0, 6, 6⟩ o3v5 o29v3 57 358 ⟨7, 0, 8, 30⟩ w := by
  refine Piece.twin ?_
  intro os
  kernel_rfl
theorem pc4 (w : World) : Piece @segRunT treeTable @execs pw 5 30 o3v5 o29v3 57 358 ⟨7, 0, 8, 30⟩ o3v6 o29v4 64 365 ⟨9, 0, 10, 22⟩ w := by
  refine Piece.twin ?_
  intro os
  kernel_rfl
theorem pc5 (w : World) : Piece @segRunT treeTable @execs pw 6 31 o3v6 o29v4 64 365 ⟨9, 0, 10, 22⟩ o3v7 o29v5 71 373 ⟨11, 0, 17, 46⟩ w := by
  refine Piece.twin ?_
  intro os
  kernel_rfl
theorem pc6_false (w : World) : Piece PySem.W.Fast.tw10110043849684766642 PySem.W.Fast.tw14364793385576792824 PySem.W.Fast.tw12563942051412417395 pwT 7 200 o3v7 o29v5 71 373 ⟨11, 0, 17, 46⟩ o3v8 o29v5 76 387 ⟨18, 0, 18, 6⟩ (w.withFollow "special-get-raises" false) := by
  intro os
  kernel_rfl
theorem pc6_true (w : World) : Piece PySem.W.Fast.tw10110043849684766642 PySem.W.Fast.tw14364793385576792824 PySem.W.Fast.tw12563942051412417395 pwT 7 200 o3v7 o29v5 71 373 ⟨11, 0, 17, 46⟩ o3v8 o29v5 76 387 ⟨18, 0, 18, 6⟩ (w.withFollow "special-get-raises" true) := by
  intro os
  kernel_rfl
theorem pc6 (w : World) : Piece @segRunT treeTable @execs pw 7 200 o3v7 o29v5 71 373 ⟨11, 0, 17, 46⟩ o3v8 o29v5 76 387 ⟨18, 0, 18, 6⟩ w :=
  Piece.twin (byRow2 "special-get-raises" (P := fun w => Piece PySem.W.Fast.tw10110043849684766642 PySem.W.Fast.tw14364793385576792824 PySem.W.Fast.tw12563942051412417395 pwT 7 200 o3v7 o29v5 71 373 ⟨11, 0, 17, 46⟩ o3v8 o29v5 76 387 ⟨18, 0, 18, 6⟩ w) pc6_false pc6_true w)
theorem pc7 (w : World) : Piece @segRunT treeTable @execs pw 8 30 o3v8 o29v5 76 387 ⟨18, 0, 18, 6⟩ o3v9 o29v6 83 394 ⟨19, 0, 20, 30⟩ w := by
  refine Piece.twin ?_
  intro os
  kernel_rfl
theorem pc8_false (w : World) : Piece PySem.W.Fast.tw10110043849684766642 PySem.W.Fast.tw14364793385576792824 PySem.W.Fast.tw12563942051412417395 pwT 9 361 o3v9 o29v6 83 394 ⟨19, 0, 20, 30⟩ o3v10 o29v6 88 422 ⟨21, 0, 21, 6⟩ (w.withFollow "special-get-raises" false) := by
  intro os
  kernel_rfl
theorem pc8_true (w : World) : Piece PySem.W.Fast.tw10110043849684766642 PySem.W.Fast.tw14364793385576792824 PySem.W.Fast.tw12563942051412417395 pwT 9 361 o3v9 o29v6 83 394 ⟨19, 0, 20, 30⟩ o3v10 o29v6 88 422 ⟨21, 0, 21, 6⟩ (w.withFollow "special-get-raises" true) := by
  intro os
  kernel_rfl
theorem pc8 (w : World) : Piece @segRunT treeTable @execs pw 9 361 o3v9 o29v6 83 394 ⟨19, 0, 20, 30⟩ o3v10 o29v6 88 422 ⟨21, 0, 21, 6⟩ w :=
  Piece.twin (byRow2 "special-get-raises" (P := fun w => Piece PySem.W.Fast.tw10110043849684766642 PySem.W.Fast.tw14364793385576792824 PySem.W.Fast.tw12563942051412417395 pwT 9 361 o3v9 o29v6 83 394 ⟨19, 0, 20, 30⟩ o3v10 o29v6 88 422 ⟨21, 0, 21, 6⟩ w) pc8_false pc8_true w)
theorem pc9 (w : World) : Piece @segRunT treeTable @execs pw 10 30 o3v10 o29v6 88 422 ⟨21, 0, 21, 6⟩ o3v11 o29v7 95 429 ⟨22, 0, 23, 30⟩ w := by
  refine Piece.twin ?_
  intro os
  kernel_rfl
theorem pc10_false (w : World) : Piece PySem.W.Fast.tw10110043849684766642 PySem.W.Fast.tw14364793385576792824 PySem.W.Fast.tw12563942051412417395 pwT 11 775 o3v11 o29v7 95 429 ⟨22, 0, 23, 30⟩ o3v12 o29v7 112 470 ⟨24, 0, 24, 6⟩ (w.withFollow "special-get-raises" false) := by
  intro os
  kernel_rfl
theorem pc10_true (w : World) : Piece PySem.W.Fast.tw10110043849684766642 PySem.W.Fast.tw14364793385576792824 PySem.W.Fast.tw12563942051412417395 pwT 11 775 o3v11 o29v7 95 429 ⟨22, 0, 23, 30⟩ o3v12 o29v7 112 470 ⟨24, 0, 24, 6⟩ (w.withFollow "special-get-raises" true) := by
  intro os
  kernel_rfl
theorem pc10 (w : World) : Piece @segRunT treeTable @execs pw 11 775 o3v11 o29v7 95 429 ⟨22, 0, 23, 30⟩ o3v12 o29v7 112 470 ⟨24, 0, 24, 6⟩ w :=
  Piece.twin (byRow2 "special-get-raises" (P := fun w => Piece PySem.W.Fast.tw10110043849684766642 PySem.W.Fast.tw14364793385576792824 PySem.W.Fast.tw12563942051412417395 pwT 11 775 o3v11 o29v7 95 429 ⟨22, 0, 23, 30⟩ o3v12 o29v7 112 470 ⟨24, 0, 24, 6⟩ w) pc10_false pc10_true w)
theorem pc11 (w : World) : Piece @segRunT treeTable @execs pw 12 30 o3v12 o29v7 112 470 ⟨24, 0, 24, 6⟩ o3v13 o29v8 119 477 ⟨25, 0, 26, 30⟩ w := by
  refine Piece.twin ?_
  intro os
  kernel_rfl
theorem pc13 (w : World) : Piece @segRunT treeTable @execs pw 14 30 o3v14 o29v8 130 677 ⟨27, 0, 27, 6⟩ o3v15 o29v9 137 684 ⟨28, 0, 29, 30⟩ w := by
  refine Piece.twin ?_
  intro os
  kernel_rfl
theorem pc14 (w : World) : Piece @segRunT treeTable @execs pw 15 10 o3v15 o29v9 137 684 ⟨28, 0, 29, 30⟩ o3v16 o29v9 137 686 ⟨30, 0, 30, 8⟩ w := by
  refine Piece.twin ?_
  intro os
  kernel_rfl
theorem pc15 (w : World) : Piece @segRunT treeTable @execs pw 16 41 o3v16 o29v9 137 686 ⟨30, 0, 30, 8⟩ o3v17 o29v10 144 704 ⟨31, 0, 49, 20⟩ w := by
  refine Piece.twin ?_
  intro os
  kernel_rfl
theorem pc16 (w : World) : Piece @segRunT treeTable @execs pw 17 37 o3v17 o29v10 144 704 ⟨31, 0, 49, 20⟩ o3v18 o29v11 151 718 ⟨50, 0, 70, 24⟩ w := by
  refine Piece.twin ?_
  intro os
  kernel_rfl
theorem pc17 (w : World) : Piece @segRunT treeTable @execs pw 18 10 o3v18 o29v11 151 718 ⟨50, 0, 70, 24⟩ o3v19 o29v11 151 720 ⟨71, 0, 71, 8⟩ w := by
  refine Piece.twin ?_
  intro os
  kernel_rfl
theorem pc18_false (w : World) : Piece PySem.W.Fast.tw10110043849684766642 PySem.W.Fast.tw14364793385576792824 PySem.W.Fast.tw12563942051412417395 pwT 19 141 o3v19 o29v11 151 720 ⟨71, 0, 71, 8⟩ o3v20 o29v11 152 751 ⟨72, 0, 72, 19⟩ (w.withFollow "special-get-raises" false) := by
  intro os
  kernel_rfl
theorem pc18_true (w : World) : Piece PySem.W.Fast.tw10110043849684766642 PySem.W.Fast.tw14364793385576792824 PySem.W.Fast.tw12563942051412417395 pwT 19 141 o3v19 o29v11 151 720 ⟨71, 0, 71, 8⟩ o3v20 o29v11 152 751 ⟨72, 0, 72, 19⟩ (w.withFollow "special-get-raises" true) := by
  intro os
  kernel_rfl
theorem pc18 (w : World) : Piece @segRunT treeTable @execs pw 19 141 o3v19 o29v11 151 720 ⟨71, 0, 71, 8⟩ o3v20 o29v11 152 751 ⟨72, 0, 72, 19⟩ w :=
  Piece.twin (byRow2 "special-get-raises" (P := fun w => Piece PySem.W.Fast.tw10110043849684766642 PySem.W.Fast.tw14364793385576792824 PySem.W.Fast.tw12563942051412417395 pwT 19 141 o3v19 o29v11 151 720 ⟨71, 0, 71, 8⟩ o3v20 o29v11 152 751 ⟨72, 0, 72, 19⟩ w) pc18_false pc18_true w)
theorem pc19 (w : World) : Piece @segRunT treeTable @execs pw 20 33 o3v20 o29v11 152 751 ⟨72, 0, 72, 19⟩ o3v21 o29v12 159 761 ⟨73, 0, 84, 27⟩ w := by
  refine Piece.twin ?_
  intro os
  kernel_rfl
theorem pc20 (w : World) : Piece @segRunT treeTable @execs pw 21 32 o3v21 o29v12 159 761 ⟨73, 0, 84, 27⟩ o3v22 o29v13 166 770 ⟨85, 0, 92, 14⟩ w := by
  refine Piece.twin ?_
  intro os
  kernel_rfl
theorem pc21 (w : World) : Piece @segRunT treeTable @execs pw 22 10 o3v22 o29v13 166 770 ⟨85, 0, 92, 14⟩ o3v23 o29v13 166 772 ⟨93, 0, 93, 8⟩ w := by
  refine Piece.twin ?_
  intro os
  kernel_rfl
theorem pc22 (w : World) : Piece @segRunT treeTable @execs pw 23 70 o3v23 o29v13 166 772 ⟨93, 0, 93, 8⟩ o3v24 o29v13 171 798 ⟨94, 0, 94, 19⟩ w := by
  refine Piece.twin ?_
  intro os
  kernel_rfl
theorem pc23 (w : World) : Piece @segRunT treeTable @execs pw 24 78 o3v24 o29v13 171 798 ⟨94, 0, 94, 19⟩ o3v25 o29v13 176 832 ⟨95, 0, 95, 20⟩ w := by
  refine Piece.twin ?_
  intro os
  kernel_rfl
theorem pc24 (w : World) : Piece @segRunT treeTable @execs pw 25 728 o3v25 o29v13 176 832 ⟨95, 0, 95, 20⟩ o3v26 o29v14 303 988 ⟨96, 0, 165, 16⟩ w := by
  refine Piece.twin ?_
  intro os
  kernel_rfl
theorem pc25 (w : World) : Piece @segRunT treeTable @execs pw 26 10 o3v26 o29v14 303 988 ⟨96, 0, 165, 16⟩ o3v27 o29v14 303 990 ⟨166, 0, 166, 8⟩ w := by
  refine Piece.twin ?_
  intro os
  kernel_rfl
theorem pc26 (w : World) : Piece @segRunT treeTable @execs pw 27 27 o3v27 o29v14 303 990 ⟨166, 0, 166, 8⟩ o3v28 o29v15 308 996 ⟨167, 0, 176, 16⟩ w := by
  refine Piece.twin ?_
  intro os
  kernel_rfl
theorem pc27 (w : World) : Piece @segRunT treeTable @execs pw 28 34 o3v28 o29v15 308 996 ⟨167, 0, 176, 16⟩ o3v29 o29v16 315 1007 ⟨177, 0, 186, 15⟩ w := by
  refine Piece.twin ?_
  intro os
  kernel_rfl
theorem pc28 (w : World) : Piece @segRunT treeTable @execs pw 29 27 o3v29 o29v16 315 1007 ⟨177, 0, 186, 15⟩ o3v30 o29v17 320 1013 ⟨187, 0, 189, 53⟩ w := by
  refine Piece.twin ?_
  intro os
  kernel_rfl
theorem pc29 (w : World) : Piece @segRunT treeTable @execs pw 30 34 o3v30 o29v17 320 1013 ⟨187, 0, 189, 53⟩ o3v31 o29v18 327 1024 ⟨190, 0, 202, 20⟩ w := by
  refine Piece.twin ?_
  intro os
  kernel_rfl
theorem pc30 (w : World) : Piece @segRunT treeTable @execs pw 31 44 o3v31 o29v18 327 1024 ⟨190, 0, 202, 20⟩ o3v32 o29v19 334 1045 ⟨203, 0, 218, 36⟩ w := by
  refine Piece.twin ?_
  intro os
  kernel_rfl
theorem pc31 (w : World) : Piece @segRunT treeTable @execs pw 32 27 o3v32 o29v19 334 1045 ⟨203, 0, 218, 36⟩ o3v33 o29v20 339 1051 ⟨219, 0, 222, 71⟩ w := by
  refine Piece.twin ?_
  intro os
  kernel_rfl
theorem pc32 (w : World) : Piece @segRunT treeTable @execs pw 33 27 o3v33 o29v20 339 1051 ⟨219, 0, 222, 71⟩ o3 o29 344 1057 ⟨223, 0, 249, 69⟩ w := by
  refine Piece.twin ?_
  intro os
  kernel_rfl
end
section
noncomputable abbrev shT (a3 a29 : Params → Obj) (n toks : Nat) (w : World) (os : OsState) : SharedT := ⟨Tr pw a3 a29 w.params, n, {}, #[], {}, toks, os⟩
noncomputable abbrev Run (w : World) (os : OsState) (N : Nat) (s : SharedT) (rest : List Stmt) (pos : Pos) (r : Shared) : Prop := topRun treeTable pw w 28 (some (.ref 6)) N s.abs (restOf rest (envOn pw) (codeOn pw) pos [topFrame q0]) = some r
theorem Run.step {w : World} {os : OsState} {i N M : Nat} {a3 a29 b3 b29 : Params → Obj} {n toks n' toks' : Nat} {p p' : Pos} {rest : List Stmt} {r : Shared} (h : Piece @segRunT treeTable @execs pw i M a3 a29 n toks p b3 b29 n' toks' p' w)
    (k : Run w os N (shT b3 b29 n' toks' w os) rest p' r) : Run w os (M + N) (shT a3 a29 n toks w os) ([stmOf pw i] ++ rest) p r :=
  piece_app (segRun_of (h os)) k
noncomputable abbrev endS (w : World) (os : OsState) : Shared := (shT o3 o29 344 1057 w os).abs
noncomputable def rs33 : List Stmt := []
noncomputable def rs32 : List Stmt := [stmOf pw 33] ++ rs33
noncomputable def rs31 : List Stmt := [stmOf pw 32] ++ rs32
noncomputable def rs30 : List Stmt := [stmOf pw 31] ++ rs31
noncomputable def rs29 : List Stmt := [stmOf pw 30] ++ rs30
noncomputable def rs28 : List Stmt := [stmOf pw 29] ++ rs29
noncomputable def rs27 : List Stmt := [stmOf pw 28] ++ rs28
noncomputable def rs26 : List Stmt := [stmOf pw 27] ++ rs27
noncomputable def rs25 : List Stmt := [stmOf pw 26] ++ rs26
noncomputable def rs24 : List Stmt := [stmOf pw 25] ++ rs25
noncomputable def rs23 : List Stmt := [stmOf pw 24] ++ rs24
noncomputable def rs22 : List Stmt := [stmOf pw 23] ++ rs23
noncomputable def rs21 : List Stmt := [stmOf pw 22] ++ rs22
noncomputable def rs20 : List Stmt := [stmOf pw 21] ++ rs21
noncomputable def rs19 : List Stmt := [stmOf pw 20] ++ rs20
noncomputable def rs18 : List Stmt := [stmOf pw 19] ++ rs19
noncomputable def rs17 : List Stmt := [stmOf pw 18] ++ rs18
noncomputable def rs16 : List Stmt := [stmOf pw 17] ++ rs17
noncomputable def rs15 : List Stmt := [stmOf pw 16] ++ rs16
noncomputable def rs14 : List Stmt := [stmOf pw 15] ++ rs15
noncomputable def rs13 : List Stmt := [stmOf pw 14] ++ rs14
noncomputable def rs12 : List Stmt := [stmOf pw 13] ++ rs13
noncomputable def rs11 : List Stmt := [stmOf pw 12] ++ rs12
noncomputable def rs10 : List Stmt := [stmOf pw 11] ++ rs11
noncomputable def rs9 : List Stmt := [stmOf pw 10] ++ rs10
noncomputable def rs8 : List Stmt := [stmOf pw 9] ++ rs9
noncomputable def rs7 : List Stmt := [stmOf pw 8] ++ rs8
noncomputable def rs6 : List Stmt := [stmOf pw 7] ++ rs7
noncomputable def rs5 : List Stmt := [stmOf pw 6] ++ rs6
noncomputable def rs4 : List Stmt := [stmOf pw 5] ++ rs5
noncomputable def rs3 : List Stmt := [stmOf pw 4] ++ rs4
noncomputable def rs2 : List Stmt := [stmOf pw 3] ++ rs3
noncomputable def rs1 : List Stmt := [stmOf pw 2] ++ rs2
noncomputable def rs0 : List Stmt := [stmOf pw 1] ++ rs1
theorem run33 (w : World) (os : OsState) : Run w os 2 (shT o3 o29 344 1057 w os) rs33 ⟨223, 0, 249, 69⟩ (endS w os) := by
  kernel_rfl
theorem run32 (w : World) (os : OsState) : Run w os (27 + 2) (shT o3v33 o29v20 339 1051 w os) rs32 ⟨219, 0, 222, 71⟩ (endS w os) := Run.step (pc32 w) (run33 w os)
theorem run31 (w : World) (os : OsState) : Run w os (27 + 29) (shT o3v32 o29v19 334 1045 w os) rs31 ⟨203, 0, 218, 36⟩ (endS w os) := Run.step (pc31 w) (run32 w os)
theorem run30 (w : World) (os : OsState) : Run w os (44 + 56) (shT o3v31 o29v18 327 1024 w os) rs30 ⟨190, 0, 202, 20⟩ (endS w os) := Run.step (pc30 w) (run31 w os)
theorem run29 (w : World) (os : OsState) : Run w os (34 + 100) (shT o3v30 o29v17 320 1013 w os) rs29 ⟨187, 0, 189, 53⟩ (endS w os) := Run.step (pc29 w) (run30 w os)
theorem run28 (w : World) (os : OsState) : Run w os (27 + 134) (shT o3v29 o29v16 315 1007 w os) rs28 ⟨177, 0, 186, 15⟩ (endS w os) := Run.step (pc28 w) (run29 w os)
theorem run27 (w : World) (os : OsState) : Run w os (34 + 161) (shT o3v28 o29v15 308 996 w os) rs27 ⟨167, 0, 176, 16⟩ (endS w os) := Run.step (pc27 w) (run28 w os)
theorem run26 (w : World) (os : OsState) : Run w os (27 + 195) (shT o3v27 o29v14 303 990 w os) rs26 ⟨166, 0, 166, 8⟩ (endS w os) := Run.step (pc26 w) (run27 w os)
theorem run25 (w : World) (os : OsState) : Run w os (10 + 222) (shT o3v26 o29v14 303 988 w os) rs25 ⟨96, 0, 165, 16⟩ (endS w os) := Run.step (pc25 w) (run26 w os)
theorem run24 (w : World) (os : OsState) : Run w os (728 + 232) (shT o3v25 o29v13 176 832 w os) rs24 ⟨95, 0, 95, 20⟩ (endS w os) := Run.step (pc24 w) (run25 w os)
theorem run23 (w : World) (os : OsState) : Run w os (78 + 960) (shT o3v24 o29v13 171 798 w os) rs23 ⟨94, 0, 94, 19⟩ (endS w os) := Run.step (pc23 w) (run24 w os)
theorem run22 (w : World) (os : OsState) : Run w os (70 + 1038) (shT o3v23 o29v13 166 772 w os) rs22 ⟨93, 0, 93, 8⟩ (endS w os) := Run.step (pc22 w) (run23 w os)
theorem run21 (w : World) (os : OsState) : Run w os (10 + 1108) (shT o3v22 o29v13 166 770 w os) rs21 ⟨85, 0, 92, 14⟩ (endS w os) := Run.step (pc21 w) (run22 w os)
theorem run20 (w : World) (os : OsState) : Run w os (32 + 1118) (shT o3v21 o29v12 159 761 w os) rs20 ⟨73, 0, 84, 27⟩ (endS w os) := Run.step (pc20 w) (run21 w os)
theorem run19 (w : World) (os : OsState) : Run w os (33 + 1150) (shT o3v20 o29v11 152 751 w os) rs19 ⟨72, 0, 72, 19⟩ (endS w os) := Run.step (pc19 w) (run20 w os)
theorem run18 (w : World) (os : OsState) : Run w os (141 + 1183) (shT o3v19 o29v11 151 720 w os) rs18 ⟨71, 0, 71, 8⟩ (endS w os) := Run.step (pc18 w) (run19 w os)
theorem run17 (w : World) (os : OsState) : Run w os (10 + 1324) (shT o3v18 o29v11 151 718 w os) rs17 ⟨50, 0, 70, 24⟩ (endS w os) := Run.step (pc17 w) (run18 w os)
theorem run16 (w : World) (os : OsState) : Run w os (37 + 1334) (shT o3v17 o29v10 144 704 w os) rs16 ⟨31, 0, 49, 20⟩ (endS w os) := Run.step (pc16 w) (run17 w os)
theorem run15 (w : World) (os : OsState) : Run w os (41 + 1371) (shT o3v16 o29v9 137 686 w os) rs15 ⟨30, 0, 30, 8⟩ (endS w os) := Run.step (pc15 w) (run16 w os)
theorem run14 (w : World) (os : OsState) : Run w os (10 + 1412) (shT o3v15 o29v9 137 684 w os) rs14 ⟨28, 0, 29, 30⟩ (endS w os) := Run.step (pc14 w) (run15 w os)
theorem run13 (w : World) (os : OsState) : Run w os (30 + 1422) (shT o3v14 o29v8 130 677 w os) rs13 ⟨27, 0, 27, 6⟩ (endS w os) := Run.step (pc13 w) (run14 w os)
theorem run12 (w : World) (os : OsState) : Run w os (3751 + 1452) (shT o3v13 o29v8 119 477 w os) rs12 ⟨25, 0, 26, 30⟩ (endS w os) := Run.step (pc12 w) (run13 w os)
theorem run11 (w : World) (os : OsState) : Run w os (30 + 5203) (shT o3v12 o29v7 112 470 w os) rs11 ⟨24, 0, 24, 6⟩ (endS w os) := Run.step (pc11 w) (run12 w os)
theorem run10 (w : World) (os : OsState) : Run w os (775 + 5233) (shT o3v11 o29v7 95 429 w os) rs10 ⟨22, 0, 23, 30⟩ (endS w os) := Run.step (pc10 w) (run11 w os)
theorem run9 (w : World) (os : OsState) : Run w os (30 + 6008) (shT o3v10 o29v6 88 422 w os) rs9 ⟨21, 0, 21, 6⟩ (endS w os) := Run.step (pc9 w) (run10 w os)
theorem run8 (w : World) (os : OsState) : Run w os (361 + 6038) (shT o3v9 o29v6 83 394 w os) rs8 ⟨19, 0, 20, 30⟩ (endS w os) := Run.step (pc8 w) (run9 w os)
theorem run7 (w : World) (os : OsState) : Run w os (30 + 6399) (shT o3v8 o29v5 76 387 w os) rs7 ⟨18, 0, 18, 6⟩ (endS w os) := Run.step (pc7 w) (run8 w os)
theorem run6 (w : World) (os : OsState) : Run w os (200 + 6429) (shT o3v7 o29v5 71 373 w os) rs6 ⟨11, 0, 17, 46⟩ (endS w os) := Run.step (pc6 w) (run7 w os)
theorem run5 (w : World) (os : OsState) : Run w os (31 + 6629) (shT o3v6 o29v4 64 365 w os) rs5 ⟨9, 0, 10, 22⟩ (endS w os) := Run.step (pc5 w) (run6 w os)
theorem run4 (w : World) (os : OsState) : Run w os (30 + 6660) (shT o3v5 o29v3 57 358 w os) rs4 ⟨7, 0, 8, 30⟩ (endS w os) := Run.step (pc4 w) (run5 w os)
theorem run3 (w : World) (os : OsState) : Run w os (30 + 6690) (shT o3v4 o29v2 50 351 w os) rs3 ⟨6, 0, 6, 6⟩ (endS w os) := Run.step (pc3 w) (run4 w os)
theorem run2 (w : World) (os : OsState) : Run w os (999 + 6720) (shT o3v3 o29v2 39 291 w os) rs2 ⟨5, 0, 5, 8⟩ (endS w os) := Run.step (pc2 w) (run3 w os)
theorem run1 (w : World) (os : OsState) : Run w os (10 + 7719) (shT o3v2 o29v2 39 289 w os) rs1 ⟨2, 0, 4, 12⟩ (endS w os) := Run.step (pc1 w) (run2 w os)
theorem run0 (w : World) (os : OsState) : Run w os (30 + 7729) (shT o3v1 o29v1 32 282 w os) rs0 ⟨0, 0, 0, 0⟩ (endS w os) := Run.step (pc0 w) (run1 w os)
noncomputable def allN : Nat := 7759
theorem behind : behindTheImports pw = rs0 := by
  kernel_rfl
end
section
theorem teStepT : @stepT = @PySem.W.Fast.tw10156331382660048174 := PySem.W.Fast.te10156331382660048174
theorem teDen : @denote = @PySem.W.Fast.tw11892475500146522536 := PySem.W.Fast.te11892475500146522536
noncomputable def impEX (tb : String → Option Builtin) (p : Program) (w : World) : Nat → SharedT → Thread → Option Shared
  | 0, _, _ => none
  | n + 1, s, t => match t.atExitBegin with
    | some [] => some s.abs
    | some (_ :: _) => none
    | none => match PySem.W.Fast.tw10156331382660048174 (PySem.W.Fast.tw11892475500146522536 tb) p w s t with
      | some (s', t') => impEX tb p w n s' t'
      | none => none
theorem impEX_of {tb : String → Option Builtin} {p : Program} {w : World} : ∀ {n : Nat} {s : SharedT} {t : Thread} {r : Shared}, impEX tb p w n s t = some r → importEnds tb p w n s.abs t = some r
  | 0, _, _, _, h => by cases h
  | n + 1, s, t, r, h => by
    unfold impEX at h
    unfold importEnds
    cases ha : t.atExitBegin with
    | some l =>
      rw [ha] at h
      cases l with
      | nil => exact h
      | cons _ _ => cases h
    | none =>
      rw [ha] at h
      dsimp only at h ⊢
      cases hs : PySem.W.Fast.tw10156331382660048174 (PySem.W.Fast.tw11892475500146522536 tb) p w s t with
      | none => rw [hs] at h; cases h
      | some x =>
        obtain ⟨s', t'⟩ := x
        rw [hs] at h
        have hs' : stepT (denote tb) p w s t = some (s', t') := by rw [teStepT, teDen]; exact hs
        rw [stepT_spec hs']
        exact impEX_of h
noncomputable def TI (P : Params) : BT := ((TF pw P).set 3 fun _ => o3v1 P).set 11 fun _ => o11v1 P
noncomputable def He (P : Params) : Heap := absHeap (TI P) 28 {}
noncomputable def H0 (P : Params) : Heap := absHeap (Tr pw o3v1 o29v1 P) 28 {}
theorem impAll (w : World) (os : OsState) : impEX PySem.W.Fast.tw14364793385576792824 (opening pwT) w 799 ⟨.nil, 0, {}, #[], {}, 1, os⟩ ⟨PySem.W.Fast.tw2477092760451715423 (opening pwT), .builtin "boot" {}, default, []⟩ = some ⟨He w.params, #[], {}, 276, os⟩ := by
  kernel_rfl
theorem tePw2 : pw = pwT := tePw
theorem startE : start (opening pw) = ((⟨.nil, 0, {}, #[], {}, 1, { stdin := (opening pw).given.stdin.toArray }⟩ : SharedT).abs, ⟨boot (opening pw), .builtin "boot" {}, default, []⟩) := rfl
theorem openH (w : World) : importEnds treeTable (opening pw) w 799 (start (opening pw)).1 (start (opening pw)).2 = some ⟨He w.params, #[], {}, 276, (start (opening pw)).1.os⟩ := by
  rw [startE]
  dsimp only
  refine impEX_of (s := ⟨.nil, 0, {}, #[], {}, 1, { stdin := (opening pw).given.stdin.toArray }⟩) ?_
  have h := impAll w { stdin := (opening pw).given.stdin.toArray }
  rw [← PySem.W.Fast.te2477092760451715423, ← teTab, ← tePw2] at h
  exact h
theorem fenceW : ∀ w : World, (fun os => (PySem.W.Fast.tw14289696077712309145 pwT ⟨He w.params, #[], {}, 276, os⟩).map (fun s => (s.heap, s.gens, s.drawn, s.toks))) = fun _ => some (H0 w.params, #[], {}, 276) := by
  intro w
  kernel_rfl
theorem fenceW2 : ∀ w : World, (fun os => (fenceModules? pw ⟨He w.params, #[], {}, 276, os⟩).map (fun s => (s.heap, s.gens, s.drawn, s.toks))) = fun _ => some (H0 w.params, #[], {}, 276) := by
  rw [PySem.W.Fast.te14289696077712309145, tePw2]
  exact fenceW
theorem openW : ∀ w : World, (fencedOpening treeTable pw w 15574).map (fun s => (s.heap, s.gens, s.drawn, s.toks)) = some (H0 w.params, #[], {}, 276) :=
  open_cut (He := He) (H₀ := H0) openH (by decide +kernel) fenceW2
theorem sizeT : ∀ w : World, ((H0 w.params).isNs mainGlobals && (#[] : Array GenState).size == 0, (H0 w.params).objs.size, PySem.W.Fast.tw8920871248978507458 (H0 w.params) mainGlobals "__annotations__") = (true, 28, some (.ref 6)) := by
  intro w
  kernel_rfl
theorem sizeW : ∀ w : World, ((H0 w.params).isNs mainGlobals && (#[] : Array GenState).size == 0, (H0 w.params).objs.size, (H0 w.params).nsMap mainGlobals "__annotations__") = (true, 28, some (.ref 6)) := by
  rw [PySem.W.Fast.te8920871248978507458]
  exact sizeT
theorem preT1 (w : World) (os : OsState) : PySem.W.Fast.tw15667345088766844465 PySem.W.Fast.tw14364793385576792824 pwT w 28 (some (.ref 6)) 12 ⟨H0 w.params, #[], {}, 276, os⟩ (topStub pwT) = some ((shT o3v1 o29v1 32 282 w os).abs, ⟨PySem.W.Fast.tw11892475500146522536 PySem.W.Fast.tw14364793385576792824 (codeOn pwT), codeOn pwT, ⟨0, 0, 0, 0⟩, [topFrame q0]⟩) := by
  kernel_rfl
theorem preW (w : World) (os : OsState) : topGo treeTable pw w 28 (some (.ref 6)) 12 ⟨H0 w.params, #[], {}, 276, os⟩ (topStub pw) = some ((shT o3v1 o29v1 32 282 w os).abs, ⟨denote treeTable (codeOn pw), codeOn pw, ⟨0, 0, 0, 0⟩, [topFrame q0]⟩) := by
  have h := preT1 w os
  rw [← PySem.W.Fast.te15667345088766844465, ← teTab, ← teDen, ← tePw] at h
  exact h
theorem blockW (w : World) (os : OsState) : segRun treeTable pw w 28 (some (.ref 6)) 1 1 (shT o3v1 o29v1 32 282 w os).abs (blockOf (behindTheImports pw) (envOn pw) (codeOn pw) ⟨0, 0, 0, 0⟩ [topFrame q0]) = some (.next, (shT o3v1 o29v1 32 282 w os).abs, codeOn pw, ⟨0, 0, 0, 0⟩) := by
  kernel_rfl
theorem runW (w : World) (os : OsState) : topRun treeTable pw w 28 (some (.ref 6)) (12 + (1 + allN)) ⟨H0 w.params, #[], {}, 276, os⟩ (topStub pw) = some (endS w os) := by
  refine go_top (preW w os) ?_
  refine piece_block (blockW w os) ?_
  rw [behind]
  exact run0 w os
end
open PySem.Calls
/-- what lies beside the ledger is kept -/
noncomputable def Kp (led : List (Addr × Obj)) (h h' : Heap) : Prop := ∀ b o, (∀ p ∈ led, p.1 ≠ b) → h.get? b = some o → h'.get? b = some o
noncomputable def Fresh (led : List (Addr × Obj)) (h : Heap) (new : List (Addr × Obj)) : Prop := ∀ q ∈ new, (∀ p ∈ led, p.1 ≠ q.1) → h.get? q.1 = none
noncomputable def NeOne (a : Addr) : List (Addr × Obj) → Prop
  | [] => True
  | p :: r => a ≠ p.1 ∧ NeOne a r
noncomputable def NeAll : List (Addr × Obj) → List (Addr × Obj) → Prop
  | [], _ => True
  | q :: r, l => NeOne q.1 l ∧ NeAll r l
theorem neOne_of {a : Addr} : ∀ {l : List (Addr × Obj)}, (∀ p ∈ l, a ≠ p.1) → NeOne a l
  | [], _ => trivial
  | p :: _, h => ⟨h p (.head _), neOne_of fun q hq => h q (.tail _ hq)⟩
theorem neAll_of {l : List (Addr × Obj)} : ∀ {n : List (Addr × Obj)}, (∀ q ∈ n, ∀ p ∈ l, q.1 ≠ p.1) → NeAll n l
  | [], _ => trivial
  | q :: _, h => ⟨neOne_of (h q (.head _)), neAll_of fun r hr => h r (.tail _ hr)⟩
noncomputable def Spec (D : Nat) (w : World) (f : Addr) (vs : List Value) (led : List (Addr × Obj)) (post : Nat → Value → List (Addr × Obj) → Prop) (kw : List (Str × Value) := []) : Prop :=
  ∀ (p : Program) (loose : List Str) (mean : ExcName → Option Value) (mg mb : Str → Option Value) (dp un : Nat) (gd : Option (List Code)) (cn : Str) (cs : Scope) (a : Addr) (ccd : Value) (cl : List (Str × Addr)) (outer : List Env) (A₀ : Around) (base h₀ : Heap) (L : Addr) (m : Str → Option Value) (s : Shared) (Q E : Value → Shared → Prop),
    Below A₀ base outer h₀ → Fr h₀ L s.heap m → (myK w.params).In h₀ → News h₀ L s.heap led → Top p loose mean mg mb h₀ → cs.kind = .function → dp + D < recursionLimit → un + 30 * D < cLine →
    (∀ v new h' tk', post s.heap.objs.size v new → Fr h₀ L h' m → News h₀ L h' new → Kp led s.heap h' → Fresh led s.heap new → Q v { s with heap := h', toks := tk' }) →
    wpAny (model pw w) (ktrTop dp un gd cn cs L a ccd cl outer) (call (.ref f) vs kw) Q E s
noncomputable def SpecP (D : Nat) (w : World) (f : Addr) (vs : List Value) (led : List (Addr × Obj)) (pre : Heap → Prop) (post : Nat → Value → List (Addr × Obj) → Prop) (kw : List (Str × Value) := []) : Prop :=
  ∀ (p : Program) (loose : List Str) (mean : ExcName → Option Value) (mg mb : Str → Option Value) (dp un : Nat) (gd : Option (List Code)) (cn : Str) (cs : Scope) (a : Addr) (ccd : Value) (cl : List (Str × Addr)) (outer : List Env) (A₀ : Around) (base h₀ : Heap) (L : Addr) (m : Str → Option Value) (s : Shared) (Q E : Value → Shared → Prop),
    pre s.heap → Below A₀ base outer h₀ → Fr h₀ L s.heap m → (myK w.params).In h₀ → News h₀ L s.heap led → Top p loose mean mg mb h₀ → cs.kind = .function → dp + D < recursionLimit → un + 30 * D < cLine →
    (∀ v new h' tk', post s.heap.objs.size v new → Fr h₀ L h' m → News h₀ L h' new → Kp led s.heap h' → Fresh led s.heap new → Q v { s with heap := h', toks := tk' }) →
    wpAny (model pw w) (ktrTop dp un gd cn cs L a ccd cl outer) (call (.ref f) vs kw) Q E s
theorem SpecP.to {D : Nat} {w : World} {f : Addr} {vs : List Value} {led : List (Addr × Obj)} {pre : Heap → Prop} {post : Nat → Value → List (Addr × Obj) → Prop} {kw : List (Str × Value)} (S : SpecP D w f vs led pre post kw)
    {p : Program} {loose : List Str} {mean : ExcName → Option Value} {mg mb : Str → Option Value} {dp un : Nat} {gd : Option (List Code)} {cn : Str} {cs : Scope} {a : Addr} {ccd : Value} {cl : List (Str × Addr)} {outer : List Env} {A₀ : Around} {base h₀ : Heap} {L : Addr} {m : Str → Option Value} {s : Shared} {Q E : Value → Shared → Prop} {rest : List (Addr × Obj)} (hp : pre s.heap)
    (B : Below A₀ base outer h₀) (F : Fr h₀ L s.heap m) (K : (myK w.params).In h₀) (N : News h₀ L s.heap (led ++ rest)) (T : Top p loose mean mg mb h₀) (k : cs.kind = .function) (hd : dp + D < recursionLimit) (hu : un + 30 * D < cLine)
    (hne : ∀ p ∈ rest, ∀ q ∈ led, q.1 ≠ p.1)
    (h : ∀ v new h' tk' n₀, (∀ p ∈ rest, p.1 < n₀) → post n₀ v new → Fr h₀ L h' m → News h₀ L h' (new ++ rest) → (∀ q ∈ new, (∀ p ∈ led, p.1 ≠ q.1) → ∀ p ∈ rest, q.1 ≠ p.1) → (∀ b o, (∀ p ∈ led, p.1 ≠ b) → s.heap.get? b = some o → h'.get? b = some o) → Q v { s with heap := h', toks := tk' }) :
    wpAny (model pw w) (ktrTop dp un gd cn cs L a ccd cl outer) (call (.ref f) vs kw) Q E s := by
  refine S _ _ _ _ _ _ _ _ _ _ _ _ _ _ _ _ _ _ _ _ _ _ hp B F K (fun q hq => N q (List.mem_append_left _ hq)) T k hd hu fun v new h' tk' hp F' N' kp fr => ?_
  refine h v new h' tk' _ (fun q hq => Heap.lt_size (N q (List.mem_append_right _ hq)).1) hp F' (fun q hq => ?_) (fun q hq ne c hc e => ?_) kp
  rotate_left
  · have := fr q hq ne
    rw [e, (N c (List.mem_append_right _ hc)).1] at this
    cases this
  rcases List.mem_append.mp hq with hq | hq
  · exact N' q hq
  · have n := N q (List.mem_append_right _ hq)
    exact ⟨kp _ _ (hne q hq) n.1, n.2⟩
theorem Spec.use {D : Nat} {w : World} {f : Addr} {vs : List Value} {led rest : List (Addr × Obj)} {post : Nat → Value → List (Addr × Obj) → Prop} {kw : List (Str × Value)} (S : Spec D w f vs led post kw)
    {p : Program} {loose : List Str} {mean : ExcName → Option Value} {mg mb : Str → Option Value} {dp un : Nat} {gd : Option (List Code)} {cn : Str} {cs : Scope} {a : Addr} {ccd : Value} {cl : List (Str × Addr)} {outer : List Env} {A₀ : Around} {base h₀ : Heap} {L : Addr} {m : Str → Option Value} {s : Shared} {Q E : Value → Shared → Prop}
    (B : Below A₀ base outer h₀) (F : Fr h₀ L s.heap m) (K : (myK w.params).In h₀) (N : News h₀ L s.heap (led ++ rest)) (T : Top p loose mean mg mb h₀) (k : cs.kind = .function) (hd : dp + D < recursionLimit) (hu : un + 30 * D < cLine)
    (hne : ∀ p ∈ rest, ∀ q ∈ led, q.1 ≠ p.1)
    (h : ∀ v new h' tk' n₀, (∀ p ∈ rest, p.1 < n₀) → post n₀ v new → Fr h₀ L h' m → News h₀ L h' (new ++ rest) → (∀ q ∈ new, (∀ p ∈ led, p.1 ≠ q.1) → ∀ p ∈ rest, q.1 ≠ p.1) → Q v { s with heap := h', toks := tk' }) :
    wpAny (model pw w) (ktrTop dp un gd cn cs L a ccd cl outer) (call (.ref f) vs kw) Q E s := by
  refine S _ _ _ _ _ _ _ _ _ _ _ _ _ _ _ _ _ _ _ _ _ _ B F K (fun q hq => N q (List.mem_append_left _ hq)) T k hd hu fun v new h' tk' hp F' N' kp fr => ?_
  refine h v new h' tk' _ (fun q hq => Heap.lt_size (N q (List.mem_append_right _ hq)).1) hp F' (fun q hq => ?_) fun q hq ne c hc e => ?_
  rotate_left
  · have := fr q hq ne
    rw [e, (N c (List.mem_append_right _ hc)).1] at this
    cases this
  rcases List.mem_append.mp hq with hq | hq
  · exact N' q hq
  · have n := N q (List.mem_append_right _ hq)
    exact ⟨kp _ _ (hne q hq) n.1, n.2⟩
theorem Spec.use0 {D : Nat} {w : World} {f : Addr} {vs : List Value} {rest : List (Addr × Obj)} {post : Nat → Value → List (Addr × Obj) → Prop} {kw : List (Str × Value)} (S : Spec D w f vs [] post kw)
    {p : Program} {loose : List Str} {mean : ExcName → Option Value} {mg mb : Str → Option Value} {dp un : Nat} {gd : Option (List Code)} {cn : Str} {cs : Scope} {a : Addr} {ccd : Value} {cl : List (Str × Addr)} {outer : List Env} {A₀ : Around} {base h₀ : Heap} {L : Addr} {m : Str → Option Value} {s : Shared} {Q E : Value → Shared → Prop}
    (B : Below A₀ base outer h₀) (F : Fr h₀ L s.heap m) (K : (myK w.params).In h₀) (N : News h₀ L s.heap rest) (T : Top p loose mean mg mb h₀) (k : cs.kind = .function) (hd : dp + D < recursionLimit) (hu : un + 30 * D < cLine)
    (h : ∀ v new h' tk' n₀, (∀ p ∈ rest, p.1 < n₀) → post n₀ v new → Fr h₀ L h' m → News h₀ L h' (new ++ rest) → NeAll new rest → Q v { s with heap := h', toks := tk' }) :
    wpAny (model pw w) (ktrTop dp un gd cn cs L a ccd cl outer) (call (.ref f) vs kw) Q E s := S.use (led := []) B F K N T k hd hu (fun _ _ _ hq => nomatch hq) fun v new h' tk' n₀ l hp F' N' ne => h v new h' tk' n₀ l hp F' N' (neAll_of fun q hq => ne q hq fun _ hp => nomatch hp)
theorem fresh_of {h h₂ : Heap} {L' : Addr} {led new : List (Addr × Obj)} (N : News (hideAll h (led.map (·.1))) L' h₂ new) : Fresh led h new := by
  intro q hq ne
  cases e : h.get? q.1 with
  | none => rfl
  | some o =>
    have := hideAll_get (led.map (·.1)) e fun x => by
      obtain ⟨p, hp, e'⟩ := List.mem_map.mp x
      exact ne p hp e'
    rw [(N q hq).2.2] at this; cases this
theorem fresh_nil {led : List (Addr × Obj)} {h : Heap} : Fresh led h [] := fun _ hq => nomatch hq
theorem hFrOf {g h h₂ : Heap} {L' : Addr} {led new : List (Addr × Obj)} (f : ∀ new h₂, News g L' h₂ new → Fresh led h new) (N : News g L' h₂ new) : Fresh led h new := f _ _ N
theorem leaveKp {h₀ : Heap} {L : Addr} {m : Str → Option Value} {h : Heap} {led : List (Addr × Obj)} {R : Result → Shared → Prop} {v : Value} {s' : Shared}
    (x : LeaveK h₀ L m (hideAll h (led.map (·.1))) (fun r s' => Kp led h s'.heap → R r s') v s') : LeaveK h₀ L m (hideAll h (led.map (·.1))) R v s' := by
  obtain ⟨L', m', news', F', N', k⟩ := x
  refine ⟨L', m', news', F', N', fun a b => k a b fun c o hc e => F'.keep c o (hideAll_get _ e fun q => ?_)⟩
  obtain ⟨p, hp, rfl⟩ := List.mem_map.mp q
  exact hc p hp rfl
section
variable {prog : Program} {w : World} {A A₀ : Around} {s : Shared} {K : Frag} {L : Addr} {h₀ base : Heap} {m mg mb : Str → Option Value} {led : List (Addr × Obj)} {p : Program} {loose : List Str} {mean : ExcName → Option Value}
  {env : Env} {outer : List Env} {R : Result → Shared → Prop} {name qual : Str} {params : Arguments} {body : List Stmt} {scope : Scope} {dV kV doc pm cdv ct oc : Value} {an od : Option Addr} {osl : Array (Option Value)} {f : Addr} {args : Args} {binds : List (Str × Value)}
theorem code_plainT (B : Below A₀ base outer h₀) (F : Fr h₀ L s.heap m) (X₀ : K.In h₀) (N : News h₀ L s.heap led) (T : Top p loose mean mg mb h₀) (hA : A.frames = some (env :: outer)) (hf : env.frame = some L) (hke : env.scope.kind = .function)
    (ho : K.lookup f = some ⟨oc, od, .func (fnOf name qual params body scope dV kV doc pm an cdv ct), osl⟩) (hcd : codeIn K cdv qual = true) (hroom : A.depth < recursionLimit)
    (hbind : BindsTo s (fnOf name qual params body scope dV kV doc pm an cdv ct) args binds) (hloc : ∀ y ∈ binds, scope.names.lookup y.1 = some .local)
    (h : ∀ g L' h₁, Fr h₀ L g m → Fr g L' h₁ (fun y => binds.reverse.lookup y) → News g L' h₁ led → Below A base (env :: outer) g → K.In g → Top p loose mean mg mb g → s.heap.objs.size ≤ L' → (∀ new h₂, News g L' h₂ new → Fresh led s.heap new) → (∀ b o, s.heap.get? b = some o → (∀ p ∈ led, p.1 ≠ b) → g.get? b = some o) → (∀ p ∈ led, p.1 < L') →
      wpAny (model prog w) (A.deeper (envOf qual scope L' f cdv)) (execs body (envOf qual scope L' f cdv))
        (fun fl s' => LeaveK h₀ L m g (fun r s' => Kp led s.heap s'.heap → R r s') (match fl with | .ret v => v | _ => .none) s')
        (fun e s' => wpAny (model prog w) (A.deeper (envOf qual scope L' f cdv)) (leaving (envOf qual scope L' f cdv) e) (fun _ s'' => R (.error e) s'') (fun e' s'' => R (.error e') s'') s')
        { s with heap := h₁, toks := s.toks + binds.length })
    (hco : scope.isCoroutine = false) (hgen : scope.isGenerator = false) (hk : scope.kind = .function)
    (hcell : ∀ x ∈ scope.names, x.2 ≠ .cell) : codeAny (model prog w) A (.call (.ref f) args) R s := by
  obtain ⟨FG, BG, st, lv⟩ := groundX (R := R) B F N hA hf hke
  refine codeAny_call_def (fd := fnOf name qual params body scope dV kV doc pm an cdv ct) (body := body) (binds := binds) hroom ((X₀.keeps F.keep) _ _ ho) rfl (T.nolimit.keeps F.keep) (codeRec_of (X₀.keeps F.keep) hcd) rfl hbind hcell hloc (fun h₁ hns hk₁ => ?_) hco hgen hk
  have old : ∀ q ∈ led, q.1 < s.heap.objs.size := fun q hq => Heap.lt_size (N q hq).1
  refine wpAny_mono (h _ s.heap.objs.size h₁ FG ⟨hns, fun b o e => hk₁ b o (of_hideAll _ e), Nat.le_of_eq (hideAll_size _ _)⟩ (fun q hq => ?_) BG (X₀.keeps st) (T.keeps st) (Nat.le_refl _) (fun _ _ N₂ => fresh_of N₂) (fun b o e ne => hideAll_get _ e fun x => by obtain ⟨p, hp, e'⟩ := List.mem_map.mp x; exact ne p hp e') old) (fun fl s' hl => lv _ _ (leaveKp hl)) fun _ _ y => y
  exact ⟨hk₁ _ _ (N q hq).1, Nat.ne_of_lt (old q hq), hideAll_none _ (List.mem_map_of_mem hq)⟩
theorem code_cellsT (B : Below A₀ base outer h₀) (F : Fr h₀ L s.heap m) (X₀ : K.In h₀) (N : News h₀ L s.heap led) (T : Top p loose mean mg mb h₀) (hA : A.frames = some (env :: outer)) (hf : env.frame = some L) (hke : env.scope.kind = .function)
    (ho : K.lookup f = some ⟨oc, od, .func (fnOf name qual params body scope dV kV doc pm an cdv ct), osl⟩) (hcd : codeIn K cdv qual = true) (hroom : A.depth < recursionLimit)
    (hbind : BindsTo s (fnOf name qual params body scope dV kV doc pm an cdv ct) args binds) (hkind : (binds.all fun y => scope.names.lookup y.1 == some .local || scope.names.lookup y.1 == some .cell) = true)
    (hnd : ((cellsFrom 0 scope.names []).map (·.1)).Nodup)
    (h : ∀ g L' h₁ tk cells, Fr h₀ L g m → Fr g L' h₁ (bindL (envOfC qual scope L' f cdv).kindOf binds fun _ => none) → News g L' h₁ (cells ++ led) →
      CellsAre (bindC (envOfC qual scope L' f cdv).kindOf binds fun _ => none) (cellsFrom (L' + 1) scope.names []) cells → Below A base (env :: outer) g → K.In g → Top p loose mean mg mb g → s.heap.objs.size ≤ L' → (∀ new h₂, News g L' h₂ new → Fresh led s.heap new) → (∀ b o, s.heap.get? b = some o → (∀ p ∈ led, p.1 ≠ b) → g.get? b = some o) → (∀ p ∈ led, p.1 < L') →
      wpAny (model prog w) (A.deeper (envOfC qual scope L' f cdv)) (execs body (envOfC qual scope L' f cdv))
        (fun fl s' => LeaveK h₀ L m g (fun r s' => Kp led s.heap s'.heap → R r s') (match fl with | .ret v => v | _ => .none) s')
        (fun e s' => wpAny (model prog w) (A.deeper (envOfC qual scope L' f cdv)) (leaving (envOfC qual scope L' f cdv) e) (fun _ s'' => R (.error e) s'') (fun e' s'' => R (.error e') s'') s')
        { s with heap := h₁, toks := tk })
    (hco : scope.isCoroutine = false) (hgen : scope.isGenerator = false) (hk : scope.kind = .function) : codeAny (model prog w) A (.call (.ref f) args) R s := by
  obtain ⟨FG, BG, st, lv⟩ := groundX (R := R) B F N hA hf hke
  have old : ∀ q ∈ led, q.1 < s.heap.objs.size := fun q hq => Heap.lt_size (N q hq).1
  refine codeAny_call_function hroom ((X₀.keeps F.keep) _ _ ho) rfl hco hgen rfl (codeRec_of (X₀.keeps F.keep) hcd) (hbind _ _ _ _ ?_)
  refine wpAny_newFunctionEnv_cells hk (kindsX hkind _) fun env' he s' x => ?_
  subst he
  refine ⟨(T.nolimit.keeps F.keep).keeps x.toInCall.keep, codeAny_func ?_⟩
  obtain ⟨h₁, tk, rfl, _⟩ := x.done
  have hk₁ := x.toInCall.keep
  obtain ⟨cells, NC, Y⟩ := Cl.news (h₀ := s.heap) (Nat.le_refl _) fun n c hm => ⟨x.cell n c (lookup_of_mem_nodup (cellsFrom_names scope.names 0 (s.heap.objs.size + 1) [] [] rfl ▸ hnd) hm), x.above n c hm⟩
  refine wpAny_mono (h _ s.heap.objs.size h₁ tk cells FG ⟨x.toInCall.ns, fun b o e => hk₁ b o (of_hideAll _ e), Nat.le_of_eq (hideAll_size _ _)⟩ (fun q hq => ?_) Y BG (X₀.keeps st) (T.keeps st) (Nat.le_refl _) (fun _ _ N₂ => fresh_of N₂) (fun b o e ne => hideAll_get _ e fun x => by obtain ⟨p, hp, e'⟩ := List.mem_map.mp x; exact ne p hp e') old) (fun fl s' hl => lv _ _ (leaveKp hl)) fun _ _ y => y
  rcases List.mem_append.mp hq with hq | hq
  · have n := NC q hq
    refine ⟨n.1, n.2.1, ?_⟩
    cases e : (hideAll s.heap (led.map (·.1))).get? q.1 with
    | none => rfl
    | some o => have := of_hideAll _ e; rw [n.2.2] at this; cases this
  · exact ⟨hk₁ _ _ (N q hq).1, Nat.ne_of_lt (old q hq), hideAll_none _ (List.mem_map_of_mem hq)⟩
end
local macro_rules | `(tactic| walk_at "m enter") => `(tactic| first
  | (refine' code_plainT ?k1 ?k2 ?k3 ?k4 ?k5 ?kA ?kF ?kK ?k6 ?k7 ?k8 ?k9 ?kB ?_ ?c2 ?c3 ?c4 ?c5; (case kA => exact rfl); (case kF => exact rfl); (case kK => first | assumption | exact rfl); (case k1 => k_asm); (case k2 => k_asm); (case k3 => k_asm); (case k4 => k_asm); (case k5 => k_asm); (case k6 => k_is); (case k7 => k_is); (case k8 => ktr_room); (case k9 => first | exact BindsTo.of_eq rfl | exact binds_K (by k_in) rfl (by k_is) rfl rfl rfl); (case c5 => decide); (case kB => exact locs rfl); (case c2 => exact rfl); (case c3 => exact rfl); (case c4 => exact rfl); k_whole; intro g' L' h' FG' F' N' B' X' T' hL hFr hgk l1; (try k_lt l1); (try dsimp only); (try k_lift B'); (try k_fold))
  | (refine' code_cellsT ?k1 ?k2 ?k3 ?k4 ?k5 ?kA ?kF ?kK ?k6 ?k7 ?k8 ?k9 ?kB ?kD ?_ ?c2 ?c3 ?c4; (case kA => exact rfl); (case kF => exact rfl); (case kK => first | assumption | exact rfl); (case k1 => k_asm); (case k2 => k_asm); (case k3 => k_asm); (case k4 => k_asm); (case k5 => k_asm); (case k6 => k_is); (case k7 => k_is); (case k8 => ktr_room); (case k9 => first | exact BindsTo.of_eq rfl | exact binds_K (by k_in) rfl (by k_is) rfl rfl rfl | fail "k_enter: no rule for these arguments"); (case kB => exact rfl); (case kD => decide +kernel); (case c2 => exact rfl); (case c3 => exact rfl); (case c4 => exact rfl); k_whole; intro g' L' h' tk' cells' FG' F' N' Y' B' X' T' hL hFr hgk l1; (try k_lt l1); k_cells Y'; (try simp only [List.cons_append, List.nil_append, List.append_nil] at N'); (try dsimp only); (try k_lift B'); (try k_fold)))
theorem ap2 {α β : Type} {q : α → β → Prop} {a : α} {b : β} (h : q a b) : q a b := h
theorem gen_tk {α : Type} {M : Model} {A : Around} {t : Sem α} {Q : α → Shared → Prop} {E : Value → Shared → Prop} {h : Heap} {g : Array GenState} {d : Drawn} {k : Nat} {o : OsState} (H : ∀ tk, wpAny M A t Q E ⟨h, g, d, tk, o⟩) : wpAny M A t Q E ⟨h, g, d, k, o⟩ := H k
noncomputable def StopK (k : String) (P : Prop) : Prop := P
theorem stopK (k : String) {P : Prop} (h : StopK k P) : P := h
theorem goK (k : String) {P : Prop} (h : P) : StopK k P := h
local macro_rules | `(tactic| k_ne) => `(tactic| (refine neN ?_; (try dsimp only); walk_at "m ne9"))
set_option hygiene false in
local macro_rules
  | `(tactic| walk_at "m use") => `(tactic| ((case mB => k_asm); (case mF => k_asm); (case mK => k_asm); (case mN => k_asm); (case mT => k_asm); (case mk => first | exact rfl | assumption); (case md => ktr_room); (case mu => ktr_units)))
  | `(tactic| walk_at "m step") => `(tactic| ((fail_if_success (with_reducible show StopK _ _)); first | (k_unfold; (try dsimp only)) | (k_end; wrow_close) | ((with_reducible show wpAny _ _ (execs (_ :: _) _) _ _ _); k_fold; (try dsimp only); (try with_reducible refine gen_tk (fun _ => ?_))) | walk1 | (dsimp only; walk1) | (leave1; walk_say "STEP leave1"; try dsimp only) | ((try dsimp only); refine ap2 ?_; k_unfold; (try dsimp only)) | fail "no step"))
  | `(tactic| walk_at "m steps") => `(tactic| repeat' (walk_at "m step"))
  | `(tactic| walk_at "m ne9") => `(tactic| first | assumption | exact Ne.symm (by assumption) | ((repeat (with_reducible rename (_ ≠ _ ∧ _) ∧ _ => h9; clear h9)); (repeat (with_reducible rename _ ≠ _ ∧ _ => h9; clear h9)); (repeat (with_reducible rename @Ne Nat _ _ => h9; clear h9)); omega) | ((repeat (with_reducible rename _ ∧ _ => h9; obtain ⟨_, _⟩ := h9)); first | assumption | exact Ne.symm (by assumption)) | omega)
  | `(tactic| walk_at "m news") => `(tactic| first | exact News.nil | assumption | (refine' cb_drop ?cbN ?cbS; (case cbN => assumption); (case cbS => kcj_all)))
  | `(tactic| walk_at "m begin") => `(tactic| ((first | unfold Spec | unfold SpecP); intros; rename_i hret; w_on; refine wpAny_call ?_; k_dflt walk_at "m enter"))
  | `(tactic| walk_at "m after") => `(tactic| ((try simp only [List.cons_append, List.nil_append, List.append_nil] at l1 N'); (try k_lt l1); (try simp only [NeAll, NeOne, and_true, true_and] at ne'); (try k_sweep)))
  | `(tactic| walk_at "m fresh") => `(tactic| first | exact fresh_nil | (refine' hFrOf ?hFx ?hFy; (case hFx => assumption); (case hFy => walk_at "m news")))
  | `(tactic| walk_at $s:str) => do
    let i := Lean.mkIdent (Lean.Name.mkSimple ("stop " ++ s.getString))
    `(tactic| ((fail_if_success (have h9 := noK9)); (fail_if_success (fail_if_success (have h9 := $i))); refine stopK $s ?_))
open PySem.Calls
theorem reg : PySem.Challenge.rw_wf0074_01 = PySem.Challenge.rw_wf0074_01 ∧ myK = myK := by
  k_fill
  exact ⟨rfl, rfl⟩
noncomputable def okSet (es : Array (Int × Value)) (t : SetTable) : Bool := es.toList.all (fun e => match e.2 with | .int i _ => i == e.1 && hashInt i == i | _ => false) && decide (es.size < scanBound) && t.fits es.size
theorem setOf_ints {prog : Program} {w : World} {h : Heap} {a : Addr} {es : Array (Int × Value)} {ep : Nat} {t : SetTable} (ho : h.get? a = some ⟨.type "set", none, .set es ep t, #[]⟩) (ok : okSet es t = true) :
    h.SetOf (intKind prog w) a (fun k => es.toList.any fun e => e.1 == k) es.size := by
  unfold okSet at ok
  rw [Bool.and_eq_true, Bool.and_eq_true] at ok
  obtain ⟨⟨h1, h2⟩, h3⟩ := ok
  rw [List.all_eq_true] at h1
  have key : ∀ e ∈ es.toList, ∃ u, e.2 = .int e.1 u ∧ hashInt e.1 = e.1 := by
    intro e he
    have := h1 e he
    obtain ⟨i, v⟩ := e
    cases v <;> simp at this
    obtain ⟨rfl, q⟩ := this
    exact ⟨_, rfl, q⟩
  refine ⟨_, es, ep, t, ho, ⟨rfl, rfl, rfl⟩, rfl, ?_, ?_, of_decide_eq_true h2, h3, rfl⟩
  · intro e he
    obtain ⟨u, e2, hh⟩ := key e he
    refine ⟨⟨e.1, ?_, hh.symm⟩, ?_⟩
    · rw [e2]; exact intKind_is prog w _ _
    · rw [e2]; rfl
  · intro k
    rw [List.any_eq_true]
    constructor
    · rintro ⟨e, he, q⟩
      obtain ⟨u, e2, _⟩ := key e he
      refine ⟨e, he, ?_⟩
      rw [e2, ← eq_of_beq q]
      exact intKind_is prog w _ _
    · rintro ⟨e, he, q⟩
      obtain ⟨u, e2, _⟩ := key e he
      refine ⟨e, he, ?_⟩
      rw [e2] at q
      have : e.1 = k := by simpa [intKind, Value.isInt] using q
      simp [this]
theorem in_setK {prog : Program} {w : World} {A : Around} {E : Value → Shared → Prop} {s : Shared} {h₀ : Heap} {L a : Addr} {m : Str → Option Value} {K : Frag} {es : Array (Int × Value)} {ep : Nat} {t : SetTable} {k : Int} {u : Tok} {Q : Value → Shared → Prop}
    (F : Fr h₀ L s.heap m) (X₀ : K.In h₀) (hl : K.lookup a = some ⟨.type "set", none, .set es ep t, #[]⟩) (ok : okSet es t = true) (h : Q (.bool (es.toList.any fun e => e.1 == k)) { s with toks := s.toks + 1 }) :
    wpAny (model prog w) A (compareOp .In (.int k u) (.ref a)) Q E s :=
  wpAny_inSet_of (intKind_is prog w k u) rfl (setOf_ints (X₀.keeps F.keep _ _ hl) ok) h
local macro_rules | `(tactic| walk_at "compareOp In int ref") => `(tactic| (k_here; k_dflt (refine' in_setK ?F ?X ?l ?o ?_; (case F => k_asm); (case X => k_asm); (case l => k_is); (case o => kernel_rfl); k_whole)))
noncomputable def b1L : List Int := [65024, 65025, 65026, 65027, 65028, 65029, 6150, 65030, 65031, 65032, 65033, 6155, 6156, 6157, 8203, 8204, 8205, 65034, 65035, 65036, 65037, 65038, 65039, 173, 847, 8288, 65279]
set_option maxHeartbeats 4000000 in
theorem b1_spec {w : World} (n : Nat) (t : Tok) : Spec 1 w 56 [.str ⟨#[n]⟩ t] [] (fun _ v new => v = .bool (b1L.any fun i => i == (n : Int)) ∧ new = []) := by
  walk_at "m begin"
  walk_at "m steps"
  exact hret _ _ _ _ ⟨rfl, rfl⟩ (by assumption) (by walk_at "m news") (by assumption) (by walk_at "m fresh")
noncomputable def c6L : List Int := [65529, 65530, 65531, 65532, 65533]
set_option maxHeartbeats 4000000 in
theorem c6_spec {w : World} (n : Nat) (t : Tok) : Spec 1 w 82 [.str ⟨#[n]⟩ t] [] (fun _ v new => v = .bool (c6L.any fun i => i == (n : Int)) ∧ new = []) := by
  walk_at "m begin"
  walk_at "m steps"
  exact hret _ _ _ _ ⟨rfl, rfl⟩ (by assumption) (by walk_at "m news") (by assumption) (by walk_at "m fresh")
noncomputable def c7L : List Int := [12272, 12273, 12274, 12275, 12276, 12277, 12278, 12279, 12280, 12281, 12282, 12283]
set_option maxHeartbeats 4000000 in
theorem c7_spec {w : World} (n : Nat) (t : Tok) : Spec 1 w 94 [.str ⟨#[n]⟩ t] [] (fun _ v new => v = .bool (c7L.any fun i => i == (n : Int)) ∧ new = []) := by
  walk_at "m begin"
  walk_at "m steps"
  exact hret _ _ _ _ ⟨rfl, rfl⟩ (by assumption) (by walk_at "m news") (by assumption) (by walk_at "m fresh")
noncomputable def c8L : List Int := [832, 833, 8234, 8235, 8236, 8237, 8206, 8207, 8238, 8298, 8299, 8300, 8301, 8302, 8303]
set_option maxHeartbeats 4000000 in
theorem c8_spec {w : World} (n : Nat) (t : Tok) : Spec 1 w 118 [.str ⟨#[n]⟩ t] [] (fun _ v new => v = .bool (c8L.any fun i => i == (n : Int)) ∧ new = []) := by
  walk_at "m begin"
  walk_at "m steps"
  exact hret _ _ _ _ ⟨rfl, rfl⟩ (by assumption) (by walk_at "m news") (by assumption) (by walk_at "m fresh")
noncomputable def c9L : List Int := [917505, 917536, 917537, 917538, 917539, 917540, 917541, 917542, 917543, 917544, 917545, 917546, 917547, 917548, 917549, 917550, 917551, 917552, 917553, 917554, 917555, 917556, 917557, 917558, 917559, 917560, 917561, 917562, 917563, 917564, 917565, 917566, 917567, 917568, 917569, 917570, 917571, 917572, 917573, 917574, 917575, 917576, 917577, 917578, 917579, 917580, 917581, 917582, 917583, 917584, 917585, 917586, 917587, 917588, 917589, 917590, 917591, 917592, 917593, 917594, 917595, 917596, 917597, 917598, 917599, 917600, 917601, 917602, 917603, 917604, 917605, 917606, 917607, 917608, 917609, 917610, 917611, 917612, 917613, 917614, 917615, 917616, 917617, 917618, 917619, 917620, 917621, 917622, 917623, 917624, 917625, 917626, 917627, 917628, 917629, 917630, 917631]
set_option maxHeartbeats 4000000 in
theorem c9_spec {w : World} (n : Nat) (t : Tok) : Spec 1 w 136 [.str ⟨#[n]⟩ t] [] (fun _ v new => v = .bool (c9L.any fun i => i == (n : Int)) ∧ new = []) := by
  walk_at "m begin"
  walk_at "m steps"
  exact hret _ _ _ _ ⟨rfl, rfl⟩ (by assumption) (by walk_at "m news") (by assumption) (by walk_at "m fresh")
set_option maxHeartbeats 4000000 in
theorem c11_spec {w : World} (n : Nat) (t : Tok) : Spec 1 w 63 [.str ⟨#[n]⟩ t] [] (fun _ v new => v = .bool (decide (n = 32)) ∧ new = []) := by
  walk_at "m begin"
  walk_at "m steps"
  refine hret _ _ _ _ ⟨congrArg Value.bool ?_, rfl⟩ (by assumption) (by walk_at "m news") (by assumption) (by walk_at "m fresh")
  rw [show (Str.ofString " ") = ⟨#[32]⟩ from by decide +kernel]
  by_cases h : n = 32
  · subst h; rfl
  · rw [decide_eq_false h]
    refine beq_eq_false_iff_ne.mpr fun q => h ?_
    simpa using q
noncomputable def c4B (n : Int) : Bool := decide (64976 ≤ n) && (decide (n < 65008) || ([65534, 65535] : List Int).any fun x => x == Builtin.bitAnd n 65535)
theorem c4B1 {n : Int} (h : n < 64976) : false = c4B n := by
  unfold c4B; rw [decide_eq_false (by omega)]; rfl
theorem c4B2 {n : Int} (h : ¬ n < 64976) (h2 : n < 65008) : true = c4B n := by
  unfold c4B; rw [decide_eq_true (by omega), decide_eq_true h2]; rfl
theorem c4B3 {n : Int} (h : ¬ n < 64976) (h2 : ¬ n < 65008) : (([65534, 65535] : List Int).any fun x => x == Builtin.bitAnd n 65535) = c4B n := by
  unfold c4B; rw [decide_eq_true (by omega), decide_eq_false h2]; rfl
set_option maxHeartbeats 4000000 in
theorem c4_spec {w : World} (n : Nat) (t : Tok) : Spec 1 w 70 [.str ⟨#[n]⟩ t] [] (fun _ v new => v = .bool (c4B n) ∧ new = []) := by
  walk_at "m begin"
  walk_at "m steps"
  all_goals refine hret _ _ _ _ ⟨congrArg Value.bool ?_, rfl⟩ (by assumption) (by walk_at "m news") (by assumption) (by walk_at "m fresh")
  all_goals (try simp only [decide_eq_true_eq, decide_eq_false_iff_not] at *)
  all_goals first
    | exact c4B1 (by omega)
    | exact c4B2 (by omega) (by omega)
    | exact c4B3 (by omega) (by omega)
section
open PySem.Calls
theorem item_bools {prog : Program} {w : World} {A : Around} {E : Value → Shared → Prop} {s : Shared} {h₀ : Heap} {L l : Addr} {news : List (Addr × Obj)} {value slice : PySem.Expr} {bs : List Bool} {n : Nat} {k : Int} {u : Tok} {Q : Value → Shared → Prop}
    (N : News h₀ L s.heap news) (hm : (l, listOf (bs.map Value.bool).toArray n) ∈ news) (h0 : 0 ≤ k) (h1 : k < (bs.length : Int)) (hb : bs.length < 100) (h : Q (.bool (bs.getD k.toNat false)) s)
    (hs : subscripted slice false (.ref l) (.int k u) = operate [.ref l, .int k u] (getItem (.ref l) (.int k u)) := by with_unfolding_all rfl) :
    wpAny (model prog w) A (subscriptTail value slice (.ref l) (.int k u)) Q E s := by
  have hl : s.heap.IsList l (bs.map Value.bool).toArray := ⟨_, (N _ hm).1, rfl, n, rfl⟩
  refine tail_any hl.typeIs slot_list_getitem.lookup (wpAny_getItem_list hl h0 (by omega) ?_ h) hs
  have q : k.toNat < bs.length := by omega
  simp [List.getElem?_eq_getElem q, List.getD]
noncomputable def bitsS (n : Nat) : List Bool := [b1L.any fun i => i == (n : Int), c4B n, c6L.any fun i => i == (n : Int), c7L.any fun i => i == (n : Int), c8L.any fun i => i == (n : Int), c9L.any fun i => i == (n : Int), decide (n = 32)]
noncomputable def seatsG (n : Nat) (l : List Int) (k : Int) : List Int := if (bitsS n).getD k.toNat false = true then l ++ [k] else l
noncomputable def seatsL (n : Nat) : List Int := (rangeKs 0 7).foldl (seatsG n) []
local macro_rules | `(tactic| walk_at "KCiEl") => `(tactic| (refine kci_el ?kce (by with_unfolding_all rfl) (by with_unfolding_all rfl); (case kce => exact if_pos (by assumption))))
local macro_rules | `(tactic| walk_at "KCiNo") => `(tactic| k_dflt (refine kci_no ?kce (by with_unfolding_all rfl); (case kce => exact if_neg (ne_true_of_eq_false (by assumption)))))
theorem seats_grows (n : Nat) : KPfGrows (seatsG n) := by
  intro l k
  unfold seatsG
  split
  · simp
  · simp
set_option maxHeartbeats 4000000 in
theorem seats_spec {w : World} (n : Nat) (t : Tok) : Spec 2 w 319 [.str ⟨#[n]⟩ t] [] (fun _ v new => ∃ a vs, v = .ref a ∧ new = [(a, listOf vs.toArray vs.length)] ∧ IntsAre vs (seatsL n)) := by
  walk_at "m begin"
  have «stop call ref» := True.intro
  have «stop subscriptTail» := True.intro
  have «stop CompSrcT» := True.intro
  repeat' (first
    | ((with_reducible show StopK _ _); first
        | ((with_reducible refine goK "CompSrcT" ?_); k_dflt (refine LCt.CompSrcT.range (by rfl) (by k_asm) (by k_asm) (by assumption) (by decide) (by first | exact rangeSize_nat _ _ | rfl) (by first | exact Nat.le_of_ble_eq_true rfl | size_fits) ?_; intro g'; (refine' kci_range (seatsG n) (fun k' t' I' oI' C' oC' D' m' ys' l' h' tk' E' hlo' hhi' hI' hC' hx' F' N' off' ne' => ?_) ?_ ?_); (all_goals (try (simp only [List.cons_append, List.nil_append, LCg.Off3, and_true] at off'))); (all_goals (try (simp only [List.cons_append, List.nil_append] at N'))); (all_goals (try ((show KPfMark → _); intro hMark'))); kcf_last))
        | ((with_reducible refine goK "subscriptTail" ?_); (with_reducible show wpAny _ _ (subscriptTail _ _ (Value.ref _) (Value.int _ _)) _ _ _); k_dflt (refine' item_bools (bs := [_, _, _, _, _, _, _]) ?k1 ?k2 ?k3 ?k4 ?k5 ?_ ?k7; (case k7 => with_unfolding_all rfl); (case k1 => k_asm); (case k2 => k_mem); (case k3 => omega); (case k4 => (show _ < (7 : Int); omega)); (case k5 => (show (7 : Nat) < 100; decide))))
        | ((with_reducible refine goK "call ref" ?_); k_dflt (first | refine' Spec.use0 (b1_spec _ _) ?mB ?mF ?mK ?mN ?mT ?mk ?md ?mu ?_ | refine' Spec.use0 (c11_spec _ _) ?mB ?mF ?mK ?mN ?mT ?mk ?md ?mu ?_ | refine' Spec.use0 (c4_spec _ _) ?mB ?mF ?mK ?mN ?mT ?mk ?md ?mu ?_ | refine' Spec.use0 (c6_spec _ _) ?mB ?mF ?mK ?mN ?mT ?mk ?md ?mu ?_ | refine' Spec.use0 (c7_spec _ _) ?mB ?mF ?mK ?mN ?mT ?mk ?md ?mu ?_ | refine' Spec.use0 (c8_spec _ _) ?mB ?mF ?mK ?mN ?mT ?mk ?md ?mu ?_ | refine' Spec.use0 (c9_spec _ _) ?mB ?mF ?mK ?mN ?mT ?mk ?md ?mu ?_); walk_at "m use"; intro v' new' h' tk' n' l1 hp' F' N' ne'; (obtain ⟨hv', hn'⟩ := hp'); subst hv'; subst hn'; walk_at "m after")
        | ((with_reducible refine goK _ ?_); have noK9 := True.intro; walk_at "m step"; all_goals (try clear noK9)))
    | walk_at "m step")
  rotate_right
  · exact seats_grows n
  refine hret _ _ _ _ ⟨_, _, rfl, rfl, by assumption⟩ (by assumption) (by walk_at "m news") (by assumption) ?_
  walk_at "m fresh"
end
section
open PySem.Calls
noncomputable def fAt (l : List UInt64) (i : Nat) : UInt64 := l.getD i 0
noncomputable def fGt (l : List UInt64) (i j : Nat) : Bool := Float64.cmp (fAt l i) (fAt l j) == some Ordering.gt
noncomputable def fLt (l : List UInt64) (i j : Nat) : Bool := Float64.cmp (fAt l i) (fAt l j) == some Ordering.lt
section
variable {prog : Program} {w : World} {A : Around} {E : Value → Shared → Prop} {s : Shared}
theorem frExt {h₀ h h' : Heap} {L : Addr} {m : Str → Option Value} (F : Fr h₀ L h m) (k : ∀ d o, h.get? d = some o → h'.get? d = some o) : Fr h₀ L h' m :=
  ⟨F.ns.at' fun o e => k _ o e, fun b o e => k b o (F.keep b o e), F.above⟩
theorem newsExt {h₀ h h' : Heap} {L : Addr} {news : List (Addr × Obj)} (N : News h₀ L h news) (k : ∀ d o, h.get? d = some o → h'.get? d = some o) : News h₀ L h' news :=
  fun p hp => ⟨k _ _ (N p hp).1, (N p hp).2⟩
theorem flt_at {a b c : UInt64} {t u x : Tok} {i : Nat} {v : Value} (h : (#[Value.float a t, .float b u, .float c x] : Array Value)[i]? = some v) : ∃ t, v = .float (fAt [a, b, c] i) t := by
  match i, h with
  | 0, h => exact ⟨t, (Option.some.inj h).symm⟩
  | 1, h => exact ⟨u, (Option.some.inj h).symm⟩
  | 2, h => exact ⟨x, (Option.some.inj h).symm⟩
  | i + 3, h => exact absurd h (by simp)
theorem max3f {a b c : UInt64} {t u x : Tok} {h₀ : Heap} {L : Addr} {m : Str → Option Value} {news : List (Addr × Obj)} {Q : Value → Shared → Prop} (hh : A.handled = none) (F : Fr h₀ L s.heap m) (N : News h₀ L s.heap news)
    (r : UInt64) (hr : fAt [a, b, c] (argBest (fGt [a, b, c]) 2) = r)
    (h : ∀ h' tk y, Fr h₀ L h' m → News h₀ L h' news → Q (.float r y) { s with heap := h', toks := tk }) :
    wpAny (model prog w) A (call (.builtin "max") [.float a t, .float b u, .float c x]) Q E s := by
  have hT : (s.heap.push { cls := .type "tuple", data := .seq #[.float a t, .float b u, .float c x] }).IsTuple s.heap.objs.size #[.float a t, .float b u, .float c x] := ⟨_, Heap.get?_push_size _ rfl, rfl, 0, rfl⟩
  refine call_max_three (wpAny_pyIter_tuple hT ?_)
  have hsz : (s.heap.push { cls := .type "tuple", data := .seq #[.float a t, .float b u, .float c x] }).objs.size = s.heap.objs.size + 1 := Heap.size_push ..
  refine ⟨_, [_, s.heap.objs.size], [_], 3, _, _, fGt [a, b, c], rfl, Walks.tuple (A := A.in1) hh _ s.heap.objs.size (by rw [hsz]; exact Nat.ne_of_lt (Nat.lt_succ_self _)) #[.float a t, .float b u, .float c x],
    ⟨⟨_, Heap.get?_push_size _ rfl, rfl, rfl⟩, hT.push _⟩, fun d hd => ?_, by decide, fun i j vi vj s Q E hi hj q => ?_, fun v h' tk hP hk => ?_⟩
  · show d < ((s.heap.push _).push _).objs.size
    rw [Heap.size_push, hsz]
    simp only [List.mem_cons, List.not_mem_nil, or_false] at hd
    rcases hd with rfl | rfl
    · rw [hsz]; exact Nat.lt_succ_self _
    · exact Nat.lt_succ_of_lt (Nat.lt_succ_self _)
  · obtain ⟨t1, rfl⟩ := flt_at hi
    obtain ⟨t2, rfl⟩ := flt_at hj
    exact AutoFloatOps.gt_0 (t := t1) (u := t2) q
  · obtain ⟨y, rfl⟩ := flt_at hP
    rw [hr]
    have k : ∀ d o, s.heap.get? d = some o → h'.get? d = some o := fun d o e => by
      refine hk d o (fun hm => ?_) (Heap.get?_push_of_some _ (Heap.get?_push_of_some _ e))
      rcases List.mem_cons.mp hm with e1 | hm
      · have := Heap.lt_size e; rw [e1, hsz] at this; exact Nat.lt_irrefl _ (Nat.lt_of_succ_lt this)
      · cases hm
    exact h h' tk y (frExt F k) (newsExt N k)
theorem min3f {a b c : UInt64} {t u x : Tok} {h₀ : Heap} {L : Addr} {m : Str → Option Value} {news : List (Addr × Obj)} {Q : Value → Shared → Prop} (hh : A.handled = none) (F : Fr h₀ L s.heap m) (N : News h₀ L s.heap news)
    (r : UInt64) (hr : fAt [a, b, c] (argBest (fLt [a, b, c]) 2) = r)
    (h : ∀ h' tk y, Fr h₀ L h' m → News h₀ L h' news → Q (.float r y) { s with heap := h', toks := tk }) :
    wpAny (model prog w) A (call (.builtin "min") [.float a t, .float b u, .float c x]) Q E s := by
  have hT : (s.heap.push { cls := .type "tuple", data := .seq #[.float a t, .float b u, .float c x] }).IsTuple s.heap.objs.size #[.float a t, .float b u, .float c x] := ⟨_, Heap.get?_push_size _ rfl, rfl, 0, rfl⟩
  refine call_min_three (wpAny_pyIter_tuple hT ?_)
  have hsz : (s.heap.push { cls := .type "tuple", data := .seq #[.float a t, .float b u, .float c x] }).objs.size = s.heap.objs.size + 1 := Heap.size_push ..
  refine ⟨_, [_, s.heap.objs.size], [_], 3, _, _, fLt [a, b, c], rfl, Walks.tuple (A := A.in1) hh _ s.heap.objs.size (by rw [hsz]; exact Nat.ne_of_lt (Nat.lt_succ_self _)) #[.float a t, .float b u, .float c x],
    ⟨⟨_, Heap.get?_push_size _ rfl, rfl, rfl⟩, hT.push _⟩, fun d hd => ?_, by decide, fun i j vi vj s Q E hi hj q => ?_, fun v h' tk hP hk => ?_⟩
  · show d < ((s.heap.push _).push _).objs.size
    rw [Heap.size_push, hsz]
    simp only [List.mem_cons, List.not_mem_nil, or_false] at hd
    rcases hd with rfl | rfl
    · rw [hsz]; exact Nat.lt_succ_self _
    · exact Nat.lt_succ_of_lt (Nat.lt_succ_self _)
  · obtain ⟨t1, rfl⟩ := flt_at hi
    obtain ⟨t2, rfl⟩ := flt_at hj
    exact AutoFloatOps.lt_0 (t := t1) (u := t2) q
  · obtain ⟨y, rfl⟩ := flt_at hP
    rw [hr]
    have k : ∀ d o, s.heap.get? d = some o → h'.get? d = some o := fun d o e => by
      refine hk d o (fun hm => ?_) (Heap.get?_push_of_some _ (Heap.get?_push_of_some _ e))
      rcases List.mem_cons.mp hm with e1 | hm
      · have := Heap.lt_size e; rw [e1, hsz] at this; exact Nat.lt_irrefl _ (Nat.lt_of_succ_lt this)
      · cases hm
    exact h h' tk y (frExt F k) (newsExt N k)
end
local macro_rules | `(tactic| walk_at "call builtin:max") => `(tactic| (k_here; k_dflt (refine' max3f rfl ?k1 ?k2 _ rfl ?_; (case k1 => k_asm); (case k2 => k_asm)); intro h' tk' y' F' N'; (try k_sweep)))
local macro_rules | `(tactic| walk_at "call builtin:min") => `(tactic| (k_here; k_dflt (refine' min3f rfl ?k1 ?k2 _ rfl ?_; (case k1 => k_asm); (case k2 => k_asm)); intro h' tk' y' F' N'; (try k_sweep)))

noncomputable def one : UInt64 := 0x3FF0000000000000
noncomputable def tup3 (a b c : UInt64) (t u x : Tok) : Obj := { cls := .type "tuple", data := .seq #[.float a t, .float b u, .float c x] }
noncomputable def rgbF (r g b : UInt64) : UInt64 × UInt64 × UInt64 :=
  let eq (a b : UInt64) := Float64.cmp a b == some Ordering.eq
  let maxc := fAt [r, g, b] (argBest (fGt [r, g, b]) 2)
  let minc := fAt [r, g, b] (argBest (fLt [r, g, b]) 2)
  let rangec := Float64.sub maxc minc
  if eq minc maxc then (0, 0, maxc) else
  let rc := Float64.div (Float64.sub maxc r) rangec
  let gc := Float64.div (Float64.sub maxc g) rangec
  let bc := Float64.div (Float64.sub maxc b) rangec
  let h := if eq r maxc then Float64.sub bc gc else if eq g maxc then Float64.sub (Float64.add (Float64.ofInt 2) rc) bc else Float64.sub (Float64.add (Float64.ofInt 4) gc) rc
  ((Float64.divmod (Float64.div h (Float64.ofInt 6)) one).2, Float64.div rangec maxc, maxc)
set_option maxHeartbeats 4000000 in
theorem rgb_spec {w : World} (a b c : UInt64) (ha : a = 0 ∨ a = one) (hb : b = 0 ∨ b = one) (hc : c = 0 ∨ c = one) (t1 t2 t3 : Tok) : Spec 1 w 143 [.float a t1, .float b t2, .float c t3] [] (fun _ v new => ∃ D b1 b2 b3 u1 u2 u3, v = .ref D ∧ new = [(D, tup3 b1 b2 b3 u1 u2 u3)] ∧ (b1, b2, b3) = rgbF a b c) := by
  walk_at "m begin"
  walk_at "m steps"
  all_goals first
    | (refine hret _ _ _ _ ⟨_, _, _, _, _, _, _, rfl, rfl, ?e⟩ (by assumption) (by assumption) (by assumption) ?_; (case e => ((repeat (with_reducible rename Fr _ _ _ _ => x9; clear x9)); (repeat (with_reducible rename News _ _ _ _ => x9; clear x9)); (repeat (with_reducible rename Below _ _ _ _ => x9; clear x9)); (repeat (with_reducible rename Top _ _ _ _ _ _ => x9; clear x9)); (try clear hret); (repeat (with_reducible rename Flow → Shared → Prop => x9; clear x9)); (repeat (with_reducible rename Value → Shared → Prop => x9; clear x9)); rcases ha with rfl | rfl <;> rcases hb with rfl | rfl <;> rcases hc with rfl | rfl <;> first | (exfalso; (repeat (first | ((with_reducible rename ((_ == some Ordering.eq) = true) => q); (first | exact absurd q (by decide +kernel) | clear q)) | ((with_reducible rename ((_ == some Ordering.eq) = false) => q); (first | exact absurd q (by decide +kernel) | clear q)) | ((with_reducible rename (Float64.isZero _ = true) => q); (first | exact absurd q (by decide +kernel) | clear q)) | ((with_reducible rename (¬ Float64.isZero _ = true) => q); (first | exact absurd (by decide +kernel) q | clear q)) | ((with_reducible rename (Float64.isNaN _ = true) => q); (first | exact absurd q (by decide +kernel) | clear q)) | ((with_reducible rename (Float64.isInf _ = true) => q); (first | exact absurd q (by decide +kernel) | clear q)) | ((with_reducible rename (¬ Float64.isNaN _ = true) => q); (first | exact absurd (by decide +kernel) q | clear q)) | ((with_reducible rename (¬ Float64.isInf _ = true) => q); (first | exact absurd (by decide +kernel) q | clear q)) | ((with_reducible rename (2 ^ 1024 - 2 ^ 970 ≤ _) => q); (first | exact absurd q (by decide +kernel) | clear q)) | ((with_reducible rename ((_ : Int) = (_ : Int)) => q); (first | exact absurd q (by decide +kernel) | clear q)) | ((with_reducible rename ((_ : Int) ≠ (_ : Int)) => q); (first | exact absurd (by decide +kernel) q | clear q)))); done) | decide +kernel)); walk_at "m fresh")
    | (exfalso; (repeat (with_reducible rename Fr _ _ _ _ => x9; clear x9)); (repeat (with_reducible rename News _ _ _ _ => x9; clear x9)); (repeat (with_reducible rename Below _ _ _ _ => x9; clear x9)); (repeat (with_reducible rename Top _ _ _ _ _ _ => x9; clear x9)); (try clear hret); (repeat (with_reducible rename Flow → Shared → Prop => x9; clear x9)); (repeat (with_reducible rename Value → Shared → Prop => x9; clear x9)); rcases ha with rfl | rfl <;> rcases hb with rfl | rfl <;> rcases hc with rfl | rfl <;> ((repeat (first | ((with_reducible rename ((_ == some Ordering.eq) = true) => q); (first | exact absurd q (by decide +kernel) | clear q)) | ((with_reducible rename ((_ == some Ordering.eq) = false) => q); (first | exact absurd q (by decide +kernel) | clear q)) | ((with_reducible rename (Float64.isZero _ = true) => q); (first | exact absurd q (by decide +kernel) | clear q)) | ((with_reducible rename (¬ Float64.isZero _ = true) => q); (first | exact absurd (by decide +kernel) q | clear q)) | ((with_reducible rename (Float64.isNaN _ = true) => q); (first | exact absurd q (by decide +kernel) | clear q)) | ((with_reducible rename (Float64.isInf _ = true) => q); (first | exact absurd q (by decide +kernel) | clear q)) | ((with_reducible rename (¬ Float64.isNaN _ = true) => q); (first | exact absurd (by decide +kernel) q | clear q)) | ((with_reducible rename (¬ Float64.isInf _ = true) => q); (first | exact absurd (by decide +kernel) q | clear q)) | ((with_reducible rename (2 ^ 1024 - 2 ^ 970 ≤ _) => q); (first | exact absurd q (by decide +kernel) | clear q)) | ((with_reducible rename ((_ : Int) = (_ : Int)) => q); (first | exact absurd q (by decide +kernel) | clear q)) | ((with_reducible rename ((_ : Int) ≠ (_ : Int)) => q); (first | exact absurd (by decide +kernel) q | clear q)))); done))
noncomputable def sixths : List UInt64 := ([0, 1, 2, 3, 4, 5] : List Int).map fun i => Float64.div (Float64.ofInt i) (Float64.ofInt 6)
noncomputable def hsvF (h : UInt64) : UInt64 × UInt64 × UInt64 :=
  let h6 := Float64.mul h (Float64.ofInt 6)
  let i := Flt.toInt Float64.truncOf h6
  let f := Float64.sub h6 (Float64.ofInt i)
  let p := Float64.mul one (Float64.sub one one)
  let q := Float64.mul one (Float64.sub one (Float64.mul one f))
  let t := Float64.mul one (Float64.sub one (Float64.mul one (Float64.sub one f)))
  match Int.fmod i 6 with
  | 0 => (one, t, p)
  | 1 => (q, one, p)
  | 2 => (p, one, t)
  | 3 => (p, q, one)
  | 4 => (t, p, one)
  | _ => (one, p, q)
set_option maxHeartbeats 4000000 in
theorem hsv_spec {w : World} (h : UInt64) (hh : h ∈ sixths) (t1 t2 t3 : Tok) : Spec 1 w 150 [.float h t1, .float one t2, .float one t3] [] (fun _ v new => ∃ D b1 b2 b3 u1 u2 u3, v = .ref D ∧ new = [(D, tup3 b1 b2 b3 u1 u2 u3)] ∧ (b1, b2, b3) = hsvF h) := by
  simp only [sixths, List.map_cons, List.map_nil, List.mem_cons, List.not_mem_nil, or_false] at hh
  unfold one
  walk_at "m begin"
  walk_at "m steps"
  all_goals first
    | (refine hret _ _ _ _ ⟨_, _, _, _, _, _, _, rfl, rfl, ?e⟩ (by assumption) (by assumption) (by assumption) ?_; (case e => ((repeat (with_reducible rename Fr _ _ _ _ => x9; clear x9)); (repeat (with_reducible rename News _ _ _ _ => x9; clear x9)); (repeat (with_reducible rename Below _ _ _ _ => x9; clear x9)); (repeat (with_reducible rename Top _ _ _ _ _ _ => x9; clear x9)); (try clear hret); (repeat (with_reducible rename Flow → Shared → Prop => x9; clear x9)); (repeat (with_reducible rename Value → Shared → Prop => x9; clear x9)); rcases hh with rfl | rfl | rfl | rfl | rfl | rfl <;> first | (exfalso; (repeat (first | ((with_reducible rename ((_ == some Ordering.eq) = true) => q); (first | exact absurd q (by decide +kernel) | clear q)) | ((with_reducible rename ((_ == some Ordering.eq) = false) => q); (first | exact absurd q (by decide +kernel) | clear q)) | ((with_reducible rename (Float64.isZero _ = true) => q); (first | exact absurd q (by decide +kernel) | clear q)) | ((with_reducible rename (¬ Float64.isZero _ = true) => q); (first | exact absurd (by decide +kernel) q | clear q)) | ((with_reducible rename (Float64.isNaN _ = true) => q); (first | exact absurd q (by decide +kernel) | clear q)) | ((with_reducible rename (Float64.isInf _ = true) => q); (first | exact absurd q (by decide +kernel) | clear q)) | ((with_reducible rename (¬ Float64.isNaN _ = true) => q); (first | exact absurd (by decide +kernel) q | clear q)) | ((with_reducible rename (¬ Float64.isInf _ = true) => q); (first | exact absurd (by decide +kernel) q | clear q)) | ((with_reducible rename (2 ^ 1024 - 2 ^ 970 ≤ _) => q); (first | exact absurd q (by decide +kernel) | clear q)) | ((with_reducible rename ((_ : Int) = (_ : Int)) => q); (first | exact absurd q (by decide +kernel) | clear q)) | ((with_reducible rename ((_ : Int) ≠ (_ : Int)) => q); (first | exact absurd (by decide +kernel) q | clear q)))); done) | decide +kernel)); walk_at "m fresh")
    | (exfalso; (repeat (with_reducible rename Fr _ _ _ _ => x9; clear x9)); (repeat (with_reducible rename News _ _ _ _ => x9; clear x9)); (repeat (with_reducible rename Below _ _ _ _ => x9; clear x9)); (repeat (with_reducible rename Top _ _ _ _ _ _ => x9; clear x9)); (try clear hret); (repeat (with_reducible rename Flow → Shared → Prop => x9; clear x9)); (repeat (with_reducible rename Value → Shared → Prop => x9; clear x9)); rcases hh with rfl | rfl | rfl | rfl | rfl | rfl <;> ((repeat (first | ((with_reducible rename ((_ == some Ordering.eq) = true) => q); (first | exact absurd q (by decide +kernel) | clear q)) | ((with_reducible rename ((_ == some Ordering.eq) = false) => q); (first | exact absurd q (by decide +kernel) | clear q)) | ((with_reducible rename (Float64.isZero _ = true) => q); (first | exact absurd q (by decide +kernel) | clear q)) | ((with_reducible rename (¬ Float64.isZero _ = true) => q); (first | exact absurd (by decide +kernel) q | clear q)) | ((with_reducible rename (Float64.isNaN _ = true) => q); (first | exact absurd q (by decide +kernel) | clear q)) | ((with_reducible rename (Float64.isInf _ = true) => q); (first | exact absurd q (by decide +kernel) | clear q)) | ((with_reducible rename (¬ Float64.isNaN _ = true) => q); (first | exact absurd (by decide +kernel) q | clear q)) | ((with_reducible rename (¬ Float64.isInf _ = true) => q); (first | exact absurd (by decide +kernel) q | clear q)) | ((with_reducible rename (2 ^ 1024 - 2 ^ 970 ≤ _) => q); (first | exact absurd q (by decide +kernel) | clear q)) | ((with_reducible rename ((_ : Int) = (_ : Int)) => q); (first | exact absurd q (by decide +kernel) | clear q)) | ((with_reducible rename ((_ : Int) ≠ (_ : Int)) => q); (first | exact absurd (by decide +kernel) q | clear q)))); done))
set_option maxHeartbeats 4000000 in
theorem white_spec {w : World} (t1 t2 t3 : Tok) : Spec 1 w 150 [.float 0 t1, .float 0 t2, .float one t3] [] (fun _ v new => ∃ D b1 b2 b3 u1 u2 u3, v = .ref D ∧ new = [(D, tup3 b1 b2 b3 u1 u2 u3)] ∧ (b1, b2, b3) = (one, one, one)) := by
  unfold one
  walk_at "m begin"
  walk_at "m steps"
  all_goals first
    | (exfalso; (repeat (first | ((with_reducible rename ((_ == some Ordering.eq) = true) => q); (first | exact absurd q (by decide +kernel) | clear q)) | ((with_reducible rename ((_ == some Ordering.eq) = false) => q); (first | exact absurd q (by decide +kernel) | clear q)) | ((with_reducible rename (Float64.isZero _ = true) => q); (first | exact absurd q (by decide +kernel) | clear q)) | ((with_reducible rename (¬ Float64.isZero _ = true) => q); (first | exact absurd (by decide +kernel) q | clear q)) | ((with_reducible rename (Float64.isNaN _ = true) => q); (first | exact absurd q (by decide +kernel) | clear q)) | ((with_reducible rename (Float64.isInf _ = true) => q); (first | exact absurd q (by decide +kernel) | clear q)) | ((with_reducible rename (¬ Float64.isNaN _ = true) => q); (first | exact absurd (by decide +kernel) q | clear q)) | ((with_reducible rename (¬ Float64.isInf _ = true) => q); (first | exact absurd (by decide +kernel) q | clear q)) | ((with_reducible rename (2 ^ 1024 - 2 ^ 970 ≤ _) => q); (first | exact absurd q (by decide +kernel) | clear q)) | ((with_reducible rename ((_ : Int) = (_ : Int)) => q); (first | exact absurd q (by decide +kernel) | clear q)) | ((with_reducible rename ((_ : Int) ≠ (_ : Int)) => q); (first | exact absurd (by decide +kernel) q | clear q)))); done)
    | (refine hret _ _ _ _ ⟨_, _, _, _, _, _, _, rfl, rfl, rfl⟩ (by assumption) (by assumption) (by assumption) ?_; walk_at "m fresh")
end
section
open PySem.Calls
section
variable {prog : Program} {w : World} {A : Around} {E : Value → Shared → Prop} {s : Shared} {env : Env} {h₀ : Heap} {x : Str} {body orelse : List Stmt} {Q : Flow → Shared → Prop}
noncomputable def RgEnd (h₀ : Heap) (L I : Addr) (oI : Obj) (s₂ : Shared) (J : (Str → Option Value) → List (Addr × Obj) → Prop) (s₃ : Shared) : Prop :=
  ∃ h' tk' m' news', s₃ = { s₂ with heap := h', toks := tk' } ∧ Fr h₀ L h' m' ∧ News h₀ L h' (news' ++ [(I, oI)]) ∧ (∀ p ∈ news', p.1 ≠ I) ∧ J m' news'
/-- a loop over a short range, with an else: the state's word is J -/
noncomputable def LoopElse (prog : Program) (w : World) (A : Around) (h₀ : Heap) (env : Env) (x : Str) (body orelse : List Stmt) (Q : Flow → Shared → Prop) (E : Value → Shared → Prop) (it : Value) (s₂ : Shared) : Prop :=
  ∃ (I : Addr) (n : Nat) (m : Str → Option Value) (news : List (Addr × Obj)) (J : Nat → (Str → Option Value) → List (Addr × Obj) → Prop),
    it = .ref I ∧ IsRangeIter s₂.heap I 0 n 1 ∧ I ≠ env.locals ∧ h₀.get? I = none ∧ (∀ p ∈ news, p.1 ≠ I) ∧ Fr h₀ env.locals s₂.heap m ∧ News h₀ env.locals s₂.heap news ∧ J 0 m news ∧ A.handled = none ∧
    (∀ (i : Nat) t m₁ news₁ h tk oI, i < n → J i m₁ news₁ → (∀ p ∈ news₁, p.1 ≠ I) → Fr h₀ env.locals h (fun y => if y = x then some (.int i t) else m₁ y) → News h₀ env.locals h (news₁ ++ [(I, oI)]) →
      wpAny (model prog w) A (execs body env) (fun f s₃ => match f with
        | .ret v => Q (.ret v) s₃
        | .brk => Q .next s₃
        | _ => RgEnd h₀ env.locals I oI s₂ (J (i + 1)) s₃) E { s₂ with heap := h, toks := tk }) ∧
    ∀ h' tk m' news', Fr h₀ env.locals h' m' → News h₀ env.locals h' news' → J n m' news' → wpAny (model prog w) A (execs orelse env) Q E { s₂ with heap := h', toks := tk }
theorem For_else {px pos : Pos} {iter : Expr} {m : Str → Option Value} (_F : Fr h₀ env.locals s.heap m) (hx : env.kindOf x = some .local)
    (hp : (env.scope.kind == .class || (env.scope.kind == .module && env.locals != env.globals)) = false)
    (h : wpAny (model prog w) A (eval iter env) (fun xv s₁ => wpAny (model prog w) A (pyIter xv) (fun it s₂ => LoopElse prog w A h₀ env x body orelse Q E it s₂) E s₁) E s)
    (hs : ∀ x, foldedSetIterable iter env x = pure x := by intro _; rfl)
    (hE : PassesOwn (model prog w) A env E := by passes_own) :
    wpAny (model prog w) A (exec (.For (.Name x px) iter body orelse pos) env) Q E s := by
  refine wpAny_For (wpAny_mono h (fun xv s₁ h₁ => wpAny_mono h₁ (fun it s₂ h₂ => ?_) fun _ _ e => e) fun _ _ e => e) hs
  obtain ⟨I, n, m, news, J, rfl, hI, hIL, hI0, hnw, F, N, h0, hh, step, fin⟩ := h₂
  have W := (Walks.range (prog := prog) (w := w) (A := A) hh I 0 1 n)
  have old : ∀ b o, h₀.get? b = some o → b ∉ [I] := fun b o e q => by rw [List.mem_singleton.mp q, hI0] at e; cases e
  refine codeAny_forLoop (R := fun r s' => match r with | .ok f => Q f s' | .error e => cameBackBy (model prog w) A env E e s')
    (fun k s' => ∃ h' tk m' news' i, s' = { s₂ with heap := h', toks := tk } ∧ IsRangeIter h' I ((i : Nat) : Int) ((n : Int) - (i : Nat)) 1 ∧ Fr h₀ env.locals h' m' ∧ News h₀ env.locals h' news' ∧ (∀ p ∈ news', p.1 ≠ I) ∧ J i m' news' ∧ i ≤ n ∧ k = n + 1 - i) ?_ (n + 1)
    ⟨s₂.heap, s₂.toks, m, news, 0, rfl, by simpa using hI, F, N, hnw, h0, Nat.zero_le _, rfl⟩
  rintro k s' ⟨h', tk, m', news', i, rfl, hst, F', N', hnw', hJ, hi, rfl⟩
  have hst0 : IsRangeIter h' I (0 + (i : Nat) * 1) ((n : Int) - (i : Nat)) 1 := by simpa using hst
  have next : ∀ h₁ : Heap, (∀ b o, b ∉ [I] → h'.get? b = some o → h₁.get? b = some o) → Fr h₀ env.locals h₁ m' ∧ News h₀ env.locals h₁ news' := fun h₁ hk₁ =>
    ⟨⟨F'.ns.at' fun o e => hk₁ _ o (fun q => hIL (List.mem_singleton.mp q).symm) e, fun b o e => hk₁ b o (old b o e) (F'.keep b o e), F'.above⟩, fun p hp => ⟨hk₁ _ _ (fun q => hnw' p hp (List.mem_singleton.mp q)) (N' p hp).1, (N' p hp).2⟩⟩
  by_cases hlt : i < n
  · refine W.item i _ _ _ hlt hst0 fun v h₁ tk₁ hP hst₁ hk₁ => ?_
    obtain ⟨t, rfl⟩ := hP
    obtain ⟨F₁, N₁⟩ := next h₁ hk₁
    rw [show (0 : Int) + (i : Int) * 1 = (i : Int) by omega]
    obtain ⟨oI, hoI⟩ : ∃ oI : Obj, oI = { cls := .type "range_iterator", data := .fields #[rawInt (0 + ((i + 1 : Nat) : Int) * 1), rawInt ((n : Int) - ((i + 1 : Nat) : Int)), rawInt 1] } := ⟨_, rfl⟩
    have hst₁' : h₁.get? I = some oI := by rw [hoI]; exact hst₁
    refine wpAny_assign_Name (wpAny_storeName_local hx F₁.ns (fun h₂ hn₂ hs₂ => ?_) hp)
    have hI₂ := (hs₂.2 I fun q => hIL q).trans hst₁'
    have Nn : News h₀ env.locals h₂ (news' ++ [(I, oI)]) := fun p hp => (List.mem_append.mp hp).elim (fun q => N₁.set hs₂ p q) fun q => by rw [List.mem_singleton.mp q]; exact ⟨hI₂, hIL, hI0⟩
    refine wpAny_mono (wpAny_passesOwn hE (step i t m' news' h₂ _ oI hlt hJ hnw' (F₁.set hn₂ hs₂) Nn)) (fun f s₃ h₃ => ?_) fun _ _ e => e
    have up : RgEnd h₀ env.locals I oI s₂ (J (i + 1)) s₃ → ∃ m, m < n + 1 - i ∧ ∃ h' tk m' news' j, s₃ = { s₂ with heap := h', toks := tk } ∧ IsRangeIter h' I ((j : Nat) : Int) ((n : Int) - (j : Nat)) 1 ∧ Fr h₀ env.locals h' m' ∧ News h₀ env.locals h' news' ∧ (∀ p ∈ news', p.1 ≠ I) ∧ J j m' news' ∧ j ≤ n ∧ m = n + 1 - j := by
      rintro ⟨h', tk', m₂, n₂, rfl, F₃, N₃, ne₃, j₃⟩
      refine ⟨n + 1 - (i + 1), by omega, h', tk', m₂, n₂, i + 1, rfl, ?_, F₃, fun p hp => N₃ p (List.mem_append_left _ hp), ne₃, j₃, hlt, rfl⟩
      have := (N₃ _ (List.mem_append_right _ (.head _))).1
      rw [hoI] at this
      simpa [IsRangeIter] using this
    cases f with
    | ret v => exact h₃
    | brk => exact h₃
    | cont => exact up h₃
    | next => exact up h₃
  · have hin : i = n := by omega
    subst hin
    refine W.done _ _ _ (by simpa using hst0) fun h₁ tk₁ hk₁ => ?_
    obtain ⟨F₁, N₁⟩ := next h₁ hk₁
    exact wpAny_passesOwn hE (fin h₁ tk₁ m' news' F₁ N₁ hJ)

noncomputable def RgS {σ : Type} (Led : σ → List (Addr × Obj)) (ps : σ → List (Str × Value)) (x : Str) (stored : List Str) (m₀ : Str → Option Value) (P : Int → σ → Prop) (k : Int) (m : Str → Option Value) (nx : List (Addr × Obj)) : Prop :=
  ∃ c : σ, nx = Led c ∧ (∀ p ∈ ps c, m p.1 = some p.2) ∧ (∀ z, z ≠ x → (∀ p ∈ ps c, z ≠ p.1) → stored.contains z = false → m z = m₀ z) ∧ P k c
noncomputable def RgPost (h₀ : Heap) (L I : Addr) (oI : Obj) (s₂ : Shared) (J : (Str → Option Value) → List (Addr × Obj) → Prop) (Q : Flow → Shared → Prop) (f : Flow) (s₃ : Shared) : Prop := match f with
  | .ret v => Q (.ret v) s₃
  | .brk => Q .next s₃
  | _ => RgEnd h₀ L I oI s₂ J s₃
theorem rg_end {σ : Type} {Led : σ → List (Addr × Obj)} {ps : σ → List (Str × Value)} {stored : List Str} {m₀ : Str → Option Value} {P : Int → σ → Prop} {k : Int} (c : σ) {L I : Addr} {oI : Obj} {m' : Str → Option Value} {news' : List (Addr × Obj)} {s₁ : Shared} {h' : Heap} {tk : Nat}
    (F : Fr h₀ L h' m') (N : News h₀ L h' news') (hn : ∀ p ∈ Led c, p ∈ news') (ho : (I, oI) ∈ news') (ha : ∀ p ∈ Led c, p.1 ≠ I) (hk : ∀ p ∈ ps c, m' p.1 = some p.2) (hr : ∀ z, z ≠ x → (∀ p ∈ ps c, z ≠ p.1) → stored.contains z = false → m' z = m₀ z) (hp : P k c) :
    RgEnd h₀ L I oI s₁ (RgS Led ps x stored m₀ P k) { s₁ with heap := h', toks := tk } :=
  ⟨h', tk, m', Led c, rfl, F, fun p hp => (List.mem_append.mp hp).elim (fun q => N p (hn p q)) fun q => by rw [List.mem_singleton.mp q]; exact N _ ho, ha, c, rfl, hk, hr, hp⟩
theorem range_else {σ : Type} {r : Addr} {n : Nat} {b₀ : Int} {t₀ u₀ v₀ : Tok} {m₀ : Str → Option Value} {news : List (Addr × Obj)} (Led : σ → List (Addr × Obj)) (ps : σ → List (Str × Value)) (stored : List Str) (P : Int → σ → Prop) (c₀ : σ)
    (hh : A.handled = none) (F : Fr h₀ env.locals s.heap m₀) (N : News h₀ env.locals s.heap news) (hn : ∀ p ∈ Led c₀, p ∈ news) (hr : IsRange s.heap r 0 b₀ 1 t₀ u₀ v₀) (hsmall : Builtin.Range.small 0 b₀ 1 = true) (hsz : Builtin.Range.rangeSize 0 b₀ 1 = (n : Int)) (hk : ∀ p ∈ ps c₀, m₀ p.1 = some p.2) (hp : P 0 c₀)
    (turn : ∀ (c : σ) (k : Int) t (u : Str → Option Value) h tk I oI, 0 ≤ k → k < (n : Int) → P k c → (∀ p ∈ Led c, p.1 ≠ I) →
      Fr h₀ env.locals h (fun y => if y = x then some (.int k t) else kstB (fun z => if stored.contains z then u z else m₀ z) (ps c) y) → News h₀ env.locals h (Led c ++ [(I, oI)]) →
      wpAny (model prog w) A (execs body env) (RgPost h₀ env.locals I oI { s with heap := h, toks := tk } (RgS Led ps x stored m₀ P (k + 1)) Q) E { s with heap := h, toks := tk })
    (done : ∀ (c : σ) (u : Str → Option Value) h tk, P (n : Int) c → Fr h₀ env.locals h (fun y => if y = x then u y else kstB (fun z => if stored.contains z then u z else m₀ z) (ps c) y) → News h₀ env.locals h (Led c) → wpAny (model prog w) A (execs orelse env) Q E { s with heap := h, toks := tk }) :
    wpAny (model prog w) A (pyIter (.ref r)) (fun it s₂ => LoopElse prog w A h₀ env x body orelse Q E it s₂) E s := by
  refine wpAny_pyIter_range hr hsmall ?_
  refine ⟨_, n, m₀, Led c₀, fun i m nx => RgS Led ps x stored m₀ P (i : Int) m nx, rfl, ?_, ?_, ?_, fun p hp e => ?_, F.push _, fun p hp => ⟨Heap.get?_push_of_some _ (N p (hn p hp)).1, (N p (hn p hp)).2⟩, ⟨c₀, rfl, hk, fun _ _ _ _ => rfl, hp⟩, hh, ?_, ?_⟩
  · show IsRangeIter _ _ _ _ _
    rw [hsz]
    simpa using Heap.get?_push_size _ rfl
  · intro e
    exact absurd F.ns.lt (e ▸ Nat.lt_irrefl _)
  · exact next_is_new F
  · exact absurd (Heap.lt_size (N p (hn p hp)).1) (e ▸ Nat.lt_irrefl _)
  · rintro i t m₁ nx h tk oI hi ⟨c, rfl, h1, h2, hp'⟩ hne F₁ N₁
    have := turn c i t m₁ h tk _ oI (Int.natCast_nonneg _) (by omega) hp' hne (kst_fr h1 h2 F₁) N₁
    refine wpAny_mono this (fun f s₃ q => ?_) fun _ _ e => e
    cases f with
    | ret v => exact q
    | brk => exact q
    | next => obtain ⟨h', tk', m', n', rfl, q⟩ := q; exact ⟨h', tk', m', n', rfl, by push_cast; exact q⟩
    | cont => obtain ⟨h', tk', m', n', rfl, q⟩ := q; exact ⟨h', tk', m', n', rfl, by push_cast; exact q⟩
  · rintro h' tk m' nx F' N' ⟨c, rfl, h1, h2, hp'⟩
    exact done c m' h' tk hp' (kst_frOut h1 h2 F') N'
end
noncomputable def flagNs : List String := ["OPTIMIZED", "NEWLOCALS", "VARARGS", "VARKEYWORDS", "NESTED", "GENERATOR", "NOFREE"]
/-- the names of the places of n below k -/
noncomputable def bitNs (n k : Int) : List Str := ((List.range 7).filter fun (j : Nat) => decide ((j : Int) < k) && (n / (2 : Int) ^ j % 2 == 1)).map fun (j : Nat) => Str.ofString (flagNs.getD j "")
noncomputable def hiB (n k : Int) : Int := n - n % (2 : Int) ^ k.toNat
noncomputable abbrev FS := List Value × Int × Tok
noncomputable def FP (n k : Int) (c : FS) : Prop := c.2.1 = hiB n k ∧ c.2.1 ≠ 0 ∧ StrsAre c.1 (bitNs n k) ∧ c.1.length ≤ 7
theorem FP_zero {n : Int} {t : Tok} (h0 : 0 < n) : FP n 0 ([], n, t) := by
  refine ⟨?_, by show n ≠ 0; omega, ?_, Nat.zero_le _⟩
  · show n = n - n % 1
    omega
  · have e : bitNs n 0 = [] := by
      unfold bitNs
      rw [List.filter_eq_nil_iff.mpr]
      · rfl
      · intro j _
        have : decide ((j : Int) < 0) = false := decide_eq_false (by omega)
        rw [this]; simp
    rw [e]
    exact StrsAre.nil
theorem FP_lt {n k : Int} {c : FS} (h0 : 0 < n) (h1 : n < 128) (hk : 0 ≤ k) (h : FP n k c) : k < 7 := by
  rcases Int.lt_or_le k 7 with q | q
  · exact q
  · exfalso
    apply h.2.1
    rw [h.1]
    unfold hiB
    have : n < 2 ^ k.toNat := by
      have h2 : 2 ^ 7 ≤ 2 ^ k.toNat := Nat.pow_le_pow_right (by decide) (by omega)
      have h3 : (2 : Int) ^ k.toNat = ((2 ^ k.toNat : Nat) : Int) := by push_cast; rfl
      rw [h3]
      omega
    rw [Int.emod_eq_of_lt (by omega) this]
    omega
theorem seven {k : Int} (h0 : 0 ≤ k) (h1 : k < 7) : k = 0 ∨ k = 1 ∨ k = 2 ∨ k = 3 ∨ k = 4 ∨ k = 5 ∨ k = 6 := by omega
section
variable {prog : Program} {w : World} {A : Around} {E : Value → Shared → Prop} {s : Shared} {env : Env} {h₀ : Heap} {x : Str} {body orelse : List Stmt} {Q : Flow → Shared → Prop}
theorem flags_loop {r l : Addr} {n : Int} {t t₀ u₀ v₀ : Tok} {m₀ : Str → Option Value} (h0 : 0 < n) (h1 : n < 128) (hh : A.handled = none) (F : Fr h₀ env.locals s.heap m₀) (N : News h₀ env.locals s.heap [(l, listOf #[] 0)]) (hr : IsRange s.heap r 0 32 1 t₀ u₀ v₀) (hk : m₀ (Str.ofString "flags") = some (.int n t))
    (turn : ∀ (c1 : List Value) (c2 : Int) (c3 : Tok) (k : Int) t (u : Str → Option Value) h tk I oI, k = 0 ∨ k = 1 ∨ k = 2 ∨ k = 3 ∨ k = 4 ∨ k = 5 ∨ k = 6 → FP n k (c1, c2, c3) → I ≠ l →
      Fr h₀ env.locals h (fun y => if y = x then some (.int k t) else kstB (fun z => if [Str.ofString "flag"].contains z then u z else m₀ z) [(Str.ofString "flags", .int c2 c3)] y) → News h₀ env.locals h [(l, listOf c1.toArray c1.length), (I, oI)] →
      wpAny (model prog w) A (execs body env) (RgPost h₀ env.locals I oI { s with heap := h, toks := tk } (RgS (fun c : FS => [(l, listOf c.1.toArray c.1.length)]) (fun c => [(Str.ofString "flags", .int c.2.1 c.2.2)]) x [Str.ofString "flag"] m₀ (FP n) (k + 1)) Q) E { s with heap := h, toks := tk }) :
    wpAny (model prog w) A (pyIter (.ref r)) (fun it s₂ => LoopElse prog w A h₀ env x body orelse Q E it s₂) E s := by
  refine range_else (σ := FS) (n := 32) (fun c => [(l, listOf c.1.toArray c.1.length)]) (fun c => [(Str.ofString "flags", .int c.2.1 c.2.2)]) [Str.ofString "flag"] (FP n) ([], n, t) hh F N (fun _ hp => hp) hr (by decide) rfl (fun p hp => by rw [List.mem_singleton.mp hp]; exact hk) (FP_zero h0) ?_ ?_
  · intro c k t' u h' tk' I' oI' hk0 hk1 hP hne F' N'
    obtain ⟨c1, c2, c3⟩ := c
    exact turn c1 c2 c3 k t' u h' tk' I' oI' (seven hk0 (FP_lt h0 h1 hk0 hP)) hP (fun e => hne _ (.head _) e.symm) F' N'
  · intro c u h' tk' hP F' N'
    exact absurd (FP_lt h0 h1 (by decide) hP) (by decide)
end
section
variable {prog : Program} {w : World} {A : Around} {E : Value → Shared → Prop} {s : Shared} {Q : Value → Shared → Prop} {t u : Tok}
theorem shl_0 (h : Q (.int 1 s.toks) { s with toks := s.toks + 1 }) : wpAny (model prog w) A (binaryOp .LShift (.int 1 t) (.int 0 u)) Q E s := lshift_int_small (by decide) (by decide) (by decide) h
theorem shl_1 (h : Q (.int 2 s.toks) { s with toks := s.toks + 1 }) : wpAny (model prog w) A (binaryOp .LShift (.int 1 t) (.int 1 u)) Q E s := lshift_int_small (by decide) (by decide) (by decide) h
theorem shl_2 (h : Q (.int 4 s.toks) { s with toks := s.toks + 1 }) : wpAny (model prog w) A (binaryOp .LShift (.int 1 t) (.int 2 u)) Q E s := lshift_int_small (by decide) (by decide) (by decide) h
theorem shl_3 (h : Q (.int 8 s.toks) { s with toks := s.toks + 1 }) : wpAny (model prog w) A (binaryOp .LShift (.int 1 t) (.int 3 u)) Q E s := lshift_int_small (by decide) (by decide) (by decide) h
theorem shl_4 (h : Q (.int 16 s.toks) { s with toks := s.toks + 1 }) : wpAny (model prog w) A (binaryOp .LShift (.int 1 t) (.int 4 u)) Q E s := lshift_int_small (by decide) (by decide) (by decide) h
theorem shl_5 (h : Q (.int 32 s.toks) { s with toks := s.toks + 1 }) : wpAny (model prog w) A (binaryOp .LShift (.int 1 t) (.int 5 u)) Q E s := lshift_int_small (by decide) (by decide) (by decide) h
theorem shl_6 (h : Q (.int 64 s.toks) { s with toks := s.toks + 1 }) : wpAny (model prog w) A (binaryOp .LShift (.int 1 t) (.int 6 u)) Q E s := lshift_int_small (by decide) (by decide) (by decide) h
end
noncomputable def okDict (es : Array DictEntry) : Bool := es.toList.all fun e => match e.key with | .int i _ => e.hash == i && hashInt i == i | _ => false
theorem get_K {prog : Program} {w : World} {A : Around} {E : Value → Shared → Prop} {s : Shared} {h₀ : Heap} {L a : Addr} {m : Str → Option Value} {K : Frag} {es : Array DictEntry} {n : Nat} {k : Int} {u : Tok} {v dflt : Value} {Q : Value → Shared → Prop}
    (F : Fr h₀ L s.heap m) (X₀ : K.In h₀) (hl : K.lookup a = some ⟨.type "dict", none, .dict es n, #[]⟩) (ok : okDict es = true) (lo : (a == sysModules) = false) (e : (findBy (fun (i : Int) v => v.isInt i) es k).getD dflt = v) (h : Q v { s with toks := s.toks + 1 }) :
    wpAny (model prog w) A (call (.builtin "dict.get") [.ref a, .int k u, dflt]) Q E s := by
  have hD : s.heap.MapOf (intKind prog w) a (fun k => findBy (intKind prog w).is es k) := by
    refine ⟨_, es, n, X₀.keeps F.keep _ _ hl, ⟨rfl, rfl, rfl⟩, rfl, fun e he => ?_, fun _ => rfl⟩
    unfold okDict at ok
    have := List.all_eq_true.mp ok e (Array.mem_toList_iff.mpr he)
    cases hk : e.key with
    | int i t =>
      rw [hk] at this
      simp at this
      exact ⟨i, intKind_is prog w i t, by rw [this.1]; exact this.2.symm⟩
    | _ => rw [hk] at this; simp at this
  exact call_meetsIn PySem.F.slot_dict_get hD.typeIs PySem.F.entry_dict_get (PySem.F.args_dict_get_3 _ _ _) (meets_dict_get_default (intKind prog w) a (intKind_is prog w k u) lo dflt) ⟨_, hD, by rw [show (findBy (intKind prog w).is es k).getD dflt = v from e]; exact h⟩
noncomputable def fOk (n k : Nat) : Bool :=
  let a := hiB n k
  let b := hiB n (k + 1)
  if Builtin.bitAnd a (2 ^ k) == 0 then b == a && bitNs n (k + 1) == bitNs n k else Builtin.bitXor a (2 ^ k) == b && bitNs n (k + 1) == bitNs n k ++ [Str.ofString (flagNs.getD k "")] && (b != 0 || bitNs n (k + 1) == bitNs n 7)
theorem fOk_all : (List.range 128).all (fun n => (List.range 7).all fun k => fOk n k) = true := by decide +kernel
theorem fOk_at {n : Int} {k : Nat} (h0 : 0 < n) (h1 : n < 128) (hk : k < 7) : fOk n.toNat k = true :=
  List.all_eq_true.mp (List.all_eq_true.mp fOk_all n.toNat (List.mem_range.mpr (by omega))) k (List.mem_range.mpr hk)
theorem FP_off {n : Int} {c1 : List Value} {c2 : Int} {c3 : Tok} (k : Nat) (h0 : 0 < n) (h1 : n < 128) (hk : k < 7) (h : FP n k (c1, c2, c3)) (a : Builtin.bitAnd c2 (2 ^ k) = 0) : FP n (k + 1) (c1, c2, c3) := by
  obtain ⟨e1, e2, e3, e4⟩ := h
  have q := fOk_at h0 h1 hk
  unfold fOk at q
  dsimp only at e1 e3
  have en : ((n.toNat : Nat) : Int) = n := by omega
  rw [en] at q
  dsimp only at q
  rw [← e1, a] at q
  simp only [beq_self_eq_true, if_true, Bool.and_eq_true, beq_iff_eq] at q
  exact ⟨q.1.symm, e2, by rw [q.2]; exact e3, e4⟩
theorem FP_on {n : Int} {c1 : List Value} {c2 : Int} {c3 : Tok} (k : Nat) (h0 : 0 < n) (h1 : n < 128) (hk : k < 7) (h : FP n k (c1, c2, c3)) (a : Builtin.bitAnd c2 (2 ^ k) ≠ 0) (t t' : Tok) :
    (Builtin.bitXor c2 (2 ^ k) ≠ 0 → FP n (k + 1) (c1 ++ [.str (Str.ofString (flagNs.getD k "")) t], Builtin.bitXor c2 (2 ^ k), t')) ∧ (Builtin.bitXor c2 (2 ^ k) = 0 → StrsAre (c1 ++ [.str (Str.ofString (flagNs.getD k "")) t]) (bitNs n 7)) := by
  obtain ⟨e1, e2, e3, e4⟩ := h
  have q := fOk_at h0 h1 hk
  unfold fOk at q
  dsimp only at e1 e3 e4
  have en : ((n.toNat : Nat) : Int) = n := by omega
  rw [en] at q
  dsimp only at q
  rw [← e1] at q
  rw [if_neg (by simpa using a)] at q
  simp only [Bool.and_eq_true, beq_iff_eq, Bool.or_eq_true, bne_iff_ne, ne_eq] at q
  obtain ⟨⟨q1, q2⟩, q3⟩ := q
  have hS : StrsAre (c1 ++ [.str (Str.ofString (flagNs.getD k "")) t]) (bitNs n (k + 1)) := by
    rw [q2]
    exact StrsAre.append' e3 (.cons _ _ .nil)
  refine ⟨fun z => ⟨q1, z, hS, ?_⟩, fun z => ?_⟩
  · have l1 := hS.length
    have l2 : (bitNs n (k + 1)).length ≤ 7 := by
      unfold bitNs
      rw [List.length_map]
      exact Nat.le_trans (List.length_filter_le _ _) (by decide)
    show (c1 ++ [_]).length ≤ 7
    omega
  · rcases q3 with q3 | q3
    · exact absurd (q1.symm.trans z) q3
    · rw [← q3]; exact hS
theorem bitNs_size {n : Int} (h0 : 0 ≤ n) (h1 : n < 128) : ((bitNs n 7).map (·.length)).sum + (bitNs n 7).length ≤ 1048576 := by
  have : (List.range 128).all (fun n => decide (((bitNs n 7).map (·.length)).sum + (bitNs n 7).length ≤ 1048576)) = true := by decide +kernel
  have := of_decide_eq_true (List.all_eq_true.mp this n.toNat (List.mem_range.mpr (by omega)))
  rwa [show ((n.toNat : Nat) : Int) = n by omega] at this
theorem listOf_push (c1 : List Value) (v : Value) : listOf (c1.toArray.push v) (c1.length + 1) = listOf (c1 ++ [v]).toArray (c1 ++ [v]).length := by simp
section
variable {env : Env} {h₀ : Heap} {x : Str}
theorem flags_end {l I : Addr} {oI : Obj} {n k : Int} {c1 : List Value} {c2 : Int} {c3 : Tok} {m₀ m' : Str → Option Value} {s₁ : Shared} {L : Addr} {h' : Heap} {tk : Nat}
    (F : Fr h₀ L h' m') (N : News h₀ L h' [(l, listOf c1.toArray c1.length), (I, oI)]) (hne : I ≠ l) (hk : m' (Str.ofString "flags") = some (.int c2 c3)) (hr : ∀ z, z ≠ x → (∀ p ∈ [(Str.ofString "flags", Value.int c2 c3)], z ≠ p.1) → [Str.ofString "flag"].contains z = false → m' z = m₀ z) (hp : FP n k (c1, c2, c3)) :
    RgEnd h₀ L I oI s₁ (RgS (fun c : FS => [(l, listOf c.1.toArray c.1.length)]) (fun c => [(Str.ofString "flags", .int c.2.1 c.2.2)]) x [Str.ofString "flag"] m₀ (FP n) k) { s₁ with heap := h', toks := tk } :=
  rg_end (σ := FS) (c1, c2, c3) F N (fun p hp => by rw [List.mem_singleton.mp hp]; exact .head _) (.tail _ (.head _)) (fun p hp => by rw [List.mem_singleton.mp hp]; exact fun e => hne e.symm) (fun p hp => by rw [List.mem_singleton.mp hp]; exact hk) hr hp
end
theorem strs_tok {a : Str} {t u : Tok} : ∀ {c : List Value} {ys : List Str}, StrsAre (c ++ [.str a t]) ys → StrsAre (c ++ [.str a u]) ys
  | [], _, .cons _ _ h => .cons _ _ h
  | _ :: _, _, .cons _ _ h => .cons _ _ (strs_tok h)
theorem join_push {prog : Program} {w : World} {A : Around} {E : Value → Shared → Prop} {s : Shared} {h₀ : Heap} {L l : Addr} {c1 : List Value} {a y : Str} {t u v : Tok} {n : Nat} {r : List (Addr × Obj)} {ys : List Str} {Q : Value → Shared → Prop}
    (N : News h₀ L s.heap ((l, listOf (c1.toArray.push (.str a u)) n) :: r)) (hS : StrsAre (c1 ++ [.str a t]) ys) (hy : y.length ≤ 16) (hw : (ys.map (·.length)).sum + ys.length ≤ 1048576)
    (h : ∀ t' k, Q (.str (PySem.Txt.join y ys) t') { s with toks := k }) : wpAny (model prog w) A (call (.builtin "str.join") [.str y v, .ref l]) Q E s :=
  join_listW ⟨_, (N _ (.head _)).1, rfl, _, rfl⟩ (by simpa using strs_tok hS) hy hw h
set_option maxHeartbeats 4000000 in
theorem flags_spec {w : World} (n : Int) (t : Tok) (h0 : 0 < n) (h1 : n < 128) : Spec 1 w 158 [.int n t] [] (fun _ v new => ∃ t', v = .str (PySem.Txt.join (Str.ofString ", ") (bitNs n 7)) t' ∧ new = []) := by
  walk_at "m begin"
  have «stop call builtin:hex» := True.intro
  have «stop exec For Name Call cons cons» := True.intro
  have «stop binaryOp LShift int int» := True.intro
  have «stop call builtin:dict.get» := True.intro
  have «stop call builtin:list.append» := True.intro
  have «stop pyIter ref» := True.intro
  have «stop call builtin:str.join» := True.intro
  have «stop RgPost» := True.intro
  repeat' (first
    | ((with_reducible show StopK _ _); first
        | ((with_reducible refine goK "call builtin:str.join" ?_); (rename StrsAre _ _ => hS8); (rename News _ _ _ _ => lN'); k_dflt (refine' join_push lN' hS8 ?l2 ?l3 ?_; (case l2 => decide +kernel); (case l3 => exact bitNs_size (by omega) h1)); intro _ _)
        | ((with_reducible refine goK "pyIter ref" ?_); (with_reducible show wpAny _ _ (pyIter (Value.ref _)) (fun it s₂ => LoopElse _ _ _ _ _ _ _ _ _ _ it s₂) _ _); (rename Fr _ _ _ _ => lF'); (rename News _ _ _ _ => lN'); (rename IsRange _ _ _ _ _ _ _ _ => rgX); k_dflt (refine' flags_loop h0 h1 rfl lF' lN' rgX ?kk ?turn; (case kk => exact rfl); clear lF' lN' rgX; intro c1 c2 c3 k' t' u' h' tk' I' oI' hk' hP' hne' F' N'; have hl7 : c1.length ≤ 7 := hP'.2.2.2; (rcases hk' with rfl | rfl | rfl | rfl | rfl | rfl | rfl) <;> (try dsimp only [kstB] at F')))
        | ((with_reducible refine goK "call builtin:list.append" ?_); k_dflt (refine' append_K ?k1 ?k2 ?k3 ?_ ?z; (case k1 => k_asm); (case k2 => k_asm); (case k3 => k_upd); (case z => size_fits)); intro h' F' N'; (try k_sweep); (try dsimp only))
        | ((with_reducible refine goK "call builtin:dict.get" ?_); k_dflt (first | (refine' get_K (k := 1) (v := .str (Str.ofString "OPTIMIZED") 721) ?F ?X ?l ?o ?lo ?e ?_; (case F => k_asm); (case X => k_asm); (case l => k_is); (case o => kernel_rfl); (case lo => decide); (case e => kernel_rfl)) | (refine' get_K (k := 2) (v := .str (Str.ofString "NEWLOCALS") 723) ?F ?X ?l ?o ?lo ?e ?_; (case F => k_asm); (case X => k_asm); (case l => k_is); (case o => kernel_rfl); (case lo => decide); (case e => kernel_rfl)) | (refine' get_K (k := 4) (v := .str (Str.ofString "VARARGS") 725) ?F ?X ?l ?o ?lo ?e ?_; (case F => k_asm); (case X => k_asm); (case l => k_is); (case o => kernel_rfl); (case lo => decide); (case e => kernel_rfl)) | (refine' get_K (k := 8) (v := .str (Str.ofString "VARKEYWORDS") 727) ?F ?X ?l ?o ?lo ?e ?_; (case F => k_asm); (case X => k_asm); (case l => k_is); (case o => kernel_rfl); (case lo => decide); (case e => kernel_rfl)) | (refine' get_K (k := 16) (v := .str (Str.ofString "NESTED") 729) ?F ?X ?l ?o ?lo ?e ?_; (case F => k_asm); (case X => k_asm); (case l => k_is); (case o => kernel_rfl); (case lo => decide); (case e => kernel_rfl)) | (refine' get_K (k := 32) (v := .str (Str.ofString "GENERATOR") 731) ?F ?X ?l ?o ?lo ?e ?_; (case F => k_asm); (case X => k_asm); (case l => k_is); (case o => kernel_rfl); (case lo => decide); (case e => kernel_rfl)) | (refine' get_K (k := 64) (v := .str (Str.ofString "NOFREE") 733) ?F ?X ?l ?o ?lo ?e ?_; (case F => k_asm); (case X => k_asm); (case l => k_is); (case o => kernel_rfl); (case lo => decide); (case e => kernel_rfl))))
        | ((with_reducible refine goK "binaryOp LShift int int" ?_); k_dflt (first | with_reducible refine shl_0 ?_ | with_reducible refine shl_1 ?_ | with_reducible refine shl_2 ?_ | with_reducible refine shl_3 ?_ | with_reducible refine shl_4 ?_ | with_reducible refine shl_5 ?_ | with_reducible refine shl_6 ?_))
        | ((with_reducible refine goK "exec For Name Call cons cons" ?_); (rename Fr _ _ _ _ => lF'); k_dflt (refine' For_else lF' ?k1 ?k2 ?_; (case k1 => exact rfl); (case k2 => exact rfl); k_whole))
        | ((with_reducible refine goK "call builtin:hex" ?_); k_dflt (refine' P.hex_of_int ?_ ?hs; (case hs => decide +kernel)))
        | ((with_reducible refine goK "RgPost" ?_); (show RgEnd _ _ _ _ _ _ _); (rename Fr _ _ _ _ => lF'); (rename News _ _ _ _ => lN'); k_dflt (first | (refine' flags_end lF' lN' ?k1 ?k2 ?k3 (FP_off 0 h0 h1 (by decide) hP' (by assumption))) | (refine' flags_end lF' lN' ?k1 ?k2 ?k3 (FP_off 1 h0 h1 (by decide) hP' (by assumption))) | (refine' flags_end lF' lN' ?k1 ?k2 ?k3 (FP_off 2 h0 h1 (by decide) hP' (by assumption))) | (refine' flags_end lF' lN' ?k1 ?k2 ?k3 (FP_off 3 h0 h1 (by decide) hP' (by assumption))) | (refine' flags_end lF' lN' ?k1 ?k2 ?k3 (FP_off 4 h0 h1 (by decide) hP' (by assumption))) | (refine' flags_end lF' lN' ?k1 ?k2 ?k3 (FP_off 5 h0 h1 (by decide) hP' (by assumption))) | (refine' flags_end lF' lN' ?k1 ?k2 ?k3 (FP_off 6 h0 h1 (by decide) hP' (by assumption))) | (rw [listOf_push] at lN'; refine' flags_end lF' lN' ?k1 ?k2 ?k3 ((FP_on 0 h0 h1 (by decide) hP' (by assumption) _ _).1 (by assumption))) | (rw [listOf_push] at lN'; refine' flags_end lF' lN' ?k1 ?k2 ?k3 ((FP_on 1 h0 h1 (by decide) hP' (by assumption) _ _).1 (by assumption))) | (rw [listOf_push] at lN'; refine' flags_end lF' lN' ?k1 ?k2 ?k3 ((FP_on 2 h0 h1 (by decide) hP' (by assumption) _ _).1 (by assumption))) | (rw [listOf_push] at lN'; refine' flags_end lF' lN' ?k1 ?k2 ?k3 ((FP_on 3 h0 h1 (by decide) hP' (by assumption) _ _).1 (by assumption))) | (rw [listOf_push] at lN'; refine' flags_end lF' lN' ?k1 ?k2 ?k3 ((FP_on 4 h0 h1 (by decide) hP' (by assumption) _ _).1 (by assumption))) | (rw [listOf_push] at lN'; refine' flags_end lF' lN' ?k1 ?k2 ?k3 ((FP_on 5 h0 h1 (by decide) hP' (by assumption) _ _).1 (by assumption))) | (rw [listOf_push] at lN'; refine' flags_end lF' lN' ?k1 ?k2 ?k3 ((FP_on 6 h0 h1 (by decide) hP' (by assumption) _ _).1 (by assumption)))); (case k1 => assumption); (case k2 => rfl); (case k3 => intro z h1 h2 h3; (simp only [List.forall_mem_cons, List.not_mem_nil, false_implies, implies_true, and_true, ne_eq] at h2); (simp only [List.contains_cons, List.contains_nil, Bool.or_false, beq_eq_false_iff_ne, ne_eq] at h3); (simp [h1, h2, h3]; done)))
        | ((with_reducible refine goK _ ?_); have noK9 := True.intro; walk_at "m step"; all_goals (try clear noK9)))
    | walk_at "m step")
  all_goals (try (with_reducible refine goK _ ?_))
  all_goals first
    | ((show RgEnd _ _ _ _ _ _ _); (rename Fr _ _ _ _ => lF'); (rename News _ _ _ _ => lN'); k_dflt (first | (refine' flags_end lF' lN' ?k1 ?k2 ?k3 (FP_off 0 h0 h1 (by decide) hP' (by assumption))) | (refine' flags_end lF' lN' ?k1 ?k2 ?k3 (FP_off 1 h0 h1 (by decide) hP' (by assumption))) | (refine' flags_end lF' lN' ?k1 ?k2 ?k3 (FP_off 2 h0 h1 (by decide) hP' (by assumption))) | (refine' flags_end lF' lN' ?k1 ?k2 ?k3 (FP_off 3 h0 h1 (by decide) hP' (by assumption))) | (refine' flags_end lF' lN' ?k1 ?k2 ?k3 (FP_off 4 h0 h1 (by decide) hP' (by assumption))) | (refine' flags_end lF' lN' ?k1 ?k2 ?k3 (FP_off 5 h0 h1 (by decide) hP' (by assumption))) | (refine' flags_end lF' lN' ?k1 ?k2 ?k3 (FP_off 6 h0 h1 (by decide) hP' (by assumption))) | (rw [listOf_push] at lN'; refine' flags_end lF' lN' ?k1 ?k2 ?k3 ((FP_on 0 h0 h1 (by decide) hP' (by assumption) _ _).1 (by assumption))) | (rw [listOf_push] at lN'; refine' flags_end lF' lN' ?k1 ?k2 ?k3 ((FP_on 1 h0 h1 (by decide) hP' (by assumption) _ _).1 (by assumption))) | (rw [listOf_push] at lN'; refine' flags_end lF' lN' ?k1 ?k2 ?k3 ((FP_on 2 h0 h1 (by decide) hP' (by assumption) _ _).1 (by assumption))) | (rw [listOf_push] at lN'; refine' flags_end lF' lN' ?k1 ?k2 ?k3 ((FP_on 3 h0 h1 (by decide) hP' (by assumption) _ _).1 (by assumption))) | (rw [listOf_push] at lN'; refine' flags_end lF' lN' ?k1 ?k2 ?k3 ((FP_on 4 h0 h1 (by decide) hP' (by assumption) _ _).1 (by assumption))) | (rw [listOf_push] at lN'; refine' flags_end lF' lN' ?k1 ?k2 ?k3 ((FP_on 5 h0 h1 (by decide) hP' (by assumption) _ _).1 (by assumption))) | (rw [listOf_push] at lN'; refine' flags_end lF' lN' ?k1 ?k2 ?k3 ((FP_on 6 h0 h1 (by decide) hP' (by assumption) _ _).1 (by assumption)))); (case k1 => assumption); (case k2 => rfl); (case k3 => intro z h1 h2 h3; (simp only [List.forall_mem_cons, List.not_mem_nil, false_implies, implies_true, and_true, ne_eq] at h2); (simp only [List.contains_cons, List.contains_nil, Bool.or_false, beq_eq_false_iff_ne, ne_eq] at h3); (simp [h1, h2, h3]; done)); done)
    | (first | have hS9 := (FP_on 0 h0 h1 (by decide) hP' (by assumption) 0 0).2 (by assumption) | have hS9 := (FP_on 1 h0 h1 (by decide) hP' (by assumption) 0 0).2 (by assumption) | have hS9 := (FP_on 2 h0 h1 (by decide) hP' (by assumption) 0 0).2 (by assumption) | have hS9 := (FP_on 3 h0 h1 (by decide) hP' (by assumption) 0 0).2 (by assumption) | have hS9 := (FP_on 4 h0 h1 (by decide) hP' (by assumption) 0 0).2 (by assumption) | have hS9 := (FP_on 5 h0 h1 (by decide) hP' (by assumption) 0 0).2 (by assumption) | have hS9 := (FP_on 6 h0 h1 (by decide) hP' (by assumption) 0 0).2 (by assumption))
  all_goals dsimp only [RgPost]
  all_goals (have «stop call builtin:hex» := True.intro; have «stop exec For Name Call cons cons» := True.intro; have «stop binaryOp LShift int int» := True.intro; have «stop call builtin:dict.get» := True.intro; have «stop call builtin:list.append» := True.intro; have «stop pyIter ref» := True.intro; have «stop call builtin:str.join» := True.intro)
  all_goals repeat' (first
    | ((with_reducible show StopK _ _); first
        | ((with_reducible refine goK "call builtin:str.join" ?_); (rename StrsAre _ _ => hS8); (rename News _ _ _ _ => lN'); k_dflt (refine' join_push lN' hS8 ?l2 ?l3 ?_; (case l2 => decide +kernel); (case l3 => exact bitNs_size (by omega) h1)); intro _ _)
        | ((with_reducible refine goK "pyIter ref" ?_); (with_reducible show wpAny _ _ (pyIter (Value.ref _)) (fun it s₂ => LoopElse _ _ _ _ _ _ _ _ _ _ it s₂) _ _); (rename Fr _ _ _ _ => lF'); (rename News _ _ _ _ => lN'); (rename IsRange _ _ _ _ _ _ _ _ => rgX); k_dflt (refine' flags_loop h0 h1 rfl lF' lN' rgX ?kk ?turn; (case kk => exact rfl); clear lF' lN' rgX; intro c1 c2 c3 k' t' u' h' tk' I' oI' hk' hP' hne' F' N'; have hl7 : c1.length ≤ 7 := hP'.2.2.2; (rcases hk' with rfl | rfl | rfl | rfl | rfl | rfl | rfl) <;> (try dsimp only [kstB] at F')))
        | ((with_reducible refine goK "call builtin:list.append" ?_); k_dflt (refine' append_K ?k1 ?k2 ?k3 ?_ ?z; (case k1 => k_asm); (case k2 => k_asm); (case k3 => k_upd); (case z => size_fits)); intro h' F' N'; (try k_sweep); (try dsimp only))
        | ((with_reducible refine goK "call builtin:dict.get" ?_); k_dflt (first | (refine' get_K (k := 1) (v := .str (Str.ofString "OPTIMIZED") 721) ?F ?X ?l ?o ?lo ?e ?_; (case F => k_asm); (case X => k_asm); (case l => k_is); (case o => kernel_rfl); (case lo => decide); (case e => kernel_rfl)) | (refine' get_K (k := 2) (v := .str (Str.ofString "NEWLOCALS") 723) ?F ?X ?l ?o ?lo ?e ?_; (case F => k_asm); (case X => k_asm); (case l => k_is); (case o => kernel_rfl); (case lo => decide); (case e => kernel_rfl)) | (refine' get_K (k := 4) (v := .str (Str.ofString "VARARGS") 725) ?F ?X ?l ?o ?lo ?e ?_; (case F => k_asm); (case X => k_asm); (case l => k_is); (case o => kernel_rfl); (case lo => decide); (case e => kernel_rfl)) | (refine' get_K (k := 8) (v := .str (Str.ofString "VARKEYWORDS") 727) ?F ?X ?l ?o ?lo ?e ?_; (case F => k_asm); (case X => k_asm); (case l => k_is); (case o => kernel_rfl); (case lo => decide); (case e => kernel_rfl)) | (refine' get_K (k := 16) (v := .str (Str.ofString "NESTED") 729) ?F ?X ?l ?o ?lo ?e ?_; (case F => k_asm); (case X => k_asm); (case l => k_is); (case o => kernel_rfl); (case lo => decide); (case e => kernel_rfl)) | (refine' get_K (k := 32) (v := .str (Str.ofString "GENERATOR") 731) ?F ?X ?l ?o ?lo ?e ?_; (case F => k_asm); (case X => k_asm); (case l => k_is); (case o => kernel_rfl); (case lo => decide); (case e => kernel_rfl)) | (refine' get_K (k := 64) (v := .str (Str.ofString "NOFREE") 733) ?F ?X ?l ?o ?lo ?e ?_; (case F => k_asm); (case X => k_asm); (case l => k_is); (case o => kernel_rfl); (case lo => decide); (case e => kernel_rfl))))
        | ((with_reducible refine goK "binaryOp LShift int int" ?_); k_dflt (first | with_reducible refine shl_0 ?_ | with_reducible refine shl_1 ?_ | with_reducible refine shl_2 ?_ | with_reducible refine shl_3 ?_ | with_reducible refine shl_4 ?_ | with_reducible refine shl_5 ?_ | with_reducible refine shl_6 ?_))
        | ((with_reducible refine goK "exec For Name Call cons cons" ?_); (rename Fr _ _ _ _ => lF'); k_dflt (refine' For_else lF' ?k1 ?k2 ?_; (case k1 => exact rfl); (case k2 => exact rfl); k_whole))
        | ((with_reducible refine goK "call builtin:hex" ?_); k_dflt (refine' P.hex_of_int ?_ ?hs; (case hs => decide +kernel)))
        | ((with_reducible refine goK _ ?_); have noK9 := True.intro; walk_at "m step"; all_goals (try clear noK9)))
    | walk_at "m step")
  all_goals first
    | (refine hret _ _ _ _ ⟨_, rfl, rfl⟩ (by assumption) (by walk_at "m news") (by assumption) ?_; walk_at "m fresh")
end
section
open PySem.Calls
section
variable {prog : Program} {w : World} {A : Around} {E : Value → Shared → Prop} {s : Shared} {env : Env} {h₀ : Heap} {x : Str} {body orelse : List Stmt} {Q : Flow → Shared → Prop}
theorem flags0_loop {r l : Addr} {t t₀ u₀ v₀ : Tok} {m₀ : Str → Option Value} (hh : A.handled = none) (F : Fr h₀ env.locals s.heap m₀) (N : News h₀ env.locals s.heap [(l, listOf #[] 0)]) (hr : IsRange s.heap r 0 32 1 t₀ u₀ v₀) (hk : m₀ (Str.ofString "flags") = some (.int 0 t))
    (turn : ∀ (c3 : Tok) (k : Int) t (u : Str → Option Value) h tk I oI, 0 ≤ k → k < 32 → I ≠ l →
      Fr h₀ env.locals h (fun y => if y = x then some (.int k t) else kstB (fun z => if [Str.ofString "flag"].contains z then u z else m₀ z) [(Str.ofString "flags", .int 0 c3)] y) → News h₀ env.locals h [(l, listOf #[] 0), (I, oI)] →
      wpAny (model prog w) A (execs body env) (RgPost h₀ env.locals I oI { s with heap := h, toks := tk } (RgS (fun c : Tok => [(l, listOf #[] 0)]) (fun c => [(Str.ofString "flags", .int 0 c)]) x [Str.ofString "flag"] m₀ (fun _ _ => True) (k + 1)) Q) E { s with heap := h, toks := tk })
    (done : ∀ (c3 : Tok) (u : Str → Option Value) h tk,
      Fr h₀ env.locals h (fun y => if y = x then u y else kstB (fun z => if [Str.ofString "flag"].contains z then u z else m₀ z) [(Str.ofString "flags", .int 0 c3)] y) → News h₀ env.locals h [(l, listOf #[] 0)] → wpAny (model prog w) A (execs orelse env) Q E { s with heap := h, toks := tk }) :
    wpAny (model prog w) A (pyIter (.ref r)) (fun it s₂ => LoopElse prog w A h₀ env x body orelse Q E it s₂) E s := by
  refine range_else (σ := Tok) (n := 32) (fun c => [(l, listOf #[] 0)]) (fun c => [(Str.ofString "flags", .int 0 c)]) [Str.ofString "flag"] (fun _ _ => True) t hh F N (fun _ hp => hp) hr (by decide) rfl (fun p hp => by rw [List.mem_singleton.mp hp]; exact hk) trivial ?_ ?_
  · intro c k t' u h' tk' I' oI' hk0 hk1 hP hne F' N'
    exact turn c k t' u h' tk' I' oI' hk0 hk1 (fun e => hne _ (.head _) e.symm) F' N'
  · intro c u h' tk' hP F' N'
    exact done c u h' tk' F' N'
theorem flags0_end {l I : Addr} {oI : Obj} {k : Int} {c3 : Tok} {m₀ m' : Str → Option Value} {s₁ : Shared} {L : Addr} {h' : Heap} {tk : Nat}
    (F : Fr h₀ L h' m') (N : News h₀ L h' [(l, listOf #[] 0), (I, oI)]) (hne : I ≠ l) (hk : m' (Str.ofString "flags") = some (.int 0 c3)) (hr : ∀ z, z ≠ x → (∀ p ∈ [(Str.ofString "flags", Value.int 0 c3)], z ≠ p.1) → [Str.ofString "flag"].contains z = false → m' z = m₀ z) :
    RgEnd h₀ L I oI s₁ (RgS (fun c : Tok => [(l, listOf #[] 0)]) (fun c => [(Str.ofString "flags", .int 0 c)]) x [Str.ofString "flag"] m₀ (fun _ _ => True) k) { s₁ with heap := h', toks := tk } :=
  rg_end (σ := Tok) c3 F N (fun p hp => by rw [List.mem_singleton.mp hp]; exact .head _) (.tail _ (.head _)) (fun p hp => by rw [List.mem_singleton.mp hp]; exact fun e => hne e.symm) (fun p hp => by rw [List.mem_singleton.mp hp]; exact hk) hr trivial
end
theorem bitAnd0 (x : Int) : Builtin.bitAnd 0 x = 0 := by
  unfold Builtin.bitAnd
  cases x <;> simp
theorem join0 : PySem.Txt.join (Str.ofString ", ") [baseText "0x" 16 0] = Str.ofString "0x0" := by decide +kernel
set_option maxHeartbeats 4000000 in
theorem flags0_spec {w : World} (t : Tok) : Spec 1 w 158 [.int 0 t] [] (fun _ v new => ∃ t', v = .str (Str.ofString "0x0") t' ∧ new = []) := by
  walk_at "m begin"
  have «stop call builtin:hex» := True.intro
  have «stop exec For Name Call cons cons» := True.intro
  have «stop call builtin:list.append» := True.intro
  have «stop pyIter ref» := True.intro
  have «stop call builtin:str.join» := True.intro
  have «stop RgPost» := True.intro
  repeat' (first
    | ((with_reducible show StopK _ _); first
        | ((with_reducible refine goK "RgPost" ?_); (show RgEnd _ _ _ _ _ _ _); (rename Fr _ _ _ _ => lF'); (rename News _ _ _ _ => lN'); k_dflt (refine' flags0_end lF' lN' ?k1 ?k2 ?k3); (case k1 => assumption); (case k2 => rfl); (case k3 => intro z h1 h2 h3; (simp only [List.forall_mem_cons, List.not_mem_nil, false_implies, implies_true, and_true, ne_eq] at h2); (simp only [List.contains_cons, List.contains_nil, Bool.or_false, beq_eq_false_iff_ne, ne_eq] at h3); (simp [h1, h2, h3]; done)))
        | ((with_reducible refine goK "call builtin:str.join" ?_); (rename News _ _ _ _ => lN'); k_dflt (refine' join_push (c1 := []) (t := 0) lN' (.cons _ _ .nil) ?l2 ?l3 ?_; (case l2 => decide +kernel); (case l3 => decide +kernel)); intro _ _)
        | ((with_reducible refine goK "pyIter ref" ?_); (with_reducible show wpAny _ _ (pyIter (Value.ref _)) (fun it s₂ => LoopElse _ _ _ _ _ _ _ _ _ _ it s₂) _ _); (rename Fr _ _ _ _ => lF'); (rename News _ _ _ _ => lN'); (rename IsRange _ _ _ _ _ _ _ _ => rgX); k_dflt (refine' flags0_loop rfl lF' lN' rgX ?kk ?turn ?done; (case kk => exact rfl); clear lF' lN' rgX; intro c3 k' t' u' h' tk' I' oI' hk0' hk1' hne' F' N'; (try dsimp only [kstB] at F'); rotate_left 1; clear lF' lN' rgX; intro c3 u' h' tk' F' N'; (try dsimp only [kstB] at F'); rotate_right 1))
        | ((with_reducible refine goK "call builtin:list.append" ?_); k_dflt (refine' append_K ?k1 ?k2 ?k3 ?_ ?z; (case k1 => k_asm); (case k2 => k_asm); (case k3 => k_upd); (case z => size_fits)); intro h' F' N'; (try k_sweep); (try dsimp only))
        | ((with_reducible refine goK "exec For Name Call cons cons" ?_); (rename Fr _ _ _ _ => lF'); k_dflt (refine' For_else lF' ?k1 ?k2 ?_; (case k1 => exact rfl); (case k2 => exact rfl); k_whole))
        | ((with_reducible refine goK "call builtin:hex" ?_); k_dflt (refine' P.hex_of_int ?_ ?hs; (case hs => decide +kernel)))
        | ((with_reducible refine goK _ ?_); have noK9 := True.intro; walk_at "m step"; all_goals (try clear noK9)))
    | walk_at "m step")
  · exfalso
    (rename (Builtin.bitAnd 0 _ ≠ 0) => q)
    exact q (bitAnd0 _)
  · refine hret _ _ _ _ ⟨_, congrArg (fun x => Value.str x _) join0, rfl⟩ (by assumption) (by walk_at "m news") (by assumption) ?_
    walk_at "m fresh"
end
section
open PySem.Calls
theorem pa_pattern : PlainAttrs "re.Pattern" :=
  ⟨⟨"object.__getattribute__", by rw [typeLookup_type, builtinLookup_eq_fast]; kernel_rfl, by decide +kernel⟩, by rw [typeLookup_type, builtinLookup_eq_fast]; kernel_rfl⟩
theorem slot_search : Slot "re.Pattern" "search" "re.Pattern.search" :=
  .of (owner := "re.Pattern") (n := "search") (by rw [typeLookup_type, builtinLookup_eq_fast]; kernel_rfl) (by decide +kernel) (by decide +kernel) (by decide +kernel)
    (by first | exact .inl (by decide +kernel) | exact .inr (by decide +kernel)) (by rw [isSubtype_type]; kernel_rfl)
theorem type_search : typeOf (.builtin "re.Pattern.search") = pure (.type "method_descriptor") := by show builtinType _ = _; rw [builtinType_eq_fast]; kernel_rfl
theorem entry_search : entryFor table "re.Pattern.search" = some Builtin.«re.Pattern.search» := entryFor_of_tree (by kernel_rfl)
theorem args_search (a b : Value) : argsOk "re.Pattern.search" ⟨[a, b], []⟩ := by unfold argsOk; kernel_rfl
open Builtin.Re
noncomputable def sreRun : Nat → Sre.M → Option Sre.M
  | 0, _ => none
  | n + 1, m => if (m.runFor reTurnSteps).outcome.isSome then some (m.runFor reTurnSteps) else sreRun n (m.runFor reTurnSteps)
section
variable {M : Model} {A : Around} {E : Value → Shared → Prop} {s : Shared}
theorem drive_of {Q : Sre.M → Shared → Prop} : ∀ (n k : Nat) (m r : Sre.M), sreRun n m = some r → Q r s → wpAny M A (reDrive (n + k) m) Q E s
  | 0, _, _, _, h, _ => by cases h
  | n + 1, k, m, r, h, q => by
    rw [show n + 1 + k = (n + k) + 1 by omega]
    unfold sreRun at h
    unfold reDrive
    dsimp only
    split at h
    · rename_i c
      cases h
      rw [if_pos c]
      exact wpAny_pure q
    · rename_i c
      rw [if_neg c]
      exact wpAny_bind (wpAny_rule (drive_of n k _ r h q))
theorem rules_pass {m : Sre.M} {Q : PUnit → Shared → Prop} : ∀ (l : List Nat), Q () s → wpAny M A (forIn l PUnit.unit fun i _ => do
      if m.seen.has i then rule (Sre.names.getD i "")
      pure (ForInStep.yield PUnit.unit)) Q E s
  | [], q => wpAny_pure q
  | i :: l, q => by
    rw [List.forIn_cons]
    refine wpAny_bind ?_
    by_cases c : m.seen.has i = true
    · simp only [c, if_true]
      exact wpAny_bind (wpAny_rule (wpAny_pure (rules_pass l q)))
    · simp only [c]
      exact wpAny_pure (rules_pass l q)
theorem end_of {Q : Option Sre.M → Shared → Prop} (n : Nat) (hn : n ≤ 2 ^ 64) {m r : Sre.M} (h : sreRun n m = some r) (hf : r.outcome = some .failed) (q : Q none s) : wpAny M A (reRunToEnd m) Q E s := by
  unfold reRunToEnd
  refine wpAny_bind ?_
  rw [show (2 ^ 64 : Nat) = n + (2 ^ 64 - n) by omega]
  refine drive_of n _ m r h ?_
  refine wpAny_bind (rules_pass _ ?_)
  rw [hf]
  exact wpAny_pure q
end
section
variable {prog : Program} {w : World} {A : Around} {E : Value → Shared → Prop} {s : Shared}
noncomputable def failsOn (code : Array Nat) (x : Str) : Bool := match sreRun 100 (Sre.forSearch code x.cps 0 (min (0 : Int).toNat x.cps.size) (min (2 ^ 63 - 1 : Int).toNat x.cps.size) false) with
  | some r => match r.outcome with
    | some .failed => true
    | _ => false
  | none => false
theorem search_none {a c : Addr} {p : Str} {t1 t2 t3 t4 t : Tok} {o5 : Obj} {items : Array Value} {nn : Nat} {x : Str} {Q : Value → Shared → Prop} {v3 v4 : Value}
    (ho : s.heap.get? a = some ⟨.type "re.Pattern", none, .fields #[.str p t1, .int 32 t2, .int 0 t3, v3, v4, .ref c, .int 0 t4], #[]⟩)
    (hc : s.heap.get? c = some o5) (h5 : o5.data = .seq items nn) (hf : failsOn ((items.map reRawOf).map (·.toNat)) x = true) (q : Q .none s) :
    wpAny (model prog w) A (call (.builtin "re.Pattern.search") [.ref a, .str x t]) Q E s := by
  have hT : s.TypeIs (.ref a) "re.Pattern" := ⟨_, ho, rfl⟩
  refine wpAny_call_entry slot_search hT entry_search ?_ (args_search _ _)
  have e : reNamed "re.Pattern.search" "search" ["string", "pos", "endpos"] 1 [.str x t] [] = pure [some (.str x t), none, none] := rfl
  show wpAny _ _ (reTarget "re.Pattern.search" "search" ⟨[.ref a, .str x t], []⟩ >>= _) _ _ s
  refine wpAny_bind ?_
  unfold reTarget
  dsimp only
  rw [e]
  show wpAny _ _ (fieldsOf (.ref a) >>= _) _ _ s
  refine wpAny_bind (wpAny_fieldsOf ho rfl ?_)
  show wpAny _ _ (reRawItems (.ref c) >>= _) _ _ s
  refine wpAny_bind ?_
  show wpAny _ _ (seqItems? (.ref c) >>= _) _ _ s
  refine wpAny_bind (wpAny_seqItems hc h5 (wpAny_pure (wpAny_pure ?_)))
  unfold reAnswer
  unfold failsOn at hf
  split at hf
  · rename_i r hr
    split at hf
    · rename_i ho'
      refine wpAny_bind (end_of 100 (by decide) hr ho' ?_)
      exact wpAny_pure ⟨_, rfl, q⟩
    · cases hf
  · cases hf
noncomputable def sreIn : List (Str × Bool) := []
end
end
section
open PySem.Calls
section
variable {prog : Program} {w : World} {A : Around} {E : Value → Shared → Prop} {s : Shared}
theorem getMethod_search {h₀ : Heap} {L a : Addr} {m : Str → Option Value} {K : Frag} {vs : Array Value} {pl : Sem Bool} {Q : Value × List Value → Shared → Prop} (F : Fr h₀ L s.heap m) (X : K.In h₀) (hl : K.lookup a = some ⟨.type "re.Pattern", none, .fields vs, #[]⟩)
    (h : Q (.builtin "re.Pattern.search", [.ref a]) s) : wpAny (model prog w) A (getMethod (.ref a) (Str.ofString "search") pl) Q E s :=
  have ho := X.keeps F.keep _ _ hl
  getMethod_builtin (T := "re.Pattern") ⟨_, ho, rfl⟩ pa_pattern slot_search type_search (fun b e => by cases e; exact ⟨_, ho, rfl⟩) h
theorem searchK {h₀ : Heap} {L a c : Addr} {m : Str → Option Value} {K : Frag} {p : Str} {t1 t2 t3 t4 t : Tok} {cl : Value} {dd : Option Addr} {sl : Array (Option Value)} {items : Array Value} {nn : Nat} {x : Str} {Q : Value → Shared → Prop} {v3 v4 : Value}
    (F : Fr h₀ L s.heap m) (X : K.In h₀) (ho : K.lookup a = some ⟨.type "re.Pattern", none, .fields #[.str p t1, .int 32 t2, .int 0 t3, v3, v4, .ref c, .int 0 t4], #[]⟩)
    (hc : K.lookup c = some ⟨cl, dd, .seq items nn, sl⟩) {code : Array Nat} (he : (items.map Builtin.Re.reRawOf).map (·.toNat) = code) (hf : failsOn code x = true) (q : Q .none s) :
    wpAny (model prog w) A (call (.builtin "re.Pattern.search") [.ref a, .str x t]) Q E s :=
  search_none (X.keeps F.keep _ _ ho) (X.keeps F.keep _ _ hc) rfl (by rw [he]; exact hf) q
end
noncomputable def codeN : Array Nat := #[14, 10, 4, 1, 1, 22, 0, 31, 16, 127, 0, 13, 7, 22, 0, 31, 16, 127, 0, 1]
noncomputable def codeV : Array Nat := #[14, 14, 4, 1, 1, 9, 4294966783, 0, 0, 2147483648, 0, 0, 0, 0, 0, 13, 11, 9, 4294966783, 0, 0, 2147483648, 0, 0, 0, 0, 0, 1]
noncomputable def lowNs : List String := ["optimized", "newlocals", "varargs", "varkeywords", "nested", "generator", "nofree", "0x0"]
theorem low_ok : (lowNs.all fun x => failsOn codeN (Str.ofString x)) = true := by decide +kernel
theorem dig_ok : ((["0", "1", "2", "3", "4", "5", "6"] : List String).all fun x => failsOn codeV (Str.ofString x)) = true := by decide +kernel
set_option maxHeartbeats 4000000 in
theorem conv_name {w : World} (a : Value) (x : Str) (t : Tok) (hx : failsOn codeN x = true) : Spec 1 w 197 [a, .str x t] [] (fun _ v new => v = .str x t ∧ new = []) [(Str.ofString "name", .bool true)] := by
  walk_at "m begin"
  have «stop getMethod ref» := True.intro
  have «stop call builtin:re.Pattern.search» := True.intro
  repeat' (first
    | ((with_reducible show StopK _ _); first
        | ((with_reducible refine goK "call builtin:re.Pattern.search" ?_); k_dflt (refine' searchK ?F ?X ?l ?c ?e hx ?_; (case F => k_asm); (case X => k_asm); (case l => k_is); (case c => k_is); (case e => kernel_rfl)))
        | ((with_reducible refine goK "getMethod ref" ?_); k_dflt (refine' getMethod_search ?F ?X ?l ?_; (case F => k_asm); (case X => k_asm); (case l => k_is)); (try dsimp only))
        | ((with_reducible refine goK _ ?_); have noK9 := True.intro; walk_at "m step"; all_goals (try clear noK9)))
    | walk_at "m step")
  all_goals exact hret _ _ _ _ ⟨rfl, rfl⟩ (by assumption) (by walk_at "m news") (by assumption) (by walk_at "m fresh")
set_option maxHeartbeats 4000000 in
theorem conv_value {w : World} (a : Value) (x : Str) (t : Tok) (hx : failsOn codeV x = true) : Spec 1 w 197 [a, .str x t] [] (fun _ v new => v = .str x t ∧ new = []) [(Str.ofString "name", .bool false)] := by
  walk_at "m begin"
  have «stop getMethod ref» := True.intro
  have «stop call builtin:re.Pattern.search» := True.intro
  repeat' (first
    | ((with_reducible show StopK _ _); first
        | ((with_reducible refine goK "call builtin:re.Pattern.search" ?_); k_dflt (refine' searchK ?F ?X ?l ?c ?e hx ?_; (case F => k_asm); (case X => k_asm); (case l => k_is); (case c => k_is); (case e => kernel_rfl)))
        | ((with_reducible refine goK "getMethod ref" ?_); k_dflt (refine' getMethod_search ?F ?X ?l ?_; (case F => k_asm); (case X => k_asm); (case l => k_is)); (try dsimp only))
        | ((with_reducible refine goK _ ?_); have noK9 := True.intro; walk_at "m step"; all_goals (try clear noK9)))
    | walk_at "m step")
  all_goals exact hret _ _ _ _ ⟨rfl, rfl⟩ (by assumption) (by walk_at "m news") (by assumption) (by walk_at "m fresh")
end
section
open PySem.Calls
section
variable {prog : Program} {w : World} {A : Around} {E : Value → Shared → Prop} {s : Shared} {env : Env} {h₀ : Heap} {target : Expr} {body : List Stmt} {Q : Flow → Shared → Prop}
theorem for_rest {I ax : Addr} {lo : Obj} {vs : List Value} (J : List Value → (Str → Option Value) → List (Addr × Obj) → Prop)
    (turn : ∀ pre v post m₁ news₁ h tk o, vs = pre ++ v :: post → J pre m₁ news₁ → o.cls = .type "list_iterator" → Fr h₀ env.locals h m₁ → News h₀ env.locals h ((I, o) :: news₁) →
      wpAny (model prog w) A (assign target env v) (fun _ s₂ => wpAny (model prog w) A (execs body env) (UnrPostW h₀ env.locals { s with heap := h, toks := tk } [(I, o)] (fun m' n' => (ax, lo) ∈ n' ∧ J (pre ++ [v]) m' n') Q) E s₂) E { s with heap := h, toks := tk })
    (done : ∀ m₁ news₁ h tk, J vs m₁ news₁ → Fr h₀ env.locals h m₁ → News h₀ env.locals h news₁ → Q .next { s with heap := h, toks := tk }) :
    ∀ (post pre : List Value) (m₁ : Str → Option Value) (news₁ : List (Addr × Obj)), vs = pre ++ post → J pre m₁ news₁ → ItemsRest prog w A E h₀ env target body Q s [(I, "list_iterator")] [(ax, lo)] (post.map .val) m₁ news₁
  | [], pre, m₁, news₁, e, j => ItemsRest.zero fun h tk F N => done m₁ news₁ h tk (by rw [e, List.append_nil]; exact j) F N
  | v :: post, pre, m₁, news₁, e, j => ItemsRest.val fun h tk F o ho N => by
    refine wpAny_mono (turn pre v post m₁ news₁ h tk o e j ho F N) (fun _ s₂ q => wpAny_mono q (fun f s₃ q => ?_) fun _ _ e => e) fun _ _ e => e
    have up : UnrEndW h₀ env.locals { s with heap := h, toks := tk } [(I, o)] (fun m' n' => (ax, lo) ∈ n' ∧ J (pre ++ [v]) m' n') s₃ → UnrEndW h₀ env.locals { s with heap := h, toks := tk } [(I, o)] (fun m' n' => SubL [(ax, lo)] n' ∧ ItemsRest prog w A E h₀ env target body Q s [(I, "list_iterator")] [(ax, lo)] (post.map .val) m' n') s₃ := by
      rintro ⟨h', tk', m', n', rfl, F', N', off, k, j'⟩
      exact ⟨h', tk', m', n', rfl, F', N', off, ⟨k, trivial⟩, for_rest J turn done post (pre ++ [v]) m' n' (by rw [e]; simp) j'⟩
    cases f with
    | ret v => exact q
    | brk => exact q
    | next => exact up q
    | cont => exact up q
theorem for_list {ax : Addr} {n : Nat} {vs : List Value} {m₀ : Str → Option Value} {news : List (Addr × Obj)} (J : List Value → (Str → Option Value) → List (Addr × Obj) → Prop)
    (hh : A.handled = none) (F : Fr h₀ env.locals s.heap m₀) (N : News h₀ env.locals s.heap news) (hm : (ax, listOf vs.toArray n) ∈ news) (j₀ : J [] m₀ news)
    (turn : ∀ I pre v post m₁ news₁ h tk o, (∀ p ∈ news, p.1 < I) → vs = pre ++ v :: post → J pre m₁ news₁ → o.cls = .type "list_iterator" → Fr h₀ env.locals h m₁ → News h₀ env.locals h ((I, o) :: news₁) →
      wpAny (model prog w) A (assign target env v) (fun _ s₂ => wpAny (model prog w) A (execs body env) (UnrPostW h₀ env.locals { s with heap := h, toks := tk } [(I, o)] (fun m' n' => (ax, listOf vs.toArray n) ∈ n' ∧ J (pre ++ [v]) m' n') Q) E s₂) E { s with heap := h, toks := tk })
    (done : ∀ m₁ news₁ h tk, J vs m₁ news₁ → Fr h₀ env.locals h m₁ → News h₀ env.locals h news₁ → Q .next { s with heap := h, toks := tk }) :
    wpAny (model prog w) A (pyIter (.ref ax)) (fun it s₂ => TurnsAt prog w A h₀ env target body Q E it s₂) E s :=
  iter_listTurns hh F N hm rfl rfl fun I hI => for_rest J (fun pre v post m₁ news₁ h tk o => turn I pre v post m₁ news₁ h tk o hI) done vs [] m₀ news rfl j₀
theorem t_end {I ax : Addr} {lo o : Obj} {L : Addr} {J' : (Str → Option Value) → List (Addr × Obj) → Prop} {s₁ : Shared} {h' : Heap} {tk : Nat} {m' : Str → Option Value} {all : List (Addr × Obj)} (F : Fr h₀ L h' m') (N : News h₀ L h' all) (ho : o.cls = .type "list_iterator") (news' : List (Addr × Obj))
    (hI : (I, o) ∈ all) (sub : ∀ p ∈ news', p ∈ all) (off : ∀ p ∈ news', p.2.cls ≠ .type "list_iterator" ∨ p.1 ≠ I) (k : (ax, lo) ∈ news') (j : J' m' news') :
    UnrEndW h₀ L s₁ [(I, o)] (fun m' n' => (ax, lo) ∈ n' ∧ J' m' n') { s₁ with heap := h', toks := tk } :=
  ⟨h', tk, m', news', rfl, F, fun p hp => by
    rcases List.mem_append.mp hp with hp | hp
    · rw [List.mem_singleton.mp hp]; exact N _ hI
    · exact N p (sub p hp), fun p hp q hq e => by
    rw [List.mem_singleton.mp hq] at e
    rcases off p hp with h | h
    · have h1 := (N _ (sub p hp)).1
      have h2 := (N _ hI).1
      rw [e] at h1
      exact h ((congrArg Obj.cls (Option.some.inj (h1.symm.trans h2))).trans ho)
    · exact h e, k, j⟩
end
/-- a table's rows: the names and the values -/
noncomputable def tup2 (x y : Str) (t u : Tok) : Obj := { cls := .type "tuple", data := .seq #[.str x t, .str y u] }
inductive TRows (h : Heap) : List Value → List (Str × Str) → Prop
  | nil : TRows h [] []
  | cons {T : Addr} {t u : Tok} {r : Str × Str} {vs : List Value} {rs : List (Str × Str)} : h.get? T = some (tup2 r.1 r.2 t u) → TRows h vs rs → TRows h (.ref T :: vs) (r :: rs)
theorem TRows.keep {s g : Heap} {led : List (Addr × Obj)} {h₀ : Heap} {L : Addr} (hk : ∀ b o, s.get? b = some o → (∀ p ∈ led, p.1 ≠ b) → g.get? b = some o) (N : News h₀ L s led) (hc : ∀ p ∈ led, p.2.cls ≠ .type "tuple") : ∀ {vs : List Value} {rs : List (Str × Str)}, TRows s vs rs → TRows g vs rs
  | _, _, .nil => .nil
  | _, _, .cons h r => .cons (hk _ _ h fun p hp e => by
      have := (N p hp).1
      rw [e, h] at this
      exact hc p hp (congrArg Obj.cls (Option.some.inj this)).symm) (TRows.keep hk N hc r)
theorem TRows.at {h : Heap} {vs : List Value} {rs : List (Str × Str)} (T : TRows h vs rs) : ∀ {pre post : List Value} {v : Value}, vs = pre ++ v :: post → ∃ a t u r₁ r r₂, v = .ref a ∧ h.get? a = some (tup2 r.1 r.2 t u) ∧ rs = r₁ ++ r :: r₂ ∧ r₁.length = pre.length ∧ TRows h pre r₁ := by
  induction T with
  | nil => intro pre post v e; cases pre <;> cases e
  | @cons a t u r vs rs ha _ ih =>
    intro pre post v e
    cases pre with
    | nil =>
      cases e
      exact ⟨a, t, u, [], r, rs, rfl, ha, rfl, rfl, .nil⟩
    | cons p pre =>
      cases e
      obtain ⟨a', t', u', r₁, r', r₂, h1, h2, h3, h4, h5⟩ := ih rfl
      exact ⟨a', t', u', r :: r₁, r', r₂, h1, h2, by rw [h3]; rfl, by simp [h4], .cons ha h5⟩
theorem TRows.length {h : Heap} {vs : List Value} {rs : List (Str × Str)} (T : TRows h vs rs) : vs.length = rs.length := by
  induction T with
  | nil => rfl
  | cons _ _ ih => simp [ih]
end
section
open PySem.Calls
noncomputable abbrev low (x : Str) : Str := PySem.Txt.lower x
noncomputable def getF (rows : List (Str × Str)) (x : Str) : Option Str := (rows.find? fun r => low r.1 == x).map (·.2)
noncomputable def kvS : List Str := [Str.ofString "k", Str.ofString "v"]
section
variable {prog : Program} {w : World} {A : Around} {E : Value → Shared → Prop} {s : Shared} {env : Env} {h₀ : Heap} {target : Expr} {body : List Stmt} {Q : Flow → Shared → Prop}
noncomputable def GetJ (h₀ : Heap) (news : List (Addr × Obj)) (x : Str) (m₀ : Str → Option Value) (pre : List Value) (m : Str → Option Value) (nx : List (Addr × Obj)) : Prop :=
  nx = news ∧ (∀ z, kvS.contains z = false → m z = m₀ z) ∧ ∀ rs, TRows h₀ pre rs → ∀ r ∈ rs, (low r.1 == x) = false
theorem TRows.fn {h : Heap} : ∀ {vs : List Value} {r₁ r₂ : List (Str × Str)}, TRows h vs r₁ → TRows h vs r₂ → r₁ = r₂
  | _, _, _, .nil, .nil => rfl
  | _, _, _, .cons (r := (a, b)) h1 t1, .cons (r := (c, d)) h2 t2 => by
    rw [h1] at h2
    have : tup2 a b _ _ = tup2 c d _ _ := Option.some.inj h2
    simp only [tup2, Obj.mk.injEq, Data.seq.injEq, Array.mk.injEq, List.cons.injEq, Value.str.injEq] at this
    obtain ⟨_, _, ⟨⟨⟨rfl, _⟩, ⟨rfl, _⟩, _⟩, _⟩, _⟩ := this
    rw [TRows.fn t1 t2]
theorem TRows.snoc {h : Heap} {a : Addr} {t u : Tok} {r : Str × Str} (ha : h.get? a = some (tup2 r.1 r.2 t u)) : ∀ {vs : List Value} {rs : List (Str × Str)}, TRows h vs rs → TRows h (vs ++ [.ref a]) (rs ++ [r])
  | _, _, .nil => .cons ha .nil
  | _, _, .cons hb r => .cons hb (TRows.snoc ha r)
theorem get_loop {l n : Nat} {vs : List Value} {rows : List (Str × Str)} {x : Str} {m₀ : Str → Option Value} {news : List (Addr × Obj)} (hT : TRows h₀ vs rows)
    (hh : A.handled = none) (F : Fr h₀ env.locals s.heap m₀) (N : News h₀ env.locals s.heap news) (hm : (l, listOf vs.toArray n) ∈ news)
    (turn : ∀ (I a : Addr) (t u : Tok) (r : Str × Str) (u' : Str → Option Value) h tk o pre, r ∈ rows → ((low r.1 == x) = true → getF rows x = some r.2) → IsTup h a #[.str r.1 t, .str r.2 u] →
      ((low r.1 == x) = false → ∀ rs, TRows h₀ (pre ++ [.ref a]) rs → ∀ r ∈ rs, (low r.1 == x) = false) → o.cls = .type "list_iterator" →
      Fr h₀ env.locals h (fun z => if kvS.contains z = true then u' z else m₀ z) → News h₀ env.locals h ((I, o) :: news) →
      wpAny (model prog w) A (assign target env (.ref a)) (fun _ s₂ => wpAny (model prog w) A (execs body env) (UnrPostW h₀ env.locals { s with heap := h, toks := tk } [(I, o)] (fun m' n' => (l, listOf vs.toArray n) ∈ n' ∧ GetJ h₀ news x m₀ (pre ++ [.ref a]) m' n') Q) E s₂) E { s with heap := h, toks := tk })
    (done : ∀ (u' : Str → Option Value) h tk, getF rows x = none → Fr h₀ env.locals h (fun z => if kvS.contains z = true then u' z else m₀ z) → News h₀ env.locals h news → Q .next { s with heap := h, toks := tk }) :
    wpAny (model prog w) A (pyIter (.ref l)) (fun it s₂ => TurnsAt prog w A h₀ env target body Q E it s₂) E s := by
  have fr : ∀ {h : Heap} {m₁ : Str → Option Value}, (∀ z, kvS.contains z = false → m₁ z = m₀ z) → Fr h₀ env.locals h m₁ → Fr h₀ env.locals h (fun z => if kvS.contains z = true then m₁ z else m₀ z) := by
    intro h m₁ h1 F
    have e : (fun z => if kvS.contains z = true then m₁ z else m₀ z) = m₁ := by
      funext z
      cases q : kvS.contains z with
      | true => simp
      | false => simp [h1 z q]
    rw [e]; exact F
  refine for_list (GetJ h₀ news x m₀) hh F N hm ⟨rfl, fun _ _ => rfl, fun rs h => by cases h; exact fun _ hr => nomatch hr⟩ ?_ ?_
  · rintro I pre v post m₁ nx h tk o hI e ⟨rfl, h1, h2⟩ ho F₁ N₁
    obtain ⟨a, t, u, r₁, r, r₂, rfl, ha, hr, _, hp⟩ := hT.at e
    refine turn I a t u r m₁ h tk o pre (by rw [hr]; simp) (fun q => ?_) ⟨_, F₁.keep _ _ ha, rfl, _, rfl⟩ (fun q rs hrs => ?_) ho (fr h1 F₁) N₁
    · unfold getF
      rw [hr, List.find?_append, List.find?_eq_none.mpr (fun y hy => by simp [h2 _ hp y hy])]
      simp [q]
    · have := TRows.fn hrs (TRows.snoc ha hp)
      subst this
      intro y hy
      rcases List.mem_append.mp hy with hy | hy
      · exact h2 _ hp y hy
      · rw [List.mem_singleton.mp hy]; exact q
  · rintro m₁ nx h tk ⟨rfl, h1, h2⟩ F₁ N₁
    refine done m₁ h tk ?_ (fr h1 F₁) N₁
    unfold getF
    rw [List.find?_eq_none.mpr (fun y hy => by simp [h2 _ hT y hy])]
    rfl
end
theorem tab_cls {a d l n nd : Nat} {e : List DictEntry} {vs : List Value} {T : String} (h1 : T ≠ "dict") (h2 : T ≠ "list") : ∀ p ∈ [(a, instObj 298 d), (d, dictOf e nd), (l, listOf vs.toArray n)], p.2.cls ≠ .type T := by
  intro p hp
  simp only [List.mem_cons, List.not_mem_nil, or_false] at hp
  rcases hp with rfl | rfl | rfl
  · exact fun e => by cases e
  · exact fun e => by injection e with e; exact h1 e.symm
  · exact fun e => by injection e with e; exact h2 e.symm
set_option maxHeartbeats 4000000 in
theorem get_spec {w : World} (a d l n nd : Nat) (tk t : Tok) (vs : List Value) (rows : List (Str × Str)) (x : Str) (hx : failsOn codeN (low x) = true) (hl : x.length ≤ 64) (hrl : ∀ r ∈ rows, r.1.length ≤ 64) : SpecP 3 w 245 [.ref a, .str x t]
    [(a, instObj 298 d), (d, dictOf [⟨PyData.keyHash w.params (Str.ofString "_headers"), .str (Str.ofString "_headers") tk, .ref l⟩] nd), (l, listOf vs.toArray n)] (fun h => TRows h vs rows)
    (fun _ v new => new = [(a, instObj 298 d), (d, dictOf [⟨PyData.keyHash w.params (Str.ofString "_headers"), .str (Str.ofString "_headers") tk, .ref l⟩] nd), (l, listOf vs.toArray n)] ∧ match getF rows (low x) with | some y => ∃ u, v = .str y u | none => v = .none) := by
  walk_at "m begin"
  have hTg := TRows.keep (by assumption) (by assumption) (tab_cls (by decide) (by decide)) (by assumption)
  have «stop call ref» := True.intro
  have «stop exec For Tuple Attribute cons nil» := True.intro
  have «stop pyIter ref» := True.intro
  have «stop UnrEndW» := True.intro
  repeat' (first
    | ((with_reducible show StopK _ _); first
        | ((with_reducible refine goK "UnrEndW" ?_); (rename Fr _ _ _ _ => lF'); (rename News _ _ _ _ => lN'); k_dflt (refine' t_end lF' lN' ho' _ ?hI ?sub ?off ?k ⟨rfl, ?hr, hE' (by assumption)⟩; (case hI => k_mem); (case sub => exact fun p hp => List.mem_cons_of_mem _ hp); (case off => exact fun p hp => .inl (tab_cls (by decide) (by decide) p hp)); (case k => k_mem); (case hr => intro z h3; (simp only [kvS, List.contains_cons, List.contains_nil, Bool.or_false, Bool.or_eq_false_iff, beq_eq_false_iff_ne, ne_eq] at h3); (simp [kvS, h3]; done))))
        | ((with_reducible refine goK "pyIter ref" ?_); (with_reducible show wpAny _ _ (pyIter (Value.ref _)) (fun it s₂ => TurnsAt _ _ _ _ _ _ _ _ _ it s₂) _ _); (rename Fr _ _ _ _ => lF'); (rename News _ _ _ _ => lN'); k_dflt (refine' get_loop (x := low x) hTg rfl lF' lN' ?hm ?turn ?done; (case hm => k_mem); clear lF' lN'; intro I' a' t' u' r' w' h' tk' o' pre' hr' hg' hT' hE' ho' F' N'; have hrl' := hrl r' hr'; rotate_left 1; clear lF' lN'; intro w' h' tk' hg' F' N'; rotate_right 1))
        | ((with_reducible refine goK "exec For Tuple Attribute cons nil" ?_); (rename Fr _ _ _ _ => lF'); k_dflt (refine' For_turns lF' ?_))
        | ((with_reducible refine goK "call ref" ?_); k_dflt (first | refine' Spec.use0 (conv_name _ _ _ ?mX) ?mB ?mF ?mK ?mN ?mT ?mk ?md ?mu ?_ | refine' Spec.use0 (conv_value _ _ _ ?mX) ?mB ?mF ?mK ?mN ?mT ?mk ?md ?mu ?_); (case mX => exact hx); walk_at "m use"; intro v' new' h' tk' n' l1 hp' F' N' ne'; (obtain ⟨hv', hn'⟩ := hp'); subst hv'; subst hn'; walk_at "m after")
        | ((with_reducible refine goK _ ?_); have noK9 := True.intro; walk_at "m step"; all_goals (try clear noK9)))
    | walk_at "m step")
  · refine hret _ _ _ _ ⟨rfl, ?_⟩ (by assumption) (by walk_at "m news") (by assumption) (by walk_at "m fresh")
    rw [hg' (by assumption)]
    exact ⟨_, rfl⟩
  · refine hret _ _ _ _ ⟨rfl, ?_⟩ (by assumption) (by walk_at "m news") (by assumption) (by walk_at "m fresh")
    rw [hg']
end
section
open PySem.Calls
theorem TRows.keepF {g h : Heap} {L : Addr} {m : Str → Option Value} (F : Fr g L h m) : ∀ {vs : List Value} {rs : List (Str × Str)}, TRows g vs rs → TRows h vs rs
  | _, _, .nil => .nil
  | _, _, .cons e r => .cons (F.keep _ _ e) (TRows.keepF F r)
/-- the table in the ledger -/
noncomputable abbrev tabL (w : World) (a d l n nd : Nat) (tk : Tok) (vs : List Value) : List (Addr × Obj) := [(a, instObj 298 d), (d, dictOf [⟨PyData.keyHash w.params (Str.ofString "_headers"), .str (Str.ofString "_headers") tk, .ref l⟩] nd), (l, listOf vs.toArray n)]
theorem ne_nil {led : List (Addr × Obj)} : ∀ p ∈ ([] : List (Addr × Obj)), ∀ q ∈ led, q.1 ≠ p.1 := fun _ hp => nomatch hp
set_option maxHeartbeats 4000000 in
theorem contains_spec {w : World} (a d l n nd : Nat) (tk t : Tok) (vs : List Value) (rows : List (Str × Str)) (x : Str) (hx : failsOn codeN (low x) = true) (hl : x.length ≤ 64) (hrl : ∀ r ∈ rows, r.1.length ≤ 64) : SpecP 4 w 230 [.ref a, .str x t]
    [(a, instObj 298 d), (d, dictOf [⟨PyData.keyHash w.params (Str.ofString "_headers"), .str (Str.ofString "_headers") tk, .ref l⟩] nd), (l, listOf vs.toArray n)] (fun h => TRows h vs rows)
    (fun _ v new => new = [(a, instObj 298 d), (d, dictOf [⟨PyData.keyHash w.params (Str.ofString "_headers"), .str (Str.ofString "_headers") tk, .ref l⟩] nd), (l, listOf vs.toArray n)] ∧ v = .bool (getF rows (low x)).isSome) := by
  walk_at "m begin"
  have hTg := TRows.keep (by assumption) (by assumption) (tab_cls (by decide) (by decide)) (by assumption)
  have «stop call ref» := True.intro
  repeat' (first
    | ((with_reducible show StopK _ _); first
        | ((with_reducible refine goK "call ref" ?_); (rename Fr _ _ _ _ => lF9); k_dflt (refine' SpecP.to (rest := []) (get_spec _ _ _ _ _ _ _ _ rows _ hx hl hrl) ?mp ?mB ?mF ?mK ?mN ?mT ?mk ?md ?mu ne_nil ?_; walk_at "m use"; (case mp => exact TRows.keepF lF9 hTg)); intro v' new' h' tk' n' l1 hp' F' N' ne' kk'; (obtain ⟨hn', hv'⟩ := hp'); subst hn'; walk_at "m after"; (cases hq9 : getF rows (low x)) <;> rw [hq9] at hv' <;> dsimp only at hv' <;> (first | subst hv' | (obtain ⟨u9, hv9⟩ := hv'; subst hv9)))
        | ((with_reducible refine goK _ ?_); have noK9 := True.intro; walk_at "m step"; all_goals (try clear noK9)))
    | walk_at "m step")
  all_goals first
    | (refine hret _ _ _ _ ⟨rfl, ?_⟩ (by assumption) (by walk_at "m news") (by assumption) (by walk_at "m fresh"); rw [hq9]; rfl)
end
section
open PySem.Calls
theorem slice_noindex : typeLookup (.type "slice") "__index__" = pure none := by rw [typeLookup_type, builtinLookup_eq_fast]; kernel_rfl
noncomputable def sliceO : Obj := { cls := .type "slice", data := .fields #[.none, .none, .none] }
section
open Builtin.List
variable {prog : Program} {w : World} {A : Around} {E : Value → Shared → Prop} {s : Shared}
theorem set_slice {l sl D n k : Nat} {its ys : List Value} {Q : Unit → Shared → Prop} (hl : s.heap.get? l = some (listOf its.toArray n)) (hs : s.heap.get? sl = some sliceO) (hD : s.heap.get? D = some (listOf ys.toArray k))
    (hne : l ≠ D) (hz1 : its.length ≤ 1000) (hz2 : ys.length ≤ 1000)
    (hQ : ∀ h' n', h'.get? l = some (listOf ys.toArray n') → Heap.SameBut l s.heap h' → Q () { s with heap := h' }) :
    wpAny (model prog w) A (setItem (.ref l) (.ref sl) (.ref D)) Q E s := by
  have hlT : s.TypeIs (.ref l) "list" := ⟨_, hl, rfl⟩
  have hsT : s.TypeIs (.ref sl) "slice" := ⟨_, hs, rfl⟩
  have hDT : s.TypeIs (.ref D) "list" := ⟨_, hD, rfl⟩
  unfold setItem
  try with_reducible refine wpAny_holding ?_
  first | refine wpAny_bind (wpAny_pure ?_) | skip
  refine wpAny_bind (wpAny_sequenceKey hlT (by decide) ?_)
  refine wpAny_bind (wpAny_callSpecial?_slot (name := Str.ofString "__setitem__") hlT slot_list_setitem
    (wpAny_call_entry slot_list_setitem hlT entry_list_setitem ?_ (args_list_setitem _ _ _)))
  show wpAny _ _ (listSubscript? (.ref sl) >>= _) _ _ s
  refine wpAny_bind ?_
  unfold listSubscript?
  refine wpAny_bind (wpAny_specialOf hsT slice_noindex ?_)
  show wpAny _ _ (pure none) _ _ s
  refine wpAny_pure ?_
  show wpAny _ _ (typeOf (.ref sl) >>= _) _ _ s
  refine wpAny_bind (wpAny_typeOf hsT ?_)
  show wpAny _ _ (listSliceParts (.ref sl) >>= _) _ _ s
  have hf : ∀ (i : Nat), i < 3 → (#[Value.none, Value.none, Value.none] : Array Value)[i]? = some Value.none := by intro i hi; match i, hi with | 0, _ => rfl | 1, _ => rfl | 2, _ => rfl
  refine wpAny_bind ?_
  unfold listSliceParts
  show wpAny _ _ (field (.ref sl) 2 >>= _) _ _ s
  refine wpAny_bind (wpAny_field hs rfl (hf 2 (by decide)) ?_)
  show wpAny _ _ (field (.ref sl) 0 >>= _) _ _ s
  refine wpAny_bind (wpAny_field hs rfl (hf 0 (by decide)) ?_)
  show wpAny _ _ (field (.ref sl) 1 >>= _) _ _ s
  refine wpAny_bind (wpAny_field hs rfl (hf 1 (by decide)) ?_)
  show wpAny _ _ (pure (Value.none, Value.none, Value.none)) _ _ s
  refine wpAny_pure ?_
  have e1 : listSameRef (.ref l) (.ref D) = false := by show (l == D) = false; exact beq_eq_false_iff_ne.mpr hne
  dsimp only
  rw [e1]
  show wpAny _ _ (listAllItems (.ref D) "must assign iterable to extended slice" >>= _) _ _ s
  refine wpAny_bind ?_
  unfold listAllItems
  refine wpAny_bind (wpAny_typeOf hDT ?_)
  show wpAny _ _ (listItems (.ref D)) _ _ s
  unfold listItems
  refine wpAny_bind (wpAny_seqItems hD rfl (wpAny_pure ?_))
  show wpAny _ _ (listItems (.ref l) >>= _) _ _ s
  refine wpAny_bind ?_
  unfold listItems
  refine wpAny_bind (wpAny_seqItems hl rfl (wpAny_pure ?_))
  show wpAny _ _ (sliceIndices .none .none .none its.toArray.size >>= _) _ _ s
  have e2 : sliceIndices .none .none .none its.toArray.size = pure (0, (its.toArray.size : Int), 1) := rfl
  rw [e2]
  refine wpAny_bind (wpAny_pure ?_)
  show wpAny _ _ (rule "list.__setitem__.slice" >>= _) _ _ s
  refine wpAny_bind (wpAny_rule ?_)
  have e3 : listTooLong (its.toArray.size + ys.toArray.size) = false := by
    unfold listTooLong
    rw [decide_eq_false]
    simp only [sizeLine_eq, List.size_toArray]
    omega
  rw [e3]
  show wpAny _ _ (updateSeq l _ >>= _) _ _ s
  have ex : (its.toArray.extract 0 (0 : Int).toNat ++ ys.toArray ++ its.toArray.extract (max (0 : Int) (its.toArray.size : Int)).toNat its.toArray.size) = ys.toArray := by
    have h1 : (max (0 : Int) (its.toArray.size : Int)).toNat = its.toArray.size := by omega
    rw [h1]
    simp
  refine wpAny_bind (wpAny_updateSeq hl rfl ?_ (by simp only [sizeLine_eq, List.size_toArray]; omega) ?_)
  · refine wpAny_bind (wpAny_letGo ?_)
    refine wpAny_pure ⟨_, rfl, wpAny_pure (hQ _ (if ys.toArray.size == its.toArray.size then n else n + 1) ?_ (Heap.SameBut.update ..))⟩
    refine (Heap.get?_update_self _ hl rfl).trans (congrArg some ?_)
    simp only [Obj.mapSeq, W.listOf]
    simp only [ex]
  · rw [ex]
    simp only [sizeLine_eq, List.size_toArray]; omega
theorem set_sliceK {l sl D n k : Nat} {its ys : List Value} {h₀ : Heap} {L : Addr} {m : Str → Option Value} {Q : Unit → Shared → Prop} (F : Fr h₀ L s.heap m)
    {news : List (Addr × Obj)} (N : News h₀ L s.heap news) (hl : (l, listOf its.toArray n) ∈ news) (hs : (sl, sliceO) ∈ news) (hD : (D, listOf ys.toArray k) ∈ news) (hne : l ≠ D) (hz1 : its.length ≤ 1000) (hz2 : ys.length ≤ 1000)
    (hQ : ∀ h' n', Fr h₀ L h' m → (∀ rest : List (Addr × Obj), (∀ p ∈ rest, p ∈ news) → (∀ p ∈ rest, p.1 ≠ l) → News h₀ L h' ((l, listOf ys.toArray n') :: rest)) → Q () { s with heap := h' }) :
    wpAny (model prog w) A (setItem (.ref l) (.ref sl) (.ref D)) Q E s :=
  set_slice (N _ hl).1 (N _ hs).1 (N _ hD).1 hne hz1 hz2 fun h' n' e hb => by
    have nl := N _ hl
    refine hQ h' n' (F.change hb nl.2.1 nl.2.2) fun rest hr hn p hp => ?_
    rcases List.mem_cons.mp hp with rfl | hp
    · exact ⟨e, nl.2⟩
    · have z := N p (hr p hp)
      exact ⟨(hb.2 p.1 (hn p hp)).trans z.1, z.2⟩
end
end
section
open PySem.Calls
open LCt LCg in
theorem rest_filter {prog : Program} {w : World} {A : Around} {s : Shared} {h₀ : Heap} {L : Addr} {m : Str → Option Value} {env : Env} {ct elt : Expr} {x : Str} {scope : Scope} {cl : List (Str × Addr)} {S : List (Addr × Obj) → Prop} {P : Nat → Value → Prop} {Fin : List Value → List (Addr × Obj) → Prop} {vs : List Value} {news : List (Addr × Obj)} (g : Value → Option Value)
    (hP : ∀ i v, P i v → vs[i]? = some v)
    (turn : ∀ v I oI C oC D ys m₂ h tk (E' : Value → Shared → Prop), v ∈ vs → NsObj oC m₂ → m₂ x = some v → Fr h₀ L h m → News h₀ L h ((I, oI) :: (C, oC) :: (D, lst ys) :: news) → Off3 I C D news → ((@Ne Nat I C) ∧ (@Ne Nat I D) ∧ (@Ne Nat C D)) →
      wpAny (model prog w) A (isTrue ct (compEnvC scope cl C env) (eval ct (compEnvC scope cl C env))) (fun ok s' => if ok = true then
        wpAny (model prog w) A (eval elt (compEnvC scope cl C env)) (CompEnd h₀ L m { s with heap := h, toks := tk } I oI C oC D (lst ys) S (fun y news' => g v = some y ∧ news' = news)) E' s'
        else CompEnd h₀ L m { s with heap := h, toks := tk } I oI C oC D (lst ys) S (fun _ news' => g v = none ∧ news' = news) Value.none s') E' { s with heap := h, toks := tk })
    (fin : Fin (vs.filterMap g) news) : ∀ (k i : Nat) (ys : List Value), i + k = vs.length → ys = (vs.take i).filterMap g → CompRestT prog w A h₀ L m env ct elt x scope cl s S P Fin k i ys news
  | 0, i, ys, e, hy => by
    refine CompRestT.zero ?_
    have : vs.take i = vs := List.take_of_length_le (by omega)
    rw [hy, this]; exact fin
  | k + 1, i, ys, e, hy => by
    refine CompRestT.succ fun v I oI C oC D m₂ h tk E' hp hC hx F N off ne => ?_
    have hv := hP i v hp
    have ht : vs.take (i + 1) = vs.take i ++ [v] := by rw [List.take_add_one, hv]; rfl
    refine wpAny_mono (turn v I oI C oC D ys m₂ h tk E' (List.mem_of_getElem? hv) hC hx F N off ne) (fun ok s' q => ?_) fun _ _ e => e
    cases ok with
    | true =>
      simp only [if_true] at q ⊢
      refine wpAny_mono q (fun y s₂ q => ?_) fun _ _ e => e
      obtain ⟨h', tk', n', rfl, F', N', off', hS, hg, rfl⟩ := q
      exact ⟨h', tk', _, rfl, F', N', off', hS, rest_filter g hP turn fin k (i + 1) _ (by omega) (by rw [ht, List.filterMap_append, hy]; simp [hg])⟩
    | false =>
      simp only [Bool.false_eq_true, if_false] at q ⊢
      obtain ⟨h', tk', n', rfl, F', N', off', hS, hg, rfl⟩ := q
      exact ⟨h', tk', _, rfl, F', N', off', hS, rest_filter g hP turn fin k (i + 1) _ (by omega) (by rw [ht, List.filterMap_append, hy]; simp [hg])⟩
noncomputable def nameOf (o : Obj) : Str := match o.data with
  | .seq its _ => match its.toList with
    | Value.str y _ :: _ => y
    | _ => Str.empty
  | _ => Str.empty
noncomputable def delG (h : Heap) (x : Str) (v : Value) : Option Value := match v with
  | .ref T => if (low (nameOf ((h.get? T).getD default)) != x) = true then some v else none
  | _ => none
theorem delG_at {h : Heap} {x : Str} {T : Addr} {r : Str × Str} {t u : Tok} (e : h.get? T = some (tup2 r.1 r.2 t u)) : delG h x (.ref T) = if (low r.1 != x) = true then some (.ref T) else none := by
  unfold delG
  simp only [e]
  rfl
theorem TRows.mem {h : Heap} {vs : List Value} {rs : List (Str × Str)} (T : TRows h vs rs) {v : Value} (hv : v ∈ vs) : ∃ a t u r, v = .ref a ∧ h.get? a = some (tup2 r.1 r.2 t u) ∧ r ∈ rs := by
  obtain ⟨pre, post, e⟩ := List.append_of_mem hv
  obtain ⟨a, t, u, r₁, r, r₂, h1, h2, h3, _⟩ := T.at e
  exact ⟨a, t, u, r, h1, h2, by rw [h3]; simp⟩
theorem TRows.del {h : Heap} {x : Str} : ∀ {vs : List Value} {rs : List (Str × Str)}, TRows h vs rs → TRows h (vs.filterMap (delG h x)) (rs.filter fun r => low r.1 != x)
  | _, _, .nil => .nil
  | _, _, .cons (r := r) e T => by
    rw [List.filterMap_cons, delG_at e, List.filter_cons]
    by_cases q : (low r.1 != x) = true
    · simp only [q, if_true]; exact .cons e (TRows.del T)
    · simp only [q]; exact TRows.del T
noncomputable abbrev heapT {h : Heap} {vs : List Value} {rs : List (Str × Str)} (_ : TRows h vs rs) : Heap := h
theorem set_sliceP {prog : Program} {w : World} {A : Around} {E : Value → Shared → Prop} {l D c a d n : Nat} {its ys : List Value} {oc oa od : Obj} {h₀ h : Heap} {L : Addr} {m : Str → Option Value} {g : Array GenState} {dr : Drawn} {t : Nat} {os : OsState} {Q : Unit → Shared → Prop} (F : Fr h₀ L h m)
    (N : News h₀ L h [(D, LCg.lst ys), (c, oc), (a, oa), (d, od), (l, listOf its.toArray n)]) (n1 : l ≠ D) (n2 : a ≠ l) (n3 : d ≠ l) (hz1 : its.length ≤ 1000) (hz2 : ys.length ≤ 1000)
    (hQ : ∀ h' n', Fr h₀ L h' m → News h₀ L h' [(a, oa), (d, od), (l, listOf ys.toArray n')] → Q () ⟨h', g, dr, t, os⟩) :
    wpAny (model prog w) A (setItem (.ref l) (.ref h.objs.size) (.ref D)) Q E ⟨h.push sliceO, g, dr, t, os⟩ := by
  have N1 := N.push F sliceO
  refine set_sliceK (s := ⟨h.push sliceO, g, dr, t, os⟩) (k := ys.length) (its := its) (ys := ys) (F.push _) N1 (.tail _ (.tail _ (.tail _ (.tail _ (.tail _ (.head _)))))) (.head _) (.tail _ (.head _)) n1 hz1 hz2 fun h' n' F' N' => hQ h' n' F' ?_
  have s1 : ∀ p ∈ [(a, oa), (d, od)], p ∈ (h.objs.size, sliceO) :: [(D, LCg.lst ys), (c, oc), (a, oa), (d, od), (l, listOf its.toArray n)] := fun p hp => by
    rcases List.mem_cons.mp hp with rfl | hp
    · exact .tail _ (.tail _ (.tail _ (.head _)))
    · rw [List.mem_singleton.mp hp]; exact .tail _ (.tail _ (.tail _ (.tail _ (.head _))))
  have s2 : ∀ p ∈ [(a, oa), (d, od)], p.1 ≠ l := fun p hp => by
    rcases List.mem_cons.mp hp with rfl | hp
    · exact n2
    · rw [List.mem_singleton.mp hp]; exact n3
  have := N' [(a, oa), (d, od)] s1 s2
  intro p hp
  rcases List.mem_cons.mp hp with rfl | hp
  · exact this _ (.tail _ (.head _))
  · rcases List.mem_cons.mp hp with rfl | hp
    · exact this _ (.tail _ (.tail _ (.head _)))
    · rw [List.mem_singleton.mp hp]; exact this _ (.head _)
theorem TRows.del2 {g h : Heap} {x : Str} : ∀ {vs : List Value} {rs : List (Str × Str)}, TRows g vs rs → TRows h vs rs → TRows h (vs.filterMap (delG g x)) (rs.filter fun r => low r.1 != x)
  | _, _, .nil, .nil => .nil
  | _, _, .cons (r := r) e T, .cons e' T' => by
    rw [List.filterMap_cons, delG_at e, List.filter_cons]
    by_cases q : (low r.1 != x) = true
    · simp only [q, if_true]; exact .cons e' (TRows.del2 T T')
    · simp only [q]; exact TRows.del2 T T'
noncomputable def delF (rows : List (Str × Str)) (x : Str) : List (Str × Str) := rows.filter fun r => low r.1 != x
theorem tab_ne {h₀ h : Heap} {L : Addr} {rest : List (Addr × Obj)} {a d l n nd : Nat} {e : List DictEntry} {vs : List Value} (N : News h₀ L h ((a, instObj 298 d) :: (d, dictOf e nd) :: (l, listOf vs.toArray n) :: rest)) : a ≠ l ∧ d ≠ l ∧ a ≠ d := by
  have h1 := (N _ (.head _)).1
  have h2 := (N _ (.tail _ (.head _))).1
  have h3 := (N _ (.tail _ (.tail _ (.head _)))).1
  refine ⟨fun q => ?_, fun q => ?_, fun q => ?_⟩
  · rw [q, h3] at h1
    have := congrArg Obj.cls (Option.some.inj h1)
    exact absurd this (fun e => by cases e)
  · rw [q, h3] at h2
    have := congrArg Obj.cls (Option.some.inj h2)
    exact absurd this (fun e => by injection e with e; exact absurd e (by decide))
  · rw [q, h2] at h1
    have := congrArg Obj.cls (Option.some.inj h1)
    exact absurd this (fun e => by cases e)
theorem filterMap_len {α β : Type} (f : α → Option β) (l : List α) : (l.filterMap f).length ≤ l.length := List.length_filterMap_le f l
set_option maxHeartbeats 4000000 in
theorem del_spec {w : World} (a d l n nd : Nat) (tk t : Tok) (vs : List Value) (rows : List (Str × Str)) (x : Str) (hx : failsOn codeN (low x) = true) (hl : x.length ≤ 64) (hrl : ∀ r ∈ rows, r.1.length ≤ 64) (hn : vs.length ≤ 64) : SpecP 3 w 216 [.ref a, .str x t]
    [(a, instObj 298 d), (d, dictOf [⟨PyData.keyHash w.params (Str.ofString "_headers"), .str (Str.ofString "_headers") tk, .ref l⟩] nd), (l, listOf vs.toArray n)] (fun h => TRows h vs rows)
    (fun _ v new => v = .none ∧ ∃ n' vs', new = [(a, instObj 298 d), (d, dictOf [⟨PyData.keyHash w.params (Str.ofString "_headers"), .str (Str.ofString "_headers") tk, .ref l⟩] nd), (l, listOf vs'.toArray n')] ∧ vs'.length ≤ vs.length ∧ ∀ h, TRows h vs rows → TRows h vs' (delF rows (low x))) := by
  walk_at "m begin"

  have hTg := TRows.keep (by assumption) (by assumption) (tab_cls (by decide) (by decide)) (by assumption)
  have hne9 := tab_ne (by assumption)
  have «stop call ref» := True.intro
  have «stop eval ListComp» := True.intro
  have «stop CompSrcT» := True.intro
  have «stop setItem» := True.intro
  repeat' (first
    | ((with_reducible show StopK _ _); first
        | ((with_reducible refine goK "setItem" ?_); (rename Fr _ _ _ _ => lF'); (rename News _ _ _ _ => lN'); k_dflt (refine' set_sliceP lF' lN' ?q1 hne9.1 hne9.2.1 ?q2 ?q3 ?_; (case q1 => omega); (case q2 => omega); (case q3 => exact Nat.le_trans (filterMap_len _ _) (by omega))); intro h' n' F' N'; (try dsimp only))
        | ((with_reducible refine goK "CompSrcT" ?_); k_dflt (refine LCt.CompSrcT.ledger (by rfl) (by k_asm) (by k_asm) (by k_mem) (by size_fits) ?_; intro g'; refine' rest_filter (vs := vs) (delG (heapT hTg) (low x)) ?hP ?turn ?fin _ 0 [] ?e1 ?e2; (case hP => intro i9 v9 h9; simpa using h9); (case e1 => simp); (case e2 => rfl); intro v' I' oI' C' oC' D' ys' m2' h' tk' E' hv' hC' hx' F' N' off' ne'; (obtain ⟨T', t', u', r', e', hT', hr'⟩ := TRows.mem hTg hv'); subst e'; (have hI' : IsTup h' T' #[.str r'.1 t', .str r'.2 u'] := ⟨_, F'.keep _ _ hT', rfl, _, rfl⟩); have hl' := hrl r' hr'; (try simp only [LCg.Off3, and_true] at off')))
        | ((with_reducible refine goK "eval ListComp" ?_); k_dflt (refine LCt.ListComp_T (F₀ := by k_asm) (by with_unfolding_all rfl) (by decide) (by rfl) (by decide) (by rfl) ?_))
        | ((with_reducible refine goK "call ref" ?_); k_dflt (first | refine' Spec.use0 (conv_name _ _ _ ?mX) ?mB ?mF ?mK ?mN ?mT ?mk ?md ?mu ?_ | refine' Spec.use0 (conv_value _ _ _ ?mX) ?mB ?mF ?mK ?mN ?mT ?mk ?md ?mu ?_); (case mX => exact hx); walk_at "m use"; intro v' new' h' tk' n' l1 hp' F' N' ne'; (obtain ⟨hv', hn'⟩ := hp'); subst hv'; subst hn'; walk_at "m after")
        | ((with_reducible refine goK _ ?_); have noK9 := True.intro; walk_at "m step"; all_goals (try clear noK9)))
    | walk_at "m step")
  · rw [delG_at hT', if_pos (by assumption)]
  · rw [delG_at hT', if_neg (by simp [*])]
  exact hret _ _ _ _ ⟨rfl, _, _, rfl, filterMap_len _ _, fun h T => TRows.del2 hTg T⟩ (by assumption) (by walk_at "m news") (by assumption) (by walk_at "m fresh")
end
section
open PySem.Calls
theorem del_item {M : Model} {A : Around} {E : Value → Shared → Prop} {s : Shared} {K : Frag} {x C L f : Addr} {h₀ : Heap} {m : Str → Option Value} {ox : Obj} {od : Option Obj} {i : Value} {Q : Unit → Shared → Prop} (F : Fr h₀ L s.heap m) (X₀ : K.In h₀) (I : InstAt s.heap x ox C od) (hq : noSeq K C = true) (hs : findIn K (.ref C) "__delitem__" = some (some (.ref f))) (hf : isFn K (.ref f) = true)
    (h : wpAny M A (call (.ref f) [.ref x, i]) (fun _ s' => Q () s') E s) : wpAny M A (delItem (.ref x) i) Q E s := by
  have X := X₀.keeps F.keep
  unfold delItem sequenceKey
  refine wpAny_holding (wpAny_bind (wpAny_bind (I.type.here ?_)))
  refine wpAny_bind ((anyM_none X hq).here ?_)
  rw [if_pos (show (!false) = true from rfl)]
  exact wpAny_pure (wpAny_bind (special_fn X I hs (beq_iff_eq.mp hf) (wpAny_mono h (fun _ _ z => wpAny_pure z) fun _ _ z => z)))
set_option maxHeartbeats 4000000 in
theorem set_spec {w : World} (a d l n nd : Nat) (tk t t2 : Tok) (vs : List Value) (rows : List (Str × Str)) (x y : Str) (hx : failsOn codeN (low x) = true) (hx1 : failsOn codeN x = true) (hy : failsOn codeV y = true) (hl : x.length ≤ 64) (hrl : ∀ r ∈ rows, r.1.length ≤ 64) (hn : vs.length ≤ 64) : SpecP 4 w 211 [.ref a, .str x t, .str y t2]
    [(a, instObj 298 d), (d, dictOf [⟨PyData.keyHash w.params (Str.ofString "_headers"), .str (Str.ofString "_headers") tk, .ref l⟩] nd), (l, listOf vs.toArray n)] (fun h => TRows h vs rows)
    (fun _ v new => v = .none ∧ ∃ T u1 u2 n' vs', new = [(a, instObj 298 d), (d, dictOf [⟨PyData.keyHash w.params (Str.ofString "_headers"), .str (Str.ofString "_headers") tk, .ref l⟩] nd), (l, listOf (vs'.toArray.push (.ref T)) n'), (T, tup2 x y u1 u2)] ∧ vs'.length ≤ vs.length ∧ ∀ h, TRows h vs rows → TRows h vs' (delF rows (low x))) := by
  walk_at "m begin"
  have hTg := TRows.keep (by assumption) (by assumption) (tab_cls (by decide) (by decide)) (by assumption)
  have hne9 := tab_ne (by assumption)
  have «stop delItem ref» := True.intro
  have «stop call ref» := True.intro
  repeat' (first
    | ((with_reducible show StopK _ _); first
        | ((with_reducible refine goK "call ref" ?_); (rename Fr _ _ _ _ => lF9); k_dflt (first | (refine' SpecP.to (rest := []) (del_spec _ _ _ _ _ _ _ _ rows _ hx hl hrl hn) ?mp ?mB ?mF ?mK ?mN ?mT ?mk ?md ?mu ne_nil ?_; walk_at "m use"; (case mp => exact TRows.keepF lF9 hTg)) | (refine' Spec.use0 (conv_name _ _ _ ?mX) ?mB ?mF ?mK ?mN ?mT ?mk ?md ?mu ?_; (case mX => assumption); walk_at "m use") | (refine' Spec.use0 (conv_value _ _ _ ?mX) ?mB ?mF ?mK ?mN ?mT ?mk ?md ?mu ?_; (case mX => assumption); walk_at "m use")); intro v' new' h' tk' n' l1 hp' F' N' ne'; first | ((obtain ⟨hv', hn'⟩ := hp'); subst hv'; subst hn'; walk_at "m after") | (intro kk'; (obtain ⟨hv', n9, vs9, hn', hle9, hT9⟩ := hp'); subst hv'; subst hn'; walk_at "m after"))
        | ((with_reducible refine goK "delItem ref" ?_); k_dflt (refine' del_item ?F ?X ?I ?hQ ?hS ?hF ?_; (case F => k_asm); (case X => k_asm); (case I => k_inst); (case hS => k_is); (case hF => k_is); (case hQ => k_is)); (try dsimp only))
        | ((with_reducible refine goK _ ?_); have noK9 := True.intro; walk_at "m step"; all_goals (try clear noK9)))
    | walk_at "m step")
  exact hret _ _ _ _ ⟨rfl, _, _, _, _, _, rfl, hle9, hT9⟩ (by assumption) (by walk_at "m news") (by assumption) (by walk_at "m fresh")
end
section
open PySem.Calls
theorem kind_next : builtinKind "next" = none := by decide +kernel
theorem plain_next : plainId "next" = true := by decide +kernel
theorem entry_nextB : entryFor table "next" = some Builtin.«next» := entryFor_of_tree (by kernel_rfl)
theorem args_nextB (a : Value) : argsOk "next" ⟨[a], []⟩ := by unfold argsOk; kernel_rfl
noncomputable def iterO (l : Addr) (i : Nat) : Obj := { cls := .type "list_iterator", data := .fields #[.ref l, .int i 0] }
section
variable {prog : Program} {w : World} {A : Around} {E : Value → Shared → Prop} {s : Shared}
theorem call_next {it : Addr} {Q : Value → Shared → Prop} (hit : s.TypeIs (.ref it) "list_iterator")
    (h : wpAny (model prog w) A.in1 (callSpecial? (.ref it) "__next__") (fun r s' => ∃ x, r = some x ∧ Q x s') E s) :
    wpAny (model prog w) A (call (.builtin "next") [.ref it]) Q E s := by
  refine call_function_tree kind_next plain_next entry_nextB (args_nextB _) ?_
  show wpAny _ A.in1 (PySem.someArgs "next" 1 2 ⟨[.ref it], []⟩ >>= _) _ _ s
  refine wpAny_bind (wpAny_of_eq (a := [.ref it]) rfl ?_)
  show wpAny _ A.in1 (specialOf (.ref it) "__next__" >>= _) _ _ s
  refine wpAny_bind (wpAny_specialOf hit slot_listiter_next.lookup ?_)
  show wpAny _ A.in1 (callSpecial? (.ref it) "__next__" >>= _) _ _ s
  refine wpAny_bind (wpAny_mono h (fun r s' hr => ?_) fun _ _ e => e)
  obtain ⟨x, rfl, q⟩ := hr
  exact wpAny_pure q
theorem next_item {it l : Addr} {i : Nat} {vs : List Value} {x : Value} {h₀ : Heap} {L : Addr} {m : Str → Option Value} {Q : Value → Shared → Prop}
    (F : Fr h₀ L s.heap m) (N : News h₀ L s.heap [(it, iterO l i)]) (hb : h₀.IsList l vs.toArray) (hx : vs[i]? = some x)
    (hQ : ∀ h', Fr h₀ L h' m → News h₀ L h' [(it, iterO l (i + 1))] → Q x { s with heap := h' }) :
    wpAny (model prog w) A (call (.builtin "next") [.ref it]) Q E s := by
  have ho := (N _ (.head _)).1
  obtain ⟨ol, hol0, hcl, nl, hdl⟩ := id hb
  have hol := F.keep _ _ hol0
  have hit : s.heap.IsListIter it l i := ⟨_, ho, rfl, rfl⟩
  refine call_next hit.typeIs ?_
  refine wpAny_callSpecial?_slot (name := Str.ofString "__next__") hit.typeIs slot_listiter_next
    (wpAny_call_entry slot_listiter_next hit.typeIs entry_listiter_next ?_ (args_listiter_next _))
  show wpAny _ _ (field (.ref it) 0 >>= _) _ _ s
  refine wpAny_bind (wpAny_field ho rfl (x := .ref l) rfl ?_)
  show wpAny _ _ (if (Value.ref l == Value.none) = true then _ else _) _ _ s
  rw [if_neg (show ¬ ((Value.ref l == Value.none) = true) from Bool.false_ne_true)]
  show wpAny _ _ (field (.ref it) 1 >>= _) _ _ s
  refine wpAny_bind (wpAny_field ho rfl (x := .int i 0) rfl ?_)
  show wpAny _ _ (seqItems? (.ref l) >>= _) _ _ s
  refine wpAny_bind (wpAny_seqItems hol hdl ?_)
  have hx' : vs.toArray[i]? = some x := by simpa using hx
  simp only [Int.toNat_natCast, hx']
  refine wpAny_bind (wpAny_setField ho rfl (by simp) (wpAny_pure ⟨x, rfl, _, rfl, hQ _ ?_ ?_⟩))
  · exact ⟨F.ns.sameBut (Heap.SameBut.update ..) (Ne.symm (N _ (.head _)).2.1), fun b o e => ((Heap.SameBut.update ..).2 b (fun q => by have := (N _ (.head _)).2.2; rw [q] at e; rw [e] at this; cases this)).trans (F.keep b o e), F.above⟩
  · intro p hp
    rw [List.mem_singleton.mp hp]
    exact ⟨Heap.get?_update_self _ ho rfl, (N _ (.head _)).2⟩
theorem ints_get {vs : List Value} {os : List Int} (h : IntsAre vs os) {i : Nat} {k : Int} (e : os[i]? = some k) : ∃ t, vs[i]? = some (.int k t) := by
  have hl : os.length = vs.length := h.length.symm
  have hi : i < os.length := (List.getElem?_eq_some_iff.mp e).1
  have hv : vs[i]? = some (vs[i]'(hl ▸ hi)) := List.getElem?_eq_getElem (hl ▸ hi)
  obtain ⟨k', t, e1, e2⟩ := IntsAre.at h i _ hv
  rw [e] at e2
  cases e2
  exact ⟨t, hv.trans (congrArg some e1)⟩
theorem next_int {it l : Addr} {i : Nat} {vs : List Value} {os r : List Int} {k : Int} {h₀ : Heap} {L : Addr} {m : Str → Option Value} {Q : Value → Shared → Prop}
    (F : Fr h₀ L s.heap m) (N : News h₀ L s.heap [(it, iterO l i)]) (hb : h₀.IsList l vs.toArray) (hi : IntsAre vs os) (hd : os.drop i = k :: r)
    (hQ : ∀ h' t, Fr h₀ L h' m → News h₀ L h' [(it, iterO l (i + 1))] → Q (.int k t) { s with heap := h' }) :
    wpAny (model prog w) A (call (.builtin "next") [.ref it]) Q E s := by
  have e : os[i]? = some k := by
    have : (os.drop i)[0]? = some k := by rw [hd]; rfl
    simpa using this
  obtain ⟨t, ht⟩ := ints_get hi e
  exact next_item F N hb ht fun h' F' N' => hQ h' t F' N'
end
noncomputable def decT (val b : Int) (i : Nat) : List Int → Option (Int × Nat)
  | [] => if Builtin.bitAnd b 64 != 0 then none else some (val, i)
  | k :: r => if Builtin.bitAnd b 64 != 0 then (if 0 ≤ val ∧ val < 1073741824 then decT (Builtin.bitOr (val * 64) (Builtin.bitAnd k 63)) k (i + 1) r else none) else some (val, i)
theorem decT_on {val b : Int} {i : Nat} {r : List Int} {x : Int × Nat} (h : decT val b i r = some x) (hb : (Builtin.bitAnd b 64 != 0) = true) :
    ∃ k r', r = k :: r' ∧ 0 ≤ val ∧ val < 1073741824 ∧ decT (Builtin.bitOr (val * 64) (Builtin.bitAnd k 63)) k (i + 1) r' = some x := by
  cases r with
  | nil => rw [decT, if_pos hb] at h; cases h
  | cons k r' =>
    rw [decT, if_pos hb] at h
    split at h
    · rename_i q; exact ⟨k, r', rfl, q.1, q.2, h⟩
    · cases h
theorem decT_off {val b : Int} {i : Nat} {r : List Int} {x : Int × Nat} (h : decT val b i r = some x) (hb : (Builtin.bitAnd b 64 != 0) = false) : x = (val, i) := by
  have hb' : ¬ (Builtin.bitAnd b 64 != 0) = true := fun q => by rw [hb] at q; cases q
  cases r <;> rw [decT, if_neg hb'] at h <;> exact (Option.some.inj h).symm
theorem drop_next {os : List Int} {i : Nat} {k : Int} {r : List Int} (h : os.drop i = k :: r) : os.drop (i + 1) = r := by
  rw [← List.drop_drop, h]; rfl
noncomputable abbrev VS := Int × Tok × Int × Tok × Nat × List Int
theorem isList_keep {s g : Heap} {it l : Addr} {i : Nat} {vs : List Value} {h₀ : Heap} {L : Addr} (hk : ∀ b o, s.get? b = some o → (∀ p ∈ [(it, iterO l i)], p.1 ≠ b) → g.get? b = some o) (N : News h₀ L s [(it, iterO l i)]) (hl : s.IsList l vs.toArray) : g.IsList l vs.toArray := by
  obtain ⟨o, ho, hc, n, hd⟩ := hl
  refine ⟨o, hk _ _ ho fun p hp e => ?_, hc, n, hd⟩
  rw [List.mem_singleton.mp hp] at e
  have := (N _ (.head _)).1
  dsimp only at e
  rw [e, ho] at this
  have := congrArg Obj.cls (Option.some.inj this)
  rw [hc] at this
  injection this with e
  exact absurd e (by decide)
set_option maxHeartbeats 4000000 in
theorem varint_spec {w : World} (it l : Addr) (i j : Nat) (vs : List Value) (os r : List Int) (b v : Int) (hi : IntsAre vs os) (hd : os.drop i = b :: r) (hdec : decT (Builtin.bitAnd b 63) b (i + 1) r = some (v, j)) : SpecP 1 w 165 [.ref it] [(it, iterO l i)] (fun h => h.IsList l vs.toArray) (fun _ x new => ∃ t, x = .int v t ∧ new = [(it, iterO l j)]) := by
  walk_at "m begin"
  have hbl := isList_keep (by assumption) (by assumption) (by assumption)
  have «stop inplaceOp LShift int int» := True.intro
  have «stop call builtin:next» := True.intro
  have «stop exec While» := True.intro
  have «stop KswEnd» := True.intro
  repeat' (first
    | ((with_reducible show StopK _ _); first
        | ((with_reducible refine goK "KswEnd" ?_); (k_dflt (refine' ksw_end (_, _, k9, _, i' + 1, r9) ?k1 ?k2 ?k3 trivial ?k4 ?k5 ?k6 ?k7; (case k1 => k_asm); (case k2 => k_asm); (case k3 => exact fun _ hp => hp); (case k4 => kst_all); (case k5 => ksw_same); (case k6 => exact ⟨drop_next hd', hdec9⟩); (case k7 => exact Nat.lt_succ_self _))))
        | ((with_reducible refine goK "exec While" ?_); (rename Fr _ _ _ _ => lF'); (rename News _ _ _ _ => lN'); k_dflt (refine' ksw_while (σ := VS) (fun c => [(it, iterO l c.2.2.2.2.1)]) (fun c => [(Str.ofString "val", .int c.1 c.2.1), (Str.ofString "b", .int c.2.2.1 c.2.2.2.1)]) (fun _ => True) [] (fun c => os.drop c.2.2.2.2.1 = c.2.2.2.2.2 ∧ decT c.1 c.2.2.1 c.2.2.2.2.1 c.2.2.2.2.2 = some (v, j)) (fun c => c.2.2.2.2.2.length) (Builtin.bitAnd b 63, _, b, _, i + 1, r) lF' lN' trivial ?hk ?hp ?turn ?hE; (case hk => kst_all); (case hp => exact ⟨drop_next hd, hdec⟩); (case hE => first | passes_own | with_unfolding_all passes_own)); clear lF' lN'; rintro ⟨val', tv', b', tb', i', r'⟩ u' h' tk' _ ⟨hd', hdec'⟩ F' N'; (try dsimp only [kstB] at hd' hdec' F' N'))
        | ((with_reducible refine goK "call builtin:next" ?_); k_dflt (refine' next_int ?k1 ?k2 ?k5 ?k3 ?k4 ?_; (case k1 => k_asm); (case k2 => k_asm); (case k5 => assumption); (case k3 => assumption); (case k4 => assumption)); intro h' t' F' N'; (try k_sweep))
        | ((with_reducible refine goK "inplaceOp LShift int int" ?_); (obtain ⟨k9, r9, hr9, hb9, hc9, hdec9⟩ := decT_on hdec' (bne_iff_ne.mpr (by assumption))); subst hr9; k_dflt (refine' ilshift_int_small ?k1 ?k2 ?k3 ?_; (case k1 => decide); (case k2 => decide); (case k3 => omega)))
        | ((with_reducible refine goK _ ?_); have noK9 := True.intro; walk_at "m step"; all_goals (try clear noK9)))
    | walk_at "m step")
  have q := decT_off hdec' (bne_eq_false_iff_eq.mpr (by assumption))
  injection q with q1 q2
  subst q1 q2
  exact hret _ _ _ _ ⟨_, rfl, rfl⟩ (by assumption) (by walk_at "m news") (by assumption) (by walk_at "m fresh")
end
section
open PySem.Calls
noncomputable def doneO : Obj := { cls := .type "list_iterator", data := .fields #[.none, .int 0 0] }
section
variable {prog : Program} {w : World} {A : Around} {E : Value → Shared → Prop} {s : Shared}
theorem next_stop {it l : Addr} {i : Nat} {vs : List Value} {h₀ : Heap} {L : Addr} {m : Str → Option Value} {Q : Value → Shared → Prop} (hh : A.handled = none)
    (F : Fr h₀ L s.heap m) {rest : List (Addr × Obj)} (N : News h₀ L s.heap ((it, iterO l i) :: rest)) (off : ∀ p ∈ rest, p.1 ≠ it) (hb : h₀.IsList l vs.toArray) (hx : vs[i]? = none)
    (hE : ∀ h1 h' e, Fr h₀ L h1 m → News h₀ L h1 rest → Heap.MadeExc h1 h' e "StopIteration" [] → E (.ref e) { s with heap := h' }) :
    wpAny (model prog w) A (call (.builtin "next") [.ref it]) Q E s := by
  have ho := (N _ (.head _)).1
  obtain ⟨ol, hol0, hcl, nl, hdl⟩ := id hb
  have hol := F.keep _ _ hol0
  have hit : s.heap.IsListIter it l i := ⟨_, ho, rfl, rfl⟩
  refine call_next hit.typeIs ?_
  refine wpAny_callSpecial?_slot (name := Str.ofString "__next__") hit.typeIs slot_listiter_next
    (wpAny_call_entry slot_listiter_next hit.typeIs entry_listiter_next ?_ (args_listiter_next _))
  show wpAny _ _ (field (.ref it) 0 >>= _) _ _ s
  refine wpAny_bind (wpAny_field ho rfl (x := .ref l) rfl ?_)
  show wpAny _ _ (if (Value.ref l == Value.none) = true then _ else _) _ _ s
  rw [if_neg (show ¬ ((Value.ref l == Value.none) = true) from Bool.false_ne_true)]
  show wpAny _ _ (field (.ref it) 1 >>= _) _ _ s
  refine wpAny_bind (wpAny_field ho rfl (x := .int i 0) rfl ?_)
  show wpAny _ _ (seqItems? (.ref l) >>= _) _ _ s
  refine wpAny_bind (wpAny_seqItems hol hdl ?_)
  have hx' : vs.toArray[i]? = none := by simpa using hx
  simp only [Int.toNat_natCast, hx']
  refine wpAny_bind (wpAny_rule (wpAny_bind (wpAny_setField ho rfl (by simp) ?_)))
  show wpAny _ _ (newExc (.type "StopIteration") [] >>= _) _ _ _
  refine wpAny_bind ?_
  simp only [newExc, newTuple]
  refine wpAny_bind (wpAny_newObj_type ?_ (by size_fits))
  refine wpAny_bind (m := firstArgMember _ _) (wpAny_of_eq (a := Value.none) (by first | rfl | (simp only [firstArgMember]; rfl)) ?_)
  refine wpAny_newObj_type ?_ (by size_fits)
  refine wpAny_raiseNew_none hh ?_
  refine hE (s.heap.update it _) _ _ ?_ (fun p hp => ⟨((Heap.SameBut.update ..).2 p.1 (off p hp)).trans (N p (.tail _ hp)).1, (N p (.tail _ hp)).2⟩) ⟨fun b o e => Heap.get?_push_of_some _ (Heap.get?_push_of_some _ e), ?_, _, Heap.get?_push_size _ rfl, ?_, ?_⟩
  · exact ⟨F.ns.sameBut (Heap.SameBut.update ..) (Ne.symm (N _ (.head _)).2.1), fun b o e => ((Heap.SameBut.update ..).2 b (fun q => by have := (N _ (.head _)).2.2; rw [q] at e; rw [e] at this; cases this)).trans (F.keep b o e), F.above⟩
  · cases e : (s.heap.update it _).get? _ with
    | none => rfl
    | some o => exact absurd (Heap.lt_size e) (by rw [Heap.size_push]; exact Nat.not_lt.mpr (Nat.le_succ _))
  · cases e : (s.heap.update it _).get? _ with
    | none => rfl
    | some o => exact absurd (Heap.lt_size e) (Nat.lt_irrefl _)
  · exact Heap.get?_push_of_some _ (Heap.get?_push_size _ rfl)
theorem iter_base {l : Addr} {vs : List Value} {h₀ : Heap} {L : Addr} {m : Str → Option Value} {news : List (Addr × Obj)} {Q : Value → Shared → Prop}
    (F : Fr h₀ L s.heap m) (N : News h₀ L s.heap news) (hb : h₀.IsList l vs.toArray)
    (hQ : ∀ it h', Fr h₀ L h' m → News h₀ L h' ((it, iterO l 0) :: news) → (∀ p ∈ news, p.1 < it) → Q (.ref it) { s with heap := h' }) :
    wpAny (model prog w) A (call (.builtin "iter") [.ref l]) Q E s := by
  refine call_function_tree (by decide +kernel) (by decide +kernel) kdk_entry_iter (kdk_args_iter _) ?_
  show wpAny _ A.in1 (PySem.someArgs "iter" 1 2 ⟨[.ref l], []⟩ >>= _) _ _ s
  refine wpAny_bind (wpAny_of_eq (a := [.ref l]) rfl ?_)
  show wpAny _ A.in1 (pyIter (.ref l) >>= _) _ _ s
  refine wpAny_bind (wpAny_pyIter_list (hb.at fun o e => F.keep _ _ e) (wpAny_pure ?_))
  exact hQ _ _ (F.push _) (N.push F _) fun p hp => Heap.lt_size (N p hp).1
end
end
section
open PySem.Calls
/-- the tape read on -/
inductive Dec (os : List Int) : Nat → List Int → Prop
  | stop {i : Nat} : os.drop i = [] → Dec os i []
  | go {i j : Nat} {b p : Int} {r ps : List Int} : os.drop i = b :: r → decT (Builtin.bitAnd b 63) b (i + 1) r = some (p, j) → Dec os j ps → Dec os i (p :: ps)
noncomputable def wordS (c : Int) : Str := Str.ofString (flagNs.getD c.toNat "")
noncomputable def digS (c : Int) : Str := Str.ofString (toString c)
noncomputable def rowOf (c : Int) : Str × Str := (low (wordS c), digS c)
noncomputable def togW (ws : List Int) (c : Int) : List Int := if ws.contains c then ws.filter (fun k => k != c) else ws ++ [c]
noncomputable def okP (p : Int) : Prop := 0 ≤ p ∧ p < 1114112 ∧ (seatsL p.toNat = [] ∨ ∃ c, 0 ≤ c ∧ c < 7 ∧ seatsL p.toNat = [c])
noncomputable def stepW (ws : List Int) (p : Int) : List Int := (seatsL p.toNat).foldl togW ws
noncomputable def WOk (ws : List Int) : Prop := ws.Nodup ∧ ∀ c ∈ ws, 0 ≤ c ∧ c < 7
theorem seven_cases {P : Int → Prop} (h : P 0 ∧ P 1 ∧ P 2 ∧ P 3 ∧ P 4 ∧ P 5 ∧ P 6) {c : Int} (h0 : 0 ≤ c) (h1 : c < 7) : P c := by
  obtain ⟨a, b, d, e, f, g, i⟩ := h
  rcases seven h0 h1 with rfl | rfl | rfl | rfl | rfl | rfl | rfl <;> assumption
theorem WOk.len {ws : List Int} (h : WOk ws) : ws.length ≤ 7 := by
  have h1 : ws ⊆ [0, 1, 2, 3, 4, 5, 6] := fun c hc => by
    obtain ⟨a, b⟩ := h.2 c hc
    rcases seven a b with rfl | rfl | rfl | rfl | rfl | rfl | rfl <;> simp
  exact h.1.length_le_of_subset h1
theorem WOk.tog {ws : List Int} (h : WOk ws) {c : Int} (h0 : 0 ≤ c) (h1 : c < 7) : WOk (togW ws c) := by
  unfold togW
  by_cases q : ws.contains c = true
  · rw [if_pos q]
    exact ⟨h.1.filter _, fun k hk => h.2 k (List.mem_filter.mp hk).1⟩
  · rw [if_neg q]
    refine ⟨List.nodup_append.mpr ⟨h.1, by simp, fun a ha b hb => ?_⟩, fun k hk => ?_⟩
    · rw [List.mem_singleton.mp hb]
      rintro rfl
      exact q (by simpa using ha)
    · rcases List.mem_append.mp hk with hk | hk
      · exact h.2 k hk
      · rw [List.mem_singleton.mp hk]; exact ⟨h0, h1⟩
theorem low_inj : ([0, 1, 2, 3, 4, 5, 6] : List Int).all (fun a => ([0, 1, 2, 3, 4, 5, 6] : List Int).all fun b => (low (low (wordS a)) == low (wordS b)) == (a == b)) = true := by decide +kernel
theorem low_eq {a b : Int} (a0 : 0 ≤ a) (a1 : a < 7) (b0 : 0 ≤ b) (b1 : b < 7) : (low (low (wordS a)) == low (wordS b)) = (a == b) := by
  have m : ∀ {c : Int}, 0 ≤ c → c < 7 → c ∈ ([0, 1, 2, 3, 4, 5, 6] : List Int) := fun h0 h1 => by
    rcases seven h0 h1 with rfl | rfl | rfl | rfl | rfl | rfl | rfl <;> simp
  exact eq_of_beq (List.all_eq_true.mp (List.all_eq_true.mp low_inj a (m a0 a1)) b (m b0 b1))
theorem low_low {a : Int} (a0 : 0 ≤ a) (a1 : a < 7) : low (low (wordS a)) = low (wordS a) := eq_of_beq (by rw [low_eq a0 a1 a0 a1]; simp)
noncomputable def rowsOf (ws : List Int) : List (Str × Str) := ws.map rowOf
theorem getF_rows {ws : List Int} (h : WOk ws) {c : Int} (c0 : 0 ≤ c) (c1 : c < 7) : getF (rowsOf ws) (low (wordS c)) = if ws.contains c then some (digS c) else none := by
  unfold getF rowsOf
  rw [List.find?_map]
  have e : ∀ k ∈ ws, ((fun r : Str × Str => low r.1 == low (wordS c)) ∘ rowOf) k = (k == c) := fun k hk => low_eq (h.2 k hk).1 (h.2 k hk).2 c0 c1
  have e2 : ws.find? ((fun r : Str × Str => low r.1 == low (wordS c)) ∘ rowOf) = ws.find? (fun k => k == c) := by
    clear h
    induction ws with
    | nil => rfl
    | cons k r ih => rw [List.find?_cons, List.find?_cons, e k (.head _), ih fun a ha => e a (.tail _ ha)]
  rw [e2]
  cases q : ws.contains c with
  | true =>
    have : c ∈ ws := by simpa using q
    cases f : ws.find? (fun k => k == c) with
    | none => exact absurd (List.find?_eq_none.mp f c this) (by simp)
    | some k =>
      have := List.find?_some f
      have : k = c := by simpa using this
      subst this
      rfl
  | false =>
    have : c ∉ ws := by simpa using q
    rw [List.find?_eq_none.mpr (fun k hk => by simp; rintro rfl; exact this hk)]
    rfl
theorem delF_rows {ws : List Int} (h : WOk ws) {c : Int} (c0 : 0 ≤ c) (c1 : c < 7) : delF (rowsOf ws) (low (wordS c)) = rowsOf (ws.filter fun k => k != c) := by
  unfold delF rowsOf
  rw [List.filter_map]
  congr 1
  refine List.filter_congr fun k hk => ?_
  have e := low_eq (h.2 k hk).1 (h.2 k hk).2 c0 c1
  simp only [Function.comp, rowOf, bne]
  exact congrArg (fun b => !b) e
theorem filter_ne {ws : List Int} {c : Int} (h : ws.contains c = false) : (ws.filter fun k => k != c) = ws := by
  rw [List.filter_eq_self]
  intro k hk
  have : c ∉ ws := by simpa using h
  simp
  rintro rfl
  exact this hk
theorem set_rows {ws : List Int} (h : WOk ws) {c : Int} (c0 : 0 ≤ c) (c1 : c < 7) (q : ws.contains c = false) : delF (rowsOf ws) (low (low (wordS c))) ++ [rowOf c] = rowsOf (togW ws c) := by
  rw [low_low c0 c1, delF_rows h c0 c1, filter_ne q]
  unfold togW
  rw [if_neg (by rw [q]; exact Bool.false_ne_true)]
  simp [rowsOf]
/-- the rows in the ledger's tail -/
noncomputable def TLed (tl : List (Addr × Obj)) (vs : List Value) (rows : List (Str × Str)) : Prop := (∀ h : Heap, (∀ q ∈ tl, h.get? q.1 = some q.2) → TRows h vs rows) ∧ ∀ q ∈ tl, q.2.cls = .type "tuple"
theorem word_facts : ([0, 1, 2, 3, 4, 5, 6] : List Int).all (fun c => failsOn codeN (low (wordS c)) && failsOn codeN (low (low (wordS c))) && failsOn codeV (digS c) && decide ((wordS c).length ≤ 20) && decide ((low (wordS c)).length ≤ 20)) = true := by decide +kernel
theorem word_ok {c : Int} (h0 : 0 ≤ c) (h1 : c < 7) : failsOn codeN (low (wordS c)) = true ∧ failsOn codeN (low (low (wordS c))) = true ∧ failsOn codeV (digS c) = true ∧ (wordS c).length ≤ 20 ∧ (low (wordS c)).length ≤ 20 := by
  have m : c ∈ ([0, 1, 2, 3, 4, 5, 6] : List Int) := by
    rcases seven h0 h1 with rfl | rfl | rfl | rfl | rfl | rfl | rfl <;> simp
  have := List.all_eq_true.mp word_facts c m
  simp only [Bool.and_eq_true, decide_eq_true_eq] at this
  obtain ⟨⟨⟨⟨a, b⟩, c⟩, d⟩, e⟩ := this
  exact ⟨a, b, c, d, e⟩
theorem flags_word : ([0, 1, 2, 3, 4, 5, 6] : List Int).all (fun c => PySem.Txt.join (Str.ofString ", ") (bitNs (1 * 2 ^ c.toNat) 7) == wordS c && decide (0 < (1 * 2 ^ c.toNat : Int)) && decide ((1 * 2 ^ c.toNat : Int) < 128)) = true := by decide +kernel
theorem word_spec {w : World} (c : Int) (t : Tok) (h0 : 0 ≤ c) (h1 : c < 7) : Spec 1 w 158 [.int (1 * 2 ^ c.toNat) t] [] (fun _ v new => ∃ t', v = .str (wordS c) t' ∧ new = []) := by
  have m : c ∈ ([0, 1, 2, 3, 4, 5, 6] : List Int) := by
    rcases seven h0 h1 with rfl | rfl | rfl | rfl | rfl | rfl | rfl <;> simp
  have := List.all_eq_true.mp flags_word c m
  simp only [Bool.and_eq_true, decide_eq_true_eq, beq_iff_eq] at this
  have S := flags_spec (w := w) (1 * 2 ^ c.toNat) t this.1.2 this.2
  rw [this.1.1] at S
  exact S
theorem rows_len {ws : List Int} (h : WOk ws) : ∀ r ∈ rowsOf ws, r.1.length ≤ 64 := by
  intro r hr
  obtain ⟨c, hc, rfl⟩ := List.mem_map.mp hr
  have := (word_ok (h.2 c hc).1 (h.2 c hc).2).2.2.2.2
  exact Nat.le_trans this (by decide)
end
section
open PySem.Calls
noncomputable def swS : List Str := [Str.ofString "seat", Str.ofString "word"]
section
variable {prog : Program} {w : World} {A : Around} {E : Value → Shared → Prop} {s : Shared} {env : Env} {h₀ : Heap} {target test : Expr} {body : List Stmt} {Q : Flow → Shared → Prop}
theorem frS {S : List Str} {L : Addr} {h : Heap} {m₁ m₀ : Str → Option Value} (h1 : ∀ z, S.contains z = false → m₁ z = m₀ z) (F : Fr h₀ L h m₁) : Fr h₀ L h (fun z => if S.contains z = true then m₁ z else m₀ z) := by
  have e : (fun z => if S.contains z = true then m₁ z else m₀ z) = m₁ := by
    funext z
    cases q : S.contains z with
    | true => simp
    | false => simp [h1 z q]
  rw [e]; exact F
/-- the ledger's fixed part, with the table's list at vs -/
noncomputable def SeatJ (fr bk : List (Addr × Obj)) (l : Addr) (m₀ : Str → Option Value) (ws : List Int) (m : Str → Option Value) (nx : List (Addr × Obj)) : Prop :=
  ∃ vs n tl, nx = fr ++ (l, listOf vs.toArray n) :: (bk ++ tl) ∧ (∀ z, swS.contains z = false → m z = m₀ z) ∧ TLed tl vs (rowsOf ws) ∧ WOk ws
theorem seat_loop {sa l k : Addr} {it a d : Addr} {oi oa od : Obj} {n : Nat} {vs svs : List Value} {cs ws : List Int} {tl : List (Addr × Obj)} {m₀ : Str → Option Value}
    (hs : IntsAre svs cs) (hcs : cs = [] ∨ ∃ c, 0 ≤ c ∧ c < 7 ∧ cs = [c]) (hT : TLed tl vs (rowsOf ws)) (hw : WOk ws)
    (hh : A.handled = none) (F : Fr h₀ env.locals s.heap m₀) (N : News h₀ env.locals s.heap ((sa, listOf svs.toArray k) :: (it, oi) :: (l, listOf vs.toArray n) :: (a, oa) :: (d, od) :: tl))
    (turn : ∀ I c tc h tk o, it ≠ I → 0 ≤ c → c < 7 → o.cls = .type "list_iterator" → Fr h₀ env.locals h m₀ → News h₀ env.locals h ((I, o) :: (sa, listOf svs.toArray k) :: (it, oi) :: (l, listOf vs.toArray n) :: (a, oa) :: (d, od) :: tl) →
      wpAny (model prog w) A (assign target env (.int c tc)) (fun _ s₂ => wpAny (model prog w) A (execs body env) (UnrPostW h₀ env.locals { s with heap := h, toks := tk } [(I, o)] (fun m' n' => (sa, listOf svs.toArray k) ∈ n' ∧ SeatJ [(sa, listOf svs.toArray k), (it, oi)] [(a, oa), (d, od)] l m₀ (togW ws c) m' n') Q) E s₂) E { s with heap := h, toks := tk })
    (done : ∀ ws' vs' n' tl' (u : Str → Option Value) h tk, cs.foldl togW ws = ws' → TLed tl' vs' (rowsOf ws') → WOk ws' → Fr h₀ env.locals h (fun z => if swS.contains z = true then u z else m₀ z) → News h₀ env.locals h ((sa, listOf svs.toArray k) :: (it, oi) :: (l, listOf vs'.toArray n') :: (a, oa) :: (d, od) :: tl') → Q .next { s with heap := h, toks := tk }) :
    wpAny (model prog w) A (pyIter (.ref sa)) (fun it s₂ => TurnsAt prog w A h₀ env target body Q E it s₂) E s := by
  refine for_list (fun pre m nx => (pre = [] ∧ nx = (sa, listOf svs.toArray k) :: (it, oi) :: (l, listOf vs.toArray n) :: (a, oa) :: (d, od) :: tl ∧ m = m₀) ∨ (pre.length = cs.length ∧ SeatJ [(sa, listOf svs.toArray k), (it, oi)] [(a, oa), (d, od)] l m₀ (cs.foldl togW ws) m nx)) hh F N (.head _) (.inl ⟨rfl, rfl, rfl⟩) ?_ ?_
  · rintro I pre v post m₁ nx h tk o hI e hJ ho F₁ N₁
    have hlen := hs.length
    rcases hcs with rfl | ⟨c, c0, c1, rfl⟩
    · rw [e] at hlen; simp at hlen
    · rcases hJ with ⟨rfl, rfl, rfl⟩ | ⟨hl, _⟩
      · obtain ⟨rfl, rfl⟩ : post = [] ∧ svs = [v] := by
          rw [e] at hlen
          simp at hlen
          exact ⟨hlen, by rw [e, hlen]; rfl⟩
        obtain ⟨t, ht⟩ := hs.get 0 c rfl
        have hv : v = .int c t := Option.some.inj ht
        subst hv
        refine wpAny_mono (turn I c t h tk o (Nat.ne_of_lt (hI _ (.tail _ (.head _)))) c0 c1 ho F₁ N₁) (fun _ s₂ q => wpAny_mono q (fun f s₃ q => ?_) fun _ _ e => e) fun _ _ e => e
        have up : UnrEndW h₀ env.locals { s with heap := h, toks := tk } [(I, o)] (fun m' n' => (sa, listOf [Value.int c t].toArray k) ∈ n' ∧ SeatJ [(sa, listOf [Value.int c t].toArray k), (it, oi)] [(a, oa), (d, od)] l m₁ (togW ws c) m' n') s₃ → UnrEndW h₀ env.locals { s with heap := h, toks := tk } [(I, o)] (fun m' n' => (sa, listOf [Value.int c t].toArray k) ∈ n' ∧ ((([] : List Value) ++ [Value.int c t] = [] ∧ n' = (sa, listOf [Value.int c t].toArray k) :: (it, oi) :: (l, listOf vs.toArray n) :: (a, oa) :: (d, od) :: tl ∧ m' = m₁) ∨ ((([] : List Value) ++ [Value.int c t]).length = [c].length ∧ SeatJ [(sa, listOf [Value.int c t].toArray k), (it, oi)] [(a, oa), (d, od)] l m₁ ([c].foldl togW ws) m' n'))) s₃ := by
          rintro ⟨h', tk', m', n', rfl, F', N', off, k, j'⟩
          exact ⟨h', tk', m', n', rfl, F', N', off, k, .inr ⟨rfl, j'⟩⟩
        cases f with
        | ret v => exact q
        | brk => exact q
        | next => exact up q
        | cont => exact up q
      · rw [e] at hlen; simp at hlen hl; omega
  · rintro m₁ nx h tk hJ F₁ N₁
    rcases hJ with ⟨hv, rfl, rfl⟩ | ⟨hl, vs', n', tl', rfl, h1, hT', hw'⟩
    · have : cs = [] := by
        have := hs.length
        rw [hv] at this
        exact List.length_eq_zero_iff.mp this.symm
      subst this
      exact done ws vs n tl m₁ h tk rfl hT hw (frS (fun _ _ => rfl) F₁) N₁
    · exact done _ vs' n' tl' m₁ h tk rfl hT' hw' (frS h1 F₁) N₁
noncomputable abbrev HS := Nat × List Int × List Value × Nat × List (Addr × Obj) × List Int
noncomputable def HP (os wsF : List Int) (c : HS) : Prop := Dec os c.1 c.2.1 ∧ (∀ p ∈ c.2.1, okP p) ∧ TLed c.2.2.2.2.1 c.2.2.1 (rowsOf c.2.2.2.2.2) ∧ WOk c.2.2.2.2.2 ∧ c.2.1.foldl stepW c.2.2.2.2.2 = wsF
theorem heard_while {os ps wsF : List Int} {it l a d tape : Addr} {oa od : Obj} {m₀ : Str → Option Value} {pos : Pos} {L : Addr} (hd : Dec os 0 ps) (hok : ∀ p ∈ ps, okP p) (hF : ps.foldl stepW [] = wsF)
    (F : Fr h₀ L s.heap m₀) (N : News h₀ L s.heap [(it, iterO tape 0), (l, listOf #[] 0), (a, oa), (d, od)])
    (turn : ∀ i ps vs n tl ws (u : Str → Option Value) h tk, Dec os i ps → (∀ p ∈ ps, okP p) → TLed tl vs (rowsOf ws) → WOk ws → ps.foldl stepW ws = wsF →
      Fr h₀ L h (fun z => if swS.contains z then u z else m₀ z) → News h₀ L h ((it, iterO tape i) :: (l, listOf vs.toArray n) :: (a, oa) :: (d, od) :: tl) →
      wpAny (model prog w) A (isTrue test env (eval test env)) (fun b s₂ =>
        if b = true then wpAny (model prog w) A (execs body env) (KswPost h₀ L s (fun c : HS => (it, iterO tape c.1) :: (l, listOf c.2.2.1.toArray c.2.2.2.1) :: (a, oa) :: (d, od) :: c.2.2.2.2.1) (fun _ => []) (fun _ => True) swS m₀ (HP os wsF) (fun c => c.2.1.length) Q (i, ps, vs, n, tl, ws)) E s₂ else Q .next s₂) E { s with heap := h, toks := tk })
    (hE : PassesOwn (model prog w) A env E := by passes_own) :
    wpAny (model prog w) A (exec (.While test body [] pos) env) Q E s := by
  refine ksw_while (σ := HS) (fun c => (it, iterO tape c.1) :: (l, listOf c.2.2.1.toArray c.2.2.2.1) :: (a, oa) :: (d, od) :: c.2.2.2.2.1) (fun _ => []) (fun _ => True) swS (HP os wsF) (fun c => c.2.1.length) (0, ps, [], 0, [], []) F N trivial (fun _ h => nomatch h) ⟨hd, hok, ⟨fun _ _ => .nil, fun _ h => nomatch h⟩, ⟨List.nodup_nil, fun _ h => nomatch h⟩, hF⟩ ?_ hE
  rintro ⟨i, ps', vs, n, tl, ws⟩ u h tk _ ⟨h1, h2, h3, h4, h5⟩ F' N'
  exact turn i ps' vs n tl ws u h tk h1 h2 h3 h4 h5 F' N'
end

theorem it_off {h₀ h : Heap} {L it tape : Addr} {i : Nat} {rest : List (Addr × Obj)} (N : News h₀ L h ([(it, iterO tape i)] ++ rest)) (hc : ∀ p ∈ rest, p.2.cls ≠ .type "list_iterator") : ∀ p ∈ rest, ∀ q ∈ [(it, iterO tape i)], q.1 ≠ p.1 := by
  intro p hp q hq e
  rw [List.mem_singleton.mp hq] at e
  have h1 := (N _ (.head _)).1
  have h2 := (N p (List.mem_append_right _ hp)).1
  dsimp only at e
  rw [e, h2] at h1
  exact hc p hp (congrArg Obj.cls (Option.some.inj h1))
theorem hl_cls {l a d n nd C : Nat} {vs : List Value} {e : List DictEntry} {tl : List (Addr × Obj)} (ht : ∀ q ∈ tl, q.2.cls = .type "tuple") : ∀ p ∈ (l, listOf vs.toArray n) :: (a, instObj C d) :: (d, dictOf e nd) :: tl, p.2.cls ≠ .type "list_iterator" := by
  intro p hp
  simp only [List.mem_cons] at hp
  rcases hp with rfl | rfl | rfl | hp
  · exact fun e => by injection e with e; exact absurd e (by decide)
  · exact fun e => by cases e
  · exact fun e => by injection e with e; exact absurd e (by decide)
  · rw [ht p hp]; exact fun e => by injection e with e; exact absurd e (by decide)
section
variable {h₀ h : Heap} {L I sa it l a d tape : Addr} {o : Obj} {n nd C k i : Nat} {vs svs : List Value} {e : List DictEntry} {tl : List (Addr × Obj)}
theorem tab_perm {ls oi ol oa od : Obj} (N : News h₀ L h ((I, o) :: (sa, ls) :: (it, oi) :: (l, ol) :: (a, oa) :: (d, od) :: tl)) : News h₀ L h ([(a, oa), (d, od), (l, ol)] ++ ((I, o) :: (sa, ls) :: (it, oi) :: tl)) := by
  intro p hp
  refine N p ?_
  simp only [List.cons_append, List.nil_append, List.mem_cons] at hp ⊢
  rcases hp with h | h | h | h | h | h | h <;> simp [h]
theorem tab_back {ls oi ol oa od : Obj} (N : News h₀ L h ([(a, oa), (d, od), (l, ol)] ++ ((I, o) :: (sa, ls) :: (it, oi) :: tl))) : News h₀ L h ((I, o) :: (sa, ls) :: (it, oi) :: (l, ol) :: (a, oa) :: (d, od) :: tl) := by
  intro p hp
  refine N p ?_
  simp only [List.cons_append, List.nil_append, List.mem_cons] at hp ⊢
  rcases hp with h | h | h | h | h | h | h <;> simp [h]
theorem tab_backT {ls oi ol oa od ot : Obj} {T : Addr} (N : News h₀ L h ([(a, oa), (d, od), (l, ol), (T, ot)] ++ ((I, o) :: (sa, ls) :: (it, oi) :: tl))) : News h₀ L h ((I, o) :: (sa, ls) :: (it, oi) :: (l, ol) :: (a, oa) :: (d, od) :: (T, ot) :: tl) := by
  intro p hp
  refine N p ?_
  simp only [List.cons_append, List.nil_append, List.mem_cons] at hp ⊢
  rcases hp with h | h | h | h | h | h | h | h <;> simp [h]
theorem tab_hne (N : News h₀ L h ((I, o) :: (sa, listOf svs.toArray k) :: (it, iterO tape i) :: (l, listOf vs.toArray n) :: (a, instObj C d) :: (d, dictOf e nd) :: tl)) (ho : o.cls = .type "list_iterator") (hs : sa ≠ l) (ht : ∀ q ∈ tl, q.2.cls = .type "tuple") :
    ∀ p ∈ (I, o) :: (sa, listOf svs.toArray k) :: (it, iterO tape i) :: tl, ∀ q ∈ [(a, instObj C d), (d, dictOf e nd), (l, listOf vs.toArray n)], q.1 ≠ p.1 := by
  have key : ∀ {p q : Addr × Obj}, p ∈ (I, o) :: (sa, listOf svs.toArray k) :: (it, iterO tape i) :: (l, listOf vs.toArray n) :: (a, instObj C d) :: (d, dictOf e nd) :: tl → q ∈ (I, o) :: (sa, listOf svs.toArray k) :: (it, iterO tape i) :: (l, listOf vs.toArray n) :: (a, instObj C d) :: (d, dictOf e nd) :: tl → q.2.cls ≠ p.2.cls → q.1 ≠ p.1 := fun hp hq hc e => by
    have h1 := (N _ hp).1
    have h2 := (N _ hq).1
    rw [e, h1] at h2
    exact hc (congrArg Obj.cls (Option.some.inj h2)).symm
  have tr : ∀ {x y : String}, x ≠ y → Value.type x ≠ Value.type y := fun h e => h (by injection e)
  have rt : ∀ {x : Addr} {y : String}, Value.ref x ≠ Value.type y := fun e => by cases e
  intro p hp q hq
  have hp' : p ∈ (I, o) :: (sa, listOf svs.toArray k) :: (it, iterO tape i) :: (l, listOf vs.toArray n) :: (a, instObj C d) :: (d, dictOf e nd) :: tl := by
    simp only [List.mem_cons] at hp ⊢
    rcases hp with h | h | h | h <;> simp [h]
  have hq' : q ∈ (I, o) :: (sa, listOf svs.toArray k) :: (it, iterO tape i) :: (l, listOf vs.toArray n) :: (a, instObj C d) :: (d, dictOf e nd) :: tl := by
    simp only [List.mem_cons, List.not_mem_nil, or_false] at hq ⊢
    rcases hq with h | h | h <;> simp [h]
  simp only [List.mem_cons] at hp
  simp only [List.mem_cons, List.not_mem_nil, or_false] at hq
  rcases hp with rfl | rfl | rfl | hp <;> rcases hq with rfl | rfl | rfl
  · exact key hp' hq' (by rw [ho]; exact rt)
  · exact key hp' hq' (by rw [ho]; exact tr (by decide))
  · exact key hp' hq' (by rw [ho]; exact tr (by decide))
  · exact key hp' hq' rt
  · exact key hp' hq' (tr (by decide))
  · exact fun e => hs e.symm
  · exact key hp' hq' rt
  · exact key hp' hq' (tr (by decide))
  · exact key hp' hq' (tr (by decide))
  · exact key hp' hq' (by rw [ht p hp]; exact rt)
  · exact key hp' hq' (by rw [ht p hp]; exact tr (by decide))
  · exact key hp' hq' (by rw [ht p hp]; exact tr (by decide))
theorem off_turn {ls : Obj} {oi : Obj} (hls : ls.cls = .type "list") (hit : it ≠ I) (ht : ∀ q ∈ tl, q.2.cls = .type "tuple") : ∀ p ∈ (sa, ls) :: (it, oi) :: (l, listOf vs.toArray n) :: (a, instObj C d) :: (d, dictOf e nd) :: tl, p.2.cls ≠ .type "list_iterator" ∨ p.1 ≠ I := by
  have tr : ∀ {x y : String}, x ≠ y → Value.type x ≠ Value.type y := fun h e => h (by injection e)
  intro p hp
  simp only [List.mem_cons] at hp
  rcases hp with rfl | rfl | rfl | rfl | rfl | hp
  · exact .inl (by rw [hls]; exact tr (by decide))
  · exact .inr hit
  · exact .inl (tr (by decide))
  · exact .inl (fun e => by cases e)
  · exact .inl (tr (by decide))
  · exact .inl (by rw [ht p hp]; exact tr (by decide))
theorem getF_isSome {ws : List Int} (h : WOk ws) {c : Int} (c0 : 0 ≤ c) (c1 : c < 7) : (getF (rowsOf ws) (low (wordS c))).isSome = ws.contains c := by
  rw [getF_rows h c0 c1]
  cases ws.contains c <;> rfl
theorem seat_del {ws : List Int} {c : Int} {m₀ m' : Str → Option Value} {vs' : List Value} {n' : Nat} {s₁ : Shared} {tk : Nat} (F : Fr h₀ L h m') (N : News h₀ L h ((I, o) :: (sa, listOf svs.toArray k) :: (it, iterO tape i) :: (l, listOf vs'.toArray n') :: (a, instObj C d) :: (d, dictOf e nd) :: tl))
    (ho : o.cls = .type "list_iterator") (hit : it ≠ I) (hT : TLed tl vs (rowsOf ws)) (hw : WOk ws) (c0 : 0 ≤ c) (c1 : c < 7) (hin : (getF (rowsOf ws) (low (wordS c))).isSome = true)
    (hT9 : ∀ h, TRows h vs (rowsOf ws) → TRows h vs' (delF (rowsOf ws) (low (wordS c)))) (hm : ∀ z, swS.contains z = false → m' z = m₀ z) :
    UnrEndW h₀ L s₁ [(I, o)] (fun m' n' => (sa, listOf svs.toArray k) ∈ n' ∧ SeatJ [(sa, listOf svs.toArray k), (it, iterO tape i)] [(a, instObj C d), (d, dictOf e nd)] l m₀ (togW ws c) m' n') { s₁ with heap := h, toks := tk } := by
  refine t_end F N ho ((sa, listOf svs.toArray k) :: (it, iterO tape i) :: (l, listOf vs'.toArray n') :: (a, instObj C d) :: (d, dictOf e nd) :: tl) (.head _) (fun p hp => .tail _ hp) (off_turn rfl hit hT.2) (.head _) ⟨vs', n', tl, rfl, hm, ?_, hw.tog c0 c1⟩
  rw [getF_isSome hw c0 c1] at hin
  unfold togW
  rw [if_pos hin, ← delF_rows hw c0 c1]
  exact ⟨fun g hg => hT9 g (hT.1 g hg), hT.2⟩
theorem seat_set {ws : List Int} {c : Int} {m₀ m' : Str → Option Value} {vs' : List Value} {n' : Nat} {s₁ : Shared} {tk : Nat} {T : Addr} {u1 u2 : Tok} (F : Fr h₀ L h m') (N : News h₀ L h ((I, o) :: (sa, listOf svs.toArray k) :: (it, iterO tape i) :: (l, listOf (vs'.toArray.push (.ref T)) n') :: (a, instObj C d) :: (d, dictOf e nd) :: (T, tup2 (low (wordS c)) (digS c) u1 u2) :: tl))
    (ho : o.cls = .type "list_iterator") (hit : it ≠ I) (hT : TLed tl vs (rowsOf ws)) (hw : WOk ws) (c0 : 0 ≤ c) (c1 : c < 7) (hin : (getF (rowsOf ws) (low (wordS c))).isSome = false)
    (hT9 : ∀ h, TRows h vs (rowsOf ws) → TRows h vs' (delF (rowsOf ws) (low (low (wordS c))))) (hm : ∀ z, swS.contains z = false → m' z = m₀ z) :
    UnrEndW h₀ L s₁ [(I, o)] (fun m' n' => (sa, listOf svs.toArray k) ∈ n' ∧ SeatJ [(sa, listOf svs.toArray k), (it, iterO tape i)] [(a, instObj C d), (d, dictOf e nd)] l m₀ (togW ws c) m' n') { s₁ with heap := h, toks := tk } := by
  have el : listOf (vs'.toArray.push (Value.ref T)) n' = listOf (vs' ++ [Value.ref T]).toArray n' := by simp
  rw [el] at N
  have ht : ∀ q ∈ (T, tup2 (low (wordS c)) (digS c) u1 u2) :: tl, q.2.cls = .type "tuple" := fun q hq => by
    rcases List.mem_cons.mp hq with rfl | hq
    · rfl
    · exact hT.2 q hq
  refine t_end F N ho ((sa, listOf svs.toArray k) :: (it, iterO tape i) :: (l, listOf (vs' ++ [Value.ref T]).toArray n') :: (a, instObj C d) :: (d, dictOf e nd) :: (T, tup2 (low (wordS c)) (digS c) u1 u2) :: tl) (.head _) (fun p hp => .tail _ hp) (off_turn rfl hit ht) (.head _) ⟨vs' ++ [Value.ref T], n', (T, tup2 (low (wordS c)) (digS c) u1 u2) :: tl, rfl, hm, ⟨fun g hg => ?_, ht⟩, hw.tog c0 c1⟩
  rw [getF_isSome hw c0 c1] at hin
  rw [← set_rows hw c0 c1 hin]
  exact TRows.snoc (r := rowOf c) (hg (T, tup2 (low (wordS c)) (digS c) u1 u2) (.head _)) (hT9 g (hT.1 g fun q hq => hg q (.tail _ hq)))
end
end
section
open PySem.Calls
section
open Builtin Builtin.Str StrLaws
noncomputable def sepS : Str := ⟨#[44, 32]⟩
noncomputable def cutsW : List (List Nat) → Nat → List Nat
  | w :: v :: r, i => (i + w.length) :: cutsW (v :: r) (i + w.length + 2)
  | _, _ => []
noncomputable def jnW : List (List Nat) → List Nat
  | [] => []
  | [w] => w
  | w :: v :: r => w ++ 44 :: 32 :: jnW (v :: r)
theorem subAt_sep (x : Str) (i : Nat) : subAt x sepS i = ((x.cps.toList.drop i).take 2 == [44, 32]) := by
  have e : (x.cps.extract i (i + 2) == #[44, 32]) = ((x.cps.extract i (i + 2)).toList == [44, 32]) := by
    generalize x.cps.extract i (i + 2) = a
    rcases a with ⟨l⟩
    simp
  show (x.cps.extract i (i + 2) == #[44, 32]) = _
  rw [e, Array.toList_extract, List.extract_eq_take_drop, show i + 2 - i = 2 by omega]
theorem subAt_at {x : Str} {pre r : List Nat} (h : x.cps.toList = pre ++ 44 :: 32 :: r) : subAt x sepS pre.length = true := by
  rw [subAt_sep, h, List.drop_left]
  simp
theorem subAt_no {x : Str} {i : Nat} (h : x.cps.toList[i]? ≠ some 44) : subAt x sepS i = false := by
  rw [subAt_sep]
  cases e : x.cps.toList.drop i with
  | nil => rfl
  | cons a l =>
    have h0 : x.cps.toList[i]? = some a := by
      have := List.getElem?_drop (xs := x.cps.toList) (i := i) (j := 0)
      rw [e] at this
      simpa using this.symm
    have : a ≠ 44 := fun q => h (by rw [h0, q])
    cases l <;> simp [this]
theorem occ_skip (x : Str) (hi lim : Nat) : ∀ (n k m : Nat) (st : Array Nat × Nat), (∀ i, k ≤ i → i < k + n → subAt x sepS i = false ∨ hi < i + 2 ∨ i < st.2) →
    forIn (List.range' k (n + m)) st (occBody x sepS hi lim) = forIn (List.range' (k + n) m) st (occBody x sepS hi lim)
  | 0, k, m, st, _ => by rw [Nat.zero_add, Nat.add_zero]
  | n + 1, k, m, st, h => by
    rw [show n + 1 + m = (n + m) + 1 by omega, List.range'_succ, List.forIn_cons]
    have h0 := h k (Nat.le_refl _) (by omega)
    have : ¬ (((st.fst.size < lim ∧ st.snd ≤ k) ∧ k + sepS.length ≤ hi) ∧ subAt x sepS k = true) := by
      rintro ⟨⟨⟨_, q1⟩, q2⟩, q3⟩
      have q2 : k + 2 ≤ hi := q2
      rcases h0 with h0 | h0 | h0
      · rw [h0] at q3; cases q3
      · omega
      · omega
    conv => lhs; unfold occBody
    rw [if_neg this]
    have ih := occ_skip x hi lim n (k + 1) m st fun i a b => h i (by omega) (by omega)
    rw [show k + (n + 1) = k + 1 + n by omega, ← ih]
    rfl
theorem occ_take (x : Str) (hi lim k m : Nat) (st : Array Nat × Nat) (h1 : st.1.size < lim) (h2 : st.2 ≤ k) (h3 : k + 2 ≤ hi) (h4 : subAt x sepS k = true) :
    forIn (List.range' k (m + 1)) st (occBody x sepS hi lim) = forIn (List.range' (k + 1) m) (st.1.push k, k + 2) (occBody x sepS hi lim) := by
  rw [List.range'_succ, List.forIn_cons]
  conv => lhs; unfold occBody
  rw [if_pos ⟨⟨⟨h1, h2⟩, h3⟩, h4⟩]
  rfl
theorem getElem?_mid {pre w r : List Nat} {i : Nat} (h1 : pre.length ≤ i) (h2 : i < pre.length + w.length) (hw : 44 ∉ w) : (pre ++ (w ++ r))[i]? ≠ some 44 := by
  rw [List.getElem?_append_right h1, List.getElem?_append_left (by omega)]
  intro e
  exact hw (List.mem_of_getElem? e)
theorem occ_words (x : Str) : ∀ (ws : List (List Nat)) (pre : List Nat) (st : Array Nat × Nat), (∀ w ∈ ws, 44 ∉ w) → x.cps.toList = pre ++ jnW ws → st.2 ≤ pre.length → st.1.size ≤ pre.length →
    (forIn (List.range' pre.length (x.length + 1 - pre.length)) st (occBody x sepS x.length (x.length + 1))).run.1.toList = st.1.toList ++ cutsW ws pre.length
  | [], pre, st, hw, e, h1, h2 => by
    have hl : x.length = pre.length := by
      show x.cps.size = _
      rw [← Array.length_toList, e]; simp [jnW]
    rw [hl, show pre.length + 1 - pre.length = 1 + 0 by omega, occ_skip x _ _ 1 _ 0 st fun i a b => .inr (.inl (by omega))]
    simp [cutsW]
  | [w], pre, st, hw, e, h1, h2 => by
    have hl : x.length = pre.length + w.length := by
      show x.cps.size = _
      rw [← Array.length_toList, e]; simp [jnW]
    rw [hl, show pre.length + w.length + 1 - pre.length = w.length + 1 + 0 by omega, occ_skip x _ _ (w.length + 1) _ 0 st fun i a b => ?_]
    · simp [cutsW]
    · by_cases q : i < pre.length + w.length
      · left
        refine subAt_no ?_
        rw [e]
        have := getElem?_mid (r := []) a q (hw w (.head _))
        simpa [jnW] using this
      · right; left; omega
  | w :: v :: r, pre, st, hw, e, h1, h2 => by
    have hl : x.length = pre.length + w.length + 2 + (jnW (v :: r)).length := by
      show x.cps.size = _
      rw [← Array.length_toList, e]; simp [jnW]; omega
    have e2 : x.cps.toList = (pre ++ w ++ [44, 32]) ++ jnW (v :: r) := by rw [e]; simp [jnW]
    have e3 : x.cps.toList = (pre ++ w) ++ 44 :: 32 :: jnW (v :: r) := by rw [e]; simp [jnW]
    rw [show x.length + 1 - pre.length = w.length + ((1 + (x.length + 1 - (pre.length + w.length + 2))) + 1) by omega, occ_skip x _ _ w.length _ _ st fun i a b => ?_]
    · rw [occ_take x _ _ _ _ st (by omega) (by omega) (by omega) (by have := subAt_at e3; rwa [List.length_append] at this), occ_skip x _ _ 1 _ _ _ fun i a b => .inr (.inr (by show i < pre.length + w.length + 2; omega))]
      have ih := occ_words x (v :: r) (pre ++ w ++ [44, 32]) (st.1.push (pre.length + w.length), pre.length + w.length + 2) (fun q hq => hw q (.tail _ hq)) e2 (by simp; try omega) (by simp; omega)
      have el : (pre ++ w ++ [44, 32]).length = pre.length + w.length + 2 := by simp; try omega
      rw [el] at ih
      rw [show pre.length + w.length + 1 + 1 = pre.length + w.length + 2 by omega, ih, Array.toList_push]
      simp [cutsW]
    · left
      refine subAt_no ?_
      rw [e]
      have := getElem?_mid (r := 44 :: 32 :: jnW (v :: r)) a (by omega) (hw w (.head _))
      simpa [jnW] using this
theorem strSub_mid {x : Str} {pre w r : List Nat} (e : x.cps.toList = pre ++ (w ++ r)) : strSub x pre.length (pre.length + w.length) = ⟨⟨w⟩⟩ := by
  unfold strSub
  congr 1
  apply Array.ext'
  rw [Array.toList_extract, List.extract_eq_take_drop, e, List.drop_left, show pre.length + w.length - pre.length = w.length by omega, List.take_left]
theorem parts_words (x : Str) : ∀ (ws : List (List Nat)) (pre : List Nat), ws ≠ [] → x.cps.toList = pre ++ jnW ws → partsFrom x 2 pre.length (cutsW ws pre.length) = ws.map fun w => (⟨⟨w⟩⟩ : Str)
  | [], _, h, _ => absurd rfl h
  | [w], pre, _, e => by
    have hl : x.length = pre.length + w.length := by
      show x.cps.size = _
      rw [← Array.length_toList, e]; simp [jnW]
    show [strSub x pre.length x.length] = _
    rw [hl, strSub_mid (r := []) (by rw [e]; simp [jnW])]
    rfl
  | w :: v :: r, pre, _, e => by
    show strSub x pre.length (pre.length + w.length) :: partsFrom x 2 (pre.length + w.length + 2) (cutsW (v :: r) (pre.length + w.length + 2)) = _
    have e2 : x.cps.toList = (pre ++ w ++ [44, 32]) ++ jnW (v :: r) := by rw [e]; simp [jnW]
    have ih := parts_words x (v :: r) (pre ++ w ++ [44, 32]) (by simp) e2
    have el : (pre ++ w ++ [44, 32]).length = pre.length + w.length + 2 := by simp; try omega
    rw [el] at ih
    rw [ih, strSub_mid (r := 44 :: 32 :: jnW (v :: r)) (by rw [e]; simp [jnW])]
    rfl
theorem join_jn : ∀ ws : List Str, (Str.join sepS ws).cps.toList = jnW (ws.map fun w => w.cps.toList)
  | [] => rfl
  | [w] => rfl
  | w :: v :: r => by
    show (w ++ sepS ++ Str.join sepS (v :: r)).cps.toList = _
    have : (w ++ sepS ++ Str.join sepS (v :: r)).cps = w.cps ++ sepS.cps ++ (Str.join sepS (v :: r)).cps := rfl
    rw [this, Array.toList_append, Array.toList_append, join_jn (v :: r)]
    simp [jnW, sepS]
theorem kind_pos (x : Str) : 1 ≤ Builtin.Str.strKind x := by
  unfold Builtin.Str.strKind
  split
  · exact Nat.le_refl _
  · split <;> decide
theorem split_join {ws : List Str} (hne : ws ≠ []) (h : ∀ w ∈ ws, 44 ∉ w.cps.toList) : Txt.split (Txt.join sepS ws) sepS = ws := by
  show Txt.split (glued sepS ws) sepS = ws
  rw [glued_eq_join]
  generalize hx : Str.join sepS ws = x
  have e : x.cps.toList = jnW (ws.map fun w => w.cps.toList) := by rw [← hx, join_jn]
  have hid : (ws.map fun w => w.cps.toList).map (fun w => (⟨⟨w⟩⟩ : Str)) = ws := by
    rw [List.map_map]
    exact List.map_id'' (fun w => rfl) ws
  have hn : (ws.map fun w => w.cps.toList) ≠ [] := by simpa using hne
  have hw : ∀ w ∈ ws.map fun w => w.cps.toList, 44 ∉ w := by
    intro w hw
    obtain ⟨v, hv, rfl⟩ := List.mem_map.mp hw
    exact h v hv
  have oc : occurrences x sepS 0 x.length (x.length + 1) = cutsW (ws.map fun w => w.cps.toList) 0 := by
    rw [occ_eq]
    have := occ_words x (ws.map fun w => w.cps.toList) [] (#[], 0) hw (by rw [e]; rfl) (Nat.le_refl _) (Nat.le_refl _)
    simpa using this
  have pt := parts_words x (ws.map fun w => w.cps.toList) [] hn (by rw [e]; rfl)
  rw [hid] at pt
  have whole : cutsW (ws.map fun w => w.cps.toList) 0 = [] → [x] = ws := by
    intro q
    have pt : partsFrom x 2 0 (cutsW (ws.map fun w => w.cps.toList) 0) = ws := pt
    rw [q] at pt
    rw [← pt]
    show [x] = [strSub x 0 x.length]
    rw [sub_whole]
  unfold Txt.split
  split
  · rename_i q
    refine whole ?_
    have q : x.length < 2 := by
      rcases Bool.or_eq_true_iff.mp q with q | q
      · exact of_decide_eq_true q
      · have a := of_decide_eq_true q
        have b := kind_pos x
        have c : Builtin.Str.strKind sepS = 1 := by decide +kernel
        omega
    have q : x.cps.toList.length < 2 := by rw [Array.length_toList]; exact q
    match hm : ws.map fun w => w.cps.toList with
    | [] => rw [hm]; rfl
    | [_] => rw [hm]; rfl
    | w :: v :: r =>
      rw [e, hm] at q
      simp [jnW] at q
      omega
  · rw [oc]
    split
    · rename_i q
      exact whole (List.isEmpty_iff.mp q)
    · rw [partsBetween_eq]
      exact pt
end
end
section
open PySem.Calls
/-- what lies beside the ledger and the frame is kept -/
noncomputable def KpL (L : Addr) (led : List (Addr × Obj)) (h h' : Heap) : Prop := ∀ b o, b ≠ L → (∀ p ∈ led, p.1 ≠ b) → h.get? b = some o → h'.get? b = some o
/-- a contract of a def that is called from the outermost frame -/
noncomputable def SpecT (D : Nat) (w : World) (f : Addr) (vs : List Value) (led : List (Addr × Obj)) (pre : Heap → Prop) (post : Nat → Value → List (Addr × Obj) → Prop) : Prop :=
  ∀ (p : Program) (loose : List Str) (mean : ExcName → Option Value) (mg mb : Str → Option Value) (dp un : Nat) (gd : Option (List Code)) (cn : Str) (cs : Scope) (a : Addr) (ccd : Value) (cl : List (Str × Addr)) (A₀ : Around) (base h₀ : Heap) (L : Addr) (m : Str → Option Value) (s : Shared) (Q E : Value → Shared → Prop),
    pre s.heap → (myK w.params).In base → Top p loose mean mg mb base → Below A₀ base [] h₀ → Fr h₀ L s.heap m → (myK w.params).In h₀ → News h₀ L s.heap led → Top p loose mean mg mb h₀ → cs.kind = .function → dp + D < recursionLimit → un + 30 * D < cLine →
    (∀ v new h' tk', post s.heap.objs.size v new → Fr h₀ L h' m → News h₀ L h' new → KpL L led s.heap h' → Fresh led s.heap new → Q v { s with heap := h', toks := tk' }) →
    wpAny (model pw w) (ktrTop dp un gd cn cs L a ccd cl []) (call (.ref f) vs) Q E s
section
variable {prog : Program} {w : World} {A A₀ : Around} {s : Shared} {K : Frag} {L : Addr} {h₀ base : Heap} {m mg mb : Str → Option Value} {led : List (Addr × Obj)} {p : Program} {loose : List Str} {mean : ExcName → Option Value}
  {env : Env} {R : Result → Shared → Prop} {name qual : Str} {params : Arguments} {body : List Stmt} {scope : Scope} {dV kV doc pm cdv ct oc : Value} {an od : Option Addr} {osl : Array (Option Value)} {f : Addr} {args : Args} {binds : List (Str × Value)}
theorem code_S0T (B : Below A₀ base [] h₀) (F : Fr h₀ L s.heap m) (X₀ : K.In h₀) (N : News h₀ L s.heap led) (T : Top p loose mean mg mb h₀) (hA : A.frames = some [env]) (hf : env.frame = some L) (hke : env.scope.kind = .function)
    (ho : K.lookup f = some ⟨oc, od, .func (fnOf name qual params body scope dV kV doc pm an cdv ct), osl⟩) (hcd : codeIn K cdv qual = true) (hroom : A.depth < recursionLimit)
    (hbind : BindsTo s (fnOf name qual params body scope dV kV doc pm an cdv ct) args binds) (hloc : ∀ y ∈ binds, scope.names.lookup y.1 = some .local)
    (h : ∀ g L' h₁, Fr h₀ L g m → Fr g L' h₁ (fun y => binds.reverse.lookup y) → News g L' h₁ led → Below A base [env] g → K.In g → Top p loose mean mg mb g → KtsDicts ([env].filterMap (·.frame)) g →
      (∀ g2, KtsTurn ([env].filterMap (·.frame)) g g2 → ∀ new h₂, News g2 L' h₂ new → Fresh led s.heap new) → (∀ b o, s.heap.get? b = some o → (∀ p ∈ led, p.1 ≠ b) → g.get? b = some o) → (∀ p ∈ led, p.1 < L') →
      wpAny (model prog w) (A.deeper (envOf qual scope L' f cdv)) (execs body (envOf qual scope L' f cdv))
        (fun fl s' => LeaveS0 ([env].filterMap (·.frame)) h₀ L m g (fun r s' => KpL L led s.heap s'.heap → R r s') (match fl with | .ret v => v | _ => .none) s')
        (fun e s' => wpAny (model prog w) (A.deeper (envOf qual scope L' f cdv)) (leaving (envOf qual scope L' f cdv) e) (fun _ s'' => R (.error e) s'') (fun e' s'' => R (.error e') s'') s')
        { s with heap := h₁, toks := s.toks + binds.length })
    (hco : scope.isCoroutine = false) (hgen : scope.isGenerator = false) (hk : scope.kind = .function)
    (hcell : ∀ x ∈ scope.names, x.2 ≠ .cell) : codeAny (model prog w) A (.call (.ref f) args) R s := by
  have X := X₀.keeps F.keep
  refine codeAny_call_def (fd := fnOf name qual params body scope dV kV doc pm an cdv ct) (body := body) (binds := binds) hroom (X _ _ ho) rfl (T.nolimit.keeps F.keep) (codeRec_of X hcd) rfl hbind hcell hloc (fun h₁ hns hk₁ => ?_) hco hgen hk
  obtain ⟨FG, B₂, st, _⟩ := groundX (R := R) B F N hA hf hke
  obtain ⟨oL, es, ep, hLg, hLd, hLk, hLf⟩ := FG.ns
  have hNs : ∀ (sl : Array (Option Value)) h', h'.get? L = some { oL with slots := sl } → Heap.Ns h' L m := fun sl h' e => ⟨_, es, ep, e, hLd, hLk, hLf⟩
  have mem1 : ∀ {b : Addr}, b ∈ [env].filterMap (·.frame) → b = L := fun hb => by
    simp only [List.filterMap_cons, hf, List.filterMap_nil, List.mem_singleton] at hb
    exact hb
  have hgk : ∀ b o, s.heap.get? b = some o → (∀ p ∈ led, p.1 ≠ b) → (hideAll s.heap (led.map (·.1))).get? b = some o := fun b o e ne => hideAll_get _ e fun x => by obtain ⟨p, hp, e'⟩ := List.mem_map.mp x; exact ne p hp e'
  have old : ∀ q ∈ led, q.1 < s.heap.objs.size := fun q hq => Heap.lt_size (N q hq).1
  refine wpAny_mono (h _ s.heap.objs.size h₁ FG ⟨hns, fun b o e => hk₁ b o (of_hideAll _ e), Nat.le_of_eq (hideAll_size _ _)⟩
    (fun p hp => ⟨hk₁ _ _ (N p hp).1, Nat.ne_of_lt (Heap.lt_size (N p hp).1), hideAll_none _ (List.mem_map_of_mem hp)⟩) B₂ (X₀.keeps st) (T.keeps st) (fun b hb => by
      rw [mem1 hb]
      exact ⟨oL, es, ep, hLg, hLd⟩) (fun g2 T2 new h₂ N₂ q hq ne => ?_) hgk old) (fun fl s' hl => ?_) fun _ _ y => y
  · cases e : s.heap.get? q.1 with
    | none => rfl
    | some o =>
      obtain ⟨sl, e2⟩ := T2.up (hgk _ _ e ne)
      have := (N₂ q hq).2.2
      rw [e2] at this; cases this
  obtain ⟨g', L', m', news', T', F', N', k⟩ := hl
  have nL₀ : h₀.get? L = none := kts_self F
  obtain ⟨sl, hs⟩ := T'.up hLg
  refine k ⟨hNs sl _ (F'.keep _ _ hs), fun b o e => F'.keep b o (T'.other b o (st b o e) (fun q => by
      rw [mem1 q, nL₀] at e
      cases e)), F.above⟩ (fun p hp => ⟨(N' p hp).1, fun q => ?_, ?_⟩) (fun b o hb ne e => F'.keep b o (T'.other b o (hgk b o e ne) fun q => ?_))
  · have := (N' p hp).2.2; rw [q, hs] at this; cases this
  · cases q : h₀.get? p.1 with
    | none => rfl
    | some o =>
      obtain ⟨sl', hs'⟩ := T'.up (st _ _ q)
      have := (N' p hp).2.2
      rw [hs'] at this
      cases this
  · exact hb (mem1 q)
end
end
section
open PySem.Calls
theorem exc_stop : isSubtype (.type "StopIteration") (.type "BaseException") = pure true := by rw [isSubtype_type]; kernel_rfl
theorem tup_stop : isSubtype (.type ((Manifest.find? "StopIteration").elim "type" fun y => y.metatype)) (.type "tuple") = pure false := by rw [isSubtype_type]; kernel_rfl
theorem sub_stop : isSubtype (.type "StopIteration") (.type "StopIteration") = pure true := by rw [isSubtype_type]; kernel_rfl
local macro_rules | `(tactic| kts_caught) => `(tactic| refine stopK "caught" ?_)
theorem isList_nil {s g : Heap} {l : Addr} {vs : List Value} (hk : ∀ b o, s.get? b = some o → (∀ p ∈ ([] : List (Addr × Obj)), p.1 ≠ b) → g.get? b = some o) (hl : s.IsList l vs.toArray) : g.IsList l vs.toArray :=
  hl.at fun o e => hk _ _ e fun _ h => nomatch h
theorem base_list {g g2 : Heap} {l L1 : Addr} {m1 : Str → Option Value} {vs : List Value} (h : g.IsList l vs.toArray) (F : Fr g L1 g2 m1) : g2.IsList l vs.toArray := h.at fun o e => F.keep _ _ e
theorem ints_end {vs : List Value} {os : List Int} (h : IntsAre vs os) {i : Nat} (e : os.drop i = []) : vs[i]? = none := by
  have h1 := h.length
  have h2 := List.drop_eq_nil_iff.mp e
  exact List.getElem?_eq_none (by omega)
theorem vs_len {h₀ h : Heap} {L I sa it l a d : Addr} {o ls oi ol oa od : Obj} {tl : List (Addr × Obj)} {vs : List Value} {ws : List Int} (hT : TLed tl vs (rowsOf ws)) (hw : WOk ws) (N : News h₀ L h ((I, o) :: (sa, ls) :: (it, oi) :: (l, ol) :: (a, oa) :: (d, od) :: tl)) : vs.length ≤ 64 := by
  have := (hT.1 h fun q hq => (N q (.tail _ (.tail _ (.tail _ (.tail _ (.tail _ (.tail _ hq))))))).1).length
  rw [this]
  unfold rowsOf
  rw [List.length_map]
  exact Nat.le_trans hw.len (by decide)
theorem hFrOfT {ds : List Addr} {g g2 h h₂ : Heap} {L' : Addr} {led new : List (Addr × Obj)} (f : ∀ g2, KtsTurn ds g g2 → ∀ new h₂, News g2 L' h₂ new → Fresh led h new) (T : KtsTurn ds g g2) (N : News g2 L' h₂ new) : Fresh led h new := f _ T _ _ N
theorem news_lad {g h : Heap} {L l a d : Addr} {ol oa od : Obj} {tl : List (Addr × Obj)} (N : News g L h ((l, ol) :: (a, oa) :: (d, od) :: tl)) : News g L h ((a, oa) :: (d, od) :: (l, ol) :: tl) := fun p hp => N p (by
  simp only [List.mem_cons] at hp ⊢
  rcases hp with h | h | h | h
  · exact .inr (.inl h)
  · exact .inr (.inr (.inl h))
  · exact .inl h
  · exact .inr (.inr (.inr h)))
theorem sw_ne {z : Str} (h : swS.contains z = false) : z ≠ Str.ofString "seat" ∧ z ≠ Str.ofString "word" := by
  constructor <;> (rintro rfl; exact absurd h (by decide))
set_option maxHeartbeats 8000000 in
theorem heard_spec {w : World} (tape : Nat) (vs : List Value) (os ps wsF : List Int) (hi : IntsAre vs os) (hdec : Dec os 0 ps) (hokp : ∀ p ∈ ps, okP p) (hfin : ps.foldl stepW [] = wsF) : SpecT 6 w 326 [.ref tape] [] (fun h => h.IsList tape vs.toArray) (fun _ v new => ∃ a d l tk nd vs9 n tl, v = .ref a ∧ new = (a, instObj 298 d) :: (d, dictOf [⟨PyData.keyHash w.params (Str.ofString "_headers"), .str (Str.ofString "_headers") tk, .ref l⟩] nd) :: (l, listOf vs9.toArray n) :: tl ∧ TLed tl vs9 (rowsOf wsF) ∧ WOk wsF) := by
  (unfold SpecT; intros; rename_i hret; w_on; refine wpAny_call ?_; k_dflt (refine' code_S0T ?k1 ?k2 ?k3 ?k4 ?k5 ?kA ?kF ?kK ?k6 ?k7 ?k8 ?k9 ?kB ?_ ?c2 ?c3 ?c4 ?c5; (case kA => exact rfl); (case kF => exact rfl); (case kK => first | assumption | exact rfl); (case k2 => k_asm); (case k1 => k_asm); (case k3 => k_asm); (case k4 => k_asm); (case k5 => k_asm); (case k6 => k_is); (case k7 => k_is); (case k8 => ktr_room); (case k9 => first | exact BindsTo.of_eq rfl | exact binds_K (by k_in) rfl (by k_is) rfl rfl rfl); (case kB => exact locs rfl); (case c2 => exact rfl); (case c3 => exact rfl); (case c4 => exact rfl); (case c5 => decide); k_whole; intro g' L' h' FG' F' N' B' X' T' D' hFr hgk l1; (try k_lt l1); (try dsimp only); (try k_lift B'); (try k_fold)))
  have hbl := isList_nil (by assumption) (by assumption)
  have «stop call ref» := True.intro
  have «stop call builtin:iter» := True.intro
  have «stop exec While» := True.intro
  have «stop call builtin:next» := True.intro
  have «stop delItem ref» := True.intro
  have «stop exec For Name Call cons nil» := True.intro
  have «stop call builtin:chr» := True.intro
  have «stop pyIter ref» := True.intro
  repeat' (first
    | ((with_reducible show StopK _ _); first
        | ((with_reducible refine goK "pyIter ref" ?_); (with_reducible show wpAny _ _ (pyIter (Value.ref _)) (fun it s₂ => TurnsAt _ _ _ _ _ _ _ _ _ it s₂) _ _); (rename Fr _ _ _ _ => lF'); (rename News _ _ _ _ => lN'); k_dflt (refine' seat_loop hsv' hps' hT' hW' rfl lF' lN' ?_ ?_; clear lF' lN'; intro I' c' tc' h' tk' o' hit' hc0' hc1' ho' F' N'; have hwl' := (word_ok hc0' hc1').2.2.2.1; rotate_left 1; clear lF' lN'; intro ws9 vs9 n9 tl9 u9 h' tk' hws9 hT9 hW9 F' N'; rotate_right 1))
        | ((with_reducible refine goK "call builtin:chr" ?_); have hq9 := hO' _ (.head _); unfold okP at hq9; obtain ⟨hp0', hp1', hps'⟩ := hq9; k_dflt (refine chr_of_range hp0' (by omega) ?_))
        | ((with_reducible refine goK "exec For Name Call cons nil" ?_); (rename Fr _ _ _ _ => lF'); k_dflt (refine' For_turns lF' ?_))
        | ((with_reducible refine goK "delItem ref" ?_); k_dflt (refine' del_item ?F ?X ?I ?hQ ?hS ?hF ?_; (case F => k_asm); (case X => k_asm); (case I => k_inst); (case hS => k_is); (case hF => k_is); (case hQ => k_is)); (try dsimp only))
        | ((with_reducible refine goK "call builtin:next" ?_); (rename Fr _ _ _ _ => lF'); (rename News _ _ _ _ => lN'); k_dflt (refine' next_stop rfl lF' lN' ?off ?hb ?hx ?_; (case off => exact fun p hp => (it_off lN' (hl_cls hT'.2) p hp _ (.head _)).symm); (case hb => exact base_list hbl (by assumption)); (case hx => exact ints_end hi hd')); clear lF' lN'; intro h1' h' e' F' N' mx')
        | ((with_reducible refine goK "exec While" ?_); (rename Fr _ _ _ _ => lF'); (rename News _ _ _ _ => lN'); k_dflt (refine' heard_while hdec hokp hfin lF' lN' ?_ ?hE; (case hE => first | passes_own | with_unfolding_all passes_own)); clear lF' lN'; intro i' ps' vs' n' tl' ws' u' h' tk' hD' hO' hT' hW' hF' F' N'; (rcases hD' with hd' | ⟨hd', hdec', hrest'⟩) <;> (try (have hq9 := hO' _ (.head _); unfold okP at hq9; obtain ⟨hp0', hp1', hps'⟩ := hq9)))
        | ((with_reducible refine goK "call builtin:iter" ?_); k_dflt (refine' iter_base ?k1 ?k2 ?k3 ?_; (case k1 => k_asm); (case k2 => k_asm); (case k3 => assumption)); intro it' h' F' N' l1; (try k_lt l1); (try k_sweep))
        | ((with_reducible refine goK "call ref" ?_); first | (k_dflt (refine' call_cls ?k1 ?k2 ?k3 ?k4 ?k5 ?k6 ?_; (case k1 => k_asm); (case k2 => k_asm); (case k3 => k_asm); (case k4 => k_is); (case k5 => k_is); (case k6 => k_is)); intro x' d' h' F' N' l1 l2; (try k_lt l1); (try k_lt2 l2); (try k_sweep); k_dflt walk_at "m enter") | ((rename Fr _ _ _ _ => lF9); k_dflt (refine' SpecP.to (varint_spec _ _ _ _ vs _ _ _ _ hi hd' hdec') ?mp ?mB ?mF ?mK ?mN ?mT ?mk ?md ?mu ?hne ?_; walk_at "m use"; (case mp => exact hbl.at fun o e => lF9.keep _ _ e); (case hne => exact it_off (by assumption) (hl_cls hT'.2))); intro v' new' h' tk' n9' l9 hp' F' N' ne' kk'; (obtain ⟨t9, hv', hn'⟩ := hp'); subst hv'; subst hn'; clear l9 ne' kk'; (try simp only [List.cons_append, List.nil_append] at N')) | (k_dflt (refine' Spec.use0 (seats_spec _ _) ?mB ?mF ?mK ?mN ?mT ?mk ?md ?mu ?_; walk_at "m use"); intro v' new' h' tk' n9' l9 hp' F' N' ne'; (obtain ⟨sa', svs', hv', hn', hsv'⟩ := hp'); subst hv'; subst hn'; clear l9; (try simp only [List.cons_append, List.nil_append] at N'); (simp only [NeAll, NeOne, and_true] at ne'); (have hsa' := ne'.2.1); clear ne') | (k_dflt (refine' Spec.use0 (word_spec _ _ hc0' hc1') ?mB ?mF ?mK ?mN ?mT ?mk ?md ?mu ?_; walk_at "m use"); intro v' new' h' tk' n9' l9 hp' F' N' ne'; (obtain ⟨t9, hv', hn'⟩ := hp'); subst hv'; subst hn'; clear l9 ne'; (try simp only [List.cons_append, List.nil_append] at N')) | ((rename Fr _ _ _ _ => lF9); (rename News _ _ _ _ => lN9); k_dflt (refine' SpecP.to (contains_spec _ _ _ _ _ _ _ _ (rowsOf ws') _ (word_ok hc0' hc1').1 (Nat.le_trans (word_ok hc0' hc1').2.2.2.1 (by decide)) (rows_len hW')) ?mp ?mB ?mF ?mK (tab_perm lN9) ?mT ?mk ?md ?mu (tab_hne lN9 ho' hsa' hT'.2) ?_; (case mB => k_asm); (case mF => k_asm); (case mK => k_asm); (case mT => k_asm); (case mk => first | exact rfl | assumption); (case md => ktr_room); (case mu => ktr_units); (case mp => exact hT'.1 _ fun q hq => (lN9 q (.tail _ (.tail _ (.tail _ (.tail _ (.tail _ (.tail _ hq))))))).1)); intro v' new' h' tk' n9' l9 hp' F' N' ne' kk'; (obtain ⟨hn', hv'⟩ := hp'); subst hn'; subst hv'; clear l9 ne' kk'; (replace N' := tab_back N')) | ((rename Fr _ _ _ _ => lF9); (rename News _ _ _ _ => lN9); k_dflt (refine' SpecP.to (del_spec _ _ _ _ _ _ _ _ (rowsOf ws') _ (word_ok hc0' hc1').1 (Nat.le_trans (word_ok hc0' hc1').2.2.2.1 (by decide)) (rows_len hW') (vs_len hT' hW' lN9)) ?mp ?mB ?mF ?mK (tab_perm lN9) ?mT ?mk ?md ?mu (tab_hne lN9 ho' hsa' hT'.2) ?_; (case mB => k_asm); (case mF => k_asm); (case mK => k_asm); (case mT => k_asm); (case mk => first | exact rfl | assumption); (case md => ktr_room); (case mu => ktr_units); (case mp => exact hT'.1 _ fun q hq => (lN9 q (.tail _ (.tail _ (.tail _ (.tail _ (.tail _ (.tail _ hq))))))).1)); intro v' new' h' tk' n9' l9 hp' F' N' ne' kk'; (obtain ⟨hv', n8, vs8, hn', hle8, hT8⟩ := hp'); subst hn'; subst hv'; clear l9 ne' kk'; (replace N' := tab_back N')) | ((rename Fr _ _ _ _ => lF9); (rename News _ _ _ _ => lN9); k_dflt (refine' SpecP.to (set_spec _ _ _ _ _ _ _ _ _ (rowsOf ws') _ _ (word_ok hc0' hc1').2.1 (word_ok hc0' hc1').1 (word_ok hc0' hc1').2.2.1 (Nat.le_trans (word_ok hc0' hc1').2.2.2.2 (by decide)) (rows_len hW') (vs_len hT' hW' lN9)) ?mp ?mB ?mF ?mK (tab_perm lN9) ?mT ?mk ?md ?mu (tab_hne lN9 ho' hsa' hT'.2) ?_; (case mB => k_asm); (case mF => k_asm); (case mK => k_asm); (case mT => k_asm); (case mk => first | exact rfl | assumption); (case md => ktr_room); (case mu => ktr_units); (case mp => exact hT'.1 _ fun q hq => (lN9 q (.tail _ (.tail _ (.tail _ (.tail _ (.tail _ (.tail _ hq))))))).1)); intro v' new' h' tk' n9' l9 hp' F' N' ne' kk'; (obtain ⟨hv', T8, u8, w8, n8, vs8, hn', hle8, hT8⟩ := hp'); subst hn'; subst hv'; clear l9 ne' kk'; (replace N' := tab_backT N')) | (refine wpAny_call ?_; k_dflt walk_at "m enter"))
        | ((with_reducible refine goK "caught" ?_); ((with_reducible show wpAny _ _ (noteFrame _ _) (fun _ s₂ => wpAny _ _ (setFlight _ none) (fun _ s₃ => wpAny _ _ (handleBy _ _ (ExceptHandler.ExceptHandler (some (Expr.Name ("StopIteration" : Str) _)) none _ _ :: _)) _ _ s₃) _ s₂) _ _); k_dflt (refine' caught_S0 (T' := "StopIteration") ?R ?F ?K ?U ?XB ?TB ?D ?T0 ?ex PyProof.Rows.Boot.«StopIteration» ?hn exc_stop tup_stop sub_stop ?_; (case R => assumption); (case F => assumption); (case K => assumption); (case U => assumption); (case XB => assumption); (case TB => assumption); (case D => assumption); (case T0 => first | assumption | exact KtsTurn.refl); (case ex => k_is); (case hn => decide); k_whole); intro h' g' n₂ T' F' N₂ G' N' K' X' P' D'; (try k_lift K'); (try k_sweep)))
        | ((with_reducible refine goK _ ?_); have noK9 := True.intro; walk_at "m step"; all_goals (try clear noK9)))
    | walk_at "m step")
  · obtain rfl : ws' = wsF := hF'
    rename News _ _ _ _ => lN8
    rename Fr _ _ _ _ => lF8
    exact hret _ ((x', instObj 298 d') :: (d', dictOf [⟨PyData.keyHash w.params (Str.ofString "_headers"), .str (Str.ofString "_headers") _, .ref _⟩] _) :: (_, listOf vs'.toArray n') :: tl') _ _ ⟨_, _, _, _, _, _, _, _, rfl, rfl, hT', hW'⟩ lF8 (news_lad lN8) (by assumption) (hFrOfT (by assumption) (by assumption) (news_lad (by assumption)))
  · exact seat_del (by assumption) (by assumption) ho' hit' hT' hW' hc0' hc1' (by assumption) hT8 (fun z hz => by simp only [if_neg (sw_ne hz).1, if_neg (sw_ne hz).2])
  · exact seat_set (by assumption) (by assumption) ho' hit' hT' hW' hc0' hc1' (by assumption) hT8 (fun z hz => by simp only [if_neg (sw_ne hz).1, if_neg (sw_ne hz).2])
  · refine ksw_end (_, _, vs9, n9, tl9, ws9) (by assumption) (by assumption) (fun p hp => .tail _ hp) trivial (fun _ h => nomatch h) ?_ ⟨hrest', fun p hp => hO' p (.tail _ hp), hT9, hW9, ?_⟩ ?_
    · intro z _ h
      simp only [h, Bool.false_eq_true, if_false]
    · rw [← hws9]
      exact hF'
    · exact Nat.lt_succ_self _
end
section
open PySem.Calls
section
variable {prog : Program} {w : World} {A : Around} {E : Value → Shared → Prop} {s : Shared}
noncomputable def isI (k : Int) : Value → Bool
  | .int i _ => i == k
  | _ => false
theorem any_isI {k : Int} : ∀ {vs : List Value} {ns : List Int}, IntsAre vs ns → vs.any (isI k) = ns.contains k := by
  intro vs ns h
  induction h with
  | nil => rfl
  | cons _ _ _ ih => rw [List.any_cons, ih, List.contains_cons, Bool.beq_comm (a := k)]; rfl
theorem eq_isI {k : Int} {t : Tok} {vs : List Value} {ns : List Int} (h : IntsAre vs ns) : ∀ y, y ∈ vs.toArray → SeqAt.EqAt A.in1 s y (.int k t) (isI k y) := by
  intro y hy
  have hy : y ∈ vs := by simpa using hy
  induction h with
  | nil => exact nomatch hy
  | cons _ _ _ ih =>
    rcases List.mem_cons.mp hy with rfl | hy
    · exact SeqAt.EqAt.int_int _ _ _ _
    · exact ih (by simpa using hy) hy
theorem in_ints {H : Addr} {k : Int} {t : Tok} {vs : List Value} {ns : List Int} {Q : Value → Shared → Prop} (hl : s.heap.IsList H vs.toArray) (hi : IntsAre vs ns) (h : Q (.bool (ns.contains k)) s) : wpAny (model prog w) A (compareOp .In (.int k t) (.ref H)) Q E s :=
  SeqAt.in_listAt (isI k) hl (eq_isI hi) (by rw [List.any_toArray, any_isI hi]; exact h)
theorem notin_ints {H : Addr} {k : Int} {t : Tok} {vs : List Value} {ns : List Int} {Q : Value → Shared → Prop} (hl : s.heap.IsList H vs.toArray) (hi : IntsAre vs ns) (h : Q (.bool (!ns.contains k)) s) : wpAny (model prog w) A (compareOp .NotIn (.int k t) (.ref H)) Q E s :=
  SeqAt.notIn_listAt (isI k) hl (eq_isI hi) (by rw [List.any_toArray, any_isI hi]; exact h)
theorem ints_at {vs : List Value} {ns : List Int} (h : IntsAre vs ns) (j : Nat) (h1 : j < vs.length) : ∃ t, vs[j] = .int (ns.getD j 0) t := by
  have h2 : j < ns.length := by rw [← h.length]; exact h1
  obtain ⟨t, ht⟩ := h.get j (ns.getD j 0) (by simp [List.getElem?_eq_getElem h2, List.getD])
  refine ⟨t, ?_⟩
  rw [List.getElem?_eq_getElem h1] at ht
  exact Option.some.inj ht
theorem eq_ints {a b : Addr} {vs us : List Value} {ns ms : List Int} {Q : Value → Shared → Prop} (hl : s.heap.IsList a vs.toArray) (hi : IntsAre vs ns) (hl' : s.heap.IsList b us.toArray) (hi' : IntsAre us ms) (hu : A.units < cLine) (h : Q (.bool (decide (ns = ms))) s) :
    wpAny (model prog w) A (compareOp .Eq (.ref a) (.ref b)) Q E s := by
  have l1 := hi.length
  have l2 := hi'.length
  by_cases q : ns.length = ms.length
  · refine SeqAt.eq_listAt (e := fun j => ns.getD j 0 == ms.getD j 0) hl hl' (by simp; omega) hu (fun j h1 h2 => ?_) ?_
    · have h1' : j < vs.length := by simpa using h1
      have h2' : j < us.length := by simpa using h2
      obtain ⟨t, ht⟩ := ints_at hi j h1'
      obtain ⟨u, hu⟩ := ints_at hi' j h2'
      have e1 : vs.toArray[j] = vs[j] := by simp
      have e2 : us.toArray[j] = us[j] := by simp
      rw [e1, e2, ht, hu]
      exact SeqAt.EqAt.int_int _ _ _ _
    · have e : (List.range vs.toArray.size).all (fun j => ns.getD j 0 == ms.getD j 0) = decide (ns = ms) := by
        apply Bool.eq_iff_iff.mpr
        rw [List.all_eq_true, decide_eq_true_iff]
        constructor
        · intro g
          refine List.ext_getElem q fun j h1 h2 => ?_
          have := g j (by simp; omega)
          simpa [List.getD, List.getElem?_eq_getElem h1, List.getElem?_eq_getElem h2] using this
        · rintro rfl j _
          simp
      rw [e]; exact h
  · refine SeqAt.eq_list_lengthsAt hl hl' (by simp; omega) hu ?_
    have e : decide (ns = ms) = false := decide_eq_false fun e => q (e ▸ rfl)
    rw [e] at h; exact h
theorem ints_fun {vs : List Value} {ns ms : List Int} (h : IntsAre vs ns) (g : IntsAre vs ms) : ns = ms := by
  induction h generalizing ms with
  | nil => cases g; rfl
  | cons _ _ _ ih => cases g with | cons _ _ g => rw [ih g]
theorem isList_fun {h : Heap} {a : Addr} {xs ys : Array Value} (p : h.IsList a xs) (q : h.IsList a ys) : xs = ys := by
  obtain ⟨o, ho, _, n, hd⟩ := p
  obtain ⟨o', ho', _, n', hd'⟩ := q
  rw [ho] at ho'
  cases ho'
  rw [hd] at hd'
  injection hd'
/-- a list of lists of ints -/
inductive Lol (h : Heap) : List Value → List (List Int) → Prop
  | nil : Lol h [] []
  | cons {a : Addr} {vs : List Value} {ns : List Int} {r : List Value} {nss : List (List Int)} : h.IsList a vs.toArray → IntsAre vs ns → Lol h r nss → Lol h (.ref a :: r) (ns :: nss)
open Classical in
noncomputable def isL (h : Heap) (hs : List Int) : Value → Bool
  | .ref a => decide (∃ vs : List Value, h.IsList a vs.toArray ∧ IntsAre vs hs)
  | _ => false
theorem isL_ref {h : Heap} {hs ns : List Int} {a : Addr} {vs : List Value} (hl : h.IsList a vs.toArray) (hi : IntsAre vs ns) : isL h hs (.ref a) = decide (ns = hs) := by
  apply Bool.eq_iff_iff.mpr
  refine Iff.trans (@decide_eq_true_iff _ (Classical.propDecidable _)) (Iff.trans ?_ decide_eq_true_iff.symm)
  constructor
  · rintro ⟨us, h1, h2⟩
    have e := isList_fun hl h1
    have e : vs = us := by simpa using e
    subst e
    exact ints_fun hi h2
  · rintro rfl
    exact ⟨vs, hl, hi⟩
theorem any_isL {h : Heap} {hs : List Int} {vs : List Value} {nss : List (List Int)} (l : Lol h vs nss) : vs.any (isL h hs) = nss.contains hs := by
  induction l with
  | nil => rfl
  | @cons a us ns r nss hl hi l ih =>
    rw [List.any_cons, ih, List.contains_cons, isL_ref hl hi]
    refine congrArg (· || _) ?_
    apply Bool.eq_iff_iff.mpr
    rw [decide_eq_true_iff, beq_iff_eq]
    exact eq_comm
theorem in_lol {H LL : Addr} {vs lv : List Value} {hs : List Int} {nss : List (List Int)} {Q : Value → Shared → Prop} (hl : s.heap.IsList H vs.toArray) (hi : IntsAre vs hs) (ll : s.heap.IsList LL lv.toArray) (lo : Lol s.heap lv nss) (hu : A.in1.units + 64 < cLine) (h : Q (.bool (nss.contains hs)) s) :
    wpAny (model prog w) A (compareOp .In (.ref H) (.ref LL)) Q E s := by
  refine SeqAt.in_listAt (isL s.heap hs) ll (fun y hy => ?_) (by rw [List.any_toArray, any_isL lo]; exact h)
  have hy : y ∈ lv := by simpa using hy
  clear ll h
  induction lo with
  | nil => exact nomatch hy
  | cons hl' hi' _ ih =>
    rcases List.mem_cons.mp hy with rfl | hy
    · rw [isL_ref hl' hi']
      exact keq_ints hl' hi' hl hi hu
    · exact ih (by simpa using hy) hy
end
end
section
open PySem.Calls
noncomputable def octsG : Nat → Int → List Int → List Int
  | 0, _, os => os
  | f + 1, l, os => if 63 < l then octsG f (l.fdiv 64) (((l.fdiv 64).fmod 64 + 64) :: os) else os
noncomputable def octL (p : Int) : List Int := octsG 4 p [p.fmod 64]
noncomputable def tapeF (p : Int) : List Int := match octL p with
  | [] => []
  | o :: r => (o + 128) :: r
theorem octsG_stop {f : Nat} {l : Int} {os : List Int} (h : ¬ 63 < l) : octsG f l os = os := by
  cases f with
  | zero => rfl
  | succ f => exact if_neg h
theorem octsG_go {f : Nat} {l : Int} {os : List Int} (h : 63 < l) : octsG (f + 1) l os = octsG f (l.fdiv 64) (((l.fdiv 64).fmod 64 + 64) :: os) := if_pos h
theorem octsG_len : ∀ (f : Nat) (l : Int) (os : List Int), (octsG f l os).length ≤ os.length + f
  | 0, _, _ => Nat.le_refl _
  | f + 1, l, os => by
    unfold octsG
    split
    · have := octsG_len f (l.fdiv 64) (((l.fdiv 64).fmod 64 + 64) :: os)
      simp only [List.length_cons] at this
      omega
    · omega
theorem tapeF_len (p : Int) : (tapeF p).length ≤ 5 := by
  have h : (octL p).length ≤ 1 + 4 := octsG_len 4 p [p.fmod 64]
  unfold tapeF
  split
  · exact Nat.zero_le _
  · next e => rw [e] at h; simpa using h
theorem tape_len : ∀ (l : List Int), (l.flatMap tapeF).length ≤ 5 * l.length
  | [] => Nat.le_refl _
  | p :: l => by
    have h1 := tapeF_len p
    have h2 := tape_len l
    rw [List.flatMap_cons, List.length_append, List.length_cons]
    omega
noncomputable def tapeS : List Str := [Str.ofString "point", Str.ofString "left", Str.ofString "octets"]
noncomputable def tapeV : Str := Str.ofString "tape"
section
variable {prog : Program} {w : World} {A : Around} {E : Value → Shared → Prop} {s : Shared} {env : Env} {h₀ : Heap} {target test : Expr} {body : List Stmt} {Q : Flow → Shared → Prop}
noncomputable def TapeJ (H : Addr) (oh : Obj) (m₀ : Str → Option Value) (ts : List Int) (m : Str → Option Value) (nx : List (Addr × Obj)) : Prop :=
  ∃ T tvs n, nx = [(T, listOf tvs.toArray n), (H, oh)] ∧ m tapeV = some (.ref T) ∧ (∀ z, z ≠ tapeV → tapeS.contains z = false → m z = m₀ z) ∧ IntsAre tvs ts
theorem tape_loop {H T₀ : Addr} {n n₀ : Nat} {vs : List Value} {ps : List Int} {m₀ : Str → Option Value}
    (hs : IntsAre vs ps) (hr : ∀ c ∈ ps, 0 ≤ c ∧ c < 1114112) (hh : A.handled = none) (F : Fr h₀ env.locals s.heap m₀) (N : News h₀ env.locals s.heap [(T₀, listOf #[] n₀), (H, listOf vs.toArray n)]) (hT : m₀ tapeV = some (.ref T₀))
    (turn : ∀ I pre c post tc T tvs n' (u : Str → Option Value) h tk o, 0 ≤ c → c < 1114112 → ps = pre ++ c :: post → o.cls = .type "list_iterator" → IntsAre tvs (pre.flatMap tapeF) → Fr h₀ env.locals h (fun z => if z = tapeV then some (.ref T) else if tapeS.contains z then u z else m₀ z) → News h₀ env.locals h [(I, o), (T, listOf tvs.toArray n'), (H, listOf vs.toArray n)] →
      wpAny (model prog w) A (assign target env (.int c tc)) (fun _ s₂ => wpAny (model prog w) A (execs body env) (UnrPostW h₀ env.locals { s with heap := h, toks := tk } [(I, o)] (fun m' n' => (H, listOf vs.toArray n) ∈ n' ∧ TapeJ H (listOf vs.toArray n) m₀ ((pre ++ [c]).flatMap tapeF) m' n') Q) E s₂) E { s with heap := h, toks := tk })
    (done : ∀ T tvs n' (u : Str → Option Value) h tk, IntsAre tvs (ps.flatMap tapeF) → Fr h₀ env.locals h (fun z => if z = tapeV then some (.ref T) else if tapeS.contains z then u z else m₀ z) → News h₀ env.locals h [(T, listOf tvs.toArray n'), (H, listOf vs.toArray n)] → Q .next { s with heap := h, toks := tk }) :
    wpAny (model prog w) A (pyIter (.ref H)) (fun it s₂ => TurnsAt prog w A h₀ env target body Q E it s₂) E s := by
  have kf : ∀ {m₁ : Str → Option Value} {T : Addr} {h : Heap}, m₁ tapeV = some (.ref T) → (∀ z, z ≠ tapeV → tapeS.contains z = false → m₁ z = m₀ z) → Fr h₀ env.locals h m₁ → Fr h₀ env.locals h (kstB (fun z => if tapeS.contains z then m₁ z else m₀ z) [(tapeV, .ref T)]) := fun h1 h2 F => ksw_fr (fun p hp => by rw [List.mem_singleton.mp hp]; exact h1) (fun z hz hc => h2 z (hz _ (.head _)) hc) F
  refine for_list (fun pre m nx => TapeJ H (listOf vs.toArray n) m₀ ((ps.take pre.length).flatMap tapeF) m nx) hh F N (.tail _ (.head _)) ⟨T₀, [], n₀, rfl, hT, fun _ _ _ => rfl, .nil⟩ ?_ ?_
  · rintro I pre v post m₁ nx h tk o hI e ⟨T, tvs, n', rfl, h1, h2, h3⟩ ho F₁ N₁
    have hlen := hs.length
    have hp : pre.length < ps.length := by rw [← hlen, e]; simp
    obtain ⟨tc, ht⟩ := hs.get pre.length ps[pre.length] (List.getElem?_eq_getElem hp)
    have hv : v = .int ps[pre.length] tc := by
      rw [e] at ht
      simpa using ht
    subst hv
    obtain ⟨c0, c1⟩ := hr _ (List.getElem_mem hp)
    have el : (ps.take pre.length) ++ [ps[pre.length]] = ps.take (pre ++ [Value.int ps[pre.length] tc]).length := by
      rw [List.length_append, List.length_singleton, List.take_succ_eq_append_getElem hp]
    rw [← el]
    exact turn I (ps.take pre.length) _ (ps.drop (pre.length + 1)) tc T tvs n' m₁ h tk o c0 c1 (by rw [List.getElem_cons_drop, List.take_append_drop]) ho h3 (kf h1 h2 F₁) N₁
  · rintro m₁ nx h tk ⟨T, tvs, n', rfl, h1, h2, h3⟩ F₁ N₁
    rw [hs.length, List.take_length] at h3
    exact done T tvs n' m₁ h tk h3 (kf h1 h2 F₁) N₁
end
end
section
open PySem.Calls
noncomputable abbrev leftV : Str := Str.ofString "left"
noncomputable abbrev octV : Str := Str.ofString "octets"
noncomputable abbrev OS := Nat × Int × List Int × Tok × Addr × List Value × Nat
noncomputable def OP (p : Int) (c : OS) : Prop := 0 ≤ c.2.1 ∧ c.2.1 < 64 ^ c.1 ∧ c.2.2.1.length + c.1 ≤ 5 ∧ IntsAre c.2.2.2.2.2.1 c.2.2.1 ∧ octsG c.1 c.2.1 c.2.2.1 = octL p ∧ c.2.2.1 ≠ []
section
variable {prog : Program} {w : World} {A : Around} {E : Value → Shared → Prop} {s : Shared} {env : Env} {h₀ : Heap} {test : Expr} {body : List Stmt} {Q : Flow → Shared → Prop}
theorem oct_while {O₀ : Addr} {bk : List (Addr × Obj)} {p : Int} {t₀ t₁ : Tok} {n₀ : Nat} {m₀ : Str → Option Value} {pos : Pos} {L : Addr} (p0 : 0 ≤ p) (p1 : p < 1114112)
    (F : Fr h₀ L s.heap m₀) (N : News h₀ L s.heap ((O₀, listOf #[.int (p.fmod 64) t₁] n₀) :: bk)) (h1 : m₀ leftV = some (.int p t₀)) (h2 : m₀ octV = some (.ref O₀))
    (turn : ∀ f l os t O ovs n (u : Str → Option Value) h tk, 0 ≤ l → l < 64 ^ f → os.length + f ≤ 5 → IntsAre ovs os → octsG f l os = octL p → os ≠ [] →
      Fr h₀ L h (fun z => if z = leftV then some (.int l t) else if z = octV then some (.ref O) else if ([] : List Str).contains z then u z else m₀ z) → News h₀ L h ((O, listOf ovs.toArray n) :: bk) →
      wpAny (model prog w) A (isTrue test env (eval test env)) (fun b s₂ =>
        if b = true then wpAny (model prog w) A (execs body env) (KswPost h₀ L s (fun c : OS => (c.2.2.2.2.1, listOf c.2.2.2.2.2.1.toArray c.2.2.2.2.2.2) :: bk) (fun c => [(leftV, .int c.2.1 c.2.2.2.1), (octV, .ref c.2.2.2.2.1)]) (fun _ => True) [] m₀ (OP p) (fun c => c.1) Q (f, l, os, t, O, ovs, n)) E s₂ else Q .next s₂) E { s with heap := h, toks := tk })
    (hE : PassesOwn (model prog w) A env E := by passes_own) :
    wpAny (model prog w) A (exec (.While test body [] pos) env) Q E s := by
  refine ksw_while (σ := OS) (fun c => (c.2.2.2.2.1, listOf c.2.2.2.2.2.1.toArray c.2.2.2.2.2.2) :: bk) (fun c => [(leftV, .int c.2.1 c.2.2.2.1), (octV, .ref c.2.2.2.2.1)]) (fun _ => True) [] (OP p) (fun c => c.1) (4, p, [p.fmod 64], t₀, O₀, [.int (p.fmod 64) t₁], n₀) F N trivial ?_ ⟨p0, by show p < 64 ^ 4; omega, by show 1 + 4 ≤ 5; decide, .cons _ _ .nil, rfl, by simp⟩ ?_ hE
  · intro q hq
    simp only [List.mem_cons, List.not_mem_nil, or_false] at hq
    rcases hq with rfl | rfl
    · exact h1
    · exact h2
  · rintro ⟨f, l, os, t, O, ovs, n⟩ u h tk _ ⟨g1, g2, g3, g4, g5, g6⟩ F' N'
    exact turn f l os t O ovs n u h tk g1 g2 g3 g4 g5 g6 F' N'
end
theorem item_zero {prog : Program} {w : World} {A : Around} {E : Value → Shared → Prop} {s : Shared} {h₀ : Heap} {L l : Addr} {news : List (Addr × Obj)} {value slice : PySem.Expr} {vs : List Value} {v : Value} {n : Nat} {u : Tok} {Q : Value → Shared → Prop}
    (N : News h₀ L s.heap news) (hm : (l, listOf (v :: vs).toArray n) ∈ news) (hb : vs.length < 100) (h : Q v s)
    (hs : subscripted slice false (.ref l) (.int 0 u) = operate [.ref l, .int 0 u] (getItem (.ref l) (.int 0 u)) := by with_unfolding_all rfl) :
    wpAny (model prog w) A (subscriptTail value slice (.ref l) (.int 0 u)) Q E s := by
  have hl : s.heap.IsList l (v :: vs).toArray := ⟨_, (N _ hm).1, rfl, n, rfl⟩
  refine tail_any hl.typeIs slot_list_getitem.lookup (wpAny_getItem_list hl (by decide) (by decide) ?_ h) hs
  simp
theorem ints_cons {vs : List Value} {o : Int} {r : List Int} (h : IntsAre vs (o :: r)) : ∃ t us, vs = .int o t :: us ∧ IntsAre us r := by
  cases h with
  | cons _ t h => exact ⟨t, _, rfl, h⟩
theorem ol_len {us : List Value} {o : Int} {r : List Int} {f : Nat} (h : IntsAre us r) (hl : (o :: r).length + f ≤ 5) : us.length < 100 := by
  rw [h.length]; simp at hl; omega
theorem oct_turn {p l o : Int} {f n : Nat} {r : List Int} {ws : List Value} {t : Tok} {D : Addr} (h63 : 63 < l) (h1 : l < 64 ^ f) (hlen : (o :: r).length + f ≤ 5) (hoc : octsG f l (o :: r) = octL p) (hI : IntsAre ws ([(l.fdiv 64).fmod 64 + 64] ++ o :: r)) :
    OP p (f - 1, l.fdiv 64, ((l.fdiv 64).fmod 64 + 64) :: (o :: r), t, D, ws, n) ∧ f - 1 < f := by
  cases f with
  | zero => simp at h1; omega
  | succ k =>
    have e : l.fdiv 64 = l / 64 := Int.fdiv_eq_ediv_of_nonneg l (by decide)
    rw [octsG_go h63] at hoc
    refine ⟨⟨?_, ?_, ?_, hI, hoc, by simp⟩, Nat.lt_succ_self _⟩
    · show 0 ≤ l.fdiv 64
      rw [e]; omega
    · show l.fdiv 64 < 64 ^ k
      rw [e]
      rw [Int.pow_succ] at h1
      omega
    · show (((l.fdiv 64).fmod 64 + 64) :: o :: r).length + k ≤ 5
      simp only [List.length_cons] at hlen ⊢
      omega
theorem sub3 {x y z : Addr × Obj} {bk : List (Addr × Obj)} : ∀ p ∈ x :: bk, p ∈ x :: y :: z :: bk := by
  intro p hp
  rcases List.mem_cons.mp hp with rfl | hp
  · exact .head _
  · exact .tail _ (.tail _ (.tail _ hp))
theorem tape_end {h₀ h : Heap} {L I H D : Addr} {o : Obj} {x1 x2 x3 x4 x5 : Addr × Obj} {us vs : List Value} {k n : Nat} {ts : List Int} {m₀ m' : Str → Option Value} {s₁ : Shared} {tk : Nat} (F : Fr h₀ L h m') (N : News h₀ L h [(D, listOf us.toArray k), x1, x2, x3, x4, (I, o), x5, (H, listOf vs.toArray n)]) (ho : o.cls = .type "list_iterator") (hT : m' tapeV = some (.ref D)) (hm : ∀ z, z ≠ tapeV → tapeS.contains z = false → m' z = m₀ z) (hu : IntsAre us ts) :
    UnrEndW h₀ L s₁ [(I, o)] (fun m' n' => (H, listOf vs.toArray n) ∈ n' ∧ TapeJ H (listOf vs.toArray n) m₀ ts m' n') { s₁ with heap := h, toks := tk } := by
  refine t_end F N ho [(D, listOf us.toArray k), (H, listOf vs.toArray n)] (by simp) (fun p hp => ?_) (fun p hp => .inl ?_) (by simp) ⟨D, us, k, rfl, hT, hm, hu⟩
  · simp only [List.mem_cons, List.not_mem_nil, or_false] at hp
    rcases hp with rfl | rfl <;> simp
  · simp only [List.mem_cons, List.not_mem_nil, or_false] at hp
    rcases hp with rfl | rfl <;> exact fun e => by injection e with e; exact absurd e (by decide)
theorem tape_snoc {pre r : List Int} {c l o : Int} {f : Nat} {us : List Value} (hoc : octsG f l (o :: r) = octL c) (h : ¬ 63 < l) (hu : IntsAre us (pre.flatMap tapeF ++ [(o :: r).getD (Int.toNat 0) 0 + 128] ++ List.drop 1 (o :: r))) : IntsAre us ((pre ++ [c]).flatMap tapeF) := by
  rw [octsG_stop h] at hoc
  have e : tapeF c = (o + 128) :: r := by unfold tapeF; rw [← hoc]
  have e2 : (pre ++ [c]).flatMap tapeF = pre.flatMap tapeF ++ [(o :: r).getD (Int.toNat 0) 0 + 128] ++ List.drop 1 (o :: r) := by
    rw [List.flatMap_append]
    simp [e]
  rw [e2]
  exact hu
theorem newsL4 {h₀ h : Heap} {L H : Addr} {its : Array Value} {n : Nat} {news : List (Addr × Obj)} (N : News h₀ L h news) (hm : (H, listOf its n) ∈ news) : h.IsList H its := ⟨_, (N _ hm).1, rfl, n, rfl⟩
theorem cat_len1 {ps pre post : List Int} {c x : Int} (h9 : ps.length ≤ 9) (e : ps = pre ++ c :: post) : (pre.flatMap tapeF).length + [x].length ≤ sizeLine := by
  have h1 := tape_len pre
  have h2 : pre.length ≤ 9 := by rw [e] at h9; simp at h9; omega
  rw [sizeLine_eq]
  simp only [List.length_singleton]
  omega
theorem cat_len2 {ps pre post r : List Int} {c x o : Int} {f : Nat} (h9 : ps.length ≤ 9) (e : ps = pre ++ c :: post) (hl : (o :: r).length + f ≤ 5) : (pre.flatMap tapeF ++ [x]).length + r.length ≤ sizeLine := by
  have h1 := tape_len pre
  have h2 : pre.length ≤ 9 := by rw [e] at h9; simp at h9; omega
  rw [sizeLine_eq]
  simp only [List.length_append, List.length_nil, List.length_cons] at hl ⊢
  omega
set_option maxHeartbeats 4000000 in
theorem tape_spec {w : World} (H n : Nat) (vs : List Value) (ps : List Int) (hi : IntsAre vs ps) (hr : ∀ c ∈ ps, 0 ≤ c ∧ c < 1114112) (h9 : ps.length ≤ 9) : Spec 4 w 314 [.ref H] [(H, listOf vs.toArray n)] (fun _ v new => ∃ T tvs n', v = .ref T ∧ new = [(T, listOf tvs.toArray n'), (H, listOf vs.toArray n)] ∧ IntsAre tvs (ps.flatMap tapeF)) := by
  walk_at "m begin"
  have «stop exec For Name Name cons nil» := True.intro
  have «stop pyIter ref» := True.intro
  have «stop exec While» := True.intro
  have «stop subscriptTail» := True.intro
  have «stop binaryOp Add ref ref» := True.intro
  repeat' (first
    | ((with_reducible show StopK _ _); first
        | ((with_reducible refine goK "binaryOp Add ref ref" ?_); (rename Fr _ _ _ _ => lF'); (rename News _ _ _ _ => lN'); k_dflt (first | (refine' kmk_add_ints lF' lN' (newsL4 lN' ?hm) (newsL4 (its := (List.toArray [_])) lN' ?hm2) hts' (IntsAre.cons _ _ .nil) ?_ (cat_len1 h9 hps'); (case hm => k_mem); (case hm2 => k_mem)) | (refine' kmk_add_ints lF' lN' (newsL4 lN' ?hm) (newsL4 lN' ?hm2) hus' ?hj ?_ (cat_len2 (r := r9) h9 hps' hlen'); (case hm => k_mem); (case hm2 => k_mem); (case hj => assumption))); clear lF' lN'; intro D' us' h' F' N' l1 hus'; (try k_lt l1))
        | ((with_reducible refine goK "subscriptTail" ?_); (try dsimp only); (with_reducible show wpAny _ _ (subscriptTail _ _ (Value.ref _) (Value.int 0 _)) _ _ _); k_dflt (refine' item_zero ?k1 ?k2 (ol_len hov9 hlen') ?_ ?k7; (case k7 => with_unfolding_all rfl); (case k1 => assumption); (case k2 => k_mem)))
        | ((with_reducible refine goK "exec While" ?_); (rename Fr _ _ _ _ => lF'); (rename News _ _ _ _ => lN'); k_dflt (refine' oct_while hc0' hc1' lF' lN' ?h1 ?h2 ?_ ?hE; (case h1 => with_unfolding_all rfl); (case h2 => with_unfolding_all rfl); (case hE => first | passes_own | with_unfolding_all passes_own)); clear lF' lN'; intro f' l' os' t' O' ovs' on' v' h' tk' hl0' hl1' hlen' hov' hoc' hne' F' N'; obtain ⟨o9, r9, rfl⟩ := List.exists_cons_of_ne_nil hne'; obtain ⟨t9, us9, rfl, hov9⟩ := ints_cons hov')
        | ((with_reducible refine goK "pyIter ref" ?_); (with_reducible show wpAny _ _ (pyIter (Value.ref _)) (fun it s₂ => TurnsAt _ _ _ _ _ _ _ _ _ it s₂) _ _); (rename Fr _ _ _ _ => lF'); (rename News _ _ _ _ => lN'); k_dflt (refine' tape_loop (by assumption) hr rfl lF' lN' ?_ ?_ ?_; with_unfolding_all rfl; clear lF' lN'; intro I' pre' c' post' tc' T' tvs' n' u' h' tk' o' hc0' hc1' hps' ho' hts' F' N'; rotate_left 1; clear lF' lN'; intro T' tvs' n' u' h' tk' hts' F' N'; rotate_right 1))
        | ((with_reducible refine goK "exec For Name Name cons nil" ?_); (rename Fr _ _ _ _ => lF'); k_dflt (refine' For_turns lF' ?_))
        | ((with_reducible refine goK _ ?_); have noK9 := True.intro; walk_at "m step"; all_goals (try clear noK9)))
    | walk_at "m step")
  · rename News _ _ _ _ => lN8
    rename Fr _ _ _ _ => lF8
    refine' ksw_end (_, _, _, _, _, _, _) lF8 lN8 sub3 trivial (List.forall_mem_cons.mpr ⟨?x1, List.forall_mem_cons.mpr ⟨?x2, fun _ h => nomatch h⟩⟩) ?x3 (oct_turn (by assumption) hl1' hlen' hoc' (by assumption)).1 (oct_turn (n := 0) (t := 0) (D := 0) (by assumption) hl1' hlen' hoc' (by assumption)).2
    case x1 => with_unfolding_all rfl
    case x2 => with_unfolding_all rfl
    intro z hz _
    have a := hz _ (.head _)
    have b := hz _ (.tail _ (.head _))
    dsimp only at a b
    simp only [if_neg a, if_neg b, List.contains_nil, Bool.false_eq_true, if_false]
  · rename News _ _ _ _ => lN8
    rename Fr _ _ _ _ => lF8
    refine' tape_end lF8 lN8 ho' ?y1 ?y2 ?y3
    case y1 => with_unfolding_all rfl
    case y2 =>
      intro z a b
      have a1 : z ≠ Str.ofString "tape" := a
      have b1 : z ≠ Str.ofString "point" := by rintro rfl; exact absurd b (by decide)
      have b2 : z ≠ Str.ofString "left" := by rintro rfl; exact absurd b (by decide)
      have b3 : z ≠ Str.ofString "octets" := by rintro rfl; exact absurd b (by decide)
      simp only [if_neg a, if_neg a1, if_neg b1, if_neg b2, if_neg b3, b, List.contains_nil, Bool.false_eq_true, if_false]
    case y3 =>
      exact tape_snoc hoc' (by assumption) (by assumption)
  · exact hret _ _ _ _ ⟨_, _, _, rfl, rfl, hts'⟩ (by assumption) (by walk_at "m news") (by assumption) (by walk_at "m fresh")
end
section
open PySem.Calls
section
variable {prog : Program} {w : World} {A : Around} {E : Value → Shared → Prop} {s : Shared} {env : Env} {h₀ : Heap} {target : Expr} {body : List Stmt} {Q : Flow → Shared → Prop}
/-- a loop over enumerate of a list of the ledger -/
theorem enum_rest {I l : Addr} {lo : Obj} {vs : List Value} (J : Nat → (Str → Option Value) → List (Addr × Obj) → Prop)
    (turn : ∀ i v m₁ news₁ h tk T t oe oi, vs[i]? = some v → J i m₁ news₁ → oe.cls = .type "enumerate" → oi.cls = .type "list_iterator" → IsTup h T #[.int (i : Int) t, v] → Fr h₀ env.locals h m₁ → News h₀ env.locals h ((I + 1, oe) :: (I, oi) :: news₁) →
      wpAny (model prog w) A (assign target env (.ref T)) (fun _ s₂ => wpAny (model prog w) A (execs body env) (UnrPostW h₀ env.locals { s with heap := h, toks := tk } [(I + 1, oe), (I, oi)] (fun m' n' => (l, lo) ∈ n' ∧ J (i + 1) m' n') Q) E s₂) E { s with heap := h, toks := tk })
    (done : ∀ m₁ news₁ h tk, J vs.length m₁ news₁ → Fr h₀ env.locals h m₁ → News h₀ env.locals h news₁ → Q .next { s with heap := h, toks := tk }) :
    ∀ (post : List Value) (i : Nat) (m₁ : Str → Option Value) (news₁ : List (Addr × Obj)), vs.drop i = post → i ≤ vs.length → J i m₁ news₁ → ItemsRest prog w A E h₀ env target body Q s [(I + 1, "enumerate"), (I, "list_iterator")] [(l, lo)] (enumItems i post) m₁ news₁
  | [], i, m₁, news₁, e, hle, j => ItemsRest.zero fun h tk F N => done m₁ news₁ h tk (by
      have : i = vs.length := Nat.le_antisymm hle (List.drop_eq_nil_iff.mp e)
      rw [← this]; exact j) F N
  | v :: post, i, m₁, news₁, e, hle, j => ItemsRest.pair fun T t h tk hT F oe hoe oi hoi N => by
    have hv : vs[i]? = some v := by
      have := congrArg (·[0]?) e
      simpa using this
    have hlt : i < vs.length := (List.getElem?_eq_some_iff.mp hv).1
    have e' : vs.drop (i + 1) = post := by
      rw [← List.drop_drop, e]; rfl
    refine wpAny_mono (turn i v m₁ news₁ h tk T t oe oi hv j hoe hoi hT F N) (fun _ s₂ q => wpAny_mono q (fun f s₃ q => ?_) fun _ _ e => e) fun _ _ e => e
    have up : UnrEndW h₀ env.locals { s with heap := h, toks := tk } [(I + 1, oe), (I, oi)] (fun m' n' => (l, lo) ∈ n' ∧ J (i + 1) m' n') s₃ → UnrEndW h₀ env.locals { s with heap := h, toks := tk } [(I + 1, oe), (I, oi)] (fun m' n' => SubL [(l, lo)] n' ∧ ItemsRest prog w A E h₀ env target body Q s [(I + 1, "enumerate"), (I, "list_iterator")] [(l, lo)] (enumItems (i + 1) post) m' n') s₃ := by
      rintro ⟨h', tk', m', n', rfl, F', N', off, k, j'⟩
      exact ⟨h', tk', m', n', rfl, F', N', off, ⟨k, trivial⟩, enum_rest J turn done post (i + 1) m' n' e' hlt j'⟩
    cases f with
    | ret v => exact q
    | brk => exact q
    | next => exact up q
    | cont => exact up q
theorem enum_list {elts : List Expr} {c : Nat} {pos : Pos} {l : Addr} {n : Nat} {vs : List Value} {m₀ : Str → Option Value} {news : List (Addr × Obj)} (J : Nat → (Str → Option Value) → List (Addr × Obj) → Prop)
    (hh : A.handled = none) (F : Fr h₀ env.locals s.heap m₀) (N : News h₀ env.locals s.heap news) (hm : (l, listOf vs.toArray n) ∈ news) (j₀ : J 0 m₀ news)
    (turn : ∀ I i v m₁ news₁ h tk T t oe oi, (∀ p ∈ news, p.1 < I) → vs[i]? = some v → J i m₁ news₁ → oe.cls = .type "enumerate" → oi.cls = .type "list_iterator" → IsTup h T #[.int (i : Int) t, v] → Fr h₀ env.locals h m₁ → News h₀ env.locals h ((I + 1, oe) :: (I, oi) :: news₁) →
      wpAny (model prog w) A (assign (.Tuple elts c pos) env (.ref T)) (fun _ s₂ => wpAny (model prog w) A (execs body env) (UnrPostW h₀ env.locals { s with heap := h, toks := tk } [(I + 1, oe), (I, oi)] (fun m' n' => (l, listOf vs.toArray n) ∈ n' ∧ J (i + 1) m' n') Q) E s₂) E { s with heap := h, toks := tk })
    (done : ∀ m₁ news₁ h tk, J vs.length m₁ news₁ → Fr h₀ env.locals h m₁ → News h₀ env.locals h news₁ → Q .next { s with heap := h, toks := tk }) :
    wpAny (model prog w) A (call (.type "enumerate") [.ref l]) (fun xv s₁ => wpAny (model prog w) A (pyIter xv) (fun it s₂ => TurnsAt prog w A h₀ env (.Tuple elts c pos) body Q E it s₂) E s₁) E s :=
  ktu_enum hh F N hm rfl rfl rfl fun I hI => enum_rest J (fun i v m₁ news₁ h tk T t oe oi => turn I i v m₁ news₁ h tk T t oe oi hI) done vs 0 m₀ news rfl (Nat.zero_le _) j₀
end
end
section
open PySem.Calls
section
variable {prog : Program} {w : World} {A : Around} {E : Value → Shared → Prop} {s : Shared} {R : Result → Shared → Prop}
noncomputable abbrev two2 (elt t1 i1 t2 i2 : PySem.Expr) (scope : Scope) (pos : Pos) : PySem.Expr := .ListComp elt [⟨t1, i1, [], 0⟩, ⟨t2, i2, [], 0⟩] scope pos
theorem twoTurn1 (elt t1 i1 t2 i2 : PySem.Expr) (scope : Scope) (pos : Pos) (it acc : Value) (env : Env) : compTurn (two2 elt t1 i1 t2 i2 scope pos) 1 it acc env = (standAt i2.pos >>= fun _ => pyNext it >>= fun r => match r with
      | none => pure (.done .next)
      | some v => letOwnedTupleGo t2 it v >>= fun _ => assign t2 env v >>= fun _ =>
        (eval elt env >>= fun x => call (.builtin "list.append") [acc, x] >>= fun _ => pure ()) >>= fun _ => again (.compLoop (two2 elt t1 i1 t2 i2 scope pos) 1 it acc env)) := by rfl
theorem twoTurn0 (elt t1 i1 t2 i2 : PySem.Expr) (scope : Scope) (pos : Pos) (it acc : Value) (env : Env) : compTurn (two2 elt t1 i1 t2 i2 scope pos) 0 it acc env = (standAt i1.pos >>= fun _ => pyNext it >>= fun r => match r with
      | none => pure (.done .next)
      | some v => letOwnedTupleGo t1 it v >>= fun _ => assign t1 env v >>= fun _ =>
        eval i2 env >>= fun x => standAt i2.pos >>= fun _ => foldedSetIterable i2 env x >>= fun x => holding [x] (pyIter x) >>= fun it2 => runOwn (.compStart (two2 elt t1 i1 t2 i2 scope pos) 1 it2 acc env) env >>= fun _ =>
          again (.compLoop (two2 elt t1 i1 t2 i2 scope pos) 0 it acc env)) := by rfl
theorem two_start {elt t1 i1 t2 i2 : PySem.Expr} {scope : Scope} {pos : Pos} {it acc : Value} {env : Env}
    (h0 : codeAny (model prog w) A (.compLoop (two2 elt t1 i1 t2 i2 scope pos) 1 it acc env) R s)
    (h : wpAny (model prog w) A (pyIter it) (fun it' s' => codeAny (model prog w) A (.compLoop (two2 elt t1 i1 t2 i2 scope pos) 1 it' acc env) R s')
      (notedBy (model prog w) A env fun x s' => R (.error x) s') s) :
    codeAny (model prog w) A (.compStart (two2 elt t1 i1 t2 i2 scope pos) 1 it acc env) R s := by
  refine codeAny_of_tree ?_
  show wpAny _ _ ((compStart (two2 elt t1 i1 t2 i2 scope pos) 1 it acc env).onRaise (fun x => do noteFrame x env; standAt theWindowsPlace)) _ _ s
  refine wpAny_notedAt ?_
  unfold compStart
  show wpAny _ _ (ask >>= _) _ _ s
  refine wpAny_bind (wpAny_askSetting (wpAny_ite ?_))
  split
  · first
      | exact wpAny_bind (wpAny_pure (wpAny_pure (And.intro rfl h0)))
      | exact wpAny_pure (And.intro rfl h0)
  · first
      | exact wpAny_bind (wpAny_rule (wpAny_bind (wpAny_standAt (wpAny_bind (wpAny_mono h (fun it' s' h' => wpAny_pure (And.intro rfl h')) fun _ _ x => x)))))
      | (refine wpAny_bind (wpAny_rule ?_); show wpAny _ _ (standAt i2.pos >>= _) _ _ s; exact wpAny_bind (wpAny_standAt (wpAny_bind (wpAny_mono h (fun it' s' h' => wpAny_pure (And.intro rfl h')) fun _ _ x => x))))
theorem two_inner {I2 ax C D : Addr} {x y : Str} {elt i1 i2 : PySem.Expr} {px py : Pos} {scope : Scope} {cl : List (Str × Addr)} {pos : Pos} {env : Env} {its : Array Value} {cs zs : List Int} {i : Int} {ti : Tok} {f : Int → Int → Int} {ys : List Value} {m : Str → Option Value}
    (hh : A.handled = none) (hkind : scope.kind = .function) (hy : scope.names.lookup y = some .local) (hxy : x ≠ y) (hci : IntsAre its.toList cs)
    (hel : ∀ (s' : Shared) m' c tc (Q : Value → Shared → Prop) (E : Value → Shared → Prop), s'.heap.Ns C m' → m' x = some (.int i ti) → m' y = some (.int c tc) → c ∈ cs → (∀ t tk, Q (.int (f i c) t) { s' with toks := tk }) → wpAny (model prog w) A (eval elt (compEnvC scope cl C env)) Q E s')
    (n1 : ax ≠ I2) (n2 : C ≠ I2) (n3 : D ≠ I2) (n4 : C ≠ D) (n5 : ax ≠ C) (n6 : ax ≠ D) (hsz : zs.length + its.size ≤ sizeLine)
    (hit : s.heap.IsListIter I2 ax 0) (hl : s.heap.IsList ax its) (hD : s.heap.get? D = some (LCg.lst ys)) (hn : s.heap.Ns C m) (hx : m x = some (.int i ti)) (hI : IntsAre ys zs)
    (done : ∀ h' tk ys' m', (∀ b o, b ≠ I2 → b ≠ C → b ≠ D → s.heap.get? b = some o → h'.get? b = some o) → h'.get? D = some (LCg.lst ys') → h'.Ns C m' → IntsAre ys' (zs ++ cs.map (f i)) → R (.ok .next) { s with heap := h', toks := tk }) :
    codeAny (model prog w) A (.compLoop (two2 elt (.Name x px) i1 (.Name y py) i2 scope pos) 1 (.ref I2) (.ref D) (compEnvC scope cl C env)) R s := by
  have W := Walks.list (prog := prog) (w := w) (A := A) hh I2 ax n1 its
  have hcl := hci.length
  have hsl : its.toList.length = its.size := Array.length_toList
  refine codeAny_loop rfl (fun k s' => ∃ h' tk j ys' m', s' = { s with heap := h', toks := tk } ∧ j ≤ its.size ∧ k = its.size + 1 - j ∧ (h'.IsListIter I2 ax j ∧ h'.IsList ax its) ∧ (∀ b o, b ≠ I2 → b ≠ C → b ≠ D → s.heap.get? b = some o → h'.get? b = some o) ∧ h'.get? D = some (LCg.lst ys') ∧ h'.Ns C m' ∧ m' x = some (.int i ti) ∧ IntsAre ys' (zs ++ (cs.take j).map (f i))) (fun k s' hK => ?_) (its.size + 1) ⟨s.heap, s.toks, 0, ys, m, rfl, Nat.zero_le _, rfl, ⟨hit, hl⟩, fun b o _ _ _ e => e, hD, hn, hx, by simpa using hI⟩
  obtain ⟨h', tk, j, ys', m', rfl, hj, rfl, st, old, hD', hn', hx', hI'⟩ := hK
  show wpAny _ A ((compTurn (two2 elt (.Name x px) i1 (.Name y py) i2 scope pos) 1 (.ref I2) (.ref D) (compEnvC scope cl C env)).onRaise (fun x => do noteFrame x (compEnvC scope cl C env); theTreesLotGoes x)) _ _ _
  refine wpAny_noted ?_
  rw [twoTurn1]
  refine wpAny_bind (wpAny_standAt (wpAny_bind ?_))
  by_cases hlt : j < its.size
  · refine W.item j _ _ _ hlt st fun v h₂ tk₂ hPv st₂ hk₂ => ?_
    have hjc : j < cs.length := by omega
    obtain ⟨tc, htc⟩ := hci.get j cs[j] (List.getElem?_eq_getElem hjc)
    have hv : v = .int cs[j] tc := by
      rw [Array.getElem?_toList] at htc
      exact Option.some.inj (hPv.symm.trans htc)
    subst hv
    refine wpAny_bind (wpAny_pure (wpAny_bind ?_))
    refine wpAny_assign_Name (wpAny_storeName_local (lookup_relabel_local hy) (hn'.at' fun o e => hk₂ _ o (by simpa using n2) e) (fun h₃ hn₃ hs₃ => ?_) (by simp [compEnvC, relabel, hkind]))
    have hs₃' : Heap.SameBut C h₂ h₃ := hs₃
    refine wpAny_bind (wpAny_bind ?_)
    refine hel _ _ cs[j] tc _ _ hn₃ (by simpa [hxy] using hx') (by simp) (List.getElem_mem hjc) fun t tk₃ => ?_
    have hD₃ : h₃.get? D = some (LCg.lst ys') := hs₃'.extBut _ _ (Ne.symm n4) (hk₂ _ _ (by simpa using n3) hD')
    have len : ys'.length ≤ sizeLine := by
      rw [hI'.length]
      simp only [List.length_append, List.length_map, List.length_take]
      omega
    refine wpAny_bind (append_at (hsz := by show ys'.toArray.size ≤ sizeLine; rw [List.size_toArray]; exact len) hD₃ fun h₄ hs₄ hD₄ => wpAny_pure (wpAny_pure ⟨rfl, its.size + 1 - (j + 1), by omega, h₄, _, j + 1, ys' ++ [.int (f i cs[j]) t], (fun z => if z = y then some (.int cs[j] tc) else m' z), rfl, hlt, rfl, ?_, ?_, ?_, ?_, ?_, ?_⟩))
    · exact W.frame _ _ _ st₂ fun b hb o e => by
        have hb' : b = I2 ∨ b = ax := by simpa using hb
        refine hs₄.extBut _ _ ?_ (hs₃'.extBut _ _ ?_ e)
        · rcases hb' with rfl | rfl
          · exact Ne.symm n3
          · exact n6
        · rcases hb' with rfl | rfl
          · exact Ne.symm n2
          · exact n5
    · intro b o b1 b2 b3 e
      exact hs₄.extBut _ _ b3 (hs₃'.extBut _ _ b2 (hk₂ _ _ (by simpa using b1) (old b o b1 b2 b3 e)))
    · rw [hD₄]; simp [LCg.lst]
    · exact hn₃.sameBut hs₄ n4
    · simpa [hxy] using hx'
    · rw [List.take_succ_eq_append_getElem hjc, List.map_append, ← List.append_assoc]
      exact hI'.append (.cons _ _ .nil)
  · obtain rfl : j = its.size := Nat.le_antisymm hj (Nat.not_lt.mp hlt)
    refine W.done _ _ _ st fun h₂ tk₂ hk₂ => ?_
    refine wpAny_pure (done h₂ tk₂ ys' m' (fun b o b1 b2 b3 e => hk₂ _ _ (by simpa using b1) (old b o b1 b2 b3 e)) (hk₂ _ _ (by simpa using n3) hD') (hn'.at' fun o e => hk₂ _ o (by simpa using n2) e) ?_)
    have : cs.take its.size = cs := List.take_of_length_le (by omega)
    rw [this] at hI'
    exact hI'
theorem flen {cs : List Int} {f : Int → Int → Int} : ∀ l : List Int, (l.flatMap fun i => cs.map (f i)).length = l.length * cs.length
  | [] => by simp
  | a :: l => by rw [List.flatMap_cons, List.length_append, flen l, List.length_map, List.length_cons, Nat.succ_mul, Nat.add_comm]
theorem lsz {h : Heap} {b : Addr} {o : Obj} (e : h.get? b = some o) : @LT.lt Nat _ b h.objs.size := Heap.lt_size e
theorem na {a b : Nat} (h : a < b ∨ b < a) : @Ne Addr a b := fun e => by
  have e : (a : Nat) = b := e
  omega
theorem two_outer {x y : Str} {elt i1 i2 : PySem.Expr} {px py : Pos} {scope : Scope} {cl : List (Str × Addr)} {pos : Pos} {env : Env} {cs : List Int} {f : Int → Int → Int} {r : Addr} {b : Int} {n : Nat} {t u v : Tok} {Q : Value → Shared → Prop}
    (hh : A.handled = none) (hcell : ∀ y ∈ scope.names, y.2 ≠ .cell) (hkind : scope.kind = .function) (hx : scope.names.lookup x = some .local) (hy : scope.names.lookup y = some .local) (hxy : x ≠ y)
    (hfold : ∀ C v, foldedSetIterable i2 (compEnvC scope cl C env) v = pure v)
    (hi2 : ∀ C (s' : Shared) (Q : Value → Shared → Prop) (E : Value → Shared → Prop), (∀ (its : Array Value) tk, IntsAre its.toList cs → Q (.ref s'.heap.objs.size) { s' with heap := s'.heap.push { cls := .type "list", data := .seq its }, toks := tk }) → wpAny (model prog w) A (eval i2 (compEnvC scope cl C env)) Q E s')
    (hel : ∀ C (s' : Shared) m' i ti c tc (Q : Value → Shared → Prop) (E : Value → Shared → Prop), 0 ≤ i → i < n → s'.heap.Ns C m' → m' x = some (.int i ti) → m' y = some (.int c tc) → c ∈ cs → (∀ t tk, Q (.int (f i c) t) { s' with toks := tk }) → wpAny (model prog w) A (eval elt (compEnvC scope cl C env)) Q E s')
    (hr : IsRange s.heap r 0 b 1 t u v) (hsm : Builtin.Range.small 0 b 1 = true) (hn : Builtin.Range.rangeSize 0 b 1 = ((n : Nat) : Int)) (hsz : (n + 1) * cs.length ≤ sizeLine)
    (done : ∀ h' tk D ys, (∀ b o, s.heap.get? b = some o → h'.get? b = some o) → h'.get? D = some (LCg.lst ys) → s.heap.objs.size ≤ D → IntsAre ys ((rangeKs 0 n).flatMap fun i => cs.map (f i)) → Q (.ref D) { s with heap := h', toks := tk }) :
    wpAny (model prog w) A (pyIter (.ref r)) (fun it s₂ => wpAny (model prog w) A (newList []) (fun acc s₃ => wpAny (model prog w) A (newFunctionEnv scope env.globals cl [] env.qual none .none (some env)) (fun cenv s₄ =>
      codeAny (model prog w) A (.compStart (two2 elt (.Name x px) i1 (.Name y py) i2 scope pos) 0 it acc { cenv with scope := relabel scope env }) (compPost (model prog w) A E none Q acc cenv.locals) s₄) E s₃) E s₂) E s := by
  refine wpAny_pyIter_range hr hsm ?_
  have oldI : ∀ b o, s.heap.get? b = some o → b ≠ s.heap.objs.size := fun b o e => Nat.ne_of_lt (Heap.lt_size e)
  generalize hI : s.heap.objs.size = I at oldI ⊢
  generalize hH1 : s.heap.push { cls := .type "range_iterator", data := .fields #[rawInt 0, rawInt (Builtin.Range.rangeSize 0 b 1), rawInt 1] } = H1
  have hH1s : H1.objs.size = I + 1 := by rw [← hH1, Heap.size_push, hI]
  have hH1k : ∀ b o, s.heap.get? b = some o → H1.get? b = some o := fun b o e => by rw [← hH1]; exact Heap.get?_push_of_some _ e
  have hH1I : IsRangeIter H1 I (0 + (0 : Nat) * 1) ((n : Int) - (0 : Nat)) 1 := by
    rw [← hH1, ← hI, hn]
    simpa using Heap.get?_push_size _ rfl
  refine wpAny_newObj_type (wpAny_newFunctionEnv hcell (by intro y hy; simp at hy) (fun h₁ hns₁ hsb₁ => ?_) hkind)
  dsimp only at hns₁ hsb₁ ⊢
  generalize hH2 : H1.push { cls := .type "list", dict := none, data := .seq ([] : List Value).toArray } = H2 at hns₁ hsb₁ ⊢
  rw [hH1s]
  have hC : H2.objs.size = I + 2 := by rw [← hH2, Heap.size_push, hH1s]
  rw [hC] at hns₁ hsb₁ ⊢
  have keep1 : ∀ b o, H1.get? b = some o → b ≠ I + 2 → h₁.get? b = some o := fun b o e ne => hsb₁.extBut b o ne (Heap.get?_push_of_some _ (hH2 ▸ Heap.get?_push_of_some _ e))
  have hD : h₁.get? (I + 1) = some (LCg.lst []) := hsb₁.extBut _ _ (na (by walk_at "m ne9")) (Heap.get?_push_of_some _ (by rw [← hH2, ← hH1s]; exact Heap.get?_push_size _ rfl))
  have hIt : IsRangeIter h₁ I (0 + (0 : Nat) * 1) ((n : Int) - (0 : Nat)) 1 := keep1 _ _ hH1I (na (by walk_at "m ne9"))
  have old₁ : ∀ b o, s.heap.get? b = some o → h₁.get? b = some o := fun b o e => keep1 b o (hH1k b o e) (by have := lsz e; rw [hI] at this; exact na (by walk_at "m ne9"))
  have W := LCg.range_walks (prog := prog) (w := w) (A := A) (I := I) hh 0 n
  have loop : ∀ s₃ : Shared, (∃ tk, s₃ = { s with heap := h₁, toks := tk }) →
      codeAny (model prog w) A (.compLoop (two2 elt (.Name x px) i1 (.Name y py) i2 scope pos) 0 (.ref I) (.ref (I + 1)) (compEnvC scope cl (I + 2) env)) (compPost (model prog w) A E none Q (.ref (I + 1)) (I + 2)) s₃ := by
    rintro s₃ ⟨tk₀, rfl⟩
    refine codeAny_loop rfl (fun k s' => ∃ h' tk i ys m', s' = { s with heap := h', toks := tk } ∧ i ≤ n ∧ k = n + 1 - i ∧ IsRangeIter h' I (0 + (i : Nat) * 1) ((n : Int) - (i : Nat)) 1 ∧ (∀ b o, s.heap.get? b = some o → h'.get? b = some o) ∧ h'.get? (I + 1) = some (LCg.lst ys) ∧ h'.Ns (I + 2) m' ∧ IntsAre ys ((rangeKs 0 i).flatMap fun i => cs.map (f i))) (fun k s' hK => ?_) (n + 1) ⟨h₁, tk₀, 0, [], _, rfl, Nat.zero_le _, rfl, hIt, old₁, hD, hns₁, .nil⟩
    obtain ⟨h', tk, i, ys, m', rfl, hi, rfl, st, old, hD', hn', hI'⟩ := hK
    show wpAny _ A ((compTurn (two2 elt (.Name x px) i1 (.Name y py) i2 scope pos) 0 (.ref I) (.ref (I + 1)) (compEnvC scope cl (I + 2) env)).onRaise (fun x => do noteFrame x (compEnvC scope cl (I + 2) env); theTreesLotGoes x)) _ _ _
    refine wpAny_noted ?_
    rw [twoTurn0]
    refine wpAny_bind (wpAny_standAt (wpAny_bind ?_))
    by_cases hlt : i < n
    · refine W.item i _ _ _ hlt st fun v h₂ tk₂ hPv st₂ hk₂ => ?_
      obtain ⟨ti, rfl⟩ := hPv
      have e0 : (0 : Int) + (i : Int) = (i : Int) := by omega
      rw [e0]
      have hk₂' : ∀ b o, b ≠ I → h'.get? b = some o → h₂.get? b = some o := fun b o hb e => hk₂ b o (by simpa using hb) e
      refine wpAny_bind (wpAny_pure (wpAny_bind ?_))
      refine wpAny_assign_Name (wpAny_storeName_local (lookup_relabel_local hx) (hn'.at' fun o e => hk₂' _ o (na (by walk_at "m ne9")) e) (fun h₃ hn₃ hs₃ => ?_) (by simp [compEnvC, relabel, hkind]))
      have hs₃' : Heap.SameBut (I + 2) h₂ h₃ := hs₃
      refine wpAny_bind (hi2 _ _ _ _ fun its tk₃ hits => ?_)
      refine wpAny_bind (wpAny_standAt (wpAny_bind (wpAny_of_eq (hfold _ _) (wpAny_bind (wpAny_holding ?_)))))
      dsimp only
      have st₃ : IsRangeIter h₃ I (0 + ((i + 1 : Nat) : Int) * 1) ((n : Int) - ((i + 1 : Nat) : Int)) 1 := W.frame _ _ _ st₂ fun b hb o e => hs₃'.extBut _ _ (by rw [List.mem_singleton.mp hb]; exact na (by walk_at "m ne9")) e
      have hD₃ : h₃.get? (I + 1) = some (LCg.lst ys) := hs₃'.extBut _ _ (na (by walk_at "m ne9")) (hk₂' _ _ (na (by walk_at "m ne9")) hD')
      generalize hax : h₃.objs.size = ax
      generalize hH4 : h₃.push { cls := .type "list", data := .seq its } = H4
      have hl4 : H4.IsList ax its := by rw [← hH4, ← hax]; exact ⟨_, Heap.get?_push_size _ rfl, rfl, _, rfl⟩
      have k4 : ∀ b o, h₃.get? b = some o → H4.get? b = some o := fun b o e => by rw [← hH4]; exact Heap.get?_push_of_some _ e
      have s4 : H4.objs.size = ax + 1 := by rw [← hH4, Heap.size_push, hax]
      refine wpAny_pyIter_list hl4 ?_
      dsimp only
      generalize hH5 : H4.push { cls := .type "list_iterator", data := .fields #[.ref ax, .int 0 0] } = H5
      rw [s4]
      have k5 : ∀ b o, H4.get? b = some o → H5.get? b = some o := fun b o e => by rw [← hH5]; exact Heap.get?_push_of_some _ e
      have hit5 : H5.IsListIter (ax + 1) ax 0 := by rw [← hH5, ← s4]; exact ⟨_, Heap.get?_push_size _ rfl, rfl, rfl⟩
      have bD : I + 1 < ax := by have := lsz hD₃; rw [hax] at this; exact this
      have bC : I + 2 < ax := by have := hn₃.lt; have e : (compEnvC scope cl (I + 2) env).locals = I + 2 := rfl; rw [e] at this; rw [← hax]; exact this
      have hn5 : H5.Ns (I + 2) (fun z => if z = x then some (.int (i : Int) ti) else m' z) := hn₃.at' fun o e => k5 _ _ (k4 _ _ e)
      have hD5 : H5.get? (I + 1) = some (LCg.lst ys) := k5 _ _ (k4 _ _ hD₃)
      have hl5 : H5.IsList ax its := hl4.at fun o e => k5 _ _ e
      have hyl := hI'.length
      have hits' := hits.length
      have hfl : ((rangeKs 0 i).flatMap fun i => cs.map (f i)).length = i * cs.length := by
        rw [flen, rangeKs_length]
      have hsz' : ((rangeKs 0 i).flatMap fun i => cs.map (f i)).length + its.size ≤ sizeLine := by
        rw [hfl]
        have e1 : its.size = cs.length := by rw [← hits', Array.length_toList]
        rw [e1, ← Nat.succ_mul]
        exact Nat.le_trans (Nat.mul_le_mul_right _ (by omega)) hsz
      refine wpAny_bind (wpAny_mono (Q := fun (_ : Flow) s' => ∃ m, m < n + 1 - i ∧ ∃ h' tk i ys m', s' = { s with heap := h', toks := tk } ∧ i ≤ n ∧ m = n + 1 - i ∧ IsRangeIter h' I (0 + (i : Nat) * 1) ((n : Int) - (i : Nat)) 1 ∧ (∀ b o, s.heap.get? b = some o → h'.get? b = some o) ∧ h'.get? (I + 1) = some (LCg.lst ys) ∧ h'.Ns (I + 2) m' ∧ IntsAre ys ((rangeKs 0 i).flatMap fun i => cs.map (f i))) (E := fun _ _ => False) ?_ (fun _ s' hK => wpAny_pure ⟨rfl, hK⟩) (fun _ _ x => x.elim))
      show wpAny _ A ((run (.compStart (two2 elt (.Name x px) i1 (.Name y py) i2 scope pos) 1 (.ref (ax + 1)) (.ref (I + 1)) (compEnvC scope cl (I + 2) env)) none).onRaise _) _ _ _
      refine wpAny_onRaise (wpAny_run (h := none) (codeAny_mono (?_ : codeAny (model prog w) A _ (fun r s' => ∃ fl, r = .ok fl ∧ ∃ m, m < n + 1 - i ∧ ∃ h' tk i ys m', s' = { s with heap := h', toks := tk } ∧ i ≤ n ∧ m = n + 1 - i ∧ IsRangeIter h' I (0 + (i : Nat) * 1) ((n : Int) - (i : Nat)) 1 ∧ (∀ b o, s.heap.get? b = some o → h'.get? b = some o) ∧ h'.get? (I + 1) = some (LCg.lst ys) ∧ h'.Ns (I + 2) m' ∧ IntsAre ys ((rangeKs 0 i).flatMap fun i => cs.map (f i))) _) fun r s' hR => by
        obtain ⟨fl, rfl, hK⟩ := hR
        exact hK))
      · have inner : codeAny (model prog w) A (.compLoop (two2 elt (.Name x px) i1 (.Name y py) i2 scope pos) 1 (.ref (ax + 1)) (.ref (I + 1)) (compEnvC scope cl (I + 2) env)) (fun r s' => ∃ fl, r = .ok fl ∧ ∃ m, m < n + 1 - i ∧ ∃ h' tk i ys m', s' = { s with heap := h', toks := tk } ∧ i ≤ n ∧ m = n + 1 - i ∧ IsRangeIter h' I (0 + (i : Nat) * 1) ((n : Int) - (i : Nat)) 1 ∧ (∀ b o, s.heap.get? b = some o → h'.get? b = some o) ∧ h'.get? (I + 1) = some (LCg.lst ys) ∧ h'.Ns (I + 2) m' ∧ IntsAre ys ((rangeKs 0 i).flatMap fun i => cs.map (f i))) { s with heap := H5, toks := tk₃ } := by
          refine two_inner (I2 := ax + 1) (ax := ax) (C := I + 2) (D := I + 1) (its := its) (cs := cs) (i := (i : Int)) (ti := ti) (f := f) hh hkind hy hxy hits (fun s' m' c tc Q E h1 h2 h3 h4 h5 => hel _ s' m' _ _ c tc Q E (by omega) (by omega) h1 h2 h3 h4 h5)
            (na (by walk_at "m ne9")) (na (by walk_at "m ne9")) (na (by walk_at "m ne9")) (na (by walk_at "m ne9")) (na (by walk_at "m ne9")) (na (by walk_at "m ne9")) hsz' hit5 hl5 hD5 hn5 (by simp) hI' fun h₆ tk₆ ys₆ m₆ k6 hD6 hn6 hI6 => ?_
          refine ⟨_, rfl, n + 1 - (i + 1), by omega, h₆, tk₆, i + 1, ys₆, m₆, rfl, hlt, rfl, ?_, ?_, hD6, hn6, ?_⟩
          · exact k6 _ _ (na (by walk_at "m ne9")) (na (by walk_at "m ne9")) (na (by walk_at "m ne9")) (k5 _ _ (k4 _ _ st₃))
          · intro b o e
            have hb := lsz e
            rw [hI] at hb
            exact k6 _ _ (na (by walk_at "m ne9")) (na (by walk_at "m ne9")) (na (by walk_at "m ne9")) (k5 _ _ (k4 _ _ (hs₃'.extBut _ _ (na (by walk_at "m ne9")) (hk₂' _ _ (na (by walk_at "m ne9")) (old b o e)))))
          · have e : rangeKs 0 (i + 1) = rangeKs 0 i ++ [(i : Int)] := by
              unfold rangeKs
              rw [List.range_succ, List.map_append]
              simp
            rw [e, List.flatMap_append]
            simpa using hI6
        exact two_start inner (wpAny_pyIter_listiter hit5 inner)
    · obtain rfl : i = n := Nat.le_antisymm hi (Nat.not_lt.mp hlt)
      refine W.done _ _ _ st fun h₂ tk₂ hk₂ => ?_
      have hk₂' : ∀ b o, b ≠ I → h'.get? b = some o → h₂.get? b = some o := fun b o hb e => hk₂ b o (by simpa using hb) e
      refine wpAny_pure ⟨m', hn'.at' fun o e => hk₂' _ o (na (by walk_at "m ne9")) e, fun h'' hs'' => done h'' _ (I + 1) ys (fun b o e => ?_) ?_ (by omega) hI'⟩
      · have hb := lsz e
        rw [hI] at hb
        exact hs''.extBut _ _ (na (by walk_at "m ne9")) (hk₂' _ _ (na (by walk_at "m ne9")) (old b o e))
      · exact hs''.extBut _ _ (na (by walk_at "m ne9")) (hk₂' _ _ (na (by walk_at "m ne9")) hD')
  exact codeAny_compStart_list (loop _ ⟨_, rfl⟩) (W.self 0 _ _ _ hIt (loop _ ⟨_, rfl⟩))
noncomputable def planesL : List Int := (rangeKs 0 17).flatMap fun i => [65534, 65535].map fun c => 65536 * i + c
noncomputable def PlSrc (A : Around) (h₀ : Heap) (L : Addr) (m : Str → Option Value) (Q : Value → Shared → Prop) (xv : Value) (s₁ : Shared) : Prop :=
  ∃ r t u v news, xv = .ref r ∧ A.handled = none ∧ Fr h₀ L s₁.heap m ∧ News h₀ L s₁.heap news ∧ IsRange s₁.heap r 0 17 1 t u v ∧
    ∀ D us h' tk, Fr h₀ L h' m → News h₀ L h' ((D, listOf us.toArray us.length) :: news) → (∀ p ∈ news, p.1 < D) → IntsAre us planesL → Q (.ref D) { s₁ with heap := h', toks := tk }
theorem PlSrc.intro {h₀ : Heap} {L r : Addr} {m : Str → Option Value} {news : List (Addr × Obj)} {t u v : Tok} {Q : Value → Shared → Prop} (hh : A.handled = none) (F : Fr h₀ L s.heap m) (N : News h₀ L s.heap news) (hr : IsRange s.heap r 0 17 1 t u v)
    (h : ∀ D us h' tk, Fr h₀ L h' m → News h₀ L h' ((D, listOf us.toArray us.length) :: news) → (∀ p ∈ news, p.1 < D) → IntsAre us planesL → Q (.ref D) { s with heap := h', toks := tk }) : PlSrc A h₀ L m Q (.ref r) s := ⟨r, t, u, v, news, rfl, hh, F, N, hr, h⟩
theorem planes_comp {x y : Str} {i1 : PySem.Expr} {px py q1 q2 q3 q4 q5 r1 r2 r3 : Pos} {k1 k2 k3 : Nat} {scope : Scope} {cl : List (Str × Addr)} {pos : Pos} {env : Env} {h₀ : Heap} {L : Addr} {m : Str → Option Value} {Q : Value → Shared → Prop} (F₀ : Fr h₀ L s.heap m)
    (hclos : closureFor scope env = pure cl) (hcell : ∀ y ∈ scope.names, y.2 ≠ .cell) (hkind : scope.kind = .function) (hnames : ∀ y ∈ scope.names, y.2 = .local → scope.names.lookup y.1 = some .local) (hx : scope.names.lookup x = some .local) (hy : scope.names.lookup y = some .local) (hxy : x ≠ y)
    (bx : (x == ("__debug__" : Str)) = false) (bY : (y == ("__debug__" : Str)) = false)
    (h : wpAny (model prog w) A (eval i1 env) (PlSrc A h₀ L m Q) E s) (hs : ∀ v, foldedSetIterable i1 env v = pure v := by intro _; rfl) :
    wpAny (model prog w) A (eval (two2 (.BinOp (.BinOp (.Constant (.int 65536) k1 q1) .Mult (.Name x q2) q3) .Add (.Name y q4) q5) (.Name x px) i1 (.Name y py) (.List [.Constant (.int 65534) k2 r1, .Constant (.int 65535) k3 r2] r3) scope pos) env) Q E s := by
  rw [eval_ListComp]
  refine wpAny_comprehension_free (use := none) rfl hs hclos hkind hnames (wpAny_mono h (fun xv s₁ h₁ => ?_) fun _ _ e => e)
  obtain ⟨r, t, u, v, news, rfl, hh, F, N, hr, hQ⟩ := h₁
  refine two_outer (n := 17) (cs := [65534, 65535]) (f := fun i c => 65536 * i + c) hh hcell hkind hx hy hxy (fun C v => rfl) (fun C s' Q E hq => ?_) (fun C s' m' i ti c tc Q E h0 h1 hn hxm hym hc hq => ?_) hr rfl rfl (by rw [sizeLine_eq]; decide) fun h' tk D ys k hD hle hI => ?_
  · refine List_ (spliced_more (wpAny_Constant_int (spliced_more (wpAny_Constant_int (spliced_none (wpAny_newObj_type (hq _ _ (.cons _ _ (.cons _ _ .nil))))))))) 
  · have hk : (compEnvC scope cl C env).scope.kind = .function := hkind
    refine wpAny_BinOp (wpAny_BinOp (wpAny_Constant_int (wpAny_Name (wpAny_loadName_local hk (lookup_relabel_local hx) hn hxm ?_) bx)))
    refine PyProof.Rows.mul_int ?_ ?_
    · refine wpAny_Name (wpAny_loadName_local hk (lookup_relabel_local hy) hn hym ?_) bY
      exact PyProof.Rows.add_int (hq _ _)
    · exact IntMulOk.of_left (by decide +kernel)
  · refine hQ D ys h' tk (F.keeps k) (fun p hp => ?_) (fun p hp => ?_) hI
    · rcases List.mem_cons.mp hp with rfl | hp
      · refine ⟨hD, fun e => ?_, ?_⟩
        · have := F.ns.lt
          have e' : (D : Nat) = L := e
          have : @LT.lt Nat _ L s₁.heap.objs.size := this
          omega
        · cases q : h₀.get? D with
          | none => rfl
          | some o =>
            have := lsz (F.keep _ _ q)
            omega
      · exact ⟨k _ _ (N p hp).1, (N p hp).2⟩
    · have := lsz (N p hp).1
      exact (show @LT.lt Nat _ p.1 D by omega)
end
end
section
open PySem.Calls
section
variable {w : World} {A : Around} {g : Heap} {L : Addr} {m : Str → Option Value} {env : Env}
structure Ev (w : World) (A : Around) (g : Heap) (L : Addr) (m : Str → Option Value) (env : Env) (e : PySem.Expr) (ns : List Int) : Prop where
  run : ∀ (s : Shared) (Q E : Value → Shared → Prop) (news : List (Addr × Obj)), Fr g L s.heap m → News g L s.heap news →
    (∀ P us c h' tk, Fr g L h' m → News g L h' ((P, listOf us.toArray c) :: news) → (∀ p ∈ news, p.1 < P) → IntsAre us ns → Q (.ref P) { s with heap := h', toks := tk }) → wpAny (model pw w) A (eval e env) Q E s
inductive CInts : List PySem.Expr → List Int → Prop
  | nil : CInts [] []
  | cons {i : Int} {k : Nat} {p : Pos} {r : List PySem.Expr} {ms : List Int} : CInts r ms → CInts (.Constant (.int i) k p :: r) (i :: ms)
theorem spl_ints {pos : Pos} {elts : List PySem.Expr} {ns : List Int} (c : CInts elts ns) : ∀ (s : Shared) (Q : List Value → Shared → Prop) (E : Value → Shared → Prop), (∀ vs tk, IntsAre vs ns → Q vs { s with toks := tk }) → wpAny (model pw w) A (spliced (backTo pos (starEach elts env))) Q E s := by
  induction c with
  | nil => intro s Q E h; exact spliced_none (h [] _ .nil)
  | cons _ ih => intro s Q E h; exact spliced_more (wpAny_Constant_int (ih _ _ _ fun vs tk hv => h _ _ (.cons _ _ hv)))
theorem Ev.ints {elts : List PySem.Expr} {ns : List Int} {pos : Pos} (c : CInts elts ns) (hsz : ns.length ≤ sizeLine) : Ev w A g L m env (.List elts pos) ns := ⟨fun s Q E news F N h =>
  List_ (spl_ints c _ _ _ fun vs tk hv => newList_K F N (fun l h' F' N' l1 => h l vs 0 h' _ F' N' l1 hv) (by rw [hv.length]; exact hsz))⟩
theorem Ev.add {e₁ e₂ : PySem.Expr} {n₁ n₂ : List Int} {pos : Pos} (h₁ : Ev w A g L m env e₁ n₁) (h₂ : Ev w A g L m env e₂ n₂) (hsz : n₁.length + n₂.length ≤ sizeLine) : Ev w A g L m env (.BinOp e₁ .Add e₂ pos) (n₁ ++ n₂) := by
  refine ⟨fun s Q E news F N h => ?_⟩
  refine wpAny_BinOp (h₁.run s _ _ news F N fun P us c h' tk F' N' l1 hu => h₂.run _ _ _ _ F' N' fun P' us' c' h'' tk' F'' N'' l2 hu' => ?_)
  refine kmk_add_ints F'' N'' (newsL4 N'' (.tail _ (.head _))) (newsL4 N'' (.head _)) hu hu' ?_ hsz
  intro D vs h₃ F₃ N₃ l3 hv
  refine h D vs 0 h₃ tk' F₃ (fun p hp => N₃ p ?_) (fun p hp => l3 p (.tail _ (.tail _ hp))) hv
  rcases List.mem_cons.mp hp with rfl | hp
  · exact .head _
  · exact .tail _ (.tail _ (.tail _ hp))
end
end
section
open PySem.Calls
noncomputable abbrev sgE (L' : Addr) : Env := envOf (Str.ofString "_law_signs") sc27 L' 307 (.ref 306)
section
variable {w : World} {p : Program} {loose : List Str} {mean : ExcName → Option Value} {mg mb : Str → Option Value} {dp un : Nat} {gd : Option (List Code)} {cn : Str} {cs : Scope} {L₁ a₁ L' : Addr} {ccd : Value} {cl : List (Str × Addr)} {outer : List Env} {base g : Heap} {m : Str → Option Value}
set_option maxHeartbeats 1000000 in
theorem ev_range {p1 p2 p3 p4 p5 p6 : Pos} {k1 k2 : Nat} (a b : Int) (n : Nat)
    (B : Below (ktrTop dp un gd cn cs L₁ a₁ ccd cl outer) base (envX cn cs L₁ a₁ ccd cl :: outer) g) (X : (myK w.params).In g) (T : Top p loose mean mg mb g)
    (ha : 0 ≤ a) (hb : a ≤ b) (hb2 : b < 2 ^ 40) (hn : Builtin.Range.rangeSize a b 1 = (n : Int)) (hn2 : n ≤ 2 ^ 24) :
    Ev w ((ktrTop dp un gd cn cs L₁ a₁ ccd cl outer).deeper (sgE L')) g L' m (sgE L') (.Call (.Name (Str.ofString "list") p1) [.Call (.Name (Str.ofString "range") p2) [.Constant (.int a) k1 p3, .Constant (.int b) k2 p4] [] p5] [] p6) (rangeKs a n) := by
  refine ⟨fun s Q E news F N h => ?_⟩
  walk_at "m steps"
  rename IsRange _ _ _ _ _ _ _ _ => rgX
  rename Fr _ _ _ _ => lF
  rename News _ _ _ _ => lN
  refine kll_range rfl lF lN rgX (small_one (by omega) (by omega) (by omega) (by omega)) hn hn2 fun D us c h' tk F' N' l1 hI => ?_
  exact h D us c h' tk F' N' l1 hI
set_option maxHeartbeats 1000000 in
theorem ev_range17 {p1 p2 p3 : Pos} {k1 : Nat} {s : Shared} {Q E : Value → Shared → Prop} {news : List (Addr × Obj)}
    (B : Below (ktrTop dp un gd cn cs L₁ a₁ ccd cl outer) base (envX cn cs L₁ a₁ ccd cl :: outer) g) (X : (myK w.params).In g) (T : Top p loose mean mg mb g) (F : Fr g L' s.heap m) (N : News g L' s.heap news)
    (h : ∀ h' r t u v tk, Fr g L' h' m → News g L' h' news → IsRange h' r 0 17 1 t u v → Q (.ref r) { s with heap := h', toks := tk }) :
    wpAny (model pw w) ((ktrTop dp un gd cn cs L₁ a₁ ccd cl outer).deeper (sgE L')) (eval (.Call (.Name (Str.ofString "range") p1) [.Constant (.int 17) k1 p2] [] p3) (sgE L')) Q E s := by
  walk_at "m steps"
  rename IsRange _ _ _ _ _ _ _ _ => rgX
  rename Fr _ _ _ _ => lF
  rename News _ _ _ _ => lN
  exact h _ _ _ _ _ _ lF lN rgX
theorem ev_planes {px py q1 q2 q3 q4 q5 r1 r2 r3 p1 p2 p3 pos : Pos} {k1 k2 k3 k4 : Nat} {scope : Scope} {cl' : List (Str × Addr)} {x y : Str}
    (B : Below (ktrTop dp un gd cn cs L₁ a₁ ccd cl outer) base (envX cn cs L₁ a₁ ccd cl :: outer) g) (X : (myK w.params).In g) (T : Top p loose mean mg mb g)
    (hclos : closureFor scope (sgE L') = pure cl') (hcell : ∀ y ∈ scope.names, y.2 ≠ .cell) (hkind : scope.kind = .function) (hnames : ∀ y ∈ scope.names, y.2 = .local → scope.names.lookup y.1 = some .local) (hx : scope.names.lookup x = some .local) (hy : scope.names.lookup y = some .local) (hxy : x ≠ y)
    (bx : (x == ("__debug__" : Str)) = false) (bY : (y == ("__debug__" : Str)) = false) :
    Ev w ((ktrTop dp un gd cn cs L₁ a₁ ccd cl outer).deeper (sgE L')) g L' m (sgE L') (two2 (.BinOp (.BinOp (.Constant (.int 65536) k1 q1) .Mult (.Name x q2) q3) .Add (.Name y q4) q5) (.Name x px) (.Call (.Name (Str.ofString "range") p1) [.Constant (.int 17) k4 p2] [] p3) (.Name y py) (.List [.Constant (.int 65534) k2 r1, .Constant (.int 65535) k3 r2] r3) scope pos) planesL := by
  refine ⟨fun s Q E news F N h => ?_⟩
  refine planes_comp F hclos hcell hkind hnames hx hy hxy bx bY (ev_range17 B X T F N fun h' r t u v tk F' N' hr => PlSrc.intro rfl F' N' hr fun D us h'' tk' F'' N'' l1 hI => h D us _ h'' tk' F'' N'' l1 hI) (fun v => rfl)
inductive EvAll (w : World) (A : Around) (g : Heap) (L : Addr) (m : Str → Option Value) (env : Env) : List PySem.Expr → List (List Int) → Prop
  | nil : EvAll w A g L m env [] []
  | cons {e : PySem.Expr} {ns : List Int} {es : List PySem.Expr} {nss : List (List Int)} : Ev w A g L m env e ns → starEach (e :: es) env = (false, eval e env) :: starEach es env → EvAll w A g L m env es nss → EvAll w A g L m env (e :: es) (ns :: nss)
inductive ChRel (bk : List (Addr × Obj)) : List Value → List (List Int) → Prop
  | nil : ChRel bk [] []
  | cons {P : Addr} {us vs : List Value} {ns : List Int} {nss : List (List Int)} {c : Nat} : (P, listOf us.toArray c) ∈ bk → IntsAre us ns → ChRel bk vs nss → ChRel bk (.ref P :: vs) (ns :: nss)
theorem ChRel.mono {bk bk' : List (Addr × Obj)} {vs : List Value} {nss : List (List Int)} (h : ChRel bk vs nss) (hs : ∀ q ∈ bk, q ∈ bk') : ChRel bk' vs nss := by
  induction h with
  | nil => exact .nil
  | cons a b _ ih => exact .cons (hs _ a) b ih
theorem ChRel.len {bk : List (Addr × Obj)} {vs : List Value} {nss : List (List Int)} (h : ChRel bk vs nss) : vs.length = nss.length := by
  induction h with
  | nil => rfl
  | cons _ _ _ ih => simp [ih]
theorem ev_all {A : Around} {env : Env} {pos : Pos} {elts : List PySem.Expr} {nss : List (List Int)} (H : EvAll w A g L' m env elts nss) : ∀ (s : Shared) (Q : List Value → Shared → Prop) (E : Value → Shared → Prop) (news : List (Addr × Obj)), Fr g L' s.heap m → News g L' s.heap news →
    (∀ cvs bk' h' tk, Fr g L' h' m → News g L' h' (bk' ++ news) → ChRel bk' cvs nss → (∀ q ∈ bk', q.2.cls = .type "list") → Q cvs { s with heap := h', toks := tk }) → wpAny (model pw w) A (spliced (backTo pos (starEach elts env))) Q E s := by
  induction H with
  | nil => intro s Q E news F N h; exact spliced_none (h [] [] _ _ F N .nil fun q hq => nomatch hq)
  | @cons e ns es nss he hst _ ih =>
    intro s Q E news F N h
    refine spliced_more (he.run s _ _ news F N fun P us c h' tk F' N' l1 hI => ih _ _ _ _ F' N' fun cvs bk' h'' tk' F'' N'' hC hcl => ?_) hst
    refine h (.ref P :: cvs) (bk' ++ [(P, listOf us.toArray c)]) h'' tk' F'' (by rw [List.append_assoc]; exact N'') (.cons (List.mem_append_right _ (.head _)) hI (hC.mono fun q hq => List.mem_append_left _ hq)) fun q hq => ?_
    rcases List.mem_append.mp hq with hq | hq
    · exact hcl q hq
    · rw [List.mem_singleton.mp hq]
theorem ev_choices {A : Around} {env : Env} {pos : Pos} {elts : List PySem.Expr} {nss : List (List Int)} {s : Shared} {Q E : Value → Shared → Prop} {news : List (Addr × Obj)} (H : EvAll w A g L' m env elts nss) (F : Fr g L' s.heap m) (N : News g L' s.heap news) (hsz : nss.length ≤ sizeLine)
    (h : ∀ C cvs bk' h' tk, Fr g L' h' m → News g L' h' ((C, listOf cvs.toArray 0) :: (bk' ++ news)) → ChRel bk' cvs nss → (∀ q ∈ bk', q.2.cls = .type "list") → Q (.ref C) { s with heap := h', toks := tk }) : wpAny (model pw w) A (eval (.List elts pos) env) Q E s :=
  List_ (ev_all H s _ _ news F N fun cvs bk' h' tk F' N' hC hcl => newList_K F' N' (fun l h'' F'' N'' _ => h l cvs bk' h'' tk F'' N'' hC hcl) (by rw [hC.len]; exact hsz))
end
end
section
open PySem.Calls
noncomputable def bareG (hs : List Int) (l : List Int) (k : Int) : List Int := if (hs.any fun x => x == k) = true then l else l ++ [k]
noncomputable def bareL (hs : List Int) : List Int := (rangeKs 0 7).foldl (bareG hs) []
noncomputable def lines7 : List (List Int) := [[0, 1, 2], [2, 3, 4], [0, 4, 5], [0, 3, 6], [1, 4, 6], [2, 5, 6], [1, 3, 5]]
noncomputable def unluckyF (hs : List Int) : Bool := decide (hs = []) || decide (bareL hs = []) || lines7.contains hs || lines7.contains (bareL hs)
theorem bare_grows (hs : List Int) : KPfGrows (bareG hs) := by
  intro l k
  unfold bareG
  split
  · simp
  · simp
theorem bare_el1 {hs l : List Int} {k : Int} (h : (hs.any fun x => x == k) = false) : bareG hs l k = l ++ [k] := by unfold bareG; rw [h]; rfl
theorem bare_no1 {hs l : List Int} {k : Int} (h : (hs.any fun x => x == k) = true) : bareG hs l k = l := if_pos h
section
variable {dp un : Nat} {gd : Option (List Code)} {cn : Str} {cs : Scope} {L a : Addr} {ccd : Value} {cl : List (Str × Addr)} {outer : List Env} {env : Env}
theorem topU (h : un + 30 * 4 < cLine) : ((ktrTop dp un gd cn cs L a ccd cl outer).deeper env).units < cLine := by
  have e : ((ktrTop dp un gd cn cs L a ccd cl outer).deeper env).units = un + 3 := rfl
  omega
theorem topU64 (h : un + 30 * 4 < cLine) : ((ktrTop dp un gd cn cs L a ccd cl outer).deeper env).in1.units + 64 < cLine := by
  have e : ((ktrTop dp un gd cn cs L a ccd cl outer).deeper env).in1.units = un + 3 + 1 := rfl
  omega
end
theorem eq_nil {prog : Program} {w : World} {A : Around} {E : Value → Shared → Prop} {s : Shared} {a b : Addr} {vs : List Value} {ns : List Int} {Q : Value → Shared → Prop} (hl : s.heap.IsList a vs.toArray) (hi : IntsAre vs ns) (hl' : s.heap.IsList b #[]) (hu : A.units < cLine) (h : Q (.bool (decide (ns = []))) s) :
    wpAny (model prog w) A (compareOp .Eq (.ref a) (.ref b)) Q E s := eq_ints hl hi hl' .nil hu h
theorem news_list {h₀ h : Heap} {L H : Addr} {its : Array Value} {n : Nat} {news : List (Addr × Obj)} (N : News h₀ L h news) (hm : (H, listOf its n) ∈ news) : h.IsList H its := ⟨_, (N _ hm).1, rfl, n, rfl⟩
noncomputable def ulV : Stmt → Expr
  | .Assign _ e _ => e
  | _ => .Constant .none 0 ⟨0,0,0,0⟩
noncomputable def ulL : Expr → List Expr
  | .List es _ => es
  | _ => []
noncomputable abbrev ulE : List Expr := by
  refine pick (a := ulL (ulV ((bo32[0]?).getD (.Pass ⟨0, 0, 0, 0⟩)))) ?_ ?_
  rotate_left 1
  conv => lhs; whnf
section
variable {w : World} {g : Heap} {L' : Addr} {m : Str → Option Value}
theorem ul3 {A : Around} {env : Env} {a b c pos : Pos} {x y z : Int} {k1 k2 k3 : Nat} {es : List PySem.Expr} {nss : List (List Int)} (h : EvAll w A g L' m env es nss)
    (hst : starEach (PySem.Expr.List [.Constant (.int x) k1 a, .Constant (.int y) k2 b, .Constant (.int z) k3 c] pos :: es) env = (false, eval (PySem.Expr.List [.Constant (.int x) k1 a, .Constant (.int y) k2 b, .Constant (.int z) k3 c] pos) env) :: starEach es env := by rfl) :
    EvAll w A g L' m env (PySem.Expr.List [.Constant (.int x) k1 a, .Constant (.int y) k2 b, .Constant (.int z) k3 c] pos :: es) ([x, y, z] :: nss) :=
  .cons (.ints (.cons (.cons (.cons .nil))) (by rw [sizeLine_eq]; exact Nat.le_of_ble_eq_true rfl)) hst h
theorem ul_all {A : Around} {env : Env} : EvAll w A g L' m env ulE lines7 := by
  unfold lines7
  exact ul3 (ul3 (ul3 (ul3 (ul3 (ul3 (ul3 .nil))))))
theorem ul_lol {h : Heap} {bk news : List (Addr × Obj)} {vs : List Value} {nss : List (List Int)} (c : ChRel bk vs nss) (N : News g L' h news) (hs : ∀ q ∈ bk, q ∈ news) : Lol h vs nss := by
  induction c with
  | nil => exact .nil
  | cons a b _ ih => exact .cons (news_list N (hs _ a)) b ih
theorem ul_C {A : Around} {env : Env} {pos : Pos} {elts : List PySem.Expr} {nss : List (List Int)} {s : Shared} {Q E : Value → Shared → Prop} {x y : Addr × Obj} {c} (hc : eval (.List elts pos) env = c) (H : EvAll w A g L' m env elts nss) (F : Fr g L' s.heap m) (N : News g L' s.heap [x, y]) (hsz : nss.length ≤ sizeLine)
    (h : ∀ C cvs bk' h' tk, Fr g L' h' m → News g L' h' ((C, listOf cvs.toArray 0) :: x :: y :: bk') → ChRel bk' cvs nss → Q (.ref C) { s with heap := h', toks := tk }) : wpAny (model pw w) A c Q E s := by
  subst hc
  refine ev_choices H F N hsz fun C cvs bk' h' tk F' N' hc _ => h C cvs bk' h' tk F' (fun p hp => N' p ?_) hc
  simp only [List.mem_cons, List.mem_append, List.not_mem_nil, or_false] at hp ⊢
  rcases hp with hp | hp | hp | hp
  · exact .inl hp
  · exact .inr (.inr (.inl hp))
  · exact .inr (.inr (.inr hp))
  · exact .inr (.inl hp)
theorem ul_small : lines7.length ≤ sizeLine := by rw [sizeLine_eq]; exact Nat.le_of_ble_eq_true rfl
theorem ul_lines {A : Around} {env : Env} {pos : Pos} {s : Shared} {Q E : Value → Shared → Prop} {x y : Addr × Obj} {c} (hc : eval (.List ulE pos) env = c) (F : Fr g L' s.heap m) (N : News g L' s.heap [x, y])
    (h : ∀ C cvs bk' h' tk, Fr g L' h' m → News g L' h' ((C, listOf cvs.toArray 0) :: x :: y :: bk') → ChRel bk' cvs lines7 → Q (.ref C) { s with heap := h', toks := tk }) : wpAny (model pw w) A c Q E s := ul_C hc ul_all F N ul_small h
end
theorem un1 {hs : List Int} (h : decide (hs = []) = true) : decide (hs = []) = unluckyF hs := by unfold unluckyF; rw [h]; rfl
theorem un2 {hs : List Int} (h : decide (hs = []) = false) (h2 : decide (bareL hs = []) = true) : decide (bareL hs = []) = unluckyF hs := by unfold unluckyF; rw [h, h2]; rfl
theorem un3 {hs : List Int} (h : decide (hs = []) = false) (h2 : decide (bareL hs = []) = false) (h3 : lines7.contains hs = true) : lines7.contains hs = unluckyF hs := by unfold unluckyF; rw [h, h2, h3]; rfl
theorem un4 {hs : List Int} (h : decide (hs = []) = false) (h2 : decide (bareL hs = []) = false) (h3 : lines7.contains hs = false) : lines7.contains (bareL hs) = unluckyF hs := by unfold unluckyF; rw [h, h2, h3]; rfl
local macro_rules | `(tactic| walk_at "m hyp9") => `(tactic| first | assumption | exact decide_eq_true (by assumption) | exact decide_eq_false (by assumption) | exact List.contains_iff_mem.mpr (by assumption) | exact Bool.eq_false_iff.mpr fun q => absurd (List.contains_iff_mem.mp q) (by assumption))
set_option maxHeartbeats 4000000 in
theorem unlucky_spec {w : World} (H n : Nat) (vs : List Value) (hs : List Int) (hi : IntsAre vs hs) (hr : ∀ c ∈ hs, 0 ≤ c ∧ c < 7) (hn : hs.length ≤ 7) : Spec 4 w 338 [.ref H] [(H, listOf vs.toArray n)] (fun _ v new => v = .bool (unluckyF hs) ∧ new = [(H, listOf vs.toArray n)]) := by
  walk_at "m begin"
  have «stop CompSrcT» := True.intro
  have «stop compareOp Eq ref ref» := True.intro
  have «stop compareOp In ref ref» := True.intro
  have «stop eval List» := True.intro
  repeat' (first
    | ((with_reducible show StopK _ _); first
        | ((with_reducible refine goK "CompSrcT" ?_); k_dflt (refine LCt.CompSrcT.range (by rfl) (by k_asm) (by k_asm) (by assumption) (by decide) (by first | exact rangeSize_nat _ _ | rfl) (by first | exact Nat.le_of_ble_eq_true rfl | size_fits) ?_; intro g'; (refine' kci_range (bareG hs) (fun k' t' I' oI' C' oC' D' m' ys' l' h' tk' E' hlo' hhi' hI' hC' hx' F' N' off' ne' => ?_) ?_ ?_); (all_goals (try have off0 := off')); (all_goals (try (simp only [List.cons_append, List.nil_append, LCg.Off3, and_true] at off'))); (all_goals (try (simp only [List.cons_append, List.nil_append] at N'))); (all_goals (try ((show KPfMark → _); intro hMark'))); kcf_last))
        | ((with_reducible refine goK "eval List" ?_); rename Fr _ _ _ _ => lF'; rename News _ _ _ _ => lN'; generalize hc9' : eval (PySem.Expr.List _ _) _ = c9'; k_dflt (refine' ul_lines hc9' lF' lN' ?_); clear lF' lN' hc9'; intro C' cvs' bk' h' tk' F' N' hch')
        | ((with_reducible refine goK "eval List" ?_); have noK9 := True.intro; walk_at "eval List"; all_goals (try clear noK9))
        | ((with_reducible refine goK "compareOp Eq ref ref" ?_); k_dflt (refine' eq_nil (news_list ?N ?hm) ?hi (news_list ?N2 ?hm2) ?hu ?_; (case N => assumption); (case hm => k_mem); (case hi => assumption); (case N2 => assumption); (case hm2 => k_mem); (case hu => exact topU (by assumption))))
        | ((with_reducible refine goK "compareOp In ref ref" ?_); k_dflt (refine' in_lol (nss := lines7) (news_list ?N ?hm) ?hi (news_list ?N2 ?hm2) ?lo ?hu ?_; (case N => assumption); (case hm => k_mem); (case hi => assumption); (case N2 => assumption); (case hm2 => k_mem); (case lo => (refine' ul_lol hch' ?N3 ?sub; (case N3 => assumption); (case sub => (intro q9 hq9; repeat (first | exact hq9 | refine List.Mem.tail _ ?_))))); (case hu => exact topU64 (by assumption)))))
    | walk_at "m step")
  · rename News _ _ _ _ => lN8
    rename Fr _ _ _ _ => lF8
    first
      | exact LCg.CompEnd.intro lF8 lN8 _ (fun p hp => hp) off0 trivial (kci_el (bare_el1 (by assumption)) (by with_unfolding_all rfl) (by with_unfolding_all rfl))
      | exact LCg.CompEnd.intro lF8 lN8 _ (fun p hp => hp) off0 trivial (kci_no (bare_no1 (by assumption)) (by with_unfolding_all rfl))
  · rename News _ _ _ _ => lN8
    rename Fr _ _ _ _ => lF8
    first
      | exact LCg.CompEnd.intro lF8 lN8 _ (fun p hp => hp) off0 trivial (kci_el (bare_el1 (by assumption)) (by with_unfolding_all rfl) (by with_unfolding_all rfl))
      | exact LCg.CompEnd.intro lF8 lN8 _ (fun p hp => hp) off0 trivial (kci_no (bare_no1 (by assumption)) (by with_unfolding_all rfl))
  · exact hret _ _ _ _ ⟨congrArg Value.bool (un1 (by walk_at "m hyp9")), rfl⟩ (by assumption) (by walk_at "m news") (by assumption) (by walk_at "m fresh")
  · exact hret _ _ _ _ ⟨congrArg Value.bool (un2 (by walk_at "m hyp9") (by walk_at "m hyp9")), rfl⟩ (by assumption) (by walk_at "m news") (by assumption) (by walk_at "m fresh")
  · exact hret _ _ _ _ ⟨congrArg Value.bool (un3 (by walk_at "m hyp9") (by walk_at "m hyp9") (by walk_at "m hyp9")), rfl⟩ (by assumption) (by walk_at "m news") (by assumption) (by walk_at "m fresh")
  · exact hret _ _ _ _ ⟨congrArg Value.bool (un4 (by walk_at "m hyp9") (by walk_at "m hyp9") (by walk_at "m hyp9")), rfl⟩ (by assumption) (by walk_at "m news") (by assumption) (by walk_at "m fresh")
  · exact bare_grows hs
end
section
open PySem.Calls
noncomputable def Nine (ns : List Int) : Prop := ns.length = 9 ∧ ∀ n ∈ ns, 0 ≤ n
noncomputable def chLs : List (List Int) := [[173, 847, 6150, 6155, 6156, 6157, 8203, 8204, 8205, 8288, 65279] ++ rangeKs 65024 16, rangeKs 64976 32 ++ planesL, rangeKs 65529 5, rangeKs 12272 12, [832, 833, 8206, 8207] ++ rangeKs 8234 5 ++ rangeKs 8298 6, [917505] ++ rangeKs 917536 96, [32],
  [31, 33, 172, 174, 831, 834, 846, 848, 6151, 6158, 8202, 8208, 8233, 8239, 8287, 8289, 8297, 8304, 12271, 12284, 64975, 65008, 65023, 65040, 65278, 65280, 65528, 917504, 917506, 917535, 917632]]
noncomputable def OkSign (r : Int × Int) : Prop := 0 ≤ r.1 ∧ r.1 < 8 ∧ ∃ ns, chLs[r.1.toNat]? = some ns ∧ r.2 ∈ ns
noncomputable def tupI (a b : Int) (t u : Tok) : Obj := { cls := .type "tuple", data := .seq #[.int a t, .int b u] }
inductive PRows (tl : List (Addr × Obj)) : List Value → List (Int × Int) → Prop
  | nil : PRows tl [] []
  | cons {T : Addr} {t u : Tok} {r : Int × Int} {vs : List Value} {rs : List (Int × Int)} : (T, tupI r.1 r.2 t u) ∈ tl → PRows tl vs rs → PRows tl (.ref T :: vs) (r :: rs)
theorem PRows.mono {tl tl' : List (Addr × Obj)} {vs : List Value} {rs : List (Int × Int)} (h : PRows tl vs rs) (hs : ∀ q ∈ tl, q ∈ tl') : PRows tl' vs rs := by
  induction h with
  | nil => exact .nil
  | cons a _ ih => exact .cons (hs _ a) ih
theorem PRows.snoc {tl : List (Addr × Obj)} {vs : List Value} {rs : List (Int × Int)} (h : PRows tl vs rs) {T : Addr} {t u : Tok} {r : Int × Int} (hm : (T, tupI r.1 r.2 t u) ∈ tl) : PRows tl (vs ++ [.ref T]) (rs ++ [r]) := by
  induction h with
  | nil => exact .cons hm .nil
  | cons a _ ih => exact .cons a ih
theorem PRows.len {tl : List (Addr × Obj)} {vs : List Value} {rs : List (Int × Int)} (h : PRows tl vs rs) : vs.length = rs.length := by
  induction h with
  | nil => rfl
  | cons _ _ ih => simp [ih]
theorem ChRel.at {bk : List (Addr × Obj)} {vs : List Value} {nss : List (List Int)} (h : ChRel bk vs nss) : ∀ k, k < nss.length → ∃ P us c ns, vs[k]? = some (.ref P) ∧ (P, listOf us.toArray c) ∈ bk ∧ IntsAre us ns ∧ nss[k]? = some ns := by
  induction h with
  | nil => intro k hk; exact absurd hk (Nat.not_lt_zero _)
  | cons a b _ ih =>
    intro k hk
    cases k with
    | zero => exact ⟨_, _, _, _, rfl, a, b, rfl⟩
    | succ k => exact ih k (Nat.lt_of_succ_lt_succ hk)
theorem ch_len : chLs.all (fun ns => decide (0 < ns.length) && decide (ns.length ≤ 100)) = true := by decide +kernel
theorem ch_len_at {k : Nat} {ns : List Int} (h : chLs[k]? = some ns) : 0 < ns.length ∧ ns.length ≤ 100 := by
  have := List.all_eq_true.mp ch_len ns (List.mem_of_getElem? h)
  simpa using this
noncomputable def sfS : List Str := [Str.ofString "number", Str.ofString "points"]
section
variable {prog : Program} {w : World} {A : Around} {E : Value → Shared → Prop} {s : Shared} {h₀ : Heap} {L : Addr} {m : Str → Option Value} {news : List (Addr × Obj)}
theorem ch_item {C cn : Nat} {cvs : List Value} {value slice : PySem.Expr} {k : Int} {u : Tok} {Q : Value → Shared → Prop} (N : News h₀ L s.heap news) (hC : (C, listOf cvs.toArray cn) ∈ news) (hch : ChRel news cvs chLs) (h0 : 0 ≤ k) (h1 : k < 8)
    (h : ∀ P us c ns, (P, listOf us.toArray c) ∈ news → IntsAre us ns → chLs[k.toNat]? = some ns → Q (.ref P) s)
    (hs : subscripted slice false (.ref C) (.int k u) = operate [.ref C, .int k u] (getItem (.ref C) (.int k u)) := by with_unfolding_all rfl) :
    wpAny (model prog w) A (subscriptTail value slice (.ref C) (.int k u)) Q E s := by
  have hl : s.heap.IsList C cvs.toArray := ⟨_, (N _ hC).1, rfl, cn, rfl⟩
  obtain ⟨P, us, c, ns, e, hP, hI, hn⟩ := hch.at k.toNat (by show k.toNat < 8; omega)
  exact tail_any hl.typeIs slot_list_getitem.lookup (wpAny_getItem_list hl h0 (by omega) (by simpa using e) (h P us c ns hP hI hn)) hs
theorem pt_item {P c : Nat} {us : List Value} {ns : List Int} {value slice : PySem.Expr} {k : Int} {u : Tok} {Q : Value → Shared → Prop} (N : News h₀ L s.heap news) (hP : (P, listOf us.toArray c) ∈ news) (hI : IntsAre us ns) (hn : ns.length ≤ 100) (h0 : 0 ≤ k) (h1 : k < (ns.length : Int))
    (h : ∀ x t, x ∈ ns → Q (.int x t) s)
    (hs : subscripted slice false (.ref P) (.int k u) = operate [.ref P, .int k u] (getItem (.ref P) (.int k u)) := by with_unfolding_all rfl) :
    wpAny (model prog w) A (subscriptTail value slice (.ref P) (.int k u)) Q E s := by
  have hl : s.heap.IsList P us.toArray := ⟨_, (N _ hP).1, rfl, c, rfl⟩
  have hk : k.toNat < ns.length := by omega
  obtain ⟨t, ht⟩ := hI.get k.toNat ns[k.toNat] (List.getElem?_eq_getElem hk)
  exact tail_any hl.typeIs slot_list_getitem.lookup (wpAny_getItem_list hl h0 (by omega) (by simpa using ht) (h _ t (List.getElem_mem hk))) hs
theorem pt_len {P c : Nat} {us : List Value} {ns : List Int} {Q : Value → Shared → Prop} (N : News h₀ L s.heap news) (hP : (P, listOf us.toArray c) ∈ news) (hI : IntsAre us ns) (hn : ns.length ≤ 100)
    (h : ∀ t tk, Q (.int (ns.length : Int) t) { s with toks := tk }) : wpAny (model prog w) A (call (.builtin "len") [.ref P]) Q E s := by
  have hl : s.heap.IsList P us.toArray := ⟨_, (N _ hP).1, rfl, c, rfl⟩
  have e : us.toArray.size = ns.length := by rw [List.size_toArray, hI.length]
  refine len_list hl (by rw [e]; omega) ?_
  rw [e]
  exact h _ _
theorem sg_append {S T I sn : Nat} {svs : List Value} {ot o : Obj} {tl : List (Addr × Obj)} {x : Value} {Q : Value → Shared → Prop} (F : Fr h₀ L s.heap m) (N : News h₀ L s.heap ((T, ot) :: (I, o) :: (S, listOf svs.toArray sn) :: tl)) (hS : ∀ q ∈ tl, q.1 ≠ S) (hT : @Ne Nat T S) (hI : @Ne Nat I S) (hsz : svs.length ≤ 9)
    (h : ∀ h', Fr h₀ L h' m → News h₀ L h' ((T, ot) :: (I, o) :: (S, listOf (svs ++ [x]).toArray (sn + 1)) :: tl) → Q .none { s with heap := h' }) : wpAny (model prog w) A (call (.builtin "list.append") [.ref S, x]) Q E s := by
  refine append_K F N (.tail hT (.tail hI (.head hS))) (fun h' F' N' => h h' F' ?_) (by rw [List.size_toArray, sizeLine_eq]; omega)
  have e : svs.toArray.push x = (svs ++ [x]).toArray := by simp
  rw [e] at N'
  exact N'
variable {env : Env} {target : PySem.Expr} {body : List Stmt} {Q : Flow → Shared → Prop}
noncomputable def SgJ (S : Addr) (bk : List (Addr × Obj)) (m₀ : Str → Option Value) (k : Nat) (m : Str → Option Value) (nx : List (Addr × Obj)) : Prop :=
  ∃ svs sn tl rows, nx = (S, listOf svs.toArray sn) :: tl ∧ (∀ z, sfS.contains z = false → m z = m₀ z) ∧ (∀ q ∈ bk, q ∈ tl) ∧ (∀ q ∈ tl, q.1 ≠ S) ∧ (∀ q ∈ tl, q.2.cls = .type "list" ∨ q.2.cls = .type "tuple") ∧ PRows tl svs rows ∧ rows.length = k ∧ ∀ r ∈ rows, OkSign r
theorem signs_loop {S NB kn sn : Nat} {nvs : List Value} {ns : List Int} {bk : List (Addr × Obj)} {m₀ : Str → Option Value}
    (hn : IntsAre nvs ns) (h9 : Nine ns) (hNB : (NB, listOf nvs.toArray kn) ∈ bk) (hcl : ∀ q ∈ bk, q.2.cls = .type "list") (hS : ∀ q ∈ bk, q.1 ≠ S) (hh : A.handled = none) (F : Fr h₀ env.locals s.heap m₀) (N : News h₀ env.locals s.heap ((S, listOf #[] sn) :: bk))
    (turn : ∀ I y ty k svs sn tl rows (u : Str → Option Value) h tk o, 0 ≤ y → k < 9 → @LT.lt Nat _ S I → o.cls = .type "list_iterator" → (∀ q ∈ bk, q ∈ tl) → (∀ q ∈ tl, q.1 ≠ S) → (∀ q ∈ tl, q.2.cls = .type "list" ∨ q.2.cls = .type "tuple") → PRows tl svs rows → rows.length = k → (∀ r ∈ rows, OkSign r) →
      Fr h₀ env.locals h (fun z => if sfS.contains z = true then u z else m₀ z) → News h₀ env.locals h ((I, o) :: (S, listOf svs.toArray sn) :: tl) →
      wpAny (model prog w) A (assign target env (.int y ty)) (fun _ s₂ => wpAny (model prog w) A (execs body env) (UnrPostW h₀ env.locals { s with heap := h, toks := tk } [(I, o)] (fun m' n' => (NB, listOf nvs.toArray kn) ∈ n' ∧ SgJ S bk m₀ (k + 1) m' n') Q) E s₂) E { s with heap := h, toks := tk })
    (done : ∀ (u : Str → Option Value) svs sn tl rows h tk, (∀ q ∈ bk, q ∈ tl) → PRows tl svs rows → rows.length = 9 → (∀ r ∈ rows, OkSign r) → (∀ q ∈ tl, q.2.cls = .type "list" ∨ q.2.cls = .type "tuple") → (∀ q ∈ tl, q.1 ≠ S) → Fr h₀ env.locals h (fun z => if sfS.contains z = true then u z else m₀ z) → News h₀ env.locals h ((S, listOf svs.toArray sn) :: tl) → Q .next { s with heap := h, toks := tk }) :
    wpAny (model prog w) A (pyIter (.ref NB)) (fun it s₂ => TurnsAt prog w A h₀ env target body Q E it s₂) E s := by
  have fr : ∀ {h : Heap} {m₁ : Str → Option Value}, (∀ z, sfS.contains z = false → m₁ z = m₀ z) → Fr h₀ env.locals h m₁ → Fr h₀ env.locals h (fun z => if sfS.contains z = true then m₁ z else m₀ z) := by
    intro h m₁ h1 F
    have e : (fun z => if sfS.contains z = true then m₁ z else m₀ z) = m₁ := by
      funext z
      cases q : sfS.contains z with
      | true => simp
      | false => simp [h1 z q]
    rw [e]; exact F
  have l9 := h9.1
  have lv := hn.length
  refine for_list (fun pre m nx => SgJ S bk m₀ pre.length m nx) hh F N (.tail _ hNB) ⟨[], sn, bk, [], rfl, fun _ _ => rfl, fun _ h => h, hS, fun q hq => .inl (hcl q hq), .nil, rfl, fun _ hr => nomatch hr⟩ ?_ ?_
  · rintro I pre v post m₁ nx h tk o hI e ⟨svs, sn', tl, rows, rfl, h1, h2, h3, h4, h5, h6, h7⟩ ho F₁ N₁
    have hp : pre.length < ns.length := by rw [← lv, e]; simp
    obtain ⟨ty, ht⟩ := hn.get pre.length ns[pre.length] (List.getElem?_eq_getElem hp)
    have hv : v = .int ns[pre.length] ty := by
      rw [e] at ht
      simpa using ht
    subst hv
    have e2 : (pre ++ [Value.int ns[pre.length] ty]).length = pre.length + 1 := by simp
    rw [e2]
    exact turn I _ ty pre.length svs sn' tl rows m₁ h tk o (h9.2 _ (List.getElem_mem hp)) (by omega) (hI _ (.head _)) ho h2 h3 h4 h5 h6 h7 (fr h1 F₁) N₁
  · rintro m₁ nx h tk ⟨svs, sn', tl, rows, rfl, h1, h2, h3, h4, h5, h6, h7⟩ F₁ N₁
    exact done m₁ svs sn' tl rows h tk h2 h5 (by rw [h6, lv, l9]) h7 h4 h3 (fr h1 F₁) N₁
theorem signs_end {S T I NB kn sn k : Nat} {svs nvs : List Value} {bk tl : List (Addr × Obj)} {rows : List (Int × Int)} {a b : Int} {t u : Tok} {o : Obj} {h : Heap} {m' m₀ : Str → Option Value} {s₁ : Shared} {tk : Nat} (F : Fr h₀ L h m') (N : News h₀ L h ((T, tupI a b t u) :: (I, o) :: (S, listOf (svs ++ [Value.ref T]).toArray sn) :: tl)) (ho : o.cls = .type "list_iterator")
    (hNB : (NB, listOf nvs.toArray kn) ∈ bk) (hm : ∀ z, sfS.contains z = false → m' z = m₀ z) (h2 : ∀ q ∈ bk, q ∈ tl) (h3 : ∀ q ∈ tl, q.1 ≠ S) (h4 : ∀ q ∈ tl, q.2.cls = .type "list" ∨ q.2.cls = .type "tuple") (h5 : PRows tl svs rows) (h6 : rows.length = k) (h7 : ∀ r ∈ rows, OkSign r) (hT : @Ne Nat T S) (hok : OkSign (a, b)) :
    UnrEndW h₀ L s₁ [(I, o)] (fun m' n' => (NB, listOf nvs.toArray kn) ∈ n' ∧ SgJ S bk m₀ (k + 1) m' n') { s₁ with heap := h, toks := tk } := by
  refine t_end F N ho ((S, listOf (svs ++ [Value.ref T]).toArray sn) :: (T, tupI a b t u) :: tl) (.tail _ (.head _)) (fun p hp => ?_) (fun p hp => .inl ?_) (.tail _ (.tail _ (h2 _ hNB))) ⟨svs ++ [Value.ref T], sn, (T, tupI a b t u) :: tl, rows ++ [(a, b)], rfl, hm, fun q hq => .tail _ (h2 q hq), ?_, ?_, (h5.mono fun q hq => .tail _ hq).snoc (r := (a, b)) (.head _), by simp [h6], ?_⟩
  · rcases List.mem_cons.mp hp with rfl | hp
    · exact .tail _ (.tail _ (.head _))
    · rcases List.mem_cons.mp hp with rfl | hp
      · exact .head _
      · exact .tail _ (.tail _ (.tail _ hp))
  · rcases List.mem_cons.mp hp with rfl | hp
    · exact fun e => by injection e with e; exact absurd e (by decide)
    · rcases List.mem_cons.mp hp with rfl | hp
      · exact fun e => by injection e with e; exact absurd e (by decide)
      · rcases h4 p hp with e | e <;> rw [e] <;> exact fun e => by injection e with e; exact absurd e (by decide)
  · intro q hq
    rcases List.mem_cons.mp hq with rfl | hq
    · exact hT
    · exact h3 q hq
  · intro q hq
    rcases List.mem_cons.mp hq with rfl | hq
    · exact .inr rfl
    · exact h4 q hq
  · intro r hr
    rcases List.mem_append.mp hr with hr | hr
    · exact h7 r hr
    · rw [List.mem_singleton.mp hr]; exact hok
end
end
section
open PySem.Calls
noncomputable abbrev sgB : List Stmt := bo27.drop 3
section
variable {w : World} {p : Program} {loose : List Str} {mean : ExcName → Option Value} {mg mb : Str → Option Value} {dp un : Nat} {gd : Option (List Code)} {cn : Str} {cs : Scope} {L₁ a₁ L' : Addr} {ccd : Value} {cl : List (Str × Addr)} {outer : List Env} {base g : Heap} {m₀ : Str → Option Value}
set_option maxHeartbeats 4000000 in
theorem signs_tail {s : Shared} {Q : Flow → Shared → Prop} {E : Value → Shared → Prop} {bk : List (Addr × Obj)} {C NB cnn kn : Nat} {cvs nvs : List Value} {ns : List Int}
    (B : Below (ktrTop dp un gd cn cs L₁ a₁ ccd cl outer) base (envX cn cs L₁ a₁ ccd cl :: outer) g) (X : (myK w.params).In g) (T : Top p loose mean mg mb g) (hcs : cs.kind = .function) (hd : dp + 4 < recursionLimit) (hu : un + 30 * 4 < cLine)
    (hE : PassesOwn (model pw w) ((ktrTop dp un gd cn cs L₁ a₁ ccd cl outer).deeper (sgE L')) (sgE L') E)
    (F : Fr g L' s.heap (fun z => if z = Str.ofString "choices" then some (.ref C) else if z = Str.ofString "numbers" then some (.ref NB) else m₀ z)) (N : News g L' s.heap bk)
    (hC : (C, listOf cvs.toArray cnn) ∈ bk) (hch : ChRel bk cvs chLs) (hNB : (NB, listOf nvs.toArray kn) ∈ bk) (hi : IntsAre nvs ns) (h9 : Nine ns) (hcl : ∀ q ∈ bk, q.2.cls = .type "list")
    (hret : ∀ S svs sn tl rows h' tk m', Fr g L' h' m' → News g L' h' ((S, listOf svs.toArray sn) :: tl) → (∀ q ∈ bk, q ∈ tl) → PRows tl svs rows → rows.length = 9 → (∀ r ∈ rows, OkSign r) → (∀ q ∈ tl, q.2.cls = .type "list" ∨ q.2.cls = .type "tuple") → (∀ q ∈ tl, q.1 ≠ S) → Q (.ret (.ref S)) { s with heap := h', toks := tk }) :
    wpAny (model pw w) ((ktrTop dp un gd cn cs L₁ a₁ ccd cl outer).deeper (sgE L')) (execs sgB (sgE L')) Q E s := by
  unfold sgB
  with_unfolding_all (conv => lhs; skip)
  show wpAny _ _ (execs (List.drop 3 bo27) _) _ _ _
  dsimp only [List.drop]
  have «stop exec For Name Name cons nil» := True.intro
  have «stop newList» := True.intro
  have «stop pyIter ref» := True.intro
  have «stop subscriptTail» := True.intro
  have «stop call builtin:len» := True.intro
  have «stop call builtin:list.append» := True.intro
  repeat' (first
    | ((with_reducible show StopK _ _); first
        | ((with_reducible refine goK "call builtin:list.append" ?_); (rename Fr _ _ _ _ => lF'); (rename News _ _ _ _ => lN'); k_dflt (refine' sg_append lF' lN' hs' ?hT ?hI ?hz ?_; (case hT => exact na (by walk_at "m ne9")); (case hI => exact na (by walk_at "m ne9")); (case hz => (rw [hr'.len, hl']; exact Nat.le_of_lt hk'))); clear lF' lN'; intro h' F' N')
        | ((with_reducible refine goK "call builtin:len" ?_); (rename News _ _ _ _ => lN'); k_dflt (refine' pt_len lN' hP' hI' hn1' ?_); intro tl9' tk9')
        | ((with_reducible refine goK "subscriptTail" ?_); (with_reducible show wpAny _ _ (subscriptTail _ _ (Value.ref _) (Value.int _ _)) _ _ _); (rename News _ _ _ _ => lN'); k_dflt (first | (refine' ch_item lN' (.tail _ (.tail _ (hb' _ hC))) (hch.mono fun q hq => .tail _ (.tail _ (hb' _ hq))) (Int.fmod_nonneg_of_pos _ (by decide)) (Int.fmod_lt_of_pos _ (by decide)) ?_ ?k7; (case k7 => with_unfolding_all rfl); intro P' us' c' ns' hP' hI' hcn'; obtain ⟨hn0', hn1'⟩ := ch_len_at hcn') | (refine' pt_item lN' hP' hI' hn1' (Int.fmod_nonneg_of_pos _ (by omega)) (Int.fmod_lt_of_pos _ (by omega)) ?_ ?k7; (case k7 => with_unfolding_all rfl); intro x' tx' hx')))
        | ((with_reducible refine goK "pyIter ref" ?_); (with_reducible show wpAny _ _ (pyIter (Value.ref _)) (fun it s₂ => TurnsAt _ _ _ _ _ _ _ _ _ it s₂) _ _); (rename Fr _ _ _ _ => lF'); (rename News _ _ _ _ => lN'); k_dflt (refine' signs_loop hi h9 hNB hcl (fun q hq => na (.inl (hlS' q hq))) rfl lF' lN' ?_ ?_; clear lF' lN'; intro I' y' ty' k' svs' sn' tl' rows' u' h' tk' o' hy' hk' hSI' ho' hb' hs' hc' hr' hl' hok' F' N'; rotate_left 1; clear lF' lN'; intro u' svs' sn' tl' rows' h' tk' hb' hr' hl' hok' hc' hs' F' N'; rotate_right 1))
        | ((with_reducible refine goK "newList" ?_); (rename Fr _ _ _ _ => lF'); (rename News _ _ _ _ => lN'); k_dflt (refine' newList_K (vs := []) lF' lN' ?_ ?k5; (case k5 => exact Nat.zero_le _); k_whole); clear lF' lN'; intro S' h' F' N' hlS')
        | ((with_reducible refine goK "exec For Name Name cons nil" ?_); (rename Fr _ _ _ _ => lF'); k_dflt (refine' For_turns lF' ?_ ?hs ?hE; (case hs => intro _; rfl); (case hE => assumption)))
        | ((with_reducible refine goK _ ?_); have noK9 := True.intro; walk_at "m step"; all_goals (try clear noK9)))
    | walk_at "m step")
  · rename News _ _ _ _ => lN8
    rename Fr _ _ _ _ => lF8
    refine' signs_end lF8 lN8 ho' hNB ?hm hb' hs' hc' hr' hl' hok' (na (by walk_at "m ne9")) ⟨Int.fmod_nonneg_of_pos _ (by decide), Int.fmod_lt_of_pos _ (by decide), ns', hcn', hx'⟩
    case hm => intro z h3; (simp only [sfS, List.contains_cons, List.contains_nil, Bool.or_false, Bool.or_eq_false_iff, beq_eq_false_iff_ne, ne_eq] at h3); (simp [sfS, h3]; done)
  · exact hret S' svs' sn' tl' rows' h' tk' _ F' N' hb' hr' hl' hok' hc' hs'
end
end
section
open PySem.Calls
noncomputable def sgS : List Str := [Str.ofString "turn", Str.ofString "number"]
section
variable {prog : Program} {w : World} {A : Around} {E : Value → Shared → Prop} {s : Shared} {env : Env} {h₀ : Heap} {target : Expr} {body : List Stmt} {Q : Flow → Shared → Prop}
noncomputable def NumsJ (SL NB : Addr) (ol : Obj) (m₀ : Str → Option Value) (m : Str → Option Value) (nx : List (Addr × Obj)) : Prop :=
  ∃ nvs k ns, nx = [(SL, ol), (NB, listOf nvs.toArray k)] ∧ (∀ z, sgS.contains z = false → m z = m₀ z) ∧ IntsAre nvs ns ∧ Nine ns
theorem frG {S : List Str} {L : Addr} {h : Heap} {m₁ m₀ : Str → Option Value} (h1 : ∀ z, S.contains z = false → m₁ z = m₀ z) (F : Fr h₀ L h m₁) : Fr h₀ L h (fun z => if S.contains z = true then m₁ z else m₀ z) := by
  have e : (fun z => if S.contains z = true then m₁ z else m₀ z) = m₁ := by
    funext z
    cases q : S.contains z with
    | true => simp
    | false => simp [h1 z q]
  rw [e]; exact F
theorem nums_loop {elts : List Expr} {c : Nat} {pos : Pos} {SL NB : Addr} {k kn : Nat} {vs nvs : List Value} {xs ns : List Int} {m₀ : Str → Option Value}
    (hs : IntsAre vs xs) (hn : IntsAre nvs ns) (h9 : Nine ns) (hh : A.handled = none) (F : Fr h₀ env.locals s.heap m₀) (N : News h₀ env.locals s.heap [(SL, listOf vs.toArray k), (NB, listOf nvs.toArray kn)])
    (turn : ∀ I (i : Nat) x tx (u : Str → Option Value) h tk T t oe oi nvs kn ns, @LT.lt Nat _ SL I ∧ @LT.lt Nat _ NB I → oe.cls = .type "enumerate" → oi.cls = .type "list_iterator" → IntsAre nvs ns → Nine ns → IsTup h T #[.int (i : Int) t, .int x tx] → Fr h₀ env.locals h (fun z => if sgS.contains z = true then u z else m₀ z) → News h₀ env.locals h [(I + 1, oe), (I, oi), (SL, listOf vs.toArray k), (NB, listOf nvs.toArray kn)] →
      wpAny (model prog w) A (assign (.Tuple elts c pos) env (.ref T)) (fun _ s₂ => wpAny (model prog w) A (execs body env) (UnrPostW h₀ env.locals { s with heap := h, toks := tk } [(I + 1, oe), (I, oi)] (fun m' n' => (SL, listOf vs.toArray k) ∈ n' ∧ NumsJ SL NB (listOf vs.toArray k) m₀ m' n') Q) E s₂) E { s with heap := h, toks := tk })
    (done : ∀ (u : Str → Option Value) h tk nvs kn ns, IntsAre nvs ns → Nine ns → Fr h₀ env.locals h (fun z => if sgS.contains z = true then u z else m₀ z) → News h₀ env.locals h [(SL, listOf vs.toArray k), (NB, listOf nvs.toArray kn)] → Q .next { s with heap := h, toks := tk }) :
    wpAny (model prog w) A (call (.type "enumerate") [.ref SL]) (fun xv s₁ => wpAny (model prog w) A (pyIter xv) (fun it s₂ => TurnsAt prog w A h₀ env (.Tuple elts c pos) body Q E it s₂) E s₁) E s := by
  refine enum_list (fun _ m nx => NumsJ SL NB (listOf vs.toArray k) m₀ m nx) hh F N (.head _) ⟨nvs, kn, ns, rfl, fun _ _ => rfl, hn, h9⟩ ?_ ?_
  · rintro I i v m₁ nx h tk T t oe oi hI hv ⟨nvs', kn', ns', rfl, h1, h2, h3⟩ ho1 ho2 hT F₁ N₁
    have hlt : i < vs.length := (List.getElem?_eq_some_iff.mp hv).1
    have hlt' : i < xs.length := by rw [← hs.length]; exact hlt
    obtain ⟨tx, hx⟩ := hs.get i xs[i] (List.getElem?_eq_getElem hlt')
    have e : v = .int xs[i] tx := Option.some.inj (hv.symm.trans hx)
    subst e
    exact turn I i xs[i] tx m₁ h tk T t oe oi nvs' kn' ns' ⟨hI _ (.head _), hI _ (.tail _ (.head _))⟩ ho1 ho2 h2 h3 hT (frG h1 F₁) N₁
  · rintro m₁ nx h tk ⟨nvs', kn', ns', rfl, h1, h2, h3⟩ F₁ N₁
    exact done m₁ h tk nvs' kn' ns' h2 h3 (frG h1 F₁) N₁
end
theorem nine0 : Nine [321, 43, 24, 6, 84, 96, 95, 78, 405] := ⟨rfl, by decide⟩
theorem getD_nonneg {ns : List Int} (h : ∀ n ∈ ns, 0 ≤ n) (k : Nat) : 0 ≤ ns.getD k 0 := by
  by_cases q : k < ns.length
  · rw [List.getD_eq_getElem?_getD, List.getElem?_eq_getElem q]
    exact h _ (List.getElem_mem q)
  · rw [List.getD_eq_getElem?_getD, List.getElem?_eq_none (by omega)]
    exact Int.le_refl 0
theorem setL_some : ∀ {l : List Value} {k : Nat} {v : Value}, k < l.length → ki_setL l k v = some (l.set k v)
  | [], _, _, h => absurd h (Nat.not_lt_zero _)
  | x :: r, 0, v, _ => rfl
  | x :: r, k + 1, v, h => by
    unfold ki_setL
    rw [setL_some (Nat.lt_of_succ_lt_succ h)]
    rfl
theorem ints_set {vs : List Value} {ns : List Int} (h : IntsAre vs ns) (x : Int) (t : Tok) : ∀ k : Nat, IntsAre (vs.set k (.int x t)) (ns.set k x) := by
  induction h with
  | nil => intro k; cases k <;> exact .nil
  | cons a b h ih =>
    intro k
    cases k with
    | zero => exact .cons _ _ h
    | succ k => exact .cons _ _ (ih k)
theorem nine_set {ns : List Int} (h : Nine ns) {x : Int} (hx : 0 ≤ x) (k : Nat) : Nine (ns.set k x) := ⟨by rw [List.length_set]; exact h.1, fun n hn => by
  rcases List.mem_or_eq_of_mem_set hn with q | q
  · exact h.2 n q
  · rw [q]; exact hx⟩
section
variable {prog : Program} {w : World} {A : Around} {E : Value → Shared → Prop} {s : Shared} {h₀ : Heap} {L : Addr} {m : Str → Option Value} {news : List (Addr × Obj)} {news' : List Value → List (Addr × Obj)}
theorem get_nine {NB kn : Nat} {nvs : List Value} {ns : List Int} {k : Int} {t : Tok} {Q : Value → Shared → Prop} (N : News h₀ L s.heap news) (hm : (NB, listOf nvs.toArray kn) ∈ news) (hi : IntsAre nvs ns) (h9 : Nine ns) (h0 : 0 ≤ k) (h1 : k < 9)
    (h : ∀ (y : Int) t', 0 ≤ y → Q (.int y t') s) : wpAny (model prog w) A (getItem (.ref NB) (.int k t)) Q E s := by
  have hl : s.heap.IsList NB nvs.toArray := ⟨_, (N _ hm).1, rfl, kn, rfl⟩
  have l9 := h9.1
  have lv := hi.length
  have hk : k.toNat < nvs.length := by omega
  obtain ⟨t', ht⟩ := ints_at hi k.toNat hk
  refine wpAny_getItem_list hl h0 (by omega) (x := .int (ns.getD k.toNat 0) t') ?_ (h _ _ (getD_nonneg h9.2 _))
  rw [← ht]
  simp [List.getElem?_eq_getElem hk]
theorem set_nine {NB kn : Nat} {nvs : List Value} {ns : List Int} {k x : Int} {t u : Tok} {Q : Unit → Shared → Prop} (F : Fr h₀ L s.heap m) (N : News h₀ L s.heap news) (hi : IntsAre nvs ns) (h9 : Nine ns) (h0 : 0 ≤ k) (h1 : k < 9) (hx : 0 ≤ x)
    (U : ∀ q : List Value, Upd NB (listOf nvs.toArray kn) (listOf q.toArray kn) news (news' q))
    (h : ∀ h' qs ms, IntsAre qs ms → Nine ms → Fr h₀ L h' m → News h₀ L h' (news' qs) → Q () { s with heap := h' }) : wpAny (model prog w) A (setItem (.ref NB) (.int k t) (.int x u)) Q E s := by
  have l9 := h9.1
  have lv := hi.length
  have hk : k.toNat < nvs.length := by omega
  exact ki_set (its := nvs.toArray) F N h0 (by omega) (setL_some hk) (U _) fun h' F' N' => h h' _ _ (ints_set hi x u _) (nine_set h9 hx _) F' N'
end
theorem nums_end {I SL NB k : Nat} {oe oi os : Obj} {qs : List Value} {ms : List Int} {h₀ h : Heap} {L : Addr} {m' m₀ : Str → Option Value} {s₁ : Shared} {tk : Nat} (F : Fr h₀ L h m') (N : News h₀ L h [(I + 1, oe), (I, oi), (SL, os), (NB, listOf qs.toArray k)])
    (hlt : @LT.lt Nat _ SL I ∧ @LT.lt Nat _ NB I) (hm : ∀ z, sgS.contains z = false → m' z = m₀ z) (hq : IntsAre qs ms) (h9 : Nine ms) :
    UnrEndW h₀ L s₁ [(I + 1, oe), (I, oi)] (fun m' n' => (SL, os) ∈ n' ∧ NumsJ SL NB os m₀ m' n') { s₁ with heap := h, toks := tk } := by
  refine ⟨h, tk, m', [(SL, os), (NB, listOf qs.toArray k)], rfl, F, N, fun p hp q hq => ?_, .head _, qs, k, ms, rfl, hm, hq, h9⟩
  simp only [List.mem_cons, List.not_mem_nil, or_false] at hp hq
  rcases hp with rfl | rfl <;> rcases hq with rfl | rfl <;> exact na (by dsimp only; walk_at "m ne9")
section
variable {prog : Program} {w : World} {A : Around} {E : Value → Shared → Prop} {s : Shared} {h₀ : Heap} {L : Addr} {m : Str → Option Value} {news : List (Addr × Obj)}
theorem newList_ints {vs : List Value} {ns : List Int} {Q : Value → Shared → Prop} (F : Fr h₀ L s.heap m) (N : News h₀ L s.heap news) (hI : IntsAre vs ns)
    (h : ∀ l us h' tk, Fr h₀ L h' m → News h₀ L h' ((l, listOf us.toArray 0) :: news) → (∀ p ∈ news, p.1 < l) → IntsAre us ns → Q (.ref l) { s with heap := h', toks := tk }) (hsz : vs.length ≤ sizeLine := by size_fits) : wpAny (model prog w) A (newList vs) Q E s :=
  newList_K F N (fun l h' F' N' l1 => h l vs h' _ F' N' l1 hI) hsz
end
theorem szl {n : Nat} (h : n ≤ 100) : n ≤ sizeLine := by rw [sizeLine_eq]; exact Nat.le_trans h (by decide)
theorem fr2 {h₀ h : Heap} {L : Addr} {m : Str → Option Value} {a b : Str} {va vb : Value} (F : Fr h₀ L h m) (ha : m a = some va) (hb : m b = some vb) : Fr h₀ L h (fun z => if z = a then some va else if z = b then some vb else m z) := by
  have e : (fun z => if z = a then some va else if z = b then some vb else m z) = m := by
    funext z
    by_cases q : z = a
    · rw [if_pos q, q, ha]
    · rw [if_neg q]
      by_cases r : z = b
      · rw [if_pos r, r, hb]
      · rw [if_neg r]
  rw [e]; exact F
noncomputable def assV : Stmt → Expr
  | .Assign _ e _ => e
  | _ => .Constant .none 0 ⟨0,0,0,0⟩
noncomputable def eltsL : Expr → List Expr
  | .List es _ => es
  | _ => []
noncomputable abbrev chE : List Expr := by
  refine pick (a := eltsL (assV ((bo27[2]?).getD (.Pass ⟨0, 0, 0, 0⟩)))) ?_ ?_
  rotate_left 1
  conv => lhs; whnf
section
variable {w : World} {p : Program} {loose : List Str} {mean : ExcName → Option Value} {mg mb : Str → Option Value} {dp un : Nat} {gd : Option (List Code)} {cn : Str} {cs : Scope} {L₁ a₁ L' : Addr} {ccd : Value} {cl : List (Str × Addr)} {outer : List Env} {base g : Heap} {m : Str → Option Value}
set_option maxHeartbeats 4000000 in
theorem ch_all (B : Below (ktrTop dp un gd cn cs L₁ a₁ ccd cl outer) base (envX cn cs L₁ a₁ ccd cl :: outer) g) (X : (myK w.params).In g) (T : Top p loose mean mg mb g) :
    EvAll w ((ktrTop dp un gd cn cs L₁ a₁ ccd cl outer).deeper (sgE L')) g L' m (sgE L') chE chLs := by
  unfold chLs
  repeat' (first
    | exact EvAll.nil
    | exact CInts.nil
    | apply CInts.cons
    | ((with_reducible show EvAll _ _ _ _ _ _ _ _); refine EvAll.cons ?_ rfl ?_)
    | (refine Ev.add ?_ ?_ (by rw [sizeLine_eq]; exact Nat.le_of_ble_eq_true rfl))
    | (refine Ev.ints ?_ (by rw [sizeLine_eq]; exact Nat.le_of_ble_eq_true rfl))
    | (refine ev_range _ _ _ (by assumption) (by assumption) (by assumption) (by decide) (by decide) (by decide) rfl (by decide))
    | (refine ev_planes (by assumption) (by assumption) (by assumption) (by with_unfolding_all rfl) (by decide) rfl (by decide) rfl rfl (by decide) (by decide) (by decide)))
theorem ch_small : chLs.length ≤ sizeLine := by rw [sizeLine_eq]; exact Nat.le_of_ble_eq_true rfl
theorem ev_choicesC {A : Around} {env : Env} {pos : Pos} {elts : List PySem.Expr} {nss : List (List Int)} {s : Shared} {Q E : Value → Shared → Prop} {news : List (Addr × Obj)} {c} (hc : eval (.List elts pos) env = c) (H : EvAll w A g L' m env elts nss) (F : Fr g L' s.heap m) (N : News g L' s.heap news) (hsz : nss.length ≤ sizeLine)
    (h : ∀ C cvs bk' h' tk, Fr g L' h' m → News g L' h' ((C, listOf cvs.toArray 0) :: (bk' ++ news)) → ChRel bk' cvs nss → (∀ q ∈ bk', q.2.cls = .type "list") → Q (.ref C) { s with heap := h', toks := tk }) : wpAny (model pw w) A c Q E s := by
  subst hc
  exact ev_choices H F N hsz h
theorem ch_choices {pos : Pos} {s : Shared} {Q E : Value → Shared → Prop} {news : List (Addr × Obj)} {c} (hc : eval (.List chE pos) (sgE L') = c) (B : Below (ktrTop dp un gd cn cs L₁ a₁ ccd cl outer) base (envX cn cs L₁ a₁ ccd cl :: outer) g) (X : (myK w.params).In g) (T : Top p loose mean mg mb g) (F : Fr g L' s.heap m) (N : News g L' s.heap news)
    (h : ∀ C cvs bk' h' tk, Fr g L' h' m → News g L' h' ((C, listOf cvs.toArray 0) :: (bk' ++ news)) → ChRel bk' cvs chLs → (∀ q ∈ bk', q.2.cls = .type "list") → Q (.ref C) { s with heap := h', toks := tk }) :
    wpAny (model pw w) ((ktrTop dp un gd cn cs L₁ a₁ ccd cl outer).deeper (sgE L')) c Q E s := ev_choicesC hc (ch_all B X T) F N ch_small h
end
theorem cls_app {bk' : List (Addr × Obj)} {C D NB n1 n2 n3 : Nat} {a b c : List Value} (h : ∀ q ∈ bk', q.2.cls = .type "list") : ∀ q ∈ ((C, listOf a.toArray n1) :: (bk' ++ [(D, listOf b.toArray n2), (NB, listOf c.toArray n3)]) : List (Addr × Obj)), q.2.cls = .type "list" := by
  intro q hq
  rcases List.mem_cons.mp hq with rfl | hq
  · rfl
  · rcases List.mem_append.mp hq with hq | hq
    · exact h q hq
    · rcases List.mem_cons.mp hq with rfl | hq
      · rfl
      · rw [List.mem_singleton.mp hq]
section
variable {w : World} {p : Program} {loose : List Str} {mean : ExcName → Option Value} {mg mb : Str → Option Value} {dp un : Nat} {gd : Option (List Code)} {cn : Str} {cs : Scope} {L₁ a₁ L' : Addr} {ccd : Value} {cl : List (Str × Addr)} {outer : List Env} {base g : Heap} {m₀ : Str → Option Value}
theorem signs_tailC {s : Shared} {Q : Flow → Shared → Prop} {E : Value → Shared → Prop} {bk : List (Addr × Obj)} {C NB cnn kn : Nat} {cvs nvs : List Value} {ns : List Int} {c} (hc : execs sgB (sgE L') = c)
    (B : Below (ktrTop dp un gd cn cs L₁ a₁ ccd cl outer) base (envX cn cs L₁ a₁ ccd cl :: outer) g) (X : (myK w.params).In g) (T : Top p loose mean mg mb g) (hcs : cs.kind = .function) (hd : dp + 4 < recursionLimit) (hu : un + 30 * 4 < cLine)
    (hE : PassesOwn (model pw w) ((ktrTop dp un gd cn cs L₁ a₁ ccd cl outer).deeper (sgE L')) (sgE L') E)
    (F : Fr g L' s.heap (fun z => if z = Str.ofString "choices" then some (.ref C) else if z = Str.ofString "numbers" then some (.ref NB) else m₀ z)) (N : News g L' s.heap bk)
    (hC : (C, listOf cvs.toArray cnn) ∈ bk) (hch : ChRel bk cvs chLs) (hNB : (NB, listOf nvs.toArray kn) ∈ bk) (hi : IntsAre nvs ns) (h9 : Nine ns) (hcl : ∀ q ∈ bk, q.2.cls = .type "list")
    (hret : ∀ S svs sn tl rows h' tk m', Fr g L' h' m' → News g L' h' ((S, listOf svs.toArray sn) :: tl) → (∀ q ∈ bk, q ∈ tl) → PRows tl svs rows → rows.length = 9 → (∀ r ∈ rows, OkSign r) → (∀ q ∈ tl, q.2.cls = .type "list" ∨ q.2.cls = .type "tuple") → (∀ q ∈ tl, q.1 ≠ S) → Q (.ret (.ref S)) { s with heap := h', toks := tk }) :
    wpAny (model pw w) ((ktrTop dp un gd cn cs L₁ a₁ ccd cl outer).deeper (sgE L')) c Q E s := by
  subst hc
  exact signs_tail B X T hcs hd hu hE F N hC hch hNB hi h9 hcl hret
end
set_option maxHeartbeats 4000000 in
theorem signs_spec {w : World} (H : Nat) (vs : List Value) (xs : List Int) (hi : IntsAre vs xs) (h63 : xs.length ≤ 63) : SpecP 4 w 307 [.ref H] [] (fun h => h.IsList H vs.toArray)
    (fun _ v new => ∃ S svs sn tl rows, v = .ref S ∧ new = (S, listOf svs.toArray sn) :: tl ∧ PRows tl svs rows ∧ rows.length = 9 ∧ (∀ r ∈ rows, OkSign r) ∧ (∀ q ∈ tl, q.2.cls = .type "list" ∨ q.2.cls = .type "tuple") ∧ (∀ q ∈ tl, q.1 ≠ S)) := by
  walk_at "m begin"
  have hlg := isList_nil (by assumption) (by assumption)
  have «stop exec For Tuple Call» := True.intro
  have «stop call type:enumerate» := True.intro
  have «stop getItem ref int» := True.intro
  have «stop setItem ref int» := True.intro
  have «stop UnrEndW» := True.intro
  have «stop newList» := True.intro
  have «stop eval List» := True.intro
  have «stop execs cons Assign cons» := True.intro
  repeat' (first
    | ((with_reducible show StopK _ _); first
        | ((with_reducible refine goK "execs cons Assign cons" ?_); (have hch9 := hch'); (rename Fr _ _ _ _ => lF'); (rename News _ _ _ _ => lN'); (try clear hc9'); (generalize hc9' : execs _ _ = c9'); k_dflt (refine' signs_tailC hc9' ?B ?X ?T ?hcs ?hd ?hu ?hE (fr2 lF' ?ha ?hb) lN' (.head _) (hch'.mono fun q hq => .tail _ (List.mem_append_left _ hq)) (.tail _ (List.mem_append_right _ (.tail _ (.head _)))) hns' h9' (cls_app hbl') ?_; (case B => assumption); (case X => assumption); (case T => assumption); (case hcs => assumption); (case hd => assumption); (case hu => assumption); (case hE => first | passes_own | with_unfolding_all passes_own); (case ha => exact if_pos rfl); (case hb => (rw [if_neg (by decide)]; rw [if_neg (by decide)]; exact if_pos rfl))); clear lF' lN' hch9 hc9'; intro S' svs' sn' tl' rows' h' tk' m' F' N' hb' hr' hl' hok' hc' hs')
        | ((with_reducible refine goK "eval List" ?_); (rename Fr _ _ _ _ => lF'); (rename News _ _ _ _ => lN'); (generalize hc9' : eval (PySem.Expr.List _ _) _ = c9'); k_dflt (refine' ch_choices hc9' ?hB ?hX ?hT lF' lN' ?_; (case hB => assumption); (case hX => assumption); (case hT => assumption)); clear lF' lN'; intro C' cvs' bk' h' tk' F' N' hch' hbl')
        | ((with_reducible refine goK "newList" ?_); (rename Fr _ _ _ _ => lF'); (rename News _ _ _ _ => lN'); k_dflt (refine' newList_ints lF' lN' ?k3 ?_ ?k5; (case k3 => (repeat' (first | exact IntsAre.nil | apply IntsAre.cons))); (case k5 => exact szl (Nat.le_of_ble_eq_true rfl)); k_whole); clear lF' lN'; intro l' us' h' tk' F' N' l1 hI'; (try k_lt l1); (try k_sweep))
        | ((with_reducible refine goK "UnrEndW" ?_); (rename Fr _ _ _ _ => lF'); (rename News _ _ _ _ => lN'); k_dflt (refine' nums_end lF' lN' hlt' ?hr hqs' hq9'; (case hr => intro z h3; (simp only [sgS, List.contains_cons, List.contains_nil, Bool.or_false, Bool.or_eq_false_iff, beq_eq_false_iff_ne, ne_eq] at h3); (simp [sgS, h3]; done))))
        | ((with_reducible refine goK "setItem ref int" ?_); k_dflt (refine' set_nine ?F ?N hns' h9' ?h0 ?h1 ?hx ?U ?_; (case F => k_asm); (case N => k_asm); (case h0 => exact Int.fmod_nonneg_of_pos _ (by decide)); (case h1 => exact Int.fmod_lt_of_pos _ (by decide)); (case hx => exact Int.add_nonneg (by assumption) (Int.fmod_nonneg_of_pos _ (by decide))); (case U => exact fun q9 => by k_upd)); intro h' qs' ms' hqs' hq9' F' N'; (try k_sweep))
        | ((with_reducible refine goK "getItem ref int" ?_); k_dflt (refine' get_nine ?N ?hm hns' h9' ?h0 ?h1 ?_; (case N => k_asm); (case hm => k_mem); (case h0 => exact Int.fmod_nonneg_of_pos _ (by decide)); (case h1 => exact Int.fmod_lt_of_pos _ (by decide))); intro y' ty' hy')
        | ((with_reducible refine goK "call type:enumerate" ?_); (rename Fr _ _ _ _ => lF'); (rename News _ _ _ _ => lN'); k_dflt (refine' nums_loop (by assumption) (by assumption) nine0 rfl lF' lN' ?_ ?_; clear lF' lN'; intro I' i' x' tx' u' h' tk' T' t' oe' oi' nvs' kn' ns' hlt' ho1' ho2' hns' h9' hT' F' N'; rotate_left 1; clear lF' lN'; intro u' h' tk' nvs' kn' ns' hns' h9' F' N'; rotate_right 1))
        | ((with_reducible refine goK "exec For Tuple Call" ?_); (rename Fr _ _ _ _ => lF'); k_dflt (refine' For_turns lF' ?_))
        | ((with_reducible refine goK _ ?_); have noK9 := True.intro; walk_at "m step"; all_goals (try clear noK9)))
    | walk_at "m step")
  exact hret _ ((S', listOf svs'.toArray sn') :: tl') _ _ ⟨S', svs', sn', tl', rows', rfl, rfl, hr', hl', hok', hc', hs'⟩ (by assumption) (by assumption) (by assumption) (hFrOf (by assumption) N')
end
section
open PySem.Calls
theorem pick_all (vs : List Value) : (slicePick vs.toArray none none none).toList = vs := by
  rw [kmk_pick_nat (a := 0) (b := vs.length) vs.toArray (by simp [sliceBounds])]
  simp
theorem pick_allA (vs : List Value) : slicePick vs.toArray none none none = vs.toArray := by rw [← Array.toList_inj]; exact pick_all vs
/-- two items -/
noncomputable abbrev tupV (a b : Value) : Obj := { cls := .type "tuple", data := .seq #[a, b] }
inductive Pairs (tl : List (Addr × Obj)) : List Value → List (Value × Value) → Prop
  | nil : Pairs tl [] []
  | cons {T : Addr} {a b : Value} {vs : List Value} {ps : List (Value × Value)} : (T, tupV a b) ∈ tl → Pairs tl vs ps → Pairs tl (.ref T :: vs) ((a, b) :: ps)
theorem Pairs.at {tl : List (Addr × Obj)} {vs : List Value} {ps : List (Value × Value)} (h : Pairs tl vs ps) : ∀ {i : Nat} {v : Value}, vs[i]? = some v → ∃ T a b, v = .ref T ∧ (T, tupV a b) ∈ tl ∧ ps[i]? = some (a, b) := by
  induction h with
  | nil => intro i v e; simp at e
  | cons hm _ ih =>
    intro i v e
    cases i with
    | zero => simp at e; exact ⟨_, _, _, e.symm, hm, rfl⟩
    | succ i => exact ih (by simpa using e)
theorem Pairs.len {tl : List (Addr × Obj)} {vs : List Value} {ps : List (Value × Value)} (h : Pairs tl vs ps) : vs.length = ps.length := by
  induction h with
  | nil => rfl
  | cons _ _ ih => simp [ih]
theorem Pairs.mono {tl tl' : List (Addr × Obj)} {vs : List Value} {ps : List (Value × Value)} (h : Pairs tl vs ps) (hs : ∀ q ∈ tl, q ∈ tl') : Pairs tl' vs ps := by
  induction h with
  | nil => exact .nil
  | cons a _ ih => exact .cons (hs _ a) ih
section
variable {prog : Program} {w : World} {A : Around} {E : Value → Shared → Prop} {s : Shared} {h₀ : Heap} {L : Addr} {m : Str → Option Value} {env : Env}
theorem rest_snd {x x₂ : Str} {p : Pos} {scope : Scope} {cl : List (Str × Addr)} {S : List (Addr × Obj) → Prop} {Fin : List Value → List (Addr × Obj) → Prop} {vs : List Value} {ps : List (Value × Value)} {news : List (Addr × Obj)}
    (hp : Pairs news vs ps) (hS : S news) (hkind : scope.kind = .function) (hx₂ : scope.names.lookup x₂ = some .local) (bx : (x₂ == ("__debug__" : Str)) = false) (fin : Fin (ps.map (·.2)) news) : ∀ (k i : Nat), i + k = vs.length → LCp.CompRestP prog w A h₀ L m env (.Name x₂ p) x x₂ scope cl s S (fun i v => vs.toArray[i]? = some v) Fin k i ((ps.take i).map (·.2)) news
  | 0, i, e => by
    refine LCp.CompRestP.zero ?_
    rw [List.take_of_length_le (by rw [← hp.len]; omega)]
    exact fin
  | k + 1, i, e => by
    refine LCp.CompRestP.succ fun v hv => ?_
    obtain ⟨T, a, b, rfl, hm, hps⟩ := hp.at (by simpa using hv)
    refine ⟨T, _, a, b, _, rfl, hm, rfl, rfl, fun I oI C oC D m₂ h tk E' hC hx hy F N off ne => ?_⟩
    have hn : h.Ns C m₂ := hC.ns (N _ (.tail _ (.head _))).1
    refine wpAny_Name (wpAny_loadName_local hkind (lookup_relabel_local hx₂) hn hy ?_) bx
    refine ⟨h, tk, news, rfl, F, N, off, hS, ?_⟩
    have e9 : (ps.take i).map (·.2) ++ [b] = (ps.take (i + 1)).map (·.2) := by rw [List.take_add_one, hps, List.map_append]; rfl
    dsimp only
    rw [e9]
    exact rest_snd hp hS hkind hx₂ bx fin k (i + 1) (by omega)
theorem src_snd {x x₂ : Str} {p : Pos} {scope : Scope} {cl : List (Str × Addr)} {Fin : Shared → List Value → List (Addr × Obj) → Prop} {ax : Addr} {n : Nat} {vs : List Value} {ps : List (Value × Value)} {news : List (Addr × Obj)}
    (hh : A.handled = none) (F : Fr h₀ L s.heap m) (N : News h₀ L s.heap news) (hm : (ax, listOf vs.toArray n) ∈ news) (hp : Pairs news vs ps) (hsz : vs.length ≤ 100) (hkind : scope.kind = .function) (hx₂ : scope.names.lookup x₂ = some .local) (bx : (x₂ == ("__debug__" : Str)) = false)
    (fin : ∀ g, Fin { s with heap := g } (ps.map (·.2)) news) : LCp.SrcLP prog w A h₀ L m env (.Name x₂ p) x x₂ scope cl Fin (.ref ax) s := by
  refine LCp.SrcLP.ledger hh F N hm ?_ fun g => ?_
  · rw [List.size_toArray, sizeLine_eq]; exact Nat.le_trans hsz (by decide)
  · rw [List.size_toArray]
    exact rest_snd hp (.inr ⟨_, hm, rfl, _, rfl⟩) hkind hx₂ bx (fin g) vs.length 0 (by omega)
end
set_option maxHeartbeats 4000000 in
theorem items_spec {w : World} (a d l n nd : Nat) (tk : Tok) (vs : List Value) (hn : vs.length ≤ 64) : Spec 3 w 262 [.ref a]
    [(a, instObj 298 d), (d, dictOf [⟨PyData.keyHash w.params (Str.ofString "_headers"), .str (Str.ofString "_headers") tk, .ref l⟩] nd), (l, listOf vs.toArray n)]
    (fun _ v new => ∃ c, v = .ref c ∧ new = [(c, listOf vs.toArray 0), (a, instObj 298 d), (d, dictOf [⟨PyData.keyHash w.params (Str.ofString "_headers"), .str (Str.ofString "_headers") tk, .ref l⟩] nd), (l, listOf vs.toArray n)]) := by
  walk_at "m begin"
  walk_at "m steps"
  simp only [pick_allA] at *
  exact hret _ _ _ _ ⟨_, rfl, rfl⟩ (by assumption) (by assumption) (by assumption) (by walk_at "m fresh")
set_option maxHeartbeats 4000000 in
theorem values_spec {w : World} (a d l n nd : Nat) (tk t : Tok) (vs : List Value) (ps : List (Value × Value)) (tl : List (Addr × Obj)) (hps9 : Pairs tl vs ps) (hn : vs.length ≤ 64) : Spec 3 w 255 [.ref a]
    ((a, instObj 298 d) :: (d, dictOf [⟨PyData.keyHash w.params (Str.ofString "_headers"), .str (Str.ofString "_headers") tk, .ref l⟩] nd) :: (l, listOf vs.toArray n) :: tl)
    (fun _ v new => ∃ D, v = .ref D ∧ new = (D, LCg.lst (ps.map (·.2))) :: (a, instObj 298 d) :: (d, dictOf [⟨PyData.keyHash w.params (Str.ofString "_headers"), .str (Str.ofString "_headers") tk, .ref l⟩] nd) :: (l, listOf vs.toArray n) :: tl) := by
  walk_at "m begin"
  have «stop eval ListComp» := True.intro
  have «stop SrcLP» := True.intro
  repeat' (first
    | ((with_reducible show StopK _ _); first
        | ((with_reducible refine goK "SrcLP" ?_); (rename Fr _ _ _ _ => lF'); (rename News _ _ _ _ => lN'); k_dflt (refine' src_snd rfl lF' lN' ?hm (hps9.mono fun q hq => .tail _ (.tail _ (.tail _ hq))) (Nat.le_trans hn (by decide)) rfl rfl rfl ?_; (case hm => k_mem)); clear lF' lN'; intro g')
        | ((with_reducible refine goK "eval ListComp" ?_); k_dflt (refine LCp.ListComp_P (F₀ := by k_asm) (by with_unfolding_all rfl) (by decide) (by rfl) (by decide) (by rfl) (by rfl) (by decide) ?_))
        | ((with_reducible refine goK _ ?_); have noK9 := True.intro; walk_at "m step"; all_goals (try clear noK9)))
    | walk_at "m step")
  exact hret _ _ _ _ ⟨_, rfl, rfl⟩ (by assumption) (by assumption) (by assumption) (by walk_at "m fresh")
end
section
open PySem.Calls
noncomputable def fl (k : Nat) : UInt64 := Float64.ofInt k
noncomputable abbrev two64 : UInt64 := 0x4000000000000000
noncomputable abbrev Sum3 := Nat × Nat × Nat
noncomputable def corN (c : Int) : Sum3 := match c with
  | 0 => (1, 0, 0)
  | 1 => (1, 1, 0)
  | 2 => (0, 1, 0)
  | 3 => (0, 1, 1)
  | 4 => (0, 0, 1)
  | 5 => (1, 0, 1)
  | _ => (1, 1, 1)
noncomputable def colN (x : Sum3) : Int := match x with
  | (1, 0, 0) => 0
  | (1, 1, 0) => 1
  | (0, 1, 0) => 2
  | (0, 1, 1) => 3
  | (0, 0, 1) => 4
  | (1, 0, 1) => 5
  | _ => 6
noncomputable def addC (seat : Int) (x : Sum3) (oc : Option Int) : Sum3 := match oc with
  | some c => if c = seat then x else (x.1 + (corN c).1, x.2.1 + (corN c).2.1, x.2.2 + (corN c).2.2)
  | none => x
noncomputable def sayN (x : Sum3) (seat : Int) : Int := if (x.1 % 2, x.2.1 % 2, x.2.2 % 2) = (0, 0, 0) then 1 else if colN (x.1 % 2, x.2.1 % 2, x.2.2 % 2) = seat then 0 else 2
noncomputable def sumS (ocs : List (Option Int)) (seat : Int) : Sum3 := ocs.foldl (addC seat) (0, 0, 0)
noncomputable def sayF (ocs : List (Option Int)) (seat : Int) : Int := sayN (sumS ocs seat) seat
noncomputable def OKW (rows : List (Str × Str)) (x : Str) (oc : Option Int) : Prop := match oc with
  | some c => x = wordS c ∧ 0 ≤ c ∧ c < 7 ∧ getF rows (low x) = some (digS c)
  | none => getF rows (low x) = none
theorem fl_zero : fl 0 = 0 := by decide +kernel
theorem fl_one : fl 1 = one := by decide +kernel
theorem fl_add_all : (List.range 8).all (fun k => Float64.add (fl k) (fl 0) == fl k && Float64.add (fl k) (fl 1) == fl (k + 1) && (Float64.divmod (fl k) two64).2 == fl (k % 2)) = true := by decide +kernel
theorem fl_add {k d : Nat} (hk : k ≤ 7) (hd : d ≤ 1) : Float64.add (fl k) (fl d) = fl (k + d) := by
  have := List.all_eq_true.mp fl_add_all k (List.mem_range.mpr (by omega))
  simp only [Bool.and_eq_true, beq_iff_eq] at this
  obtain ⟨⟨a, b⟩, _⟩ := this
  obtain rfl | rfl : d = 0 ∨ d = 1 := by omega
  · exact a
  · exact b
theorem fl_mod {k : Nat} (hk : k ≤ 7) : (Float64.divmod (fl k) two64).2 = fl (k % 2) := by
  have := List.all_eq_true.mp fl_add_all k (List.mem_range.mpr (by omega))
  simp only [Bool.and_eq_true, beq_iff_eq] at this
  exact this.2
theorem corN_le (c : Int) : (corN c).1 ≤ 1 ∧ (corN c).2.1 ≤ 1 ∧ (corN c).2.2 ≤ 1 := by
  unfold corN
  split <;> decide
theorem hsv_cor_all : ([0, 1, 2, 3, 4, 5] : List Int).all (fun c => hsvF (Float64.div (Float64.ofInt c) (Float64.ofInt 6)) == (fl (corN c).1, fl (corN c).2.1, fl (corN c).2.2)) = true := by decide +kernel
theorem hsv_cor {c : Int} (h0 : 0 ≤ c) (h6 : c < 6) : hsvF (Float64.div (Float64.ofInt c) (Float64.ofInt 6)) = (fl (corN c).1, fl (corN c).2.1, fl (corN c).2.2) := by
  have m : c ∈ ([0, 1, 2, 3, 4, 5] : List Int) := by
    simp only [List.mem_cons, List.not_mem_nil, or_false]
    omega
  exact eq_of_beq (List.all_eq_true.mp hsv_cor_all c m)
theorem six_mem {c : Int} (h0 : 0 ≤ c) (h6 : c < 6) : Float64.div (Float64.ofInt c) (Float64.ofInt 6) ∈ sixths := by
  refine List.mem_map.mpr ⟨c, ?_, rfl⟩
  simp only [List.mem_cons, List.not_mem_nil, or_false]
  omega
noncomputable def tmpS : List Str := [Str.ofString "word", Str.ofString "value", Str.ofString "place", Str.ofString "corner"]
noncomputable abbrev redS : Str := Str.ofString "red"
noncomputable abbrev greenS : Str := Str.ofString "green"
noncomputable abbrev blueS : Str := Str.ofString "blue"
noncomputable def sayS : List Str := [redS, greenS, blueS, Str.ofString "word", Str.ofString "value", Str.ofString "place", Str.ofString "corner"]
section
variable {prog : Program} {w : World} {A : Around} {E : Value → Shared → Prop} {s : Shared} {env : Env} {h₀ : Heap} {target : Expr} {body : List Stmt} {Q : Flow → Shared → Prop}
noncomputable def SayJ (news : List (Addr × Obj)) (its : List (Str × Option Int)) (seat : Int) (m₀ : Str → Option Value) (k : Nat) (m : Str → Option Value) (nx : List (Addr × Obj)) : Prop :=
  nx = news ∧ (∀ z, sayS.contains z = false → m z = m₀ z) ∧ ∃ t1 t2 t3, m redS = some (.float (fl (sumS ((its.take k).map (·.2)) seat).1) t1) ∧ m greenS = some (.float (fl (sumS ((its.take k).map (·.2)) seat).2.1) t2) ∧ m blueS = some (.float (fl (sumS ((its.take k).map (·.2)) seat).2.2) t3)
theorem sum_le (seat : Int) : ∀ (ocs : List (Option Int)) (x : Sum3) (k : Nat), x.1 ≤ k → x.2.1 ≤ k → x.2.2 ≤ k → (ocs.foldl (addC seat) x).1 ≤ k + ocs.length ∧ (ocs.foldl (addC seat) x).2.1 ≤ k + ocs.length ∧ (ocs.foldl (addC seat) x).2.2 ≤ k + ocs.length
  | [], x, k, a, b, c => ⟨a, b, c⟩
  | oc :: r, x, k, a, b, c => by
    have h : (addC seat x oc).1 ≤ k + 1 ∧ (addC seat x oc).2.1 ≤ k + 1 ∧ (addC seat x oc).2.2 ≤ k + 1 := by
      unfold addC
      split
      · rename_i c'
        have := corN_le c'
        split
        · omega
        · dsimp only; omega
      · omega
    have := sum_le seat r (addC seat x oc) (k + 1) h.1 h.2.1 h.2.2
    simp only [List.foldl_cons, List.length_cons]
    omega
theorem sumS_le (seat : Int) (ocs : List (Option Int)) (h : ocs.length ≤ 7) : (sumS ocs seat).1 ≤ 7 ∧ (sumS ocs seat).2.1 ≤ 7 ∧ (sumS ocs seat).2.2 ≤ 7 := by
  have := sum_le seat ocs (0, 0, 0) 0 (Nat.le_refl _) (Nat.le_refl _) (Nat.le_refl _)
  unfold sumS
  omega
theorem sum_next (its : List (Str × Option Int)) (seat : Int) {k : Nat} {p : Str × Option Int} (e : its[k]? = some p) : sumS ((its.take (k + 1)).map (·.2)) seat = addC seat (sumS ((its.take k).map (·.2)) seat) p.2 := by
  unfold sumS
  rw [List.take_add_one, e, List.map_append, List.foldl_append]
  rfl
theorem fr_col {h : Heap} {L : Addr} {m₁ m₀ : Str → Option Value} {a b c : Value} (h1 : ∀ z, sayS.contains z = false → m₁ z = m₀ z) (ha : m₁ redS = some a) (hb : m₁ greenS = some b) (hc : m₁ blueS = some c) (F : Fr h₀ L h m₁) :
    Fr h₀ L h (fun z => if z = redS then some a else if z = greenS then some b else if z = blueS then some c else if tmpS.contains z = true then m₁ z else m₀ z) := by
  have e : (fun z => if z = redS then some a else if z = greenS then some b else if z = blueS then some c else if tmpS.contains z = true then m₁ z else m₀ z) = m₁ := by
    funext z
    by_cases q : z = redS
    · rw [if_pos q, q, ha]
    · rw [if_neg q]
      by_cases q2 : z = greenS
      · rw [if_pos q2, q2, hb]
      · rw [if_neg q2]
        by_cases q3 : z = blueS
        · rw [if_pos q3, q3, hc]
        · rw [if_neg q3]
          cases q4 : tmpS.contains z with
          | true => simp
          | false =>
            simp only [Bool.false_eq_true, if_false]
            refine (h1 z ?_).symm
            simp only [tmpS, List.contains_cons, List.contains_nil, Bool.or_false, Bool.or_eq_false_iff, beq_eq_false_iff_ne, ne_eq] at q4
            simp [sayS, q, q2, q3, q4]
  rw [e]; exact F
theorem strs_at {us : List Value} {xs : List Str} (h : StrsAre us xs) : ∀ {k : Nat} {v : Value} {x : Str}, us[k]? = some v → xs[k]? = some x → ∃ t, v = .str x t := by
  induction h with
  | nil => intro k v x e; simp at e
  | cons y t _ ih =>
    intro k v x hv hx
    cases k with
    | zero =>
      simp at hv hx
      exact ⟨_, by rw [← hv, hx]⟩
    | succ k => exact ih (by simpa using hv) (by simpa using hx)
theorem says_loop {R n : Nat} {us : List Value} {its : List (Str × Option Int)} {seat : Int} {m₀ : Str → Option Value} {news : List (Addr × Obj)} {t1 t2 t3 : Tok} (hs : StrsAre us (its.map (·.1))) (hz : its.length ≤ 7)
    (hh : A.handled = none) (F : Fr h₀ env.locals s.heap m₀) (N : News h₀ env.locals s.heap news) (hm : (R, listOf us.toArray n) ∈ news) (i1 : m₀ redS = some (.float 0 t1)) (i2 : m₀ greenS = some (.float 0 t2)) (i3 : m₀ blueS = some (.float 0 t3))
    (turn : ∀ (I : Addr) (p : Str × Option Int) tx (x : Sum3) t1 t2 t3 (u : Str → Option Value) h tk o k, p ∈ its → its[k]? = some p → x = sumS ((its.take k).map (·.2)) seat → x.1 ≤ 7 ∧ x.2.1 ≤ 7 ∧ x.2.2 ≤ 7 → o.cls = .type "list_iterator" →
      Fr h₀ env.locals h (fun z => if z = redS then some (.float (fl x.1) t1) else if z = greenS then some (.float (fl x.2.1) t2) else if z = blueS then some (.float (fl x.2.2) t3) else if tmpS.contains z = true then u z else m₀ z) → News h₀ env.locals h ((I, o) :: news) →
      wpAny (model prog w) A (assign target env (.str p.1 tx)) (fun _ s₂ => wpAny (model prog w) A (execs body env) (UnrPostW h₀ env.locals { s with heap := h, toks := tk } [(I, o)] (fun m' n' => (R, listOf us.toArray n) ∈ n' ∧ SayJ news its seat m₀ (k + 1) m' n') Q) E s₂) E { s with heap := h, toks := tk })
    (done : ∀ (x : Sum3) t1 t2 t3 (u : Str → Option Value) h tk, x = sumS (its.map (·.2)) seat → x.1 ≤ 7 ∧ x.2.1 ≤ 7 ∧ x.2.2 ≤ 7 → Fr h₀ env.locals h (fun z => if z = redS then some (.float (fl x.1) t1) else if z = greenS then some (.float (fl x.2.1) t2) else if z = blueS then some (.float (fl x.2.2) t3) else if tmpS.contains z = true then u z else m₀ z) → News h₀ env.locals h news → Q .next { s with heap := h, toks := tk }) :
    wpAny (model prog w) A (pyIter (.ref R)) (fun it s₂ => TurnsAt prog w A h₀ env target body Q E it s₂) E s := by
  have lu := hs.len_eq
  rw [List.length_map] at lu
  refine for_list (fun pre m nx => SayJ news its seat m₀ pre.length m nx) hh F N hm ⟨rfl, fun _ _ => rfl, t1, t2, t3, ?_, ?_, ?_⟩ ?_ ?_
  · rw [i1]; exact congrArg (fun x => some (Value.float x t1)) fl_zero.symm
  · rw [i2]; exact congrArg (fun x => some (Value.float x t2)) fl_zero.symm
  · rw [i3]; exact congrArg (fun x => some (Value.float x t3)) fl_zero.symm
  · rintro I pre v post m₁ nx h tk o hI e ⟨rfl, h1, u1, u2, u3, h2, h3, h4⟩ ho F₁ N₁
    have hp : pre.length < its.length := by rw [← lu, e]; simp
    have hv : us[pre.length]? = some v := by rw [e]; simp
    have hit : its[pre.length]? = some its[pre.length] := List.getElem?_eq_getElem hp
    obtain ⟨tx, rfl⟩ := strs_at hs hv (x := its[pre.length].1) (by rw [List.getElem?_map, hit]; rfl)
    have e2 : (pre ++ [Value.str its[pre.length].1 tx]).length = pre.length + 1 := by simp
    rw [e2]
    exact turn I its[pre.length] tx _ u1 u2 u3 m₁ h tk o pre.length (List.getElem_mem hp) hit rfl (sumS_le _ _ (by rw [List.length_map, List.length_take]; omega)) ho (fr_col h1 h2 h3 h4 F₁) N₁
  · rintro m₁ nx h tk ⟨rfl, h1, u1, u2, u3, h2, h3, h4⟩ F₁ N₁
    rw [lu, List.take_length] at h2 h3 h4
    exact done _ u1 u2 u3 m₁ h tk rfl (sumS_le _ _ (by rw [List.length_map]; exact hz)) (fr_col h1 h2 h3 h4 F₁) N₁
end
end
section
open PySem.Calls
theorem tab_cls4 {a d l n nd R k : Nat} {e : List DictEntry} {vs us : List Value} {T : String} (h1 : T ≠ "dict") (h2 : T ≠ "list") : ∀ p ∈ [(a, instObj 298 d), (d, dictOf e nd), (l, listOf vs.toArray n), (R, listOf us.toArray k)], p.2.cls ≠ .type T := by
  intro p hp
  simp only [List.mem_cons, List.not_mem_nil, or_false] at hp
  rcases hp with rfl | rfl | rfl | rfl
  · exact fun e => by cases e
  · exact fun e => by injection e with e; exact h1 e.symm
  · exact fun e => by injection e with e; exact h2 e.symm
  · exact fun e => by injection e with e; exact h2 e.symm
section
variable {h₀ h : Heap} {L : Addr} {I a d l R n nd k : Nat} {o : Obj} {e : List DictEntry} {vs us : List Value}
theorem say_perm {oa od ol oR : Obj} (N : News h₀ L h [(I, o), (a, oa), (d, od), (l, ol), (R, oR)]) : News h₀ L h ([(a, oa), (d, od), (l, ol)] ++ [(I, o), (R, oR)]) := fun p hp => N p (by
  simp only [List.cons_append, List.nil_append, List.mem_cons, List.not_mem_nil, or_false] at hp ⊢
  rcases hp with h | h | h | h | h
  · exact .inr (.inl h)
  · exact .inr (.inr (.inl h))
  · exact .inr (.inr (.inr (.inl h)))
  · exact .inl h
  · exact .inr (.inr (.inr (.inr h))))
theorem say_back {oa od ol oR : Obj} (N : News h₀ L h ([(a, oa), (d, od), (l, ol)] ++ [(I, o), (R, oR)])) : News h₀ L h [(I, o), (a, oa), (d, od), (l, ol), (R, oR)] := fun p hp => N p (by
  simp only [List.cons_append, List.nil_append, List.mem_cons, List.not_mem_nil, or_false] at hp ⊢
  rcases hp with h | h | h | h | h
  · exact .inr (.inr (.inr (.inl h)))
  · exact .inl h
  · exact .inr (.inl h)
  · exact .inr (.inr (.inl h))
  · exact .inr (.inr (.inr (.inr h))))
theorem cls_ne {p q : Addr × Obj} {all : List (Addr × Obj)} (N : News h₀ L h all) (hp : p ∈ all) (hq : q ∈ all) (hc : q.2.cls ≠ p.2.cls) : q.1 ≠ p.1 := fun x => by
  have h1 := (N _ hp).1
  have h2 := (N _ hq).1
  rw [x, h1] at h2
  exact hc (congrArg Obj.cls (Option.some.inj h2)).symm
theorem say_hne (N : News h₀ L h [(I, o), (a, instObj 298 d), (d, dictOf e nd), (l, listOf vs.toArray n), (R, listOf us.toArray k)]) (ho : o.cls = .type "list_iterator") (hR : @Ne Nat l R) : ∀ p ∈ [(I, o), (R, listOf us.toArray k)], ∀ q ∈ [(a, instObj 298 d), (d, dictOf e nd), (l, listOf vs.toArray n)], q.1 ≠ p.1 := by
  intro p hp q hq
  simp only [List.mem_cons, List.not_mem_nil, or_false] at hp hq
  rcases hp with rfl | rfl <;> rcases hq with rfl | rfl | rfl
  · exact cls_ne N (.head _) (.tail _ (.head _)) (by rw [ho]; exact fun e => by cases e)
  · exact cls_ne N (.head _) (.tail _ (.tail _ (.head _))) (by rw [ho]; exact fun e => by injection e with e; exact absurd e (by decide))
  · exact cls_ne N (.head _) (.tail _ (.tail _ (.tail _ (.head _)))) (by rw [ho]; exact fun e => by injection e with e; exact absurd e (by decide))
  · exact cls_ne N (.tail _ (.tail _ (.tail _ (.tail _ (.head _))))) (.tail _ (.head _)) (fun e => by cases e)
  · exact cls_ne N (.tail _ (.tail _ (.tail _ (.tail _ (.head _))))) (.tail _ (.tail _ (.head _))) (fun e => by injection e with e; exact absurd e (by decide))
  · exact hR
end
theorem frac6_all : ([0, 1, 2, 3, 4, 5] : List Int).all (fun c => Float64.ofFrac (decide (c < 0) != decide ((6 : Int) < 0)) c.natAbs (Int.natAbs 6) == Float64.div (Float64.ofInt c) (Float64.ofInt 6)) = true := by decide +kernel
theorem frac6 {c : Int} (h0 : 0 ≤ c) (h6 : c < 6) : Float64.ofFrac (decide (c < 0) != decide ((6 : Int) < 0)) c.natAbs (Int.natAbs 6) = Float64.div (Float64.ofInt c) (Float64.ofInt 6) := by
  have m : c ∈ ([0, 1, 2, 3, 4, 5] : List Int) := by
    simp only [List.mem_cons, List.not_mem_nil, or_false]
    omega
  exact eq_of_beq (List.all_eq_true.mp frac6_all c m)
theorem mod01 {k : Nat} (hk : k ≤ 7) : (Float64.divmod (fl k) two64).2 = 0 ∨ (Float64.divmod (fl k) two64).2 = one := by
  rw [fl_mod hk, ← fl_zero, ← fl_one]
  rcases Nat.mod_two_eq_zero_or_one k with h | h <;> rw [h]
  · exact .inl rfl
  · exact .inr rfl
theorem cor_hsv {c : Int} {b1 b2 b3 : UInt64} (h0 : 0 ≤ c) (h6 : c < 6) (e : (b1, b2, b3) = hsvF (Float64.div (Float64.ofInt c) (Float64.ofInt 6))) : b1 = fl (corN c).1 ∧ b2 = fl (corN c).2.1 ∧ b3 = fl (corN c).2.2 := by
  rw [hsv_cor h0 h6] at e
  simpa only [Prod.mk.injEq] using e
theorem cor_white {c : Int} {b1 b2 b3 : UInt64} (h0 : ¬ c < 6) (h6 : c < 7) (e : (b1, b2, b3) = (one, one, one)) : b1 = fl (corN c).1 ∧ b2 = fl (corN c).2.1 ∧ b3 = fl (corN c).2.2 := by
  obtain rfl : c = 6 := by omega
  simp only [Prod.mk.injEq] at e
  obtain ⟨rfl, rfl, rfl⟩ := e
  exact ⟨fl_one.symm, fl_one.symm, fl_one.symm⟩
noncomputable abbrev hueX (b1 : UInt64) : UInt64 := Float64.add (Float64.mul b1 4618441417868443648) 4602678819172646912
noncomputable def rgbOk (p q r : Nat) : Bool :=
  let b := rgbF (fl p) (fl q) (fl r)
  ((Float64.cmp b.2.2 0 == some Ordering.eq) == decide ((p, q, r) = (0, 0, 0))) && (decide ((p, q, r) = (0, 0, 0)) || if (Float64.cmp b.2.1 0 == some Ordering.eq) = true then colN (p, q, r) == 6 else !Float64.isNaN (hueX b.1) && !Float64.isInf (hueX b.1) && Flt.toInt Float64.truncOf (hueX b.1) == colN (p, q, r))
theorem rgb_all : ([0, 1] : List Nat).all (fun p => ([0, 1] : List Nat).all fun q => ([0, 1] : List Nat).all fun r => rgbOk p q r) = true := by decide +kernel
noncomputable abbrev par (x : Sum3) : Sum3 := (x.1 % 2, x.2.1 % 2, x.2.2 % 2)
theorem m2 (k : Nat) : k % 2 ∈ ([0, 1] : List Nat) := by
  rcases Nat.mod_two_eq_zero_or_one k with h | h <;> rw [h] <;> simp
theorem rgb_facts {x : Sum3} (hle : x.1 ≤ 7 ∧ x.2.1 ≤ 7 ∧ x.2.2 ≤ 7) {b1 b2 b3 : UInt64} (hb : (b1, b2, b3) = rgbF (Float64.divmod (fl x.1) two64).2 (Float64.divmod (fl x.2.1) two64).2 (Float64.divmod (fl x.2.2) two64).2) :
    (Float64.cmp b3 0 == some Ordering.eq) = decide (par x = (0, 0, 0)) ∧ (par x ≠ (0, 0, 0) → ((Float64.cmp b2 0 == some Ordering.eq) = true → colN (par x) = 6) ∧ ((Float64.cmp b2 0 == some Ordering.eq) = false → Float64.isNaN (hueX b1) = false ∧ Float64.isInf (hueX b1) = false ∧ Flt.toInt Float64.truncOf (hueX b1) = colN (par x))) := by
  rw [fl_mod hle.1, fl_mod hle.2.1, fl_mod hle.2.2] at hb
  have := List.all_eq_true.mp (List.all_eq_true.mp (List.all_eq_true.mp rgb_all _ (m2 x.1)) _ (m2 x.2.1)) _ (m2 x.2.2)
  unfold rgbOk at this
  dsimp only at this
  rw [← hb] at this
  simp only [Bool.and_eq_true, beq_iff_eq, Bool.or_eq_true, decide_eq_true_eq] at this
  obtain ⟨h1, h2⟩ := this
  refine ⟨h1, fun hn => ⟨fun q => ?_, fun q => ?_⟩⟩
  · rcases h2 with h2 | h2
    · exact absurd h2 hn
    · rw [if_pos (by simpa using q)] at h2
      simpa using h2
  · rcases h2 with h2 | h2
    · exact absurd h2 hn
    · rw [if_neg (by simpa using q)] at h2
      simpa [and_assoc] using h2
theorem say1 {ocs : List (Option Int)} {seat : Int} {x : Sum3} (hx : x = sumS ocs seat) (h : par x = (0, 0, 0)) : (1 : Int) = sayF ocs seat := by
  unfold sayF sayN
  rw [← hx, if_pos h]
theorem say0 {ocs : List (Option Int)} {seat : Int} {x : Sum3} (hx : x = sumS ocs seat) (h : par x ≠ (0, 0, 0)) (e : colN (par x) = seat) : (0 : Int) = sayF ocs seat := by
  unfold sayF sayN
  rw [← hx, if_neg h, if_pos e]
theorem say2 {ocs : List (Option Int)} {seat : Int} {x : Sum3} (hx : x = sumS ocs seat) (h : par x ≠ (0, 0, 0)) (e : colN (par x) ≠ seat) : (2 : Int) = sayF ocs seat := by
  unfold sayF sayN
  rw [← hx, if_neg h, if_neg e]
theorem wordS_inj {a b : Int} (a0 : 0 ≤ a) (a1 : a < 7) (b0 : 0 ≤ b) (b1 : b < 7) (h : wordS a = wordS b) : a = b := by
  have h1 := low_eq a0 a1 b0 b1
  have h2 := low_eq b0 b1 b0 b1
  rw [h, h2] at h1
  simpa using h1.symm
theorem say_end {h₀ h' : Heap} {L : Addr} {m' m₀ : Str → Option Value} {I R k j : Nat} {o : Obj} {us : List Value} {all news : List (Addr × Obj)} {its : List (Str × Option Int)} {seat : Int} {x x2 : Sum3} {p : Str × Option Int} {s₁ : Shared} {tk : Nat} {f1 f2 f3 : UInt64} {t1 t2 t3 : Tok} (F : Fr h₀ L h' m') (N : News h₀ L h' all) (ho : o.cls = .type "list_iterator")
    (hI : (I, o) ∈ all) (sub : ∀ p ∈ news, p ∈ all) (hR : (R, listOf us.toArray k) ∈ news) (off : ∀ p ∈ news, p.2.cls ≠ .type "list_iterator") (hk : its[j]? = some p) (hx : x = sumS ((its.take j).map (·.2)) seat) (hx2 : addC seat x p.2 = x2)
    (hr : ∀ z, sayS.contains z = false → m' z = m₀ z) (e1 : m' redS = some (.float f1 t1)) (e2 : m' greenS = some (.float f2 t2)) (e3 : m' blueS = some (.float f3 t3)) (g1 : f1 = fl x2.1) (g2 : f2 = fl x2.2.1) (g3 : f3 = fl x2.2.2) :
    UnrEndW h₀ L s₁ [(I, o)] (fun m' n' => (R, listOf us.toArray k) ∈ n' ∧ SayJ news its seat m₀ (j + 1) m' n') { s₁ with heap := h', toks := tk } := by
  refine t_end F N ho news hI sub (fun p hp => .inl (off p hp)) hR ⟨rfl, hr, t1, t2, t3, ?_, ?_, ?_⟩
  · rw [sum_next its seat hk, ← hx, hx2, e1, g1]
  · rw [sum_next its seat hk, ← hx, hx2, e2, g2]
  · rw [sum_next its seat hk, ← hx, hx2, e3, g3]
theorem addC_ne {seat c : Int} {x : Sum3} (h : c ≠ seat) : addC seat x (some c) = (x.1 + (corN c).1, x.2.1 + (corN c).2.1, x.2.2 + (corN c).2.2) := if_neg h
theorem addC_eq {seat c : Int} {x : Sum3} (h : c = seat) : addC seat x (some c) = x := if_pos h
theorem w_ne {seat c : Int} (h : (wordS c != wordS seat) = true) : c ≠ seat := by
  rintro rfl
  simp at h
theorem w_eq {seat c : Int} (a0 : 0 ≤ c) (a1 : c < 7) (b0 : 0 ≤ seat) (b1 : seat < 7) (h : (wordS c != wordS seat) = false) : c = seat := wordS_inj a0 a1 b0 b1 (by simpa using h)
theorem corB {x : Sum3} {k : Nat} {its : List (Str × Option Int)} {seat : Int} (hz : its.length ≤ 7) (hx : x = sumS ((its.take k).map (·.2)) seat) : x.1 ≤ 7 ∧ x.2.1 ≤ 7 ∧ x.2.2 ≤ 7 := by
  rw [hx]
  exact sumS_le _ _ (by rw [List.length_map, List.length_take]; omega)
local macro_rules | `(tactic| walk_at "m hr") => `(tactic| (intro z h3; (simp only [sayS, List.contains_cons, List.contains_nil, Bool.or_false, Bool.or_eq_false_iff, beq_eq_false_iff_ne, ne_eq] at h3); (simp [tmpS, h3]; done)))
set_option maxHeartbeats 4000000 in
theorem says_spec {w : World} (a d l n nd R k : Nat) (tk t : Tok) (vs us : List Value) (rows : List (Str × Str)) (its : List (Str × Option Int)) (seat : Int) (hlR : @Ne Nat l R) (hs0 : 0 ≤ seat) (hs7 : seat < 7) (hs9 : StrsAre us (its.map (·.1))) (hz9 : its.length ≤ 7) (hok9 : ∀ p ∈ its, OKW rows p.1 p.2 ∧ p.1.length ≤ 20 ∧ failsOn codeN (low p.1) = true) (hrl : ∀ r ∈ rows, r.1.length ≤ 64) :
    SpecP 5 w 333 [.ref a, .ref R, .int seat t]
    [(a, instObj 298 d), (d, dictOf [⟨PyData.keyHash w.params (Str.ofString "_headers"), .str (Str.ofString "_headers") tk, .ref l⟩] nd), (l, listOf vs.toArray n), (R, listOf us.toArray k)] (fun h => TRows h vs rows)
    (fun _ v new => (∃ t', v = .int (sayF (its.map (·.2)) seat) t') ∧ new = [(a, instObj 298 d), (d, dictOf [⟨PyData.keyHash w.params (Str.ofString "_headers"), .str (Str.ofString "_headers") tk, .ref l⟩] nd), (l, listOf vs.toArray n), (R, listOf us.toArray k)]) := by
  walk_at "m begin"
  have hTg := TRows.keep (by assumption) (by assumption) (tab_cls4 (by decide) (by decide)) (by assumption)
  have «stop call ref» := True.intro
  have «stop exec For Name Name cons nil» := True.intro
  have «stop pyIter ref» := True.intro
  repeat' (first
    | ((with_reducible show StopK _ _); first
        | ((with_reducible refine goK "pyIter ref" ?_); (with_reducible show wpAny _ _ (pyIter (Value.ref _)) (fun it s₂ => TurnsAt _ _ _ _ _ _ _ _ _ it s₂) _ _); (rename Fr _ _ _ _ => lF'); (rename News _ _ _ _ => lN'); (replace lN' : News _ _ _ [_, _, _, _] := fun p hp => lN' p (.tail _ hp)); k_dflt (refine' says_loop (seat := seat) hs9 hz9 rfl lF' lN' ?hm ?i1 ?i2 ?i3 ?_ ?_; (case hm => k_mem); (case i1 => with_unfolding_all rfl); (case i2 => with_unfolding_all rfl); (case i3 => with_unfolding_all rfl); clear lF' lN'; intro I' p' tx' x' t1' t2' t3' u' h' tk' o' k' hpm' hk' hx' hle' ho' F' N'; (obtain ⟨wx', oc'⟩ := p'); (have hwl' := (hok9 _ hpm').2.1); dsimp only at hwl'; rotate_left 1; clear lF' lN'; intro x' t1' t2' t3' u' h' tk' hx' hle' F' N'; rotate_right 1))
        | ((with_reducible refine goK "exec For Name Name cons nil" ?_); (rename Fr _ _ _ _ => lF'); k_dflt (refine' For_turns lF' ?_))
        | ((with_reducible refine goK "call ref" ?_); first | (k_dflt (refine' Spec.use0 (word_spec _ _ hs0 hs7) ?mB ?mF ?mK ?mN ?mT ?mk ?md ?mu ?_; walk_at "m use"); intro v' new' h' tk' n9' l9 hp' F' N' ne'; (obtain ⟨t9, hv', hn'⟩ := hp'); subst hv'; subst hn'; clear l9 ne'; (try simp only [List.cons_append, List.nil_append] at N')) | ((rename Fr _ _ _ _ => lF9); (rename News _ _ _ _ => lN9); k_dflt (refine' SpecP.to (get_spec _ _ _ _ _ _ _ _ rows _ (hok9 _ hpm').2.2 (Nat.le_trans (hok9 _ hpm').2.1 (by decide)) hrl) ?mp ?mB ?mF ?mK (say_perm lN9) ?mT ?mk ?md ?mu (say_hne lN9 ho' hlR) ?_; (case mB => k_asm); (case mF => k_asm); (case mK => k_asm); (case mT => k_asm); (case mk => first | exact rfl | assumption); (case md => ktr_room); (case mu => ktr_units); (case mp => exact TRows.keepF lF9 hTg)); clear lF9 lN9; intro v' new' h' tk' n9' l9 hp' F' N' ne' kk'; (obtain ⟨hn', hv'⟩ := hp'); subst hn'; clear l9 ne' kk'; (replace N' := say_back N'); (have hq9 := (hok9 _ hpm').1); unfold OKW at hq9; (rcases oc' with _ | c') <;> dsimp only at hq9 hv' <;> (first | (rw [hq9] at hv'; dsimp only at hv'; subst hv') | (obtain ⟨hw9, hc0', hc7', hg9⟩ := hq9; rw [hg9] at hv'; dsimp only at hv'; (obtain ⟨u9, hv9⟩ := hv'); subst hv9; subst hw9; unfold digS))) | ((rw [frac6 hc0' (by assumption)]); k_dflt (refine' Spec.use0 (hsv_spec _ (six_mem hc0' ?hx) _ _ _) ?mB ?mF ?mK ?mN ?mT ?mk ?md ?mu ?_; (case hx => first | assumption | omega); walk_at "m use"); intro v' new' h' tk' n9' l9 hp' F' N' ne'; (obtain ⟨D', b1', b2', b3', t91, t92, t93, hv', hn', hb9⟩ := hp'); subst hv'; subst hn'; clear l9; (obtain ⟨hb1, hb2, hb3⟩ := cor_hsv hc0' (by first | assumption | omega) hb9); subst hb1; subst hb2; subst hb3; (try simp only [List.cons_append, List.nil_append] at N')) | (k_dflt (refine' Spec.use0 (white_spec _ _ _) ?mB ?mF ?mK ?mN ?mT ?mk ?md ?mu ?_; walk_at "m use"); intro v' new' h' tk' n9' l9 hp' F' N' ne'; (obtain ⟨D', b1', b2', b3', t91, t92, t93, hv', hn', hb9⟩ := hp'); subst hv'; subst hn'; clear l9; (obtain ⟨hb1, hb2, hb3⟩ := cor_white (by first | assumption | omega) hc7' hb9); subst hb1; subst hb2; subst hb3; (try simp only [List.cons_append, List.nil_append] at N')) | (k_dflt (refine' Spec.use0 (rgb_spec _ _ _ (mod01 hle'.1) (mod01 hle'.2.1) (mod01 hle'.2.2) _ _ _) ?mB ?mF ?mK ?mN ?mT ?mk ?md ?mu ?_; walk_at "m use"); intro v' new' h' tk' n9' l9 hp' F' N' ne'; (obtain ⟨D', b1', b2', b3', t91, t92, t93, hv', hn', hb9⟩ := hp'); subst hv'; subst hn'; clear l9; (try simp only [List.cons_append, List.nil_append] at N')))
        | ((with_reducible refine goK _ ?_); have noK9 := True.intro; walk_at "m step"; all_goals (try clear noK9)))
    | walk_at "m step")
  · rename News _ _ _ _ => lN8
    rename Fr _ _ _ _ => lF8
    exact say_end lF8 lN8 ho' (.head _) (fun p hp => .tail _ hp) (.tail _ (.tail _ (.tail _ (.head _)))) (tab_cls4 (by decide) (by decide)) hk' hx' rfl (by walk_at "m hr") rfl rfl rfl rfl rfl rfl
  · rename News _ _ _ _ => lN8
    rename Fr _ _ _ _ => lF8
    exact say_end lF8 lN8 ho' (.tail _ (.head _)) (fun p hp => .tail _ (.tail _ hp)) (.tail _ (.tail _ (.tail _ (.head _)))) (tab_cls4 (by decide) (by decide)) hk' hx' (addC_ne (w_ne (by assumption))) (by walk_at "m hr") rfl rfl rfl (fl_add hle'.1 (corN_le c').1) (fl_add hle'.2.1 (corN_le c').2.1) (fl_add hle'.2.2 (corN_le c').2.2)
  · rename News _ _ _ _ => lN8
    rename Fr _ _ _ _ => lF8
    exact say_end lF8 lN8 ho' (.tail _ (.head _)) (fun p hp => .tail _ (.tail _ hp)) (.tail _ (.tail _ (.tail _ (.head _)))) (tab_cls4 (by decide) (by decide)) hk' hx' (addC_ne (w_ne (by assumption))) (by walk_at "m hr") rfl rfl rfl (fl_add hle'.1 (corN_le c').1) (fl_add hle'.2.1 (corN_le c').2.1) (fl_add hle'.2.2 (corN_le c').2.2)
  · rename News _ _ _ _ => lN8
    rename Fr _ _ _ _ => lF8
    exact say_end lF8 lN8 ho' (.head _) (fun p hp => .tail _ hp) (.tail _ (.tail _ (.tail _ (.head _)))) (tab_cls4 (by decide) (by decide)) hk' hx' (addC_eq (w_eq hc0' hc7' hs0 hs7 (by assumption))) (by walk_at "m hr") rfl rfl rfl rfl rfl rfl
  · obtain ⟨f1, f2⟩ := rgb_facts hle' hb9
    exact hret _ _ _ _ ⟨⟨_, congrArg (fun z => Value.int z _) (say1 hx' (of_decide_eq_true (f1.symm.trans (by assumption))))⟩, rfl⟩ (by assumption) (by walk_at "m news") (by assumption) (by walk_at "m fresh")
  · obtain ⟨f1, f2⟩ := rgb_facts hle' hb9
    have n0 : par x' ≠ (0, 0, 0) := of_decide_eq_false (f1.symm.trans (by assumption))
    exact hret _ _ _ _ ⟨⟨_, congrArg (fun z => Value.int z _) (say0 hx' n0 (((f2 n0).1 (by assumption)).trans (by assumption)))⟩, rfl⟩ (by assumption) (by walk_at "m news") (by assumption) (by walk_at "m fresh")
  · obtain ⟨f1, f2⟩ := rgb_facts hle' hb9
    have n0 : par x' ≠ (0, 0, 0) := of_decide_eq_false (f1.symm.trans (by assumption))
    exact hret _ _ _ _ ⟨⟨_, congrArg (fun z => Value.int z _) (say2 hx' n0 (by rw [(f2 n0).1 (by assumption)]; assumption))⟩, rfl⟩ (by assumption) (by walk_at "m news") (by assumption) (by walk_at "m fresh")
  · obtain ⟨f1, f2⟩ := rgb_facts hle' hb9
    have n0 : par x' ≠ (0, 0, 0) := of_decide_eq_false (f1.symm.trans (by assumption))
    exact absurd (by assumption : Float64.isNaN (hueX b1') = true) (by rw [((f2 n0).2 (by assumption)).1]; decide)
  · obtain ⟨f1, f2⟩ := rgb_facts hle' hb9
    have n0 : par x' ≠ (0, 0, 0) := of_decide_eq_false (f1.symm.trans (by assumption))
    exact absurd (by assumption : Float64.isInf (hueX b1') = true) (by rw [((f2 n0).2 (by assumption)).2.1]; decide)
  · obtain ⟨f1, f2⟩ := rgb_facts hle' hb9
    have n0 : par x' ≠ (0, 0, 0) := of_decide_eq_false (f1.symm.trans (by assumption))
    exact hret _ _ _ _ ⟨⟨_, congrArg (fun z => Value.int z _) (say0 hx' n0 (((f2 n0).2 (by assumption)).2.2.symm.trans (by assumption)))⟩, rfl⟩ (by assumption) (by walk_at "m news") (by assumption) (by walk_at "m fresh")
  · obtain ⟨f1, f2⟩ := rgb_facts hle' hb9
    have n0 : par x' ≠ (0, 0, 0) := of_decide_eq_false (f1.symm.trans (by assumption))
    exact hret _ _ _ _ ⟨⟨_, congrArg (fun z => Value.int z _) (say2 hx' n0 (by rw [← ((f2 n0).2 (by assumption)).2.2]; assumption))⟩, rfl⟩ (by assumption) (by walk_at "m news") (by assumption) (by walk_at "m fresh")
end
open PySem.Calls
noncomputable abbrev lwC (L : Addr) : List (Str × Addr) := [(Str.ofString "roll", L + 1 + 1 + 1 + 1 + 1), (Str.ofString "hats", L + 1 + 1 + 1 + 1), (Str.ofString "names", L + 1 + 1 + 1), (Str.ofString "table", L + 1 + 1), (Str.ofString "seat", L + 1)]
noncomputable abbrev lwE (L fa : Addr) (cd : Value) : Env := envX (Str.ofString "law") sc33 L fa cd (lwC L)
noncomputable abbrev lwA (dp un : Nat) (gd : Option (List Code)) (L fa : Addr) (cd : Value) : Around := ktrTop dp un gd (Str.ofString "law") sc33 L fa cd (lwC L) []
noncomputable abbrev cl5 (L : Nat) (o1 o2 o3 o4 o5 : Obj) (tl : List (Addr × Obj)) : List (Addr × Obj) := (L + 1 + 1 + 1 + 1 + 1, o5) :: (L + 1 + 1 + 1 + 1, o4) :: (L + 1 + 1 + 1, o3) :: (L + 1 + 1, o2) :: (L + 1, o1) :: tl
noncomputable def wearS (ws : List Int) (r : Int × Int) : List Int := if ws.contains r.1 = true then ws.filter (fun k => k != r.1) else if r.1 < 7 then ws ++ [r.1] else ws
noncomputable def wornF (rows : List (Int × Int)) : List Int := rows.foldl wearS []
theorem wear_ok {ws : List Int} (h : WOk ws) {r : Int × Int} (h0 : 0 ≤ r.1) : WOk (wearS ws r) := by
  unfold wearS
  split
  · exact ⟨h.1.filter _, fun k hk => h.2 k (List.mem_filter.mp hk).1⟩
  · rename_i q
    split
    · rename_i q2
      have := h.tog h0 q2
      unfold togW at this
      rw [if_neg q] at this
      exact this
    · exact h
theorem worn_ok : ∀ (rows : List (Int × Int)) (ws : List Int), WOk ws → (∀ r ∈ rows, 0 ≤ r.1) → WOk (rows.foldl wearS ws)
  | [], _, h, _ => h
  | r :: rows, ws, h, hr => worn_ok rows _ (wear_ok h (hr r (.head _))) fun q hq => hr q (.tail _ hq)
theorem rem_ints {vs : List Value} {ws : List Int} (h : IntsAre vs ws) {k : Int} (nd : ws.Nodup) (hk : ws.contains k = true) : ∃ j q, kf_at k vs = some j ∧ ki_delL vs j = some q ∧ IntsAre q (ws.filter fun x => x != k) := by
  induction h with
  | nil => simp at hk
  | @cons i t vs ws h ih =>
    rw [List.nodup_cons] at nd
    by_cases e : i = k
    · subst e
      refine ⟨0, vs, ?_, rfl, ?_⟩
      · unfold kf_at
        have : isInt i (.int i t) = true := by simp [isInt]
        rw [this]; rfl
      · have : ((i :: ws).filter fun x => x != i) = ws := by
          rw [List.filter_cons]
          simp only [bne_self_eq_false, Bool.false_eq_true, if_false]
          rw [List.filter_eq_self]
          intro a ha
          simp
          rintro rfl
          exact nd.1 ha
        rw [this]; exact h
    · have hk' : ws.contains k = true := by
        have hm : k ∈ i :: ws := by simpa using hk
        rcases List.mem_cons.mp hm with q | q
        · exact absurd q.symm e
        · simpa using q
      obtain ⟨j, q, h1, h2, h3⟩ := ih nd.2 hk'
      refine ⟨j + 1, .int i t :: q, ?_, ?_, ?_⟩
      · unfold kf_at
        have : isInt k (.int i t) = false := by simp [isInt, e]
        rw [this, h1]; rfl
      · unfold ki_delL
        rw [h2]
      · have : ((i :: ws).filter fun x => x != k) = i :: ws.filter fun x => x != k := by
          rw [List.filter_cons]
          simp [e]
        rw [this]; exact .cons _ _ h3
theorem ints_kf {vs : List Value} {ws : List Int} (h : IntsAre vs ws) : kf_ints vs = true := by
  induction h with
  | nil => rfl
  | cons i t _ ih => exact ih
theorem PRows.at {tl : List (Addr × Obj)} {vs : List Value} {rs : List (Int × Int)} (h : PRows tl vs rs) : ∀ {i : Nat} {v : Value}, vs[i]? = some v → ∃ T t u r, v = .ref T ∧ (T, tupI r.1 r.2 t u) ∈ tl ∧ rs[i]? = some r := by
  induction h with
  | nil => intro i v e; simp at e
  | cons hm _ ih =>
    intro i v e
    cases i with
    | zero => simp at e; exact ⟨_, _, _, _, e.symm, hm, rfl⟩
    | succ i => exact ih (by simpa using e)
noncomputable abbrev pointS : Str := Str.ofString "point"
section
variable {prog : Program} {w : World} {A : Around} {E : Value → Shared → Prop} {s : Shared} {env : Env} {h₀ : Heap} {target : Expr} {body : List Stmt} {Q : Flow → Shared → Prop}
noncomputable def LwJ (L W S sn : Nat) (svs : List Value) (rows : List (Int × Int)) (o2 o3 o4 o5 : Obj) (tl : List (Addr × Obj)) (m₀ : Str → Option Value) (k : Nat) (m : Str → Option Value) (nx : List (Addr × Obj)) : Prop :=
  ∃ wvs wn o1 v1, nx = (W, listOf wvs.toArray wn) :: (S, listOf svs.toArray sn) :: cl5 L o1 o2 o3 o4 o5 tl ∧ o1.data = .cell v1 ∧ (∀ z, z ≠ pointS → m z = m₀ z) ∧ IntsAre wvs (wornF (rows.take k))
theorem frP {L : Addr} {h : Heap} {m₁ m₀ : Str → Option Value} (h1 : ∀ z, z ≠ pointS → m₁ z = m₀ z) (F : Fr h₀ L h m₁) : Fr h₀ L h (fun z => if z = pointS then m₁ z else m₀ z) := by
  have e : (fun z => if z = pointS then m₁ z else m₀ z) = m₁ := by
    funext z
    by_cases q : z = pointS
    · rw [if_pos q]
    · rw [if_neg q, h1 z q]
  rw [e]; exact F
theorem lw_loop {L W S sn : Nat} {svs : List Value} {rows : List (Int × Int)} {o1 o2 o3 o4 o5 : Obj} {v1 : Option Value} {tl : List (Addr × Obj)} {m₀ : Str → Option Value} (hp : PRows tl svs rows) (hok : ∀ r ∈ rows, OkSign r) (hh : A.handled = none) (F : Fr h₀ env.locals s.heap m₀)
    (N : News h₀ env.locals s.heap ((W, listOf #[] 0) :: (S, listOf svs.toArray sn) :: cl5 L o1 o2 o3 o4 o5 tl)) (hd : o1.data = .cell v1)
    (turn : ∀ (I k T : Nat) (a b : Int) (ta tb : Tok) wvs wn ws o1 v1 (u : Str → Option Value) h tk o, rows[k]? = some (a, b) → 0 ≤ a → a < 8 → ws = wornF (rows.take k) → IntsAre wvs ws → WOk ws → o1.data = .cell v1 → o.cls = .type "list_iterator" →
      (W < I ∧ S < I ∧ L + 1 + 1 + 1 + 1 + 1 < I ∧ L + 1 + 1 + 1 + 1 < I ∧ L + 1 + 1 + 1 < I ∧ L + 1 + 1 < I ∧ L + 1 < I) → IsTup h T #[.int a ta, .int b tb] →
      Fr h₀ env.locals h (fun z => if z = pointS then u z else m₀ z) → News h₀ env.locals h ((I, o) :: (W, listOf wvs.toArray wn) :: (S, listOf svs.toArray sn) :: cl5 L o1 o2 o3 o4 o5 tl) →
      wpAny (model prog w) A (assign target env (.ref T)) (fun _ s₂ => wpAny (model prog w) A (execs body env) (UnrPostW h₀ env.locals { s with heap := h, toks := tk } [(I, o)] (fun m' n' => (S, listOf svs.toArray sn) ∈ n' ∧ LwJ L W S sn svs rows o2 o3 o4 o5 tl m₀ (k + 1) m' n') Q) E s₂) E { s with heap := h, toks := tk })
    (done : ∀ wvs wn ws o1 v1 (u : Str → Option Value) h tk, ws = wornF rows → IntsAre wvs ws → WOk ws → o1.data = .cell v1 → Fr h₀ env.locals h (fun z => if z = pointS then u z else m₀ z) → News h₀ env.locals h ((W, listOf wvs.toArray wn) :: (S, listOf svs.toArray sn) :: cl5 L o1 o2 o3 o4 o5 tl) → Q .next { s with heap := h, toks := tk }) :
    wpAny (model prog w) A (pyIter (.ref S)) (fun it s₂ => TurnsAt prog w A h₀ env target body Q E it s₂) E s := by
  have l1 := hp.len
  have wok : ∀ k, WOk (wornF (rows.take k)) := fun k => worn_ok _ _ ⟨List.nodup_nil, fun _ h => nomatch h⟩ fun r hr => (hok r (List.mem_of_mem_take hr)).1
  refine for_list (fun pre m nx => LwJ L W S sn svs rows o2 o3 o4 o5 tl m₀ pre.length m nx) hh F N (.tail _ (.head _)) ⟨[], 0, o1, v1, rfl, hd, fun _ _ => rfl, .nil⟩ ?_ ?_
  · rintro I pre v post m₁ nx h tk o hI e ⟨wvs, wn, o1', v1', rfl, h1, h2, h3⟩ ho F₁ N₁
    have hv : svs[pre.length]? = some v := by rw [e]; simp
    obtain ⟨T, t, u, r, rfl, hm, hr⟩ := hp.at hv
    have e2 : (pre ++ [Value.ref T]).length = pre.length + 1 := by simp
    have hor := hok r (List.mem_of_getElem? hr)
    rw [e2]
    refine turn I pre.length T r.1 r.2 t u wvs wn _ o1' v1' m₁ h tk o hr hor.1 hor.2.1 rfl h3 (wok _) h1 ho ⟨hI _ (.head _), hI _ (.tail _ (.head _)), hI _ (.tail _ (.tail _ (.head _))), hI _ (.tail _ (.tail _ (.tail _ (.head _)))), hI _ (.tail _ (.tail _ (.tail _ (.tail _ (.head _))))), hI _ (.tail _ (.tail _ (.tail _ (.tail _ (.tail _ (.head _)))))), hI _ (.tail _ (.tail _ (.tail _ (.tail _ (.tail _ (.tail _ (.head _))))))) ⟩ ?_ (frP h2 F₁) N₁
    exact ⟨_, (N₁ _ (.tail _ (.tail _ (.tail _ (.tail _ (.tail _ (.tail _ (.tail _ (.tail _ hm))))))))).1, rfl, _, rfl⟩
  · rintro m₁ nx h tk ⟨wvs, wn, o1', v1', rfl, h1, h2, h3⟩ F₁ N₁
    have e : rows.take svs.length = rows := by rw [l1, List.take_length]
    rw [e] at h3
    have w2 := wok rows.length
    rw [List.take_length] at w2
    exact done wvs wn _ o1' v1' m₁ h tk rfl h3 w2 h1 (frP h2 F₁) N₁
end

section
variable {h₀ h : Heap} {L : Addr} {S : Addr × Obj} {tl : List (Addr × Obj)} {M : Nat} {o1 o2 o3 o4 o5 : Obj}
theorem sg_perm (N : News h₀ L h (S :: tl ++ cl5 M o1 o2 o3 o4 o5 [])) : News h₀ L h (S :: cl5 M o1 o2 o3 o4 o5 tl) := fun p hp => N p (by
  simp only [cl5, List.mem_cons, List.mem_append, List.not_mem_nil, or_false] at hp ⊢
  rcases hp with h | h | h | h | h | h | h
  · exact .inl (.inl h)
  · exact .inr (.inl h)
  · exact .inr (.inr (.inl h))
  · exact .inr (.inr (.inr (.inl h)))
  · exact .inr (.inr (.inr (.inr (.inl h))))
  · exact .inr (.inr (.inr (.inr (.inr h))))
  · exact .inl (.inr h))
theorem sg_ne (ne : ∀ q ∈ S :: tl, (∀ p ∈ ([] : List (Addr × Obj)), p.1 ≠ q.1) → ∀ p ∈ cl5 M o1 o2 o3 o4 o5 [], q.1 ≠ p.1) : ((@Ne Nat S.1 (M + 1 + 1 + 1 + 1 + 1)) ∧ (@Ne Nat S.1 (M + 1 + 1 + 1 + 1)) ∧ (@Ne Nat S.1 (M + 1 + 1 + 1)) ∧ (@Ne Nat S.1 (M + 1 + 1)) ∧ (@Ne Nat S.1 (M + 1))) ∧
    (∀ p ∈ tl, p.1 ≠ M + 1 + 1 + 1 + 1 + 1) ∧ (∀ p ∈ tl, p.1 ≠ M + 1 + 1 + 1 + 1) ∧ (∀ p ∈ tl, p.1 ≠ M + 1 + 1 + 1) ∧ (∀ p ∈ tl, p.1 ≠ M + 1 + 1) ∧ (∀ p ∈ tl, p.1 ≠ M + 1) := by
  have k := fun q hq => ne q hq fun _ h => nomatch h
  have m5 : (M + 1 + 1 + 1 + 1 + 1, o5) ∈ cl5 M o1 o2 o3 o4 o5 [] := .head _
  have m4 : (M + 1 + 1 + 1 + 1, o4) ∈ cl5 M o1 o2 o3 o4 o5 [] := .tail _ (.head _)
  have m3 : (M + 1 + 1 + 1, o3) ∈ cl5 M o1 o2 o3 o4 o5 [] := .tail _ (.tail _ (.head _))
  have m2 : (M + 1 + 1, o2) ∈ cl5 M o1 o2 o3 o4 o5 [] := .tail _ (.tail _ (.tail _ (.head _)))
  have m1 : (M + 1, o1) ∈ cl5 M o1 o2 o3 o4 o5 [] := .tail _ (.tail _ (.tail _ (.tail _ (.head _))))
  exact ⟨⟨k _ (.head _) _ m5, k _ (.head _) _ m4, k _ (.head _) _ m3, k _ (.head _) _ m2, k _ (.head _) _ m1⟩, fun p hp => k p (.tail _ hp) _ m5, fun p hp => k p (.tail _ hp) _ m4, fun p hp => k p (.tail _ hp) _ m3, fun p hp => k p (.tail _ hp) _ m2, fun p hp => k p (.tail _ hp) _ m1⟩
theorem allLt_tl {W : Nat} : ∀ {tl : List (Addr × Obj)}, AllLt W tl → ∀ p ∈ tl, p.1 ≠ W
  | [], _, _, hp => nomatch hp
  | q :: tl, h, p, hp => by
    rcases List.mem_cons.mp hp with rfl | hp
    · exact Nat.ne_of_lt h.1
    · exact allLt_tl h.2 p hp
end
local macro_rules | `(tactic| k_all) => `(tactic| first | assumption | exact allLt_tl (by assumption))
theorem lw_remove {prog : Program} {w : World} {A : Around} {E : Value → Shared → Prop} {s : Shared} {h₀ : Heap} {L : Addr} {m : Str → Option Value} {W wn I : Nat} {o : Obj} {wvs : List Value} {ws : List Int} {k : Int} {t : Tok} {r : List (Addr × Obj)} {Q : Value → Shared → Prop} (F : Fr h₀ L s.heap m) (N : News h₀ L s.heap ((I, o) :: (W, listOf wvs.toArray wn) :: r)) (hwi : IntsAre wvs ws) (hwo : WOk ws) (hc : ws.contains k = true) (hI : @Ne Nat I W) (hr : ∀ p ∈ r, p.1 ≠ W)
    (h : ∀ h' qs n, Fr h₀ L h' m → News h₀ L h' ((I, o) :: (W, listOf qs.toArray n) :: r) → IntsAre qs (ws.filter fun x => x != k) → Q .none { s with heap := h' }) : wpAny (model prog w) A (call (.builtin "list.remove") [.ref W, .int k t]) Q E s := by
  obtain ⟨j, q, h1, h2, h3⟩ := rem_ints hwi hwo.1 hc
  have l1 := hwi.length
  have l2 := hwo.len
  refine kf_remove (its := wvs.toArray) F N (ints_kf hwi) h1 h2 (.tail hI (.head hr)) ?_ fun h' F' N' => h h' q _ F' N' h3
  rw [sizeLine_eq]
  show wvs.length ≤ _
  omega
theorem lw_append {prog : Program} {w : World} {A : Around} {E : Value → Shared → Prop} {s : Shared} {h₀ : Heap} {L : Addr} {m : Str → Option Value} {W wn I : Nat} {o : Obj} {wvs : List Value} {ws : List Int} {k : Int} {t : Tok} {r : List (Addr × Obj)} {Q : Value → Shared → Prop} (F : Fr h₀ L s.heap m) (N : News h₀ L s.heap ((I, o) :: (W, listOf wvs.toArray wn) :: r)) (hwi : IntsAre wvs ws) (hwo : WOk ws) (hI : @Ne Nat I W) (hr : ∀ p ∈ r, p.1 ≠ W)
    (h : ∀ h' qs n, Fr h₀ L h' m → News h₀ L h' ((I, o) :: (W, listOf qs.toArray n) :: r) → IntsAre qs (ws ++ [k]) → Q .none { s with heap := h' }) : wpAny (model prog w) A (call (.builtin "list.append") [.ref W, .int k t]) Q E s := by
  have l1 := hwi.length
  have l2 := hwo.len
  refine append_K F N (.tail hI (.head hr)) (fun h' F' N' => h h' (wvs ++ [Value.int k t]) (wn + 1) F' ?_ ?_) (by rw [List.size_toArray, sizeLine_eq]; omega)
  · have e : wvs.toArray.push (Value.int k t) = (wvs ++ [Value.int k t]).toArray := by simp
    rw [e] at N'
    exact N'
  · clear h N F hwo l1 l2 N' F'
    induction hwi with
    | nil => exact .cons _ _ .nil
    | cons i u _ ih => exact .cons i u ih
theorem worn_next {rows : List (Int × Int)} {k : Nat} {r : Int × Int} (e : rows[k]? = some r) : wornF (rows.take (k + 1)) = wearS (wornF (rows.take k)) r := by
  unfold wornF
  rw [List.take_add_one, e, List.foldl_append]
  rfl
theorem lw_end {h₀ h' : Heap} {L : Addr} {m' m₀ : Str → Option Value} {I M W S sn qn k : Nat} {o o1 o2 o3 o4 o5 : Obj} {v1 : Option Value} {svs qs : List Value} {rows : List (Int × Int)} {r : Int × Int} {tl : List (Addr × Obj)} {s₁ : Shared} {tk : Nat} (F : Fr h₀ L h' m') (N : News h₀ L h' ((I, o) :: (W, listOf qs.toArray qn) :: (S, listOf svs.toArray sn) :: cl5 M o1 o2 o3 o4 o5 tl)) (ho : o.cls = .type "list_iterator")
    (hr : rows[k]? = some r) (hd : o1.data = .cell v1) (hlt : W < I ∧ S < I ∧ M + 1 + 1 + 1 + 1 + 1 < I ∧ M + 1 + 1 + 1 + 1 < I ∧ M + 1 + 1 + 1 < I ∧ M + 1 + 1 < I ∧ M + 1 < I) (hc : ∀ q ∈ tl, q.2.cls = .type "list" ∨ q.2.cls = .type "tuple") (hm : ∀ z, z ≠ pointS → m' z = m₀ z) (hq : IntsAre qs (wearS (wornF (rows.take k)) r)) :
    UnrEndW h₀ L s₁ [(I, o)] (fun m' n' => (S, listOf svs.toArray sn) ∈ n' ∧ LwJ M W S sn svs rows o2 o3 o4 o5 tl m₀ (k + 1) m' n') { s₁ with heap := h', toks := tk } := by
  refine t_end F N ho ((W, listOf qs.toArray qn) :: (S, listOf svs.toArray sn) :: cl5 M o1 o2 o3 o4 o5 tl) (.head _) (fun p hp => .tail _ hp) (fun p hp => ?_) (.tail _ (.head _)) ⟨qs, qn, o1, v1, rfl, hd, hm, by rw [worn_next hr]; exact hq⟩
  simp only [cl5, List.mem_cons] at hp
  rcases hp with rfl | rfl | rfl | rfl | rfl | rfl | rfl | hp
  · exact .inr (na (by dsimp only; walk_at "m ne9"))
  · exact .inr (na (by dsimp only; walk_at "m ne9"))
  · exact .inr (na (by dsimp only; walk_at "m ne9"))
  · exact .inr (na (by dsimp only; walk_at "m ne9"))
  · exact .inr (na (by dsimp only; walk_at "m ne9"))
  · exact .inr (na (by dsimp only; walk_at "m ne9"))
  · exact .inr (na (by dsimp only; walk_at "m ne9"))
  · refine .inl ?_
    rcases hc p hp with e | e <;> rw [e] <;> exact fun e => by injection e with e; exact absurd e (by decide)
theorem wear1 {ws : List Int} {r : Int × Int} (h : ws.contains r.1 = true) : wearS ws r = ws.filter fun k => k != r.1 := if_pos h
theorem wear2 {ws : List Int} {r : Int × Int} (h : ws.contains r.1 = false) (h2 : r.1 < 7) : wearS ws r = ws ++ [r.1] := by
  unfold wearS
  rw [if_neg (by rw [h]; exact Bool.false_ne_true), if_pos h2]
theorem wear3 {ws : List Int} {r : Int × Int} (h : ws.contains r.1 = false) (h2 : ¬ r.1 < 7) : wearS ws r = ws := by
  unfold wearS
  rw [if_neg (by rw [h]; exact Bool.false_ne_true), if_neg h2]
noncomputable def Stop9 (P : Prop) : Prop := P
theorem stop9 {P : Prop} (h : Stop9 P) : P := h
section
variable {w : World} {p : Program} {loose : List Str} {mean : ExcName → Option Value} {mg mb : Str → Option Value} {dp un : Nat} {gd : Option (List Code)} {A₀ : Around} {L fa : Addr} {cd : Value} {base h₀ : Heap}
set_option maxHeartbeats 4000000 in
theorem lawA {s : Shared} {Q : Flow → Shared → Prop} {E : Value → Shared → Prop} {o1 o2 o3 o4 o5 : Obj} {H9 : Addr} {vs9 : List Value} {xs9 : List Int} (hi9 : IntsAre vs9 xs9) (h639 : xs9.length ≤ 63)
    (B : Below A₀ base [] h₀) (X : (myK w.params).In h₀) (T : Top p loose mean mg mb h₀) (hE : PassesOwn (model pw w) (lwA dp un gd L fa cd) (lwE L fa cd) E) (hd : dp + 20 < recursionLimit) (hu : un + 30 * 20 < cLine) (hbl9 : h₀.IsList H9 vs9.toArray)
    (F : Fr h₀ L s.heap (fun z => if z = Str.ofString "script" then some (.ref H9) else none)) (N : News h₀ L s.heap (cl5 L o1 o2 o3 o4 o5 [])) (d1 : o1.data = .cell none) (d2 : o2.data = .cell none) (d3 : o3.data = .cell none) (d4 : o4.data = .cell none) (d5 : o5.data = .cell none)
    (hk : ∀ c, execs (bo33.drop 3) (lwE L fa cd) = c → ∀ (W wn S sn : Nat) svs rows tl wvs ws o1 v1 h' tk (m₀ : Str → Option Value), PRows tl svs rows → rows.length = 9 → (∀ r ∈ rows, OkSign r) → IntsAre wvs ws → ws = wornF rows → WOk ws → o1.data = .cell v1 →
      Fr h₀ L h' (fun z => if z = Str.ofString "signs" then some (.ref S) else if z = Str.ofString "worn" then some (.ref W) else m₀ z) → News h₀ L h' ((W, listOf wvs.toArray wn) :: (S, listOf svs.toArray sn) :: cl5 L o1 o2 o3 o4 o5 tl) →
      @LT.lt Nat _ S W ∧ @LT.lt Nat _ (L + 1 + 1 + 1 + 1 + 1) W ∧ @LT.lt Nat _ (L + 1 + 1 + 1 + 1) W ∧ @LT.lt Nat _ (L + 1 + 1 + 1) W ∧ @LT.lt Nat _ (L + 1 + 1) W ∧ @LT.lt Nat _ (L + 1) W → (∀ p ∈ tl, p.1 ≠ W) → wpAny (model pw w) (lwA dp un gd L fa cd) c Q E { s with heap := h', toks := tk })
    {c9} (hc9 : execs bo33 (lwE L fa cd) = c9) :
    wpAny (model pw w) (lwA dp un gd L fa cd) c9 Q E s := by
  subst hc9
  have «stop call ref» := True.intro
  have «stop exec For Tuple Name cons nil» := True.intro
  have «stop pyIter ref» := True.intro
  have «stop compareOp In int ref» := True.intro
  have «stop call builtin:list.remove» := True.intro
  have «stop call builtin:list.append» := True.intro
  have «stop execs cons» := True.intro
  repeat' (first
    | ((with_reducible show StopK _ _); first
        | ((with_reducible refine goK "execs cons" ?_); (have hw9 := hws'); (fail_if_success (have hr9 := hr')); refine stop9 ?_)
        | ((with_reducible refine goK "call builtin:list.append" ?_); (rename Fr _ _ _ _ => lF'); (rename News _ _ _ _ => lN'); k_dflt (refine' lw_append lF' lN' hwi' hwo' ?hI ?hr ?_; (case hI => exact na (by walk_at "m ne9")); (case hr => refine List.forall_mem_cons.mpr ⟨?a, ?b⟩; (case a => k_ne); (case b => k_all))); clear lF' lN'; intro h' qs' qn' F' N' hqi')
        | ((with_reducible refine goK "call builtin:list.remove" ?_); (rename Fr _ _ _ _ => lF'); (rename News _ _ _ _ => lN'); k_dflt (refine' lw_remove lF' lN' hwi' hwo' (by assumption) ?hI ?hr ?_; (case hI => exact na (by walk_at "m ne9")); (case hr => refine List.forall_mem_cons.mpr ⟨?a, ?b⟩; (case a => k_ne); (case b => k_all))); clear lF' lN'; intro h' qs' qn' F' N' hqi')
        | ((with_reducible refine goK "compareOp In int ref" ?_); (rename News _ _ _ _ => lN'); k_dflt (refine' in_ints (News.isList lN' (.tail _ (.head _))) hwi' ?_))
        | ((with_reducible refine goK "pyIter ref" ?_); (with_reducible show wpAny _ _ (pyIter (Value.ref _)) (fun it s₂ => TurnsAt _ _ _ _ _ _ _ _ _ it s₂) _ _); (rename Fr _ _ _ _ => lF'); (rename News _ _ _ _ => lN'); k_dflt (refine' lw_loop hpr' hok' rfl lF' lN' ?hd ?_ ?_; (case hd => assumption); clear lF' lN'; intro I' k' T' a' b' ta' tb' wvs' wn' ws' o1' v1' u' h' tk' o' hr' ha0' ha8' hws' hwi' hwo' hd1' ho' hlt' hT' F' N'; rotate_left 1; clear lF' lN'; intro wvs' wn' ws' o1' v1' u' h' tk' hws' hwi' hwo' hd1' F' N'; rotate_right 1))
        | ((with_reducible refine goK "exec For Tuple Name cons nil" ?_); (rename Fr _ _ _ _ => lF'); k_dflt (refine' For_turns lF' ?_ ?hs ?hE; (case hs => intro _; rfl); (case hE => assumption)))
        | ((with_reducible refine goK "call ref" ?_); (rename Fr _ _ _ _ => lF9); k_dflt (refine' SpecP.to (led := []) (signs_spec H9 vs9 xs9 hi9 h639) ?mp ?mB ?mF ?mK ?mN ?mT ?mk ?md ?mu (fun _ _ _ h => nomatch h) ?_; (case mp => exact hbl9.at fun o e => lF9.keep _ _ e); (case mB => k_asm); (case mF => k_asm); (case mK => k_asm); (case mN => k_asm); (case mT => k_asm); (case mk => exact rfl); (case md => omega); (case mu => omega)); intro v' new' h' tk' n9' l9 hp' F' N' ne' kk'; (obtain ⟨S', svs', sn', tl', rows', hv', hn', hpr', hl', hok', hc', hs'⟩ := hp'); subst hv'; subst hn'; (replace N' := sg_perm N'); (obtain ⟨⟨e5, e4, e3, e2, e1⟩, t5, t4, t3, t2, t1⟩ := sg_ne ne'); clear ne' kk' l9; dsimp only at e5 e4 e3 e2 e1)
        | ((with_reducible refine goK _ ?_); have noK9 := True.intro; walk_at "m step"; all_goals (try clear noK9)))
    | walk_at "m step")
  · rename News _ _ _ _ => lN8
    rename Fr _ _ _ _ => lF8
    subst hws'
    refine lw_end lF8 lN8 ho' hr' (by assumption) hlt' hc' ?_ ?_
    · intro z hz
      simp [hz]
    · rw [wear1 (by assumption)]; exact hqi'
  · rename News _ _ _ _ => lN8
    rename Fr _ _ _ _ => lF8
    subst hws'
    refine lw_end lF8 lN8 ho' hr' (by assumption) hlt' hc' ?_ ?_
    · intro z hz
      simp [hz]
    · rw [wear2 (by assumption) (by assumption)]; exact hqi'
  · rename News _ _ _ _ => lN8
    rename Fr _ _ _ _ => lF8
    subst hws'
    refine lw_end lF8 lN8 ho' hr' (by assumption) hlt' hc' ?_ ?_
    · intro z hz
      simp [hz]
    · rw [wear3 (by assumption) (by assumption)]; exact hwi'
  · unfold Stop9
    rename Fr _ _ _ _ => lF'
    rename News _ _ _ _ => lN'
    generalize hc9' : execs _ _ = c9'
    refine' hk c9' hc9' _ _ _ _ _ _ _ _ _ _ _ _ _ _ hpr' hl' hok' hwi' hws' hwo' hd1' (fr2 lF' ?ha ?hb) lN' ?hW ?tl
    case ha => rfl
    case hb => rfl
    case hW => (refine ⟨?_, ?_, ?_, ?_, ?_, ?_⟩ <;> walk_at "m ne9")
    case tl => first | assumption | exact allLt_tl (by assumption) | (rename (_ ∧ _ ∧ _ ∧ _ ∧ _ ∧ _ ∧ AllLt _ _) => q9; exact allLt_tl q9.2.2.2.2.2.2)
end
section
open PySem.Calls
noncomputable def hasN (l : List Nat) (n : Nat) : Bool := @List.rec Nat (fun _ => Bool) false (fun a _ ih => @Bool.rec (fun _ => Bool) ih true (Nat.beq a n)) l
theorem hasN_eq (n : Nat) : ∀ l : List Nat, ((l.map Int.ofNat).any fun i => i == (n : Int)) = hasN l n
  | [] => rfl
  | a :: l => by
    show ((Int.ofNat a == (n : Int)) || ((l.map Int.ofNat).any fun i => i == (n : Int))) = @Bool.rec (fun _ => Bool) (hasN l n) true (Nat.beq a n)
    rw [hasN_eq n l]
    by_cases h : a = n
    · subst h
      rw [Nat.beq_refl]
      simp
    · have h1 : Nat.beq a n = false := Bool.eq_false_iff.mpr fun e => h (Nat.eq_of_beq_eq_true e)
      have h2 : (Int.ofNat a == (n : Int)) = false := beq_eq_false_iff_ne.mpr fun e => h (Int.ofNat.inj e)
      rw [h1, h2]
      rfl
noncomputable def c9N : List Nat := 917505 :: List.range' 917536 96
noncomputable def bitsN (n : Nat) : List Bool := [hasN [65024, 65025, 65026, 65027, 65028, 65029, 6150, 65030, 65031, 65032, 65033, 6155, 6156, 6157, 8203, 8204, 8205, 65034, 65035, 65036, 65037, 65038, 65039, 173, 847, 8288, 65279] n, c4B n, hasN (List.range' 65529 5) n, hasN (List.range' 12272 12) n, hasN [832, 833, 8234, 8235, 8236, 8237, 8206, 8207, 8238, 8298, 8299, 8300, 8301, 8302, 8303] n, hasN c9N n, decide (n = 32)]
theorem bitsN_eq (n : Nat) : bitsS n = bitsN n := by
  unfold bitsN bitsS
  rw [← hasN_eq, ← hasN_eq, ← hasN_eq, ← hasN_eq, ← hasN_eq]
  rfl
noncomputable def seatsN (n : Nat) : List Int := (bitsN n).zipIdx.filterMap fun p => if p.1 = true then some (p.2 : Int) else none
theorem seats_bits : ∀ b1 b2 b3 b4 b5 b6 b7 : Bool, (rangeKs 0 7).foldl (fun l k => if [b1, b2, b3, b4, b5, b6, b7].getD k.toNat false = true then l ++ [k] else l) [] = [b1, b2, b3, b4, b5, b6, b7].zipIdx.filterMap fun p => if p.1 = true then some (p.2 : Int) else none := by decide +kernel
theorem seatsN_eq (n : Nat) : seatsL n = seatsN n := by
  have e : seatsL n = (rangeKs 0 7).foldl (fun l k => if (bitsN n).getD k.toNat false = true then l ++ [k] else l) [] := by
    unfold seatsL
    congr 1
    funext l k
    unfold seatsG
    rw [bitsN_eq]
  rw [e]
  exact seats_bits _ _ _ _ _ _ _
theorem decT_app : ∀ {r : List Int} {val b : Int} {i : Nat} {x : Int × Nat} (suf : List Int), decT val b i r = some x → decT val b i (r ++ suf) = some x
  | [], val, b, i, x, suf, h => by
    unfold decT at h
    by_cases q : (Builtin.bitAnd b 64 != 0) = true
    · rw [if_pos q] at h; cases h
    · rw [if_neg q] at h
      cases suf with
      | nil => unfold decT; simp only [List.nil_append]; rw [if_neg q]; exact h
      | cons k s => show decT val b i (k :: s) = _; unfold decT; rw [if_neg q]; exact h
  | k :: r, val, b, i, x, suf, h => by
    show decT val b i (k :: (r ++ suf)) = _
    unfold decT at h ⊢
    by_cases q : (Builtin.bitAnd b 64 != 0) = true
    · rw [if_pos q] at h ⊢
      by_cases q2 : 0 ≤ val ∧ val < 1073741824
      · rw [if_pos q2] at h ⊢
        exact decT_app suf h
      · rw [if_neg q2] at h; cases h
    · rw [if_neg q] at h ⊢; exact h
theorem decT_shift (d : Nat) : ∀ {r : List Int} {val b : Int} {i : Nat} {x : Int} {j : Nat}, decT val b i r = some (x, j) → decT val b (i + d) r = some (x, j + d)
  | [], val, b, i, x, j, h => by
    unfold decT at h ⊢
    by_cases q : (Builtin.bitAnd b 64 != 0) = true
    · rw [if_pos q] at h; cases h
    · rw [if_neg q] at h ⊢
      simp only [Option.some.injEq, Prod.mk.injEq] at h
      obtain ⟨rfl, rfl⟩ := h
      rfl
  | k :: r, val, b, i, x, j, h => by
    unfold decT at h ⊢
    by_cases q : (Builtin.bitAnd b 64 != 0) = true
    · rw [if_pos q] at h ⊢
      by_cases q2 : 0 ≤ val ∧ val < 1073741824
      · rw [if_pos q2] at h ⊢
        have := decT_shift d h
        rw [show i + 1 + d = i + d + 1 by omega] at this
        exact this
      · rw [if_neg q2] at h; cases h
    · rw [if_neg q] at h ⊢
      simp only [Option.some.injEq, Prod.mk.injEq] at h
      obtain ⟨rfl, rfl⟩ := h
      rfl
noncomputable def tapeOk (p : Int) : Bool := match tapeF p with
  | [] => false
  | b :: r => decT (Builtin.bitAnd b 63) b 1 r == some (p, (b :: r).length)
noncomputable def seatOk (k : Nat) (p : Int) : Bool := decide (0 ≤ p) && decide (p < 1114112) && (seatsL p.toNat == if k < 7 then [(k : Int)] else []) && tapeOk p
theorem pts_fast : (List.range 8).all (fun k => (chLs.getD k []).all fun p => decide (0 ≤ p) && decide (p < 1114112) && (seatsN p.toNat == if k < 7 then [(k : Int)] else []) && tapeOk p) = true := by decide +kernel
theorem pts_all : (List.range 8).all (fun k => (chLs.getD k []).all (seatOk k)) = true := by
  refine Eq.trans ?_ pts_fast
  congr 1
  funext k
  congr 1
  funext p
  unfold seatOk
  rw [seatsN_eq]
theorem sign_ok {r : Int × Int} (h : OkSign r) : 0 ≤ r.2 ∧ r.2 < 1114112 ∧ seatsL r.2.toNat = (if r.1 < 7 then [r.1] else []) ∧ tapeOk r.2 = true := by
  obtain ⟨h0, h8, ns, hn, hm⟩ := h
  have := List.all_eq_true.mp pts_all r.1.toNat (List.mem_range.mpr (by omega))
  rw [List.getD_eq_getElem?_getD, hn] at this
  have := List.all_eq_true.mp this r.2 hm
  unfold seatOk at this
  simp only [Bool.and_eq_true, decide_eq_true_eq, beq_iff_eq] at this
  obtain ⟨⟨⟨a, b⟩, c⟩, d⟩ := this
  refine ⟨a, b, ?_, d⟩
  rw [c]
  have e : ((r.1.toNat : Nat) : Int) = r.1 := by omega
  by_cases q : r.1 < 7
  · rw [if_pos q, if_pos (by omega), e]
  · rw [if_neg q, if_neg (by omega)]
theorem sign_okP {r : Int × Int} (h : OkSign r) : okP r.2 := by
  obtain ⟨a, b, c, _⟩ := sign_ok h
  refine ⟨a, b, ?_⟩
  rw [c]
  by_cases q : r.1 < 7
  · rw [if_pos q]; exact .inr ⟨r.1, h.1, q, rfl⟩
  · rw [if_neg q]; exact .inl rfl
theorem step_wear {ws : List Int} (hw : WOk ws) {r : Int × Int} (h : OkSign r) : stepW ws r.2 = wearS ws r := by
  obtain ⟨_, _, c, _⟩ := sign_ok h
  unfold stepW wearS
  rw [c]
  by_cases q : r.1 < 7
  · rw [if_pos q]
    show togW ws r.1 = _
    unfold togW
    rw [if_pos q]
  · rw [if_neg q, if_neg q]
    have : ws.contains r.1 = false := by
      cases e : ws.contains r.1 with
      | false => rfl
      | true => exact absurd (hw.2 r.1 (by simpa using e)).2 q
    rw [this]
    rfl
theorem worn_step : ∀ (rows : List (Int × Int)) (ws : List Int), WOk ws → (∀ r ∈ rows, OkSign r) → (rows.map (·.2)).foldl stepW ws = rows.foldl wearS ws
  | [], _, _, _ => rfl
  | r :: rows, ws, hw, h => by
    simp only [List.map_cons, List.foldl_cons]
    rw [step_wear hw (h r (.head _))]
    exact worn_step rows _ (wear_ok hw (h r (.head _)).1) fun q hq => h q (.tail _ hq)
theorem dec_all : ∀ (ps pre : List Int), (∀ p ∈ ps, tapeOk p = true) → Dec (pre ++ ps.flatMap tapeF) pre.length ps
  | [], pre, _ => .stop (by simp)
  | p :: ps, pre, h => by
    have hp := h p (.head _)
    unfold tapeOk at hp
    have ih := dec_all ps (pre ++ tapeF p) fun q hq => h q (.tail _ hq)
    rw [List.append_assoc] at ih
    cases e : tapeF p with
    | nil => rw [e] at hp; cases hp
    | cons b r =>
      rw [e] at hp
      dsimp only at hp
      have h1 := decT_shift pre.length (eq_of_beq hp)
      rw [e] at ih
      refine Dec.go (b := b) (r := r ++ ps.flatMap tapeF) (j := pre.length + (b :: r).length) ?_ ?_ ?_
      · rw [List.flatMap_cons, e]; simp
      · have := decT_app (ps.flatMap tapeF) h1
        rw [Nat.add_comm 1] at this
        rw [this, Nat.add_comm]
      · rw [List.flatMap_cons, e]
        rw [List.length_append] at ih
        exact ih
theorem dec_rows {rows : List (Int × Int)} (h : ∀ r ∈ rows, OkSign r) : Dec ((rows.map (·.2)).flatMap tapeF) 0 (rows.map (·.2)) := dec_all _ [] fun p hp => by
  obtain ⟨r, hr, rfl⟩ := List.mem_map.mp hp
  exact (sign_ok (h r hr)).2.2.2
theorem rows_okP {rows : List (Int × Int)} (h : ∀ r ∈ rows, OkSign r) : ∀ p ∈ rows.map (·.2), okP p := fun p hp => by
  obtain ⟨r, hr, rfl⟩ := List.mem_map.mp hp
  exact sign_okP (h r hr)
theorem rows_fin {rows : List (Int × Int)} (h : ∀ r ∈ rows, OkSign r) : (rows.map (·.2)).foldl stepW [] = wornF rows := worn_step rows [] ⟨List.nodup_nil, fun _ h => nomatch h⟩ h
end
section
open PySem.Calls
theorem SpecT.to {D : Nat} {w : World} {f : Addr} {vs : List Value} {pre : Heap → Prop} {post : Nat → Value → List (Addr × Obj) → Prop} (S : SpecT D w f vs [] pre post)
    {p : Program} {loose : List Str} {mean : ExcName → Option Value} {mg mb : Str → Option Value} {dp un : Nat} {gd : Option (List Code)} {cn : Str} {cs : Scope} {a : Addr} {ccd : Value} {cl : List (Str × Addr)} {A₀ : Around} {base h₀ : Heap} {L : Addr} {m : Str → Option Value} {s : Shared} {Q E : Value → Shared → Prop} {rest : List (Addr × Obj)}
    (hp : pre s.heap) (Xb : (myK w.params).In base) (Tb : Top p loose mean mg mb base) (B : Below A₀ base [] h₀) (F : Fr h₀ L s.heap m) (K : (myK w.params).In h₀) (N : News h₀ L s.heap rest) (T : Top p loose mean mg mb h₀) (k : cs.kind = .function) (hd : dp + D < recursionLimit) (hu : un + 30 * D < cLine)
    (h : ∀ v new h' tk' n₀, post n₀ v new → Fr h₀ L h' m → News h₀ L h' (new ++ rest) → (∀ q ∈ new, ∀ p ∈ rest, q.1 ≠ p.1) → Q v { s with heap := h', toks := tk' }) :
    wpAny (model pw w) (ktrTop dp un gd cn cs L a ccd cl []) (call (.ref f) vs) Q E s := by
  refine S _ _ _ _ _ _ _ _ _ _ _ _ _ _ _ _ _ _ _ _ _ hp Xb Tb B F K (fun _ h => nomatch h) T k hd hu fun v new h' tk' hp F' N' kp fr => ?_
  refine h v new h' tk' _ hp F' (fun q hq => ?_) (fun q hq c hc e => ?_)
  · rcases List.mem_append.mp hq with hq | hq
    · exact N' q hq
    · have n := N q hq
      exact ⟨kp _ _ n.2.1 (fun _ h => nomatch h) n.1, n.2⟩
  · have := fr q hq fun _ h => nomatch h
    rw [e, (N c hc).1] at this
    cases this
theorem prows_pairs {tl : List (Addr × Obj)} {vs : List Value} {rs : List (Int × Int)} (h : PRows tl vs rs) : ∃ ps, Pairs tl vs ps ∧ IntsAre (ps.map (·.2)) (rs.map (·.2)) := by
  induction h with
  | nil => exact ⟨[], .nil, .nil⟩
  | @cons T t u r vs rs hm _ ih =>
    obtain ⟨ps, h1, h2⟩ := ih
    exact ⟨(.int r.1 t, .int r.2 u) :: ps, .cons hm h1, .cons _ _ h2⟩
noncomputable abbrev tabO (w : World) (a d l n nd : Nat) (tk : Tok) (vs : List Value) (r : List (Addr × Obj)) : List (Addr × Obj) := (a, instObj 298 d) :: (d, dictOf [⟨PyData.keyHash w.params (Str.ofString "_headers"), .str (Str.ofString "_headers") tk, .ref l⟩] nd) :: (l, listOf vs.toArray n) :: r
noncomputable abbrev Ds (L x : Nat) : Prop := x ≠ L + 1 + 1 + 1 + 1 + 1 ∧ x ≠ L + 1 + 1 + 1 + 1 ∧ x ≠ L + 1 + 1 + 1 ∧ x ≠ L + 1 + 1 ∧ x ≠ L + 1
noncomputable abbrev Dt (L : Nat) (tl : List (Addr × Obj)) : Prop := (∀ p ∈ tl, p.1 ≠ L + 1 + 1 + 1 + 1 + 1) ∧ (∀ p ∈ tl, p.1 ≠ L + 1 + 1 + 1 + 1) ∧ (∀ p ∈ tl, p.1 ≠ L + 1 + 1 + 1) ∧ (∀ p ∈ tl, p.1 ≠ L + 1 + 1) ∧ (∀ p ∈ tl, p.1 ≠ L + 1)
theorem tp_hne {D : Nat} {o : Obj} {r : List (Addr × Obj)} (h : LCg.Off1 D r) : ∀ p ∈ r, ∀ q ∈ [(D, o)], q.1 ≠ p.1 := by
  intro p hp q hq
  rw [List.mem_singleton.mp hq]
  induction r with
  | nil => cases hp
  | cons x r ih =>
    rcases List.mem_cons.mp hp with rfl | hp
    · exact Ne.symm h.1
    · exact ih h.2 hp
theorem tp_drop {h₀ h : Heap} {L : Addr} {M : Nat} {t d wo so : Addr × Obj} {o1 o2 o3 o4 o5 : Obj} {tl : List (Addr × Obj)} (N : News h₀ L h (t :: d :: wo :: so :: cl5 M o1 o2 o3 o4 o5 tl)) : News h₀ L h (wo :: cl5 M o1 o2 o3 o4 o5 []) := fun p hp => N p (by
  simp only [cl5, List.mem_cons, List.not_mem_nil, or_false] at hp ⊢
  rcases hp with h | h | h | h | h | h
  · exact .inr (.inr (.inl h))
  · exact .inr (.inr (.inr (.inr (.inl h))))
  · exact .inr (.inr (.inr (.inr (.inr (.inl h)))))
  · exact .inr (.inr (.inr (.inr (.inr (.inr (.inl h))))))
  · exact .inr (.inr (.inr (.inr (.inr (.inr (.inr (.inl h)))))))
  · exact .inr (.inr (.inr (.inr (.inr (.inr (.inr (.inr (.inl h)))))))))
theorem tb_perm {h₀ h : Heap} {L : Addr} {M : Nat} {a d l wo : Addr × Obj} {o1 o2 o3 o4 o5 : Obj} {tl : List (Addr × Obj)} (N : News h₀ L h ((a :: d :: l :: tl) ++ (wo :: cl5 M o1 o2 o3 o4 o5 []))) : News h₀ L h (a :: d :: l :: wo :: cl5 M o1 o2 o3 o4 o5 tl) := fun p hp => N p (by
  simp only [cl5, List.mem_cons, List.mem_append, List.not_mem_nil, or_false] at hp ⊢
  rcases hp with h | h | h | h | h | h | h | h | h | h
  · exact .inl (.inl h)
  · exact .inl (.inr (.inl h))
  · exact .inl (.inr (.inr (.inl h)))
  · exact .inr (.inl h)
  · exact .inr (.inr (.inl h))
  · exact .inr (.inr (.inr (.inl h)))
  · exact .inr (.inr (.inr (.inr (.inl h))))
  · exact .inr (.inr (.inr (.inr (.inr (.inl h)))))
  · exact .inr (.inr (.inr (.inr (.inr (.inr h)))))
  · exact .inl (.inr (.inr (.inr h))))
theorem tb_ne {M : Nat} {a d l wo : Addr × Obj} {o1 o2 o3 o4 o5 : Obj} {tl : List (Addr × Obj)} (ne : ∀ q ∈ a :: d :: l :: tl, ∀ p ∈ wo :: cl5 M o1 o2 o3 o4 o5 [], q.1 ≠ p.1) : Ds M a.1 ∧ Ds M d.1 ∧ Ds M l.1 ∧ Dt M tl ∧ (@Ne Nat a.1 wo.1 ∧ @Ne Nat d.1 wo.1 ∧ @Ne Nat l.1 wo.1) := by
  have m5 : (M + 1 + 1 + 1 + 1 + 1, o5) ∈ wo :: cl5 M o1 o2 o3 o4 o5 [] := .tail _ (.head _)
  have m4 : (M + 1 + 1 + 1 + 1, o4) ∈ wo :: cl5 M o1 o2 o3 o4 o5 [] := .tail _ (.tail _ (.head _))
  have m3 : (M + 1 + 1 + 1, o3) ∈ wo :: cl5 M o1 o2 o3 o4 o5 [] := .tail _ (.tail _ (.tail _ (.head _)))
  have m2 : (M + 1 + 1, o2) ∈ wo :: cl5 M o1 o2 o3 o4 o5 [] := .tail _ (.tail _ (.tail _ (.tail _ (.head _))))
  have m1 : (M + 1, o1) ∈ wo :: cl5 M o1 o2 o3 o4 o5 [] := .tail _ (.tail _ (.tail _ (.tail _ (.tail _ (.head _)))))
  have k : ∀ q ∈ a :: d :: l :: tl, Ds M q.1 := fun q hq => ⟨ne q hq _ m5, ne q hq _ m4, ne q hq _ m3, ne q hq _ m2, ne q hq _ m1⟩
  exact ⟨k _ (.head _), k _ (.tail _ (.head _)), k _ (.tail _ (.tail _ (.head _))), ⟨fun p hp => (k p (.tail _ (.tail _ (.tail _ hp)))).1, fun p hp => (k p (.tail _ (.tail _ (.tail _ hp)))).2.1, fun p hp => (k p (.tail _ (.tail _ (.tail _ hp)))).2.2.1, fun p hp => (k p (.tail _ (.tail _ (.tail _ hp)))).2.2.2.1, fun p hp => (k p (.tail _ (.tail _ (.tail _ hp)))).2.2.2.2⟩, ⟨ne _ (.head _) _ (.head _), ne _ (.tail _ (.head _)) _ (.head _), ne _ (.tail _ (.tail _ (.head _))) _ (.head _)⟩⟩

section
variable {w : World} {p : Program} {loose : List Str} {mean : ExcName → Option Value} {mg mb : Str → Option Value} {dp un : Nat} {gd : Option (List Code)} {A₀ : Around} {L fa : Addr} {cd : Value} {base h₀ : Heap}
set_option maxHeartbeats 4000000 in
theorem lawB {s : Shared} {Q : Flow → Shared → Prop} {E : Value → Shared → Prop} {m₀ : Str → Option Value} {o1 o2 o3 o4 o5 : Obj} {W wn S sn : Nat} {svs wvs : List Value} {rows : List (Int × Int)} {tl : List (Addr × Obj)} {ws : List Int} {v1 : Option Value}
    (hpr : PRows tl svs rows) (hl : rows.length = 9) (hok : ∀ r ∈ rows, OkSign r)
    (B : Below A₀ base [] h₀) (X : (myK w.params).In h₀) (T : Top p loose mean mg mb h₀) (Xb : (myK w.params).In base) (Tb : Top p loose mean mg mb base) (hd : dp + 20 < recursionLimit) (hu : un + 30 * 20 < cLine)
    (F : Fr h₀ L s.heap (fun z => if z = Str.ofString "signs" then some (.ref S) else if z = Str.ofString "worn" then some (.ref W) else m₀ z)) (N : News h₀ L s.heap ((W, listOf wvs.toArray wn) :: (S, listOf svs.toArray sn) :: cl5 L o1 o2 o3 o4 o5 tl)) (d1 : o1.data = .cell v1) (d2 : o2.data = .cell none)
    (hW : @LT.lt Nat _ (L + 1 + 1 + 1 + 1 + 1) W)
    (hk : ∀ c, execs (bo33.drop 4) (lwE L fa cd) = c → ∀ (a d l n nd : Nat) tk vs9 tlr o2' h' tk', TLed tlr vs9 (rowsOf (wornF rows)) → WOk (wornF rows) → o2'.data = .cell (some (.ref a)) →
      Fr h₀ L h' (fun z => if z = Str.ofString "signs" then some (.ref S) else if z = Str.ofString "worn" then some (.ref W) else m₀ z) → News h₀ L h' (tabO w a d l n nd tk vs9 ((W, listOf wvs.toArray wn) :: cl5 L o1 o2' o3 o4 o5 tlr)) → Ds L a → Ds L d → Ds L l → Dt L tlr → (@Ne Nat a W ∧ @Ne Nat d W ∧ @Ne Nat l W) → wpAny (model pw w) (lwA dp un gd L fa cd) c Q E { s with heap := h', toks := tk' })
    {c9} (hc9 : execs (bo33.drop 3) (lwE L fa cd) = c9) :
    wpAny (model pw w) (lwA dp un gd L fa cd) c9 Q E s := by
  subst hc9
  obtain ⟨ps9, hps9, hpi9⟩ := prows_pairs hpr
  have hpl9 : ps9.length = 9 := by rw [← hps9.len, hpr.len, hl]
  have hp9 : (rows.map (·.2)).length ≤ 9 := by rw [List.length_map, hl]; exact Nat.le_refl _
  have hpr9 : ∀ c ∈ rows.map (·.2), 0 ≤ c ∧ c < 1114112 := fun c hc => ⟨(rows_okP hok c hc).1, (rows_okP hok c hc).2.1⟩
  have hdec9 := dec_rows hok
  have hokp9 := rows_okP hok
  have hfin9 := rows_fin hok
  dsimp only [List.drop]
  have «stop eval ListComp» := True.intro
  have «stop SrcLP» := True.intro
  have «stop call ref» := True.intro
  have «stop execs cons» := True.intro
  repeat' (first
    | ((with_reducible show StopK _ _); first
        | ((with_reducible refine goK "execs cons" ?_); (have hw9 := hWO'); (rename Fr _ _ _ _ => lF'); (rename News _ _ _ _ => lN'); (generalize hc9' : execs _ _ = c9'); k_dflt (first | refine' hk c9' hc9' _ _ _ _ _ _ _ _ _ _ _ hTL' hWO' (by assumption) lF' lN' hDa' hDd' hDl' hDt' hWn' | refine stop9 ?_))
        | ((with_reducible refine goK "call ref" ?_); (rename Fr _ _ _ _ => lF9); (rename News _ _ _ _ => lN9); k_dflt (first | (refine' Spec.use (led := [_]) (tape_spec _ _ _ _ hpi9 hpr9 hp9) ?mB ?mF ?mK ?mN ?mT ?mk ?md ?mu ?hne ?_; (case mB => k_asm); (case mF => k_asm); (case mK => k_asm); (case mN => exact lN9); (case mT => k_asm); (case mk => exact rfl); (case md => omega); (case mu => omega); (case hne => exact tp_hne (by assumption)); intro v' new' h' tk' n9' l9 hp' F' N' ne'; (obtain ⟨T', tvs', tn', hv', hn', hti'⟩ := hp'); subst hv'; subst hn'; clear l9 ne' lF9 lN9; (try simp only [List.cons_append, List.nil_append] at N')) | (refine' SpecT.to (heard_spec T' tvs' _ _ _ hti' hdec9 hokp9 hfin9) ?mp ?mXb ?mTb ?mB ?mF ?mK (tp_drop lN9) ?mT ?mk ?md ?mu ?_; (case mp => exact News.isList lN9 (.head _)); (case mXb => assumption); (case mTb => assumption); (case mB => k_asm); (case mF => k_asm); (case mK => k_asm); (case mT => k_asm); (case mk => exact rfl); (case md => omega); (case mu => omega); intro v' new' h' tk' n9' hp' F' N' ne'; (obtain ⟨ta', td', tl9', ttk', tnd', vs9', tn9', tlr', hv', hn', hTL', hWO'⟩ := hp'); subst hv'; subst hn'; clear lF9 lN9; (replace N' := tb_perm N'); (obtain ⟨hDa', hDd', hDl', hDt', hWn'⟩ := tb_ne ne'); (have hDa9 := hDa'); (have hDd9 := hDd'); (have hDl9 := hDl'); (have hDt9 := hDt'); dsimp only [Ds, Dt] at hDa9 hDd9 hDl9 hDt9; (obtain ⟨t5, t4, t3, t2, t1⟩ := hDt9); clear ne')))
        | ((with_reducible refine goK "SrcLP" ?_); (rename Fr _ _ _ _ => lF'); (rename News _ _ _ _ => lN'); k_dflt (refine' src_snd rfl lF' lN' (.tail _ (.head _)) (hps9.mono fun q hq => .tail _ (.tail _ (.tail _ (.tail _ (.tail _ (.tail _ (.tail _ hq))))))) ?hz rfl rfl rfl ?_; (case hz => (rw [hps9.len.trans hpl9]; decide))); clear lF' lN'; intro g')
        | ((with_reducible refine goK "eval ListComp" ?_); k_dflt (refine LCp.ListComp_P (F₀ := by k_asm) (by with_unfolding_all rfl) (by decide) (by rfl) (by decide) (by rfl) (by rfl) (by decide) ?_))
        | ((with_reducible refine goK _ ?_); have noK9 := True.intro; walk_at "m step"; all_goals (try clear noK9)))
    | walk_at "m step")
end
end
section
open PySem.Calls
noncomputable def rowD (r : Str × Str) : PyData := .tuple [.str r.1, .str r.2]
theorem reads_rows {h : Heap} : ∀ {vs : List Value} {rs : List (Str × Str)}, TRows h vs rs → ∃ as, ReadsAll h vs (rs.map rowD) as
  | _, _, .nil => ⟨[], .nil⟩
  | _, _, .cons (r := r) e T => by
    obtain ⟨as, ih⟩ := reads_rows T
    exact ⟨_, .cons (reads_tuple_at e rfl rfl (.cons (.str _ _) (.cons (.str _ _) .nil))) ih⟩
theorem eqv_rows : ∀ rs : List (Str × Str), PyData.eqvAll (rs.map rowD) (rs.map rowD) = true
  | [] => by simp [PyData.eqvAll]
  | r :: rs => by simp [PyData.eqvAll, PyData.eqv, rowD, eqv_rows rs]
noncomputable def RowOk (r : Str × Str) : Prop := PyData.strOk r.1 = true ∧ PyData.strOk r.2 = true
theorem lay_rows : ∀ rs : List (Str × Str), (∀ r ∈ rs, RowOk r) → PyData.canLayAll0 (rs.map rowD) = true
  | [], _ => rfl
  | r :: rs, h => by
    obtain ⟨h1, h2⟩ := h r (.head _)
    simp [PyData.canLayAll0, PyData.canLay0, rowD, h1, h2, lay_rows rs fun q hq => h q (.tail _ hq)]
theorem dep_rows : ∀ rs : List (Str × Str), PyData.depthAll (rs.map rowD) ≤ 1
  | [] => by simp [PyData.depthAll]
  | r :: rs => by
    have := dep_rows rs
    simp [PyData.depthAll, PyData.depth, rowD]
    omega
theorem shaped_rows {rs : List (Str × Str)} (h : ∀ r ∈ rs, RowOk r) : SeqAt.shaped (.list (rs.map rowD)) = true := by
  have := dep_rows rs
  unfold SeqAt.shaped
  rw [show PyData.canLay0 (.list (rs.map rowD)) = true from by simp [PyData.canLay0, lay_rows rs h], Bool.true_and]
  exact decide_eq_true (by simp [PyData.depth]; omega)
theorem strs_carried : ∀ {vs : List Value} {xs : List Str}, StrsAre vs xs → CarriedAll vs (xs.map PyData.str)
  | _, _, .nil => .nil
  | _, _, .cons _ _ r => .cons (.str _ _) (strs_carried r)
theorem eqv_strs : ∀ xs : List Str, PyData.eqvAll (xs.map PyData.str) (xs.map PyData.str) = true
  | [] => by simp [PyData.eqvAll]
  | r :: rs => by simp [PyData.eqvAll, PyData.eqv, eqv_strs rs]
theorem lay_strs : ∀ rs : List Str, (∀ r ∈ rs, PyData.strOk r = true) → PyData.canLayAll0 (rs.map PyData.str) = true
  | [], _ => rfl
  | r :: rs, h => by simp [PyData.canLayAll0, PyData.canLay0, h r (.head _), lay_strs rs fun q hq => h q (.tail _ hq)]
theorem dep_strs : ∀ rs : List Str, PyData.depthAll (rs.map PyData.str) = 0
  | [] => by simp [PyData.depthAll]
  | r :: rs => by simp [PyData.depthAll, PyData.depth, dep_strs rs]
theorem shaped_strs {rs : List Str} (h : ∀ r ∈ rs, PyData.strOk r = true) : SeqAt.shaped (.list (rs.map PyData.str)) = true := by
  have := dep_strs rs
  unfold SeqAt.shaped
  rw [show PyData.canLay0 (.list (rs.map PyData.str)) = true from by simp [PyData.canLay0, lay_strs rs h], Bool.true_and]
  exact decide_eq_true (by simp [PyData.depth, this])
theorem word_strOk : ([0, 1, 2, 3, 4, 5, 6] : List Int).all (fun c => PyData.strOk (wordS c) && PyData.strOk (low (wordS c)) && PyData.strOk (digS c)) = true := by decide +kernel
theorem word_lay {c : Int} (h0 : 0 ≤ c) (h1 : c < 7) : PyData.strOk (wordS c) = true ∧ PyData.strOk (low (wordS c)) = true ∧ PyData.strOk (digS c) = true := by
  have m : c ∈ ([0, 1, 2, 3, 4, 5, 6] : List Int) := by
    rcases seven h0 h1 with rfl | rfl | rfl | rfl | rfl | rfl | rfl <;> simp
  have := List.all_eq_true.mp word_strOk c m
  simp only [Bool.and_eq_true] at this
  exact ⟨this.1.1, this.1.2, this.2⟩
theorem rows_lay {ws : List Int} (h : WOk ws) : ∀ r ∈ rowsOf ws, RowOk r := fun r hr => by
  obtain ⟨c, hc, rfl⟩ := List.mem_map.mp hr
  exact (word_lay (h.2 c hc).1 (h.2 c hc).2).2
section
variable {prog : Program} {w : World} {A : Around} {E : Value → Shared → Prop} {s : Shared} {a b : Addr} {xs ys : List Value} {Q : Value → Shared → Prop}
theorem ne_rows {rs : List (Str × Str)} {c D n k : Nat} (hc : s.heap.get? c = some (listOf xs.toArray n)) (hD : s.heap.get? D = some (listOf ys.toArray k)) (h1 : TRows s.heap xs rs) (h2 : TRows s.heap ys rs) (hr : ∀ r ∈ rs, RowOk r) (hu : A.units + 64 < cLine) (h : Q (.bool false) s) : wpAny (model prog w) A (compareOp .NotEq (.ref c) (.ref D)) Q E s := by
  obtain ⟨as, r1⟩ := reads_rows h1
  obtain ⟨bs, r2⟩ := reads_rows h2
  refine ne_dataH (reads_list_at hc rfl rfl (by simpa using r1)) (reads_list_at hD rfl rfl (by simpa using r2)) (shaped_rows hr) (shaped_rows hr) hu ?_
  have : PyData.eqv (.list (rs.map rowD)) (.list (rs.map rowD)) = true := by simp [PyData.eqv, eqv_rows]
  rw [this]; exact h
theorem ne_strs {rs : List Str} (ha : s.heap.IsList a xs.toArray) (hb : s.heap.IsList b ys.toArray) (h1 : StrsAre xs rs) (h2 : StrsAre ys rs) (hr : ∀ r ∈ rs, PyData.strOk r = true) (hu : A.units + 64 < cLine) (h : Q (.bool false) s) : wpAny (model prog w) A (compareOp .NotEq (.ref a) (.ref b)) Q E s := by
  refine ne_dataH (reads_newData ha (strs_carried h1)) (reads_newData hb (strs_carried h2)) (shaped_strs hr) (shaped_strs hr) hu ?_
  have : PyData.eqv (.list (rs.map PyData.str)) (.list (rs.map PyData.str)) = true := by simp [PyData.eqv, eqv_strs]
  rw [this]; exact h
end
noncomputable def namesL : List Str := ([0, 1, 2, 3, 4, 5, 6] : List Int).map wordS
section
variable {prog : Program} {w : World} {A : Around} {E : Value → Shared → Prop} {s : Shared} {h₀ : Heap} {L : Addr} {m : Str → Option Value} {env : Env}
theorem rest_inv {elt : PySem.Expr} {x : Str} {scope : Scope} {cl : List (Str × Addr)} {S : List (Addr × Obj) → Prop} {Fin : List Value → List (Addr × Obj) → Prop} {us : List Value} (J : Nat → List Value → List (Addr × Obj) → Prop)
    (turn : ∀ i v ys news I oI C oC D m₂ h tk (E' : Value → Shared → Prop), us[i]? = some v → J i ys news → LCg.NsObj oC m₂ → m₂ x = some v → Fr h₀ L h m → News h₀ L h ((I, oI) :: (C, oC) :: (D, LCg.lst ys) :: news) → LCg.Off3 I C D news → ((@Ne Nat I C) ∧ (@Ne Nat I D) ∧ (@Ne Nat C D)) →
      wpAny (model prog w) A (eval elt (compEnvC scope cl C env)) (LCg.CompEnd h₀ L m { s with heap := h, toks := tk } I oI C oC D (LCg.lst ys) S (fun y news' => J (i + 1) (ys ++ [y]) news')) E' { s with heap := h, toks := tk })
    (fin : ∀ ys news, J us.length ys news → Fin ys news) : ∀ (k i : Nat) (ys : List Value) (news : List (Addr × Obj)), i + k = us.length → J i ys news → LCg.CompRest prog w A h₀ L m env elt x scope cl s S (fun i v => us.toArray[i]? = some v) Fin k i ys news
  | 0, i, ys, news, e, j => LCg.CompRest.zero (fin ys news (by rw [← e]; exact j))
  | k + 1, i, ys, news, e, j => LCg.CompRest.succ fun v I oI C oC D m₂ h tk E' hp hC hx F N off ne => by
    refine wpAny_mono (turn i v ys news I oI C oC D m₂ h tk E' (by simpa using hp) j hC hx F N off ne) (fun y s₂ q => ?_) fun _ _ e => e
    obtain ⟨h', tk', n', rfl, F', N', off', hS, j'⟩ := q
    exact ⟨h', tk', n', rfl, F', N', off', hS, rest_inv J turn fin k (i + 1) _ _ (by omega) j'⟩
theorem name_item {NM nn : Nat} {nvs : List Value} {value slice : PySem.Expr} {c : Int} {u : Tok} {news : List (Addr × Obj)} {Q : Value → Shared → Prop} (N : News h₀ L s.heap news) (hm : (NM, listOf nvs.toArray nn) ∈ news) (hs9 : StrsAre nvs namesL) (h0 : 0 ≤ c) (h1 : c < 7)
    (h : ∀ t, Q (.str (wordS c) t) s)
    (hs : subscripted slice false (.ref NM) (.int c u) = operate [.ref NM, .int c u] (getItem (.ref NM) (.int c u)) := by with_unfolding_all rfl) :
    wpAny (model prog w) A (subscriptTail value slice (.ref NM) (.int c u)) Q E s := by
  have hl : s.heap.IsList NM nvs.toArray := ⟨_, (N _ hm).1, rfl, nn, rfl⟩
  have ll : nvs.length = 7 := by rw [hs9.len_eq]; rfl
  have hk : c.toNat < nvs.length := by omega
  have hx : namesL[c.toNat]? = some (wordS c) := by
    rcases seven h0 h1 with rfl | rfl | rfl | rfl | rfl | rfl | rfl <;> rfl
  obtain ⟨t, ht⟩ := strs_at hs9 (List.getElem?_eq_getElem hk) hx
  exact tail_any hl.typeIs slot_list_getitem.lookup (wpAny_getItem_list hl h0 (by omega) (by rw [← ht]; simpa using List.getElem?_eq_getElem hk) (h t)) hs
end
/-- the rows in a tail -/
noncomputable def TSem (t : List (Addr × Obj)) (ys : List Value) (rows : List (Str × Str)) : Prop := ∀ h : Heap, (∀ q ∈ t, h.get? q.1 = some q.2) → TRows h ys rows
end
section
open PySem.Calls
noncomputable abbrev preT (w : World) (a d l n nd : Nat) (tk : Tok) (vs : List Value) (x y : Addr × Obj) (L : Nat) (o1 o2 o3 o4 o5 : Obj) : List (Addr × Obj) := [(a, instObj 298 d), (d, dictOf [⟨PyData.keyHash w.params (Str.ofString "_headers"), .str (Str.ofString "_headers") tk, .ref l⟩] nd), (l, listOf vs.toArray n), x, y, (L + 1 + 1 + 1 + 1 + 1, o5), (L + 1 + 1 + 1 + 1, o4), (L + 1 + 1 + 1, o3), (L + 1 + 1, o2), (L + 1, o1)]
section
variable {prog : Program} {w : World} {A : Around} {E : Value → Shared → Prop} {s : Shared} {h₀ h : Heap} {L : Addr} {m : Str → Option Value}
theorem it_perm {x a d l wo : Addr × Obj} {t : List (Addr × Obj)} (N : News h₀ L h (x :: a :: d :: l :: wo :: t)) : News h₀ L h ([a, d, l] ++ (x :: wo :: t)) := fun p hp => N p (by
  simp only [List.cons_append, List.nil_append, List.mem_cons] at hp ⊢
  rcases hp with h | h | h | h | h | h
  · exact .inr (.inl h)
  · exact .inr (.inr (.inl h))
  · exact .inr (.inr (.inr (.inl h)))
  · exact .inl h
  · exact .inr (.inr (.inr (.inr (.inl h))))
  · exact .inr (.inr (.inr (.inr (.inr h)))))
theorem it_hne {M a d l n nd W : Nat} {wo : Obj} {e : List DictEntry} {vs : List Value} {x : Addr × Obj} {o1 o2 o3 o4 o5 : Obj} {tl : List (Addr × Obj)} (N : News h₀ L h (x :: (a, instObj 298 d) :: (d, dictOf e nd) :: (l, listOf vs.toArray n) :: (W, wo) :: cl5 M o1 o2 o3 o4 o5 tl)) (hx : @LT.lt Nat _ a x.1 ∧ @LT.lt Nat _ d x.1 ∧ @LT.lt Nat _ l x.1) (hDa : Ds M a) (hDd : Ds M d) (hDl : Ds M l) (hWn : @Ne Nat a W ∧ @Ne Nat d W ∧ @Ne Nat l W) (hc : ∀ q ∈ tl, q.2.cls = .type "tuple") :
    ∀ p ∈ x :: (W, wo) :: cl5 M o1 o2 o3 o4 o5 tl, ∀ q ∈ [(a, instObj 298 d), (d, dictOf e nd), (l, listOf vs.toArray n)], q.1 ≠ p.1 := by
  have key : ∀ q ∈ [(a, instObj 298 d), (d, dictOf e nd), (l, listOf vs.toArray n)], Ds M q.1 ∧ @LT.lt Nat _ q.1 x.1 ∧ @Ne Nat q.1 W ∧ q.2.cls ≠ .type "tuple" ∧ q ∈ x :: (a, instObj 298 d) :: (d, dictOf e nd) :: (l, listOf vs.toArray n) :: (W, wo) :: cl5 M o1 o2 o3 o4 o5 tl := by
    intro q hq
    simp only [List.mem_cons, List.not_mem_nil, or_false] at hq
    rcases hq with rfl | rfl | rfl
    · exact ⟨hDa, hx.1, hWn.1, (fun e => by cases e), .tail _ (.head _)⟩
    · exact ⟨hDd, hx.2.1, hWn.2.1, (fun e => by injection e with e; exact absurd e (by decide)), .tail _ (.tail _ (.head _))⟩
    · exact ⟨hDl, hx.2.2, hWn.2.2, (fun e => by injection e with e; exact absurd e (by decide)), .tail _ (.tail _ (.tail _ (.head _)))⟩
  intro p hp q hq
  obtain ⟨⟨k5, k4, k3, k2, k1⟩, klt, kW, kc, km⟩ := key q hq
  simp only [cl5, List.mem_cons] at hp
  rcases hp with rfl | rfl | rfl | rfl | rfl | rfl | rfl | hp
  · exact Nat.ne_of_lt klt
  · exact kW
  · exact k5
  · exact k4
  · exact k3
  · exact k2
  · exact k1
  · exact cls_ne N (.tail _ (.tail _ (.tail _ (.tail _ (.tail _ (.tail _ (.tail _ (.tail _ (.tail _ (.tail _ hp)))))))))) km (by rw [hc p hp]; exact kc)
theorem newList_strs {vs : List Value} {xs : List Str} {news : List (Addr × Obj)} {Q : Value → Shared → Prop} (F : Fr h₀ L s.heap m) (N : News h₀ L s.heap news) (hI : StrsAre vs xs)
    (h : ∀ l us h' tk, Fr h₀ L h' m → News h₀ L h' ((l, listOf us.toArray 0) :: news) → (∀ p ∈ news, p.1 < l) → StrsAre us xs → Q (.ref l) { s with heap := h', toks := tk }) (hsz : vs.length ≤ sizeLine := by size_fits) : wpAny (model prog w) A (newList vs) Q E s :=
  newList_K F N (fun l h' F' N' l1 => h l vs h' _ F' N' l1 hI) hsz
theorem int_at {vs : List Value} {ws : List Int} (h : IntsAre vs ws) {i : Nat} {v : Value} (e : vs[i]? = some v) : ∃ c t, ws[i]? = some c ∧ v = .int c t := by
  have hlt : i < vs.length := (List.getElem?_eq_some_iff.mp e).1
  have hlt' : i < ws.length := by rw [← h.length]; exact hlt
  obtain ⟨t, ht⟩ := h.get i ws[i] (List.getElem?_eq_getElem hlt')
  exact ⟨ws[i], t, List.getElem?_eq_getElem hlt', Option.some.inj (e.symm.trans ht)⟩
theorem rows_snoc {ws : List Int} {i : Nat} {c : Int} (e : ws[i]? = some c) : rowsOf (ws.take (i + 1)) = rowsOf (ws.take i) ++ [rowOf c] := by
  unfold rowsOf
  rw [List.take_add_one, e, List.map_append]
  rfl
theorem row_end {pre : Obj → List (Addr × Obj)} {P : Obj → Prop} {oz : Obj} (hP : P oz) {t tlr : List (Addr × Obj)} {T I C D W wn : Nat} {oI oC : Obj} {ys wvs : List Value} {ws : List Int} {i : Nat} {c : Int} {x y : Str} {tx ty : Tok} {h' : Heap} {tk' : Nat} (F : Fr h₀ L h' m) (N : News h₀ L h' ((T, tup2 x y tx ty) :: (I, oI) :: (C, oC) :: (D, LCg.lst ys) :: (pre oz ++ t))) (off : LCg.Off3 I C D (pre oz ++ t)) (hT : @LT.lt Nat _ I T ∧ @LT.lt Nat _ C T ∧ @LT.lt Nat _ D T) (hS : (W, listOf wvs.toArray wn) ∈ pre oz) (hsub : ∀ q ∈ tlr, q ∈ t) (hsem : TSem t ys (rowsOf (ws.take i))) (hc : ws[i]? = some c) (hx : x = (rowOf c).1) (hy : y = (rowOf c).2) :
    LCg.CompEnd h₀ L m s I oI C oC D (LCg.lst ys) (LCg.SrcAt h₀ W wvs.toArray) (fun y news' => ∃ t' oz, P oz ∧ news' = pre oz ++ t' ∧ (∀ q ∈ tlr, q ∈ t') ∧ TSem t' (ys ++ [y]) (rowsOf (ws.take (i + 1)))) (.ref T) { s with heap := h', toks := tk' } := by
  have o3 := off.mem
  refine LCg.CompEnd.intro F N (pre oz ++ (T, tup2 x y tx ty) :: t) (fun p hp => ?_) (LCg.Off3.of fun p hp => ?_) (.inr ⟨_, List.mem_append_left _ hS, rfl, _, rfl⟩) ⟨(T, tup2 x y tx ty) :: t, oz, hP, rfl, fun q hq => .tail _ (hsub q hq), fun g hg => ?_⟩
  · simp only [List.mem_cons, List.mem_append] at hp ⊢
    rcases hp with h | h | h | h | h | h
    · exact .inr (.inl h)
    · exact .inr (.inr (.inl h))
    · exact .inr (.inr (.inr (.inl h)))
    · exact .inr (.inr (.inr (.inr (.inl h))))
    · exact .inl h
    · exact .inr (.inr (.inr (.inr (.inr h))))
  · simp only [List.mem_append, List.mem_cons] at hp
    rcases hp with hp | rfl | hp
    · exact o3 p (List.mem_append_left _ hp)
    · exact ⟨na (by dsimp only; walk_at "m ne9"), na (by dsimp only; walk_at "m ne9"), na (by dsimp only; walk_at "m ne9")⟩
    · exact o3 p (List.mem_append_right _ hp)
  · rw [rows_snoc hc]
    subst hx hy
    exact TRows.snoc (hg _ (.head _)) (hsem g fun q hq => hg q (.tail _ hq))
end
local macro_rules | `(tactic| walk_at "m strs") => `(tactic| first | exact StrsAre.nil | (apply StrsAre.cons; walk_at "m strs"))
theorem take_all {α : Type} {l : List α} {n : Nat} (h : n = l.length) : l.take n = l := by rw [h, List.take_length]
theorem m12 {α : Type} {q a1 a2 a3 a4 a5 a6 a7 a8 a9 b1 b2 b3 : α} {t : List α} (h : q ∈ t) : q ∈ a1 :: a2 :: a3 :: a4 :: a5 :: a6 :: a7 :: a8 :: a9 :: b1 :: b2 :: b3 :: t := .tail _ (.tail _ (.tail _ (.tail _ (.tail _ (.tail _ (.tail _ (.tail _ (.tail _ (.tail _ (.tail _ (.tail _ h)))))))))))
theorem law_keepC {h₀ h : Heap} {L : Addr} {Dx cx a d l nm wo c5 c4 c3 c2 c1 : Addr × Obj} {t tlr : List (Addr × Obj)} (hs : ∀ q ∈ tlr, q ∈ t) (N : News h₀ L h (Dx :: cx :: a :: d :: l :: nm :: wo :: c5 :: c4 :: c3 :: c2 :: c1 :: t)) : News h₀ L h (nm :: a :: d :: l :: wo :: c5 :: c4 :: c3 :: c2 :: c1 :: tlr) := fun p hp => N p (by
  simp only [List.mem_cons] at hp ⊢
  rcases hp with h | h | h | h | h | h | h | h | h | h | h
  · simp [h]
  · simp [h]
  · simp [h]
  · simp [h]
  · simp [h]
  · simp [h]
  · simp [h]
  · simp [h]
  · simp [h]
  · simp [h]
  · simp [hs p h])
section
variable {w : World} {p : Program} {loose : List Str} {mean : ExcName → Option Value} {mg mb : Str → Option Value} {dp un : Nat} {gd : Option (List Code)} {A₀ : Around} {L fa : Addr} {cd : Value} {base h₀ : Heap}
set_option maxHeartbeats 4000000 in
theorem lawC {s : Shared} {Q : Flow → Shared → Prop} {E : Value → Shared → Prop} {m₀ : Str → Option Value} {o1 o2 o3 o4 o5 : Obj} {a d l n nd W wn : Nat} {tk0 : Tok} {vs9 wvs : List Value} {tlr : List (Addr × Obj)} {ws : List Int} {S : Value}
    (hTL : TLed tlr vs9 (rowsOf ws)) (hWO : WOk ws) (hwi : IntsAre wvs ws)
    (B : Below A₀ base [] h₀) (X : (myK w.params).In h₀) (T : Top p loose mean mg mb h₀) (hd : dp + 20 < recursionLimit) (hu : un + 30 * 20 < cLine)
    (F : Fr h₀ L s.heap (fun z => if z = Str.ofString "signs" then some S else if z = Str.ofString "worn" then some (.ref W) else m₀ z)) (N : News h₀ L s.heap (tabO w a d l n nd tk0 vs9 ((W, listOf wvs.toArray wn) :: cl5 L o1 o2 o3 o4 o5 tlr))) (d2 : o2.data = .cell (some (.ref a))) (d3 : o3.data = .cell none)
    (hW : @LT.lt Nat _ (L + 1 + 1 + 1 + 1 + 1) W) (hDa : Ds L a) (hDd : Ds L d) (hDl : Ds L l) (hDt : Dt L tlr) (hWn : @Ne Nat a W ∧ @Ne Nat d W ∧ @Ne Nat l W)
    (hk : ∀ c, execs (bo33.drop 6) (lwE L fa cd) = c → ∀ (nm : Nat) nvs o3' h' tk', StrsAre nvs namesL → o3'.data = .cell (some (.ref nm)) →
      Fr h₀ L h' (fun z => if z = Str.ofString "signs" then some S else if z = Str.ofString "worn" then some (.ref W) else m₀ z) → News h₀ L h' ((nm, listOf nvs.toArray 0) :: tabO w a d l n nd tk0 vs9 ((W, listOf wvs.toArray wn) :: cl5 L o1 o2 o3' o4 o5 tlr)) → Ds L nm → (@Ne Nat a nm ∧ @Ne Nat d nm ∧ @Ne Nat l nm) → wpAny (model pw w) (lwA dp un gd L fa cd) c Q E { s with heap := h', toks := tk' })
    {c9} (hc9 : execs (bo33.drop 4) (lwE L fa cd) = c9) :
    wpAny (model pw w) (lwA dp un gd L fa cd) c9 Q E s := by
  subst hc9
  have hDa9 := hDa
  have hDd9 := hDd
  have hDl9 := hDl
  have hDt9 := hDt
  dsimp only [Ds, Dt] at hDa9 hDd9 hDl9 hDt9
  obtain ⟨t5, t4, t3, t2, t1⟩ := hDt9
  have hw7 := hWO.len
  have hwl := hwi.length
  have hv64 : vs9.length ≤ 64 := by
    have := (hTL.1 s.heap fun q hq => (N q (.tail _ (.tail _ (.tail _ (.tail _ (.tail _ (.tail _ (.tail _ (.tail _ (.tail _ hq)))))))))).1).length
    rw [this]
    unfold rowsOf
    rw [List.length_map]
    omega
  dsimp only [List.drop]
  have «stop newList» := True.intro
  have «stop call ref» := True.intro
  have «stop subscriptTail» := True.intro
  have «stop eval ListComp» := True.intro
  have «stop CompSrc» := True.intro
  have «stop FinE» := True.intro
  have «stop compareOp NotEq ref ref» := True.intro
  have «stop execs cons» := True.intro
  repeat' (first
    | ((with_reducible show StopK _ _); first
        | ((with_reducible refine goK "execs cons" ?_); (have hw9 := hsem'); (fail_if_success (have hr9 := hce')); (rename Fr _ _ _ _ => lF'); (rename News _ _ _ _ => lN'); (generalize hc9' : execs _ _ = c9'); k_dflt (first | refine' hk c9' hc9' _ _ _ _ _ hnv' hz' lF' (law_keepC hsub' lN') (by (refine ⟨?_, ?_, ?_, ?_, ?_⟩ <;> walk_at "m ne9")) (by (refine ⟨?_, ?_, ?_⟩ <;> walk_at "m ne9")) | refine stop9 ?_))
        | ((with_reducible refine goK "compareOp NotEq ref ref" ?_); (rename Fr _ _ _ _ => lF'); (rename News _ _ _ _ => lN'); k_dflt (first | (refine' ne_rows (rs := rowsOf ws) (lN' (c', listOf vs9.toArray 0) (.tail _ (.head _))).1 (lN' (D', LCg.lst ys') (.head _)).1 (hTL.1 _ fun q hq => (lN' q (m12 (hsub' q hq))).1) ((take_all hwl ▸ hsem') _ fun q hq => (lN' q (m12 hq)).1) (rows_lay hWO) ?hu ?_; (case hu => (show un + 64 < cLine; omega))) | refine stop9 ?_))
        | ((with_reducible refine goK "FinE" ?_); ((unfold LCg.FinE); intro D' h' tk' F' N' o1'; (try simp only [LCg.Off1, and_true] at o1'); (try simp only [List.nil_append, List.cons_append] at N'); (try dsimp only)))
        | ((with_reducible refine goK "CompSrc" ?_); (rename Fr _ _ _ _ => lF'); (rename News _ _ _ _ => lN'); k_dflt (first | (refine' LCg.CompSrc.ledger rfl lF' lN' ?hm ?sz ?_; (case hm => k_mem); (case sz => (rw [List.size_toArray]; exact szl (by omega))); intro g'; refine' rest_inv (us := wvs) (fun i ys news => ∃ t oz, oz.data = .cell (some (.ref nm')) ∧ news = ((c', listOf vs9.toArray 0) :: preT w a d l n nd tk0 vs9 (nm', listOf nvs'.toArray 0) (W, listOf wvs.toArray wn) L o1 o2 oz o4 o5) ++ t ∧ (∀ q ∈ tlr, q ∈ t) ∧ TSem t ys (rowsOf (ws.take i))) ?turn ?fin _ 0 [] _ ?e ⟨tlr, _, ?dz, rfl, fun _ h => h, fun _ _ => .nil⟩; (case dz => assumption); (case e => simp); clear lF' lN'; (case' turn => (rintro i' v' ys' news' I' oI' C' oC' D' m2' h' tk' E' hv' ⟨t', oz', hz', rfl, hsub', hsem'⟩ hC' hx' F' N' off' ne'; (obtain ⟨c9, tc9, hce', hcv'⟩ := int_at hwi hv'); subst hcv'; (obtain ⟨h09, h19⟩ := hWO.2 c9 (List.mem_of_getElem? hce')); (have hwl9 := (word_ok h09 h19).2.2.2.1); (have off9 := off'); (try simp only [List.cons_append, List.nil_append] at N' off'); (try simp only [LCg.Off3, and_true] at off'))); (case' fin => (rintro ys' news' ⟨t', oz', hz', rfl, hsub', hsem'⟩))) | refine stop9 ?_))
        | ((with_reducible refine goK "eval ListComp" ?_); k_dflt (refine LCg.ListComp_U (F₀ := by k_asm) (by with_unfolding_all rfl) (by decide) (by rfl) (by decide) (by rfl) ?_))
        | ((with_reducible refine goK "subscriptTail" ?_); (with_reducible show wpAny _ _ (subscriptTail _ _ (Value.ref _) (Value.int _ _)) _ _ _); (rename News _ _ _ _ => lN'); k_dflt (refine' name_item lN' ?hm hnv' h09 h19 ?_ ?k7; (case k7 => with_unfolding_all rfl); (case hm => k_mem); intro tw9'))
        | ((with_reducible refine goK "call ref" ?_); (rename Fr _ _ _ _ => lF9); (rename News _ _ _ _ => lN9); k_dflt (refine' Spec.use (items_spec _ _ _ _ _ _ vs9 hv64) ?mB ?mF ?mK (it_perm lN9) ?mT ?mk ?md ?mu ?hne ?_; (case mB => k_asm); (case mF => k_asm); (case mK => k_asm); (case mT => k_asm); (case mk => exact rfl); (case md => omega); (case mu => omega); (case hne => exact it_hne lN9 (by (refine ⟨?_, ?_, ?_⟩ <;> (dsimp only; walk_at "m ne9"))) hDa hDd hDl hWn hTL.2)); intro v' new' h' tk' n9' l9 hp' F' N' ne'; (obtain ⟨c', hv', hn'⟩ := hp'); subst hv'; subst hn'; clear l9 ne' lF9 lN9; (try simp only [List.cons_append, List.nil_append] at N'))
        | ((with_reducible refine goK "newList" ?_); (rename Fr _ _ _ _ => lF'); (rename News _ _ _ _ => lN'); k_dflt (refine' newList_strs (xs := namesL) lF' lN' ?k3 ?_ ?k5; (case k3 => walk_at "m strs"); (case k5 => exact szl (Nat.le_of_ble_eq_true rfl)); k_whole); clear lF' lN'; intro nm' nvs' h' tk' F' N' l1 hnv'; (try k_lt l1))
        | ((with_reducible refine goK _ ?_); have noK9 := True.intro; walk_at "m step"; all_goals (try clear noK9)))
    | walk_at "m step")
  rename News _ _ _ _ => lN8
  rename Fr _ _ _ _ => lF8
  exact row_end (pre := fun oz => (c', listOf vs9.toArray 0) :: preT w a d l n nd tk0 vs9 (nm', listOf nvs'.toArray 0) (W, listOf wvs.toArray wn) L o1 o2 oz o4 o5) (P := fun oz => oz.data = .cell (some (.ref nm'))) hz' lF8 lN8 off9 (by refine ⟨?_, ?_, ?_⟩ <;> walk_at "m ne9") (.tail _ (.tail _ (.tail _ (.tail _ (.tail _ (.head _)))))) hsub' hsem' hce' rfl rfl
end
end
section
open PySem.Calls
noncomputable def subs {α : Type} : List α → List (List α)
  | [] => [[]]
  | a :: l => subs l ++ (subs l).map (a :: ·)
theorem filter_subs {α : Type} (p : α → Bool) : ∀ l : List α, l.filter p ∈ subs l
  | [] => .head _
  | a :: l => by
    unfold subs
    rw [List.filter_cons]
    cases h : p a with
    | true => simp only [if_true]; exact List.mem_append_right _ (List.mem_map.mpr ⟨_, filter_subs p l, rfl⟩)
    | false => simp only [Bool.false_eq_true, if_false]; exact List.mem_append_left _ (filter_subs p l)
noncomputable def HOk (hs : List Int) : Prop := hs.Pairwise (· < ·) ∧ ∀ c ∈ hs, 0 ≤ c ∧ c < 7
theorem sorted_eq : ∀ {l₁ l₂ : List Int}, l₁.Pairwise (· < ·) → l₂.Pairwise (· < ·) → (∀ c, c ∈ l₁ ↔ c ∈ l₂) → l₁ = l₂
  | [], [], _, _, _ => rfl
  | [], b :: _, _, _, h => absurd ((h b).mpr (.head _)) (by simp)
  | a :: _, [], _, _, h => absurd ((h a).mp (.head _)) (by simp)
  | a :: l₁, b :: l₂, h1, h2, h => by
    rw [List.pairwise_cons] at h1 h2
    have e : a = b := by
      rcases List.mem_cons.mp ((h a).mp (.head _)) with q | q
      · exact q
      · rcases List.mem_cons.mp ((h b).mpr (.head _)) with q2 | q2
        · exact q2.symm
        · have := h1.1 _ q2
          have := h2.1 _ q
          omega
    subst e
    have ih := sorted_eq h1.2 h2.2 fun c => by
      constructor
      · intro hc
        have hlt := h1.1 _ hc
        rcases List.mem_cons.mp ((h c).mp (.tail _ hc)) with q | q
        · omega
        · exact q
      · intro hc
        have hlt := h2.1 _ hc
        rcases List.mem_cons.mp ((h c).mpr (.tail _ hc)) with q | q
        · omega
        · exact q
    rw [ih]
noncomputable def sevenL : List Int := [0, 1, 2, 3, 4, 5, 6]
theorem hok_subs {hs : List Int} (h : HOk hs) : hs ∈ subs sevenL := by
  have e : hs = sevenL.filter (fun c => hs.contains c) := by
    refine sorted_eq h.1 ?_ fun c => ?_
    · exact (show sevenL.Pairwise (· < ·) from by decide).filter _
    · rw [List.mem_filter]
      constructor
      · intro hc
        refine ⟨?_, by simpa using hc⟩
        obtain ⟨a, b⟩ := h.2 c hc
        rcases seven a b with rfl | rfl | rfl | rfl | rfl | rfl | rfl <;> simp [sevenL]
      · rintro ⟨_, hc⟩
        simpa using hc
  rw [e]
  exact filter_subs _ _
theorem hok_of {ws hs : List Int} (hw : WOk ws) (p : hs.Perm ws) (o : hs.Pairwise (· ≤ ·)) : HOk hs := by
  have nd : hs.Nodup := p.nodup_iff.mpr hw.1
  refine ⟨?_, fun c hc => hw.2 c (p.mem_iff.mp hc)⟩
  have h2 : hs.Pairwise (fun a b => a ≤ b ∧ a ≠ b) := o.and nd
  exact h2.imp fun h => by omega
noncomputable def sumB (ws : List Int) : Int := (ws.map fun c => 1 * 2 ^ c.toNat).sum
theorem sum_perm {l₁ l₂ : List Int} (p : l₁.Perm l₂) : l₁.sum = l₂.sum := by
  induction p with
  | nil => rfl
  | cons x _ ih => simp only [List.sum_cons, ih]
  | swap x y l => simp only [List.sum_cons]; omega
  | trans _ _ a b => exact a.trans b
theorem sumB_perm {ws hs : List Int} (p : hs.Perm ws) : sumB ws = sumB hs := by
  unfold sumB
  exact (sum_perm (p.map _)).symm
noncomputable def rollS (hs : List Int) : Str := if hs = [] then Str.ofString "0x0" else PySem.Txt.join (Str.ofString ", ") (bitNs (sumB hs) 7)
noncomputable def rollL (hs : List Int) : List Str := if hs = [] then [Str.ofString "0x0"] else hs.map wordS
noncomputable def rollOk (hs : List Int) : Bool := decide (hs = [] ∨ 0 < sumB hs) && decide (sumB hs < 128) && decide (hs.length ≤ 7) && (((List.range 7).filter fun (j : Nat) => decide ((j : Int) < 7) && (sumB hs / (2 : Int) ^ j % 2 == 1)) == hs.map Int.toNat)
theorem roll_all : (subs sevenL).all rollOk = true := by decide +kernel
theorem sep_is : Str.ofString ", " = sepS := by decide +kernel
noncomputable def wordOk (c : Int) : Bool := decide ((wordS c).length ≤ 16) && !(wordS c).cps.toList.contains 44 && PyData.strOk (wordS c)
theorem word_all : sevenL.all wordOk = true := by decide +kernel
theorem roll_word {hs : List Int} (h : HOk hs) : ∀ c ∈ hs, (wordS c).length ≤ 16 ∧ 44 ∉ (wordS c).cps.toList ∧ PyData.strOk (wordS c) = true := by
  intro c hc
  obtain ⟨a, b⟩ := h.2 c hc
  have hm : c ∈ sevenL := by
    rcases seven a b with rfl | rfl | rfl | rfl | rfl | rfl | rfl <;> simp [sevenL]
  have := List.all_eq_true.mp word_all c hm
  unfold wordOk at this
  simp only [Bool.and_eq_true, decide_eq_true_eq, Bool.not_eq_true', List.contains_eq_mem, decide_eq_false_iff_not] at this
  exact ⟨this.1.1, this.1.2, this.2⟩
theorem sum_words : ∀ (hs : List Int), (∀ c ∈ hs, (wordS c).length ≤ 16) → ((hs.map wordS).map (·.length)).sum ≤ 16 * hs.length
  | [], _ => Nat.zero_le _
  | c :: hs, h => by
    have h0 := h c (.head _)
    have ih := sum_words hs fun q hq => h q (.tail _ hq)
    simp only [List.map_cons, List.sum_cons, List.length_cons]
    omega
theorem roll_ok {hs : List Int} (h : HOk hs) : (hs = [] ∨ 0 < sumB hs) ∧ sumB hs < 128 ∧ (rollS hs).length ≤ 200 ∧ PySem.Txt.split (rollS hs) (Str.ofString ", ") = rollL hs ∧ ∀ x ∈ rollL hs, PyData.strOk x = true := by
  have := List.all_eq_true.mp roll_all hs (hok_subs h)
  unfold rollOk at this
  simp only [Bool.and_eq_true, decide_eq_true_eq, beq_iff_eq] at this
  obtain ⟨⟨⟨a, b⟩, c⟩, d⟩ := this
  have wf := roll_word h
  have hb : bitNs (sumB hs) 7 = hs.map wordS := by
    unfold bitNs
    rw [d, List.map_map]
    rfl
  by_cases q : hs = []
  · subst q
    refine ⟨a, b, by decide +kernel, by decide +kernel, by decide +kernel⟩
  · unfold rollS rollL
    rw [if_neg q, if_neg q, hb, sep_is]
    refine ⟨a, b, ?_, split_join (by simpa using q) ?_, ?_⟩
    · show (Builtin.Str.glued sepS (hs.map wordS)).length ≤ 200
      rw [StrLaws.glued_eq_join]
      have h1 := StrLaws.join_length_le sepS (hs.map wordS)
      have h2 := sum_words hs fun c hc => (wf c hc).1
      have h3 : sepS.length = 2 := rfl
      rw [h3, List.length_map] at h1
      omega
    · intro w hw
      obtain ⟨c, hc, rfl⟩ := List.mem_map.mp hw
      exact (wf c hc).2.1
    · intro w hw
      obtain ⟨c, hc, rfl⟩ := List.mem_map.mp hw
      exact (wf c hc).2.2
theorem roll_spec {w : World} {hs : List Int} (h : HOk hs) (t : Tok) : Spec 1 w 158 [.int (sumB hs) t] [] (fun _ v new => ∃ t', v = .str (rollS hs) t' ∧ new = []) := by
  obtain ⟨a, b, _⟩ := roll_ok h
  by_cases q : hs = []
  · subst q
    exact flags0_spec t
  · have := flags_spec (w := w) (sumB hs) t (a.resolve_left q) b
    unfold rollS
    rw [if_neg q]
    exact this
theorem tled_pairs {h₀ h : Heap} {L : Addr} {tlr news : List (Addr × Obj)} {vs : List Value} {rows : List (Str × Str)} (N : News h₀ L h news) (hs : ∀ q ∈ tlr, q ∈ news) (hT : TLed tlr vs rows) : ∃ ps, Pairs tlr vs ps ∧ StrsAre (ps.map (·.2)) (rows.map (·.2)) := by
  have key : ∀ T, Value.ref T ∈ vs → ∃ q ∈ tlr, q.1 = T := by
    intro T hm
    apply Classical.byContradiction
    intro hn
    have g : TRows (hideAll h [T]) vs rows := hT.1 _ fun q hq => hideAll_get [T] (N q (hs q hq)).1 fun hx => hn ⟨q, hq, List.mem_singleton.mp hx⟩
    obtain ⟨a, t, u, r, e, ha, _⟩ := TRows.mem g hm
    injection e with e
    subst e
    have n := hideAll_none (h := h) (l := [T]) (List.mem_singleton.mpr rfl)
    rw [ha] at n
    cases n
  have g := hT.1 h fun q hq => (N q (hs q hq)).1
  clear hT
  induction g with
  | nil => exact ⟨[], .nil, .nil⟩
  | @cons T t u r vs rs e _ ih =>
    obtain ⟨ps, h1, h2⟩ := ih fun T hm => key T (.tail _ hm)
    obtain ⟨q, hq, rfl⟩ := key T (.head _)
    have := (N q (hs q hq)).1
    rw [e] at this
    have e2 : q.2 = tup2 r.1 r.2 t u := (Option.some.inj this).symm
    refine ⟨(.str r.1 t, .str r.2 u) :: ps, .cons (?_ : (q.1, tup2 r.1 r.2 t u) ∈ tlr) h1, .cons _ _ h2⟩
    rw [← e2]
    exact hq
theorem snd_rows (ws : List Int) : (rowsOf ws).map (·.2) = ws.map digS := by
  unfold rowsOf
  rw [List.map_map]
  rfl
end
section
open PySem.Calls
section
variable {prog : Program} {w : World} {A : Around} {E : Value → Shared → Prop} {s : Shared} {h₀ h : Heap} {L : Addr} {m : Str → Option Value} {env : Env}
theorem rest_fix {elt : PySem.Expr} {x : Str} {scope : Scope} {cl : List (Str × Addr)} {S : List (Addr × Obj) → Prop} {Fin : List Value → List (Addr × Obj) → Prop} {us : List Value} {news : List (Addr × Obj)} (g : Nat → List Value → Prop) (g0 : g 0 [])
    (turn : ∀ i v ys I oI C oC D m₂ h tk (E' : Value → Shared → Prop), us[i]? = some v → g i ys → LCg.NsObj oC m₂ → m₂ x = some v → Fr h₀ L h m → News h₀ L h ((I, oI) :: (C, oC) :: (D, LCg.lst ys) :: news) → LCg.Off3 I C D news → ((@Ne Nat I C) ∧ (@Ne Nat I D) ∧ (@Ne Nat C D)) →
      wpAny (model prog w) A (eval elt (compEnvC scope cl C env)) (LCg.CompEnd h₀ L m { s with heap := h, toks := tk } I oI C oC D (LCg.lst ys) S (fun y news' => news' = news ∧ g (i + 1) (ys ++ [y]))) E' { s with heap := h, toks := tk })
    (fin : ∀ ys, g us.length ys → Fin ys news) : LCg.CompRest prog w A h₀ L m env elt x scope cl s S (fun i v => us.toArray[i]? = some v) Fin us.length 0 [] news :=
  rest_inv (fun i ys nw => nw = news ∧ g i ys) (fun i v ys nw I oI C oC D m₂ h tk E' hv hj hC hx F N off ne => by
    obtain ⟨rfl, hg⟩ := hj
    exact turn i v ys I oI C oC D m₂ h tk E' hv hg hC hx F N off ne) (fun ys nw hj => by obtain ⟨rfl, hg⟩ := hj; exact fin ys hg) us.length 0 [] news (by simp) ⟨rfl, g0⟩
theorem fix_end {news : List (Addr × Obj)} {g : List Value → Prop} {I C D : Nat} {oI oC : Obj} {ys : List Value} {y : Value} {h' : Heap} {tk' : Nat} {ax k : Nat} {its : List Value} (F : Fr h₀ L h' m) (N : News h₀ L h' ((I, oI) :: (C, oC) :: (D, LCg.lst ys) :: news)) (off : LCg.Off3 I C D news) (hS : (ax, listOf its.toArray k) ∈ news) (hg : g (ys ++ [y])) :
    LCg.CompEnd h₀ L m s I oI C oC D (LCg.lst ys) (LCg.SrcAt h₀ ax its.toArray) (fun y news' => news' = news ∧ g (ys ++ [y])) y { s with heap := h', toks := tk' } :=
  LCg.CompEnd.intro F N news (fun p hp => hp) off (.inr ⟨_, hS, rfl, _, rfl⟩) ⟨rfl, hg⟩
theorem ints_snoc {vs : List Value} {ns : List Int} (h : IntsAre vs ns) (x : Int) (t : Tok) : IntsAre (vs ++ [.int x t]) (ns ++ [x]) := by
  induction h with
  | nil => exact .cons _ _ .nil
  | cons i u _ ih => exact .cons i u ih
theorem strs_snoc {vs : List Value} {ns : List Str} (h : StrsAre vs ns) (x : Str) (t : Tok) : StrsAre (vs ++ [.str x t]) (ns ++ [x]) := by
  induction h with
  | nil => exact .cons _ _ .nil
  | cons i u _ ih => exact .cons i u ih
theorem map_snoc {α β : Type} (f : α → β) {l : List α} {i : Nat} {c : α} (e : l[i]? = some c) : (l.take (i + 1)).map f = (l.take i).map f ++ [f c] := by
  rw [List.take_add_one, e, List.map_append]
  rfl
theorem vl_perm {x y a d l wo c5 c4 c3 c2 c1 : Addr × Obj} {t : List (Addr × Obj)} (N : News h₀ L h (x :: y :: a :: d :: l :: wo :: c5 :: c4 :: c3 :: c2 :: c1 :: t)) : News h₀ L h ((a :: d :: l :: t) ++ [x, y, wo, c5, c4, c3, c2, c1]) := fun p hp => N p (by
  simp only [List.mem_cons, List.mem_append, List.not_mem_nil, or_false] at hp ⊢
  rcases hp with (h | h | h | h) | (h | h | h | h | h | h | h | h) <;> simp [h])
theorem vl_back {v x y a d l wo c5 c4 c3 c2 c1 : Addr × Obj} {t : List (Addr × Obj)} (N : News h₀ L h ((v :: a :: d :: l :: t) ++ [x, y, wo, c5, c4, c3, c2, c1])) : News h₀ L h (v :: x :: y :: a :: d :: l :: wo :: c5 :: c4 :: c3 :: c2 :: c1 :: t) := fun p hp => N p (by
  simp only [List.mem_cons, List.mem_append, List.not_mem_nil, or_false] at hp ⊢
  rcases hp with h | h | h | h | h | h | h | h | h | h | h | h | h <;> simp [h])
theorem vl_hne {M a d l n nd W wn H hn nm nn : Nat} {e : List DictEntry} {vs hvs nvs wvs : List Value} {o1 o2 o3 o4 o5 : Obj} {tl : List (Addr × Obj)} (N : News h₀ L h ((H, listOf hvs.toArray hn) :: (nm, listOf nvs.toArray nn) :: (a, instObj 298 d) :: (d, dictOf e nd) :: (l, listOf vs.toArray n) :: (W, listOf wvs.toArray wn) :: cl5 M o1 o2 o3 o4 o5 tl)) (hx : @LT.lt Nat _ a H ∧ @LT.lt Nat _ d H ∧ @LT.lt Nat _ l H) (hDa : Ds M a) (hDd : Ds M d) (hDl : Ds M l) (hDt : Dt M tl) (hWn : @Ne Nat a W ∧ @Ne Nat d W ∧ @Ne Nat l W) (hNn : @Ne Nat a nm ∧ @Ne Nat d nm ∧ @Ne Nat l nm) (hc : ∀ q ∈ tl, q.2.cls = .type "tuple") :
    ∀ p ∈ [(H, listOf hvs.toArray hn), (nm, listOf nvs.toArray nn), (W, listOf wvs.toArray wn), (M + 1 + 1 + 1 + 1 + 1, o5), (M + 1 + 1 + 1 + 1, o4), (M + 1 + 1 + 1, o3), (M + 1 + 1, o2), (M + 1, o1)], ∀ q ∈ (a, instObj 298 d) :: (d, dictOf e nd) :: (l, listOf vs.toArray n) :: tl, q.1 ≠ p.1 := by
  have tup : ∀ T : String, T = "list" → Value.type "tuple" ≠ Value.type T := fun T e q => by subst e; injection q with q; exact absurd q (by decide)
  intro p hp q hq
  simp only [List.mem_cons, List.not_mem_nil, or_false] at hp hq
  have mt : ∀ q ∈ tl, q ∈ (H, listOf hvs.toArray hn) :: (nm, listOf nvs.toArray nn) :: (a, instObj 298 d) :: (d, dictOf e nd) :: (l, listOf vs.toArray n) :: (W, listOf wvs.toArray wn) :: cl5 M o1 o2 o3 o4 o5 tl := fun q hq => .tail _ (.tail _ (.tail _ (.tail _ (.tail _ (.tail _ (.tail _ (.tail _ (.tail _ (.tail _ (.tail _ hq))))))))))
  rcases hq with rfl | rfl | rfl | hq
  · rcases hp with rfl | rfl | rfl | rfl | rfl | rfl | rfl | rfl
    · exact Nat.ne_of_lt hx.1
    · exact hNn.1
    · exact hWn.1
    · exact hDa.1
    · exact hDa.2.1
    · exact hDa.2.2.1
    · exact hDa.2.2.2.1
    · exact hDa.2.2.2.2
  · rcases hp with rfl | rfl | rfl | rfl | rfl | rfl | rfl | rfl
    · exact Nat.ne_of_lt hx.2.1
    · exact hNn.2.1
    · exact hWn.2.1
    · exact hDd.1
    · exact hDd.2.1
    · exact hDd.2.2.1
    · exact hDd.2.2.2.1
    · exact hDd.2.2.2.2
  · rcases hp with rfl | rfl | rfl | rfl | rfl | rfl | rfl | rfl
    · exact Nat.ne_of_lt hx.2.2
    · exact hNn.2.2
    · exact hWn.2.2
    · exact hDl.1
    · exact hDl.2.1
    · exact hDl.2.2.1
    · exact hDl.2.2.2.1
    · exact hDl.2.2.2.2
  · rcases hp with rfl | rfl | rfl | rfl | rfl | rfl | rfl | rfl
    · exact cls_ne N (.head _) (mt q hq) (by rw [hc q hq]; exact tup _ rfl)
    · exact cls_ne N (.tail _ (.head _)) (mt q hq) (by rw [hc q hq]; exact tup _ rfl)
    · exact cls_ne N (.tail _ (.tail _ (.tail _ (.tail _ (.tail _ (.head _)))))) (mt q hq) (by rw [hc q hq]; exact tup _ rfl)
    · exact hDt.1 q hq
    · exact hDt.2.1 q hq
    · exact hDt.2.2.1 q hq
    · exact hDt.2.2.2.1 q hq
    · exact hDt.2.2.2.2 q hq
end
end
section
open PySem.Calls
theorem dr2 {h₀ h : Heap} {L : Addr} {x y : Addr × Obj} {r : List (Addr × Obj)} (N : News h₀ L h (x :: y :: r)) : News h₀ L h r := fun p hp => N p (.tail _ (.tail _ hp))
theorem str_at {us : List Value} {ws : List Int} {f : Int → Str} (h : StrsAre us (ws.map f)) {i : Nat} {v : Value} (e : us[i]? = some v) : ∃ c t, ws[i]? = some c ∧ v = .str (f c) t := by
  have hlt : i < us.length := (List.getElem?_eq_some_iff.mp e).1
  have hl := h.len_eq
  rw [List.length_map] at hl
  have hlt' : i < ws.length := by omega
  obtain ⟨t, ht⟩ := strs_at h e (x := f ws[i]) (by rw [List.getElem?_map, List.getElem?_eq_getElem hlt']; rfl)
  exact ⟨ws[i], t, List.getElem?_eq_getElem hlt', ht⟩
theorem law_keepD1 {h₀ h : Heap} {L : Addr} {Dx r x y a d l wo c5 c4 c3 c2 c1 : Addr × Obj} {t : List (Addr × Obj)} (N : News h₀ L h (Dx :: r :: x :: y :: a :: d :: l :: wo :: c5 :: c4 :: c3 :: c2 :: c1 :: t)) : News h₀ L h (r :: x :: a :: d :: l :: c5 :: c4 :: c3 :: c2 :: c1 :: t) := fun p hp => N p (by
  simp only [List.mem_cons] at hp ⊢
  rcases hp with h | h | h | h | h | h | h | h | h | h | h <;> simp [h])
theorem law_keepD2 {h₀ h : Heap} {L : Addr} {Dy Dx r x y a d l wo c5 c4 c3 c2 c1 : Addr × Obj} {t : List (Addr × Obj)} (N : News h₀ L h (Dy :: Dx :: r :: x :: y :: a :: d :: l :: wo :: c5 :: c4 :: c3 :: c2 :: c1 :: t)) : News h₀ L h (r :: x :: a :: d :: l :: c5 :: c4 :: c3 :: c2 :: c1 :: t) := fun p hp => N p (by
  simp only [List.mem_cons] at hp ⊢
  rcases hp with h | h | h | h | h | h | h | h | h | h | h <;> simp [h])
theorem roll_ne {hs : List Int} {ys : List Value} (h : ys.toArray.isEmpty = false) (hg : StrsAre ys (hs.map wordS)) : StrsAre ys (rollL hs) := by
  unfold rollL
  have : hs ≠ [] := by
    rintro rfl
    cases hg
    simp at h
  rw [if_neg this]
  exact hg
theorem roll_nil {hs : List Int} {ys zs : List Value} (h : ys.toArray.isEmpty = true) (hg : StrsAre ys (hs.map wordS)) (hz : StrsAre zs [Str.ofString "0x0"]) : StrsAre zs (rollL hs) := by
  unfold rollL
  have : hs = [] := by
    cases hs with
    | nil => rfl
    | cons c r =>
      cases hg
      simp at h
  rw [if_pos this]
  exact hz
theorem split1C {prog : Program} {w : World} {A : Around} {E : Value → Shared → Prop} {s : Shared} {h₀ : Heap} {L : Addr} {m : Str → Option Value} {news : List (Addr × Obj)} {x y : Str} {t u : Tok} {Q : Value → Shared → Prop} {c} (hc : call (Value.builtin "str.split") [.str x t, .str y u] = c) (hF : Fr h₀ L s.heap m) (hN : News h₀ L s.heap news) (hy : (y.length == 0) = false)
    (h : ∀ D l h' k, l.map (·.1) = Txt.split x y → StrsAre (strValues l) (l.map (·.1)) → Fr h₀ L h' m → News h₀ L h' ((D, listOf (strValues l).toArray 0) :: news) → (∀ p ∈ news, p.1 < D) → Q (.ref D) { s with heap := h', toks := k }) (hsz : x.length + 2 ≤ sizeLine) :
    wpAny (model prog w) A c Q E s := by
  subst hc
  exact KSpl.split1 hF hN hy h hsz
section
variable {w : World} {p : Program} {loose : List Str} {mean : ExcName → Option Value} {mg mb : Str → Option Value} {dp un : Nat} {gd : Option (List Code)} {A₀ : Around} {L fa : Addr} {cd : Value} {base h₀ : Heap}
set_option maxHeartbeats 4000000 in
theorem lawD {s : Shared} {Q : Flow → Shared → Prop} {E : Value → Shared → Prop} {m₀ : Str → Option Value} {o1 o2 o3 o4 o5 : Obj} {a d l n nd W wn nm : Nat} {tk0 : Tok} {vs9 wvs nvs' : List Value} {tlr : List (Addr × Obj)} {ws : List Int} {S : Value}
    (hTL : TLed tlr vs9 (rowsOf ws)) (hWO : WOk ws) (hwi : IntsAre wvs ws) (hnv' : StrsAre nvs' namesL)
    (B : Below A₀ base [] h₀) (X : (myK w.params).In h₀) (T : Top p loose mean mg mb h₀) (hd : dp + 20 < recursionLimit) (hu : un + 30 * 20 < cLine)
    (F : Fr h₀ L s.heap (fun z => if z = Str.ofString "signs" then some S else if z = Str.ofString "worn" then some (.ref W) else m₀ z)) (N : News h₀ L s.heap ((nm, listOf nvs'.toArray 0) :: tabO w a d l n nd tk0 vs9 ((W, listOf wvs.toArray wn) :: cl5 L o1 o2 o3 o4 o5 tlr))) (d2 : o2.data = .cell (some (.ref a))) (d3 : o3.data = .cell (some (.ref nm))) (d4 : o4.data = .cell none) (d5 : o5.data = .cell none)
    (hW : @LT.lt Nat _ (L + 1 + 1 + 1 + 1 + 1) W) (hDa : Ds L a) (hDd : Ds L d) (hDl : Ds L l) (hDt : Dt L tlr) (hWn : @Ne Nat a W ∧ @Ne Nat d W ∧ @Ne Nat l W) (hDn : Ds L nm) (hNn : @Ne Nat a nm ∧ @Ne Nat d nm ∧ @Ne Nat l nm)
    (hk : ∀ c, execs (bo33.drop 9) (lwE L fa cd) = c → ∀ (HT RL hn rn : Nat) hvs hs rvs o4' o5' h' tk', IntsAre hvs hs → HOk hs → StrsAre rvs (rollL hs) → o4'.data = .cell (some (.ref HT)) → o5'.data = .cell (some (.ref RL)) →
      Fr h₀ L h' (fun z => if z = Str.ofString "signs" then some S else if z = Str.ofString "worn" then some (.ref W) else m₀ z) → News h₀ L h' ((RL, listOf rvs.toArray rn) :: (HT, listOf hvs.toArray hn) :: tabO w a d l n nd tk0 vs9 (cl5 L o1 o2 o3 o4' o5' tlr)) →
      (@LT.lt Nat _ HT RL ∧ @LT.lt Nat _ l HT ∧ @LT.lt Nat _ d HT ∧ @LT.lt Nat _ a HT ∧ @LT.lt Nat _ (L + 1 + 1 + 1 + 1 + 1) HT) → hs.Perm ws → wpAny (model pw w) (lwA dp un gd L fa cd) c Q E { s with heap := h', toks := tk' })
    {c9} (hc9 : execs (bo33.drop 6) (lwE L fa cd) = c9) :
    wpAny (model pw w) (lwA dp un gd L fa cd) c9 Q E s := by
  subst hc9
  have hDa9 := hDa
  have hDd9 := hDd
  have hDl9 := hDl
  have hDn9 := hDn
  have hDt9 := hDt
  dsimp only [Ds, Dt] at hDa9 hDd9 hDl9 hDt9 hDn9
  obtain ⟨t5, t4, t3, t2, t1⟩ := hDt9
  have hw7 := hWO.len
  have hwl := hwi.length
  have m10 : ∀ q ∈ tlr, q ∈ (nm, listOf nvs'.toArray 0) :: tabO w a d l n nd tk0 vs9 ((W, listOf wvs.toArray wn) :: cl5 L o1 o2 o3 o4 o5 tlr) := fun q hq => .tail _ (.tail _ (.tail _ (.tail _ (.tail _ (.tail _ (.tail _ (.tail _ (.tail _ (.tail _ hq)))))))))
  obtain ⟨ps9, hps9, hsn9⟩ := tled_pairs N m10 hTL
  rw [snd_rows] at hsn9
  have hpl9 : ps9.length = ws.length := by
    have := hsn9.len_eq
    simpa using this
  have hv64 : vs9.length ≤ 64 := by rw [hps9.len]; omega
  dsimp only [List.drop]
  have «stop call builtin:sorted» := True.intro
  have «stop call ref» := True.intro
  have «stop eval ListComp» := True.intro
  have «stop CompSrc» := True.intro
  have «stop FinE» := True.intro
  have «stop CompEnd» := True.intro
  have «stop truthy ref» := True.intro
  have «stop compareOp NotEq ref ref» := True.intro
  have «stop execs cons» := True.intro
  have «stop execs cons Assign cons» := True.intro
  have «stop call builtin:str.split» := True.intro
  have «stop subscriptTail» := True.intro
  repeat' (first
    | ((with_reducible show StopK _ _); first
        | ((with_reducible refine goK "subscriptTail" ?_); (with_reducible show wpAny _ _ (subscriptTail _ _ (Value.ref _) (Value.int _ _)) _ _ _); (rename News _ _ _ _ => lN'); k_dflt (refine' name_item lN' ?hm hnv' h09 h19 ?_ ?k7; (case k7 => with_unfolding_all rfl); (case hm => k_mem); intro tw9'))
        | ((with_reducible refine goK "call builtin:str.split" ?_); (rename Fr _ _ _ _ => lF'); (rename News _ _ _ _ => lN'); (generalize hc9' : call (Value.builtin "str.split") _ = c9'); k_dflt (first | (refine' split1C hc9' lF' (dr2 lN') (by decide) ?_ ?hsz; (case hsz => (rw [sizeLine_eq]; have := (roll_ok hho').2.2.1; omega)); clear lF' lN' hc9'; intro RL' rl' h' tk' hrl' hrs' F' N' l1; (rw [hrl', (roll_ok hho').2.2.2.1] at hrs'); (try k_lt l1)) | refine stop9 ?_))
        | ((with_reducible refine goK "execs cons Assign cons" ?_); (have hw9 := hrs'); (have hw8 : StrsAre _ _ := hg'); (fail_if_success (have hr9 := hce')); (rename Fr _ _ _ _ => lF'); (rename News _ _ _ _ => lN'); (generalize hc9' : execs _ _ = c9'); k_dflt (first | refine' hk c9' hc9' _ _ _ _ _ _ _ _ _ _ _ hhi' hho' hrs' (by assumption) (by assumption) lF' (law_keepD1 lN') (by (refine ⟨?_, ?_, ?_, ?_, ?_⟩ <;> walk_at "m ne9")) hpm' | refine' hk c9' hc9' _ _ _ _ _ _ _ _ _ _ _ hhi' hho' hrs' (by assumption) (by assumption) lF' (law_keepD2 lN') (by (refine ⟨?_, ?_, ?_, ?_, ?_⟩ <;> walk_at "m ne9")) hpm' | refine stop9 ?_))
        | ((with_reducible refine goK "execs cons" ?_); (have hw9 := hrs'); (have hw8 : StrsAre _ _ := hg'); (fail_if_success (have hr9 := hce')); (rename Fr _ _ _ _ => lF'); (rename News _ _ _ _ => lN'); (generalize hc9' : execs _ _ = c9'); k_dflt (first | refine' hk c9' hc9' _ _ _ _ _ _ _ _ _ _ _ hhi' hho' hrs' (by assumption) (by assumption) lF' (law_keepD1 lN') (by (refine ⟨?_, ?_, ?_, ?_, ?_⟩ <;> walk_at "m ne9")) hpm' | refine' hk c9' hc9' _ _ _ _ _ _ _ _ _ _ _ hhi' hho' hrs' (by assumption) (by assumption) lF' (law_keepD2 lN') (by (refine ⟨?_, ?_, ?_, ?_, ?_⟩ <;> walk_at "m ne9")) hpm' | refine stop9 ?_))
        | ((with_reducible refine goK "compareOp NotEq ref ref" ?_); (rename News _ _ _ _ => lN'); k_dflt (first | (refine' ne_strs (rs := rollL hs') (News.isList lN' ?m1) (News.isList lN' ?m2) hrs' ?h2 (roll_ok hho').2.2.2.2 ?hu ?_; (case m1 => k_mem); (case m2 => k_mem); (case h2 => first | exact roll_ne (by assumption) hg' | exact roll_nil (by assumption) hg' (.cons _ _ .nil)); (case hu => (show un + 64 < cLine; omega))) | refine stop9 ?_))
        | ((with_reducible refine goK "truthy ref" ?_); (rename News _ _ _ _ => lN'); k_dflt (first | (refine' wpAny_truthy_list (News.isList lN' ?hm) ?hf ?_; (case hm => k_mem); (case hf => (have h77 := hg'.len_eq; rw [List.length_map] at h77; rw [List.size_toArray]; omega))) | refine stop9 ?_))
        | ((with_reducible refine goK "CompEnd" ?_); ((rename Fr _ _ _ _ => lF'); (rename News _ _ _ _ => lN'); k_dflt ((first | refine' LCg.CompEnd.intro lF' lN' _ (fun p hp => hp) off9 (.inr ⟨_, .head _, rfl, _, rfl⟩) ⟨rfl, ?hg⟩ | refine' LCg.CompEnd.intro lF' lN' _ (fun p hp => hp) off9 (.inr ⟨_, .tail _ (.head _), rfl, _, rfl⟩) ⟨rfl, ?hg⟩); (case hg => (rw [map_snoc _ hce']; first | exact ints_snoc hg' _ _ | exact strs_snoc hg' _ _)))))
        | ((with_reducible refine goK "FinE" ?_); ((unfold LCg.FinE); intro D' h' tk' F' N' o1'; clear o1'; (try simp only [List.nil_append, List.cons_append] at N'); (try dsimp only)))
        | ((with_reducible refine goK "CompSrc" ?_); (rename Fr _ _ _ _ => lF'); (rename News _ _ _ _ => lN'); k_dflt (first | ((have hHT := hho'); refine' LCg.CompSrc.ledger rfl lF' lN' ?hm ?sz ?_; (case hm => exact List.Mem.head _); (case sz => (rw [List.size_toArray, List.length_map]; exact szl (by omega))); intro g'; (rw [List.size_toArray]); refine' rest_fix (us := ps9.map (·.2)) (fun i ys => IntsAre ys ((ws.take i).map fun c => 1 * 2 ^ c.toNat)) .nil ?turn ?fin; clear lF' lN'; (case' fin => (intro ys' hg'; (rw [take_all (by rw [List.length_map]; exact hpl9)] at hg'))); (case' turn => (intro i' v' ys' I' oI' C' oC' D' m2' h' tk' E' hv' hg' hC' hx' F' N' off' ne'; (obtain ⟨c9, tc9, hce', hcv'⟩ := str_at hsn9 hv'); subst hcv'; (obtain ⟨h09, h19⟩ := hWO.2 c9 (List.mem_of_getElem? hce')); (have off9 := off'); (unfold digS at hx'); (try simp only [LCg.Off3, and_true] at off')))) | (refine' LCg.CompSrc.ledger rfl lF' lN' ?hm2 ?sz2 ?_; (case hm2 => k_mem); (case sz2 => (have h66 := hhi'.length; rw [List.size_toArray]; exact szl (by omega))); intro g'; (rw [List.size_toArray]); refine' rest_fix (us := hvs') (fun i ys => StrsAre ys ((hs'.take i).map wordS)) .nil ?turn2 ?fin2; clear lF' lN'; (case' turn2 => (intro i' v' ys' I' oI' C' oC' D' m2' h' tk' E' hv' hg' hC' hx' F' N' off' ne'; (obtain ⟨c9, tc9, hce', hcv'⟩ := int_at hhi' hv'); subst hcv'; (obtain ⟨h09, h19⟩ := hho'.2 c9 (List.mem_of_getElem? hce')); (have off9 := off'); (try simp only [LCg.Off3, and_true] at off'))); (case' fin2 => (intro ys' hg'; (rw [take_all hhi'.length] at hg')))) | refine stop9 ?_))
        | ((with_reducible refine goK "eval ListComp" ?_); k_dflt (refine LCg.ListComp_U (F₀ := by k_asm) (by with_unfolding_all rfl) (by decide) (by rfl) (by decide) (by rfl) ?_))
        | ((with_reducible refine goK "call ref" ?_); (rename Fr _ _ _ _ => lF9); (rename News _ _ _ _ => lN9); k_dflt (first | (refine' Spec.use (values_spec _ _ _ _ _ _ 0 vs9 ps9 tlr hps9 hv64) ?mB ?mF ?mK (vl_perm lN9) ?mT ?mk ?md ?mu ?hne ?_; (case mB => k_asm); (case mF => k_asm); (case mK => k_asm); (case mT => k_asm); (case mk => exact rfl); (case md => omega); (case mu => omega); (case hne => exact vl_hne lN9 (by refine ⟨?_, ?_, ?_⟩ <;> walk_at "m ne9") hDa hDd hDl hDt hWn hNn hTL.2); intro v' new' h' tk' n9' l9 hp' F' N' ne'; (obtain ⟨V', hv', hn'⟩ := hp'); subst hv'; subst hn'; clear l9 ne' lF9 lN9; (replace N' := vl_back N')) | ((rw [show (List.map (fun c : Int => (1 : Int) * 2 ^ c.toNat) ws).sum = sumB hs' from sumB_perm hpm']); refine' Spec.use0 (roll_spec hho' _) ?mB ?mF ?mK ?mN ?mT ?mk ?md ?mu ?_; (case mB => k_asm); (case mF => k_asm); (case mK => k_asm); (case mN => exact lN9); (case mT => k_asm); (case mk => exact rfl); (case md => omega); (case mu => omega); intro v' new' h' tk' n9' l9 hp' F' N' ne'; (obtain ⟨t9, hv', hn'⟩ := hp'); subst hv'; subst hn'; clear l9 ne' lF9 lN9; (try simp only [List.nil_append] at N')) | refine stop9 ?_))
        | ((with_reducible refine goK "call builtin:sorted" ?_); (rename Fr _ _ _ _ => lF'); (rename News _ _ _ _ => lN'); k_dflt (first | (refine' kso_sorted lF' lN' (News.isList lN' ?k1) hwi ?k5 ?_; (case k1 => k_mem); (case k5 => omega); clear lF' lN'; intro HT' hvs' hs' hn' h' F' N' l1 hhi' hle' hpm' hpw' hb9; clear hb9; (have hho' := hok_of hWO hpm' hpw'); (try k_lt l1)) | refine stop9 ?_))
        | ((with_reducible refine goK _ ?_); have noK9 := True.intro; walk_at "m step"; all_goals (try clear noK9)))
    | walk_at "m step")
end
end
section
open PySem.Calls
section
variable {prog : Program} {w : World} {A : Around} {E : Value → Shared → Prop} {s : Shared} {env : Env} {h₀ : Heap} {target : Expr} {body : List Stmt} {Q : Flow → Shared → Prop}
/-- a loop over a range from nothing -/
theorem range_rest {I : Addr} {n : Nat} (J : Nat → (Str → Option Value) → List (Addr × Obj) → Prop)
    (turn : ∀ i m₁ news₁ h tk t o, i < n → J i m₁ news₁ → o.cls = .type "range_iterator" → Fr h₀ env.locals h m₁ → News h₀ env.locals h ((I, o) :: news₁) →
      wpAny (model prog w) A (assign target env (.int (i : Int) t)) (fun _ s₂ => wpAny (model prog w) A (execs body env) (UnrPostW h₀ env.locals { s with heap := h, toks := tk } [(I, o)] (fun m' n' => J (i + 1) m' n') Q) E s₂) E { s with heap := h, toks := tk })
    (done : ∀ m₁ news₁ h tk, J n m₁ news₁ → Fr h₀ env.locals h m₁ → News h₀ env.locals h news₁ → Q .next { s with heap := h, toks := tk }) :
    ∀ (k i : Nat) (m₁ : Str → Option Value) (news₁ : List (Addr × Obj)), i + k = n → J i m₁ news₁ → ItemsRest prog w A E h₀ env target body Q s [(I, "range_iterator")] [] ((List.range' i k).map fun (j : Nat) => Itm.tok fun t => .int (j : Int) t) m₁ news₁
  | 0, i, m₁, news₁, e, j => ItemsRest.zero fun h tk F N => done m₁ news₁ h tk (by have : i = n := by omega
                                                                                   rw [← this]; exact j) F N
  | k + 1, i, m₁, news₁, e, j => ItemsRest.tok fun t h tk F o ho N => by
    refine wpAny_mono (turn i m₁ news₁ h tk t o (by omega) j ho F N) (fun _ s₂ q => wpAny_mono q (fun f s₃ q => ?_) fun _ _ e => e) fun _ _ e => e
    have up : UnrEndW h₀ env.locals { s with heap := h, toks := tk } [(I, o)] (fun m' n' => J (i + 1) m' n') s₃ → UnrEndW h₀ env.locals { s with heap := h, toks := tk } [(I, o)] (fun m' n' => SubL [] n' ∧ ItemsRest prog w A E h₀ env target body Q s [(I, "range_iterator")] [] ((List.range' (i + 1) k).map fun (j : Nat) => Itm.tok fun t => .int (j : Int) t) m' n') s₃ := by
      rintro ⟨h', tk', m', n', rfl, F', N', off, j'⟩
      exact ⟨h', tk', m', n', rfl, F', N', off, trivial, range_rest J turn done k (i + 1) m' n' (by omega) j'⟩
    cases f with
    | ret v => exact q
    | brk => exact q
    | next => exact up q
    | cont => exact up q
theorem for_range {tx : Str} {tp : Pos} {r : Addr} {n : Nat} {b : Int} {t u v : Tok} {m₀ : Str → Option Value} {news : List (Addr × Obj)} (J : Nat → (Str → Option Value) → List (Addr × Obj) → Prop)
    (hh : A.handled = none) (F : Fr h₀ env.locals s.heap m₀) (N : News h₀ env.locals s.heap news) (hr : IsRange s.heap r 0 b 1 t u v) (hsm : Builtin.Range.small 0 b 1 = true) (hn : Builtin.Range.rangeSize 0 b 1 = ((n : Nat) : Int)) (j₀ : J 0 m₀ news)
    (turn : ∀ I i m₁ news₁ h tk t o, (∀ p ∈ news, p.1 < I) → i < n → J i m₁ news₁ → o.cls = .type "range_iterator" → Fr h₀ env.locals h m₁ → News h₀ env.locals h ((I, o) :: news₁) →
      wpAny (model prog w) A (assign (.Name tx tp) env (.int (i : Int) t)) (fun _ s₂ => wpAny (model prog w) A (execs body env) (UnrPostW h₀ env.locals { s with heap := h, toks := tk } [(I, o)] (fun m' n' => J (i + 1) m' n') Q) E s₂) E { s with heap := h, toks := tk })
    (done : ∀ m₁ news₁ h tk, J n m₁ news₁ → Fr h₀ env.locals h m₁ → News h₀ env.locals h news₁ → Q .next { s with heap := h, toks := tk }) :
    wpAny (model prog w) A (pyIter (.ref r)) (fun it s₂ => TurnsAt prog w A h₀ env (.Name tx tp) body Q E it s₂) E s := by
  refine wpAny_pyIter_range hr hsm ?_
  have hlt : env.locals < s.heap.objs.size := F.ns.lt
  have nI : env.locals ≠ s.heap.objs.size := Nat.ne_of_lt hlt
  refine ktu_core (tk0 := s.toks) (ws := [(s.heap.objs.size, "range_iterator")]) (keep := []) (xs := (List.range' 0 n).map fun (j : Nat) => Itm.tok fun t => .int (j : Int) t)
    (KTurns.ofWalks (Walks.range hh s.heap.objs.size 0 1 n).bound fun i v s Q E st q => by show wpAny _ _ (pure ()) _ _ _; exact wpAny_pure q) (by simp) (fun i v h hp => ?_) (fun i h st => ?_) (fun b hb => ?_) (fun b hb => by simpa using hb) (fun b hb => ?_) ?_ (fun p hp hI => ?_) ?_ (F.push _) (fun p hp => ⟨Heap.get?_push_of_some _ (N p hp).1, (N p hp).2⟩) trivial (range_rest J (fun i m₁ news₁ h tk t o => turn _ i m₁ news₁ h tk t o fun p hp => Heap.lt_size (N p hp).1) done n 0 m₀ news (by omega) j₀)
  · obtain ⟨hi, t', rfl⟩ := hp
    refine ⟨.tok fun t => .int (i : Int) t, by simp [hi], t', ?_⟩
    simp
  · have st' : h.get? s.heap.objs.size = some _ := st
    exact ⟨[(s.heap.objs.size, _)], ⟨⟨rfl, rfl⟩, trivial⟩, fun p hp => by rw [List.mem_singleton.mp hp]; exact st'⟩
  · have hb' : b = s.heap.objs.size := by simpa using hb
    rw [hb']
    exact ⟨List.mem_cons_self .., next_is_new F⟩
  · have hb' : b = s.heap.objs.size := by simpa using hb
    exact .inl (by simp [hb'])
  · intro hI
    have hI' : env.locals = s.heap.objs.size := by simpa using hI
    exact nI hI'
  · exact absurd (Heap.lt_size (N p hp).1) ((List.mem_singleton.mp hI) ▸ Nat.lt_irrefl _)
  · have := Heap.get?_push_size (h := s.heap) (o := { cls := .type "range_iterator", data := .fields #[rawInt 0, rawInt (Builtin.Range.rangeSize 0 b 1), rawInt 1] }) rfl
    rw [hn] at this
    simpa [hn] using this
end
end
section
open PySem.Calls
noncomputable def chgG (hs : List Int) (seat : Int) (l : List Int) (k : Int) : List Int := if (hs.contains k != (k == seat)) = true then l ++ [k] else l
noncomputable def chgL (hs : List Int) (seat : Int) : List Int := (rangeKs 0 7).foldl (chgG hs seat) []
noncomputable def wearI (hs : List Int) (seat : Int) : Int := if hs.contains seat = true then 1 else 0
noncomputable def dueF (hs : List Int) (seat : Int) : Int := if unluckyF hs = true then 1 - wearI hs seat else if unluckyF (chgL hs seat) = true then wearI hs seat else 2
theorem chg_grows (hs : List Int) (seat : Int) : KPfGrows (chgG hs seat) := by
  intro l k
  unfold chgG
  split
  · simp
  · simp
noncomputable def dueS : List Str := [Str.ofString "changed", Str.ofString "wears"]
noncomputable def dueK (hs : List Int) (k : Nat) : List Int := (List.range k).map fun (i : Nat) => dueF hs (i : Int)
theorem dueK_next (hs : List Int) (k : Nat) : dueK hs (k + 1) = dueK hs k ++ [dueF hs (k : Int)] := by
  unfold dueK
  rw [List.range_succ, List.map_append]
  rfl
section
variable {prog : Program} {w : World} {A : Around} {E : Value → Shared → Prop} {s : Shared} {env : Env} {h₀ : Heap} {body : List Stmt} {Q : Flow → Shared → Prop}
noncomputable def DuJ (w : World) (L U RL HT rn hn a d l n nd : Nat) (tk : Tok) (vs rvs hvs : List Value) (hs : List Int) (o2 o3 o4 o5 : Obj) (tl : List (Addr × Obj)) (m₀ : Str → Option Value) (k : Nat) (m : Str → Option Value) (nx : List (Addr × Obj)) : Prop :=
  ∃ dvs dn o1 v1, nx = (U, listOf dvs.toArray dn) :: (RL, listOf rvs.toArray rn) :: (HT, listOf hvs.toArray hn) :: tabO w a d l n nd tk vs (cl5 L o1 o2 o3 o4 o5 tl) ∧ o1.data = .cell v1 ∧ (∀ z, dueS.contains z = false → m z = m₀ z) ∧ IntsAre dvs (dueK hs k)
theorem due_loop {tx : Str} {tp : Pos} {r : Addr} {t u v : Tok} {L U RL HT rn hn a d l n nd : Nat} {tk : Tok} {vs rvs hvs : List Value} {hs : List Int} {o1 o2 o3 o4 o5 : Obj} {v1 : Option Value} {tl : List (Addr × Obj)} {m₀ : Str → Option Value} (hh : A.handled = none) (F : Fr h₀ env.locals s.heap m₀)
    (N : News h₀ env.locals s.heap ((U, listOf #[] 0) :: (RL, listOf rvs.toArray rn) :: (HT, listOf hvs.toArray hn) :: tabO w a d l n nd tk vs (cl5 L o1 o2 o3 o4 o5 tl))) (hr : IsRange s.heap r 0 7 1 t u v) (hd : o1.data = .cell v1)
    (turn : ∀ (I i : Nat) dvs dn o1 v1 (u : Str → Option Value) h tk' t o, i < 7 → o1.data = .cell v1 → IntsAre dvs (dueK hs i) → o.cls = .type "range_iterator" → @LT.lt Nat _ U I → @LT.lt Nat _ (L + 1 + 1 + 1 + 1 + 1) I → @LT.lt Nat _ RL I → @LT.lt Nat _ HT I → @LT.lt Nat _ a I → @LT.lt Nat _ d I → @LT.lt Nat _ l I → (∀ p ∈ tl, @LT.lt Nat _ p.1 I) →
      Fr h₀ env.locals h (fun z => if dueS.contains z = true then u z else m₀ z) → News h₀ env.locals h ((I, o) :: (U, listOf dvs.toArray dn) :: (RL, listOf rvs.toArray rn) :: (HT, listOf hvs.toArray hn) :: tabO w a d l n nd tk vs (cl5 L o1 o2 o3 o4 o5 tl)) →
      wpAny (model prog w) A (assign (.Name tx tp) env (.int (i : Int) t)) (fun _ s₂ => wpAny (model prog w) A (execs body env) (UnrPostW h₀ env.locals { s with heap := h, toks := tk' } [(I, o)] (fun m' n' => DuJ w L U RL HT rn hn a d l n nd tk vs rvs hvs hs o2 o3 o4 o5 tl m₀ (i + 1) m' n') Q) E s₂) E { s with heap := h, toks := tk' })
    (done : ∀ dvs dn o1 v1 (u : Str → Option Value) h tk', o1.data = .cell v1 → IntsAre dvs (dueK hs 7) → Fr h₀ env.locals h (fun z => if dueS.contains z = true then u z else m₀ z) → News h₀ env.locals h ((U, listOf dvs.toArray dn) :: (RL, listOf rvs.toArray rn) :: (HT, listOf hvs.toArray hn) :: tabO w a d l n nd tk vs (cl5 L o1 o2 o3 o4 o5 tl)) → Q .next { s with heap := h, toks := tk' }) :
    wpAny (model prog w) A (pyIter (.ref r)) (fun it s₂ => TurnsAt prog w A h₀ env (.Name tx tp) body Q E it s₂) E s := by
  refine for_range (DuJ w L U RL HT rn hn a d l n nd tk vs rvs hvs hs o2 o3 o4 o5 tl m₀) hh F N hr (by decide) (n := 7) rfl ⟨[], 0, o1, v1, rfl, hd, fun _ _ => rfl, .nil⟩ ?_ ?_
  · rintro I i m₁ nx h tk' t o hI hi ⟨dvs, dn, o1', v1', rfl, h1, h2, h3⟩ ho F₁ N₁
    exact turn I i dvs dn o1' v1' m₁ h tk' t o hi h1 h3 ho (hI _ (.head _)) (hI _ (.tail _ (.tail _ (.tail _ (.tail _ (.tail _ (.tail _ (.head _))))))))  (hI _ (.tail _ (.head _))) (hI _ (.tail _ (.tail _ (.head _)))) (hI _ (.tail _ (.tail _ (.tail _ (.head _))))) (hI _ (.tail _ (.tail _ (.tail _ (.tail _ (.head _)))))) (hI _ (.tail _ (.tail _ (.tail _ (.tail _ (.tail _ (.head _)))))))
      (fun p hp => hI p (.tail _ (.tail _ (.tail _ (.tail _ (.tail _ (.tail _ (.tail _ (.tail _ (.tail _ (.tail _ (.tail _ hp)))))))))))) (frG h2 F₁) N₁
  · rintro m₁ nx h tk' ⟨dvs, dn, o1', v1', rfl, h1, h2, h3⟩ F₁ N₁
    exact done dvs dn o1' v1' m₁ h tk' h1 h3 (frG h2 F₁) N₁
end
end
section
open PySem.Calls
theorem hne_of {HT : Nat} {o : Obj} {rest : List (Addr × Obj)} (h : ∀ p ∈ rest, p.1 ≠ HT) : ∀ p ∈ rest, ∀ q ∈ [(HT, o)], q.1 ≠ p.1 := fun p hp q hq => by
  rw [List.mem_singleton.mp hq]
  exact Ne.symm (h p hp)
section
variable {h₀ h : Heap} {L : Addr} {x1 x2 x3 x4 y : Addr × Obj} {r : List (Addr × Obj)}
theorem pm5 (N : News h₀ L h (x1 :: x2 :: x3 :: x4 :: y :: r)) : News h₀ L h ([y] ++ (x1 :: x2 :: x3 :: x4 :: r)) := fun p hp => N p (by
  simp only [List.cons_append, List.nil_append, List.mem_cons] at hp ⊢
  rcases hp with h | h | h | h | h | h <;> simp [h])
theorem pm5b (N : News h₀ L h ([y] ++ (x1 :: x2 :: x3 :: x4 :: r))) : News h₀ L h (x1 :: x2 :: x3 :: x4 :: y :: r) := fun p hp => N p (by
  simp only [List.cons_append, List.nil_append, List.mem_cons] at hp ⊢
  rcases hp with h | h | h | h | h | h <;> simp [h])
end
theorem foldl_filter {p : Int → Bool} : ∀ (l acc : List Int), l.foldl (fun a k => if p k = true then a ++ [k] else a) acc = acc ++ l.filter p
  | [], acc => by simp
  | k :: l, acc => by
    rw [List.foldl_cons, foldl_filter l, List.filter_cons]
    by_cases h : p k = true
    · simp [h]
    · simp [h]
theorem chg_filter (hs : List Int) (seat : Int) : chgL hs seat = (rangeKs 0 7).filter fun k => hs.contains k != (k == seat) := by
  have := foldl_filter (p := fun k => hs.contains k != (k == seat)) (rangeKs 0 7) []
  rw [List.nil_append] at this
  exact this
theorem chg_in (hs : List Int) (seat : Int) : ∀ c ∈ chgL hs seat, 0 ≤ c ∧ c < 7 := by
  intro c hc
  rw [chg_filter] at hc
  have h := (List.mem_filter.mp hc).1
  revert c
  intro c _ h
  exact (show ∀ c ∈ rangeKs 0 7, 0 ≤ c ∧ c < 7 from by decide) c h
theorem chg_len (hs : List Int) (seat : Int) : (chgL hs seat).length ≤ 7 := by
  rw [chg_filter]
  exact List.length_filter_le _ _
theorem hok_len {hs : List Int} (h : HOk hs) : hs.length ≤ 7 := WOk.len ⟨h.1.imp (fun h => Int.ne_of_lt h), h.2⟩
theorem due_append {prog : Program} {w : World} {A : Around} {E : Value → Shared → Prop} {s : Shared} {h₀ : Heap} {L : Addr} {m : Str → Option Value} {U dn I : Nat} {o : Obj} {x : Addr × Obj} {dvs : List Value} {ds : List Int} {k : Int} {t : Tok} {r : List (Addr × Obj)} {Q : Value → Shared → Prop} (F : Fr h₀ L s.heap m) (N : News h₀ L s.heap (x :: (I, o) :: (U, listOf dvs.toArray dn) :: r)) (hi : IntsAre dvs ds) (hl : ds.length ≤ 7) (hI : @Ne Nat I U) (hr : ∀ p ∈ r, p.1 ≠ U)
    (h : ∀ h' qs n, Fr h₀ L h' m → News h₀ L h' ((I, o) :: (U, listOf qs.toArray n) :: r) → IntsAre qs (ds ++ [k]) → Q .none { s with heap := h' }) : wpAny (model prog w) A (call (.builtin "list.append") [.ref U, .int k t]) Q E s := by
  have l1 := hi.length
  refine append_K F (fun p hp => N p (.tail _ hp)) (.tail hI (.head hr)) (fun h' F' N' => h h' (dvs ++ [Value.int k t]) (dn + 1) F' ?_ (ints_snoc hi k t)) (by rw [List.size_toArray, sizeLine_eq]; omega)
  have e : dvs.toArray.push (Value.int k t) = (dvs ++ [Value.int k t]).toArray := by simp
  rw [e] at N'
  exact N'
theorem dueK_len (hs : List Int) (k : Nat) : (dueK hs k).length = k := by simp [dueK]
theorem off1_mem {D : Nat} : ∀ {l : List (Addr × Obj)}, LCg.Off1 D l → ∀ p ∈ l, @Ne Nat p.1 D
  | [], _, _, hp => nomatch hp
  | x :: r, h, p, hp => by
    rcases List.mem_cons.mp hp with rfl | hp
    · exact h.1
    · exact off1_mem h.2 p hp
theorem due_end {w : World} {h₀ h' : Heap} {Lf : Addr} {m' m₀ : Str → Option Value} {L U RL HT rn hn a d l n nd I i qn : Nat} {tk : Tok} {vs rvs hvs qs : List Value} {hs : List Int} {o o1 o2 o3 o4 o5 : Obj} {v1 : Option Value} {tl : List (Addr × Obj)} {k : Int} {s₁ : Shared} {tk' : Nat} (F : Fr h₀ Lf h' m') (N : News h₀ Lf h' ((I, o) :: (U, listOf qs.toArray qn) :: (RL, listOf rvs.toArray rn) :: (HT, listOf hvs.toArray hn) :: tabO w a d l n nd tk vs (cl5 L o1 o2 o3 o4 o5 tl)))
    (hd : o1.data = .cell v1) (hq : IntsAre qs (dueK hs i ++ [k])) (hk : k = dueF hs (i : Int)) (hm : ∀ z, dueS.contains z = false → m' z = m₀ z) (b1 : @LT.lt Nat _ U I) (b2 : @LT.lt Nat _ (L + 1 + 1 + 1 + 1 + 1) I) (b3 : @LT.lt Nat _ RL I) (b4 : @LT.lt Nat _ HT I) (b5 : @LT.lt Nat _ a I) (b6 : @LT.lt Nat _ d I) (b7 : @LT.lt Nat _ l I) (b8 : ∀ p ∈ tl, @LT.lt Nat _ p.1 I) :
    UnrEndW h₀ Lf s₁ [(I, o)] (fun m' n' => DuJ w L U RL HT rn hn a d l n nd tk vs rvs hvs hs o2 o3 o4 o5 tl m₀ (i + 1) m' n') { s₁ with heap := h', toks := tk' } := by
  refine ⟨h', tk', m', (U, listOf qs.toArray qn) :: (RL, listOf rvs.toArray rn) :: (HT, listOf hvs.toArray hn) :: tabO w a d l n nd tk vs (cl5 L o1 o2 o3 o4 o5 tl), rfl, F, N, fun p hp q hq => ?_, qs, qn, o1, v1, rfl, hd, hm, by rw [dueK_next, ← hk]; exact hq⟩
  rw [List.mem_singleton.mp hq]
  simp only [tabO, cl5, List.mem_cons] at hp
  rcases hp with rfl | rfl | rfl | rfl | rfl | rfl | rfl | rfl | rfl | rfl | rfl | hp
  · exact na (by dsimp only; walk_at "m ne9")
  · exact na (by dsimp only; walk_at "m ne9")
  · exact na (by dsimp only; walk_at "m ne9")
  · exact na (by dsimp only; walk_at "m ne9")
  · exact na (by dsimp only; walk_at "m ne9")
  · exact na (by dsimp only; walk_at "m ne9")
  · exact na (by dsimp only; walk_at "m ne9")
  · exact na (by dsimp only; walk_at "m ne9")
  · exact na (by dsimp only; walk_at "m ne9")
  · exact na (by dsimp only; walk_at "m ne9")
  · exact na (by dsimp only; walk_at "m ne9")
  · exact Nat.ne_of_lt (b8 p hp)
theorem due1 {hs : List Int} {c : Int} (h : hs.contains c = true) (h2 : unluckyF hs = true) : (1 : Int) - 1 = dueF hs c := by
  unfold dueF wearI
  rw [if_pos h2, if_pos h]
theorem due2 {hs : List Int} {c : Int} (h : hs.contains c = false) (h2 : unluckyF hs = true) : (1 : Int) - 0 = dueF hs c := by
  unfold dueF wearI
  rw [if_pos h2, if_neg (by rw [h]; exact Bool.false_ne_true)]
theorem due3 {hs : List Int} {c : Int} (h : hs.contains c = true) (h2 : unluckyF hs = false) (h3 : unluckyF (chgL hs c) = true) : (1 : Int) = dueF hs c := by
  unfold dueF wearI
  rw [if_neg (by rw [h2]; exact Bool.false_ne_true), if_pos h3, if_pos h]
theorem due4 {hs : List Int} {c : Int} (h : hs.contains c = false) (h2 : unluckyF hs = false) (h3 : unluckyF (chgL hs c) = true) : (0 : Int) = dueF hs c := by
  unfold dueF wearI
  rw [if_neg (by rw [h2]; exact Bool.false_ne_true), if_pos h3, if_neg (by rw [h]; exact Bool.false_ne_true)]
theorem due5 {hs : List Int} {c : Int} (h2 : unluckyF hs = false) (h3 : unluckyF (chgL hs c) = false) : (2 : Int) = dueF hs c := by
  unfold dueF wearI
  rw [if_neg (by rw [h2]; exact Bool.false_ne_true), if_neg (by rw [h3]; exact Bool.false_ne_true)]
theorem chg_el {hs l : List Int} {seat k : Int} (h : (hs.contains k != (k == seat)) = true) : chgG hs seat l k = l ++ [k] := if_pos h
theorem chg_no {hs l : List Int} {seat k : Int} (h : (hs.contains k != (k == seat)) = false) : chgG hs seat l k = l := if_neg (by rw [h]; exact Bool.false_ne_true)
section
variable {w : World} {p : Program} {loose : List Str} {mean : ExcName → Option Value} {mg mb : Str → Option Value} {dp un : Nat} {gd : Option (List Code)} {A₀ : Around} {L fa : Addr} {cd : Value} {base h₀ : Heap}
set_option maxHeartbeats 1000000 in
theorem lawE {s : Shared} {Q : Flow → Shared → Prop} {E : Value → Shared → Prop} {m₀ : Str → Option Value} {o1 o2 o3 o4 o5 : Obj} {a d l n nd HT RL hn rn : Nat} {tk0 : Tok} {vs9 hvs rvs : List Value} {hs : List Int} {tlr : List (Addr × Obj)} {v1 : Option Value}
    (hhi : IntsAre hvs hs) (hho : HOk hs)
    (B : Below A₀ base [] h₀) (X : (myK w.params).In h₀) (T : Top p loose mean mg mb h₀) (hE : PassesOwn (model pw w) (lwA dp un gd L fa cd) (lwE L fa cd) E) (hd : dp + 20 < recursionLimit) (hu : un + 30 * 20 < cLine)
    (F : Fr h₀ L s.heap m₀) (N : News h₀ L s.heap ((RL, listOf rvs.toArray rn) :: (HT, listOf hvs.toArray hn) :: tabO w a d l n nd tk0 vs9 (cl5 L o1 o2 o3 o4 o5 tlr))) (d1 : o1.data = .cell v1) (d4 : o4.data = .cell (some (.ref HT)))
    (q1 : @LT.lt Nat _ HT RL) (q2 : @LT.lt Nat _ l HT) (q3 : @LT.lt Nat _ d HT) (q4 : @LT.lt Nat _ a HT) (q5 : @LT.lt Nat _ (L + 1 + 1 + 1 + 1 + 1) HT) (ha1 : @Ne Nat a (L + 1)) (hd1 : @Ne Nat d (L + 1)) (hl1 : @Ne Nat l (L + 1)) (ht1 : ∀ p ∈ tlr, p.1 ≠ L + 1) (htH : ∀ p ∈ tlr, p.1 ≠ HT)
    (hk : ∀ c, execs (bo33.drop 11) (lwE L fa cd) = c → ∀ (U un1 : Nat) dvs o1' v1' h' tk', IntsAre dvs (dueK hs 7) → o1'.data = .cell v1' → ∀ {m'}, Fr h₀ L h' m' → m' (Str.ofString "due") = some (.ref U) → News h₀ L h' ((U, listOf dvs.toArray un1) :: (RL, listOf rvs.toArray rn) :: (HT, listOf hvs.toArray hn) :: tabO w a d l n nd tk0 vs9 (cl5 L o1' o2 o3 o4 o5 tlr)) → @LT.lt Nat _ RL U → wpAny (model pw w) (lwA dp un gd L fa cd) c Q E { s with heap := h', toks := tk' })
    {c9} (hc9 : execs (bo33.drop 9) (lwE L fa cd) = c9) :
    wpAny (model pw w) (lwA dp un gd L fa cd) c9 Q E s := by
  subst hc9
  have hh9 := And.intro hhi hho
  dsimp only [List.drop]
  have «stop exec For Name Call cons nil» := True.intro
  have «stop pyIter ref» := True.intro
  have «stop compareOp In int ref» := True.intro
  have «stop eval ListComp» := True.intro
  have «stop CompSrcT» := True.intro
  have «stop call ref» := True.intro
  have «stop call builtin:list.append» := True.intro
  have «stop FinA» := True.intro
  have «stop UnrEndW» := True.intro
  have «stop execs cons» := True.intro
  repeat' (first
    | ((with_reducible show StopK _ _); first
        | ((with_reducible refine goK "execs cons" ?_); (have h99 : IntsAre _ (dueK hs 7) := hdv9.1); (rename Fr _ _ _ _ => lF'); (rename News _ _ _ _ => lN'); (generalize hc9' : execs _ _ = c9'); k_dflt (first | refine' hk c9' hc9' _ _ _ _ _ _ _ hdv9.1 hd1' lF' ?hdu lN' (by omega); (case hdu => rfl) | refine stop9 ?_))
        | ((with_reducible refine goK "UnrEndW" ?_); (rename Fr _ _ _ _ => lF'); (rename News _ _ _ _ => lN'); k_dflt (refine' due_end lF' lN' (by assumption) hqi' ?hk9 ?hm9 hUI hLI hRI hHI haI hdI hlI htI; (case hk9 => first | exact due1 (by assumption) (by assumption) | exact due2 (by assumption) (by assumption) | exact due3 (by assumption) (by assumption) (by assumption) | exact due4 (by assumption) (by assumption) (by assumption) | exact due5 (by assumption) (by assumption)); (case hm9 => (intro z h3; (simp only [dueS, List.contains_cons, List.contains_nil, Bool.or_false, Bool.or_eq_false_iff, beq_eq_false_iff_ne, ne_eq] at h3); (simp [dueS, h3]; done)))))
        | ((with_reducible refine goK "FinA" ?_); ((unfold LCg.FinA); intro D' h' tk' F' N' o1'; (have hHD : @Ne Nat HT D' := off1_mem o1' (HT, listOf hvs.toArray hn) (List.Mem.tail _ (List.Mem.tail _ (List.Mem.tail _ (List.Mem.head _))))); (try simp only [List.nil_append, List.cons_append] at N'); (try dsimp only)))
        | ((with_reducible refine goK "call builtin:list.append" ?_); (rename Fr _ _ _ _ => lF'); (rename News _ _ _ _ => lN'); k_dflt (first | (refine' due_append lF' lN' hdv9.1 ?hl3 ?hI3 ?hr3 ?_; (case hl3 => (rw [dueK_len]; omega)); (case hI3 => exact na (by walk_at "m ne9")); (case hr3 => k_all); clear lF' lN'; intro h' qs' qn' F' N' hqi') | refine stop9 ?_))
        | ((with_reducible refine goK "call ref" ?_); (rename Fr _ _ _ _ => lF9); (rename News _ _ _ _ => lN9); k_dflt (first | (refine' Spec.use (led := [(HT, listOf hvs.toArray hn)]) (unlucky_spec _ _ _ _ hh9.1 hho.2 (hok_len hho)) ?mB ?mF ?mK (pm5 lN9) ?mT ?mk ?md ?mu (hne_of ?hne) ?_; (case mB => k_asm); (case mF => k_asm); (case mK => k_asm); (case mT => k_asm); (case mk => exact rfl); (case md => omega); (case mu => omega); (case hne => k_all); intro v' new' h' tk' n9' l9 hp' F' N' ne'; (obtain ⟨hv', hn'⟩ := hp'); subst hv'; subst hn'; clear l9 ne' lF9 lN9; (replace N' := pm5b N')) | ((rename IntsAre _ (List.foldl _ _ _) => hI9); refine' Spec.use (led := [_]) (unlucky_spec _ _ _ (chgL hs (i' : Int)) hI9 (chg_in hs (i' : Int)) (chg_len hs (i' : Int))) ?mB2 ?mF2 ?mK2 lN9 ?mT2 ?mk2 ?md2 ?mu2 (tp_hne o1') ?_; (case mB2 => k_asm); (case mF2 => k_asm); (case mK2 => k_asm); (case mT2 => k_asm); (case mk2 => exact rfl); (case md2 => omega); (case mu2 => omega); intro v' new' h' tk' n9' l9 hp' F' N' ne'; (obtain ⟨hv', hn'⟩ := hp'); subst hv'; subst hn'; clear l9 ne' lF9 lN9; (try simp only [List.cons_append, List.nil_append] at N')) | refine stop9 ?_))
        | ((with_reducible refine goK "CompSrcT" ?_); k_dflt (refine LCt.CompSrcT.range (by rfl) (by k_asm) (by k_asm) (by assumption) (by decide) (by first | exact rangeSize_nat _ _ | rfl) (by first | exact Nat.le_of_ble_eq_true rfl | size_fits) ?_; intro g'; (refine' kci_range (chgG hs (i' : Int)) (fun k' t' I9 oI9 C9 oC9 D9 m9 ys9 l9 h' tk' E9 hlo9 hhi9 hI9 hC9 hx9 F' N' off9 ne9 => ?_) ?_ ?_); (all_goals (try have off0 := off9)); (all_goals (try (simp only [List.cons_append, List.nil_append, LCg.Off3, and_true] at off9))); (all_goals (try (simp only [List.cons_append, List.nil_append] at N'))); (all_goals (try ((show KPfMark → _); intro hMark'))); kcf_last))
        | ((with_reducible refine goK "eval ListComp" ?_); k_dflt (refine LCt.ListComp_T (F₀ := by k_asm) (by with_unfolding_all rfl) (by decide) (by rfl) (by decide) (by rfl) ?_))
        | ((with_reducible refine goK "compareOp In int ref" ?_); (rename News _ _ _ _ => lN'); k_dflt (refine' in_ints (News.isList lN' ?hm) hh9.1 ?_; (case hm => k_mem)))
        | ((with_reducible refine goK "pyIter ref" ?_); (with_reducible show wpAny _ _ (pyIter (Value.ref _)) (fun it s₂ => TurnsAt _ _ _ _ _ _ _ _ _ it s₂) _ _); (rename Fr _ _ _ _ => lF'); (rename News _ _ _ _ => lN'); k_dflt (first | (refine' due_loop (hs := hs) rfl lF' lN' (by assumption) d1 ?_ ?_; clear lF' lN'; intro I' i' dvs' dn' o1' v1' u' h' tk' ti' o' hi' hd1' hdv' ho' hUI hLI hRI hHI haI hdI hlI htI F' N'; have hdv9 := And.intro hdv' True.intro; rotate_left 1; clear lF' lN'; intro dvs' dn' o1' v1' u' h' tk' hd1' hdv' F' N'; have hdv9 := And.intro hdv' True.intro; rotate_right 1) | refine stop9 ?_))
        | ((with_reducible refine goK "exec For Name Call cons nil" ?_); (rename Fr _ _ _ _ => lF'); k_dflt (refine' For_turns lF' ?_ ?hs ?hE; (case hs => intro _; rfl); (case hE => assumption)))
        | ((with_reducible refine goK _ ?_); have noK9 := True.intro; walk_at "m step"; all_goals (try clear noK9)))
    | walk_at "m step")
  · rename News _ _ _ _ => lN8
    rename Fr _ _ _ _ => lF8
    exact LCg.CompEnd.intro lF8 lN8 _ (fun p hp => hp) off0 trivial (kci_el (chg_el (by assumption)) rfl rfl)
  · rename News _ _ _ _ => lN8
    rename Fr _ _ _ _ => lF8
    exact LCg.CompEnd.intro lF8 lN8 _ (fun p hp => hp) off0 trivial (kci_no (chg_no (by assumption)) rfl)
  exact chg_grows hs _
end
end
section
open PySem.Calls
noncomputable def itsF (hs : List Int) : List (Str × Option Int) := if hs = [] then [(Str.ofString "0x0", none)] else hs.map fun c => (wordS c, some c)
noncomputable def ocsF (hs : List Int) : List (Option Int) := (itsF hs).map (·.2)
noncomputable def sayK (hs : List Int) (k : Nat) : List Int := (List.range k).map fun (i : Nat) => sayF (ocsF hs) (i : Int)
theorem sayK_next (hs : List Int) (k : Nat) : sayK hs (k + 1) = sayK hs k ++ [sayF (ocsF hs) (k : Int)] := by
  unfold sayK
  rw [List.range_succ, List.map_append]
  rfl
theorem say_due_all : (subs sevenL).all (fun hs => (List.range 7).all fun (i : Nat) => sayF (ocsF hs) (i : Int) == dueF hs (i : Int)) = true := by decide +kernel
theorem say_due {hs : List Int} (h : HOk hs) : sayK hs 7 = dueK hs 7 := by
  unfold sayK dueK
  refine List.map_congr_left fun i hi => ?_
  exact eq_of_beq (List.all_eq_true.mp (List.all_eq_true.mp say_due_all hs (hok_subs h)) i hi)
theorem its_roll (hs : List Int) : (itsF hs).map (·.1) = rollL hs := by
  unfold itsF rollL
  split
  · rfl
  · rw [List.map_map]; rfl
theorem its_len {hs : List Int} (h : HOk hs) : (itsF hs).length ≤ 7 := by
  unfold itsF
  split
  · simp
  · rw [List.length_map]; exact hok_len h
theorem zero_facts : (decide ((Str.ofString "0x0").length ≤ 20) && failsOn codeN (low (Str.ofString "0x0"))) = true := by decide +kernel
theorem its_ok {ws hs : List Int} (hW : WOk ws) (h : HOk hs) (p : hs.Perm ws) : ∀ x ∈ itsF hs, OKW (rowsOf ws) x.1 x.2 ∧ x.1.length ≤ 20 ∧ failsOn codeN (low x.1) = true := by
  intro x hx
  unfold itsF at hx
  split at hx
  · rename_i e
    rw [List.mem_singleton.mp hx]
    have z := zero_facts
    simp only [Bool.and_eq_true, decide_eq_true_eq] at z
    refine ⟨?_, z.1, z.2⟩
    subst e
    have : ws = [] := List.Perm.nil_eq p |>.symm
    subst this
    rfl
  · obtain ⟨c, hc, rfl⟩ := List.mem_map.mp hx
    obtain ⟨c0, c1⟩ := h.2 c hc
    have w := word_ok c0 c1
    refine ⟨⟨rfl, c0, c1, ?_⟩, w.2.2.2.1, w.1⟩
    rw [getF_rows hW c0 c1, if_pos]
    simpa using p.mem_iff.mp hc
section
variable {prog : Program} {w : World} {A : Around} {E : Value → Shared → Prop} {s : Shared} {h₀ h : Heap} {L : Addr} {m : Str → Option Value} {env : Env}
theorem rest_fixR {elt : PySem.Expr} {x : Str} {scope : Scope} {cl : List (Str × Addr)} {S : List (Addr × Obj) → Prop} {Fin : List Value → List (Addr × Obj) → Prop} {P : Nat → Value → Prop} {n : Nat} {news : List (Addr × Obj)} (g : Nat → List Value → Prop)
    (turn : ∀ i v ys I oI C oC D m₂ h tk (E' : Value → Shared → Prop), i < n → P i v → g i ys → LCg.NsObj oC m₂ → m₂ x = some v → Fr h₀ L h m → News h₀ L h ((I, oI) :: (C, oC) :: (D, LCg.lst ys) :: news) → LCg.Off3 I C D news → ((@Ne Nat I C) ∧ (@Ne Nat I D) ∧ (@Ne Nat C D)) →
      wpAny (model prog w) A (eval elt (compEnvC scope cl C env)) (LCg.CompEnd h₀ L m { s with heap := h, toks := tk } I oI C oC D (LCg.lst ys) S (fun y news' => news' = news ∧ g (i + 1) (ys ++ [y]))) E' { s with heap := h, toks := tk })
    (fin : ∀ ys, g n ys → Fin ys news) : ∀ (k i : Nat) (ys : List Value), i + k = n → g i ys → LCg.CompRest prog w A h₀ L m env elt x scope cl s S P Fin k i ys news
  | 0, i, ys, e, j => LCg.CompRest.zero (fin ys (by rw [← e]; exact j))
  | k + 1, i, ys, e, j => LCg.CompRest.succ fun v I oI C oC D m₂ h tk E' hp hC hx F N off ne => by
    refine wpAny_mono (turn i v ys I oI C oC D m₂ h tk E' (by omega) hp j hC hx F N off ne) (fun y s₂ q => ?_) fun _ _ e => e
    obtain ⟨h', tk', n', rfl, F', N', off', hS, rfl, j'⟩ := q
    exact ⟨h', tk', _, rfl, F', N', off', hS, rest_fixR g turn fin k (i + 1) _ (by omega) j'⟩
theorem sy_perm {i c d u r t a b l c5 c4 c3 c2 c1 : Addr × Obj} {tl : List (Addr × Obj)} (N : News h₀ L h (i :: c :: d :: u :: r :: t :: a :: b :: l :: c5 :: c4 :: c3 :: c2 :: c1 :: tl)) : News h₀ L h ([a, b, l, r] ++ (i :: c :: d :: u :: t :: c5 :: c4 :: c3 :: c2 :: c1 :: tl)) := fun p hp => N p (by
  simp only [List.cons_append, List.nil_append, List.mem_cons] at hp ⊢
  rcases hp with h | h | h | h | h | h | h | h | h | h | h | h | h | h | h <;> simp [h])
theorem sy_back {i c d u r t a b l c5 c4 c3 c2 c1 : Addr × Obj} {tl : List (Addr × Obj)} (N : News h₀ L h ([a, b, l, r] ++ (i :: c :: d :: u :: t :: c5 :: c4 :: c3 :: c2 :: c1 :: tl))) : News h₀ L h (i :: c :: d :: u :: r :: t :: a :: b :: l :: c5 :: c4 :: c3 :: c2 :: c1 :: tl) := fun p hp => N p (by
  simp only [List.cons_append, List.nil_append, List.mem_cons] at hp ⊢
  rcases hp with h | h | h | h | h | h | h | h | h | h | h | h | h | h | h <;> simp [h])
theorem sy_hne {I C D U RL HT M a d l n nd rn : Nat} {oI oC oD oU oH o1 o2 o3 o4 o5 : Obj} {e : List DictEntry} {vs rvs : List Value} {tl : List (Addr × Obj)} (N : News h₀ L h ((I, oI) :: (C, oC) :: (D, oD) :: (U, oU) :: (RL, listOf rvs.toArray rn) :: (HT, oH) :: (a, instObj 298 d) :: (d, dictOf e nd) :: (l, listOf vs.toArray n) :: cl5 M o1 o2 o3 o4 o5 tl))
    (off : LCg.Off3 I C D ((U, oU) :: (RL, listOf rvs.toArray rn) :: (HT, oH) :: (a, instObj 298 d) :: (d, dictOf e nd) :: (l, listOf vs.toArray n) :: cl5 M o1 o2 o3 o4 o5 tl)) (b1 : @LT.lt Nat _ RL U) (b2 : @LT.lt Nat _ HT RL) (b3 : @LT.lt Nat _ a HT) (b4 : @LT.lt Nat _ d HT) (b5 : @LT.lt Nat _ l HT) (b6 : @LT.lt Nat _ (M + 1 + 1 + 1 + 1 + 1) HT) (hDa : Ds M a) (hDd : Ds M d) (hDl : Ds M l) (hc : ∀ q ∈ tl, q.2.cls = .type "tuple") :
    ∀ p ∈ (I, oI) :: (C, oC) :: (D, oD) :: (U, oU) :: (HT, oH) :: cl5 M o1 o2 o3 o4 o5 tl, ∀ q ∈ [(a, instObj 298 d), (d, dictOf e nd), (l, listOf vs.toArray n), (RL, listOf rvs.toArray rn)], q.1 ≠ p.1 := by
  have o3' := off.mem
  have mt : ∀ q ∈ tl, q ∈ (I, oI) :: (C, oC) :: (D, oD) :: (U, oU) :: (RL, listOf rvs.toArray rn) :: (HT, oH) :: (a, instObj 298 d) :: (d, dictOf e nd) :: (l, listOf vs.toArray n) :: cl5 M o1 o2 o3 o4 o5 tl := fun q hq => .tail _ (.tail _ (.tail _ (.tail _ (.tail _ (.tail _ (.tail _ (.tail _ (.tail _ (.tail _ (.tail _ (.tail _ (.tail _ (.tail _ hq)))))))))))))
  have key : ∀ q ∈ [(a, instObj 298 d), (d, dictOf e nd), (l, listOf vs.toArray n), (RL, listOf rvs.toArray rn)], Ds M q.1 ∧ @LT.lt Nat _ q.1 U ∧ @Ne Nat q.1 HT ∧ q.2.cls ≠ .type "tuple" ∧ (q.1 ≠ I ∧ q.1 ≠ C ∧ q.1 ≠ D) ∧ q ∈ (I, oI) :: (C, oC) :: (D, oD) :: (U, oU) :: (RL, listOf rvs.toArray rn) :: (HT, oH) :: (a, instObj 298 d) :: (d, dictOf e nd) :: (l, listOf vs.toArray n) :: cl5 M o1 o2 o3 o4 o5 tl := by
    intro q hq
    simp only [List.mem_cons, List.not_mem_nil, or_false] at hq
    rcases hq with rfl | rfl | rfl | rfl
    · exact ⟨hDa, by dsimp only; omega, na (by dsimp only; walk_at "m ne9"), (fun e => by cases e), o3' _ (.tail _ (.tail _ (.tail _ (.head _)))), .tail _ (.tail _ (.tail _ (.tail _ (.tail _ (.tail _ (.head _))))))⟩
    · exact ⟨hDd, by dsimp only; omega, na (by dsimp only; walk_at "m ne9"), (fun e => by injection e with e; exact absurd e (by decide)), o3' _ (.tail _ (.tail _ (.tail _ (.tail _ (.head _))))), .tail _ (.tail _ (.tail _ (.tail _ (.tail _ (.tail _ (.tail _ (.head _)))))))⟩
    · exact ⟨hDl, by dsimp only; omega, na (by dsimp only; walk_at "m ne9"), (fun e => by injection e with e; exact absurd e (by decide)), o3' _ (.tail _ (.tail _ (.tail _ (.tail _ (.tail _ (.head _)))))), .tail _ (.tail _ (.tail _ (.tail _ (.tail _ (.tail _ (.tail _ (.tail _ (.head _))))))))⟩
    · exact ⟨⟨by dsimp only; omega, by dsimp only; omega, by dsimp only; omega, by dsimp only; omega, by dsimp only; omega⟩, by dsimp only; omega, na (by dsimp only; walk_at "m ne9"), (fun e => by injection e with e; exact absurd e (by decide)), o3' _ (.tail _ (.head _)), .tail _ (.tail _ (.tail _ (.tail _ (.head _))))⟩
  intro p hp q hq
  obtain ⟨⟨k5, k4, k3, k2, k1⟩, kU, kH, kc, ⟨kI, kC, kD⟩, km⟩ := key q hq
  simp only [cl5, List.mem_cons] at hp
  rcases hp with rfl | rfl | rfl | rfl | rfl | rfl | rfl | rfl | rfl | rfl | hp
  · exact kI
  · exact kC
  · exact kD
  · exact Nat.ne_of_lt kU
  · exact kH
  · exact k5
  · exact k4
  · exact k3
  · exact k2
  · exact k1
  · exact cls_ne N (mt p hp) km (by rw [hc p hp]; exact kc)
end
end
section
open PySem.Calls
section
variable {w : World} {p : Program} {loose : List Str} {mean : ExcName → Option Value} {mg mb : Str → Option Value} {dp un : Nat} {gd : Option (List Code)} {A₀ : Around} {L fa : Addr} {cd : Value} {base h₀ : Heap}
set_option maxHeartbeats 1000000 in
theorem lawF {s : Shared} {Q : Flow → Shared → Prop} {E : Value → Shared → Prop} {m₀ : Str → Option Value} {o1 o2 o3 o4 o5 : Obj} {a d l n nd HT RL hn rn U dn : Nat} {tk0 : Tok} {vs9 hvs rvs dvs : List Value} {hs ws : List Int} {tlr : List (Addr × Obj)} {v1 : Option Value}
    (hTL : TLed tlr vs9 (rowsOf ws)) (hWO : WOk ws) (hho : HOk hs) (hpm : hs.Perm ws) (hrs : StrsAre rvs (rollL hs)) (hdv : IntsAre dvs (dueK hs 7))
    (B : Below A₀ base [] h₀) (X : (myK w.params).In h₀) (T : Top p loose mean mg mb h₀) (hd : dp + 20 < recursionLimit) (hu : un + 30 * 20 < cLine)
    (F : Fr h₀ L s.heap (fun z => if z = Str.ofString "due" then some (.ref U) else m₀ z)) (N : News h₀ L s.heap ((U, listOf dvs.toArray dn) :: (RL, listOf rvs.toArray rn) :: (HT, listOf hvs.toArray hn) :: tabO w a d l n nd tk0 vs9 (cl5 L o1 o2 o3 o4 o5 tlr))) (d2 : o2.data = .cell (some (.ref a))) (d5 : o5.data = .cell (some (.ref RL)))
    (q1 : @LT.lt Nat _ HT RL) (q2 : @LT.lt Nat _ l HT) (q3 : @LT.lt Nat _ d HT) (q4 : @LT.lt Nat _ a HT) (q5 : @LT.lt Nat _ (L + 1 + 1 + 1 + 1 + 1) HT) (q6 : @LT.lt Nat _ RL U) (hDa : Ds L a) (hDd : Ds L d) (hDl : Ds L l)
    (hQ : ∀ h' tk' {m'} {news'}, Fr h₀ L h' m' → News h₀ L h' news' → Q (.ret (.bool true)) { s with heap := h', toks := tk' })
    {c9} (hc9 : execs (bo33.drop 11) (lwE L fa cd) = c9) :
    wpAny (model pw w) (lwA dp un gd L fa cd) c9 Q E s := by
  subst hc9
  have hd9 := And.intro hdv True.intro
  have hlR : @Ne Nat l RL := na (by walk_at "m ne9")
  dsimp only [List.drop]
  have «stop eval ListComp» := True.intro
  have «stop CompSrc» := True.intro
  have «stop FinE» := True.intro
  have «stop call ref» := True.intro
  have «stop CompEnd» := True.intro
  have «stop compareOp Eq ref ref» := True.intro
  repeat' (first
    | ((with_reducible show StopK _ _); first
        | ((with_reducible refine goK "compareOp Eq ref ref" ?_); (rename News _ _ _ _ => lN'); k_dflt (first | (refine' eq_ints (ms := dueK hs 7) (News.isList lN' (List.Mem.head _)) hg' (News.isList lN' (List.Mem.tail _ (List.Mem.head _))) hd9.1 ?hu ?_; (case hu => (show un < cLine; omega)); (rw [decide_eq_true (say_due hho)])) | refine stop9 ?_))
        | ((with_reducible refine goK "CompEnd" ?_); ((rename Fr _ _ _ _ => lF'); (rename News _ _ _ _ => lN'); k_dflt (refine' LCg.CompEnd.intro lF' lN' _ (fun p hp => hp) off' trivial ⟨rfl, ?hg⟩; (case hg => (rw [sayK_next]; exact ints_snoc hg' _ _)))))
        | ((with_reducible refine goK "call ref" ?_); (rename Fr _ _ _ _ => lF9); (rename News _ _ _ _ => lN9); k_dflt (first | (refine' SpecP.to (says_spec a d l n nd RL rn tk0 _ vs9 rvs (rowsOf ws) (itsF hs) (i' : Int) hlR (by omega) (by omega) (by rw [its_roll]; exact hrs) (its_len hho) (its_ok hWO hho hpm) (rows_len hWO)) ?mp ?mB ?mF ?mK (sy_perm lN9) ?mT ?mk ?md ?mu (sy_hne lN9 off' q6 q1 q4 q3 q2 q5 hDa hDd hDl hTL.2) ?_; (case mp => exact hTL.1 _ fun q hq => (lN9 q (.tail _ (.tail _ (.tail _ (.tail _ (.tail _ (.tail _ (.tail _ (.tail _ (.tail _ (.tail _ (.tail _ (.tail _ (.tail _ (.tail _ hq))))))))))))))).1); (case mB => k_asm); (case mF => k_asm); (case mK => k_asm); (case mT => k_asm); (case mk => exact rfl); (case md => omega); (case mu => omega); intro v' new' h' tk' n9' l9 hp' F' N' ne' kk'; (obtain ⟨⟨t9, hv'⟩, hn'⟩ := hp'); subst hv'; subst hn'; clear l9 ne' kk' lF9 lN9; (replace N' := sy_back N')) | refine stop9 ?_))
        | ((with_reducible refine goK "FinE" ?_); ((unfold LCg.FinE); intro D' h' tk' F' N' o1'; clear o1'; (try simp only [List.nil_append, List.cons_append] at N'); (try dsimp only)))
        | ((with_reducible refine goK "CompSrc" ?_); (rename Fr _ _ _ _ => lF'); (rename News _ _ _ _ => lN'); (rename IsRange _ _ _ _ _ _ _ _ => rgX); k_dflt (first | (refine' LCg.CompSrc.range rfl lF' lN' rgX (by decide) (n := 7) rfl (szl (by decide)) ?_; intro g'; refine' rest_fixR (fun i ys => IntsAre ys (sayK hs i)) ?turn ?fin 7 0 [] rfl .nil; clear lF' lN'; (case' turn => (intro i' v' ys' I' oI' C' oC' D' m2' h' tk' E' hi' hv' hg' hC' hx' F' N' off' ne'; (obtain ⟨tv', hv2'⟩ := hv'); (have e0 : (0 : Int) + ((i' : Nat) : Int) = ((i' : Nat) : Int) := by omega); (rw [e0] at hv2'); subst hv2')); (case' fin => (intro ys' hg'))) | refine stop9 ?_))
        | ((with_reducible refine goK "eval ListComp" ?_); k_dflt (refine LCg.ListComp_U (F₀ := by k_asm) (by with_unfolding_all rfl) (by decide) (by rfl) (by decide) (by rfl) ?_))
        | ((with_reducible refine goK _ ?_); have noK9 := True.intro; walk_at "m step"; all_goals (try clear noK9)))
    | walk_at "m step")
  exact hQ _ _ (by assumption) (by assumption)
end
end
section
open PySem.Calls
theorem fr1 {h₀ h : Heap} {L : Addr} {m : Str → Option Value} {a : Str} {va : Value} (F : Fr h₀ L h m) (ha : m a = some va) : Fr h₀ L h (fun z => if z = a then some va else m z) := by
  have e : (fun z => if z = a then some va else m z) = m := by
    funext z
    by_cases q : z = a
    · rw [if_pos q, q, ha]
    · rw [if_neg q]
  rw [e]; exact F
section
variable {w : World} {p : Program} {loose : List Str} {mean : ExcName → Option Value} {mg mb : Str → Option Value} {dp un : Nat} {gd : Option (List Code)} {A₀ : Around} {L fa : Addr} {cd : Value} {base h₀ : Heap}
theorem law_all {s : Shared} {Q : Flow → Shared → Prop} {E : Value → Shared → Prop} {o1 o2 o3 o4 o5 : Obj} {H9 : Addr} {vs9 : List Value} {xs9 : List Int} (hi9 : IntsAre vs9 xs9) (h639 : xs9.length ≤ 63)
    (B : Below A₀ base [] h₀) (X : (myK w.params).In h₀) (T : Top p loose mean mg mb h₀) (Xb : (myK w.params).In base) (Tb : Top p loose mean mg mb base) (hE : PassesOwn (model pw w) (lwA dp un gd L fa cd) (lwE L fa cd) E) (hd : dp + 20 < recursionLimit) (hu : un + 30 * 20 < cLine) (hbl9 : h₀.IsList H9 vs9.toArray)
    (F : Fr h₀ L s.heap (fun z => if z = Str.ofString "script" then some (.ref H9) else none)) (N : News h₀ L s.heap (cl5 L o1 o2 o3 o4 o5 [])) (d1 : o1.data = .cell none) (d2 : o2.data = .cell none) (d3 : o3.data = .cell none) (d4 : o4.data = .cell none) (d5 : o5.data = .cell none)
    (hQ : ∀ h' tk' {m'} {news'}, Fr h₀ L h' m' → News h₀ L h' news' → Q (.ret (.bool true)) { s with heap := h', toks := tk' }) :
    wpAny (model pw w) (lwA dp un gd L fa cd) (execs bo33 (lwE L fa cd)) Q E s := by
  generalize hc0 : execs bo33 (lwE L fa cd) = c0
  refine lawA hi9 h639 B X T hE hd hu hbl9 F N d1 d2 d3 d4 d5 ?_ hc0
  intro c hc W wn S sn svs rows tl wvs ws o1' v1 h1 tk1 m₀ hpr hl hok hwi hws hwo hd1 F1 N1 hlt htl
  subst hws
  refine lawB (ws := []) hpr hl hok B X T Xb Tb hd hu F1 N1 hd1 d2 hlt.2.1 ?_ hc
  intro c hc a d l n nd tk vs9' tlr o2' h2 tk2 hTL hWO d2' F2 N2 hDa hDd hDl hDt hWn
  refine lawC hTL hWO hwi B X T hd hu F2 N2 d2' d3 hlt.2.1 hDa hDd hDl hDt hWn ?_ hc
  intro c hc nm nvs o3' h3 tk3 hnv d3' F3 N3 hDn hNn
  refine lawD hTL hWO hwi hnv B X T hd hu F3 N3 d2' d3' d4 d5 hlt.2.1 hDa hDd hDl hDt hWn hDn hNn ?_ hc
  intro c hc HT RL hn rn hvs hs rvs o4' o5' h4 tk4 hhi hho hrs d4' d5' F4 N4 hlt5 hpm
  refine lawE hhi hho B X T hE hd hu F4 N4 hd1 d4' hlt5.1 hlt5.2.1 hlt5.2.2.1 hlt5.2.2.2.1 hlt5.2.2.2.2 hDa.2.2.2.2 hDd.2.2.2.2 hDl.2.2.2.2 hDt.2.2.2.2 ?_ ?_ hc
  · intro p hp
    exact cls_ne N4 (.tail _ (.head _)) (.tail _ (.tail _ (.tail _ (.tail _ (.tail _ (.tail _ (.tail _ (.tail _ (.tail _ (.tail _ hp)))))))))) (by rw [hTL.2 p hp]; exact fun e => by injection e with e; exact absurd e (by decide))
  intro c hc U un1 dvs o1'' v1' h5 tk5 hdv hd1' m' F5 hm N5 hlt6
  exact lawF (v1 := none) (s := { s with heap := h5, toks := tk5 }) hTL hWO hho hpm hrs hdv B X T hd hu (fr1 F5 hm) N5 d2' d5' hlt5.1 hlt5.2.1 hlt5.2.2.1 hlt5.2.2.2.1 hlt5.2.2.2.2 hlt6 hDa hDd hDl (fun h' tk' _ _ F6 N6 => hQ h' tk' F6 N6) hc
end
end
section
noncomputable abbrev myHook : Hook := kHook myK myAs myAs_is
theorem Fr_cast {h₀ h : Heap} {L : Addr} {m m' : Str → Option Value} (F : Fr h₀ L h m) (e : m = m') : Fr h₀ L h m' := e ▸ F
local macro_rules | `(tactic| k_qdec) => `(tactic| (first | (rw [PySem.W.Fast.te17448422675489707002, PySem.W.Fast.te821141287760084731]; kernel_rfl) | (rw [PySem.W.Fast.te2458874890965802552]; kernel_rfl)))
set_option maxHeartbeats 8000000 in
theorem walkO : WalkO q loose (XL q []) (Hook.says myHook) (OpenLaw.row PySem.Challenge.rw_wf0074_01).toRowW { name := Str.ofString "law", params := pa33, body := bo33, scope := sc33, pos := ⟨223, 0, 249, 69⟩ } [] (fun f vs => call f vs) := by
  k_go0
  rename Fr _ _ _ _ => lF
  rename News _ _ _ _ => lN
  rename Top _ _ _ _ _ _ => lT
  rename (myK _).In _ => lX
  rename Below _ _ _ _ => lB
  rename IntsAre _ _ => lI
  rename (¬ _ < _) => l63
  rename Heap.IsList _ _ _ => lL
  refine law_all lI ?h63 lB lX lT lX lT ?hE ?hd ?hu lL ?F lN ?d1 ?d2 ?d3 ?d4 ?d5 ?hQ
  case h63 => omega
  case hE => first | passes_own | with_unfolding_all passes_own
  case hd => decide +kernel
  case hu => (have h := cLine_is; first | (show (4 : Nat) + 3 + 30 * 20 < cLine; omega) | decide +kernel)
  case F =>
    refine Fr_cast lF ?_
    funext z
    rfl
  case d1 => first | assumption | with_unfolding_all assumption
  case d2 => first | assumption | with_unfolding_all assumption
  case d3 => first | assumption | with_unfolding_all assumption
  case d4 => first | assumption | with_unfolding_all assumption
  case d5 => first | assumption | with_unfolding_all assumption
  case hQ =>
    intro h' tk' m' news' F' N'
    walk_at "m steps"
end
section
noncomputable def H1 (P : Params) : Heap := absHeap (Tr pw o3 o29 P) 344 {}
theorem look1 (w : World) : (staticsOk (importedModules pw.main.body) (H0 w.params) (H1 w.params)) = true := by
  kernel_rfl
theorem look2 (w : World) : (namesBound pw (H1 w.params)) = true := by
  kernel_rfl
theorem look3 (w : World) (os : OsState) : (gensDone ⟨H1 w.params, #[], {}, 1057, os⟩) = true := by
  kernel_rfl
theorem look4 (w : World) : (laidKept (H0 w.params) (H1 w.params)) = true := by
  kernel_rfl
noncomputable abbrev Xt0 : Shared → Bool := fun s => xlAt q [] s && recOk (RowW.records (OpenLaw.row PySem.Challenge.rw_wf0074_01).toRowW) s
theorem look5t (w : World) (os : OsState) : PySem.W.Fast.tw4187177175401517315 q loose (importedModules pwT.main.body) Xt0 true ⟨H1 w.params, #[], {}, 1057, os⟩ = openGood q loose := by
  kernel_rfl
theorem look5 (w : World) (os : OsState) : openSeen q loose (importedModules pw.main.body) Xt0 true ⟨H1 w.params, #[], {}, 1057, os⟩ = openGood q loose := by
  rw [PySem.W.Fast.te4187177175401517315, tePw2]
  exact look5t w os
theorem look6 (w : World) (os : OsState) : Hook.obs myHook ⟨H1 w.params, #[], {}, 1057, os⟩ = Hook.val myHook w := by
  kernel_rfl
theorem left : LeftO pw q loose Xt0 (Hook.obs myHook) (Hook.val myHook) 15574 := by
  refine LeftO.of_pieces (H₀ := H0) (H₁ := H1) (gs₀ := #[]) (gs₁ := #[]) (d₀ := {}) (d₁ := {}) (k₀ := 276) (k₁ := 1057) (m₀ := 28) (ann := some (.ref 6)) (M := 12 + (1 + allN)) openW sizeW runW (by decide +kernel) fun w => ?_
  funext os
  rw [look1 w, look2 w, look3 w os, look4 w, look5 w os, look6 w os]
  rfl
set_option maxHeartbeats 8000000 in
theorem said9 : PySem.Challenge.rw_wf0074_01.wellSaid = true := by
  rw [PySem.W.Fast.te9446332074065402090]
  unfold PySem.W.Fast.tw9446332074065402090 PySem.W.Fast.tw17960256430627541270 PySem.W.Fast.tw2436336058641802641 PySem.W.Fast.tw12908688711261696721
  repeat' (with_reducible refine look_both ?_ ?_)
  all_goals decide +kernel
set_option maxHeartbeats 8000000 in
theorem holds : PySem.Challenge.rw_wf0074_01.Holds := by
  w_on
  refine holds_law said9 fun said => ?_
  refine holds_open (q := q) (loose := loose) (Xt := fun s => xlAt q [] s && recOk (RowW.records (OpenLaw.row PySem.Challenge.rw_wf0074_01).toRowW) s) (XP := XL q []) (Yf := Hook.obs myHook) (Ya := Hook.val myHook) (YP := Hook.says myHook) (N := 15574) ?hl (Hook.of myHook) (Hook.keeps myHook) (fun s e => xl_of s (Bool.and_eq_true_iff.mp e).1) XL.keeps (by rfl) (by rfl) (by rfl) (fun s e => recFacts_of (Bool.and_eq_true_iff.mp e).2) (by rfl) (by assumption) (by decide +kernel) ⟨rfl, rfl, rfl, rfl, rfl, by decide +kernel⟩ ?hw ?hc
  case hl => exact left
  case hw => w_witness2
  case hc => exact walkO
end
end Mine
theorem PySem.Challenge.cw_wf0074_01_holds : PySem.Challenge.rw_wf0074_01.Holds := by
  exact Mine.holds
