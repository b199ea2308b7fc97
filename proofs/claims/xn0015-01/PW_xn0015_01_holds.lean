import PyProof.Rows.All
import Wide.All
import OpenK.AllK
import Wide.FinOn
import Lean
import PySem.Challenge.RW_xn0015_01
set_option Elab.async false
set_option linter.all false
set_option compiler.extract_closed false
namespace Mine
local macro_rules | `(tactic| omega) => `(tactic| first | decide | lia)
section XnKText
open PySem PySem.W PyProof.Rows
set_option Elab.async false
set_option linter.unusedVariables false
abbrev pw : Program := PySem.Challenge.pw_xn0015_01
noncomputable def stAt (i : Nat) : Stmt := (pw.main.body[i]?).getD (.Pass ⟨0, 0, 0, 0⟩)
noncomputable def methAt (i : Nat) : Stmt := match stAt 7 with
  | .ClassDef _ _ _ b _ _ _ _ _ _ _ => (b[i]?).getD (.Pass ⟨0, 0, 0, 0⟩)
  | _ => .Pass ⟨0, 0, 0, 0⟩
noncomputable def fnData (st : Stmt) (k : Arguments → List Stmt → Scope → FuncData) : Data := match st with
  | .FunctionDef _ a b _ _ _ sc _ _ _ => .func (k a b sc)
  | _ => .plain
/-- the pairs of the table b3_exceptions, out of the text itself -/
noncomputable def b3pairs : List (Int × Str) := match stAt 11 with
  | .Assign _ (.Dict ks vs _) _ => (ks.zip vs).filterMap fun
    | (some (.Constant (.int k) _ _), .Constant (.str v) _ _) => some (k, v)
    | _ => none
  | _ => []
noncomputable def b3entries (t : Nat) (ps : List (Int × Str)) : List DictEntry := match ps with
  | [] => []
  | (k, v) :: r => ⟨k, .int k t, .str v (t + 1)⟩ :: b3entries (t + 3) r

noncomputable def o0_s0 (P : Params) : Obj := ⟨(.type "dict"), none, (.dict #[⟨PyData.keyHash P (Str.ofString "__name__"), (.str (Str.ofString "__name__") 1), (.str (Str.ofString "builtins") 160)⟩, ⟨PyData.keyHash P (Str.ofString "__doc__"), (.str (Str.ofString "__doc__") 2), (.builtin "builtins.__doc__:str#opaque")⟩, ⟨PyData.keyHash P (Str.ofString "__package__"), (.str (Str.ofString "__package__") 3), (.builtin "builtins.__package__:str#opaque")⟩, ⟨PyData.keyHash P (Str.ofString "__loader__"), (.str (Str.ofString "__loader__") 4), (.builtin "builtins.__loader__:shared#opaque")⟩, ⟨PyData.keyHash P (Str.ofString "__spec__"), (.str (Str.ofString "__spec__") 5), (.builtin "builtins.__spec__#opaque")⟩, ⟨PyData.keyHash P (Str.ofString "__build_class__"), (.str (Str.ofString "__build_class__") 6), (.builtin "__build_class__")⟩, ⟨PyData.keyHash P (Str.ofString "__import__"), (.str (Str.ofString "__import__") 7), (.builtin "__import__")⟩, ⟨PyData.keyHash P (Str.ofString "abs"), (.str (Str.ofString "abs") 8), (.builtin "abs")⟩, ⟨PyData.keyHash P (Str.ofString "all"), (.str (Str.ofString "all") 9), (.builtin "all")⟩, ⟨PyData.keyHash P (Str.ofString "any"), (.str (Str.ofString "any") 10), (.builtin "any")⟩, ⟨PyData.keyHash P (Str.ofString "ascii"), (.str (Str.ofString "ascii") 11), (.builtin "ascii")⟩, ⟨PyData.keyHash P (Str.ofString "bin"), (.str (Str.ofString "bin") 12), (.builtin "bin")⟩, ⟨PyData.keyHash P (Str.ofString "breakpoint"), (.str (Str.ofString "breakpoint") 13), (.builtin "breakpoint")⟩, ⟨PyData.keyHash P (Str.ofString "callable"), (.str (Str.ofString "callable") 14), (.builtin "callable")⟩, ⟨PyData.keyHash P (Str.ofString "chr"), (.str (Str.ofString "chr") 15), (.builtin "chr")⟩, ⟨PyData.keyHash P (Str.ofString "compile"), (.str (Str.ofString "compile") 16), (.builtin "compile")⟩, ⟨PyData.keyHash P (Str.ofString "delattr"), (.str (Str.ofString "delattr") 17), (.builtin "delattr")⟩, ⟨PyData.keyHash P (Str.ofString "dir"), (.str (Str.ofString "dir") 18), (.builtin "dir")⟩, ⟨PyData.keyHash P (Str.ofString "divmod"), (.str (Str.ofString "divmod") 19), (.builtin "divmod")⟩, ⟨PyData.keyHash P (Str.ofString "eval"), (.str (Str.ofString "eval") 20), (.builtin "eval")⟩, ⟨PyData.keyHash P (Str.ofString "exec"), (.str (Str.ofString "exec") 21), (.builtin "exec")⟩, ⟨PyData.keyHash P (Str.ofString "format"), (.str (Str.ofString "format") 22), (.builtin "format")⟩, ⟨PyData.keyHash P (Str.ofString "getattr"), (.str (Str.ofString "getattr") 23), (.builtin "getattr")⟩, ⟨PyData.keyHash P (Str.ofString "globals"), (.str (Str.ofString "globals") 24), (.builtin "globals")⟩, ⟨PyData.keyHash P (Str.ofString "hasattr"), (.str (Str.ofString "hasattr") 25), (.builtin "hasattr")⟩, ⟨PyData.keyHash P (Str.ofString "hash"), (.str (Str.ofString "hash") 26), (.builtin "hash")⟩, ⟨PyData.keyHash P (Str.ofString "hex"), (.str (Str.ofString "hex") 27), (.builtin "hex")⟩, ⟨PyData.keyHash P (Str.ofString "id"), (.str (Str.ofString "id") 28), (.builtin "id")⟩, ⟨PyData.keyHash P (Str.ofString "input"), (.str (Str.ofString "input") 29), (.builtin "input")⟩, ⟨PyData.keyHash P (Str.ofString "isinstance"), (.str (Str.ofString "isinstance") 30), (.builtin "isinstance")⟩, ⟨PyData.keyHash P (Str.ofString "issubclass"), (.str (Str.ofString "issubclass") 31), (.builtin "issubclass")⟩, ⟨PyData.keyHash P (Str.ofString "iter"), (.str (Str.ofString "iter") 32), (.builtin "iter")⟩, ⟨PyData.keyHash P (Str.ofString "aiter"), (.str (Str.ofString "aiter") 33), (.builtin "aiter")⟩, ⟨PyData.keyHash P (Str.ofString "len"), (.str (Str.ofString "len") 34), (.builtin "len")⟩, ⟨PyData.keyHash P (Str.ofString "locals"), (.str (Str.ofString "locals") 35), (.builtin "locals")⟩, ⟨PyData.keyHash P (Str.ofString "max"), (.str (Str.ofString "max") 36), (.builtin "max")⟩, ⟨PyData.keyHash P (Str.ofString "min"), (.str (Str.ofString "min") 37), (.builtin "min")⟩, ⟨PyData.keyHash P (Str.ofString "next"), (.str (Str.ofString "next") 38), (.builtin "next")⟩, ⟨PyData.keyHash P (Str.ofString "anext"), (.str (Str.ofString "anext") 39), (.builtin "anext")⟩, ⟨PyData.keyHash P (Str.ofString "oct"), (.str (Str.ofString "oct") 40), (.builtin "oct")⟩, ⟨PyData.keyHash P (Str.ofString "ord"), (.str (Str.ofString "ord") 41), (.builtin "ord")⟩, ⟨PyData.keyHash P (Str.ofString "pow"), (.str (Str.ofString "pow") 42), (.builtin "pow")⟩, ⟨PyData.keyHash P (Str.ofString "print"), (.str (Str.ofString "print") 43), (.builtin "print")⟩, ⟨PyData.keyHash P (Str.ofString "repr"), (.str (Str.ofString "repr") 44), (.builtin "repr")⟩, ⟨PyData.keyHash P (Str.ofString "round"), (.str (Str.ofString "round") 45), (.builtin "round")⟩, ⟨PyData.keyHash P (Str.ofString "setattr"), (.str (Str.ofString "setattr") 46), (.builtin "setattr")⟩, ⟨PyData.keyHash P (Str.ofString "sorted"), (.str (Str.ofString "sorted") 47), (.builtin "sorted")⟩, ⟨PyData.keyHash P (Str.ofString "sum"), (.str (Str.ofString "sum") 48), (.builtin "sum")⟩, ⟨PyData.keyHash P (Str.ofString "vars"), (.str (Str.ofString "vars") 49), (.builtin "vars")⟩, ⟨PyData.keyHash P (Str.ofString "None"), (.str (Str.ofString "None") 50), .none⟩, ⟨PyData.keyHash P (Str.ofString "Ellipsis"), (.str (Str.ofString "Ellipsis") 51), .ellipsis⟩, ⟨PyData.keyHash P (Str.ofString "NotImplemented"), (.str (Str.ofString "NotImplemented") 52), .notImplemented⟩, ⟨PyData.keyHash P (Str.ofString "False"), (.str (Str.ofString "False") 53), (.bool false)⟩, ⟨PyData.keyHash P (Str.ofString "True"), (.str (Str.ofString "True") 54), (.bool true)⟩, ⟨PyData.keyHash P (Str.ofString "bool"), (.str (Str.ofString "bool") 55), (.type "bool")⟩, ⟨PyData.keyHash P (Str.ofString "memoryview"), (.str (Str.ofString "memoryview") 56), (.type "memoryview")⟩, ⟨PyData.keyHash P (Str.ofString "bytearray"), (.str (Str.ofString "bytearray") 57), (.type "bytearray")⟩, ⟨PyData.keyHash P (Str.ofString "bytes"), (.str (Str.ofString "bytes") 58), (.type "bytes")⟩, ⟨PyData.keyHash P (Str.ofString "classmethod"), (.str (Str.ofString "classmethod") 59), (.type "classmethod")⟩, ⟨PyData.keyHash P (Str.ofString "complex"), (.str (Str.ofString "complex") 60), (.type "complex")⟩, ⟨PyData.keyHash P (Str.ofString "dict"), (.str (Str.ofString "dict") 61), (.type "dict")⟩, ⟨PyData.keyHash P (Str.ofString "enumerate"), (.str (Str.ofString "enumerate") 62), (.type "enumerate")⟩, ⟨PyData.keyHash P (Str.ofString "filter"), (.str (Str.ofString "filter") 63), (.type "filter")⟩, ⟨PyData.keyHash P (Str.ofString "float"), (.str (Str.ofString "float") 64), (.type "float")⟩, ⟨PyData.keyHash P (Str.ofString "frozenset"), (.str (Str.ofString "frozenset") 65), (.type "frozenset")⟩, ⟨PyData.keyHash P (Str.ofString "property"), (.str (Str.ofString "property") 66), (.type "property")⟩, ⟨PyData.keyHash P (Str.ofString "int"), (.str (Str.ofString "int") 67), (.type "int")⟩, ⟨PyData.keyHash P (Str.ofString "list"), (.str (Str.ofString "list") 68), (.type "list")⟩, ⟨PyData.keyHash P (Str.ofString "map"), (.str (Str.ofString "map") 69), (.type "map")⟩, ⟨PyData.keyHash P (Str.ofString "object"), (.str (Str.ofString "object") 70), (.type "object")⟩, ⟨PyData.keyHash P (Str.ofString "range"), (.str (Str.ofString "range") 71), (.type "range")⟩, ⟨PyData.keyHash P (Str.ofString "reversed"), (.str (Str.ofString "reversed") 72), (.type "reversed")⟩, ⟨PyData.keyHash P (Str.ofString "set"), (.str (Str.ofString "set") 73), (.type "set")⟩, ⟨PyData.keyHash P (Str.ofString "slice"), (.str (Str.ofString "slice") 74), (.type "slice")⟩, ⟨PyData.keyHash P (Str.ofString "staticmethod"), (.str (Str.ofString "staticmethod") 75), (.type "staticmethod")⟩, ⟨PyData.keyHash P (Str.ofString "str"), (.str (Str.ofString "str") 76), (.type "str")⟩, ⟨PyData.keyHash P (Str.ofString "super"), (.str (Str.ofString "super") 77), (.type "super")⟩, ⟨PyData.keyHash P (Str.ofString "tuple"), (.str (Str.ofString "tuple") 78), (.type "tuple")⟩, ⟨PyData.keyHash P (Str.ofString "type"), (.str (Str.ofString "type") 79), (.type "type")⟩, ⟨PyData.keyHash P (Str.ofString "zip"), (.str (Str.ofString "zip") 80), (.type "zip")⟩, ⟨PyData.keyHash P (Str.ofString "__debug__"), (.str (Str.ofString "__debug__") 81), (.bool true)⟩, ⟨PyData.keyHash P (Str.ofString "BaseException"), (.str (Str.ofString "BaseException") 82), (.type "BaseException")⟩, ⟨PyData.keyHash P (Str.ofString "BaseExceptionGroup"), (.str (Str.ofString "BaseExceptionGroup") 83), (.type "BaseExceptionGroup")⟩, ⟨PyData.keyHash P (Str.ofString "Exception"), (.str (Str.ofString "Exception") 84), (.type "Exception")⟩, ⟨PyData.keyHash P (Str.ofString "GeneratorExit"), (.str (Str.ofString "GeneratorExit") 85), (.type "GeneratorExit")⟩, ⟨PyData.keyHash P (Str.ofString "KeyboardInterrupt"), (.str (Str.ofString "KeyboardInterrupt") 86), (.type "KeyboardInterrupt")⟩, ⟨PyData.keyHash P (Str.ofString "SystemExit"), (.str (Str.ofString "SystemExit") 87), (.type "SystemExit")⟩, ⟨PyData.keyHash P (Str.ofString "ArithmeticError"), (.str (Str.ofString "ArithmeticError") 88), (.type "ArithmeticError")⟩, ⟨PyData.keyHash P (Str.ofString "AssertionError"), (.str (Str.ofString "AssertionError") 89), (.type "AssertionError")⟩, ⟨PyData.keyHash P (Str.ofString "AttributeError"), (.str (Str.ofString "AttributeError") 90), (.type "AttributeError")⟩, ⟨PyData.keyHash P (Str.ofString "BufferError"), (.str (Str.ofString "BufferError") 91), (.type "BufferError")⟩, ⟨PyData.keyHash P (Str.ofString "EOFError"), (.str (Str.ofString "EOFError") 92), (.type "EOFError")⟩, ⟨PyData.keyHash P (Str.ofString "ImportError"), (.str (Str.ofString "ImportError") 93), (.type "ImportError")⟩, ⟨PyData.keyHash P (Str.ofString "LookupError"), (.str (Str.ofString "LookupError") 94), (.type "LookupError")⟩, ⟨PyData.keyHash P (Str.ofString "MemoryError"), (.str (Str.ofString "MemoryError") 95), (.type "MemoryError")⟩, ⟨PyData.keyHash P (Str.ofString "NameError"), (.str (Str.ofString "NameError") 96), (.type "NameError")⟩, ⟨PyData.keyHash P (Str.ofString "OSError"), (.str (Str.ofString "OSError") 97), (.type "OSError")⟩, ⟨PyData.keyHash P (Str.ofString "ReferenceError"), (.str (Str.ofString "ReferenceError") 98), (.type "ReferenceError")⟩, ⟨PyData.keyHash P (Str.ofString "RuntimeError"), (.str (Str.ofString "RuntimeError") 99), (.type "RuntimeError")⟩, ⟨PyData.keyHash P (Str.ofString "StopAsyncIteration"), (.str (Str.ofString "StopAsyncIteration") 100), (.type "StopAsyncIteration")⟩, ⟨PyData.keyHash P (Str.ofString "StopIteration"), (.str (Str.ofString "StopIteration") 101), (.type "StopIteration")⟩, ⟨PyData.keyHash P (Str.ofString "SyntaxError"), (.str (Str.ofString "SyntaxError") 102), (.type "SyntaxError")⟩, ⟨PyData.keyHash P (Str.ofString "SystemError"), (.str (Str.ofString "SystemError") 103), (.type "SystemError")⟩, ⟨PyData.keyHash P (Str.ofString "TypeError"), (.str (Str.ofString "TypeError") 104), (.type "TypeError")⟩, ⟨PyData.keyHash P (Str.ofString "ValueError"), (.str (Str.ofString "ValueError") 105), (.type "ValueError")⟩, ⟨PyData.keyHash P (Str.ofString "Warning"), (.str (Str.ofString "Warning") 106), (.type "Warning")⟩, ⟨PyData.keyHash P (Str.ofString "FloatingPointError"), (.str (Str.ofString "FloatingPointError") 107), (.type "FloatingPointError")⟩, ⟨PyData.keyHash P (Str.ofString "OverflowError"), (.str (Str.ofString "OverflowError") 108), (.type "OverflowError")⟩, ⟨PyData.keyHash P (Str.ofString "ZeroDivisionError"), (.str (Str.ofString "ZeroDivisionError") 109), (.type "ZeroDivisionError")⟩, ⟨PyData.keyHash P (Str.ofString "BytesWarning"), (.str (Str.ofString "BytesWarning") 110), (.type "BytesWarning")⟩, ⟨PyData.keyHash P (Str.ofString "DeprecationWarning"), (.str (Str.ofString "DeprecationWarning") 111), (.type "DeprecationWarning")⟩, ⟨PyData.keyHash P (Str.ofString "EncodingWarning"), (.str (Str.ofString "EncodingWarning") 112), (.type "EncodingWarning")⟩, ⟨PyData.keyHash P (Str.ofString "FutureWarning"), (.str (Str.ofString "FutureWarning") 113), (.type "FutureWarning")⟩, ⟨PyData.keyHash P (Str.ofString "ImportWarning"), (.str (Str.ofString "ImportWarning") 114), (.type "ImportWarning")⟩, ⟨PyData.keyHash P (Str.ofString "PendingDeprecationWarning"), (.str (Str.ofString "PendingDeprecationWarning") 115), (.type "PendingDeprecationWarning")⟩, ⟨PyData.keyHash P (Str.ofString "ResourceWarning"), (.str (Str.ofString "ResourceWarning") 116), (.type "ResourceWarning")⟩, ⟨PyData.keyHash P (Str.ofString "RuntimeWarning"), (.str (Str.ofString "RuntimeWarning") 117), (.type "RuntimeWarning")⟩, ⟨PyData.keyHash P (Str.ofString "SyntaxWarning"), (.str (Str.ofString "SyntaxWarning") 118), (.type "SyntaxWarning")⟩, ⟨PyData.keyHash P (Str.ofString "UnicodeWarning"), (.str (Str.ofString "UnicodeWarning") 119), (.type "UnicodeWarning")⟩, ⟨PyData.keyHash P (Str.ofString "UserWarning"), (.str (Str.ofString "UserWarning") 120), (.type "UserWarning")⟩, ⟨PyData.keyHash P (Str.ofString "BlockingIOError"), (.str (Str.ofString "BlockingIOError") 121), (.type "BlockingIOError")⟩, ⟨PyData.keyHash P (Str.ofString "ChildProcessError"), (.str (Str.ofString "ChildProcessError") 122), (.type "ChildProcessError")⟩, ⟨PyData.keyHash P (Str.ofString "ConnectionError"), (.str (Str.ofString "ConnectionError") 123), (.type "ConnectionError")⟩, ⟨PyData.keyHash P (Str.ofString "FileExistsError"), (.str (Str.ofString "FileExistsError") 124), (.type "FileExistsError")⟩, ⟨PyData.keyHash P (Str.ofString "FileNotFoundError"), (.str (Str.ofString "FileNotFoundError") 125), (.type "FileNotFoundError")⟩, ⟨PyData.keyHash P (Str.ofString "InterruptedError"), (.str (Str.ofString "InterruptedError") 126), (.type "InterruptedError")⟩, ⟨PyData.keyHash P (Str.ofString "IsADirectoryError"), (.str (Str.ofString "IsADirectoryError") 127), (.type "IsADirectoryError")⟩, ⟨PyData.keyHash P (Str.ofString "NotADirectoryError"), (.str (Str.ofString "NotADirectoryError") 128), (.type "NotADirectoryError")⟩, ⟨PyData.keyHash P (Str.ofString "PermissionError"), (.str (Str.ofString "PermissionError") 129), (.type "PermissionError")⟩, ⟨PyData.keyHash P (Str.ofString "ProcessLookupError"), (.str (Str.ofString "ProcessLookupError") 130), (.type "ProcessLookupError")⟩, ⟨PyData.keyHash P (Str.ofString "TimeoutError"), (.str (Str.ofString "TimeoutError") 131), (.type "TimeoutError")⟩, ⟨PyData.keyHash P (Str.ofString "IndentationError"), (.str (Str.ofString "IndentationError") 132), (.type "IndentationError")⟩, ⟨PyData.keyHash P (Str.ofString "_IncompleteInputError"), (.str (Str.ofString "_IncompleteInputError") 133), (.type "_IncompleteInputError")⟩, ⟨PyData.keyHash P (Str.ofString "IndexError"), (.str (Str.ofString "IndexError") 134), (.type "IndexError")⟩, ⟨PyData.keyHash P (Str.ofString "KeyError"), (.str (Str.ofString "KeyError") 135), (.type "KeyError")⟩, ⟨PyData.keyHash P (Str.ofString "ModuleNotFoundError"), (.str (Str.ofString "ModuleNotFoundError") 136), (.type "ModuleNotFoundError")⟩, ⟨PyData.keyHash P (Str.ofString "NotImplementedError"), (.str (Str.ofString "NotImplementedError") 137), (.type "NotImplementedError")⟩, ⟨PyData.keyHash P (Str.ofString "PythonFinalizationError"), (.str (Str.ofString "PythonFinalizationError") 138), (.type "PythonFinalizationError")⟩, ⟨PyData.keyHash P (Str.ofString "RecursionError"), (.str (Str.ofString "RecursionError") 139), (.type "RecursionError")⟩, ⟨PyData.keyHash P (Str.ofString "UnboundLocalError"), (.str (Str.ofString "UnboundLocalError") 140), (.type "UnboundLocalError")⟩, ⟨PyData.keyHash P (Str.ofString "UnicodeError"), (.str (Str.ofString "UnicodeError") 141), (.type "UnicodeError")⟩, ⟨PyData.keyHash P (Str.ofString "BrokenPipeError"), (.str (Str.ofString "BrokenPipeError") 142), (.type "BrokenPipeError")⟩, ⟨PyData.keyHash P (Str.ofString "ConnectionAbortedError"), (.str (Str.ofString "ConnectionAbortedError") 143), (.type "ConnectionAbortedError")⟩, ⟨PyData.keyHash P (Str.ofString "ConnectionRefusedError"), (.str (Str.ofString "ConnectionRefusedError") 144), (.type "ConnectionRefusedError")⟩, ⟨PyData.keyHash P (Str.ofString "ConnectionResetError"), (.str (Str.ofString "ConnectionResetError") 145), (.type "ConnectionResetError")⟩, ⟨PyData.keyHash P (Str.ofString "TabError"), (.str (Str.ofString "TabError") 146), (.type "TabError")⟩, ⟨PyData.keyHash P (Str.ofString "UnicodeDecodeError"), (.str (Str.ofString "UnicodeDecodeError") 147), (.type "UnicodeDecodeError")⟩, ⟨PyData.keyHash P (Str.ofString "UnicodeEncodeError"), (.str (Str.ofString "UnicodeEncodeError") 148), (.type "UnicodeEncodeError")⟩, ⟨PyData.keyHash P (Str.ofString "UnicodeTranslateError"), (.str (Str.ofString "UnicodeTranslateError") 149), (.type "UnicodeTranslateError")⟩, ⟨PyData.keyHash P (Str.ofString "ExceptionGroup"), (.str (Str.ofString "ExceptionGroup") 150), (.type "ExceptionGroup")⟩, ⟨PyData.keyHash P (Str.ofString "EnvironmentError"), (.str (Str.ofString "EnvironmentError") 151), (.type "OSError")⟩, ⟨PyData.keyHash P (Str.ofString "IOError"), (.str (Str.ofString "IOError") 152), (.type "OSError")⟩, ⟨PyData.keyHash P (Str.ofString "open"), (.str (Str.ofString "open") 153), (.builtin "open")⟩, ⟨PyData.keyHash P (Str.ofString "quit"), (.str (Str.ofString "quit") 154), (.builtin "builtins.quit#opaque")⟩, ⟨PyData.keyHash P (Str.ofString "exit"), (.str (Str.ofString "exit") 155), (.builtin "builtins.exit#opaque")⟩, ⟨PyData.keyHash P (Str.ofString "copyright"), (.str (Str.ofString "copyright") 156), (.builtin "builtins.copyright#opaque")⟩, ⟨PyData.keyHash P (Str.ofString "credits"), (.str (Str.ofString "credits") 157), (.builtin "builtins.credits#opaque")⟩, ⟨PyData.keyHash P (Str.ofString "license"), (.str (Str.ofString "license") 158), (.builtin "builtins.license#opaque")⟩, ⟨PyData.keyHash P (Str.ofString "help"), (.str (Str.ofString "help") 159), (.builtin "builtins.help#opaque")⟩] 159), #[]⟩
noncomputable def o1_s0 (P : Params) : Obj := ⟨(.type "dict"), none, (.dict #[⟨PyData.keyHash P (Str.ofString "builtins"), (.str (Str.ofString "builtins") 162), (.ref 4)⟩, ⟨PyData.keyHash P (Str.ofString "__main__"), (.str (Str.ofString "__main__") 163), (.ref 5)⟩, ⟨PyData.keyHash P (Str.ofString "_sre"), (.str (Str.ofString "_sre") 244), (.ref 12)⟩] 3), #[]⟩
noncomputable def o2_s0 (P : Params) : Obj := ⟨.none, none, (.dict #[⟨PyData.keyHash P (Str.ofString "\x69mport.loaded._sre"), (.str (Str.ofString "\x69mport.loaded._sre") 183), (.bool true)⟩, ⟨PyData.keyHash P (Str.ofString "class._frozen_importlib.BuiltinImporter"), (.str (Str.ofString "class._frozen_importlib.BuiltinImporter") 185), (.ref 14)⟩, ⟨PyData.keyHash P (Str.ofString "watched.\x69mport"), (.str (Str.ofString "watched.\x69mport") 206), (.ref 18)⟩, ⟨PyData.keyHash P (Str.ofString "class._frozen_importlib.ModuleSpec"), (.str (Str.ofString "class._frozen_importlib.ModuleSpec") 216), (.ref 22)⟩, ⟨PyData.keyHash P (Str.ofString "sys.modules.booked-epoch"), (.str (Str.ofString "sys.modules.booked-epoch") 245), (.int (3) 0)⟩, ⟨PyData.keyHash P (Str.ofString "\x69mport.later-laid._sre"), (.str (Str.ofString "\x69mport.later-laid._sre") 270), (.bool true)⟩, ⟨PyData.keyHash P (Str.ofString "watched.library"), (.str (Str.ofString "watched.library") 272), (.ref 27)⟩, ⟨PyData.keyHash P (Str.ofString "watched.library-objects"), (.str (Str.ofString "watched.library-objects") 0), (.str (Str.ofString "\x0c") 0)⟩, ⟨PyData.keyHash P (Str.ofString "watched.library-deep._sre"), (.str (Str.ofString "watched.library-deep._sre") 273), (.str (Str.ofString "\x04\x00\x00\x0b\x04\x00\x00\x0b\x04\x00\x00\x03\x04\x00\x00\x0b\x08\x04dict\x02") 0)⟩] 9), #[]⟩
noncomputable def o3_s0 (P : Params) : Obj := ⟨(.type "dict"), none, (.dict #[⟨PyData.keyHash P (Str.ofString "__name__"), (.str (Str.ofString "__name__") 165), (.str (Str.ofString "__main__") 164)⟩, ⟨PyData.keyHash P (Str.ofString "__doc__"), (.str (Str.ofString "__doc__") 166), .none⟩, ⟨PyData.keyHash P (Str.ofString "__package__"), (.str (Str.ofString "__package__") 167), .none⟩, ⟨PyData.keyHash P (Str.ofString "__loader__"), (.str (Str.ofString "__loader__") 168), (.builtin "__main__.__loader__#opaque")⟩, ⟨PyData.keyHash P (Str.ofString "__spec__"), (.str (Str.ofString "__spec__") 169), .none⟩, ⟨PyData.keyHash P (Str.ofString "__annotations__"), (.str (Str.ofString "__annotations__") 170), (.ref 6)⟩, ⟨PyData.keyHash P (Str.ofString "__builtins__"), (.str (Str.ofString "__builtins__") 171), (.ref 4)⟩, ⟨PyData.keyHash P (Str.ofString "__file__"), (.str (Str.ofString "__file__") 173), (.str (Str.ofString "/claim/cut.py") 172)⟩, ⟨PyData.keyHash P (Str.ofString "__cached__"), (.str (Str.ofString "__cached__") 174), .none⟩, ⟨PyData.keyHash P (Str.ofString "_sre"), (.str (Str.ofString "_sre") 275), (.ref 12)⟩] 10), #[]⟩
noncomputable def o4_s0 (P : Params) : Obj := ⟨(.type "module"), (some 0), .plain, #[]⟩
noncomputable def o5_s0 (P : Params) : Obj := ⟨(.type "module"), (some 3), .plain, #[]⟩
noncomputable def o6_s0 (P : Params) : Obj := ⟨(.type "dict"), none, (.dict #[] 0), #[]⟩
noncomputable def o7_s0 (P : Params) : Obj := ⟨(.type "tuple"), none, (.seq #[] 0), #[]⟩
noncomputable def o8_s0 (P : Params) : Obj := ⟨.none, none, (.fields #[]), #[]⟩
noncomputable def o9_s0 (P : Params) : Obj := ⟨(.type "code"), none, (.fields #[(.str (Str.ofString "<module>") 176), (.str (Str.ofString "<module>") 177), (.str (Str.ofString "/claim/cut.py") 178), (.int (1) 0), (.int (0) 0), (.int (0) 0), (.int (0) 0), (.int (0) 0), (.ref 7), (.bool false), (.int (175) 0), (.ref 8), .none, .none, .none, .none, (.int (179) 0), (.int (1) 0), (.str (Str.ofString "/claim/cut.py") 180)]), #[]⟩
noncomputable def o10_s0 (P : Params) : Obj := ⟨(.type "frame"), none, .plain, #[(some (.ref 9)), (some (.ref 3)), (some (.ref 3)), none, (some (.str (Str.ofString "__main__") 164)), none, (some (.ref 0))]⟩
noncomputable def o11_s0 (P : Params) : Obj := ⟨(.type "dict"), none, (.dict #[⟨PyData.keyHash P (Str.ofString "__name__"), (.str (Str.ofString "__name__") 247), (.str (Str.ofString "_sre") 246)⟩, ⟨PyData.keyHash P (Str.ofString "__doc__"), (.str (Str.ofString "__doc__") 248), .none⟩, ⟨PyData.keyHash P (Str.ofString "__package__"), (.str (Str.ofString "__package__") 250), (.str (Str.ofString "") 249)⟩, ⟨PyData.keyHash P (Str.ofString "__loader__"), (.str (Str.ofString "__loader__") 251), (.builtin "off-the-table:_sre.__loader__:shared#opaque")⟩, ⟨PyData.keyHash P (Str.ofString "__spec__"), (.str (Str.ofString "__spec__") 252), (.builtin "off-the-table:_sre.__spec__:shared#opaque")⟩, ⟨PyData.keyHash P (Str.ofString "compile"), (.str (Str.ofString "compile") 253), (.builtin "_sre.compile")⟩, ⟨PyData.keyHash P (Str.ofString "template"), (.str (Str.ofString "template") 254), (.builtin "off-the-table:_sre.template:shared#opaque")⟩, ⟨PyData.keyHash P (Str.ofString "getcodesize"), (.str (Str.ofString "getcodesize") 255), (.builtin "off-the-table:_sre.getcodesize:shared#opaque")⟩, ⟨PyData.keyHash P (Str.ofString "ascii_iscased"), (.str (Str.ofString "ascii_iscased") 256), (.builtin "off-the-table:_sre.ascii_iscased:shared#opaque")⟩, ⟨PyData.keyHash P (Str.ofString "unicode_iscased"), (.str (Str.ofString "unicode_iscased") 257), (.builtin "off-the-table:_sre.unicode_iscased:shared#opaque")⟩, ⟨PyData.keyHash P (Str.ofString "ascii_tolower"), (.str (Str.ofString "ascii_tolower") 258), (.builtin "off-the-table:_sre.ascii_tolower:shared#opaque")⟩, ⟨PyData.keyHash P (Str.ofString "unicode_tolower"), (.str (Str.ofString "unicode_tolower") 259), (.builtin "off-the-table:_sre.unicode_tolower:shared#opaque")⟩, ⟨PyData.keyHash P (Str.ofString "MAGIC"), (.str (Str.ofString "MAGIC") 261), (.int (20230612) 260)⟩, ⟨PyData.keyHash P (Str.ofString "CODESIZE"), (.str (Str.ofString "CODESIZE") 263), (.int (4) 262)⟩, ⟨PyData.keyHash P (Str.ofString "MAXREPEAT"), (.str (Str.ofString "MAXREPEAT") 265), (.int (4294967295) 264)⟩, ⟨PyData.keyHash P (Str.ofString "MAXGROUPS"), (.str (Str.ofString "MAXGROUPS") 267), (.int (1073741823) 266)⟩, ⟨PyData.keyHash P (Str.ofString "copyright"), (.str (Str.ofString "copyright") 269), (.str (Str.ofString " SRE 2.2.2 Copyright (c) 1997-2002 by Secret Labs AB ") 268)⟩] 17), #[]⟩
noncomputable def o12_s0 (P : Params) : Obj := ⟨(.type "module"), (some 11), .plain, #[]⟩
noncomputable def o13_s0 (P : Params) : Obj := ⟨(.type "dict"), none, (.dict #[⟨PyData.keyHash P (Str.ofString "__module__"), (.str (Str.ofString "__module__") 189), (.str (Str.ofString "_frozen_importlib") 186)⟩, ⟨PyData.keyHash P (Str.ofString "__firstlineno__"), (.str (Str.ofString "__firstlineno__") 190), (.int (971) 187)⟩, ⟨PyData.keyHash P (Str.ofString "__doc__"), (.str (Str.ofString "__doc__") 191), (.builtin "_frozen_importlib.BuiltinImporter.__doc__:str#opaque")⟩, ⟨PyData.keyHash P (Str.ofString "_ORIGIN"), (.str (Str.ofString "_ORIGIN") 192), (.str (Str.ofString "built-in") 188)⟩, ⟨PyData.keyHash P (Str.ofString "find_spec"), (.str (Str.ofString "find_spec") 193), (.builtin "_frozen_importlib.BuiltinImporter.find_spec#opaque")⟩, ⟨PyData.keyHash P (Str.ofString "create_module"), (.str (Str.ofString "create_module") 194), (.builtin "_frozen_importlib.BuiltinImporter.create_module#opaque")⟩, ⟨PyData.keyHash P (Str.ofString "exec_module"), (.str (Str.ofString "exec_module") 195), (.builtin "_frozen_importlib.BuiltinImporter.exec_module#opaque")⟩, ⟨PyData.keyHash P (Str.ofString "get_code"), (.str (Str.ofString "get_code") 196), (.builtin "_frozen_importlib.BuiltinImporter.get_code#opaque")⟩, ⟨PyData.keyHash P (Str.ofString "get_source"), (.str (Str.ofString "get_source") 197), (.builtin "_frozen_importlib.BuiltinImporter.get_source#opaque")⟩, ⟨PyData.keyHash P (Str.ofString "is_package"), (.str (Str.ofString "is_package") 198), (.builtin "_frozen_importlib.BuiltinImporter.is_package#opaque")⟩, ⟨PyData.keyHash P (Str.ofString "load_module"), (.str (Str.ofString "load_module") 199), (.builtin "_frozen_importlib.BuiltinImporter.load_module#opaque")⟩, ⟨PyData.keyHash P (Str.ofString "__static_attributes__"), (.str (Str.ofString "__static_attributes__") 200), (.ref 15)⟩, ⟨PyData.keyHash P (Str.ofString "__dict__"), (.str (Str.ofString "__dict__") 202), (.ref 16)⟩, ⟨PyData.keyHash P (Str.ofString "__weakref__"), (.str (Str.ofString "__weakref__") 204), (.ref 17)⟩] 14), #[]⟩
noncomputable def o14_s0 (P : Params) : Obj := ⟨(.type "type"), none, (.cls { name := (Str.ofString "BuiltinImporter"), bases := [(.type "object")], mro := [(.ref 14), (.type "object")], ns := 13, qualname := (Str.ofString "BuiltinImporter"), hasDict := true, slotNames := [], subclasses := [], abstract := false, collection := none, hasDel := false }), #[]⟩
noncomputable def o15_s0 (P : Params) : Obj := ⟨(.type "tuple"), none, (.seq #[] 0), #[]⟩
noncomputable def o16_s0 (P : Params) : Obj := ⟨(.type "getset_descriptor"), none, (.fields #[(.str (Str.ofString "__dict__") 201), (.ref 14), (.builtin "function.__dict__"), (.builtin "function.__dict__#set")]), #[]⟩
noncomputable def o17_s0 (P : Params) : Obj := ⟨(.type "getset_descriptor"), none, (.fields #[(.str (Str.ofString "__weakref__") 203), (.ref 14), (.builtin "ExceptionGroup.__weakref__"), .none]), #[]⟩
noncomputable def o18_s0 (P : Params) : Obj := ⟨.none, none, (.seq #[(.int (13) 0), (.str (Str.mk #[6, 189, 10, 95, 95, 109, 111, 100, 117, 108, 101, 95, 95, 6, 186, 17, 95, 102, 114, 111, 122, 101, 110, 95, 105, 109, 112, 111, 114, 116, 108, 105, 98, 6, 190, 15, 95, 95, 102, 105, 114, 115, 116, 108, 105, 110, 101, 110, 111, 95, 95, 4, 187, 0, 971, 6, 191, 7, 95, 95, 100, 111, 99, 95, 95, 9, 52, 95, 102, 114, 111, 122, 101, 110, 95, 105, 109, 112, 111, 114, 116, 108, 105, 98, 46, 66, 117, 105, 108, 116, 105, 110, 73, 109, 112, 111, 114, 116, 101, 114, 46, 95, 95, 100, 111, 99, 95, 95, 58, 115, 116, 114, 35, 111, 112, 97, 113, 117, 101, 6, 192, 7, 95, 79, 82, 73, 71, 73, 78, 6, 188, 8, 98, 117, 105, 108, 116, 45, 105, 110, 6, 193, 9, 102, 105, 110, 100, 95, 115, 112, 101, 99, 9, 50, 95, 102, 114, 111, 122, 101, 110, 95, 105, 109, 112, 111, 114, 116, 108, 105, 98, 46, 66, 117, 105, 108, 116, 105, 110, 73, 109, 112, 111, 114, 116, 101, 114, 46, 102, 105, 110, 100, 95, 115, 112, 101, 99, 35, 111, 112, 97, 113, 117, 101, 6, 194, 13, 99, 114, 101, 97, 116, 101, 95, 109, 111, 100, 117, 108, 101, 9, 54, 95, 102, 114, 111, 122, 101, 110, 95, 105, 109, 112, 111, 114, 116, 108, 105, 98, 46, 66, 117, 105, 108, 116, 105, 110, 73, 109, 112, 111, 114, 116, 101, 114, 46, 99, 114, 101, 97, 116, 101, 95, 109, 111, 100, 117, 108, 101, 35, 111, 112, 97, 113, 117, 101, 6, 195, 11, 101, 120, 101, 99, 95, 109, 111, 100, 117, 108, 101, 9, 52, 95, 102, 114, 111, 122, 101, 110, 95, 105, 109, 112, 111, 114, 116, 108, 105, 98, 46, 66, 117, 105, 108, 116, 105, 110, 73, 109, 112, 111, 114, 116, 101, 114, 46, 101, 120, 101, 99, 95, 109, 111, 100, 117, 108, 101, 35, 111, 112, 97, 113, 117, 101, 6, 196, 8, 103, 101, 116, 95, 99, 111, 100, 101, 9, 49, 95, 102, 114, 111, 122, 101, 110, 95, 105, 109, 112, 111, 114, 116, 108, 105, 98, 46, 66, 117, 105, 108, 116, 105, 110, 73, 109, 112, 111, 114, 116, 101, 114, 46, 103, 101, 116, 95, 99, 111, 100, 101, 35, 111, 112, 97, 113, 117, 101, 6, 197, 10, 103, 101, 116, 95, 115, 111, 117, 114, 99, 101, 9, 51, 95, 102, 114, 111, 122, 101, 110, 95, 105, 109, 112, 111, 114, 116, 108, 105, 98, 46, 66, 117, 105, 108, 116, 105, 110, 73, 109, 112, 111, 114, 116, 101, 114, 46, 103, 101, 116, 95, 115, 111, 117, 114, 99, 101, 35, 111, 112, 97, 113, 117, 101, 6, 198, 10, 105, 115, 95, 112, 97, 99, 107, 97, 103, 101, 9, 51, 95, 102, 114, 111, 122, 101, 110, 95, 105, 109, 112, 111, 114, 116, 108, 105, 98, 46, 66, 117, 105, 108, 116, 105, 110, 73, 109, 112, 111, 114, 116, 101, 114, 46, 105, 115, 95, 112, 97, 99, 107, 97, 103, 101, 35, 111, 112, 97, 113, 117, 101, 6, 199, 11, 108, 111, 97, 100, 95, 109, 111, 100, 117, 108, 101, 9, 52, 95, 102, 114, 111, 122, 101, 110, 95, 105, 109, 112, 111, 114, 116, 108, 105, 98, 46, 66, 117, 105, 108, 116, 105, 110, 73, 109, 112, 111, 114, 116, 101, 114, 46, 108, 111, 97, 100, 95, 109, 111, 100, 117, 108, 101, 35, 111, 112, 97, 113, 117, 101, 6, 200, 21, 95, 95, 115, 116, 97, 116, 105, 99, 95, 97, 116, 116, 114, 105, 98, 117, 116, 101, 115, 95, 95, 4, 0, 0, 15, 6, 202, 8, 95, 95, 100, 105, 99, 116, 95, 95, 4, 0, 0, 16, 6, 204, 11, 95, 95, 119, 101, 97, 107, 114, 101, 102, 95, 95, 4, 0, 0, 17]) 0), (.bool true), (.bool true), (.str (Str.ofString "") 205), (.int (21) 0), (.str (Str.mk #[6, 227, 10, 95, 95, 109, 111, 100, 117, 108, 101, 95, 95, 6, 217, 17, 95, 102, 114, 111, 122, 101, 110, 95, 105, 109, 112, 111, 114, 116, 108, 105, 98, 6, 228, 15, 95, 95, 102, 105, 114, 115, 116, 108, 105, 110, 101, 110, 111, 95, 95, 4, 218, 0, 562, 6, 229, 7, 95, 95, 100, 111, 99, 95, 95, 9, 47, 95, 102, 114, 111, 122, 101, 110, 95, 105, 109, 112, 111, 114, 116, 108, 105, 98, 46, 77, 111, 100, 117, 108, 101, 83, 112, 101, 99, 46, 95, 95, 100, 111, 99, 95, 95, 58, 115, 116, 114, 35, 111, 112, 97, 113, 117, 101, 6, 230, 8, 95, 95, 105, 110, 105, 116, 95, 95, 9, 44, 95, 102, 114, 111, 122, 101, 110, 95, 105, 109, 112, 111, 114, 116, 108, 105, 98, 46, 77, 111, 100, 117, 108, 101, 83, 112, 101, 99, 46, 95, 95, 105, 110, 105, 116, 95, 95, 35, 111, 112, 97, 113, 117, 101, 6, 231, 8, 95, 95, 114, 101, 112, 114, 95, 95, 9, 44, 95, 102, 114, 111, 122, 101, 110, 95, 105, 109, 112, 111, 114, 116, 108, 105, 98, 46, 77, 111, 100, 117, 108, 101, 83, 112, 101, 99, 46, 95, 95, 114, 101, 112, 114, 95, 95, 35, 111, 112, 97, 113, 117, 101, 6, 232, 6, 95, 95, 101, 113, 95, 95, 9, 42, 95, 102, 114, 111, 122, 101, 110, 95, 105, 109, 112, 111, 114, 116, 108, 105, 98, 46, 77, 111, 100, 117, 108, 101, 83, 112, 101, 99, 46, 95, 95, 101, 113, 95, 95, 35, 111, 112, 97, 113, 117, 101, 6, 233, 6, 99, 97, 99, 104, 101, 100, 9, 42, 95, 102, 114, 111, 122, 101, 110, 95, 105, 109, 112, 111, 114, 116, 108, 105, 98, 46, 77, 111, 100, 117, 108, 101, 83, 112, 101, 99, 46, 99, 97, 99, 104, 101, 100, 35, 111, 112, 97, 113, 117, 101, 6, 234, 6, 112, 97, 114, 101, 110, 116, 9, 42, 95, 102, 114, 111, 122, 101, 110, 95, 105, 109, 112, 111, 114, 116, 108, 105, 98, 46, 77, 111, 100, 117, 108, 101, 83, 112, 101, 99, 46, 112, 97, 114, 101, 110, 116, 35, 111, 112, 97, 113, 117, 101, 6, 235, 12, 104, 97, 115, 95, 108, 111, 99, 97, 116, 105, 111, 110, 9, 48, 95, 102, 114, 111, 122, 101, 110, 95, 105, 109, 112, 111, 114, 116, 108, 105, 98, 46, 77, 111, 100, 117, 108, 101, 83, 112, 101, 99, 46, 104, 97, 115, 95, 108, 111, 99, 97, 116, 105, 111, 110, 35, 111, 112, 97, 113, 117, 101, 6, 236, 21, 95, 95, 115, 116, 97, 116, 105, 99, 95, 97, 116, 116, 114, 105, 98, 117, 116, 101, 115, 95, 95, 4, 0, 0, 23, 6, 238, 8, 95, 95, 100, 105, 99, 116, 95, 95, 4, 0, 0, 24, 6, 240, 11, 95, 95, 119, 101, 97, 107, 114, 101, 102, 95, 95, 4, 0, 0, 25, 6, 241, 8, 95, 95, 104, 97, 115, 104, 95, 95, 0]) 0), (.bool true), (.bool true), (.str (Str.ofString "") 242)] 1), #[]⟩
noncomputable def o19_s0 (P : Params) : Obj := ⟨(.type "list"), none, (.seq #[] 0), #[]⟩
noncomputable def o20_s0 (P : Params) : Obj := ⟨(.type "dict"), none, (.dict #[⟨PyData.keyHash P (Str.ofString "name"), (.str (Str.ofString "name") 208), (.str (Str.ofString "_sre") 207)⟩, ⟨PyData.keyHash P (Str.ofString "loader"), (.str (Str.ofString "loader") 209), (.ref 14)⟩, ⟨PyData.keyHash P (Str.ofString "origin"), (.str (Str.ofString "origin") 210), (.str (Str.ofString "built-in") 184)⟩, ⟨PyData.keyHash P (Str.ofString "loader_state"), (.str (Str.ofString "loader_state") 211), .none⟩, ⟨PyData.keyHash P (Str.ofString "submodule_search_locations"), (.str (Str.ofString "submodule_search_locations") 212), .none⟩, ⟨PyData.keyHash P (Str.ofString "_uninitialized_submodules"), (.str (Str.ofString "_uninitialized_submodules") 213), (.ref 19)⟩, ⟨PyData.keyHash P (Str.ofString "_set_fileattr"), (.str (Str.ofString "_set_fileattr") 214), (.bool false)⟩, ⟨PyData.keyHash P (Str.ofString "_cached"), (.str (Str.ofString "_cached") 215), .none⟩, ⟨PyData.keyHash P (Str.ofString "_initializing"), (.str (Str.ofString "_initializing") 243), (.bool false)⟩] 9), #[]⟩
noncomputable def o21_s0 (P : Params) : Obj := ⟨(.type "dict"), none, (.dict #[⟨PyData.keyHash P (Str.ofString "__module__"), (.str (Str.ofString "__module__") 227), (.str (Str.ofString "_frozen_importlib") 217)⟩, ⟨PyData.keyHash P (Str.ofString "__firstlineno__"), (.str (Str.ofString "__firstlineno__") 228), (.int (562) 218)⟩, ⟨PyData.keyHash P (Str.ofString "__doc__"), (.str (Str.ofString "__doc__") 229), (.builtin "_frozen_importlib.ModuleSpec.__doc__:str#opaque")⟩, ⟨PyData.keyHash P (Str.ofString "__init__"), (.str (Str.ofString "__init__") 230), (.builtin "_frozen_importlib.ModuleSpec.__init__#opaque")⟩, ⟨PyData.keyHash P (Str.ofString "__repr__"), (.str (Str.ofString "__repr__") 231), (.builtin "_frozen_importlib.ModuleSpec.__repr__#opaque")⟩, ⟨PyData.keyHash P (Str.ofString "__eq__"), (.str (Str.ofString "__eq__") 232), (.builtin "_frozen_importlib.ModuleSpec.__eq__#opaque")⟩, ⟨PyData.keyHash P (Str.ofString "cached"), (.str (Str.ofString "cached") 233), (.builtin "_frozen_importlib.ModuleSpec.cached#opaque")⟩, ⟨PyData.keyHash P (Str.ofString "parent"), (.str (Str.ofString "parent") 234), (.builtin "_frozen_importlib.ModuleSpec.parent#opaque")⟩, ⟨PyData.keyHash P (Str.ofString "has_location"), (.str (Str.ofString "has_location") 235), (.builtin "_frozen_importlib.ModuleSpec.has_location#opaque")⟩, ⟨PyData.keyHash P (Str.ofString "__static_attributes__"), (.str (Str.ofString "__static_attributes__") 236), (.ref 23)⟩, ⟨PyData.keyHash P (Str.ofString "__dict__"), (.str (Str.ofString "__dict__") 238), (.ref 24)⟩, ⟨PyData.keyHash P (Str.ofString "__weakref__"), (.str (Str.ofString "__weakref__") 240), (.ref 25)⟩, ⟨PyData.keyHash P (Str.ofString "__hash__"), (.str (Str.ofString "__hash__") 241), .none⟩] 13), #[]⟩
noncomputable def o22_s0 (P : Params) : Obj := ⟨(.type "type"), none, (.cls { name := (Str.ofString "ModuleSpec"), bases := [(.type "object")], mro := [(.ref 22), (.type "object")], ns := 21, qualname := (Str.ofString "ModuleSpec"), hasDict := true, slotNames := [], subclasses := [], abstract := false, collection := none, hasDel := false }), #[]⟩
noncomputable def o23_s0 (P : Params) : Obj := ⟨(.type "tuple"), none, (.seq #[(.str (Str.ofString "_cached") 219), (.str (Str.ofString "_set_fileattr") 220), (.str (Str.ofString "_uninitialized_submodules") 221), (.str (Str.ofString "loader") 222), (.str (Str.ofString "loader_state") 223), (.str (Str.ofString "name") 224), (.str (Str.ofString "origin") 225), (.str (Str.ofString "submodule_search_locations") 226)] 0), #[]⟩
noncomputable def o24_s0 (P : Params) : Obj := ⟨(.type "getset_descriptor"), none, (.fields #[(.str (Str.ofString "__dict__") 237), (.ref 22), (.builtin "function.__dict__"), (.builtin "function.__dict__#set")]), #[]⟩
noncomputable def o25_s0 (P : Params) : Obj := ⟨(.type "getset_descriptor"), none, (.fields #[(.str (Str.ofString "__weakref__") 239), (.ref 22), (.builtin "ExceptionGroup.__weakref__"), .none]), #[]⟩
noncomputable def o26_s0 (P : Params) : Obj := ⟨(.ref 22), (some 20), .plain, #[]⟩
noncomputable def o27_s0 (P : Params) : Obj := ⟨.none, none, (.seq #[(.int (11) 0), (.str (Str.mk #[6, 247, 8, 95, 95, 110, 97, 109, 101, 95, 95, 6, 246, 4, 95, 115, 114, 101, 6, 248, 7, 95, 95, 100, 111, 99, 95, 95, 0, 6, 250, 11, 95, 95, 112, 97, 99, 107, 97, 103, 101, 95, 95, 6, 249, 0, 6, 251, 10, 95, 95, 108, 111, 97, 100, 101, 114, 95, 95, 4, 0, 0, 14, 6, 252, 8, 95, 95, 115, 112, 101, 99, 95, 95, 4, 0, 0, 26, 6, 253, 7, 99, 111, 109, 112, 105, 108, 101, 9, 12, 95, 115, 114, 101, 46, 99, 111, 109, 112, 105, 108, 101, 6, 254, 8, 116, 101, 109, 112, 108, 97, 116, 101, 9, 13, 95, 115, 114, 101, 46, 116, 101, 109, 112, 108, 97, 116, 101, 6, 255, 11, 103, 101, 116, 99, 111, 100, 101, 115, 105, 122, 101, 9, 16, 95, 115, 114, 101, 46, 103, 101, 116, 99, 111, 100, 101, 115, 105, 122, 101, 6, 256, 13, 97, 115, 99, 105, 105, 95, 105, 115, 99, 97, 115, 101, 100, 9, 18, 95, 115, 114, 101, 46, 97, 115, 99, 105, 105, 95, 105, 115, 99, 97, 115, 101, 100, 6, 257, 15, 117, 110, 105, 99, 111, 100, 101, 95, 105, 115, 99, 97, 115, 101, 100, 9, 20, 95, 115, 114, 101, 46, 117, 110, 105, 99, 111, 100, 101, 95, 105, 115, 99, 97, 115, 101, 100, 6, 258, 13, 97, 115, 99, 105, 105, 95, 116, 111, 108, 111, 119, 101, 114, 9, 18, 95, 115, 114, 101, 46, 97, 115, 99, 105, 105, 95, 116, 111, 108, 111, 119, 101, 114, 6, 259, 15, 117, 110, 105, 99, 111, 100, 101, 95, 116, 111, 108, 111, 119, 101, 114, 9, 20, 95, 115, 114, 101, 46, 117, 110, 105, 99, 111, 100, 101, 95, 116, 111, 108, 111, 119, 101, 114, 6, 261, 5, 77, 65, 71, 73, 67, 4, 260, 0, 20230612, 6, 263, 8, 67, 79, 68, 69, 83, 73, 90, 69, 4, 262, 0, 4, 6, 265, 9, 77, 65, 88, 82, 69, 80, 69, 65, 84, 4, 264, 0, 4294967295, 6, 267, 9, 77, 65, 88, 71, 82, 79, 85, 80, 83, 4, 266, 0, 1073741823, 6, 269, 9, 99, 111, 112, 121, 114, 105, 103, 104, 116, 6, 268, 53, 32, 83, 82, 69, 32, 50, 46, 50, 46, 50, 32, 67, 111, 112, 121, 114, 105, 103, 104, 116, 32, 40, 99, 41, 32, 49, 57, 57, 55, 45, 50, 48, 48, 50, 32, 98, 121, 32, 83, 101, 99, 114, 101, 116, 32, 76, 97, 98, 115, 32, 65, 66, 32]) 0), (.bool true), (.bool false), (.str (Str.ofString "_sre") 271)] 0), #[]⟩
noncomputable def o28_pre (P : Params) : Obj := ⟨(.type "tuple"), none, (.seq #[] 0), #[]⟩
noncomputable def o29_pre (P : Params) : Obj := ⟨.none, none, (.fields #[]), #[]⟩
noncomputable def o30_pre (P : Params) : Obj := ⟨(.type "code"), none, (.fields #[(.str (Str.ofString "<module>") 277), (.str (Str.ofString "<module>") 278), (.str (Str.ofString "/claim/cut.py") 279), (.int (1) 0), (.int (0) 0), (.int (0) 0), (.int (0) 0), (.int (0) 0), (.ref 28), (.bool false), (.int (276) 0), (.ref 29), .none, .none, .none, .none, (.int (280) 0), (.int (1) 0), (.str (Str.ofString "/claim/cut.py") 281)]), #[]⟩
noncomputable def o31_pre (P : Params) : Obj := ⟨(.type "frame"), none, .plain, #[(some (.ref 30)), (some (.ref 3)), (some (.ref 3)), none, (some (.str (Str.ofString "__main__") 164)), none, (some (.ref 0))]⟩
noncomputable def o32_p0 (P : Params) : Obj := ⟨(.type "tuple"), none, (.seq #[] 0), #[]⟩
noncomputable def o33_p0 (P : Params) : Obj := ⟨.none, none, (.fields #[]), #[]⟩
noncomputable def o34_p0 (P : Params) : Obj := ⟨(.type "tuple"), none, (.seq #[(.str (Str.ofString "k") 285)] 0), #[]⟩
noncomputable def o35_p0 (P : Params) : Obj := ⟨(.type "tuple"), none, (.seq #[] 0), #[]⟩
noncomputable def o36_p0 (P : Params) : Obj := ⟨.none, none, (fnData (stAt 1) fun a b sc => { params := a, body := .stmts b, scope := sc, name := (Str.ofString "_wall"), qualname := (Str.ofString "_wall"), globals := 0, closure := [], defaults := .none, kwdefaults := .none, doc := .none, pyModule := .none, annotations := none, code := .none, closureTuple := .none, builtins := 0 }), #[]⟩
noncomputable def o37_p0 (P : Params) : Obj := ⟨(.type "code"), none, (.fields #[(.str (Str.ofString "_wall") 282), (.str (Str.ofString "_wall") 283), (.str (Str.ofString "/claim/cut.py") 284), (.int (2) 0), (.int (1) 0), (.int (0) 0), (.int (0) 0), (.int (3) 0), (.ref 32), (.bool true), (.int (276) 0), (.ref 33), .none, (.ref 34), (.ref 35), (.ref 36), (.int (286) 0), (.int (2) 0), (.str (Str.ofString "/claim/cut.py") 287)]), #[]⟩
noncomputable def o38_p0 (P : Params) : Obj := ⟨(.type "function"), none, (fnData (stAt 1) fun a b sc => { params := a, body := .stmts b, scope := sc, name := (Str.ofString "_wall"), qualname := (Str.ofString "_wall"), globals := 3, closure := [], defaults := .none, kwdefaults := .none, doc := .none, pyModule := (.str (Str.ofString "__main__") 164), annotations := none, code := (.ref 37), closureTuple := .none, builtins := 0 }), #[]⟩
noncomputable def o39_p2 (P : Params) : Obj := ⟨(.type "list"), none, (.seq #[(.int (14) 294), (.int (8) 295), (.int (1) 296), (.int (2) 297), (.int (4294967295) 298), (.int (1) 299), (.int (1) 300), (.int (34) 301), (.int (0) 302), (.int (16) 303), (.int (34) 304), (.int (28) 305), (.int (22) 306), (.int (0) 307), (.int (4294967295) 308), (.int (7) 309), (.int (11) 310), (.int (13) 311), (.int (7) 312), (.int (21) 313), (.int (16) 314), (.int (34) 315), (.int (16) 316), (.int (92) 317), (.int (0) 318), (.int (15) 319), (.int (8) 320), (.int (6) 321), (.int (16) 322), (.int (92) 323), (.int (2) 324), (.int (15) 325), (.int (2) 326), (.int (0) 327), (.int (1) 328), (.int (16) 329), (.int (34) 330), (.int (1) 331)] 0), #[]⟩
noncomputable def o40_p2 (P : Params) : Obj := ⟨(.type "dict"), none, (.dict #[] 0), #[]⟩
noncomputable def o41_p2 (P : Params) : Obj := ⟨(.type "tuple"), none, (.seq #[.none] 0), #[]⟩
noncomputable def o42_p2 (P : Params) : Obj := ⟨(.type "tuple"), none, (.seq #[(.int (14) 0), (.int (8) 0), (.int (1) 0), (.int (2) 0), (.int (4294967295) 0), (.int (1) 0), (.int (1) 0), (.int (34) 0), (.int (0) 0), (.int (16) 0), (.int (34) 0), (.int (28) 0), (.int (22) 0), (.int (0) 0), (.int (4294967295) 0), (.int (7) 0), (.int (11) 0), (.int (13) 0), (.int (7) 0), (.int (21) 0), (.int (16) 0), (.int (34) 0), (.int (16) 0), (.int (92) 0), (.int (0) 0), (.int (15) 0), (.int (8) 0), (.int (6) 0), (.int (16) 0), (.int (92) 0), (.int (2) 0), (.int (15) 0), (.int (2) 0), (.int (0) 0), (.int (1) 0), (.int (16) 0), (.int (34) 0), (.int (1) 0)] 0), #[]⟩
noncomputable def o43_p2 (P : Params) : Obj := ⟨(.type "re.Pattern"), none, (.fields #[(.bytes #[34, 40, 63, 58, 91, 94, 34, 92, 92, 93, 124, 92, 92, 46, 41, 42, 43, 34] 292), (.int (0) 333), (.int (0) 0), .none, .none, (.ref 42), (.int (1) 0)]), #[]⟩
noncomputable def o29_p3 (P : Params) : Obj := ⟨.none, none, (.fields #[(.int (2) 0), (.int (0) 0), (.ref 37), (.int (7) 0), (.int (0) 0), (.ref 50)]), #[]⟩
noncomputable def o44_p3 (P : Params) : Obj := ⟨(.type "tuple"), none, (.seq #[(.int (0) 335)] 0), #[]⟩
noncomputable def o45_p3 (P : Params) : Obj := ⟨(.type "tuple"), none, (.seq #[] 0), #[]⟩
noncomputable def o46_p3 (P : Params) : Obj := ⟨.none, none, (.fields #[]), #[]⟩
noncomputable def o47_p3 (P : Params) : Obj := ⟨(.type "tuple"), none, (.seq #[(.str (Str.ofString "data") 339), (.str (Str.ofString "depth") 340)] 0), #[]⟩
noncomputable def o48_p3 (P : Params) : Obj := ⟨(.type "tuple"), none, (.seq #[] 0), #[]⟩
noncomputable def o49_p3 (P : Params) : Obj := ⟨.none, none, (fnData (stAt 4) fun a b sc => { params := a, body := .stmts b, scope := sc, name := (Str.ofString "_paren_depth"), qualname := (Str.ofString "_paren_depth"), globals := 0, closure := [], defaults := .none, kwdefaults := .none, doc := .none, pyModule := .none, annotations := none, code := .none, closureTuple := .none, builtins := 0 }), #[]⟩
noncomputable def o50_p3 (P : Params) : Obj := ⟨(.type "code"), none, (.fields #[(.str (Str.ofString "_paren_depth") 336), (.str (Str.ofString "_paren_depth") 337), (.str (Str.ofString "/claim/cut.py") 338), (.int (7) 0), (.int (2) 0), (.int (0) 0), (.int (0) 0), (.int (3) 0), (.ref 45), (.bool true), (.int (276) 0), (.ref 46), .none, (.ref 47), (.ref 48), (.ref 49), (.int (341) 0), (.int (7) 0), (.str (Str.ofString "/claim/cut.py") 342)]), #[]⟩
noncomputable def o51_p3 (P : Params) : Obj := ⟨(.type "function"), none, (fnData (stAt 4) fun a b sc => { params := a, body := .stmts b, scope := sc, name := (Str.ofString "_paren_depth"), qualname := (Str.ofString "_paren_depth"), globals := 3, closure := [], defaults := (.ref 44), kwdefaults := .none, doc := .none, pyModule := (.str (Str.ofString "cpy313.imaplib") 289), annotations := none, code := (.ref 50), closureTuple := .none, builtins := 0 }), #[]⟩
noncomputable def o3_p5 (P : Params) : Obj := ⟨(.type "dict"), none, (.dict #[⟨PyData.keyHash P (Str.ofString "__name__"), (.str (Str.ofString "__name__") 165), (.str (Str.ofString "cpy313.email.header") 344)⟩, ⟨PyData.keyHash P (Str.ofString "__doc__"), (.str (Str.ofString "__doc__") 166), .none⟩, ⟨PyData.keyHash P (Str.ofString "__package__"), (.str (Str.ofString "__package__") 167), .none⟩, ⟨PyData.keyHash P (Str.ofString "__loader__"), (.str (Str.ofString "__loader__") 168), (.builtin "__main__.__loader__#opaque")⟩, ⟨PyData.keyHash P (Str.ofString "__spec__"), (.str (Str.ofString "__spec__") 169), .none⟩, ⟨PyData.keyHash P (Str.ofString "__annotations__"), (.str (Str.ofString "__annotations__") 170), (.ref 6)⟩, ⟨PyData.keyHash P (Str.ofString "__builtins__"), (.str (Str.ofString "__builtins__") 171), (.ref 4)⟩, ⟨PyData.keyHash P (Str.ofString "__file__"), (.str (Str.ofString "__file__") 173), (.str (Str.ofString "/claim/cut.py") 172)⟩, ⟨PyData.keyHash P (Str.ofString "__cached__"), (.str (Str.ofString "__cached__") 174), .none⟩, ⟨PyData.keyHash P (Str.ofString "_sre"), (.str (Str.ofString "_sre") 275), (.ref 12)⟩, ⟨PyData.keyHash P (Str.ofString "_wall"), (.str (Str.ofString "_wall") 288), (.ref 38)⟩, ⟨PyData.keyHash P (Str.ofString "_quoted"), (.str (Str.ofString "_quoted") 334), (.ref 43)⟩, ⟨PyData.keyHash P (Str.ofString "_paren_depth"), (.str (Str.ofString "_paren_depth") 343), (.ref 51)⟩, ⟨PyData.keyHash P (Str.ofString "EMPTYSTRING"), (.str (Str.ofString "EMPTYSTRING") 347), (.str (Str.ofString "") 346)⟩] 14), #[]⟩
noncomputable def o3_p6 (P : Params) : Obj := ⟨(.type "dict"), none, (.dict #[⟨PyData.keyHash P (Str.ofString "__name__"), (.str (Str.ofString "__name__") 165), (.str (Str.ofString "cpy313.email.header") 344)⟩, ⟨PyData.keyHash P (Str.ofString "__doc__"), (.str (Str.ofString "__doc__") 166), .none⟩, ⟨PyData.keyHash P (Str.ofString "__package__"), (.str (Str.ofString "__package__") 167), .none⟩, ⟨PyData.keyHash P (Str.ofString "__loader__"), (.str (Str.ofString "__loader__") 168), (.builtin "__main__.__loader__#opaque")⟩, ⟨PyData.keyHash P (Str.ofString "__spec__"), (.str (Str.ofString "__spec__") 169), .none⟩, ⟨PyData.keyHash P (Str.ofString "__annotations__"), (.str (Str.ofString "__annotations__") 170), (.ref 6)⟩, ⟨PyData.keyHash P (Str.ofString "__builtins__"), (.str (Str.ofString "__builtins__") 171), (.ref 4)⟩, ⟨PyData.keyHash P (Str.ofString "__file__"), (.str (Str.ofString "__file__") 173), (.str (Str.ofString "/claim/cut.py") 172)⟩, ⟨PyData.keyHash P (Str.ofString "__cached__"), (.str (Str.ofString "__cached__") 174), .none⟩, ⟨PyData.keyHash P (Str.ofString "_sre"), (.str (Str.ofString "_sre") 275), (.ref 12)⟩, ⟨PyData.keyHash P (Str.ofString "_wall"), (.str (Str.ofString "_wall") 288), (.ref 38)⟩, ⟨PyData.keyHash P (Str.ofString "_quoted"), (.str (Str.ofString "_quoted") 334), (.ref 43)⟩, ⟨PyData.keyHash P (Str.ofString "_paren_depth"), (.str (Str.ofString "_paren_depth") 343), (.ref 51)⟩, ⟨PyData.keyHash P (Str.ofString "EMPTYSTRING"), (.str (Str.ofString "EMPTYSTRING") 347), (.str (Str.ofString "") 346)⟩, ⟨PyData.keyHash P (Str.ofString "_Accumulator"), (.str (Str.ofString "_Accumulator") 442), (.ref 131)⟩] 15), #[]⟩
noncomputable def o29_p6 (P : Params) : Obj := ⟨.none, none, (.fields #[(.int (2) 0), (.int (0) 0), (.ref 37), (.int (7) 0), (.int (0) 0), (.ref 50), (.int (12) 0), (.int (0) 0), (.ref 58)]), #[]⟩
noncomputable def o52_p6 (P : Params) : Obj := ⟨(.type "tuple"), none, (.seq #[(.type "list")] 0), #[]⟩
noncomputable def o53_p6 (P : Params) : Obj := ⟨(.type "builtin_function_or_method"), none, (.fields #[(.builtin "type.__prepare__"), (.type "type")]), #[]⟩
noncomputable def o54_p6 (P : Params) : Obj := ⟨(.type "dict"), none, (.dict #[⟨PyData.keyHash P (Str.ofString "__module__"), (.str (Str.ofString "__module__") 355), (.str (Str.ofString "cpy313.email.header") 344)⟩, ⟨PyData.keyHash P (Str.ofString "__qualname__"), (.str (Str.ofString "__qualname__") 357), (.str (Str.ofString "_Accumulator") 356)⟩, ⟨PyData.keyHash P (Str.ofString "__firstlineno__"), (.str (Str.ofString "__firstlineno__") 359), (.int (12) 358)⟩, ⟨PyData.keyHash P (Str.ofString "__init__"), (.str (Str.ofString "__init__") 369), (.ref 68)⟩, ⟨PyData.keyHash P (Str.ofString "push"), (.str (Str.ofString "push") 378), (.ref 75)⟩, ⟨PyData.keyHash P (Str.ofString "pop_from"), (.str (Str.ofString "pop_from") 387), (.ref 83)⟩, ⟨PyData.keyHash P (Str.ofString "pop"), (.str (Str.ofString "pop") 395), (.ref 91)⟩, ⟨PyData.keyHash P (Str.ofString "__len__"), (.str (Str.ofString "__len__") 402), (.ref 98)⟩, ⟨PyData.keyHash P (Str.ofString "__str__"), (.str (Str.ofString "__str__") 409), (.ref 105)⟩, ⟨PyData.keyHash P (Str.ofString "reset"), (.str (Str.ofString "reset") 417), (.ref 113)⟩, ⟨PyData.keyHash P (Str.ofString "is_onlyws"), (.str (Str.ofString "is_onlyws") 424), (.ref 120)⟩, ⟨PyData.keyHash P (Str.ofString "part_count"), (.str (Str.ofString "part_count") 432), (.ref 128)⟩, ⟨PyData.keyHash P (Str.ofString "__static_attributes__"), (.str (Str.ofString "__static_attributes__") 434), (.ref 129)⟩, ⟨PyData.keyHash P (Str.ofString "__classcell__"), (.str (Str.ofString "__classcell__") 435), (.ref 55)⟩] 14), #[]⟩
noncomputable def o55_p6 (P : Params) : Obj := ⟨(.type "cell"), none, (.cell (some (.ref 131))), #[]⟩
noncomputable def o56_p6 (P : Params) : Obj := ⟨(.type "tuple"), none, (.seq #[] 0), #[]⟩
noncomputable def o57_p6 (P : Params) : Obj := ⟨.none, none, (.fields #[(.int (14) 0), (.int (4) 0), (.ref 67), (.int (18) 0), (.int (4) 0), (.ref 74), (.int (21) 0), (.int (4) 0), (.ref 82), (.int (24) 0), (.int (4) 0), (.ref 90), (.int (29) 0), (.int (4) 0), (.ref 97), (.int (32) 0), (.int (4) 0), (.ref 104), (.int (35) 0), (.int (4) 0), (.ref 112), (.int (38) 0), (.int (4) 0), (.ref 119), (.int (41) 0), (.int (4) 0), (.ref 127)]), #[]⟩
noncomputable def o58_p6 (P : Params) : Obj := ⟨(.type "code"), none, (.fields #[(.str (Str.ofString "_Accumulator") 350), (.str (Str.ofString "_Accumulator") 351), (.str (Str.ofString "/claim/cut.py") 352), (.int (12) 0), (.int (0) 0), (.int (0) 0), (.int (0) 0), (.int (0) 0), (.ref 56), (.bool false), (.int (276) 0), (.ref 57), .none, .none, .none, .none, (.int (353) 0), (.int (12) 0), (.str (Str.ofString "/claim/cut.py") 354)]), #[]⟩
noncomputable def o59_p6 (P : Params) : Obj := ⟨(.type "frame"), none, .plain, #[(some (.ref 58)), (some (.ref 3)), (some (.ref 54)), none, (some (.str (Str.ofString "cpy313.email.header") 344)), none, (some (.ref 0))]⟩
noncomputable def o60_p6 (P : Params) : Obj := ⟨(.type "tuple"), none, (.seq #[(.int (0) 360)] 0), #[]⟩
noncomputable def o61_p6 (P : Params) : Obj := ⟨(.type "tuple"), none, (.seq #[(.ref 55)] 0), #[]⟩
noncomputable def o62_p6 (P : Params) : Obj := ⟨(.type "tuple"), none, (.seq #[(.str (Str.ofString "__class__") 364)] 0), #[]⟩
noncomputable def o63_p6 (P : Params) : Obj := ⟨.none, none, (.fields #[]), #[]⟩
noncomputable def o64_p6 (P : Params) : Obj := ⟨(.type "tuple"), none, (.seq #[(.str (Str.ofString "self") 365), (.str (Str.ofString "initial_size") 366)] 0), #[]⟩
noncomputable def o65_p6 (P : Params) : Obj := ⟨(.type "tuple"), none, (.seq #[] 0), #[]⟩
noncomputable def o66_p6 (P : Params) : Obj := ⟨.none, none, (fnData (methAt 0) fun a b sc => { params := a, body := .stmts b, scope := sc, name := (Str.ofString "__init__"), qualname := (Str.ofString "_Accumulator.__init__"), globals := 0, closure := [], defaults := .none, kwdefaults := .none, doc := .none, pyModule := .none, annotations := none, code := .none, closureTuple := .none, builtins := 0 }), #[]⟩
noncomputable def o67_p6 (P : Params) : Obj := ⟨(.type "code"), none, (.fields #[(.str (Str.ofString "__init__") 361), (.str (Str.ofString "_Accumulator.__init__") 362), (.str (Str.ofString "/claim/cut.py") 363), (.int (14) 0), (.int (2) 0), (.int (0) 0), (.int (0) 0), (.int (3) 0), (.ref 62), (.bool true), (.int (276) 0), (.ref 63), .none, (.ref 64), (.ref 65), (.ref 66), (.int (367) 0), (.int (14) 0), (.str (Str.ofString "/claim/cut.py") 368)]), #[]⟩
noncomputable def o68_p6 (P : Params) : Obj := ⟨(.type "function"), none, (fnData (methAt 0) fun a b sc => { params := a, body := .stmts b, scope := sc, name := (Str.ofString "__init__"), qualname := (Str.ofString "_Accumulator.__init__"), globals := 3, closure := [((Str.ofString "__class__"), 55)], defaults := (.ref 60), kwdefaults := .none, doc := .none, pyModule := (.str (Str.ofString "cpy313.email.header") 344), annotations := none, code := (.ref 67), closureTuple := (.ref 61), builtins := 0 }), #[]⟩
noncomputable def o69_p6 (P : Params) : Obj := ⟨(.type "tuple"), none, (.seq #[] 0), #[]⟩
noncomputable def o70_p6 (P : Params) : Obj := ⟨.none, none, (.fields #[]), #[]⟩
noncomputable def o71_p6 (P : Params) : Obj := ⟨(.type "tuple"), none, (.seq #[(.str (Str.ofString "self") 373), (.str (Str.ofString "fws") 374), (.str (Str.ofString "string") 375)] 0), #[]⟩
noncomputable def o72_p6 (P : Params) : Obj := ⟨(.type "tuple"), none, (.seq #[] 0), #[]⟩
noncomputable def o73_p6 (P : Params) : Obj := ⟨.none, none, (fnData (methAt 1) fun a b sc => { params := a, body := .stmts b, scope := sc, name := (Str.ofString "push"), qualname := (Str.ofString "_Accumulator.push"), globals := 0, closure := [], defaults := .none, kwdefaults := .none, doc := .none, pyModule := .none, annotations := none, code := .none, closureTuple := .none, builtins := 0 }), #[]⟩
noncomputable def o74_p6 (P : Params) : Obj := ⟨(.type "code"), none, (.fields #[(.str (Str.ofString "push") 370), (.str (Str.ofString "_Accumulator.push") 371), (.str (Str.ofString "/claim/cut.py") 372), (.int (18) 0), (.int (3) 0), (.int (0) 0), (.int (0) 0), (.int (3) 0), (.ref 69), (.bool true), (.int (276) 0), (.ref 70), .none, (.ref 71), (.ref 72), (.ref 73), (.int (376) 0), (.int (18) 0), (.str (Str.ofString "/claim/cut.py") 377)]), #[]⟩
noncomputable def o75_p6 (P : Params) : Obj := ⟨(.type "function"), none, (fnData (methAt 1) fun a b sc => { params := a, body := .stmts b, scope := sc, name := (Str.ofString "push"), qualname := (Str.ofString "_Accumulator.push"), globals := 3, closure := [], defaults := .none, kwdefaults := .none, doc := .none, pyModule := (.str (Str.ofString "cpy313.email.header") 344), annotations := none, code := (.ref 74), closureTuple := .none, builtins := 0 }), #[]⟩
noncomputable def o76_p6 (P : Params) : Obj := ⟨(.type "tuple"), none, (.seq #[(.int (0) 379)] 0), #[]⟩
noncomputable def o77_p6 (P : Params) : Obj := ⟨(.type "tuple"), none, (.seq #[] 0), #[]⟩
noncomputable def o78_p6 (P : Params) : Obj := ⟨.none, none, (.fields #[]), #[]⟩
noncomputable def o79_p6 (P : Params) : Obj := ⟨(.type "tuple"), none, (.seq #[(.str (Str.ofString "self") 383), (.str (Str.ofString "i") 384)] 0), #[]⟩
noncomputable def o80_p6 (P : Params) : Obj := ⟨(.type "tuple"), none, (.seq #[] 0), #[]⟩
noncomputable def o81_p6 (P : Params) : Obj := ⟨.none, none, (fnData (methAt 2) fun a b sc => { params := a, body := .stmts b, scope := sc, name := (Str.ofString "pop_from"), qualname := (Str.ofString "_Accumulator.pop_from"), globals := 0, closure := [], defaults := .none, kwdefaults := .none, doc := .none, pyModule := .none, annotations := none, code := .none, closureTuple := .none, builtins := 0 }), #[]⟩
noncomputable def o82_p6 (P : Params) : Obj := ⟨(.type "code"), none, (.fields #[(.str (Str.ofString "pop_from") 380), (.str (Str.ofString "_Accumulator.pop_from") 381), (.str (Str.ofString "/claim/cut.py") 382), (.int (21) 0), (.int (2) 0), (.int (0) 0), (.int (0) 0), (.int (3) 0), (.ref 77), (.bool true), (.int (276) 0), (.ref 78), .none, (.ref 79), (.ref 80), (.ref 81), (.int (385) 0), (.int (21) 0), (.str (Str.ofString "/claim/cut.py") 386)]), #[]⟩
noncomputable def o83_p6 (P : Params) : Obj := ⟨(.type "function"), none, (fnData (methAt 2) fun a b sc => { params := a, body := .stmts b, scope := sc, name := (Str.ofString "pop_from"), qualname := (Str.ofString "_Accumulator.pop_from"), globals := 3, closure := [], defaults := (.ref 76), kwdefaults := .none, doc := .none, pyModule := (.str (Str.ofString "cpy313.email.header") 344), annotations := none, code := (.ref 82), closureTuple := .none, builtins := 0 }), #[]⟩
noncomputable def o84_p6 (P : Params) : Obj := ⟨(.type "tuple"), none, (.seq #[(.ref 55)] 0), #[]⟩
noncomputable def o85_p6 (P : Params) : Obj := ⟨(.type "tuple"), none, (.seq #[(.str (Str.ofString "__class__") 391)] 0), #[]⟩
noncomputable def o86_p6 (P : Params) : Obj := ⟨.none, none, (.fields #[]), #[]⟩
noncomputable def o87_p6 (P : Params) : Obj := ⟨(.type "tuple"), none, (.seq #[(.str (Str.ofString "self") 392)] 0), #[]⟩
noncomputable def o88_p6 (P : Params) : Obj := ⟨(.type "tuple"), none, (.seq #[] 0), #[]⟩
noncomputable def o89_p6 (P : Params) : Obj := ⟨.none, none, (fnData (methAt 3) fun a b sc => { params := a, body := .stmts b, scope := sc, name := (Str.ofString "pop"), qualname := (Str.ofString "_Accumulator.pop"), globals := 0, closure := [], defaults := .none, kwdefaults := .none, doc := .none, pyModule := .none, annotations := none, code := .none, closureTuple := .none, builtins := 0 }), #[]⟩
noncomputable def o90_p6 (P : Params) : Obj := ⟨(.type "code"), none, (.fields #[(.str (Str.ofString "pop") 388), (.str (Str.ofString "_Accumulator.pop") 389), (.str (Str.ofString "/claim/cut.py") 390), (.int (24) 0), (.int (1) 0), (.int (0) 0), (.int (0) 0), (.int (3) 0), (.ref 85), (.bool true), (.int (276) 0), (.ref 86), .none, (.ref 87), (.ref 88), (.ref 89), (.int (393) 0), (.int (24) 0), (.str (Str.ofString "/claim/cut.py") 394)]), #[]⟩
noncomputable def o91_p6 (P : Params) : Obj := ⟨(.type "function"), none, (fnData (methAt 3) fun a b sc => { params := a, body := .stmts b, scope := sc, name := (Str.ofString "pop"), qualname := (Str.ofString "_Accumulator.pop"), globals := 3, closure := [((Str.ofString "__class__"), 55)], defaults := .none, kwdefaults := .none, doc := .none, pyModule := (.str (Str.ofString "cpy313.email.header") 344), annotations := none, code := (.ref 90), closureTuple := (.ref 84), builtins := 0 }), #[]⟩
noncomputable def o92_p6 (P : Params) : Obj := ⟨(.type "tuple"), none, (.seq #[] 0), #[]⟩
noncomputable def o93_p6 (P : Params) : Obj := ⟨.none, none, (.fields #[]), #[]⟩
noncomputable def o94_p6 (P : Params) : Obj := ⟨(.type "tuple"), none, (.seq #[(.str (Str.ofString "self") 399)] 0), #[]⟩
noncomputable def o95_p6 (P : Params) : Obj := ⟨(.type "tuple"), none, (.seq #[] 0), #[]⟩
noncomputable def o96_p6 (P : Params) : Obj := ⟨.none, none, (fnData (methAt 4) fun a b sc => { params := a, body := .stmts b, scope := sc, name := (Str.ofString "__len__"), qualname := (Str.ofString "_Accumulator.__len__"), globals := 0, closure := [], defaults := .none, kwdefaults := .none, doc := .none, pyModule := .none, annotations := none, code := .none, closureTuple := .none, builtins := 0 }), #[]⟩
noncomputable def o97_p6 (P : Params) : Obj := ⟨(.type "code"), none, (.fields #[(.str (Str.ofString "__len__") 396), (.str (Str.ofString "_Accumulator.__len__") 397), (.str (Str.ofString "/claim/cut.py") 398), (.int (29) 0), (.int (1) 0), (.int (0) 0), (.int (0) 0), (.int (3) 0), (.ref 92), (.bool true), (.int (276) 0), (.ref 93), .none, (.ref 94), (.ref 95), (.ref 96), (.int (400) 0), (.int (29) 0), (.str (Str.ofString "/claim/cut.py") 401)]), #[]⟩
noncomputable def o98_p6 (P : Params) : Obj := ⟨(.type "function"), none, (fnData (methAt 4) fun a b sc => { params := a, body := .stmts b, scope := sc, name := (Str.ofString "__len__"), qualname := (Str.ofString "_Accumulator.__len__"), globals := 3, closure := [], defaults := .none, kwdefaults := .none, doc := .none, pyModule := (.str (Str.ofString "cpy313.email.header") 344), annotations := none, code := (.ref 97), closureTuple := .none, builtins := 0 }), #[]⟩
noncomputable def o99_p6 (P : Params) : Obj := ⟨(.type "tuple"), none, (.seq #[] 0), #[]⟩
noncomputable def o100_p6 (P : Params) : Obj := ⟨.none, none, (.fields #[]), #[]⟩
noncomputable def o101_p6 (P : Params) : Obj := ⟨(.type "tuple"), none, (.seq #[(.str (Str.ofString "self") 406)] 0), #[]⟩
noncomputable def o102_p6 (P : Params) : Obj := ⟨(.type "tuple"), none, (.seq #[] 0), #[]⟩
noncomputable def o103_p6 (P : Params) : Obj := ⟨.none, none, (fnData (methAt 5) fun a b sc => { params := a, body := .stmts b, scope := sc, name := (Str.ofString "__str__"), qualname := (Str.ofString "_Accumulator.__str__"), globals := 0, closure := [], defaults := .none, kwdefaults := .none, doc := .none, pyModule := .none, annotations := none, code := .none, closureTuple := .none, builtins := 0 }), #[]⟩
noncomputable def o104_p6 (P : Params) : Obj := ⟨(.type "code"), none, (.fields #[(.str (Str.ofString "__str__") 403), (.str (Str.ofString "_Accumulator.__str__") 404), (.str (Str.ofString "/claim/cut.py") 405), (.int (32) 0), (.int (1) 0), (.int (0) 0), (.int (0) 0), (.int (3) 0), (.ref 99), (.bool true), (.int (276) 0), (.ref 100), .none, (.ref 101), (.ref 102), (.ref 103), (.int (407) 0), (.int (32) 0), (.str (Str.ofString "/claim/cut.py") 408)]), #[]⟩
noncomputable def o105_p6 (P : Params) : Obj := ⟨(.type "function"), none, (fnData (methAt 5) fun a b sc => { params := a, body := .stmts b, scope := sc, name := (Str.ofString "__str__"), qualname := (Str.ofString "_Accumulator.__str__"), globals := 3, closure := [], defaults := .none, kwdefaults := .none, doc := .none, pyModule := (.str (Str.ofString "cpy313.email.header") 344), annotations := none, code := (.ref 104), closureTuple := .none, builtins := 0 }), #[]⟩
noncomputable def o106_p6 (P : Params) : Obj := ⟨(.type "tuple"), none, (.seq #[.none] 0), #[]⟩
noncomputable def o107_p6 (P : Params) : Obj := ⟨(.type "tuple"), none, (.seq #[] 0), #[]⟩
noncomputable def o108_p6 (P : Params) : Obj := ⟨.none, none, (.fields #[]), #[]⟩
noncomputable def o109_p6 (P : Params) : Obj := ⟨(.type "tuple"), none, (.seq #[(.str (Str.ofString "self") 413), (.str (Str.ofString "startval") 414)] 0), #[]⟩
noncomputable def o110_p6 (P : Params) : Obj := ⟨(.type "tuple"), none, (.seq #[] 0), #[]⟩
noncomputable def o111_p6 (P : Params) : Obj := ⟨.none, none, (fnData (methAt 6) fun a b sc => { params := a, body := .stmts b, scope := sc, name := (Str.ofString "reset"), qualname := (Str.ofString "_Accumulator.reset"), globals := 0, closure := [], defaults := .none, kwdefaults := .none, doc := .none, pyModule := .none, annotations := none, code := .none, closureTuple := .none, builtins := 0 }), #[]⟩
noncomputable def o112_p6 (P : Params) : Obj := ⟨(.type "code"), none, (.fields #[(.str (Str.ofString "reset") 410), (.str (Str.ofString "_Accumulator.reset") 411), (.str (Str.ofString "/claim/cut.py") 412), (.int (35) 0), (.int (2) 0), (.int (0) 0), (.int (0) 0), (.int (3) 0), (.ref 107), (.bool true), (.int (276) 0), (.ref 108), .none, (.ref 109), (.ref 110), (.ref 111), (.int (415) 0), (.int (35) 0), (.str (Str.ofString "/claim/cut.py") 416)]), #[]⟩
noncomputable def o113_p6 (P : Params) : Obj := ⟨(.type "function"), none, (fnData (methAt 6) fun a b sc => { params := a, body := .stmts b, scope := sc, name := (Str.ofString "reset"), qualname := (Str.ofString "_Accumulator.reset"), globals := 3, closure := [], defaults := (.ref 106), kwdefaults := .none, doc := .none, pyModule := (.str (Str.ofString "cpy313.email.header") 344), annotations := none, code := (.ref 112), closureTuple := .none, builtins := 0 }), #[]⟩
noncomputable def o114_p6 (P : Params) : Obj := ⟨(.type "tuple"), none, (.seq #[] 0), #[]⟩
noncomputable def o115_p6 (P : Params) : Obj := ⟨.none, none, (.fields #[]), #[]⟩
noncomputable def o116_p6 (P : Params) : Obj := ⟨(.type "tuple"), none, (.seq #[(.str (Str.ofString "self") 421)] 0), #[]⟩
noncomputable def o117_p6 (P : Params) : Obj := ⟨(.type "tuple"), none, (.seq #[] 0), #[]⟩
noncomputable def o118_p6 (P : Params) : Obj := ⟨.none, none, (fnData (methAt 7) fun a b sc => { params := a, body := .stmts b, scope := sc, name := (Str.ofString "is_onlyws"), qualname := (Str.ofString "_Accumulator.is_onlyws"), globals := 0, closure := [], defaults := .none, kwdefaults := .none, doc := .none, pyModule := .none, annotations := none, code := .none, closureTuple := .none, builtins := 0 }), #[]⟩
noncomputable def o119_p6 (P : Params) : Obj := ⟨(.type "code"), none, (.fields #[(.str (Str.ofString "is_onlyws") 418), (.str (Str.ofString "_Accumulator.is_onlyws") 419), (.str (Str.ofString "/claim/cut.py") 420), (.int (38) 0), (.int (1) 0), (.int (0) 0), (.int (0) 0), (.int (3) 0), (.ref 114), (.bool true), (.int (276) 0), (.ref 115), .none, (.ref 116), (.ref 117), (.ref 118), (.int (422) 0), (.int (38) 0), (.str (Str.ofString "/claim/cut.py") 423)]), #[]⟩
noncomputable def o120_p6 (P : Params) : Obj := ⟨(.type "function"), none, (fnData (methAt 7) fun a b sc => { params := a, body := .stmts b, scope := sc, name := (Str.ofString "is_onlyws"), qualname := (Str.ofString "_Accumulator.is_onlyws"), globals := 3, closure := [], defaults := .none, kwdefaults := .none, doc := .none, pyModule := (.str (Str.ofString "cpy313.email.header") 344), annotations := none, code := (.ref 119), closureTuple := .none, builtins := 0 }), #[]⟩
noncomputable def o121_p6 (P : Params) : Obj := ⟨(.type "tuple"), none, (.seq #[(.ref 55)] 0), #[]⟩
noncomputable def o122_p6 (P : Params) : Obj := ⟨(.type "tuple"), none, (.seq #[(.str (Str.ofString "__class__") 428)] 0), #[]⟩
noncomputable def o123_p6 (P : Params) : Obj := ⟨.none, none, (.fields #[]), #[]⟩
noncomputable def o124_p6 (P : Params) : Obj := ⟨(.type "tuple"), none, (.seq #[(.str (Str.ofString "self") 429)] 0), #[]⟩
noncomputable def o125_p6 (P : Params) : Obj := ⟨(.type "tuple"), none, (.seq #[] 0), #[]⟩
noncomputable def o126_p6 (P : Params) : Obj := ⟨.none, none, (fnData (methAt 8) fun a b sc => { params := a, body := .stmts b, scope := sc, name := (Str.ofString "part_count"), qualname := (Str.ofString "_Accumulator.part_count"), globals := 0, closure := [], defaults := .none, kwdefaults := .none, doc := .none, pyModule := .none, annotations := none, code := .none, closureTuple := .none, builtins := 0 }), #[]⟩
noncomputable def o127_p6 (P : Params) : Obj := ⟨(.type "code"), none, (.fields #[(.str (Str.ofString "part_count") 425), (.str (Str.ofString "_Accumulator.part_count") 426), (.str (Str.ofString "/claim/cut.py") 427), (.int (41) 0), (.int (1) 0), (.int (0) 0), (.int (0) 0), (.int (3) 0), (.ref 122), (.bool true), (.int (276) 0), (.ref 123), .none, (.ref 124), (.ref 125), (.ref 126), (.int (430) 0), (.int (41) 0), (.str (Str.ofString "/claim/cut.py") 431)]), #[]⟩
noncomputable def o128_p6 (P : Params) : Obj := ⟨(.type "function"), none, (fnData (methAt 8) fun a b sc => { params := a, body := .stmts b, scope := sc, name := (Str.ofString "part_count"), qualname := (Str.ofString "_Accumulator.part_count"), globals := 3, closure := [((Str.ofString "__class__"), 55)], defaults := .none, kwdefaults := .none, doc := .none, pyModule := (.str (Str.ofString "cpy313.email.header") 344), annotations := none, code := (.ref 127), closureTuple := (.ref 121), builtins := 0 }), #[]⟩
noncomputable def o129_p6 (P : Params) : Obj := ⟨(.type "tuple"), none, (.seq #[(.str (Str.ofString "_initial_size") 433)] 0), #[]⟩
noncomputable def o130_p6 (P : Params) : Obj := ⟨(.type "dict"), none, (.dict #[⟨PyData.keyHash P (Str.ofString "__module__"), (.str (Str.ofString "__module__") 355), (.str (Str.ofString "cpy313.email.header") 344)⟩, ⟨PyData.keyHash P (Str.ofString "__firstlineno__"), (.str (Str.ofString "__firstlineno__") 359), (.int (12) 358)⟩, ⟨PyData.keyHash P (Str.ofString "__init__"), (.str (Str.ofString "__init__") 369), (.ref 68)⟩, ⟨PyData.keyHash P (Str.ofString "push"), (.str (Str.ofString "push") 378), (.ref 75)⟩, ⟨PyData.keyHash P (Str.ofString "pop_from"), (.str (Str.ofString "pop_from") 387), (.ref 83)⟩, ⟨PyData.keyHash P (Str.ofString "pop"), (.str (Str.ofString "pop") 395), (.ref 91)⟩, ⟨PyData.keyHash P (Str.ofString "__len__"), (.str (Str.ofString "__len__") 402), (.ref 98)⟩, ⟨PyData.keyHash P (Str.ofString "__str__"), (.str (Str.ofString "__str__") 409), (.ref 105)⟩, ⟨PyData.keyHash P (Str.ofString "reset"), (.str (Str.ofString "reset") 417), (.ref 113)⟩, ⟨PyData.keyHash P (Str.ofString "is_onlyws"), (.str (Str.ofString "is_onlyws") 424), (.ref 120)⟩, ⟨PyData.keyHash P (Str.ofString "part_count"), (.str (Str.ofString "part_count") 432), (.ref 128)⟩, ⟨PyData.keyHash P (Str.ofString "__static_attributes__"), (.str (Str.ofString "__static_attributes__") 434), (.ref 129)⟩, ⟨PyData.keyHash P (Str.ofString "__dict__"), (.str (Str.ofString "__dict__") 437), (.ref 132)⟩, ⟨PyData.keyHash P (Str.ofString "__weakref__"), (.str (Str.ofString "__weakref__") 439), (.ref 133)⟩, ⟨PyData.keyHash P (Str.ofString "__doc__"), (.str (Str.ofString "__doc__") 440), .none⟩] 5), #[]⟩
noncomputable def o131_p6 (P : Params) : Obj := ⟨(.type "type"), none, (.cls { name := (Str.ofString "_Accumulator"), bases := [(.type "list")], mro := [(.ref 131), (.type "list"), (.type "object")], ns := 130, qualname := (Str.ofString "_Accumulator"), hasDict := true, slotNames := [], subclasses := [], abstract := false, collection := none, hasDel := false }), #[(some (.ref 52)), none, (some (.str (Str.ofString "_Accumulator") 348)), (some (.str (Str.ofString "_Accumulator") 356)), (some (.builtin "list.__new__")), (some (.bool true))]⟩
noncomputable def o132_p6 (P : Params) : Obj := ⟨(.type "getset_descriptor"), none, (.fields #[(.str (Str.ofString "__dict__") 436), (.ref 131), (.builtin "function.__dict__"), (.builtin "function.__dict__#set")]), #[]⟩
noncomputable def o133_p6 (P : Params) : Obj := ⟨(.type "getset_descriptor"), none, (.fields #[(.str (Str.ofString "__weakref__") 438), (.ref 131), (.builtin "ExceptionGroup.__weakref__"), .none]), #[]⟩
noncomputable def o134_p6 (P : Params) : Obj := ⟨(.type "super"), none, (.fields #[(.ref 131), (.ref 131), (.ref 131)]), #[]⟩
noncomputable def o135_p6 (P : Params) : Obj := ⟨(.type "builtin_function_or_method"), none, (.fields #[(.builtin "object.__init_subclass__"), (.ref 131)]), #[]⟩
noncomputable def o3_p8 (P : Params) : Obj := ⟨(.type "dict"), none, (.dict #[⟨PyData.keyHash P (Str.ofString "__name__"), (.str (Str.ofString "__name__") 165), (.str (Str.ofString "cpy313.stringprep") 443)⟩, ⟨PyData.keyHash P (Str.ofString "__doc__"), (.str (Str.ofString "__doc__") 166), .none⟩, ⟨PyData.keyHash P (Str.ofString "__package__"), (.str (Str.ofString "__package__") 167), .none⟩, ⟨PyData.keyHash P (Str.ofString "__loader__"), (.str (Str.ofString "__loader__") 168), (.builtin "__main__.__loader__#opaque")⟩, ⟨PyData.keyHash P (Str.ofString "__spec__"), (.str (Str.ofString "__spec__") 169), .none⟩, ⟨PyData.keyHash P (Str.ofString "__annotations__"), (.str (Str.ofString "__annotations__") 170), (.ref 6)⟩, ⟨PyData.keyHash P (Str.ofString "__builtins__"), (.str (Str.ofString "__builtins__") 171), (.ref 4)⟩, ⟨PyData.keyHash P (Str.ofString "__file__"), (.str (Str.ofString "__file__") 173), (.str (Str.ofString "/claim/cut.py") 172)⟩, ⟨PyData.keyHash P (Str.ofString "__cached__"), (.str (Str.ofString "__cached__") 174), .none⟩, ⟨PyData.keyHash P (Str.ofString "_sre"), (.str (Str.ofString "_sre") 275), (.ref 12)⟩, ⟨PyData.keyHash P (Str.ofString "_wall"), (.str (Str.ofString "_wall") 288), (.ref 38)⟩, ⟨PyData.keyHash P (Str.ofString "_quoted"), (.str (Str.ofString "_quoted") 334), (.ref 43)⟩, ⟨PyData.keyHash P (Str.ofString "_paren_depth"), (.str (Str.ofString "_paren_depth") 343), (.ref 51)⟩, ⟨PyData.keyHash P (Str.ofString "EMPTYSTRING"), (.str (Str.ofString "EMPTYSTRING") 347), (.str (Str.ofString "") 346)⟩, ⟨PyData.keyHash P (Str.ofString "_Accumulator"), (.str (Str.ofString "_Accumulator") 442), (.ref 131)⟩, ⟨PyData.keyHash P (Str.ofString "b1_set"), (.str (Str.ofString "b1_set") 504), (.ref 143)⟩] 16), #[]⟩
noncomputable def o136_p8 (P : Params) : Obj := ⟨(.type "list"), none, (.seq #[(.int (173) 445), (.int (847) 446), (.int (6150) 447), (.int (6155) 448), (.int (6156) 449), (.int (6157) 450), (.int (8203) 451), (.int (8204) 452), (.int (8205) 453), (.int (8288) 454), (.int (65279) 455)] 0), #[]⟩
noncomputable def o137_p8 (P : Params) : Obj := ⟨(.type "range"), none, (.fields #[(.int (65024) 456), (.int (65040) 457), (.int (1) 458)]), #[]⟩
noncomputable def o138_p8 (P : Params) : Obj := ⟨(.type "list"), none, (.seq #[(.int (65024) 461), (.int (65025) 462), (.int (65026) 463), (.int (65027) 464), (.int (65028) 465), (.int (65029) 466), (.int (65030) 467), (.int (65031) 468), (.int (65032) 469), (.int (65033) 470), (.int (65034) 471), (.int (65035) 472), (.int (65036) 473), (.int (65037) 474), (.int (65038) 475), (.int (65039) 476)] 18), #[]⟩
noncomputable def o139_p8 (P : Params) : Obj := ⟨(.type "range_iterator"), none, (.fields #[(.int (65040) 0), (.int (0) 0), (.int (1) 0)]), #[]⟩
noncomputable def o140_p8 (P : Params) : Obj := ⟨(.type "tuple"), none, (.seq #[] 0), #[]⟩
noncomputable def o141_p8 (P : Params) : Obj := ⟨(.type "StopIteration"), none, (.fields #[(.ref 140), .none, .none, .none, (.bool false), .none]), #[]⟩
noncomputable def o142_p8 (P : Params) : Obj := ⟨(.type "list"), none, (.seq #[(.int (173) 445), (.int (847) 446), (.int (6150) 447), (.int (6155) 448), (.int (6156) 449), (.int (6157) 450), (.int (8203) 451), (.int (8204) 452), (.int (8205) 453), (.int (8288) 454), (.int (65279) 455), (.int (65024) 461), (.int (65025) 462), (.int (65026) 463), (.int (65027) 464), (.int (65028) 465), (.int (65029) 466), (.int (65030) 467), (.int (65031) 468), (.int (65032) 469), (.int (65033) 470), (.int (65034) 471), (.int (65035) 472), (.int (65036) 473), (.int (65037) 474), (.int (65038) 475), (.int (65039) 476)] 0), #[]⟩
noncomputable def o143_p8 (P : Params) : Obj := ⟨(.type "set"), none, (.set #[(65024, (.int (65024) 461)), (65025, (.int (65025) 462)), (65026, (.int (65026) 463)), (65027, (.int (65027) 464)), (65028, (.int (65028) 465)), (65029, (.int (65029) 466)), (6150, (.int (6150) 447)), (65030, (.int (65030) 467)), (65031, (.int (65031) 468)), (65032, (.int (65032) 469)), (65033, (.int (65033) 470)), (6155, (.int (6155) 448)), (6156, (.int (6156) 449)), (6157, (.int (6157) 450)), (8203, (.int (8203) 451)), (8204, (.int (8204) 452)), (8205, (.int (8205) 453)), (65034, (.int (65034) 471)), (65035, (.int (65035) 472)), (65036, (.int (65036) 473)), (65037, (.int (65037) 474)), (65038, (.int (65038) 475)), (65039, (.int (65039) 476)), (173, (.int (173) 445)), (847, (.int (847) 446)), (8288, (.int (8288) 454)), (65279, (.int (65279) 455))] 29 { mask := 127, place := #[0, 1, 2, 3, 4, 5, 6, 7, 8, 9, 10, 11, 12, 13, 14, 15, 16, 17, 18, 19, 20, 21, 22, 45, 79, 96, 127], dummies := #[], finger := 0, led := !P.followText "set-order", moves := 2, plain := true }), #[]⟩
noncomputable def o144_p8 (P : Params) : Obj := ⟨(.type "list_iterator"), none, (.fields #[.none, (.int (27) 0)]), #[]⟩
noncomputable def o145_p8 (P : Params) : Obj := ⟨(.type "tuple"), none, (.seq #[] 0), #[]⟩
noncomputable def o146_p8 (P : Params) : Obj := ⟨(.type "StopIteration"), none, (.fields #[(.ref 145), .none, .none, .none, (.bool false), .none]), #[]⟩
noncomputable def o3_p9 (P : Params) : Obj := ⟨(.type "dict"), none, (.dict #[⟨PyData.keyHash P (Str.ofString "__name__"), (.str (Str.ofString "__name__") 165), (.str (Str.ofString "cpy313.stringprep") 443)⟩, ⟨PyData.keyHash P (Str.ofString "__doc__"), (.str (Str.ofString "__doc__") 166), .none⟩, ⟨PyData.keyHash P (Str.ofString "__package__"), (.str (Str.ofString "__package__") 167), .none⟩, ⟨PyData.keyHash P (Str.ofString "__loader__"), (.str (Str.ofString "__loader__") 168), (.builtin "__main__.__loader__#opaque")⟩, ⟨PyData.keyHash P (Str.ofString "__spec__"), (.str (Str.ofString "__spec__") 169), .none⟩, ⟨PyData.keyHash P (Str.ofString "__annotations__"), (.str (Str.ofString "__annotations__") 170), (.ref 6)⟩, ⟨PyData.keyHash P (Str.ofString "__builtins__"), (.str (Str.ofString "__builtins__") 171), (.ref 4)⟩, ⟨PyData.keyHash P (Str.ofString "__file__"), (.str (Str.ofString "__file__") 173), (.str (Str.ofString "/claim/cut.py") 172)⟩, ⟨PyData.keyHash P (Str.ofString "__cached__"), (.str (Str.ofString "__cached__") 174), .none⟩, ⟨PyData.keyHash P (Str.ofString "_sre"), (.str (Str.ofString "_sre") 275), (.ref 12)⟩, ⟨PyData.keyHash P (Str.ofString "_wall"), (.str (Str.ofString "_wall") 288), (.ref 38)⟩, ⟨PyData.keyHash P (Str.ofString "_quoted"), (.str (Str.ofString "_quoted") 334), (.ref 43)⟩, ⟨PyData.keyHash P (Str.ofString "_paren_depth"), (.str (Str.ofString "_paren_depth") 343), (.ref 51)⟩, ⟨PyData.keyHash P (Str.ofString "EMPTYSTRING"), (.str (Str.ofString "EMPTYSTRING") 347), (.str (Str.ofString "") 346)⟩, ⟨PyData.keyHash P (Str.ofString "_Accumulator"), (.str (Str.ofString "_Accumulator") 442), (.ref 131)⟩, ⟨PyData.keyHash P (Str.ofString "b1_set"), (.str (Str.ofString "b1_set") 504), (.ref 143)⟩, ⟨PyData.keyHash P (Str.ofString "in_table_b1"), (.str (Str.ofString "in_table_b1") 511), (.ref 153)⟩] 17), #[]⟩
noncomputable def o29_p9 (P : Params) : Obj := ⟨.none, none, (.fields #[(.int (2) 0), (.int (0) 0), (.ref 37), (.int (7) 0), (.int (0) 0), (.ref 50), (.int (12) 0), (.int (0) 0), (.ref 58), (.int (45) 0), (.int (0) 0), (.ref 152)]), #[]⟩
noncomputable def o147_p9 (P : Params) : Obj := ⟨(.type "tuple"), none, (.seq #[] 0), #[]⟩
noncomputable def o148_p9 (P : Params) : Obj := ⟨.none, none, (.fields #[]), #[]⟩
noncomputable def o149_p9 (P : Params) : Obj := ⟨(.type "tuple"), none, (.seq #[(.str (Str.ofString "code") 508)] 0), #[]⟩
noncomputable def o150_p9 (P : Params) : Obj := ⟨(.type "tuple"), none, (.seq #[] 0), #[]⟩
noncomputable def o151_p9 (P : Params) : Obj := ⟨.none, none, (fnData (stAt 10) fun a b sc => { params := a, body := .stmts b, scope := sc, name := (Str.ofString "in_table_b1"), qualname := (Str.ofString "in_table_b1"), globals := 0, closure := [], defaults := .none, kwdefaults := .none, doc := .none, pyModule := .none, annotations := none, code := .none, closureTuple := .none, builtins := 0 }), #[]⟩
noncomputable def o152_p9 (P : Params) : Obj := ⟨(.type "code"), none, (.fields #[(.str (Str.ofString "in_table_b1") 505), (.str (Str.ofString "in_table_b1") 506), (.str (Str.ofString "/claim/cut.py") 507), (.int (45) 0), (.int (1) 0), (.int (0) 0), (.int (0) 0), (.int (3) 0), (.ref 147), (.bool true), (.int (276) 0), (.ref 148), .none, (.ref 149), (.ref 150), (.ref 151), (.int (509) 0), (.int (45) 0), (.str (Str.ofString "/claim/cut.py") 510)]), #[]⟩
noncomputable def o153_p9 (P : Params) : Obj := ⟨(.type "function"), none, (fnData (stAt 10) fun a b sc => { params := a, body := .stmts b, scope := sc, name := (Str.ofString "in_table_b1"), qualname := (Str.ofString "in_table_b1"), globals := 3, closure := [], defaults := .none, kwdefaults := .none, doc := .none, pyModule := (.str (Str.ofString "cpy313.stringprep") 443), annotations := none, code := (.ref 152), closureTuple := .none, builtins := 0 }), #[]⟩
noncomputable def o3_p10 (P : Params) : Obj := ⟨(.type "dict"), none, (.dict #[⟨PyData.keyHash P (Str.ofString "__name__"), (.str (Str.ofString "__name__") 165), (.str (Str.ofString "cpy313.stringprep") 443)⟩, ⟨PyData.keyHash P (Str.ofString "__doc__"), (.str (Str.ofString "__doc__") 166), .none⟩, ⟨PyData.keyHash P (Str.ofString "__package__"), (.str (Str.ofString "__package__") 167), .none⟩, ⟨PyData.keyHash P (Str.ofString "__loader__"), (.str (Str.ofString "__loader__") 168), (.builtin "__main__.__loader__#opaque")⟩, ⟨PyData.keyHash P (Str.ofString "__spec__"), (.str (Str.ofString "__spec__") 169), .none⟩, ⟨PyData.keyHash P (Str.ofString "__annotations__"), (.str (Str.ofString "__annotations__") 170), (.ref 6)⟩, ⟨PyData.keyHash P (Str.ofString "__builtins__"), (.str (Str.ofString "__builtins__") 171), (.ref 4)⟩, ⟨PyData.keyHash P (Str.ofString "__file__"), (.str (Str.ofString "__file__") 173), (.str (Str.ofString "/claim/cut.py") 172)⟩, ⟨PyData.keyHash P (Str.ofString "__cached__"), (.str (Str.ofString "__cached__") 174), .none⟩, ⟨PyData.keyHash P (Str.ofString "_sre"), (.str (Str.ofString "_sre") 275), (.ref 12)⟩, ⟨PyData.keyHash P (Str.ofString "_wall"), (.str (Str.ofString "_wall") 288), (.ref 38)⟩, ⟨PyData.keyHash P (Str.ofString "_quoted"), (.str (Str.ofString "_quoted") 334), (.ref 43)⟩, ⟨PyData.keyHash P (Str.ofString "_paren_depth"), (.str (Str.ofString "_paren_depth") 343), (.ref 51)⟩, ⟨PyData.keyHash P (Str.ofString "EMPTYSTRING"), (.str (Str.ofString "EMPTYSTRING") 347), (.str (Str.ofString "") 346)⟩, ⟨PyData.keyHash P (Str.ofString "_Accumulator"), (.str (Str.ofString "_Accumulator") 442), (.ref 131)⟩, ⟨PyData.keyHash P (Str.ofString "b1_set"), (.str (Str.ofString "b1_set") 504), (.ref 143)⟩, ⟨PyData.keyHash P (Str.ofString "in_table_b1"), (.str (Str.ofString "in_table_b1") 511), (.ref 153)⟩, ⟨PyData.keyHash P (Str.ofString "b3_exceptions"), (.str (Str.ofString "b3_exceptions") 2462), (.ref 154)⟩] 18), #[]⟩
noncomputable def o193_p11 (P : Params) : Obj := ⟨(.type "tuple"), none, (.seq #[] 0), #[]⟩
noncomputable def o194_p11 (P : Params) : Obj := ⟨.none, none, (.fields #[]), #[]⟩
noncomputable def o195_p11 (P : Params) : Obj := ⟨(.type "tuple"), none, (.seq #[(.str (Str.ofString "code") 2466), (.str (Str.ofString "r") 2467)] 0), #[]⟩
noncomputable def o196_p11 (P : Params) : Obj := ⟨(.type "tuple"), none, (.seq #[] 0), #[]⟩
noncomputable def o197_p11 (P : Params) : Obj := ⟨.none, none, (fnData (stAt 12) fun a b sc => { params := a, body := .stmts b, scope := sc, name := (Str.ofString "map_table_b3"), qualname := (Str.ofString "map_table_b3"), globals := 0, closure := [], defaults := .none, kwdefaults := .none, doc := .none, pyModule := .none, annotations := none, code := .none, closureTuple := .none, builtins := 0 }), #[]⟩
noncomputable def o198_p11 (P : Params) : Obj := ⟨(.type "code"), none, (.fields #[(.str (Str.ofString "map_table_b3") 2463), (.str (Str.ofString "map_table_b3") 2464), (.str (Str.ofString "/claim/cut.py") 2465), (.int (48) 0), (.int (1) 0), (.int (0) 0), (.int (0) 0), (.int (3) 0), (.ref 193), (.bool true), (.int (276) 0), (.ref 194), .none, (.ref 195), (.ref 196), (.ref 197), (.int (2468) 0), (.int (48) 0), (.str (Str.ofString "/claim/cut.py") 2469)]), #[]⟩
noncomputable def o199_p11 (P : Params) : Obj := ⟨(.type "function"), none, (fnData (stAt 12) fun a b sc => { params := a, body := .stmts b, scope := sc, name := (Str.ofString "map_table_b3"), qualname := (Str.ofString "map_table_b3"), globals := 3, closure := [], defaults := .none, kwdefaults := .none, doc := .none, pyModule := (.str (Str.ofString "cpy313.stringprep") 443), annotations := none, code := (.ref 198), closureTuple := .none, builtins := 0 }), #[]⟩
noncomputable def o200_p13 (P : Params) : Obj := ⟨(.type "tuple"), none, (.seq #[] 0), #[]⟩
noncomputable def o201_p13 (P : Params) : Obj := ⟨.none, none, (.fields #[]), #[]⟩
noncomputable def o202_p13 (P : Params) : Obj := ⟨(.type "tuple"), none, (.seq #[(.str (Str.ofString "script") 2476), (.str (Str.ofString "depths") 2477), (.str (Str.ofString "greats") 2478), (.str (Str.ofString "spelled") 2479), (.str (Str.ofString "still") 2480), (.str (Str.ofString "x") 2481), (.str (Str.ofString "drawn") 2482), (.str (Str.ofString "depth") 2483), (.str (Str.ofString "great") 2484)] 0), #[]⟩
noncomputable def o203_p13 (P : Params) : Obj := ⟨(.type "tuple"), none, (.seq #[] 0), #[]⟩
noncomputable def o204_p13 (P : Params) : Obj := ⟨.none, none, (fnData (stAt 14) fun a b sc => { params := a, body := .stmts b, scope := sc, name := (Str.ofString "_law_nest"), qualname := (Str.ofString "_law_nest"), globals := 0, closure := [], defaults := .none, kwdefaults := .none, doc := .none, pyModule := .none, annotations := none, code := .none, closureTuple := .none, builtins := 0 }), #[]⟩
noncomputable def o205_p13 (P : Params) : Obj := ⟨(.type "code"), none, (.fields #[(.str (Str.ofString "_law_nest") 2473), (.str (Str.ofString "_law_nest") 2474), (.str (Str.ofString "/claim/cut.py") 2475), (.int (54) 0), (.int (1) 0), (.int (0) 0), (.int (0) 0), (.int (3) 0), (.ref 200), (.bool true), (.int (276) 0), (.ref 201), .none, (.ref 202), (.ref 203), (.ref 204), (.int (2485) 0), (.int (54) 0), (.str (Str.ofString "/claim/cut.py") 2486)]), #[]⟩
noncomputable def o206_p13 (P : Params) : Obj := ⟨(.type "function"), none, (fnData (stAt 14) fun a b sc => { params := a, body := .stmts b, scope := sc, name := (Str.ofString "_law_nest"), qualname := (Str.ofString "_law_nest"), globals := 3, closure := [], defaults := .none, kwdefaults := .none, doc := .none, pyModule := (.str (Str.ofString "law_xn0015_01") 2471), annotations := none, code := (.ref 205), closureTuple := .none, builtins := 0 }), #[]⟩
noncomputable def o207_p14 (P : Params) : Obj := ⟨(.type "tuple"), none, (.seq #[] 0), #[]⟩
noncomputable def o208_p14 (P : Params) : Obj := ⟨.none, none, (.fields #[]), #[]⟩
noncomputable def o209_p14 (P : Params) : Obj := ⟨(.type "tuple"), none, (.seq #[(.str (Str.ofString "depths") 2491), (.str (Str.ofString "greats") 2492), (.str (Str.ofString "due") 2493), (.str (Str.ofString "level") 2494), (.str (Str.ofString "told") 2495), (.str (Str.ofString "k") 2496)] 0), #[]⟩
noncomputable def o210_p14 (P : Params) : Obj := ⟨(.type "tuple"), none, (.seq #[] 0), #[]⟩
noncomputable def o211_p14 (P : Params) : Obj := ⟨.none, none, (fnData (stAt 15) fun a b sc => { params := a, body := .stmts b, scope := sc, name := (Str.ofString "_law_due"), qualname := (Str.ofString "_law_due"), globals := 0, closure := [], defaults := .none, kwdefaults := .none, doc := .none, pyModule := .none, annotations := none, code := .none, closureTuple := .none, builtins := 0 }), #[]⟩
noncomputable def o212_p14 (P : Params) : Obj := ⟨(.type "code"), none, (.fields #[(.str (Str.ofString "_law_due") 2488), (.str (Str.ofString "_law_due") 2489), (.str (Str.ofString "/claim/cut.py") 2490), (.int (70) 0), (.int (2) 0), (.int (0) 0), (.int (0) 0), (.int (3) 0), (.ref 207), (.bool true), (.int (276) 0), (.ref 208), .none, (.ref 209), (.ref 210), (.ref 211), (.int (2497) 0), (.int (70) 0), (.str (Str.ofString "/claim/cut.py") 2498)]), #[]⟩
noncomputable def o213_p14 (P : Params) : Obj := ⟨(.type "function"), none, (fnData (stAt 15) fun a b sc => { params := a, body := .stmts b, scope := sc, name := (Str.ofString "_law_due"), qualname := (Str.ofString "_law_due"), globals := 3, closure := [], defaults := .none, kwdefaults := .none, doc := .none, pyModule := (.str (Str.ofString "law_xn0015_01") 2471), annotations := none, code := (.ref 212), closureTuple := .none, builtins := 0 }), #[]⟩
noncomputable def o3_p15 (P : Params) : Obj := ⟨(.type "dict"), none, (.dict #[⟨PyData.keyHash P (Str.ofString "__name__"), (.str (Str.ofString "__name__") 165), (.str (Str.ofString "law_xn0015_01") 2471)⟩, ⟨PyData.keyHash P (Str.ofString "__doc__"), (.str (Str.ofString "__doc__") 166), .none⟩, ⟨PyData.keyHash P (Str.ofString "__package__"), (.str (Str.ofString "__package__") 167), .none⟩, ⟨PyData.keyHash P (Str.ofString "__loader__"), (.str (Str.ofString "__loader__") 168), (.builtin "__main__.__loader__#opaque")⟩, ⟨PyData.keyHash P (Str.ofString "__spec__"), (.str (Str.ofString "__spec__") 169), .none⟩, ⟨PyData.keyHash P (Str.ofString "__annotations__"), (.str (Str.ofString "__annotations__") 170), (.ref 6)⟩, ⟨PyData.keyHash P (Str.ofString "__builtins__"), (.str (Str.ofString "__builtins__") 171), (.ref 4)⟩, ⟨PyData.keyHash P (Str.ofString "__file__"), (.str (Str.ofString "__file__") 173), (.str (Str.ofString "/claim/cut.py") 172)⟩, ⟨PyData.keyHash P (Str.ofString "__cached__"), (.str (Str.ofString "__cached__") 174), .none⟩, ⟨PyData.keyHash P (Str.ofString "_sre"), (.str (Str.ofString "_sre") 275), (.ref 12)⟩, ⟨PyData.keyHash P (Str.ofString "_wall"), (.str (Str.ofString "_wall") 288), (.ref 38)⟩, ⟨PyData.keyHash P (Str.ofString "_quoted"), (.str (Str.ofString "_quoted") 334), (.ref 43)⟩, ⟨PyData.keyHash P (Str.ofString "_paren_depth"), (.str (Str.ofString "_paren_depth") 343), (.ref 51)⟩, ⟨PyData.keyHash P (Str.ofString "EMPTYSTRING"), (.str (Str.ofString "EMPTYSTRING") 347), (.str (Str.ofString "") 346)⟩, ⟨PyData.keyHash P (Str.ofString "_Accumulator"), (.str (Str.ofString "_Accumulator") 442), (.ref 131)⟩, ⟨PyData.keyHash P (Str.ofString "b1_set"), (.str (Str.ofString "b1_set") 504), (.ref 143)⟩, ⟨PyData.keyHash P (Str.ofString "in_table_b1"), (.str (Str.ofString "in_table_b1") 511), (.ref 153)⟩, ⟨PyData.keyHash P (Str.ofString "b3_exceptions"), (.str (Str.ofString "b3_exceptions") 2462), (.ref 154)⟩, ⟨PyData.keyHash P (Str.ofString "map_table_b3"), (.str (Str.ofString "map_table_b3") 2470), (.ref 199)⟩, ⟨PyData.keyHash P (Str.ofString "_law_nest"), (.str (Str.ofString "_law_nest") 2487), (.ref 206)⟩, ⟨PyData.keyHash P (Str.ofString "_law_due"), (.str (Str.ofString "_law_due") 2499), (.ref 213)⟩, ⟨PyData.keyHash P (Str.ofString "law"), (.str (Str.ofString "law") 2505), (.ref 218)⟩] 22), #[]⟩
noncomputable def o29_p15 (P : Params) : Obj := ⟨.none, none, (.fields #[(.int (2) 0), (.int (0) 0), (.ref 37), (.int (7) 0), (.int (0) 0), (.ref 50), (.int (12) 0), (.int (0) 0), (.ref 58), (.int (45) 0), (.int (0) 0), (.ref 152), (.int (48) 0), (.int (0) 0), (.ref 198), (.int (54) 0), (.int (0) 0), (.ref 205), (.int (70) 0), (.int (0) 0), (.ref 212), (.int (81) 0), (.int (0) 0), (.ref 217)]), #[]⟩
noncomputable def o214_p15 (P : Params) : Obj := ⟨(.type "tuple"), none, (.seq #[] 0), #[]⟩
noncomputable def o215_p15 (P : Params) : Obj := ⟨.none, none, (.fields #[]), #[]⟩
noncomputable def o216_p15 (P : Params) : Obj := ⟨.none, none, (fnData (stAt 16) fun a b sc => { params := a, body := .stmts b, scope := sc, name := (Str.ofString "law"), qualname := (Str.ofString "law"), globals := 0, closure := [], defaults := .none, kwdefaults := .none, doc := .none, pyModule := .none, annotations := none, code := .none, closureTuple := .none, builtins := 0 }), #[]⟩
noncomputable def o217_p15 (P : Params) : Obj := ⟨(.type "code"), none, (.fields #[(.str (Str.ofString "law") 2500), (.str (Str.ofString "law") 2501), (.str (Str.ofString "/claim/cut.py") 2502), (.int (81) 0), (.int (1) 0), (.int (0) 0), (.int (0) 0), (.int (3) 0), (.ref 214), (.bool true), (.int (276) 0), (.ref 215), .none, .none, .none, (.ref 216), (.int (2503) 0), (.int (81) 0), (.str (Str.ofString "/claim/cut.py") 2504)]), #[]⟩
noncomputable def o218_p15 (P : Params) : Obj := ⟨(.type "function"), none, (fnData (stAt 16) fun a b sc => { params := a, body := .stmts b, scope := sc, name := (Str.ofString "law"), qualname := (Str.ofString "law"), globals := 3, closure := [], defaults := .none, kwdefaults := .none, doc := .none, pyModule := (.str (Str.ofString "law_xn0015_01") 2471), annotations := none, code := (.ref 217), closureTuple := .none, builtins := 0 }), #[]⟩
/-- the heap behind the top, but for the table b3_exceptions and what was made for it -/
noncomputable def kTop (P : Params) : Frag := [(0, o0_s0 P), (1, o1_s0 P), (2, o2_s0 P), (3, o3_p15 P), (4, o4_s0 P), (5, o5_s0 P), (6, o6_s0 P), (7, o7_s0 P), (8, o8_s0 P), (9, o9_s0 P), (10, o10_s0 P), (11, o11_s0 P), (12, o12_s0 P), (13, o13_s0 P), (14, o14_s0 P), (15, o15_s0 P), (16, o16_s0 P), (17, o17_s0 P), (18, o18_s0 P), (19, o19_s0 P), (20, o20_s0 P), (21, o21_s0 P), (22, o22_s0 P), (23, o23_s0 P), (24, o24_s0 P), (25, o25_s0 P), (26, o26_s0 P), (27, o27_s0 P), (28, o28_pre P), (29, o29_p15 P), (30, o30_pre P), (31, o31_pre P), (32, o32_p0 P), (33, o33_p0 P), (34, o34_p0 P), (35, o35_p0 P), (36, o36_p0 P), (37, o37_p0 P), (38, o38_p0 P), (39, o39_p2 P), (40, o40_p2 P), (41, o41_p2 P), (42, o42_p2 P), (43, o43_p2 P), (44, o44_p3 P), (45, o45_p3 P), (46, o46_p3 P), (47, o47_p3 P), (48, o48_p3 P), (49, o49_p3 P), (50, o50_p3 P), (51, o51_p3 P), (52, o52_p6 P), (53, o53_p6 P), (54, o54_p6 P), (55, o55_p6 P), (56, o56_p6 P), (57, o57_p6 P), (58, o58_p6 P), (59, o59_p6 P), (60, o60_p6 P), (61, o61_p6 P), (62, o62_p6 P), (63, o63_p6 P), (64, o64_p6 P), (65, o65_p6 P), (66, o66_p6 P), (67, o67_p6 P), (68, o68_p6 P), (69, o69_p6 P), (70, o70_p6 P), (71, o71_p6 P), (72, o72_p6 P), (73, o73_p6 P), (74, o74_p6 P), (75, o75_p6 P), (76, o76_p6 P), (77, o77_p6 P), (78, o78_p6 P), (79, o79_p6 P), (80, o80_p6 P), (81, o81_p6 P), (82, o82_p6 P), (83, o83_p6 P), (84, o84_p6 P), (85, o85_p6 P), (86, o86_p6 P), (87, o87_p6 P), (88, o88_p6 P), (89, o89_p6 P), (90, o90_p6 P), (91, o91_p6 P), (92, o92_p6 P), (93, o93_p6 P), (94, o94_p6 P), (95, o95_p6 P), (96, o96_p6 P), (97, o97_p6 P), (98, o98_p6 P), (99, o99_p6 P), (101, o101_p6 P), (102, o102_p6 P), (103, o103_p6 P), (104, o104_p6 P), (105, o105_p6 P), (106, o106_p6 P), (107, o107_p6 P), (108, o108_p6 P), (109, o109_p6 P), (110, o110_p6 P), (111, o111_p6 P), (112, o112_p6 P), (113, o113_p6 P), (114, o114_p6 P), (115, o115_p6 P), (116, o116_p6 P), (117, o117_p6 P), (118, o118_p6 P), (119, o119_p6 P), (120, o120_p6 P), (121, o121_p6 P), (122, o122_p6 P), (123, o123_p6 P), (124, o124_p6 P), (125, o125_p6 P), (126, o126_p6 P), (127, o127_p6 P), (128, o128_p6 P), (129, o129_p6 P), (130, o130_p6 P), (131, o131_p6 P), (132, o132_p6 P), (133, o133_p6 P), (134, o134_p6 P), (135, o135_p6 P), (136, o136_p8 P), (137, o137_p8 P), (138, o138_p8 P), (139, o139_p8 P), (140, o140_p8 P), (141, o141_p8 P), (142, o142_p8 P), (143, o143_p8 P), (144, o144_p8 P), (145, o145_p8 P), (146, o146_p8 P), (147, o147_p9 P), (148, o148_p9 P), (149, o149_p9 P), (150, o150_p9 P), (151, o151_p9 P), (152, o152_p9 P), (153, o153_p9 P), (193, o193_p11 P), (194, o194_p11 P), (195, o195_p11 P), (196, o196_p11 P), (197, o197_p11 P), (198, o198_p11 P), (199, o199_p11 P), (200, o200_p13 P), (201, o201_p13 P), (202, o202_p13 P), (203, o203_p13 P), (204, o204_p13 P), (205, o205_p13 P), (206, o206_p13 P), (207, o207_p14 P), (208, o208_p14 P), (209, o209_p14 P), (210, o210_p14 P), (211, o211_p14 P), (212, o212_p14 P), (213, o213_p14 P), (214, o214_p15 P), (215, o215_p15 P), (216, o216_p15 P), (217, o217_p15 P), (218, o218_p15 P)]
end XnKText
theorem rstXnBase (M : PySem.Model) (A : PySem.Around) (env : PySem.Env) (s : PySem.Shared) : True := by
  first
  | (have h : PySem.wpAny M A (PySem.eval (.Constant .none 0 ⟨0, 0, 0, 0⟩) env) (fun _ _ => True) (fun _ _ => True) s := by (walk1; fail)
     trivial)
  | (w_top off
     trivial)
section XnBaseText
open PySem PySem.W PySem.W.X PyProof.Rows
set_option maxRecDepth 100000
set_option maxHeartbeats 4000000

/-! ### the surroundings of a call -/
structure Ar (A : Around) (n : Nat) : Prop where
  handled : A.handled = none
  depth : A.depth + n ≤ 700
  units : A.units + 20 * n ≤ 4000
  frames : ∃ l, A.frames = some l
theorem Ar.room {A : Around} {n : Nat} (h : Ar A n) : A.depth < recursionLimit := by
  have := h.depth; show A.depth < 1000; omega
theorem Ar.croom {A : Around} {n : Nat} (h : Ar A n) : A.units < cLine := by
  have := h.units; show A.units < 9900; omega
theorem Ar.deeper {A : Around} {n : Nat} (h : Ar A (n + 1)) (env : Env) : Ar (A.deeper env) n :=
  ⟨h.handled, by have := h.depth; show A.depth + 1 + n ≤ 700; omega, by have := h.units; show A.units + 3 + 20 * n ≤ 4000; omega,
   let ⟨l, hl⟩ := h.frames; ⟨env :: l, by show A.frames.map (env :: ·) = _; rw [hl]; rfl⟩⟩
theorem Ar.in1 {A : Around} {n : Nat} (h : Ar A (n + 1)) : Ar A.in1 n :=
  ⟨h.handled, by have := h.depth; show A.depth + n ≤ 700; omega, by have := h.units; show A.units + 1 + 20 * n ≤ 4000; omega, h.frames⟩
theorem Ar.le {A : Around} {n m : Nat} (h : Ar A n) (hm : m ≤ n) : Ar A m :=
  ⟨h.handled, by have := h.depth; omega, by have := h.units; omega, h.frames⟩
theorem ar_caller (n : Nat) (hn : n ≤ 100) : Ar callerA n := ⟨rfl, by show 301 + n ≤ 700; omega, by show 4 + 20 * n ≤ 4000; omega, [], rfl⟩

/-- the wide surroundings at which the kernel runs a call -/
noncomputable def AB (l : List Env) : Around := { depth := 700, units := 4000, frames := some l }
theorem widen {α : Type} {M : Model} {A : Around} {n : Nat} {t : Sem α} {Q : α → Shared → Prop} {E : Value → Shared → Prop} {s : Shared} (hA : Ar A n)
    (h : ∀ l, wpAny M (AB l) t Q E s) : wpAny M A t Q E s := fun Γ p hΓ => by
  obtain ⟨l, hl⟩ := hA.frames
  refine h l Γ p ⟨hΓ.1.trans hA.handled, Nat.le_trans hΓ.2.1 (by have := hA.depth; show A.depth ≤ 700; omega), fun l' hl' => ?_, fun g hg => (nomatch hg), Nat.le_trans hΓ.2.2.2.2 (by have := hA.units; show A.units ≤ 4000; omega)⟩
  cases hl'
  exact hΓ.2.2.1 l hl

/-! ### what a step keeps -/
/-- nothing that stood is changed -/
structure St (s s' : Shared) : Prop where
  keep : ∀ b o, s.heap.get? b = some o → s'.heap.get? b = some o
  gens : s'.gens = s.gens
  drawn : s'.drawn = s.drawn
  os : s'.os = s.os
theorem St.refl (s : Shared) : St s s := ⟨fun _ _ e => e, rfl, rfl, rfl⟩
theorem St.trans {a b c : Shared} (x : St a b) (y : St b c) : St a c := ⟨fun b o e => y.keep b o (x.keep b o e), y.gens.trans x.gens, y.drawn.trans x.drawn, y.os.trans x.os⟩
theorem keepAll {h₀ h : Heap} {news : List (Addr × Obj)} (D : Mem h₀ h [] news) (b : Addr) (o : Obj) (e : h₀.get? b = some o) : h.get? b = some o :=
  D.keep b o e (by simp [away])

/-! ### the top's objects -/
noncomputable def b3ok (es : Array DictEntry) : Prop := ∃ ts : List (Nat × Nat), ts.length = b3pairs.length ∧ es.toList = (b3pairs.zip ts).map fun x => ⟨x.1.1, .int x.1.1 x.2.1, .str x.1.2 x.2.2⟩
structure Wd (w : World) (h : Heap) : Prop where
  K : (kTop w.params).In h
  D : ∃ es n, h.get? 154 = some ⟨.type "dict", none, .dict es n, #[]⟩ ∧ b3ok es
  C : ∃ ps, h.IsCode 104 100 ps
theorem Wd.keeps {w : World} {h h' : Heap} (x : Wd w h) (k : ∀ b o, h.get? b = some o → h'.get? b = some o) : Wd w h' :=
  ⟨x.K.keeps k, let ⟨es, n, e, r⟩ := x.D; ⟨es, n, k _ _ e, r⟩, let ⟨ps, r⟩ := x.C; ⟨ps, r.keeps k⟩⟩
theorem Wd.at {w : World} {h : Heap} (x : Wd w h) (a : Addr) (o : Obj) (e : (kTop w.params).lookup a = some o) : h.get? a = some o := x.K a o e

noncomputable def esOf (o : Obj) : Array DictEntry := match o.data with | .dict es _ => es | _ => #[]
noncomputable def globE (w : World) : Array DictEntry := esOf (o3_p15 w.params)
noncomputable def mgOf (w : World) (x : Str) : Option Value := nsFind (globE w) x
noncomputable def mbOf (w : World) (x : Str) : Option Value := nsFind (esOf (o0_s0 w.params)) x
noncomputable def mcOf (w : World) (x : Str) : Option Value := nsFind (esOf (o2_s0 w.params)) x
theorem strKeys_of {es : Array DictEntry} (h : es.toList.all (fun e => match e.key with | .str _ _ => true | _ => false) = true) : StrKeys es := fun e he => by
  have q := List.all_eq_true.mp h e (Array.mem_toList_iff.mpr he)
  cases hk : e.key with
  | str n t => exact ⟨n, t, rfl⟩
  | _ => rw [hk] at q; cases q
theorem Wd.g {w : World} {h : Heap} (x : Wd w h) : h.Ns mainGlobals (mgOf w) :=
  ⟨o3_p15 w.params, _, _, x.at 3 _ rfl, rfl, strKeys_of (by rfl), fun _ => rfl⟩
theorem Wd.b {w : World} {h : Heap} (x : Wd w h) : h.Ns builtinsNs (mbOf w) :=
  ⟨o0_s0 w.params, _, _, x.at 0 _ rfl, rfl, strKeys_of (by rfl), fun _ => rfl⟩
theorem Wd.c {w : World} {h : Heap} (x : Wd w h) : h.Ns cStatics (mcOf w) :=
  ⟨o2_s0 w.params, _, _, x.at 2 _ rfl, rfl, strKeys_of (by rfl), fun _ => rfl⟩
theorem Wd.nolimit {w : World} {h : Heap} (x : Wd w h) : h.NoLimit := ⟨_, x.c, by rfl⟩
theorem Wd.code {w : World} {h : Heap} (x : Wd w h) (c : Addr) (o : Obj) (vs : Array Value) (q : Str) (t : Tok) (e : (kTop w.params).lookup c = some o) (d : o.data = .fields vs) (k : vs[1]? = some (.str q t)) : h.CodeRec (.ref c) q :=
  ⟨c, o, vs, t, rfl, x.at c o e, d, k⟩

/-! ### names -/
section
variable {w : World} {A : Around} {E : Value → Shared → Prop} {s : Shared} {env : Env}
theorem nm_glob {x : Str} {pos : Pos} {v : Value} {Q : Value → Shared → Prop} (W : Wd w s.heap) (hv : mgOf w x = some v) (h : Q v s)
    (hk : env.scope.kind = .function := by rfl) (hx : env.kindOf x = some .globalImplicit := by rfl) (hg : env.globals = mainGlobals := by rfl) (hd : (x == ("__debug__" : Str)) = false := by decide) :
    wpAny (model pw w) A (eval (.Name x pos) env) Q E s :=
  Calls.Name_function_global hk hx (Calls.loadGlobal_global (hg ▸ W.g) hv h) hd
theorem nm_built {x : Str} {pos : Pos} {v : Value} {Q : Value → Shared → Prop} (W : Wd w s.heap) (hm : mgOf w x = none) (hv : mbOf w x = some v) (h : Q v s)
    (hk : env.scope.kind = .function := by rfl) (hx : env.kindOf x = some .globalImplicit := by rfl) (hg : env.globals = mainGlobals := by rfl) (hb : env.builtins = builtinsNs := by rfl) (hd : (x == ("__debug__" : Str)) = false := by decide) :
    wpAny (model pw w) A (eval (.Name x pos) env) Q E s :=
  Calls.Name_function_global hk hx (Calls.loadGlobal_builtin (hg ▸ W.g) hm (hb ▸ W.b) hv h) hd
end
noncomputable def gl : List (Str × Value) := [(Str.ofString "_paren_depth", .ref 51), (Str.ofString "_quoted", .ref 43), (Str.ofString "in_table_b1", .ref 153), (Str.ofString "map_table_b3", .ref 199), (Str.ofString "b1_set", .ref 143), (Str.ofString "b3_exceptions", .ref 154),
  (Str.ofString "_Accumulator", .ref 131), (Str.ofString "_law_nest", .ref 206), (Str.ofString "_law_due", .ref 213), (Str.ofString "law", .ref 218)]
noncomputable def bl : List (Str × Value) := [(Str.ofString "len", .builtin "len"), (Str.ofString "ord", .builtin "ord"), (Str.ofString "chr", .builtin "chr"), (Str.ofString "max", .builtin "max"), (Str.ofString "range", .type "range"), (Str.ofString "str", .type "str")]
theorem gl_all (w : World) : ∀ p ∈ gl, mgOf w p.1 = some p.2 := by
  intro p hp
  simp only [gl, List.mem_cons, List.not_mem_nil, or_false] at hp
  rcases hp with rfl | rfl | rfl | rfl | rfl | rfl | rfl | rfl | rfl | rfl <;> rfl
theorem bl_all (w : World) : ∀ p ∈ bl, mgOf w p.1 = none ∧ mbOf w p.1 = some p.2 := by
  intro p hp
  simp only [bl, List.mem_cons, List.not_mem_nil, or_false] at hp
  rcases hp with rfl | rfl | rfl | rfl | rfl | rfl <;> exact ⟨rfl, rfl⟩
theorem gl_of {w : World} {x : Str} {v : Value} (h : gl.lookup x = some v) : mgOf w x = some v := gl_all w (x, v) (mem_of_lookup h)
theorem bl_of {w : World} {x : Str} {v : Value} (h : bl.lookup x = some v) : mgOf w x = none ∧ mbOf w x = some v := bl_all w (x, v) (mem_of_lookup h)
section
variable {w : World} {A : Around} {E : Value → Shared → Prop} {s : Shared} {env : Env} {h₀ : Heap} {L : Addr} {m : Str → Option Value}
theorem nm_gl {x : Str} {pos : Pos} {v : Value} {Q : Value → Shared → Prop} (W : Wd w h₀) (F : Fr h₀ L s.heap m) (hv : gl.lookup x = some v) (h : Q v s)
    (hk : env.scope.kind = .function := by rfl) (hx : env.kindOf x = some .globalImplicit := by rfl) (hg : env.globals = mainGlobals := by rfl) (hd : (x == ("__debug__" : Str)) = false := by decide) :
    wpAny (model pw w) A (eval (.Name x pos) env) Q E s := nm_glob (W.keeps F.keep) (gl_of hv) h hk hx hg hd
theorem nm_bl {x : Str} {pos : Pos} {v : Value} {Q : Value → Shared → Prop} (W : Wd w h₀) (F : Fr h₀ L s.heap m) (hv : bl.lookup x = some v) (h : Q v s)
    (hk : env.scope.kind = .function := by rfl) (hx : env.kindOf x = some .globalImplicit := by rfl) (hg : env.globals = mainGlobals := by rfl) (hb : env.builtins = builtinsNs := by rfl) (hd : (x == ("__debug__" : Str)) = false := by decide) :
    wpAny (model pw w) A (eval (.Name x pos) env) Q E s := nm_built (W.keeps F.keep) (bl_of hv).1 (bl_of hv).2 h hk hx hg hb hd
theorem frSt {s s' : Shared} (F : Fr s.heap L s'.heap m) (g : s'.gens = s.gens) (d : s'.drawn = s.drawn) (o : s'.os = s.os) : St s s' := ⟨F.keep, g, d, o⟩
end
noncomputable def stArgs (st : Stmt) : Arguments := match st with | .FunctionDef _ a _ _ _ _ _ _ _ _ => a | _ => default
noncomputable def stBody (st : Stmt) : List Stmt := match st with | .FunctionDef _ _ b _ _ _ _ _ _ _ => b | _ => []
noncomputable def stScope (st : Stmt) : Scope := match st with | .FunctionDef _ _ _ _ _ _ sc _ _ _ => sc | _ => default
noncomputable def stName (st : Stmt) : Str := match st with | .FunctionDef n _ _ _ _ _ _ _ _ _ => n | _ => default
end XnBaseText
section WXnLeaf
open PySem PySem.W PySem.W.X PyProof.Rows
local macro_rules | `(tactic| walk) => `(tactic| ((repeat ((try dsimp only); first | ((with_reducible show wpAny _ _ _ _ _ _); walk1) | (with_reducible rw [if_pos rfl]) | (with_reducible rw [if_neg Bool.false_ne_true]))); (try dsimp only)))
theorem rstXnLeaf (M : PySem.Model) (A : PySem.Around) (env : PySem.Env) (s : PySem.Shared) : True := by
  first
  | (have h : PySem.wpAny M A (PySem.eval (.Constant .none 0 ⟨0, 0, 0, 0⟩) env) (fun _ _ => True) (fun _ _ => True) s := by (walk1; fail)
     trivial)
  | (w_top off
     trivial)
section GXnLeaf
open PySem PySem.W PySem.W.X PyProof.Rows
local macro_rules | `(tactic| walk_at "eval Name") => `(tactic| first | refine nm_gl (by assumption) (by assumption) (by rfl) ?_ | refine nm_bl (by assumption) (by assumption) (by rfl) ?_)
section XnLeafText
open PySem PySem.W PySem.W.X PyProof.Rows
set_option maxRecDepth 100000
set_option maxHeartbeats 4000000
set_option linter.all false

noncomputable def b1list : List Nat := [173, 847, 6150, 6155, 6156, 6157, 8203, 8204, 8205, 8288, 65279] ++ (List.range 16).map (· + 65024)
noncomputable def keyOf : Value → Option Int | .int k _ => some k | _ => none
theorem isInt_iff {c : Int} {v : Value} : Value.isInt c v = true ↔ keyOf v = some c := by
  cases v <;> simp [Value.isInt, keyOf]
theorem b1_mem (l : List (Int × Value)) (h1 : (l.all fun e => match keyOf e.2 with | some k => b1list.any fun n => decide ((n : Int) = k) | none => false) = true)
    (h2 : (b1list.all fun n => l.any fun e => decide (keyOf e.2 = some (n : Int))) = true) (c : Int) : (b1list.any fun k => decide ((k : Int) = c)) = true ↔ ∃ e ∈ l, Value.isInt c e.2 = true := by
  constructor
  · intro h
    obtain ⟨n, hn, e⟩ := List.any_eq_true.mp h
    obtain rfl : (n : Int) = c := of_decide_eq_true e
    obtain ⟨e, he, q⟩ := List.any_eq_true.mp (List.all_eq_true.mp h2 n hn)
    exact ⟨e, he, isInt_iff.mpr (of_decide_eq_true q)⟩
  · rintro ⟨e, he, q⟩
    have := List.all_eq_true.mp h1 e he
    rw [isInt_iff.mp q] at this
    exact this
theorem b1_set {w : World} {h : Heap} (W : Wd w h) : h.SetOf (intKind pw w) 143 (fun c => b1list.any fun k => decide ((k : Int) = c)) 27 := by
  refine ⟨o143_p8 w.params, _, _, _, W.at 143 _ rfl, ⟨rfl, rfl, rfl⟩, rfl, ?_, ?_, by decide, by rfl, rfl⟩
  · have h : ∀ l : List (Int × Value), (l.all fun e => match e.2 with | .int k _ => decide (e.1 = hashInt k) | _ => false) = true → ElemsOf (intKind pw w) l := fun l hl e he => by
      have q := List.all_eq_true.mp hl e he
      obtain ⟨hh, v⟩ := e
      cases v with
      | int k t => exact ⟨⟨k, by simp [intKind, Value.isInt], of_decide_eq_true q⟩, rfl⟩
      | _ => cases q
    exact h _ (by rfl)
  · exact b1_mem _ (by rfl) (by rfl)
theorem in_b1 {w : World} {A : Around} {E : Value → Shared → Prop} {s : Shared} {c : Nat} {t : Tok} {Q : Value → Shared → Prop} (W : Wd w s.heap) (hA : Ar A 5)
    (hQ : ∀ s', St s s' → Q (.bool (b1list.any fun k => decide ((k : Int) = (c : Int)))) s') : wpAny (model pw w) A (call (.ref 153) [.str ⟨#[c]⟩ t]) Q E s := by
  refine wpAny_call (call_pos_ret (name := stName (stAt 10)) (params := stArgs (stAt 10)) (body := stBody (stAt 10)) (scope := stScope (stAt 10)) hA.room (W.at 153 _ rfl) (by rfl) W.nolimit (W.code 152 _ _ _ _ rfl rfl rfl) (by rfl) (locs (by rfl)) (fun h₁ FF => ?_) (by rfl) (by rfl) (by rfl) (by decide))
  show wpAny _ _ (execs (_ :: _) _) _ _ _
  walk
  refine wpAny_inSet_of (intKind_is pw w c _) rfl (b1_set (W.keeps FF.keep)) ?_
  exact hQ _ (frSt FF rfl rfl rfl)


noncomputable def b3find (k : Int) : Option Str := (b3pairs.find? fun p => decide (p.1 = k)).map (·.2)
theorem b3_findBy {es : Array DictEntry} (h : b3ok es) (k : Int) : match b3find k with
    | some v => ∃ t, findBy Value.isInt es k = some (.str v t)
    | none => findBy Value.isInt es k = none := by
  obtain ⟨ts, hl, he⟩ := h
  obtain ⟨l⟩ := es
  dsimp only at he
  unfold findBy b3find
  rw [List.find?_toArray]
  rw [he]
  clear he
  generalize b3pairs = ps at hl
  induction ps generalizing ts with
  | nil => rfl
  | cons p r ih =>
    obtain ⟨k', v⟩ := p
    cases ts with
    | nil => cases hl
    | cons t ts =>
      obtain ⟨t1, t2⟩ := t
      simp only [List.zip_cons_cons, List.map_cons, List.find?_cons, Value.isInt]
      by_cases hk : k' = k
      · simp [hk]
      · simp only [hk, decide_false, beq_eq_false_iff_ne.mpr hk, Bool.false_eq_true, if_false]
        exact ih ts (by simpa using hl)
theorem b3_map {w : World} {h : Heap} (W : Wd w h) : ∃ f, h.MapOf (intKind pw w) 154 f ∧ ∀ k, match b3find k with | some v => ∃ t, f k = some (.str v t) | none => f k = none := by
  obtain ⟨es, n, e, ok⟩ := W.D
  refine ⟨findBy Value.isInt es, ⟨_, es, n, e, ⟨rfl, rfl, rfl⟩, rfl, ?_, fun _ => rfl⟩, b3_findBy ok⟩
  obtain ⟨ts, hl, he⟩ := ok
  intro x hx
  have hx' := Array.mem_toList_iff.mpr hx
  rw [he] at hx'
  obtain ⟨⟨⟨k, v⟩, t⟩, hm, rfl⟩ := List.mem_map.mp hx'
  refine ⟨k, by simp [intKind, Value.isInt], ?_⟩
  have hall : (b3pairs.all fun p => decide (p.1 = hashInt p.1)) = true := by decide +kernel
  exact of_decide_eq_true (List.all_eq_true.mp hall (k, v) (List.of_mem_zip hm).1)
theorem map_b3 {w : World} {A : Around} {E : Value → Shared → Prop} {s : Shared} {c : Nat} {t : Tok} {Q : Value → Shared → Prop} (W : Wd w s.heap) (hA : Ar A 5)
    (hQ : ∀ s' t, St s s' → Q (.str (match b3find c with | some v => v | none => Txt.lower ⟨#[c]⟩) t) s') : wpAny (model pw w) A (call (.ref 199) [.str ⟨#[c]⟩ t]) Q E s := by
  refine wpAny_call (call_pos_ret (name := stName (stAt 12)) (params := stArgs (stAt 12)) (body := stBody (stAt 12)) (scope := stScope (stAt 12)) hA.room (W.at 199 _ rfl) (by rfl) W.nolimit (W.code 198 _ _ _ _ rfl rfl rfl) (by rfl) (locs (by rfl)) (fun h₁ FF => ?_) (by rfl) (by rfl) (by rfl) (by decide))
  show wpAny _ _ (execs (_ :: _) _) _ _ _
  walk
  obtain ⟨f, hf, hv⟩ := b3_map (W.keeps FF.keep)
  refine getMethod_builtin hf.typeIs F.plainAttrs_dict F.slot_dict_get F.type_dict_get (fun b e => by cases e; exact let ⟨o, _, _, ho, hc, _⟩ := hf; ⟨o, ho, hc.2.1⟩) ?_
  dsimp only
  show wpAny _ _ (callWith _ _ _ [(false, eval _ _)] []) _ _ _
  refine wpAny_dict_get1 (knd := intKind pw w) rfl ?_
  walk
  refine ⟨(c : Int), f, intKind_is pw w c _, hf, ?_⟩
  specialize hv c
  revert hQ
  cases hb : b3find c with
  | some v =>
    rw [hb] at hv
    obtain ⟨t', ht⟩ := hv
    intro hQ
    rw [ht]
    dsimp only [Option.getD]
    walk
    refine hQ _ _ (frSt (by assumption) rfl rfl rfl)
  | none =>
    rw [hb] at hv
    intro hQ
    rw [hv]
    dsimp only [Option.getD]
    walk
    refine SCL.lower (by show (1 : Nat) ≤ _; omega) fun _ => ?_
    refine hQ _ _ (frSt (by assumption) rfl rfl rfl)
end XnLeafText
end GXnLeaf
theorem rstXnSre (M : PySem.Model) (A : PySem.Around) (env : PySem.Env) (s : PySem.Shared) : True := by
  first
  | (have h : PySem.wpAny M A (PySem.eval (.Constant .none 0 ⟨0, 0, 0, 0⟩) env) (fun _ _ => True) (fun _ _ => True) s := by (walk1; fail)
     trivial)
  | (w_top off
     trivial)
section XnSreText
open PySem PySem.W PySem.W.X PyProof.Rows
set_option maxRecDepth 100000
set_option maxHeartbeats 4000000
set_option linter.all false
open Sre

noncomputable def qcode : Array Nat := #[14, 8, 1, 2, 4294967295, 1, 1, 34, 0, 16, 34, 28, 22, 0, 4294967295, 7, 11, 13, 7, 21, 16, 34, 16, 92, 0, 15, 8, 6, 16, 92, 2, 15, 2, 0, 1, 16, 34, 1]

theorem runFor_zero (m : M) : M.runFor 0 m = m := rfl
theorem runFor_succ (n : Nat) (m : M) : M.runFor (n + 1) m = if m.outcome.isSome then m else M.runFor n m.step := rfl
theorem runFor_done {m : M} (h : m.outcome.isSome = true) : ∀ n, M.runFor n m = m
  | 0 => rfl
  | n + 1 => by rw [runFor_succ, h]; rfl
theorem runFor_add : ∀ (a b : Nat) (m : M), M.runFor (a + b) m = M.runFor b (M.runFor a m)
  | 0, b, m => by rw [Nat.zero_add]; rfl
  | a + 1, b, m => by
    rw [show a + 1 + b = (a + b) + 1 by omega, runFor_succ, runFor_succ]
    cases h : m.outcome.isSome with
    | true => simp only [if_true]; rw [runFor_done h]
    | false => simp only [Bool.false_eq_true, if_false]; exact runFor_add a b _

/-- m goes to m' in at most k steps -/
noncomputable def Goes (k : Nat) (m m' : M) : Prop := ∃ n, n ≤ k ∧ M.runFor n m = m'
theorem Goes.trans {a b : Nat} {x y z : M} (h : Goes a x y) (g : Goes b y z) : Goes (a + b) x z := by
  obtain ⟨n, hn, e⟩ := h
  obtain ⟨k, hk, e'⟩ := g
  exact ⟨n + k, by omega, by rw [runFor_add, e, e']⟩
theorem Goes.le {a b : Nat} {x y : M} (h : Goes a x y) (hab : a ≤ b) : Goes b x y := let ⟨n, hn, e⟩ := h; ⟨n, by omega, e⟩
theorem goes1 {m m' : M} (h0 : m.outcome = none) (h : m.step = m') : Goes 1 m m' := ⟨1, Nat.le_refl _, by
  rw [runFor_succ, h0]; simp only [Option.isSome_none, Bool.false_eq_true, if_false]; rw [h]; rfl⟩

/-- the machine at a start, the quote not yet read -/
noncomputable def atStart (text : Array Nat) (lim s : Nat) (first : Bool) (seen : Sre.Seen) : M :=
  { code := qcode, text, lim, start := s, lastStart := lim, pc := 9, pos := s, handed := s, outermost := first, marks := #[],
    frames := [{ wait := .nextStart, pc := 9, pos := s, outermost := first }], weight := 1, seen }

theorem search_start {text : Array Nat} {p lim : Nat} (h : p + 2 ≤ lim) : ∃ seen, forSearch qcode text 0 p lim false = atStart text lim p true seen := by
  refine ⟨({} : Sre.Seen).add 14, ?_⟩
  unfold forSearch
  show (if (decide (p > lim) || decide (lim - p < 2)) = true then _ else _) = _
  rw [if_neg (by simp; omega)]
  rfl

/-- the machine within a search -/
noncomputable def mach (text : Array Nat) (lim start : Nat) (out : Bool) (pc pos handed : Nat) (loops : Array Loop) (inner : Option Nat) (frames : List Sre.Frame) (weight : Nat) (answer : Option Bool) (seen : Sre.Seen) : M :=
  { code := qcode, text, lim, start, lastStart := lim, pc, pos, handed, outermost := out, marks := #[], loops, inner, frames, weight, answer, seen }
noncomputable def kK : Sre.Kept := { lastmark := -1, lastindex := -1, whole := true, marks := #[] }
noncomputable def fS (s : Nat) (first : Bool) : Sre.Frame := { wait := .nextStart, pc := 9, pos := s, outermost := first }
noncomputable def fP (pos : Nat) (first : Bool) (cnt : Int) : Sre.Frame := { wait := .possMore, pc := 11, pos, outermost := first, count := cnt, kept := kK, loop := 0 }
noncomputable def fB (pc pos : Nat) : Sre.Frame := { wait := .nextBranch, pc, pos, outermost := false, kept := kK }
noncomputable def lL : Array Loop := #[{ pc := 0, outer := none }]
/-- at the loop's head -/
noncomputable def hd (text : Array Nat) (lim s : Nat) (first : Bool) (pos : Nat) (cnt : Int) (seen : Sre.Seen) : M :=
  mach text lim s false 15 pos pos lL (some 0) [fP pos first cnt, fS s first] 2 none seen
section
variable {text : Array Nat} {lim s pos handed : Nat} {first : Bool} {cnt : Int} {seen : Sre.Seen}
theorem st9 : (atStart text lim s first seen).step =
    if s ≥ lim then mach text lim s first 9 s s #[] none [fS s first] 1 (some false) (seen.add 16)
    else cond (text.getD s 0 == 34) (mach text lim s first 11 (s + 1) s #[] none [fS s first] 1 none (seen.add 16)) (mach text lim s first 9 s s #[] none [fS s first] 1 (some false) (seen.add 16)) := by
  kernel_rfl!
theorem st9n : (mach text lim s first 9 s s #[] none [fS s first] 1 (some false) seen).step = if s < lim then atStart text lim (s + 1) false seen else mach text lim s first 9 s s #[] none [] 0 (some false) seen := by
  kernel_rfl!
theorem st9e : (mach text lim s first 9 s s #[] none [] 0 (some false) seen).step = { mach text lim s first 9 s s #[] none [] 0 (some false) seen with outcome := some .failed } := by
  kernel_rfl!
theorem st11 : (mach text lim s first 11 pos s #[] none [fS s first] 1 none seen).step = hd text lim s first pos 0 (seen.add 28) := by
  kernel_rfl!
theorem st15 : (hd text lim s first pos cnt seen).step = mach text lim s false 17 pos pos lL (some 0) [fB 16 pos, fP pos first cnt, fS s first] 3 none (seen.add 7) := by
  kernel_rfl!
noncomputable def onIn (r : Except String (Bool × Sre.Seen)) (e : String → M) (n y : Sre.Seen → M) : M := match r with
  | .error why => e why
  | .ok (false, x) => n x
  | .ok (true, x) => y x
theorem st17' : (mach text lim s false 17 pos pos lL (some 0) [fB 16 pos, fP pos first cnt, fS s first] 3 none seen).step =
    if pos ≥ lim then mach text lim s false 17 pos pos lL (some 0) [fB 16 pos, fP pos first cnt, fS s first] 3 (some false) (seen.add 13)
    else onIn (if (text.getD pos 0 == 34) = true then .ok (false, ((seen.add 13).add 21).add 16) else if (text.getD pos 0 == 92) = true then .ok (false, (((seen.add 13).add 21).add 16).add 16) else .ok (true, ((((seen.add 13).add 21).add 16).add 16).add 0))
      (fun why => (mach text lim s false 17 pos pos lL (some 0) [fB 16 pos, fP pos first cnt, fS s first] 3 none (seen.add 13)).stick why)
      (fun x => mach text lim s false 17 pos pos lL (some 0) [fB 16 pos, fP pos first cnt, fS s first] 3 (some false) x)
      (fun x => mach text lim s false 25 (pos + 1) pos lL (some 0) [fB 16 pos, fP pos first cnt, fS s first] 3 none x) := by
  kernel_rfl!
theorem st25 {p : Nat} : (mach text lim s false 25 p pos lL (some 0) [fB 16 pos, fP pos first cnt, fS s first] 3 none seen).step = mach text lim s false 34 p pos lL (some 0) [fB 16 pos, fP pos first cnt, fS s first] 3 none (seen.add 15) := by kernel_rfl!
theorem st34 {p k : Nat} : (mach text lim s false 34 p pos lL (some 0) [fB k pos, fP pos first cnt, fS s first] 3 none seen).step = mach text lim s false 34 p p lL (some 0) [fB k pos, fP pos first cnt, fS s first] 3 (some true) (seen.add 1) := by kernel_rfl!
theorem stBy {p k : Nat} : (mach text lim s false 34 p p lL (some 0) [fB k pos, fP pos first cnt, fS s first] 3 (some true) seen).step = mach text lim s false k pos p lL (some 0) [fP pos first cnt, fS s first] 2 (some true) seen := by kernel_rfl!
theorem poss_more {m : M} {i : Nat} {count : Int} {began : Option Nat} (h0 : 0 ≤ count) (h2 : m.word 2 = 0) (h3 : m.word 3 = maxRepeat) (hb : began ≠ some m.handed) :
    m.possessive i count began = m.attempt { m.frame .possMore with pos := m.handed, loop := i, count, kept := m.keep true } (m.pc + 4) m.handed false := by
  unfold M.possessive
  rw [h2, h3]
  dsimp only
  rw [if_neg (by simpa using h0), if_pos (by simp [hb])]
theorem poss_end {m : M} {i : Nat} {count : Int} {began : Option Nat} (h0 : 0 ≤ count) (h2 : m.word 2 = 0) (hb : began = some m.handed) :
    m.possessive i count began = { m with inner := (m.loopAt i).outer, loops := m.loops.pop, pc := m.pc + 2 + m.word 1, pos := m.handed } := by
  unfold M.possessive
  rw [h2]
  dsimp only
  rw [if_neg (by simpa using h0), if_neg (by simp [hb])]
theorem stPy {p k : Nat} (h : pos < p) (h0 : 0 ≤ cnt) : (mach text lim s false k pos p lL (some 0) [fP pos first cnt, fS s first] 2 (some true) seen).step = hd text lim s first p (cnt + 1) seen := by
  have e : (mach text lim s false k pos p lL (some 0) [fP pos first cnt, fS s first] 2 (some true) seen).step =
     (mach text lim s first 11 pos p lL (some 0) [fS s first] 1 none seen).possessive 0 (cnt + 1) (some pos) := by kernel_rfl!
  rw [e, poss_more (by omega) rfl rfl (by show some pos ≠ some p; simp; omega)]
  kernel_rfl!
theorem stBn : (mach text lim s false 17 pos pos lL (some 0) [fB 16 pos, fP pos first cnt, fS s first] 3 (some false) seen).step = mach text lim s false 28 pos pos lL (some 0) [fB 27 pos, fP pos first cnt, fS s first] 3 none seen := by kernel_rfl!
theorem st28 : (mach text lim s false 28 pos pos lL (some 0) [fB 27 pos, fP pos first cnt, fS s first] 3 none seen).step =
    if pos ≥ lim then mach text lim s false 28 pos pos lL (some 0) [fB 27 pos, fP pos first cnt, fS s first] 3 (some false) (seen.add 16)
    else cond (text.getD pos 0 == 92) (mach text lim s false 30 (pos + 1) pos lL (some 0) [fB 27 pos, fP pos first cnt, fS s first] 3 none (seen.add 16)) (mach text lim s false 28 pos pos lL (some 0) [fB 27 pos, fP pos first cnt, fS s first] 3 (some false) (seen.add 16)) := by kernel_rfl!
theorem st30 {p : Nat} : (mach text lim s false 30 p pos lL (some 0) [fB 27 pos, fP pos first cnt, fS s first] 3 none seen).step =
    if p ≥ lim then mach text lim s false 30 p pos lL (some 0) [fB 27 pos, fP pos first cnt, fS s first] 3 (some false) (seen.add 2)
    else cond (text.getD p 0 != 10) (mach text lim s false 31 (p + 1) pos lL (some 0) [fB 27 pos, fP pos first cnt, fS s first] 3 none (seen.add 2)) (mach text lim s false 30 p pos lL (some 0) [fB 27 pos, fP pos first cnt, fS s first] 3 (some false) (seen.add 2)) := by kernel_rfl!
theorem st31 {p : Nat} : (mach text lim s false 31 p pos lL (some 0) [fB 27 pos, fP pos first cnt, fS s first] 3 none seen).step = mach text lim s false 34 p pos lL (some 0) [fB 27 pos, fP pos first cnt, fS s first] 3 none (seen.add 15) := by kernel_rfl!
theorem stBn2 : (mach text lim s false 28 pos pos lL (some 0) [fB 27 pos, fP pos first cnt, fS s first] 3 (some false) seen).step = mach text lim s false 27 pos pos lL (some 0) [fP pos first cnt, fS s first] 2 (some false) seen := by kernel_rfl!
theorem stPn (h0 : 0 ≤ cnt) : (mach text lim s false 27 pos pos lL (some 0) [fP pos first cnt, fS s first] 2 (some false) seen).step = mach text lim s first 35 pos pos #[] none [fS s first] 1 none seen := by
  have e : (mach text lim s false 27 pos pos lL (some 0) [fP pos first cnt, fS s first] 2 (some false) seen).step =
     (mach text lim s first 11 pos pos lL (some 0) [fS s first] 1 none seen).possessive 0 cnt (some pos) := by kernel_rfl!
  exact e.trans ((poss_end (m := mach text lim s first 11 pos pos lL (some 0) [fS s first] 1 none seen) (i := 0) (count := cnt) (began := some pos) h0 rfl rfl).trans (by kernel_rfl!))
theorem st35 : (mach text lim s first 35 pos pos #[] none [fS s first] 1 none seen).step =
    if pos ≥ lim then mach text lim s first 35 pos pos #[] none [fS s first] 1 (some false) (seen.add 16)
    else cond (text.getD pos 0 == 34) (mach text lim s first 37 (pos + 1) pos #[] none [fS s first] 1 none (seen.add 16)) (mach text lim s first 35 pos pos #[] none [fS s first] 1 (some false) (seen.add 16)) := by kernel_rfl!
theorem st37 {p : Nat} : (mach text lim s first 37 p pos #[] none [fS s first] 1 none seen).step = mach text lim s first 37 p p #[] none [fS s first] 1 (some true) (seen.add 1) := by
  cases first <;> kernel_rfl!
theorem stSy {p : Nat} : (mach text lim s first 37 p p #[] none [fS s first] 1 (some true) seen).step = mach text lim s first 9 s p #[] none [] 0 (some true) seen := by kernel_rfl!
theorem stEnd {p : Nat} : (mach text lim s first 9 s p #[] none [] 0 (some true) seen).step = { mach text lim s first 9 s p #[] none [] 0 (some true) seen with outcome := some .matched } := by kernel_rfl!

theorem st17p (hp : pos < lim) (h1 : text.getD pos 0 ≠ 34) (h2 : text.getD pos 0 ≠ 92) : (mach text lim s false 17 pos pos lL (some 0) [fB 16 pos, fP pos first cnt, fS s first] 3 none seen).step =
    mach text lim s false 25 (pos + 1) pos lL (some 0) [fB 16 pos, fP pos first cnt, fS s first] 3 none (((((seen.add 13).add 21).add 16).add 16).add 0) := by
  rw [st17', if_neg (by omega), if_neg (by simpa using h1), if_neg (by simpa using h2)]
  rfl
theorem st17m (hp : pos < lim) (h1 : text.getD pos 0 = 92) : (mach text lim s false 17 pos pos lL (some 0) [fB 16 pos, fP pos first cnt, fS s first] 3 none seen).step =
    mach text lim s false 17 pos pos lL (some 0) [fB 16 pos, fP pos first cnt, fS s first] 3 (some false) ((((seen.add 13).add 21).add 16).add 16) := by
  rw [st17', if_neg (by omega), if_neg (by rw [h1]; decide), if_pos (by rw [h1]; rfl)]
  rfl
theorem st17q (hp : pos < lim) (h1 : text.getD pos 0 = 34) : (mach text lim s false 17 pos pos lL (some 0) [fB 16 pos, fP pos first cnt, fS s first] 3 none seen).step =
    mach text lim s false 17 pos pos lL (some 0) [fB 16 pos, fP pos first cnt, fS s first] 3 (some false) (((seen.add 13).add 21).add 16) := by
  rw [st17', if_neg (by omega), if_pos (by rw [h1]; rfl)]
  rfl
theorem st28m (hp : pos < lim) (h1 : text.getD pos 0 = 92) : (mach text lim s false 28 pos pos lL (some 0) [fB 27 pos, fP pos first cnt, fS s first] 3 none seen).step = mach text lim s false 30 (pos + 1) pos lL (some 0) [fB 27 pos, fP pos first cnt, fS s first] 3 none (seen.add 16) := by
  rw [st28, if_neg (by omega), h1]; rfl
theorem st28q (hp : pos < lim) (h1 : text.getD pos 0 = 34) : (mach text lim s false 28 pos pos lL (some 0) [fB 27 pos, fP pos first cnt, fS s first] 3 none seen).step = mach text lim s false 28 pos pos lL (some 0) [fB 27 pos, fP pos first cnt, fS s first] 3 (some false) (seen.add 16) := by
  rw [st28, if_neg (by omega), h1]; rfl
theorem st30m {p : Nat} (hp : p < lim) (h1 : text.getD p 0 ≠ 10) : (mach text lim s false 30 p pos lL (some 0) [fB 27 pos, fP pos first cnt, fS s first] 3 none seen).step = mach text lim s false 31 (p + 1) pos lL (some 0) [fB 27 pos, fP pos first cnt, fS s first] 3 none (seen.add 2) := by
  rw [st30, if_neg (by omega), show (text.getD p 0 != 10) = true by simpa using h1]; rfl
theorem st35q (hp : pos < lim) (h1 : text.getD pos 0 = 34) : (mach text lim s first 35 pos pos #[] none [fS s first] 1 none seen).step = mach text lim s first 37 (pos + 1) pos #[] none [fS s first] 1 none (seen.add 16) := by
  rw [st35, if_neg (by omega), h1]; rfl
theorem st9q (hs : s < lim) (h1 : text.getD s 0 = 34) : (atStart text lim s first seen).step = mach text lim s first 11 (s + 1) s #[] none [fS s first] 1 none (seen.add 16) := by
  rw [st9, if_neg (by omega), h1]; rfl
theorem st9x (hs : s < lim) (h1 : text.getD s 0 ≠ 34) : (atStart text lim s first seen).step = mach text lim s first 9 s s #[] none [fS s first] 1 (some false) (seen.add 16) := by
  rw [st9, if_neg (by omega), show (text.getD s 0 == 34) = false by simpa using h1]; rfl
/-- a plain sign within the quotes -/
theorem go_plain (h0 : 0 ≤ cnt) (hp : pos < lim) (h1 : text.getD pos 0 ≠ 34) (h2 : text.getD pos 0 ≠ 92) : ∃ x, Goes 6 (hd text lim s first pos cnt seen) (hd text lim s first (pos + 1) (cnt + 1) x) :=
  ⟨_, (goes1 rfl st15).trans ((goes1 rfl (st17p hp h1 h2)).trans ((goes1 rfl st25).trans ((goes1 rfl st34).trans ((goes1 rfl stBy).trans (goes1 rfl (stPy (Nat.lt_succ_self _) h0))))))⟩
/-- a mark with the sign behind it -/
theorem go_mark (h0 : 0 ≤ cnt) (hp : pos + 1 < lim) (h1 : text.getD pos 0 = 92) (h2 : text.getD (pos + 1) 0 ≠ 10) : ∃ x, Goes 9 (hd text lim s first pos cnt seen) (hd text lim s first (pos + 2) (cnt + 1) x) :=
  ⟨_, (goes1 rfl st15).trans ((goes1 rfl (st17m (by omega) h1)).trans ((goes1 rfl stBn).trans ((goes1 rfl (st28m (by omega) h1)).trans ((goes1 rfl (st30m hp h2)).trans ((goes1 rfl st31).trans ((goes1 rfl st34).trans ((goes1 rfl stBy).trans (goes1 rfl (stPy (by omega) h0)))))))))⟩
/-- the quote that ends it -/
theorem go_quote (h0 : 0 ≤ cnt) (hp : pos < lim) (h1 : text.getD pos 0 = 34) : ∃ m', Goes 10 (hd text lim s first pos cnt seen) m' ∧ m'.outcome = some .matched ∧ m'.start = s ∧ m'.handed = pos + 1 :=
  ⟨_, (goes1 rfl st15).trans ((goes1 rfl (st17q hp h1)).trans ((goes1 rfl stBn).trans ((goes1 rfl (st28q hp h1)).trans ((goes1 rfl stBn2).trans ((goes1 rfl (stPn h0)).trans ((goes1 rfl (st35q hp h1)).trans ((goes1 rfl st37).trans ((goes1 rfl stSy).trans (goes1 rfl stEnd))))))))), rfl, rfl, rfl⟩
/-- a start that is no quote -/
theorem go_skip (hs : s < lim) (h1 : text.getD s 0 ≠ 34) : ∃ x, Goes 2 (atStart text lim s first seen) (atStart text lim (s + 1) false x) :=
  ⟨_, (goes1 rfl (st9x hs h1)).trans (goes1 rfl (st9n.trans (if_pos hs)))⟩
theorem go_open (hs : s < lim) (h1 : text.getD s 0 = 34) : ∃ x, Goes 2 (atStart text lim s first seen) (hd text lim s first (s + 1) 0 x) :=
  ⟨_, (goes1 rfl (st9q hs h1)).trans (goes1 rfl st11)⟩
end

/-- what stands within the quotes: plain signs, or a mark with a sign behind it -/
inductive Inner : List Nat → Prop
  | nil : Inner []
  | plain {c : Nat} {r : List Nat} : c ≠ 34 → c ≠ 92 → Inner r → Inner (c :: r)
  | mark {c : Nat} {r : List Nat} : c ≠ 10 → Inner r → Inner (92 :: c :: r)

theorem go_inner {text : Array Nat} {lim s : Nat} {first : Bool} : ∀ {l : List Nat} (_ : Inner l) (pos : Nat) (cnt : Int) (seen : Sre.Seen), 0 ≤ cnt → (∀ j, j < l.length → text.getD (pos + j) 0 = l.getD j 0) → pos + l.length < lim →
    ∃ x c', 0 ≤ c' ∧ Goes (9 * l.length) (hd text lim s first pos cnt seen) (hd text lim s first (pos + l.length) c' x)
  | _, .nil, pos, cnt, seen, h0, _, _ => ⟨seen, cnt, h0, 0, Nat.zero_le _, rfl⟩
  | _, .plain (c := c) (r := r) h1 h2 hr, pos, cnt, seen, h0, ht, hl => by
    have e0 : text.getD pos 0 = c := by simpa using ht 0 (by simp)
    simp only [List.length_cons] at hl
    obtain ⟨x, g⟩ := go_plain (text := text) (lim := lim) (s := s) (first := first) (pos := pos) (cnt := cnt) (seen := seen) h0 (by omega) (by rw [e0]; exact h1) (by rw [e0]; exact h2)
    obtain ⟨y, c', hc, g'⟩ := go_inner (text := text) (lim := lim) (s := s) (first := first) hr (pos + 1) (cnt + 1) x (by omega) (by
      intro j hj
      have := ht (j + 1) (by simp; omega)
      rw [show pos + 1 + j = pos + (j + 1) by omega, this]; simp) (by omega)
    refine ⟨y, c', hc, ?_⟩
    rw [show pos + (c :: r).length = pos + 1 + r.length by simp; omega]
    refine Goes.le (g.trans g') ?_
    simp only [List.length_cons]; omega
  | _, .mark (c := c) (r := r) h1 hr, pos, cnt, seen, h0, ht, hl => by
    have e0 : text.getD pos 0 = 92 := by simpa using ht 0 (by simp)
    have e1 : text.getD (pos + 1) 0 = c := by simpa using ht 1 (by simp)
    simp only [List.length_cons] at hl
    obtain ⟨x, g⟩ := go_mark (text := text) (lim := lim) (s := s) (first := first) (pos := pos) (cnt := cnt) (seen := seen) h0 (by omega) e0 (by rw [e1]; exact h1)
    obtain ⟨y, c', hc, g'⟩ := go_inner (text := text) (lim := lim) (s := s) (first := first) hr (pos + 2) (cnt + 1) x (by omega) (by
      intro j hj
      have := ht (j + 2) (by simp; omega)
      rw [show pos + 2 + j = pos + (j + 2) by omega, this]; simp) (by omega)
    refine ⟨y, c', hc, ?_⟩
    rw [show pos + (92 :: c :: r).length = pos + 2 + r.length by simp; omega]
    refine Goes.le (g.trans g') ?_
    simp only [List.length_cons]; omega

/-- from a bracket: the quoted text behind it is found -/
theorem search_found {text : Array Nat} {p lim : Nat} {l : List Nat} (hi : Inner l) (hb : text.getD p 0 ≠ 34) (hq : text.getD (p + 1) 0 = 34) (ht : ∀ j, j < l.length → text.getD (p + 2 + j) 0 = l.getD j 0)
    (he : text.getD (p + 2 + l.length) 0 = 34) (hl : p + 2 + l.length < lim) :
    ∃ m', Goes (9 * l.length + 14) (forSearch qcode text 0 p lim false) m' ∧ m'.outcome = some .matched ∧ m'.start = p + 1 ∧ m'.handed = p + 3 + l.length := by
  obtain ⟨x, e⟩ := search_start (text := text) (p := p) (lim := lim) (by omega)
  rw [e]
  obtain ⟨y, g1⟩ := go_skip (text := text) (lim := lim) (s := p) (first := true) (seen := x) (by omega) hb
  obtain ⟨z, g2⟩ := go_open (text := text) (lim := lim) (s := p + 1) (first := false) (seen := y) (by omega) hq
  obtain ⟨u, c', hc, g3⟩ := go_inner (text := text) (lim := lim) (s := p + 1) (first := false) hi (p + 1 + 1) 0 z (Int.le_refl _) ht hl
  obtain ⟨m', g4, h1, h2, h3⟩ := go_quote (text := text) (lim := lim) (s := p + 1) (first := false) (pos := p + 2 + l.length) (cnt := c') (seen := u) hc hl he
  exact ⟨m', Goes.le (g1.trans (g2.trans (g3.trans g4))) (by omega), h1, h2, by rw [h3]; omega⟩
theorem search_none {text : Array Nat} {lim : Nat} : ∃ m', Goes 1 (forSearch qcode text 0 lim lim false) m' ∧ m'.outcome = some .failed := by
  refine ⟨_, goes1 ?_ rfl, ?_⟩
  · show M.outcome (if (decide (lim > lim) || decide (lim - lim < 2)) = true then _ else _) = none
    rw [if_pos (by simp)]
    rfl
  · show M.outcome (M.step (if (decide (lim > lim) || decide (lim - lim < 2)) = true then _ else _)) = _
    rw [if_pos (by simp)]
    rfl
end XnSreText
theorem rstXnSub (M : PySem.Model) (A : PySem.Around) (env : PySem.Env) (s : PySem.Shared) : True := by
  first
  | (have h : PySem.wpAny M A (PySem.eval (.Constant .none 0 ⟨0, 0, 0, 0⟩) env) (fun _ _ => True) (fun _ _ => True) s := by (walk1; fail)
     trivial)
  | (w_top off
     trivial)
section XnSubText
open PySem PySem.W PySem.W.X PyProof.Rows
open PySem.Builtin PySem.Builtin.Re
set_option maxRecDepth 100000
set_option maxHeartbeats 4000000
set_option linter.all false
section
variable {w : World} {A : Around} {E : Value → Shared → Prop} {s : Shared}
theorem drive {Q : Sre.M → Shared → Prop} {m' : Sre.M} (ho : m'.outcome.isSome = true) (hQ : Q m' s) : ∀ (turns n : Nat) (m : Sre.M), n < 4 * turns → Sre.M.runFor n m = m' → wpAny (model pw w) A (reDrive turns m) Q E s
  | 0, n, m, hn, _ => by omega
  | t + 1, n, m, hn, h => by
    unfold reDrive
    show wpAny _ _ (if (Sre.M.runFor 4 m).outcome.isSome = true then pure (Sre.M.runFor 4 m) else do rule "sre.turn"; reDrive t (Sre.M.runFor 4 m)) _ _ _
    by_cases hd : (Sre.M.runFor 4 m).outcome.isSome = true
    · rw [if_pos hd]
      have : Sre.M.runFor 4 m = m' := by
        by_cases h4 : n ≤ 4
        · rw [show (4 : Nat) = n + (4 - n) by omega, runFor_add, h, runFor_done ho]
        · rw [← h, show n = 4 + (n - 4) by omega, runFor_add, runFor_done hd]
      rw [this]
      exact wpAny_pure hQ
    · rw [if_neg hd]
      have h4 : ¬ n ≤ 4 := fun h4 => hd (by rw [show (4 : Nat) = n + (4 - n) by omega, runFor_add, h, runFor_done ho]; exact ho)
      refine wpAny_bind (wpAny_rule (drive ho hQ t (n - 4) _ (by omega) ?_))
      rw [← runFor_add, show 4 + (n - 4) = n by omega]; exact h
theorem rules_loop {c : Nat → Bool} {tg : Nat → String} {Q : PUnit → Shared → Prop} (hQ : Q ⟨⟩ s) : ∀ l : List Nat, wpAny (model pw w) A (forIn l PUnit.unit fun i r => if c i = true then do rule (tg i); pure (ForInStep.yield PUnit.unit) else pure (ForInStep.yield PUnit.unit)) Q E s
  | [] => wpAny_pure hQ
  | i :: l => by
    rw [List.forIn_cons]
    refine wpAny_bind ?_
    by_cases h : c i = true
    · rw [if_pos h]
      exact wpAny_bind (wpAny_rule (wpAny_pure (rules_loop hQ l)))
    · rw [if_neg h]
      exact wpAny_pure (rules_loop hQ l)
theorem run_end {Q : Option Sre.M → Shared → Prop} {m m' : Sre.M} {k : Nat} (g : Goes k m m') (hk : k < 4 * 2 ^ 64) (ho : m'.outcome.isSome = true)
    (hQ : Q (match m'.outcome with | some .matched => some m' | _ => none) s) (hm : m'.outcome = some .matched ∨ m'.outcome = some .failed) : wpAny (model pw w) A (reRunToEnd m) Q E s := by
  obtain ⟨n, hn, e⟩ := g
  unfold reRunToEnd
  refine wpAny_bind (drive ho ?_ (2 ^ 64) n m (by omega) e)
  refine wpAny_bind ?_
  refine rules_loop (tg := fun i => Sre.names.getD i "") (c := fun i => m'.seen.has i) ?_ _
  rcases hm with e | e <;> (simp only [e] at hQ ⊢; exact wpAny_pure hQ)
end
end XnSubText
theorem rstXnFx (M : PySem.Model) (A : PySem.Around) (env : PySem.Env) (s : PySem.Shared) : True := by
  first
  | (have h : PySem.wpAny M A (PySem.eval (.Constant .none 0 ⟨0, 0, 0, 0⟩) env) (fun _ _ => True) (fun _ _ => True) s := by (walk1; fail)
     trivial)
  | (w_top off
     trivial)
section XnFxText
open PySem PySem.W PySem.W.X PyProof.Rows
set_option maxRecDepth 100000
set_option maxHeartbeats 4000000
set_option linter.all false
namespace FX
theorem plainAttrs_pattern : PlainAttrs "re.Pattern" :=
  ⟨⟨"object.__getattribute__", by rw [typeLookup_type, builtinLookup_eq_fast]; kernel_rfl, by decide +kernel⟩, by rw [typeLookup_type, builtinLookup_eq_fast]; kernel_rfl⟩
theorem owner_pattern : Manifest.owners.lookup (String.ofList ['n', 'r', 'e', 't', 't', 'a', 'P', '.', 'e', 'r'].reverse) = some Manifest.sig_re_Pattern := by kernel_rfl
theorem look_call : typeLookup (.type "bytes") "__call__" = pure none := by rw [typeLookup_type, builtinLookup_eq_fast]; kernel_rfl
theorem slot_bytes_count : Slot "bytes" "count" "bytes.count" :=
  .of (owner := "bytes") (n := "count") (by rw [typeLookup_type, builtinLookup_eq_fast]; kernel_rfl) (by decide +kernel) (by decide +kernel) (by decide +kernel)
    (by first | exact .inl (by decide +kernel) | exact .inr (by decide +kernel)) (by rw [isSubtype_type]; kernel_rfl)
theorem type_bytes_count : typeOf (.builtin "bytes.count") = pure (.type "method_descriptor") := by show builtinType _ = _; rw [builtinType_eq_fast]; kernel_rfl
theorem entry_bytes_count : entryFor table "bytes.count" = some Builtin.«bytes.count» := entryFor_of_tree (by kernel_rfl)
theorem args_bytes_count_2 (a b : Value) : argsOk "bytes.count" ⟨[a, b], []⟩ := by
  unfold argsOk; rw [signature?_of (id := "bytes.count") (n := ['t', 'n', 'u', 'o', 'c']) (o := ['s', 'e', 't', 'y', 'b']) (by kernel_rfl) FB.owner_bytes]; kernel_rfl
theorem slot_bytes_join : Slot "bytes" "join" "bytes.join" :=
  .of (owner := "bytes") (n := "join") (by rw [typeLookup_type, builtinLookup_eq_fast]; kernel_rfl) (by decide +kernel) (by decide +kernel) (by decide +kernel)
    (by first | exact .inl (by decide +kernel) | exact .inr (by decide +kernel)) (by rw [isSubtype_type]; kernel_rfl)
theorem type_bytes_join : typeOf (.builtin "bytes.join") = pure (.type "method_descriptor") := by show builtinType _ = _; rw [builtinType_eq_fast]; kernel_rfl
theorem entry_bytes_join : entryFor table "bytes.join" = some Builtin.«bytes.join» := entryFor_of_tree (by kernel_rfl)
theorem args_bytes_join_2 (a b : Value) : argsOk "bytes.join" ⟨[a, b], []⟩ := by
  unfold argsOk; rw [signature?_of (id := "bytes.join") (n := ['n', 'i', 'o', 'j']) (o := ['s', 'e', 't', 'y', 'b']) (by kernel_rfl) FB.owner_bytes]; kernel_rfl
theorem slot_pattern_sub : Slot "re.Pattern" "sub" "re.Pattern.sub" :=
  .of (owner := "re.Pattern") (n := "sub") (by rw [typeLookup_type, builtinLookup_eq_fast]; kernel_rfl) (by decide +kernel) (by decide +kernel) (by decide +kernel)
    (by first | exact .inl (by decide +kernel) | exact .inr (by decide +kernel)) (by rw [isSubtype_type]; kernel_rfl)
theorem type_pattern_sub : typeOf (.builtin "re.Pattern.sub") = pure (.type "method_descriptor") := by show builtinType _ = _; rw [builtinType_eq_fast]; kernel_rfl
theorem entry_pattern_sub : entryFor table "re.Pattern.sub" = some Builtin.«re.Pattern.sub» := entryFor_of_tree (by kernel_rfl)
theorem args_pattern_sub_3 (a b c : Value) : argsOk "re.Pattern.sub" ⟨[a, b, c], []⟩ := by
  unfold argsOk; rw [signature?_of (id := "re.Pattern.sub") (n := ['b', 'u', 's']) (o := ['n', 'r', 'e', 't', 't', 'a', 'P', '.', 'e', 'r']) (by kernel_rfl) owner_pattern]; kernel_rfl
theorem entry_loop : entryFor table "re.Pattern.sub.loop" = some Builtin.«re.Pattern.sub.loop» := entryFor_of_tree (by kernel_rfl)
end FX
end XnFxText
theorem rstXnJoin (M : PySem.Model) (A : PySem.Around) (env : PySem.Env) (s : PySem.Shared) : True := by
  first
  | (have h : PySem.wpAny M A (PySem.eval (.Constant .none 0 ⟨0, 0, 0, 0⟩) env) (fun _ _ => True) (fun _ _ => True) s := by (walk1; fail)
     trivial)
  | (w_top off
     trivial)
section XnJoinText
open PySem PySem.W PySem.W.X PyProof.Rows
open PySem.Builtin PySem.Builtin.Re
set_option maxRecDepth 100000
set_option maxHeartbeats 4000000
set_option linter.all false
section
variable {w : World} {A : Around} {E : Value → Shared → Prop} {s : Shared}
theorem list_fold {β : Type} {f : Nat → β → Sem (ForInStep β)} (I : Nat → β → Prop) {Q : β → Shared → Prop} : ∀ (k i : Nat) (b : β), (∀ j b, i ≤ j → j < i + k → I j b → wpAny (model pw w) A (f j b) (fun r s' => s' = s ∧ ∃ b', r = .yield b' ∧ I (j + 1) b') E s) → I i b → (∀ b, I (i + k) b → Q b s) →
    wpAny (model pw w) A (forIn (List.range' i k) b f) Q E s
  | 0, i, b, _, h0, hQ => wpAny_pure (hQ b h0)
  | k + 1, i, b, st, h0, hQ => by
    rw [List.range'_succ, List.forIn_cons]
    refine wpAny_bind (wpAny_mono (st i b (Nat.le_refl _) (by omega) h0) (fun r s' h => ?_) fun _ _ h => h)
    obtain ⟨hs, b', rfl, hb⟩ := h
    rw [hs]
    exact list_fold I k (i + 1) b' (fun j b h1 h2 => st j b (by omega) (by omega)) hb (fun b hb => hQ b (by rwa [show i + (k + 1) = i + 1 + k by omega]))
theorem range_fold {β : Type} {n : Nat} {f : Nat → β → Sem (ForInStep β)} (I : Nat → β → Prop) {Q : β → Shared → Prop} {b : β} (st : ∀ j b, j < n → I j b → wpAny (model pw w) A (f j b) (fun r s' => s' = s ∧ ∃ b', r = .yield b' ∧ I (j + 1) b') E s)
    (h0 : I 0 b) (hQ : ∀ b, I n b → Q b s) : wpAny (model pw w) A (forIn [0:n] b f) Q E s := by
  have e : (forIn [0:n] b f : Sem β) = forIn (List.range' 0 n) b f := by
    simp [Std.Legacy.Range.forIn_eq_forIn_range', Std.Legacy.Range.size]
  rw [e]
  exact list_fold I n 0 b (fun j b _ h => st j b (by omega)) h0 (fun b hb => hQ b (by rwa [Nat.zero_add] at hb))
theorem typeIs_list {s : Shared} {a : Addr} {xs : Array Value} {n : Nat} (h : s.heap.get? a = some ⟨.type "list", none, .seq xs n, #[]⟩) : s.TypeIs (.ref a) "list" := ⟨_, h, rfl⟩
noncomputable def bv (p : List UInt8 × Tok) : Value := .bytes p.1.toArray p.2
theorem take_bytes {b : Array UInt8} {t : Tok} {id : String} : Bytes.takeBufferQuiet? id (.bytes b t) 0 = pure (some (b, none)) := by
  unfold Bytes.takeBufferQuiet? Bytes.takeBuffer?
  have e : ∀ f, Bytes.buffer? id (.bytes b t) f = pure (some b) := fun f => by
    unfold Bytes.buffer?
    rw [KBy.special_eq KBy.look_buffer, KBy.own_buffer, KBy.own_release]
    kernel_rfl
  rw [KBy.special_eq KBy.look_buffer, KBy.own_buffer, e]
  kernel_rfl
theorem joined_go (l : List (Array UInt8)) : ∀ (k : Nat) (acc : Array UInt8), (l.zipIdx k).foldl (fun out (x : Array UInt8 × Nat) => (if x.2 > 0 then out ++ #[] else out) ++ x.1) acc = acc ++ (l.map Array.toList).flatten.toArray := by
  induction l with
  | nil => intro k acc; simp
  | cons a l ih =>
    intro k acc
    simp only [List.zipIdx_cons, List.foldl_cons, List.map_cons, List.flatten_cons]
    rw [ih]
    cases a
    split <;> simp
theorem joined_nil (l : List (Array UInt8)) : Bytes.joined #[] l = (l.map Array.toList).flatten.toArray := by
  unfold Bytes.joined
  rw [joined_go l 0 #[]]
  simp
theorem foldl_size (l : List (Array UInt8)) : ∀ k, List.foldl (fun x1 (x2 : Array UInt8) => x1 + x2.size) k l = k + (l.map Array.toList).flatten.length := by
  induction l with
  | nil => intro k; simp
  | cons a l ih => intro k; simp only [List.foldl_cons, ih, List.map_cons, List.flatten_cons, List.length_append, Array.length_toList]; omega
noncomputable def takenOf (l : List (List UInt8 × Tok)) : List (Value × Option Value) := l.map fun p => (bv p, none)
theorem wpAny_joinLetGo {l : List (List UInt8 × Tok)} {keep : List Value} {Q : Unit → Shared → Prop} (h : Q () s) : wpAny (model pw w) A (Bytes.joinLetGo (takenOf l) keep) Q E s := by
  induction l with
  | nil => exact wpAny_pure h
  | cons p l ih =>
    unfold takenOf
    rw [List.map_cons]
    unfold Bytes.joinLetGo
    exact wpAny_bind (wpAny_letGo ih)
theorem joinMatch {α : Type} (xs : Array Value) (a : Value → α) (b : α) : xs.size ≠ 1 → (match xs with | #[x] => a x | _ => b) = b := by
  intro h
  obtain ⟨_ | ⟨v, _ | ⟨v2, r⟩⟩⟩ := xs
  · rfl
  · exact (h rfl).elim
  · rfl
theorem bytes_join {a : Addr} {xs : Array Value} {n : Nat} {l : List (List UInt8 × Tok)} {t₀ : Tok} {Q : Value → Shared → Prop} (ho : s.heap.get? a = some ⟨.type "list", none, .seq xs n, #[]⟩) (hx : xs = (l.map bv).toArray) (h2 : 2 ≤ l.length)
    (hsz : (l.map (·.1)).flatten.length ≤ 16777216) (hQ : ∀ t k, Q (.bytes (l.map (·.1)).flatten.toArray t) { s with toks := k }) :
    wpAny (model pw w) A (call (.builtin "bytes.join") [.bytes #[] t₀, .ref a]) Q E s := by
  refine wpAny_call_entry FX.slot_bytes_join (typeIs_bytes _ _ _) FX.entry_bytes_join ?_ (FX.args_bytes_join_2 _ _)
  show wpAny _ _ (Bytes.joinItems (.ref a) >>= fun seq => _) _ _ _
  refine wpAny_bind ?_
  unfold Bytes.joinItems
  refine wpAny_bind (wpAny_typeOf (typeIs_list ho) ?_)
  show wpAny _ _ (pure (Value.ref a)) _ _ _
  refine wpAny_pure ?_
  refine wpAny_bind (wpAny_seqItems ho rfl ?_)
  have hsize : xs.size = l.length := by rw [hx]; simp
  dsimp only
  rw [if_pos (by rfl)]
  refine (congrArg (fun t => wpAny (model pw w) A.in1 t (fun fin s' => ∃ v, fin = Fin.done (Flow.ret v) ∧ Q v s') E s) (joinMatch xs _ _ (by omega))).mpr ?_
  have hno : ∀ x, xs = #[x] → False := fun x h => by rw [h] at hsize; simp at hsize; omega
  · refine wpAny_bind (range_fold (I := fun j (b : Array (Array UInt8) × List (Value × Option Value)) => b.1.toList = ((l.take j).map fun p => p.1.toArray) ∧ b.2 = takenOf (l.take j)) ?_ ?_ ?_)
    · rintro j ⟨parts, taken⟩ hj ⟨h1, h2⟩
      dsimp only at h1 h2 ⊢
      subst h2
      refine wpAny_bind (wpAny_seqItems ho rfl ?_)
      dsimp only
      rw [hsize] at hj
      have hjx : xs.getD j .none = bv l[j] := by rw [hx]; simp [hj]
      have hany : ((takenOf (l.take j)).any fun x => x.1.onHeap) = false := by
        rw [List.any_eq_false]
        intro x hx
        obtain ⟨p, _, rfl⟩ := List.mem_map.mp hx
        exact Bool.false_ne_true
      have hcond : (Bytes.Kind.bytes == Bytes.Kind.bytearray || (takenOf (l.take j)).any fun x => x.1.onHeap) = false := by rw [hany]; rfl
      rw [if_neg (by rw [hcond]; exact Bool.false_ne_true), hjx]
      refine wpAny_bind (wpAny_holding ?_)
      unfold bv
      rw [take_bytes]
      refine wpAny_pure ?_
      dsimp only
      refine wpAny_bind (wpAny_seqItems ho rfl ?_)
      dsimp only
      rw [if_neg (by simp)]
      refine wpAny_pure ⟨rfl, _, rfl, ?_, ?_⟩
      · dsimp only
        rw [Array.toList_push, h1, List.take_succ, List.map_append]
        simp [hj]
      · dsimp only
        unfold takenOf
        rw [List.take_succ, List.map_append]
        simp [hj, bv]
    · exact ⟨rfl, rfl⟩
    · rintro ⟨parts, taken⟩ ⟨h1, h2⟩
      dsimp only at h1 h2 ⊢
      rw [hsize, List.take_length] at h1 h2
      subst h2
      show wpAny _ _ (if Bytes.tooLong (Array.foldl (fun x1 x2 => x1 + x2.size) (0 * (parts.size - 1)) parts) = true then _ else _) _ _ _
      have hf : (parts.toList.map Array.toList).flatten = (l.map (·.1)).flatten := by rw [h1, List.map_map]; congr 1
      rw [← Array.foldl_toList, foldl_size, hf, KBy.tooLong_not (by omega), if_neg Bool.false_ne_true]
      show wpAny _ _ (mkBytes (Bytes.joined #[] parts.toList) >>= _) _ _ _
      rw [joined_nil, hf]
      refine wpAny_bind (wpAny_mkBytes ?_ (by rw [sizeLine_eq]; simpa using hsz))
      refine wpAny_bind (wpAny_holding (wpAny_point ?_))
      refine wpAny_bind (wpAny_joinLetGo ?_)
      exact wpAny_pure ⟨_, rfl, hQ _ _⟩
end
end XnJoinText
theorem rstXnCnt (M : PySem.Model) (A : PySem.Around) (env : PySem.Env) (s : PySem.Shared) : True := by
  first
  | (have h : PySem.wpAny M A (PySem.eval (.Constant .none 0 ⟨0, 0, 0, 0⟩) env) (fun _ _ => True) (fun _ _ => True) s := by (walk1; fail)
     trivial)
  | (w_top off
     trivial)
section XnCntText
open PySem PySem.W PySem.W.X PyProof.Rows
open PySem.Builtin PySem.Builtin.Re
set_option maxRecDepth 100000
set_option maxHeartbeats 4000000
set_option linter.all false
section
variable {w : World} {A : Around} {E : Value → Shared → Prop} {s : Shared}
/-- how often one byte stands in a text -/
theorem occ_go (b : List UInt8) (c : UInt8) : ∀ (k i : Nat) (acc : List Nat × Nat), i + k = b.length → acc.2 ≤ i →
    ((List.range' i k).foldl (fun (acc : List Nat × Nat) i => if (decide (i ≥ acc.2) && (b.toArray.extract i (i + 1) == #[c])) = true then (i :: acc.1, i + 1) else acc) acc).1.length = acc.1.length + (b.drop i).count c
  | 0, i, acc, h, _ => by simp at h; subst h; simp
  | k + 1, i, acc, h, ha => by
    rw [List.range'_succ, List.foldl_cons]
    have hi : i < b.length := by omega
    have hx : b.toArray.extract i (i + 1) = #[b[i]] := by
      apply Array.ext'
      simp [List.take_one, List.head?_drop, hi]
    have hd : b.drop i = b[i] :: b.drop (i + 1) := List.drop_eq_getElem_cons hi
    rw [hx, hd, List.count_cons]
    by_cases hc : b[i] = c
    · rw [if_pos (by simp [ha, hc]), occ_go b c k (i + 1) _ (by omega) (by exact Nat.le_refl _)]
      simp [hc]; omega
    · rw [if_neg (by simp [hc]), occ_go b c k (i + 1) _ (by omega) (by omega)]
      simp [hc]
theorem occ_len (b : List UInt8) (c : UInt8) : (Bytes.occurrences b.toArray #[c] 0 b.length).length = b.count c := by
  unfold Bytes.occurrences
  dsimp only
  rw [List.length_reverse]
  have := occ_go b c b.length 0 ([], 0) (by omega) (by exact Nat.le_refl _)
  simp only [Nat.zero_add, List.drop_zero, List.length_nil, ge_iff_le, Array.size_singleton] at this ⊢
  rw [show b.length + 1 - 1 = b.length by omega, List.range_eq_range', List.map_id'' (fun x => Nat.add_zero x)]
  exact this
theorem win (n : Nat) : Bytes.window n none none = (0, (n : Int)) := by
  simp only [Bytes.window, Option.getD]
  rw [if_neg (by omega), if_neg (by omega)]
  simp
theorem bytes_count {b : List UInt8} {c : UInt8} {t u : Tok} {Q : Value → Shared → Prop} (hQ : ∀ t k, Q (.int (b.count c) t) { s with toks := k }) :
    wpAny (model pw w) A (call (.builtin "bytes.count") [.bytes b.toArray t, .bytes #[c] u]) Q E s := by
  refine wpAny_call_entry FX.slot_bytes_count (typeIs_bytes _ _ _) FX.entry_bytes_count ?_ (FX.args_bytes_count_2 _ _)
  show wpAny _ _ (Bytes.countM .bytes ⟨[.bytes b.toArray t, .bytes #[c] u], []⟩) _ _ _
  unfold Bytes.countM
  refine wpAny_bind ?_
  unfold Bytes.searchArgs
  show wpAny _ _ (Bytes.buffer? _ _ >>= _) _ _ _
  refine wpAny_bind (wpAny_of_eq KBy.buffer_eq ?_)
  show wpAny _ _ (pure (b.toArray, #[c], if (Bytes.window b.toArray.size none none).2 - (Bytes.window b.toArray.size none none).1 < ((#[c] : Array UInt8).size : Int) then none else some ((Bytes.window b.toArray.size none none).1.toNat, (Bytes.window b.toArray.size none none).2.toNat))) _ _ _
  rw [win]
  refine wpAny_pure ?_
  dsimp only
  by_cases hb : b = []
  · subst hb
    rw [if_pos (by simp)]
    exact wpAny_bind (wpAny_mkInt (wpAny_pure ⟨_, rfl, hQ _ _⟩))
  · have hl : 0 < b.length := List.length_pos_iff.mpr hb
    rw [if_neg (by simp; omega)]
    dsimp only
    rw [if_neg (by simp)]
    rw [show ((0 : Int).toNat) = 0 from rfl, Int.toNat_natCast, List.size_toArray, occ_len]
    exact wpAny_bind (wpAny_mkInt (wpAny_pure ⟨_, rfl, hQ _ _⟩))
end
end XnCntText
theorem rstXnPat (M : PySem.Model) (A : PySem.Around) (env : PySem.Env) (s : PySem.Shared) : True := by
  first
  | (have h : PySem.wpAny M A (PySem.eval (.Constant .none 0 ⟨0, 0, 0, 0⟩) env) (fun _ _ => True) (fun _ _ => True) s := by (walk1; fail)
     trivial)
  | (w_top off
     trivial)
section XnPatText
open PySem PySem.W PySem.W.X PyProof.Rows
open PySem.Builtin PySem.Builtin.Re
set_option maxRecDepth 100000
set_option maxHeartbeats 4000000
set_option linter.all false
section
variable {w : World} {A : Around} {E : Value → Shared → Prop} {s : Shared}
noncomputable def stB (p : Bool × List UInt8) : List UInt8 := (if p.1 then 40 else 41) :: 34 :: (p.2 ++ [34])
noncomputable def flat (l : List (Bool × List UInt8)) : List UInt8 := l.flatMap stB
noncomputable def InB (p : Bool × List UInt8) : Prop := Inner (p.2.map (·.toNat))
noncomputable def brs (l : List (Bool × List UInt8)) : List UInt8 := l.map fun p => if p.1 then 40 else 41
noncomputable def nats (b : List UInt8) : Array Nat := b.toArray.map (·.toNat)
noncomputable def tgt (b : List UInt8) (t : Tok) : ReTarget := { pattern := .ref 43, string := .bytes b.toArray t, code := qcode, text := nats b, kind := 1, groups := 0, pos := 0, lim := (nats b).size }
theorem nats_size (b : List UInt8) : (nats b).size = b.length := by simp [nats]
theorem nats_getD (b : List UInt8) (i : Nat) : (nats b).getD i 0 = (b.getD i 0).toNat := by
  unfold nats
  by_cases h : i < b.length
  · simp [h]
  · simp [Nat.not_lt.mp h]
theorem whole_tgt {b : List UInt8} {t : Tok} {Q : ReTarget → Shared → Prop} (W : Wd w s.heap) (hQ : Q (tgt b t) s) : wpAny (model pw w) A (reWholeTarget (.ref 43) (.bytes b.toArray t)) Q E s := by
  unfold reWholeTarget
  refine wpAny_bind (wpAny_fieldsOf (W.at 43 _ rfl) rfl ?_)
  refine wpAny_bind ?_
  unfold reTextOf
  show wpAny _ _ (Bytes.bufferQuiet? "_sre" _ >>= _) _ _ _
  refine wpAny_bind (wpAny_of_eq KBy.quiet_eq ?_)
  refine wpAny_pure ?_
  dsimp only
  show wpAny _ _ (reNoCollectionInside _ _ >>= _) _ _ _
  refine wpAny_bind ?_
  unfold reNoCollectionInside
  rw [if_pos (by rfl)]
  refine wpAny_bind (wpAny_of_eq KBy.isInstance_eq ?_)
  show wpAny _ _ (pure ()) _ _ _
  refine wpAny_pure ?_
  refine wpAny_bind ?_
  unfold reRawItems
  show wpAny _ _ (seqItems? (.ref 42) >>= _) _ _ _
  refine wpAny_bind (wpAny_seqItems (W.at 42 _ rfl) rfl ?_)
  refine wpAny_pure ?_
  refine wpAny_pure ?_
  refine Eq.mp (congrArg (fun x => Q x s) (?_ : tgt b t = _)) hQ
  kernel_rfl
theorem next_found {done rest : List (Bool × List UInt8)} {p : Bool × List UInt8} {t : Tok} {Q : Option Sre.M → Shared → Prop} (hp : InB p) (hs : (flat (done ++ p :: rest)).length ≤ 1000000)
    (hQ : ∀ m, m.start = (flat done).length + 1 → m.handed = (flat (done ++ [p])).length → Q (some m) s) : wpAny (model pw w) A (reNextFound (tgt (flat (done ++ p :: rest)) t) (flat done).length false) Q E s := by
  have hf : flat (done ++ p :: rest) = flat done ++ ((if p.1 then 40 else 41) :: 34 :: (p.2 ++ 34 :: flat rest)) := by simp [flat, stB]
  have hd : (flat (done ++ [p])).length = (flat done).length + 3 + (p.2.map (·.toNat)).length := by simp [flat, stB]; omega
  unfold reNextFound
  have g : ∀ i, (nats (flat (done ++ p :: rest))).getD ((flat done).length + i) 0 = (((if p.1 then 40 else 41) :: 34 :: (p.2 ++ 34 :: flat rest) : List UInt8).getD i 0).toNat := fun i => by
    rw [nats_getD, hf, List.getD_eq_getElem?_getD, List.getElem?_append_right (by omega), Nat.add_sub_cancel_left, ← List.getD_eq_getElem?_getD]
  obtain ⟨m', hg, h1, h2, h3⟩ := search_found (text := nats (flat (done ++ p :: rest))) (p := (flat done).length) (lim := (nats (flat (done ++ p :: rest))).size) hp
    (by have := g 0; simp only [Nat.add_zero] at this; rw [this]; cases p.1 <;> simp) (by rw [g 1]; rfl)
    (by
      intro j hj
      rw [Nat.add_assoc, g (2 + j), show 2 + j = j + 1 + 1 by omega]
      simp only [List.length_map] at hj
      simp [hj, List.getElem?_append_left])
    (by
      rw [Nat.add_assoc, g (2 + _), show 2 + (List.map (fun x => UInt8.toNat x) p.snd).length = p.2.length + 1 + 1 by simp; omega]
      simp)
    (by rw [nats_size, hf]; simp; omega)
  refine run_end hg ?_ (by rw [h1]; rfl) ?_ (.inl h1)
  · have : (p.2.map (·.toNat)).length ≤ 1000000 := by rw [hf] at hs; simp at hs ⊢; omega
    have h64 : (2 : Nat) ^ 64 = 18446744073709551616 := by decide
    omega
  · rw [h1]
    exact hQ m' h2 (by rw [h3, hd])
theorem next_none {b : List UInt8} {t : Tok} {Q : Option Sre.M → Shared → Prop} (hQ : Q none s) : wpAny (model pw w) A (reNextFound (tgt b t) b.length false) Q E s := by
  unfold reNextFound
  obtain ⟨m', hg, h1⟩ := search_none (text := nats b) (lim := b.length)
  show wpAny _ _ (reRunToEnd (Sre.forSearch qcode (nats b) 0 b.length (nats b).size false)) _ _ _
  rw [nats_size]
  refine run_end hg (by decide) (by rw [h1]; rfl) ?_ (.inr h1)
  rw [h1]
  exact hQ
end
end XnPatText
theorem rstXnLoop (M : PySem.Model) (A : PySem.Around) (env : PySem.Env) (s : PySem.Shared) : True := by
  first
  | (have h : PySem.wpAny M A (PySem.eval (.Constant .none 0 ⟨0, 0, 0, 0⟩) env) (fun _ _ => True) (fun _ _ => True) s := by (walk1; fail)
     trivial)
  | (w_top off
     trivial)
section XnLoopText
open PySem PySem.W PySem.W.X PyProof.Rows
open PySem.Builtin PySem.Builtin.Re
set_option maxRecDepth 100000
set_option maxHeartbeats 4000000
set_option linter.all false
section
variable {w : World} {A : Around} {E : Value → Shared → Prop} {s : Shared}
theorem St.upd {s s' : Shared} {a : Addr} {f : Obj → Obj} (x : St s s') (ha : s.heap.get? a = none) : St s { s' with heap := s'.heap.update a f } :=
  ⟨fun b o e => Heap.get?_update_of_ne f (fun q => by rw [q, e] at ha; cases ha) (x.keep b o e), x.gens, x.drawn, x.os⟩
theorem St.tok {s s' : Shared} {k : Nat} (x : St s s') : St s { s' with toks := k } := ⟨x.keep, x.gens, x.drawn, x.os⟩
theorem St.push {s s' : Shared} {o : Obj} (x : St s s') : St s { s' with heap := s'.heap.push o } := ⟨fun b o e => Heap.get?_push_of_some _ (x.keep b o e), x.gens, x.drawn, x.os⟩
theorem nats_extract (b : List UInt8) (i j : Nat) : ((nats b).extract i j).map (·.toUInt8) = ((b.drop i).take (j - i)).toArray := by
  unfold nats
  apply Array.ext'
  simp [List.map_drop, List.map_take, Function.comp_def]
theorem slice_bytes {b : List UInt8} {i j : Nat} {Q : Value → Shared → Prop} (hs : b.length ≤ 1000000) (h : Q (.bytes ((b.drop i).take (j - i)).toArray s.toks) { s with toks := s.toks + 1 }) : wpAny (model pw w) A (reSlice (nats b) 1 i j) Q E s := by
  unfold reSlice
  rw [if_neg (by decide), nats_extract]
  refine wpAny_mkBytes h ?_
  rw [sizeLine_eq]; simp; omega
noncomputable def loopArgs (b : List UInt8) (t u : Tok) (n : Int) (k : Nat) (a : Addr) : List Value := [.ref 43, .bytes b.toArray t, .bytes #[] u, rawInt 0, rawInt 0, rawInt n, rawInt k, rawInt k, .bool false, .ref a, .bool false]
theorem loop_quiet {args : Args} : (Code.builtin "re.Pattern.sub.loop" args).quiet = true := plainId_quiet (by decide +kernel) args
theorem under_loop {args : Args} : A.under (.builtin "re.Pattern.sub.loop" args) = A.in1 := Around.under_plainId (by decide +kernel) args
noncomputable def Pcs (xs : Array Value) (l : List (List UInt8 × Tok)) : Prop := xs = (l.map bv).toArray
theorem literal_ok {b : Array UInt8} {u : Tok} {Q : Unit → Shared → Prop} (h : Q () s) : wpAny (model pw w) A (reLiteralCannotBeTurned (.bytes b u)) Q E s := by
  unfold reLiteralCannotBeTurned
  refine wpAny_bind (wpAny_of_eq (a := none) (by kernel_rfl) ?_)
  rw [if_pos (by rfl)]
  refine wpAny_bind (wpAny_of_eq KBy.isInstance_eq ?_)
  exact wpAny_pure h
theorem sub_loop {s₀ : Shared} {a : Addr} {t u : Tok} {R : Result → Shared → Prop} (W : Wd w s₀.heap) (ha : s₀.heap.get? a = none) :
    ∀ (rest done : List (Bool × List UInt8)) (l : List (List UInt8 × Tok)) (n : Int) (s : Shared), (∀ p ∈ rest, InB p) → (flat (done ++ rest)).length ≤ 1000000 → St s₀ s →
      (∃ k, s.heap.get? a = some ⟨.type "list", none, .seq (l.map bv).toArray k, #[]⟩) → l.length = 2 * done.length → (l.map (·.1)).flatten = brs done → done.length ≤ (flat done).length →
      (∀ s' t', St s₀ s' → R (.ok (.ret (.bytes (brs (done ++ rest)).toArray t'))) s') →
      codeAny (model pw w) A (.builtin "re.Pattern.sub.loop" ⟨loopArgs (flat (done ++ rest)) t u n (flat done).length a, []⟩) R s
  | p :: rest, done, l, n, s, hi, hs, S, ⟨k, ho⟩, hl, hb, hdl, hq => by
    refine codeAny_builtin FX.entry_loop ?_
    rw [under_loop]
    have hfl : flat (done ++ p :: rest) = flat done ++ (stB p ++ flat rest) := by simp [flat]
    have hds : (flat done).length ≤ 1000000 := by rw [hfl] at hs; simp at hs; omega
    show wpAny _ _ (reWholeTarget (.ref 43) _ >>= _) _ _ _
    refine wpAny_bind (whole_tgt (t := t) (W.keeps S.keep) ?_)
    show wpAny _ _ (reLiteralCannotBeTurned _ >>= _) _ _ _
    refine wpAny_bind (literal_ok ?_)
    show wpAny _ _ (reNextFound _ (flat done).length false >>= _) _ _ _
    refine wpAny_bind (next_found (hi p (by simp)) hs fun m h1 h2 => ?_)
    show wpAny _ _ (if (flat done).length < m.start then _ else _) _ _ _
    rw [if_pos (by omega)]
    refine wpAny_bind (slice_bytes hs ?_)
    have hpiece : ((flat (done ++ p :: rest)).drop (flat done).length).take (m.start - (flat done).length) = [if p.1 then 40 else 41] := by
      rw [h1, hfl, List.drop_left, Nat.add_sub_cancel_left]; simp [stB]
    rw [Int.toNat_natCast, hpiece]
    refine wpAny_bind (wpAny_updateSeq ho rfl ?_ (by rw [sizeLine_eq]; simp; omega) (by rw [sizeLine_eq]; simp; omega))
    show wpAny _ _ (updateSeq a _ >>= _) _ _ _
    refine wpAny_bind (wpAny_updateSeq (Heap.get?_update_self _ ho rfl) rfl ?_ (by rw [sizeLine_eq]; simp; omega) (by rw [sizeLine_eq]; simp; omega))
    refine wpAny_pure ⟨loop_quiet, ?_⟩
    have := sub_loop (t := t) (u := u) (R := R) W ha rest (done ++ [p]) (l ++ [([if p.1 then 40 else 41], s.toks), ([], u)]) (n + 1)
      { s with heap := (s.heap.update a (Obj.mapSeq fun x => x.push (.bytes [if p.1 then 40 else 41].toArray s.toks))).update a (Obj.mapSeq fun x => x.push (.bytes #[] u)), toks := s.toks + 1 }
      (fun q hq => hi q (by simp [hq])) (by rwa [List.append_assoc]) ((St.upd (St.upd S.tok ha) ha))
      ⟨k + 1 + 1, by
        refine (Heap.get?_update_self _ (Heap.get?_update_self _ ho rfl) rfl).trans ?_
        simp [Obj.mapSeq, bv]⟩ (by simp; omega) (by simp [hb, brs]) (by simp [flat, stB] at hdl ⊢; omega) (by rwa [List.append_assoc])
    rw [List.append_assoc, ← h2] at this
    have hm : (m.handed == m.start) = false := by rw [h1, h2]; simp [flat, stB]
    unfold loopArgs at this
    rw [hm]
    exact this
  | [], done, l, n, s, hi, hs, S, ⟨k, ho⟩, hl, hb, hdl, hq => by
    rw [List.append_nil] at hs hq ⊢
    refine codeAny_builtin FX.entry_loop ?_
    rw [under_loop]
    show wpAny _ _ (reWholeTarget (.ref 43) _ >>= _) _ _ _
    refine wpAny_bind (whole_tgt (t := t) (W.keeps S.keep) ?_)
    show wpAny _ _ (reLiteralCannotBeTurned _ >>= _) _ _ _
    refine wpAny_bind (literal_ok ?_)
    show wpAny _ _ (reNextFound _ (flat done).length false >>= _) _ _ _
    refine wpAny_bind (next_none ?_)
    show wpAny _ _ (if (flat done).length < (nats (flat done)).size then _ else _) _ _ _
    rw [if_neg (by rw [nats_size]; omega)]
    refine wpAny_bind (slice_bytes hs ?_)
    refine wpAny_bind (wpAny_seqItems ho rfl ?_)
    rw [show ((flat done).drop 0).take (0 - 0) = [] by simp]
    by_cases hn : l = []
    · subst hn
      show wpAny _ _ (if (true : Bool) = true then _ else _) _ _ _
      rw [if_pos rfl]
      have hd : done = [] := List.length_eq_zero_iff.mp (by simp only [List.length_nil] at hl; omega)
      subst hd
      refine wpAny_pure ?_
      exact hq _ _ S.tok
    · have hl0 : 0 < l.length := List.length_pos_iff.mpr hn
      rw [if_neg (by simp [hn])]
      show wpAny _ _ (call (.builtin "bytes.join") [_, .ref a] >>= _) _ _ _
      have hlen : (brs done).length ≤ 1000000 := by unfold brs; simp; omega
      refine wpAny_bind (bytes_join ho rfl (by omega) (by rw [hb]; omega) fun t' k' => ?_)
      rw [hb]
      exact wpAny_pure (hq _ _ (St.tok (St.tok S)))
end
end XnLoopText
theorem rstXnPd (M : PySem.Model) (A : PySem.Around) (env : PySem.Env) (s : PySem.Shared) : True := by
  first
  | (have h : PySem.wpAny M A (PySem.eval (.Constant .none 0 ⟨0, 0, 0, 0⟩) env) (fun _ _ => True) (fun _ _ => True) s := by (walk1; fail)
     trivial)
  | (w_top off
     trivial)
section GXnPd
open PySem PySem.W PySem.W.X PyProof.Rows
open PySem.Builtin PySem.Builtin.Re
local macro_rules | `(tactic| walk_at "eval Name") => `(tactic| first | refine nm_gl (by assumption) (by assumption) (by rfl) ?_ | refine nm_bl (by assumption) (by assumption) (by rfl) ?_)
section XnPdText
open PySem PySem.W PySem.W.X PyProof.Rows
open PySem.Builtin PySem.Builtin.Re
set_option maxRecDepth 100000
set_option maxHeartbeats 4000000
set_option linter.all false
section
variable {w : World} {A : Around} {E : Value → Shared → Prop} {s : Shared}
theorem pat_type {s : Shared} (W : Wd w s.heap) : s.TypeIs (.ref 43) "re.Pattern" := ⟨_, W.at 43 _ rfl, rfl⟩
theorem get_new (h : Heap) : h.get? h.objs.size = none := by
  cases e : h.get? h.objs.size with
  | none => rfl
  | some o => exact absurd (Heap.lt_size e) (Nat.lt_irrefl _)
theorem pat_sub {l : List (Bool × List UInt8)} {t u : Tok} {Q : Value → Shared → Prop} (W : Wd w s.heap) (hi : ∀ p ∈ l, InB p) (hs : (flat l).length ≤ 1000000)
    (hQ : ∀ s' t', St s s' → Q (.bytes (brs l).toArray t') s') : wpAny (model pw w) A (call (.builtin "re.Pattern.sub") [.ref 43, .bytes #[] u, .bytes (flat l).toArray t]) Q E s := by
  refine wpAny_call (codeAny_call_builtin FX.slot_pattern_sub.plain FX.entry_pattern_sub (FX.slot_pattern_sub.check _ _ _ _ _ _ _ _ (pat_type W) (FX.args_pattern_sub_3 _ _ _) ?_))
  show wpAny _ _ (reSubstitute "re.Pattern.sub" "sub" false ⟨[.ref 43, .bytes #[] u, .bytes (flat l).toArray t], []⟩) _ _ _
  unfold reSubstitute
  dsimp only
  refine wpAny_bind (wpAny_of_eq (a := [some (.bytes #[] u), some (.bytes (flat l).toArray t), none]) (by kernel_rfl) ?_)
  dsimp only
  refine wpAny_bind (wpAny_pure ?_)
  refine wpAny_bind (wpAny_specialOf (typeIs_bytes _ _ _) FX.look_call ?_)
  rw [if_neg (by simp)]
  refine wpAny_bind (wpAny_of_eq (a := none) (by kernel_rfl) ?_)
  refine wpAny_bind (wpAny_of_eq KBy.quiet_eq ?_)
  refine wpAny_bind (wpAny_of_eq (a := true) (by kernel_rfl) ?_)
  rw [if_neg (by simp), if_pos rfl]
  refine wpAny_bind (wpAny_pure ?_)
  dsimp only
  refine wpAny_bind (wpAny_holding (whole_tgt (t := t) W ?_))
  rw [if_neg (by decide)]
  refine wpAny_bind (wpAny_newList ?_)
  refine wpAny_pure ⟨loop_quiet, ?_⟩
  have := sub_loop (t := t) (u := u) (A := A) (R := fun r s' => match r with | .ok (.ret v) => Q v s' | .ok _ => False | .error e => E e s') W (get_new s.heap) l [] [] 0
    { s with heap := s.heap.push { cls := .type "list", data := .seq [].toArray } } hi hs (St.push (St.refl s)) ⟨_, Heap.get?_push_at rfl rfl⟩ rfl rfl (Nat.zero_le _) hQ
  exact this
noncomputable def ups (l : List (Bool × List UInt8)) : Nat := (l.filter fun p => p.1).length
noncomputable def downs (l : List (Bool × List UInt8)) : Nat := (l.filter fun p => !p.1).length
theorem brs_ups (l : List (Bool × List UInt8)) : (brs l).count 40 = ups l := by
  induction l with
  | nil => rfl
  | cons p l ih => obtain ⟨b, x⟩ := p; cases b <;> simp_all [brs, ups, List.count_cons]
theorem brs_downs (l : List (Bool × List UInt8)) : (brs l).count 41 = downs l := by
  induction l with
  | nil => rfl
  | cons p l ih => obtain ⟨b, x⟩ := p; cases b <;> simp_all [brs, downs, List.count_cons]
/-- a call of a function of the top: its body runs in a frame of its own -/
theorem call_own {q : Str} {scope : Scope} {cd : Value} {a : Addr} {o : Obj} {fd : FuncData} {body : List Stmt} {args : List Value} {binds : List (Str × Value)} {Q : Value → Shared → Prop}
    (W : Wd w s.heap) (hroom : A.depth < recursionLimit) (ho : s.heap.get? a = some o) (hdata : o.data = .func fd) (hcd : s.heap.CodeRec fd.code fd.qualname) (hbody : fd.body = .stmts body) (hbind : BindsTo s fd ⟨args, []⟩ binds)
    (henv : callEnv fd s.heap.objs.size a = envOf q scope s.heap.objs.size a cd)
    (hloc : ∀ x ∈ binds, fd.scope.names.lookup x.1 = some .local)
    (h : ∀ h₁, Fr s.heap s.heap.objs.size h₁ (fun x => binds.reverse.lookup x) →
      wpAny (model pw w) (A.deeper (envOf q scope s.heap.objs.size a cd)) (execs body (envOf q scope s.heap.objs.size a cd))
        (fun f s' => Q (match f with | .ret v => v | _ => .none) s') (fun _ _ => False) { s with heap := h₁, toks := s.toks + binds.length })
    (hco : fd.scope.isCoroutine = false := by rfl) (hgen : fd.scope.isGenerator = false := by rfl) (hk : fd.scope.kind = .function := by rfl) (hcell : ∀ x ∈ fd.scope.names, x.2 ≠ .cell := by decide) :
    wpAny (model pw w) A (call (.ref a) args) Q E s := by
  refine wpAny_call (codeAny_call_def hroom ho hdata W.nolimit hcd hbody hbind hcell hloc (fun h₁ hns hkeep => ?_) hco hgen hk)
  rw [henv]
  exact wpAny_mono (h h₁ ⟨hns, hkeep, Nat.le_refl _⟩) (fun fl s' hl => hl) fun _ _ x => x.elim
theorem frStep {h₀ h h' : Heap} {L : Addr} {m : Str → Option Value} (F : Fr h₀ L h m) (k : ∀ b o, h.get? b = some o → h'.get? b = some o) : Fr h₀ L h' m :=
  ⟨let ⟨o, es, n, e, r⟩ := F.ns; ⟨o, es, n, k _ _ e, r⟩, fun b o e => k b o (F.keep b o e), F.above⟩
noncomputable def fdOf (o : Obj) : FuncData := match o.data with | .func fd => fd | _ => default
theorem paren_depth {l : List (Bool × List UInt8)} {t u : Tok} {d : Int} {Q : Value → Shared → Prop} (W : Wd w s.heap) (hA : Ar A 5) (hi : ∀ p ∈ l, InB p) (hs : (flat l).length ≤ 1000000)
    (hQ : ∀ s' t', St s s' → Q (.int (d + ups l - downs l) t') s') : wpAny (model pw w) A (call (.ref 51) [.bytes (flat l).toArray t, .int d u]) Q E s := by
  refine call_own (q := stName (stAt 4)) (scope := stScope (stAt 4)) (cd := .ref 50) (fd := fdOf (o51_p3 w.params)) (body := stBody (stAt 4)) (binds := [("data", .bytes (flat l).toArray t), ("depth", .int d u)]) W hA.room (W.at 51 _ rfl) rfl (W.code 50 _ _ _ _ rfl rfl rfl) rfl
    (.of_defaults (T := 44) rfl (W.at 44 _ rfl) rfl (h₁ := by rfl) (h₂ := by rfl)) rfl (locs (by rfl)) (fun h₁ FF => ?_) (hcell := by rw [show (fdOf (o51_p3 w.params)).scope = stScope (stAt 4) from rfl]; decide)
  show wpAny _ _ (execs (_ :: _) _) _ _ _
  walk
  refine getMethod_builtin (pat_type (W.keeps FF.keep)) FX.plainAttrs_pattern FX.slot_pattern_sub FX.type_pattern_sub (fun b e => by cases e; exact ⟨_, (W.keeps FF.keep).at 43 _ rfl, rfl⟩) ?_
  dsimp only
  walk
  refine pat_sub (W.keeps FF.keep) hi hs fun s' t' S' => ?_
  have FF' := frStep FF S'.keep
  clear FF
  walk
  refine getMethod_builtin (typeIs_bytes _ _ _) FB.plainAttrs_bytes FX.slot_bytes_count FX.type_bytes_count (fun b e => by cases e) ?_
  dsimp only
  walk
  refine bytes_count fun t1 k1 => ?_
  walk
  refine getMethod_builtin (typeIs_bytes _ _ _) FB.plainAttrs_bytes FX.slot_bytes_count FX.type_bytes_count (fun b e => by cases e) ?_
  dsimp only
  walk
  refine bytes_count fun t2 k2 => ?_
  walk
  rw [brs_ups, brs_downs]
  exact hQ _ _ ⟨Fr.keep (by assumption), S'.gens, S'.drawn, S'.os⟩
theorem paren_depth0 {l : List (Bool × List UInt8)} {t : Tok} {Q : Value → Shared → Prop} (W : Wd w s.heap) (hA : Ar A 5) (hi : ∀ p ∈ l, InB p) (hs : (flat l).length ≤ 1000000)
    (hQ : ∀ s' t', St s s' → Q (.int (0 + ups l - downs l) t') s') : wpAny (model pw w) A (call (.ref 51) [.bytes (flat l).toArray t]) Q E s := by
  refine call_own (q := stName (stAt 4)) (scope := stScope (stAt 4)) (cd := .ref 50) (fd := fdOf (o51_p3 w.params)) (body := stBody (stAt 4)) (binds := [("data", .bytes (flat l).toArray t), ("depth", .int 0 335)]) W hA.room (W.at 51 _ rfl) rfl (W.code 50 _ _ _ _ rfl rfl rfl) rfl
    (.of_defaults (T := 44) rfl (W.at 44 _ rfl) rfl (h₁ := by rfl) (h₂ := by rfl)) rfl (locs (by rfl)) (fun h₁ FF => ?_) (hcell := by rw [show (fdOf (o51_p3 w.params)).scope = stScope (stAt 4) from rfl]; decide)
  show wpAny _ _ (execs (_ :: _) _) _ _ _
  walk
  refine getMethod_builtin (pat_type (W.keeps FF.keep)) FX.plainAttrs_pattern FX.slot_pattern_sub FX.type_pattern_sub (fun b e => by cases e; exact ⟨_, (W.keeps FF.keep).at 43 _ rfl, rfl⟩) ?_
  dsimp only
  walk
  refine pat_sub (W.keeps FF.keep) hi hs fun s' t' S' => ?_
  have FF' := frStep FF S'.keep
  clear FF
  walk
  refine getMethod_builtin (typeIs_bytes _ _ _) FB.plainAttrs_bytes FX.slot_bytes_count FX.type_bytes_count (fun b e => by cases e) ?_
  dsimp only
  walk
  refine bytes_count fun t1 k1 => ?_
  walk
  refine getMethod_builtin (typeIs_bytes _ _ _) FB.plainAttrs_bytes FX.slot_bytes_count FX.type_bytes_count (fun b e => by cases e) ?_
  dsimp only
  walk
  refine bytes_count fun t2 k2 => ?_
  walk
  rw [brs_ups, brs_downs]
  exact hQ _ _ ⟨Fr.keep (by assumption), S'.gens, S'.drawn, S'.os⟩
end
end XnPdText
end GXnPd
theorem rstXnSup (M : PySem.Model) (A : PySem.Around) (env : PySem.Env) (s : PySem.Shared) : True := by
  first
  | (have h : PySem.wpAny M A (PySem.eval (.Constant .none 0 ⟨0, 0, 0, 0⟩) env) (fun _ _ => True) (fun _ _ => True) s := by (walk1; fail)
     trivial)
  | (w_top off
     trivial)
section XnSupText
open PySem PySem.W PySem.W.X PyProof.Rows
set_option maxRecDepth 100000
set_option maxHeartbeats 4000000
set_option linter.all false
namespace FX
theorem slot_wd_get : Slot "wrapper_descriptor" "__get__" "wrapper_descriptor.__get__" := .of (owner := "wrapper_descriptor") (n := "__get__") (by rw [typeLookup_type, builtinLookup_eq_fast]; kernel_rfl) (by decide +kernel) (by decide +kernel) (by decide +kernel)
  (by first | exact .inl (by decide +kernel) | exact .inr (by decide +kernel)) (by rw [isSubtype_type]; kernel_rfl)
theorem entry_wd_get : entryFor table "wrapper_descriptor.__get__" = some Builtin.«wrapper_descriptor.__get__» := entryFor_of_tree (by kernel_rfl)
theorem args_wd_get (a b c : Value) : argsOk "wrapper_descriptor.__get__" ⟨[a, b, c], []⟩ := by unfold argsOk; kernel_rfl
theorem type_list_len : typeOf (.builtin "list.__len__") = pure (.type "wrapper_descriptor") := by show builtinType _ = _; rw [builtinType_eq_fast]; kernel_rfl
theorem type_list_init : typeOf (.builtin "list.__init__") = pure (.type "wrapper_descriptor") := by show builtinType _ = _; rw [builtinType_eq_fast]; kernel_rfl
end FX
noncomputable def rowObj (d : Addr) (xs : Array Value) (n : Nat) : Obj := ⟨.ref 131, some d, .seq xs n, #[]⟩
noncomputable def mwObj (id : String) (x : Addr) : Obj := { cls := .type "method-wrapper", data := .fields #[.builtin id, .ref x] }
section
variable {w : World} {A : Around} {E : Value → Shared → Prop} {h : Heap} {g : Array GenState} {d : Drawn} {t : Nat} {os : OsState}
theorem super_ga {so x dd : Addr} {xs : Array Value} {n : Nat} {id : String} {name : Str} {tk : Tok} {Q : Fin → Shared → Prop} (W : Wd w h) (hx : h.get? x = some (rowObj dd xs n))
    (hso : h.get? so = some { cls := .type "super", dict := none, data := .fields #[.ref 131, .ref x, .ref 131], slots := #[] })
    (hf : alongIn (kTop w.params) name [.type "list", .type "object"] = some (some (.builtin id))) (hty : typeOf (.builtin id) = pure (.type "wrapper_descriptor"))
    (hid : id = "list.__len__" ∨ id = "list.__init__") (hx131 : x ≠ 131) (hn : (name == ("__class__" : Str)) = false)
    (hq : Q (.done (.ret (.ref h.objs.size))) ⟨h.push (mwObj id x), g, d, t, os⟩) :
    wpAny (model pw w) A (Builtin.«super.__getattribute__» ⟨[.ref so, .str name tk], []⟩) Q E ⟨h, g, d, t, os⟩ := by
  have hlk := FX.slot_wd_get.lookup
  have hne : (Value.ref x == Value.ref 131) = false := by simp [hx131]
  have hTf : (⟨h, g, d, t, os⟩ : Shared).TypeIs (.builtin id) "wrapper_descriptor" := hty
  have hdt : ({ cls := .type "super", dict := none, data := .fields #[.ref 131, .ref x, .ref 131], slots := #[] } : Obj).data = .fields #[.ref 131, .ref x, .ref 131] := rfl
  have f0 : (#[.ref 131, .ref x, .ref 131] : Array Value)[0]? = some (.ref 131) := rfl
  have f1 : (#[.ref 131, .ref x, .ref 131] : Array Value)[1]? = some (.ref x) := rfl
  have f2 : (#[.ref 131, .ref x, .ref 131] : Array Value)[2]? = some (.ref 131) := rfl
  have hno : Looks (model pw w) h (opaqueClassAbove (.ref 131)) none := looks_opaque W.K (by kernel_rfl)
  have hC : Looks (model pw w) h (mroOf (.ref 131)) [.ref 131, .type "list", .type "object"] := Looks.of_peek W.K (by kernel_rfl)
  have hl : (([.ref 131, .type "list", .type "object"] : List Value).dropWhile (· != .ref 131)).drop 1 = [.type "list", .type "object"] := by decide
  have hsub : Looks (model pw w) h (isSubtype (.ref 131) (.type "list")) true := looks_mroIn W.K (by kernel_rfl)
  unfold Builtin.«super.__getattribute__»
  repeat (first
    | (with_reducible refine wpAny_field hso hdt f0 ?_) | (with_reducible refine wpAny_field hso hdt f1 ?_) | (with_reducible refine wpAny_field hso hdt f2 ?_)
    | (with_reducible refine ks_wpAny_notOpaque hno ?_)
    | (with_reducible refine Looks.at hC ?_; rw [hl])
    | (refine ks_forIn_along W.K (fun _ _ => rfl) rfl ?_ hf)
    | (with_reducible refine wpAny_typeOf hTf ?_)
    | (with_reducible refine wpAny_call_entry FX.slot_wd_get hTf FX.entry_wd_get ?_ (FX.args_wd_get _ _ _))
    | (with_reducible refine ⟨_, rfl, ?_⟩)
    | (simp only [hn, hne, Bool.or_false, Bool.false_eq_true, if_false])
    | wp_step
    | dsimp only)
  have hown : ".".intercalate (id.cutAt '.').dropLast = "list" := by rcases hid with rfl | rfl <;> decide +kernel
  rw [hown]
  refine Looks.at (h := h) hsub ?_
  repeat (first | (with_reducible refine wpAny_newObj_type ?_ (by size_fits)) | (with_reducible refine ⟨_, rfl, ?_⟩) | wp_step | dsimp only)
  exact hq
theorem getMethod_super {so x dd : Addr} {xs : Array Value} {n : Nat} {id : String} {name : Str} {pl : Sem Bool} {Q : Value × List Value → Shared → Prop} (W : Wd w h) (hx : h.get? x = some (rowObj dd xs n))
    (hso : h.get? so = some { cls := .type "super", dict := none, data := .fields #[.ref 131, .ref x, .ref 131], slots := #[] })
    (hf : alongIn (kTop w.params) name [.type "list", .type "object"] = some (some (.builtin id))) (hty : typeOf (.builtin id) = pure (.type "wrapper_descriptor"))
    (hid : id = "list.__len__" ∨ id = "list.__init__") (hx131 : x ≠ 131) (hn : (name == ("__class__" : Str)) = false)
    (hq : Q (.ref h.objs.size, []) ⟨h.push (mwObj id x), g, d, t + 1, os⟩) :
    wpAny (model pw w) A (getMethod (.ref so) name pl) Q E ⟨h, g, d, t, os⟩ := by
  have hlk := F.ks_slot_super_ga.lookup
  have hcan := F.ks_canon_super_ga
  have hT : ∀ t', (⟨h, g, d, t', os⟩ : Shared).TypeIs (.ref so) "super" := fun _ => ⟨_, hso, rfl⟩
  unfold getMethod
  refine wpAny_bind (wpAny_specialOf (hT _) hlk ?_)
  show wpAny _ _ (if (Manifest.canonical "super.__getattribute__" != "object.__getattribute__") = true then _ else _) _ _ _
  rw [if_pos hcan]
  unfold getAttr getAttrBy
  refine wpAny_bind (wpAny_bind (wpAny_mkText (wpAny_holding (wpAny_bind (wpAny_typeOf (hT _) (wpAny_bind (wpAny_of_eq hlk ?_)))))))
  show wpAny _ _ (getAttrByItsOwn (.ref so) (.str name t) (.type "super") (.builtin "super.__getattribute__") true false) _ _ _
  unfold getAttrByItsOwn hookBefore callGetattribute boundAndCalled
  refine wpAny_bind (wpAny_of_eq (show (if onTheHeap (.type "super") then typeLookup (.type "super") "__getattr__" else pure none) = pure none from rfl) ?_)
  refine wpAny_bind (wpAny_attempt (wpAny_holding ?_))
  show wpAny _ _ (bindSpecial (.builtin "super.__getattribute__") (.ref so) >>= _) _ _ _
  refine wpAny_bind (wpAny_of_eq (F.ks_slot_super_ga.bind _) ?_)
  refine wpAny_mono (Q := fun v s' => v = .ref h.objs.size ∧ s' = ⟨h.push (mwObj id x), g, d, t + 1, os⟩) (E := fun _ _ => False)
    (wpAny_call_entry F.ks_slot_super_ga (hT _) F.ks_entry_super_ga (super_ga W hx hso hf hty hid hx131 hn ⟨_, rfl, rfl, rfl⟩) (F.ks_gaArgs_super _ _)) (fun v s' hv => ?_) fun _ _ z => z.elim
  obtain ⟨rfl, rfl⟩ := hv
  exact wpAny_pure (wpAny_pure hq)
/-- a call of a bound built-in -/
theorem call_bound {id : String} {x b : Addr} {bi : Builtin} {s : Shared} {Q : Value → Shared → Prop} (hb : s.heap.get? b = some (mwObj id x)) (hchk : wpAny (model pw w) A.in1 (checkBoundCall id ⟨[.ref x], []⟩) (fun _ s' => s' = s) E s) (hq : plainId id = true) (he : entryFor table id = some bi)
    (h : wpAny (model pw w) A.in1 (bi ⟨[.ref x], []⟩) (fun fin s' => ∃ v, fin = .done (.ret v) ∧ Q v s') E s) : wpAny (model pw w) A (call (.ref b) []) Q E s := by
  refine wpAny_call (codeAny_of_tree ?_)
  show wpAny _ A.in1 (callAny (.ref b) ⟨[], []⟩) _ _ _
  unfold callAny
  refine wpAny_bind (wpAny_load hb ?_)
  show wpAny _ _ (checkBoundCall id ⟨[.ref x], []⟩ >>= _) _ _ _
  refine wpAny_bind (wpAny_mono hchk (fun _ s' e => ?_) fun _ _ e => e)
  subst e
  refine wpAny_pure ⟨plainId_quiet hq _, codeAny_builtin he ?_⟩
  rw [Around.under_plainId hq]
  refine wpAny_mono h (fun fin s' hf => ?_) fun _ _ e => e
  obtain ⟨v, rfl, hv⟩ := hf
  exact hv
end
end XnSupText
theorem rstXnAcc (M : PySem.Model) (A : PySem.Around) (env : PySem.Env) (s : PySem.Shared) : True := by
  first
  | (have h : PySem.wpAny M A (PySem.eval (.Constant .none 0 ⟨0, 0, 0, 0⟩) env) (fun _ _ => True) (fun _ _ => True) s := by (walk1; fail)
     trivial)
  | (w_top off
     trivial)
section XnAccText
open PySem PySem.W PySem.W.X PyProof.Rows
set_option maxRecDepth 100000
set_option maxHeartbeats 4000000
set_option linter.all false
section
variable {w : World} {A : Around} {E : Value → Shared → Prop} {s : Shared}
theorem callWith_bound {pos : Pos} {id : String} {x b : Addr} {Q : Value → Shared → Prop} (hb : s.heap.get? b = some (mwObj id x)) (h : wpAny (model pw w) A (call (.ref b) []) Q E s) :
    wpAny (model pw w) A (callWith pos (.ref b) [] [] []) Q E s := by
  unfold callWith
  refine wpAny_bind (wpAny_holding (evalArgs_kw_nil rfl (wpAny_evalAll_nil ?_)))
  refine wpAny_bind (wpAny_standAt ?_)
  refine wpAny_bind ?_
  unfold keeperOf
  refine wpAny_bind (wpAny_load hb (wpAny_pure ?_))
  show wpAny _ _ (call (.ref b) [] [] >>= _) _ _ _
  refine wpAny_bind (wpAny_mono h (fun r s' hr => ?_) fun _ _ e => e)
  exact wpAny_bind (wpAny_holding (wpAny_point (wpAny_pure hr)))
theorem row_ne {x dd : Addr} {xs : Array Value} {n : Nat} (W : Wd w s.heap) (hx : s.heap.get? x = some (rowObj dd xs n)) : x ≠ 131 := by
  rintro rfl
  have e := W.at 131 _ rfl
  rw [hx] at e
  have := congrArg (fun o => o.map (·.cls)) e
  cases this
theorem chk_len {x : Addr} : checkBoundCall "list.__len__" ⟨[.ref x], []⟩ = pure () := by kernel_rfl
theorem chk_init {x : Addr} : checkBoundCall "list.__init__" ⟨[.ref x], []⟩ = pure () := by kernel_rfl
noncomputable def envC (q : Str) (scope : Scope) (L a : Addr) (cd : Value) : Env := envX q scope L a cd [("__class__", 55)]
theorem part_count {r d : Addr} {xs : Array Value} {n : Nat} {Q : Value → Shared → Prop} (W : Wd w s.heap) (hA : Ar A 5) (hr : s.heap.get? r = some (rowObj d xs n))
  (hQ : ∀ s' t, St s s' → Q (.int xs.size t) s') :
  wpAny (model pw w) A (call (.ref 128) [.ref r]) Q E s := by
  have h131 := row_ne W hr
  refine wpAny_call (ks_codeAny_call_defAt (fd := fdOf (o128_p6 w.params)) (body := stBody (methAt 8)) (binds := [("self", .ref r)]) hA.room (W.at 128 _ rfl) rfl W.nolimit (W.code 127 _ _ _ _ rfl rfl rfl) rfl (.of_eq rfl)
    (by rw [show (fdOf (o128_p6 w.params)).scope = stScope (methAt 8) from rfl]; decide) (locs (by rfl)) (fun h₁ hns hk => ?_))
  show PySem.wpAt _ (A.deeper (envC "_Accumulator.part_count" (stScope (methAt 8)) s.heap.objs.size 128 (.ref 127))) (.func (stBody (methAt 8)) (envC "_Accumulator.part_count" (stScope (methAt 8)) s.heap.objs.size 128 (.ref 127))) (execs (_ :: _) (envC "_Accumulator.part_count" (stScope (methAt 8)) s.heap.objs.size 128 (.ref 127))) _ _ _
  refine ks_wpAt_execs_cons ?_
  refine ks_wpAt_Return_some ?_
  refine ks_wpAt_MethodCall ?_
  refine ks_wpAt_super_base (f := 128) (cc := 127) (fd := fdOf (o128_p6 w.params)) rfl rfl rfl rfl (hk _ _ (W.at 128 _ rfl)) rfl rfl rfl (hk _ _ (W.at 127 _ rfl)) rfl rfl (by decide +kernel) (by decide +kernel) ?_
  refine ks_loadName_global rfl rfl (PySem.Calls.loadGlobal_builtin (W.g.keeps hk) (by rfl) (W.b.keeps hk) (by rfl) ⟨rfl, ?_⟩)
  refine wpAny_loadName_free rfl rfl rfl ⟨_, hk _ _ (W.at 55 _ rfl), rfl⟩ ?_
  refine wpAny_loadName_local rfl rfl hns rfl ?_
  refine ks_wpAny_isType_cls (hk _ _ (W.at 131 _ rfl)) rfl ⟨rfl, ?_⟩
  refine ks_wpAny_call_super (hk _ _ (W.at 131 _ rfl)) rfl (hk _ _ hr) rfl (fun c e => by cases e) ((looks_mroIn W.K (by kernel_rfl)).keeps hk) (fun h' e k => ?_)
  have W' : Wd w h' := (W.keeps hk).keeps k
  refine getMethod_super (id := "list.__len__") W' (k _ _ (hk _ _ hr)) e (by kernel_rfl) FX.type_list_len (.inl rfl) h131 (by decide) ?_
  show wpAny _ _ (callWith _ (.ref _) [] [] []) _ _ _
  refine callWith_bound (Heap.get?_push_at rfl rfl) ?_
  refine call_bound (Heap.get?_push_at rfl rfl) (wpAny_of_eq chk_len rfl) (by decide +kernel) F.entry_list_len ?_
  show wpAny _ _ (seqSize r >>= _) _ _ _
  refine wpAny_bind ?_
  unfold seqSize
  refine wpAny_bind (wpAny_loadPart_at (Heap.get?_push_of_some _ (k _ _ (hk _ _ hr))) (wpAny_pure ?_))
  refine wpAny_bind (wpAny_mkInt (wpAny_pure ⟨_, rfl, ?_⟩))
  exact hQ _ _ ⟨fun b o e => Heap.get?_push_of_some _ (k _ _ (hk _ _ e)), rfl, rfl, rfl⟩
theorem store_list : StoreFacts "list" [.type "list", .type "object"] "object.__setattr__" "object" where
  mro := F.mro_list
  slot := .of (owner := "object") (n := "__setattr__") (by rw [typeLookup_type, builtinLookup_eq_fast]; kernel_rfl) (by decide +kernel) (by decide +kernel) (by decide +kernel) (by first | exact .inl (by decide +kernel) | exact .inr (by decide +kernel)) (by rw [isSubtype_type]; kernel_rfl)
  entry := entryFor_of_tree (by kernel_rfl)
  kind := by decide +kernel
  split := by decide +kernel
  hasOwner := by decide
  args := fun a b c => by unfold argsOk; kernel_rfl
  passes := fun self => by kernel_rfl
theorem acc_init {x d : Addr} {n : Nat} {g : Heap} {Q : Value → Shared → Prop} (W : Wd w g) (hg : ∀ b o, g.get? b = some o → s.heap.get? b = some o) (hgx : g.get? x = none) (hgd : g.get? d = none) (hdx : d ≠ x) (hA : Ar A 6)
    (hr : s.heap.get? x = some (rowObj d #[] n)) (hd : s.heap.get? d = some { cls := .type "dict", data := .dict #[] })
    (hQ : ∀ s' n' k, (∀ b o, g.get? b = some o → s'.heap.get? b = some o) → s'.heap.get? x = some (rowObj d #[] n') → s'.heap.Ns1 d (fun y => if y = "_initial_size" then some (.int 0 k) else none) → s'.gens = s.gens → s'.drawn = s.drawn → s'.os = s.os → Q .none s') :
    wpAny (model pw w) A (call (.ref 68) [.ref x]) Q E s := by
  have W0 : Wd w s.heap := W.keeps hg
  have h131 := row_ne W0 hr
  have hgne : ∀ b o, g.get? b = some o → b ≠ x ∧ b ≠ d := fun b o e => ⟨fun q => (by rw [q, hgx] at e; cases e), fun q => (by rw [q, hgd] at e; cases e)⟩
  refine wpAny_call (ks_codeAny_call_defAt (fd := fdOf (o68_p6 w.params)) (body := stBody (methAt 0)) (binds := [("self", .ref x), ("initial_size", .int 0 360)]) hA.room (W0.at 68 _ rfl) rfl W0.nolimit (W0.code 67 _ _ _ _ rfl rfl rfl) rfl
    (.of_defaults (T := 60) rfl (W0.at 60 _ rfl) rfl (h₁ := by rfl) (h₂ := by rfl))
    (by rw [show (fdOf (o68_p6 w.params)).scope = stScope (methAt 0) from rfl]; decide) (locs (by rfl)) (fun h₁ hns hk => ?_))
  show PySem.wpAt _ (A.deeper (envC "_Accumulator.__init__" (stScope (methAt 0)) s.heap.objs.size 68 (.ref 67))) (.func (stBody (methAt 0)) (envC "_Accumulator.__init__" (stScope (methAt 0)) s.heap.objs.size 68 (.ref 67))) (execs (_ :: _) (envC "_Accumulator.__init__" (stScope (methAt 0)) s.heap.objs.size 68 (.ref 67))) _ _ _
  refine ks_wpAt_execs_cons ?_
  refine ks_wpAt_Assign_Attr ?_
  refine PySem.wpAt_of_wpAny ?_
  refine wpAny_Name (wpAny_loadName_local rfl rfl hns rfl ?_) (by decide)
  refine wpAny_Name (wpAny_loadName_local rfl rfl hns rfl ?_) (by decide)
  have W1 : Wd w h₁ := W0.keeps hk
  refine store_attr (mA := fun _ => none) (ns := []) store_list (W1.at 131 _ rfl) (W1.K |> fun K => (⟨_, _, _, K 130 _ rfl, rfl, strKeys_of (by rfl), fun _ => rfl⟩ : h₁.Ns 130 (nsFind (esOf (o130_p6 w.params))))) (by rfl) (by rfl)
    (by rw [typeLookup_type, builtinLookup_eq_fast]; kernel_rfl) h131 ⟨_, hk _ _ hr, rfl, fun c e => (by cases e), .inr ⟨d, rfl, hdx, Heap.Ns1.of_empty ⟨_, _, _, hk _ _ hd, rfl, fun e he => absurd he (by simp), fun _ => rfl⟩⟩⟩ (fun h₂ tk₂ hI hkeep hsame => ?_)
  obtain ⟨o₁, hx₁, hc₁, hd₁, hs₁, hdd⟩ := hsame _ (hk _ _ hr)
  have ho₁ : o₁ = rowObj d #[] n := by
    obtain ⟨a1, a2, a3, a4⟩ := o₁
    have := hdd d rfl
    simp only [rowObj] at *
    simp_all
  subst ho₁
  have hns2 : h₂.Ns1 d (fun y => if y = "_initial_size" then some (.int 0 360) else none) := by
    obtain ⟨o, ho, _, _, hd'⟩ := hI
    rw [hx₁] at ho
    cases ho
    rcases hd' with ⟨e, _⟩ | ⟨d', e, _, hn⟩
    · cases e
    · cases e; exact hn
  have k2 : ∀ b o, b ≠ x → b ≠ d → h₁.get? b = some o → h₂.get? b = some o := fun b o h1 h2 e => hkeep b o h1 (fun o₀ dx he hdx' => by rw [hk _ _ hr] at he; cases he; cases hdx'; exact h2) e
  have kg : ∀ b o, g.get? b = some o → h₂.get? b = some o := fun b o e => k2 b o (hgne b o e).1 (hgne b o e).2 (hk _ _ (hg _ _ e))
  have W2 : Wd w h₂ := W.keeps kg
  have hL : s.heap.objs.size ≠ x ∧ s.heap.objs.size ≠ d := ⟨fun q => Nat.lt_irrefl _ (q ▸ Heap.lt_size hr), fun q => Nat.lt_irrefl _ (q ▸ Heap.lt_size hd)⟩
  have hns' : h₂.Ns s.heap.objs.size _ := hns.at' fun o e => k2 _ _ hL.1 hL.2 e
  refine ks_wpAt_execs_cons ?_
  refine ks_wpAt_Expr_any ?_
  refine ks_wpAt_MethodCall ?_
  refine ks_wpAt_super_base (f := 68) (cc := 67) (fd := fdOf (o68_p6 w.params)) rfl rfl rfl rfl (W2.at 68 _ rfl) rfl rfl rfl (W2.at 67 _ rfl) rfl rfl (by decide +kernel) (by decide +kernel) ?_
  refine ks_loadName_global rfl rfl (PySem.Calls.loadGlobal_builtin W2.g (by rfl) W2.b (by rfl) ⟨rfl, ?_⟩)
  refine wpAny_loadName_free rfl rfl rfl ⟨_, W2.at 55 _ rfl, rfl⟩ ?_
  refine wpAny_loadName_local rfl rfl hns' rfl ?_
  refine ks_wpAny_isType_cls (W2.at 131 _ rfl) rfl ⟨rfl, ?_⟩
  refine ks_wpAny_call_super (W2.at 131 _ rfl) rfl hx₁ rfl (fun c e => by cases e) (looks_mroIn W2.K (by kernel_rfl)) (fun h' e k => ?_)
  refine getMethod_super (id := "list.__init__") (W2.keeps k) (k _ _ hx₁) e (by kernel_rfl) FX.type_list_init (.inr rfl) h131 (by decide) ?_
  show wpAny _ _ (callWith _ (.ref _) [] [] []) _ _ _
  refine callWith_bound (Heap.get?_push_at rfl rfl) ?_
  refine call_bound (Heap.get?_push_at rfl rfl) (wpAny_of_eq chk_init rfl) (by decide +kernel) F.entry_list_init ?_
  have hx4 : (h'.push (mwObj "list.__init__" x)).get? x = some (rowObj d #[] n) := Heap.get?_push_of_some _ (k _ _ hx₁)
  show wpAny _ _ (Builtin.List.listItems (.ref x) >>= _) _ _ _
  refine wpAny_bind ?_
  unfold Builtin.List.listItems
  refine wpAny_bind (wpAny_seqItems hx4 rfl (wpAny_pure ?_))
  show wpAny _ _ (updateSeq x _ >>= _) _ _ _
  refine wpAny_bind (wpAny_updateSeq hx4 rfl ?_)
  refine wpAny_bind (wpAny_letGo ?_)
  refine wpAny_pure ⟨_, rfl, ?_⟩
  show PySem.wpAt _ _ _ (execs [] _) _ _ _
  refine PySem.wpAt_of_wpAny (wpAny_pure ?_)
  have hup : ∀ b o, b ≠ x → h₂.get? b = some o → ((h'.push (mwObj "list.__init__" x)).update x (Obj.mapSeq fun _ => #[])).get? b = some o := fun b o hb e => Heap.get?_update_of_ne _ (Ne.symm hb) (Heap.get?_push_of_some _ (k _ _ e))
  refine hQ _ n 360 (fun b o e => hup b o (hgne b o e).1 (kg b o e)) ?_ ?_ rfl rfl rfl
  · refine (Heap.get?_update_self _ hx4 rfl).trans ?_
    rfl
  · obtain ⟨o', es, ep, e1, r⟩ := hns2
    exact ⟨o', es, ep, hup _ _ hdx e1, r⟩
theorem Ar.create {n : Nat} (h : Ar A (n + 1)) : Ar (A.under (.builtin "type.__call__" ⟨[.ref 131], []⟩)) n := by
  have hw : (Code.builtin "type.__call__" ⟨[.ref 131], []⟩).weight = 1 := by kernel_rfl
  have hu : (Code.builtin "type.__call__" ⟨[.ref 131], []⟩).cUnits = 1 := by kernel_rfl
  have he : (Code.builtin "type.__call__" ⟨[.ref 131], []⟩).envs = [] := by kernel_rfl
  obtain ⟨h1, h2, h3, l, h4⟩ := h
  refine ⟨h1, ?_, ?_, l, ?_⟩
  · show A.depth + (Code.builtin "type.__call__" ⟨[.ref 131], []⟩).weight + n ≤ 700
    omega
  · show A.units + (Code.builtin "type.__call__" ⟨[.ref 131], []⟩).cUnits + 20 * n ≤ 4000
    omega
  · show pushEnvs (Code.builtin "type.__call__" ⟨[.ref 131], []⟩).envs A.frames = _
    rw [he]; exact h4
theorem list_new {Q : Value → Shared → Prop} (W : Wd w s.heap) (h : Q (.ref (s.heap.objs.size + 1)) { s with heap := (s.heap.push { cls := .type "dict", data := .dict #[] }).push (rowObj s.heap.objs.size #[] 0) }) :
    wpAny (model pw w) A (call (.builtin "list.__new__") [.ref 131]) Q E s := by
  refine wpAny_call (codeAny_of_tree ?_)
  show wpAny _ A.in1 (do checkBuiltinCall "list.__new__" ⟨[.ref 131], []⟩; again (.builtin "list.__new__" ⟨[.ref 131], []⟩)) _ _ s
  have h2 : Looks (model pw w) s.heap (checkBuiltinCall "list.__new__" ⟨[.ref 131], []⟩) () := Looks.of_peek W.K (by kernel_rfl)
  refine wpAny_bind (h2 _ _ _ _ (fun _ _ e => e) (wpAny_pure ⟨plainId_quiet (by decide +kernel) _, codeAny_builtin_stack F.entry_list_new rfl fun p st => ?_⟩))
  dsimp only
  have h3 : Looks (model pw w) s.heap (isType (.ref 131)) true := Looks.of_peek W.K (by kernel_rfl)
  have h4 : Looks (model pw w) s.heap (isSubtype (.ref 131) (.type "list")) true := Looks.of_peek W.K (by kernel_rfl)
  simp only [owner_list_new]
  refine wpAny_bind (h3 _ _ _ _ (fun _ _ e => e) ?_)
  rw [if_neg (by decide)]
  refine wpAny_bind (h4 _ _ _ _ (fun _ _ e => e) ?_)
  rw [if_neg (by decide)]
  refine wpAny_bind (wpAny_pure ?_)
  rw [if_neg (by decide)]
  unfold newDict
  refine wpAny_bind (wpAny_newObj_type ?_ (by size_fits))
  dsimp only
  refine wpAny_bind ?_
  unfold newObj
  dsimp only
  rw [if_neg (by decide)]
  unfold newObjAsIs
  refine wpAny_bind (wpAny_alloc ?_)
  dsimp only
  have h5 : Looks (model pw w) s.heap (classHasDel 131) false := Looks.of_peek W.K (by kernel_rfl)
  refine wpAny_bind (h5 _ _ _ _ (fun _ _ e => Heap.get?_push_of_some _ (Heap.get?_push_of_some _ e)) ?_)
  rw [if_neg (by decide)]
  refine wpAny_pure ?_
  refine wpAny_pure ?_
  rw [Heap.size_push]
  exact h
theorem acc_new {Q : Value → Shared → Prop} (W : Wd w s.heap) (hA : Ar A 8) (hQ : ∀ s' a d n k, s.heap.get? a = none → s.heap.get? d = none → a ≠ d → St s s' → s'.heap.get? a = some (rowObj d #[] n) → s'.heap.Ns1 d (fun y => if y = "_initial_size" then some (.int 0 k) else none) → Q (.ref a) s') : wpAny (model pw w) A (call (.ref 131) []) Q E s := by
  refine wpAny_call (codeAny_of_tree ?_)
  show wpAny _ _ (callAny (.ref 131) ⟨[], []⟩) _ _ _
  unfold callAny
  refine wpAny_bind (wpAny_load (W.at 131 _ rfl) ?_)
  show wpAny _ _ (callAny.viaDunder (.ref 131) ⟨[], []⟩) _ _ _
  unfold callAny.viaDunder
  have h1 : Looks (model pw w) s.heap (specialOf (.ref 131) "__call__") (some (.builtin "type.__call__")) := Looks.of_peek W.K (by kernel_rfl)
  refine wpAny_bind (h1 _ _ _ _ (fun _ _ e => e) ?_)
  dsimp only
  refine wpAny_bind (wpAny_of_eq (F.bind_type_call _) ?_)
  dsimp only
  refine wpAny_bind (wpAny_pure ?_)
  rw [if_pos (by rfl)]
  refine wpAny_pure ⟨rfl, ?_⟩
  refine codeAny_of_tree ?_
  show wpAny _ _ (checkBuiltinCall "type.__call__" ⟨[.ref 131], []⟩ >>= fun _ => again _) _ _ _
  have h2 : Looks (model pw w) s.heap (checkBuiltinCall "type.__call__" ⟨[.ref 131], []⟩) () := Looks.of_peek W.K (by kernel_rfl)
  refine wpAny_bind (h2 _ _ _ _ (fun _ _ e => e) ?_)
  refine wpAny_pure ⟨Code.quiet_builtin _ (by decide +kernel), codeAny_builtin F.entry_type_call ?_⟩
  have hA7 : Ar (A.under (.builtin "type.__call__" ⟨[.ref 131], []⟩)) 7 := hA.create
  show wpAny _ (A.under (.builtin "type.__call__" ⟨[.ref 131], []⟩)) (mroOf (.ref 131) >>= _) _ _ _
  have h3 : Looks (model pw w) s.heap (mroOf (.ref 131)) [.ref 131, .type "list", .type "object"] := Looks.of_peek W.K (by kernel_rfl)
  refine wpAny_bind (h3 _ _ _ _ (fun _ _ e => e) ?_)
  show wpAny _ _ (Bind.madeBy (.ref 131) >>= _) _ _ _
  have h4 : Looks (model pw w) s.heap (Bind.madeBy (.ref 131)) (some "list.__new__") := Looks.of_peek W.K (by kernel_rfl)
  refine wpAny_bind (h4 _ _ _ _ (fun _ _ e => e) ?_)
  refine wpAny_bind (wpAny_pure ?_)
  dsimp only
  refine wpAny_bind (wpAny_holding ?_)
  show wpAny _ _ (call (.builtin "list.__new__") [.ref 131]) _ _ _
  refine list_new W ?_
  have kk : ∀ b o, s.heap.get? b = some o → ((s.heap.push { cls := .type "dict", data := .dict #[] }).push (rowObj s.heap.objs.size #[] 0)).get? b = some o := fun b o e => Heap.get?_push_of_some _ (Heap.get?_push_of_some _ e)
  have hnx : s.heap.get? (s.heap.objs.size + 1) = none := by
    cases e : s.heap.get? (s.heap.objs.size + 1) with
    | none => rfl
    | some o => exact absurd (Heap.lt_size e) (Nat.not_lt.mpr (Nat.le_succ _))
  have hx : ((s.heap.push { cls := .type "dict", data := .dict #[] }).push (rowObj s.heap.objs.size #[] 0)).get? (s.heap.objs.size + 1) = some (rowObj s.heap.objs.size #[] 0) := Heap.get?_push_at (by rw [Heap.size_push]) rfl
  have hd : ((s.heap.push { cls := .type "dict", data := .dict #[] }).push (rowObj s.heap.objs.size #[] 0)).get? s.heap.objs.size = some { cls := .type "dict", data := .dict #[] } := Heap.get?_push_of_some _ (Heap.get?_push_at rfl rfl)
  have W1 := W.keeps kk
  have h6 : Looks (model pw w) s.heap (isSubtype (.ref 131) (.ref 131)) true := Looks.of_peek W.K (by kernel_rfl)
  refine wpAny_bind ?_
  unfold isInstance
  refine wpAny_bind ?_
  show wpAny _ _ (do return (← loadPart (s.heap.objs.size + 1) (some headPart)).cls) _ _ _
  refine wpAny_bind (wpAny_loadPart_at hx (wpAny_pure ?_))
  refine h6 _ _ _ _ kk ?_
  rw [if_neg (by decide)]
  refine wpAny_bind (wpAny_holding ?_)
  unfold callSpecial? specialOf
  refine wpAny_bind (wpAny_bind ?_)
  show wpAny _ _ (do return (← loadPart (s.heap.objs.size + 1) (some headPart)).cls) _ _ _
  refine wpAny_bind (wpAny_loadPart_at hx (wpAny_pure ?_))
  have h7 : Looks (model pw w) s.heap (typeLookup (.ref 131) "__init__") (some (.ref 68)) := Looks.of_peek W.K (by kernel_rfl)
  refine h7 _ _ _ _ kk ?_
  dsimp only
  refine wpAny_holding ?_
  refine wpAny_bind (wpAny_bindSpecial_def (W1.at 68 _ rfl) rfl ?_)
  dsimp only
  refine wpAny_bind ?_
  refine acc_init W kk hnx (get_new _) (Nat.ne_of_lt (Nat.lt_succ_self _)) (hA7.le (by omega)) hx hd (fun s' n' k hk hx' hn' g1 d1 o1 => ?_)
  refine wpAny_pure ?_
  dsimp only
  rw [if_neg (by decide)]
  refine wpAny_pure ?_
  exact hQ _ _ _ _ _ hnx (get_new _) (Nat.ne_of_gt (Nat.lt_succ_self _)) ⟨hk, g1, d1, o1⟩ hx' hn'
end
end XnAccText
theorem rstXnRow (M : PySem.Model) (A : PySem.Around) (env : PySem.Env) (s : PySem.Shared) : True := by
  first
  | (have h : PySem.wpAny M A (PySem.eval (.Constant .none 0 ⟨0, 0, 0, 0⟩) env) (fun _ _ => True) (fun _ _ => True) s := by (walk1; fail)
     trivial)
  | (w_top off
     trivial)
section GXnRow
open PySem PySem.W PySem.W.X PyProof.Rows
local macro_rules | `(tactic| walk_at "eval Name") => `(tactic| first | refine nm_gl (by assumption) (by assumption) (by rfl) ?_ | refine nm_bl (by assumption) (by assumption) (by rfl) ?_)
section XnRowText
open PySem PySem.W PySem.W.X PyProof.Rows
set_option maxRecDepth 100000
set_option maxHeartbeats 4000000
set_option linter.all false
section
variable {w : World} {A : Around} {E : Value → Shared → Prop} {s : Shared}
theorem FX.type_list_append : typeOf (.builtin "list.append") = pure (.type "method_descriptor") := by show builtinType _ = _; rw [builtinType_eq_fast]; kernel_rfl
/-- an accumulator with its items -/
noncomputable def RowAt (h : Heap) (r : Addr) (xs : Array Value) : Prop := ∃ d n k, h.get? r = some (rowObj d xs n) ∧ h.Ns1 d (fun y => if y = "_initial_size" then some (.int 0 k) else none) ∧ d ≠ r
theorem RowAt.keeps {h h' : Heap} {r : Addr} {xs : Array Value} (x : RowAt h r xs) (k : ∀ b o, h.get? b = some o → h'.get? b = some o) : RowAt h' r xs :=
  let ⟨d, n, t, e, ⟨o, es, ep, e1, q⟩, ne⟩ := x; ⟨d, n, t, k _ _ e, ⟨o, es, ep, k _ _ e1, q⟩, ne⟩
theorem row_getMethod {r : Addr} {xs : Array Value} {name : Str} {f : Value} {tf : String} {pl : Sem Bool} {Q : Value × List Value → Shared → Prop} (W : Wd w s.heap) (hr : RowAt s.heap r xs)
    (hf : (findIn (kTop w.params) (.ref 131) name) = some (some f)) (ht : s.TypeIs f tf) (htf : tf = "function" ∨ tf = "method_descriptor") (hn : name ≠ "_initial_size") (hq : Q (f, [.ref r]) s) :
    wpAny (model pw w) A (getMethod (.ref r) name pl) Q E s := by
  obtain ⟨d, n, k, hr, hns, hd⟩ := hr
  have h1 : Looks (model pw w) s.heap (typeLookup (.ref 131) "__getattribute__") (some (.builtin "list.__getattribute__")) := looks_findIn W.K (by kernel_rfl)
  have h2 : Looks (model pw w) s.heap (typeLookup (.ref 131) "__getattr__") none := looks_findIn W.K (by kernel_rfl)
  have h3 : Looks (model pw w) s.heap (typeLookup (.ref 131) name) (some f) := looks_findIn W.K hf
  unfold getMethod specialOf
  refine wpAny_bind (wpAny_bind (wpAny_bind (wpAny_loadPart_at hr (wpAny_pure ?_))))
  refine h1 _ _ _ _ (fun _ _ e => e) ?_
  dsimp only
  rw [if_neg (by decide +kernel)]
  refine wpAny_bind (wpAny_bind (wpAny_bind (wpAny_loadPart_at hr (wpAny_pure ?_))))
  refine h2 _ _ _ _ (fun _ _ e => e) ?_
  rw [if_neg (by decide)]
  refine wpAny_bind (wpAny_bind (wpAny_bind (wpAny_loadPart_at hr (wpAny_pure ?_))))
  refine h3 _ _ _ _ (fun _ _ e => e) ?_
  refine wpAny_bind (wpAny_typeOf ht ?_)
  rw [if_neg (by rcases htf with rfl | rfl <;> decide)]
  try dsimp only
  refine wpAny_bind (wpAny_loadPart_at hr ?_)
  show wpAny _ _ (nsGet d name >>= _) _ _ _
  refine wpAny_bind (wpAny_nsGet hns.ns ?_)
  rw [if_neg hn]
  rw [if_neg (by decide)]
  refine wpAny_bind (wpAny_rule (wpAny_pure hq))
theorem check_append {r : Addr} {xs : Array Value} {v : Value} {Q : Unit → Shared → Prop} (W : Wd w s.heap) (hr : RowAt s.heap r xs) (hq : Q () s) : wpAny (model pw w) A (checkBuiltinCall "list.append" ⟨[.ref r, v], []⟩) Q E s := by
  obtain ⟨d, n, k, hr, _, _⟩ := hr
  have hk : builtinKind "list.append" = some .method := by decide +kernel
  have hs : splitId "list.append" = some ("list", "append") := by decide +kernel
  have h6 : Looks (model pw w) s.heap (isSubtype (.ref 131) (.type "list")) true := Looks.of_peek W.K (by kernel_rfl)
  have ha : argsOk "list.append" ⟨[.ref r, v], []⟩ := args_list_append _ _
  simp only [checkBuiltinCall, hk, hs]
  refine wpAny_bind ?_
  unfold isInstance
  refine wpAny_bind ?_
  show wpAny _ _ (do return (← loadPart r (some headPart)).cls) _ _ _
  refine wpAny_bind (wpAny_loadPart_at hr (wpAny_pure ?_))
  refine h6 _ _ _ _ (fun _ _ e => e) ?_
  rw [if_neg (by decide)]
  cases hsig : Manifest.signature? "list.append" with
  | none => exact wpAny_pure hq
  | some sig =>
    simp only [argsOk, hsig] at ha
    have h2 : Bind.checkArgs "list.append" sig ⟨[.ref r, v], []⟩ = pure () := ha
    show wpAny (model pw w) A (Bind.checkArgs "list.append" sig ⟨[.ref r, v], []⟩) Q E _
    rw [h2]; exact wpAny_pure hq
theorem row_append {r : Addr} {xs : Array Value} {v : Value} {Q : Value → Shared → Prop} (W : Wd w s.heap) (hr : RowAt s.heap r xs) (hsz : xs.size ≤ 1000)
    (hQ : ∀ h', (∀ b o, b ≠ r → s.heap.get? b = some o → h'.get? b = some o) → RowAt h' r (xs.push v) → Q .none { s with heap := h' }) :
    wpAny (model pw w) A (call (.builtin "list.append") [.ref r, v]) Q E s := by
  refine wpAny_call (codeAny_call_builtin slot_list_append.plain entry_list_append (check_append W hr ?_))
  obtain ⟨d, n, k, hr, hns, hd⟩ := hr
  show wpAny _ _ (updateSeq r (·.push v) >>= fun _ => ret .none) _ _ s
  refine wpAny_bind (wpAny_updateSeq hr rfl ?_ (by rw [sizeLine_eq]; omega) (by rw [sizeLine_eq]; simp; omega))
  refine wpAny_pure (hQ _ (fun b o hb e => Heap.get?_update_of_ne _ (Ne.symm hb) e) ⟨d, n + 1, k, ?_, ?_, hd⟩)
  · refine (Heap.get?_update_self _ hr rfl).trans ?_
    simp [Obj.mapSeq, rowObj]
  · obtain ⟨o', es, ep, e1, q⟩ := hns
    exact ⟨o', es, ep, Heap.get?_update_of_ne _ (Ne.symm hd) e1, q⟩
theorem row_push {r : Addr} {xs : Array Value} {x y : Str} {t u : Tok} {Q : Value → Shared → Prop} (W : Wd w s.heap) (hA : Ar A 5) (hr : RowAt s.heap r xs) (hsz : xs.size ≤ 1000)
    (hQ : ∀ s' a, s.heap.get? a = none → (∀ b o, b ≠ r → s.heap.get? b = some o → s'.heap.get? b = some o) → s'.heap.get? a = some { cls := .type "tuple", data := .seq #[.str x t, .str y u] } → RowAt s'.heap r (xs.push (.ref a)) →
      s'.gens = s.gens → s'.drawn = s.drawn → s'.os = s.os → Q .none s') : wpAny (model pw w) A (call (.ref 75) [.ref r, .str x t, .str y u]) Q E s := by
  refine call_own (q := "_Accumulator.push") (scope := stScope (methAt 1)) (cd := .ref 74) (fd := fdOf (o75_p6 w.params)) (body := stBody (methAt 1)) (binds := [("self", .ref r), ("fws", .str x t), ("string", .str y u)]) W hA.room (W.at 75 _ rfl) rfl (W.code 74 _ _ _ _ rfl rfl rfl) rfl
    (.of_eq rfl) rfl (locs (by rfl)) (fun h₁ FF => ?_) (hcell := by rw [show (fdOf (o75_p6 w.params)).scope = stScope (methAt 1) from rfl]; decide)
  show wpAny _ _ (execs (_ :: _) _) _ _ _
  walk
  refine row_getMethod (tf := "method_descriptor") (W.keeps FF.keep) (hr.keeps FF.keep) (f := .builtin "list.append") (by kernel_rfl) FX.type_list_append (.inr rfl) (by decide) ?_
  walk
  refine wpAny_newTuple ?_ (by size_fits)
  walk
  have kp : ∀ b o, s.heap.get? b = some o → (h₁.push { cls := .type "tuple", data := .seq [Value.str x t, Value.str y u].toArray }).get? b = some o := fun b o e => Heap.get?_push_of_some _ (FF.keep b o e)
  have hnew : s.heap.get? h₁.objs.size = none := by
    cases e : s.heap.get? h₁.objs.size with
    | none => rfl
    | some o => exact absurd (Heap.lt_size (FF.keep _ _ e)) (Nat.lt_irrefl _)
  have hrne : h₁.objs.size ≠ r := fun q => by
    obtain ⟨d, n, k, e, _⟩ := hr
    rw [← q, hnew] at e; cases e
  refine row_append (W.keeps kp) (hr.keeps kp) hsz fun h' hk hr' => ?_
  dsimp only
  walk
  exact hQ _ h₁.objs.size hnew (fun b o hb e => hk b o hb (kp b o e)) (hk _ _ hrne (Heap.get?_push_at rfl rfl)) hr' rfl rfl rfl
end
end XnRowText
theorem rstXnStr : True := by
  w_top off
  trivial
section XnStrText
open PySem PySem.W PySem.W.X PyProof.Rows
set_option maxRecDepth 100000
set_option maxHeartbeats 4000000
set_option linter.all false
section
variable {w : World} {A : Around} {E : Value → Shared → Prop} {s : Shared}
/-- a sequence of any class at an address -/
noncomputable def SeqAt (h : Heap) (a : Addr) (xs : Array Value) : Prop := ∃ o n, h.get? a = some o ∧ o.data = .seq xs n
theorem SeqAt.keep {h h' : Heap} {a : Addr} {xs : Array Value} (x : SeqAt h a xs) (k : ∀ o, h.get? a = some o → h'.get? a = some o) : SeqAt h' a xs := let ⟨o, n, e, d⟩ := x; ⟨o, n, k _ e, d⟩
theorem RowAt.seq {h : Heap} {r : Addr} {xs : Array Value} (x : RowAt h r xs) : SeqAt h r xs := let ⟨d, n, k, e, _⟩ := x; ⟨_, n, e, rfl⟩
theorem next_item {it l : Addr} {i : Nat} {items : Array Value} {x : Value} {Q : Option Value → Shared → Prop} (hit : s.heap.IsListIter it l i)
    (hl : SeqAt s.heap l items) (hx : items[i]? = some x)
    (hQ : ∀ h', h'.IsListIter it l (i + 1) → Heap.SameBut it s.heap h' → Q (some x) { s with heap := h' }) :
    wpAny (model pw w) A (pyNext (.ref it)) Q E s := by
  obtain ⟨o, ho, hc, hd⟩ := id hit
  obtain ⟨ol, nl, hol, hdl⟩ := hl
  unfold pyNext
  refine wpAny_bind (wpAny_attempt (wpAny_callSpecial?_slot (name := Str.ofString "__next__") hit.typeIs slot_listiter_next
    (wpAny_call_entry slot_listiter_next hit.typeIs entry_listiter_next ?_ (args_listiter_next _))))
  show wpAny _ _ (field (.ref it) 0 >>= _) _ _ s
  refine wpAny_bind (wpAny_field ho hd (x := .ref l) rfl ?_)
  show wpAny _ _ (if (Value.ref l == Value.none) = true then _ else _) _ _ s
  rw [if_neg (show ¬ ((Value.ref l == Value.none) = true) from Bool.false_ne_true)]
  show wpAny _ _ (field (.ref it) 1 >>= _) _ _ s
  refine wpAny_bind (wpAny_field ho hd (x := .int i 0) rfl ?_)
  show wpAny _ _ (seqItems? (.ref l) >>= _) _ _ s
  refine wpAny_bind (wpAny_seqItems hol hdl ?_)
  simp only [Int.toNat_natCast, hx]
  refine wpAny_bind (wpAny_setField ho hd (by simp) (wpAny_pure ⟨x, rfl, wpAny_pure (hQ _ ?_ (Heap.SameBut.update ..))⟩))
  exact ⟨_, Heap.get?_update_self _ ho (Obj.isFreed_of_fields (Obj.data_mapFields hd _)), (Obj.cls_mapFields ..).trans hc, by
    rw [Obj.data_mapFields hd]; simp [rawInt]⟩
theorem next_end {it l : Addr} {i : Nat} {items : Array Value} {Q : Option Value → Shared → Prop} (hh : A.handled = none)
    (hit : s.heap.IsListIter it l i) (hl : SeqAt s.heap l items) (hx : items[i]? = none)
    (hQ : ∀ h', Heap.ExtBut it s.heap h' → Q none { s with heap := h' }) : wpAny (model pw w) A (pyNext (.ref it)) Q E s := by
  obtain ⟨o, ho, hc, hd⟩ := id hit
  obtain ⟨ol, nl, hol, hdl⟩ := hl
  unfold pyNext
  refine wpAny_bind (wpAny_attempt (wpAny_callSpecial?_slot (name := Str.ofString "__next__") hit.typeIs slot_listiter_next
    (wpAny_call_entry slot_listiter_next hit.typeIs entry_listiter_next ?_ (args_listiter_next _))))
  show wpAny _ _ (field (.ref it) 0 >>= _) _ _ s
  refine wpAny_bind (wpAny_field ho hd (x := .ref l) rfl ?_)
  show wpAny _ _ (if (Value.ref l == Value.none) = true then _ else _) _ _ s
  rw [if_neg (show ¬ ((Value.ref l == Value.none) = true) from Bool.false_ne_true)]
  show wpAny _ _ (field (.ref it) 1 >>= _) _ _ s
  refine wpAny_bind (wpAny_field ho hd (x := .int i 0) rfl ?_)
  show wpAny _ _ (seqItems? (.ref l) >>= _) _ _ s
  refine wpAny_bind (wpAny_seqItems hol hdl ?_)
  simp only [Int.toNat_natCast, hx]
  refine wpAny_bind (wpAny_rule (wpAny_bind (wpAny_setField ho hd (by simp) ?_)))
  show wpAny _ _ (newExc (.type "StopIteration") [] >>= _) _ _ _
  refine wpAny_bind ?_
  simp only [newExc, newTuple]
  refine wpAny_bind (wpAny_newObj_type ?_ (by size_fits))
  refine wpAny_bind (m := firstArgMember _ _) (wpAny_of_eq (a := Value.none) (by first | rfl | (simp only [firstArgMember]; rfl)) ?_)
  refine wpAny_newObj_type ?_ (by size_fits)
  simp only [raiseNew]
  refine wpAny_bind (wpAny_handled ?_)
  rw [show A.in1.handled = none from hh]
  refine wpAny_bind (wpAny_pure (wpAny_throw ?_))
  refine wpAny_bind (wpAny_isInstance (T := "StopIteration") (b := true) ⟨_, Heap.get?_push_size _ rfl, rfl⟩ isSubtype_stop ?_)
  exact wpAny_pure (hQ _ (((Heap.SameBut.update ..).extBut.push _).push _))
theorem walks_row (hh : A.handled = none) (I ax : Addr) (hne : ax ≠ I) (items : Array Value) (Ts : Nat → Addr) (vals : Nat → Array Value)
    (hit : ∀ j, j < items.size → items[j]? = some (.ref (Ts j))) (hTI : ∀ j, j < items.size → Ts j ≠ I) :
    WalksU pw w A I (I :: ax :: (List.range items.size).map Ts) [I] items.size (fun j v => v = vals j)
      (fun j h => h.IsListIter I ax j ∧ SeqAt h ax items ∧ ∀ k, k < items.size → h.IsTuple (Ts k) (vals k))
      (fun j T h => (j < items.size ∧ T = Ts j) ∧ h.IsListIter I ax (j + 1) ∧ SeqAt h ax items ∧ ∀ k, k < items.size → h.IsTuple (Ts k) (vals k)) where
  sub := fun b hb => by simp at hb; simp [hb]
  frame := fun _ _ _ st hk => ⟨st.1.at fun o e => hk I (by simp) o e, st.2.1.keep fun o e => hk ax (by simp) o e,
    fun k hk' => (st.2.2 k hk').at fun o e => hk (Ts k) (List.mem_cons_of_mem _ (List.mem_cons_of_mem _ (List.mem_map.mpr ⟨k, List.mem_range.mpr hk', rfl⟩))) o e⟩
  item := fun i s Q E hi st hQ => by
    refine next_item st.1 st.2.1 (x := .ref (Ts i)) (hit i hi) fun h' hit' hs' => ?_
    have tup : ∀ k, k < items.size → h'.IsTuple (Ts k) (vals k) := fun k hk' => (st.2.2 k hk').extBut hs'.extBut (hTI k hk')
    exact hQ (Ts i) (vals i) h' s.toks rfl (tup i hi) ⟨⟨hi, rfl⟩, hit', st.2.1.keep (fun o e => hs'.extBut ax o hne e), tup⟩ fun b o hb e => hs'.extBut b o (fun h => hb (by simp [h])) e
  go := fun _ _ _ _ _ s Q _ hm hQ => wpAny_letOwnedTupleGo_listiter hm.2.1 (hQ s.heap hm.2 fun _ _ _ e => e)
  apart := fun j T _ hm hmem => by
    rcases List.mem_cons.mp hmem with e | e
    · exact hTI j hm.1.1 (hm.1.2 ▸ e)
    · cases e
  done := fun s Q E st hQ => next_end hh st.1 st.2.1 (by simp) fun h' he' => hQ h' s.toks fun b o hb e => he' b o (fun h => hb (by simp [h])) e
  self := fun _ _ _ _ st hQ => wpAny_pyIter_listiter st.1 hQ
theorem check_iter {r d : Addr} {xs : Array Value} {n : Nat} {Q : Unit → Shared → Prop} (W : Wd w s.heap) (hr : s.heap.get? r = some (rowObj d xs n)) (hq : Q () s) : wpAny (model pw w) A (checkBuiltinCall "list.__iter__" ⟨[.ref r], []⟩) Q E s := by
  have hk : builtinKind "list.__iter__" = some .slot := by decide +kernel
  have hs : splitId "list.__iter__" = some ("list", "__iter__") := by decide +kernel
  have h6 : Looks (model pw w) s.heap (isSubtype (.ref 131) (.type "list")) true := Looks.of_peek W.K (by kernel_rfl)
  have ha : argsOk "list.__iter__" ⟨[.ref r], []⟩ := args_list_iter _
  simp only [checkBuiltinCall, hk, hs]
  refine wpAny_bind ?_
  unfold isInstance
  refine wpAny_bind ?_
  show wpAny _ _ (do return (← loadPart r (some headPart)).cls) _ _ _
  refine wpAny_bind (wpAny_loadPart_at hr (wpAny_pure ?_))
  refine h6 _ _ _ _ (fun _ _ e => e) ?_
  rw [if_neg (by decide)]
  cases hsig : Manifest.signature? "list.__iter__" with
  | none => exact wpAny_pure hq
  | some sig =>
    simp only [argsOk, hsig] at ha
    have h2 : Bind.checkArgs "list.__iter__" sig ⟨[.ref r], []⟩ = pure () := ha
    show wpAny (model pw w) A (Bind.checkArgs "list.__iter__" sig ⟨[.ref r], []⟩) Q E _
    rw [h2]; exact wpAny_pure hq
theorem row_iter {r : Addr} {xs : Array Value} {Q : Value → Shared → Prop} (W : Wd w s.heap) (hr : RowAt s.heap r xs)
    (hQ : Q (.ref s.heap.objs.size) { s with heap := s.heap.push { cls := .type "list_iterator", data := .fields #[.ref r, .int 0 0] } }) :
    wpAny (model pw w) A (pyIter (.ref r)) Q E s := by
  obtain ⟨d, n, k, hr, _, _⟩ := hr
  have h3 : Looks (model pw w) s.heap (typeLookup (.ref 131) "__iter__") (some (.builtin "list.__iter__")) := looks_findIn W.K (by kernel_rfl)
  have h6 : Looks (model pw w) s.heap (isSubtype (.ref 131) (.type "list")) true := Looks.of_peek W.K (by kernel_rfl)
  unfold pyIter
  unfold specialOf
  refine wpAny_bind (wpAny_bind (wpAny_bind (wpAny_loadPart_at hr (wpAny_pure ?_))))
  refine h3 _ _ _ _ (fun _ _ e => e) ?_
  dsimp only
  unfold callSpecialIfBoundUnlessNone?
  have fin : wpAny (model pw w) A (call (.builtin "list.__iter__") [.ref r]) (fun v s' => v = .ref s.heap.objs.size ∧ s' = { s with heap := s.heap.push { cls := .type "list_iterator", data := .fields #[.ref r, .int 0 0] } }) (fun _ _ => False) s := by
    refine wpAny_call (codeAny_call_builtin slot_list_iter.plain entry_list_iter (check_iter W hr ?_))
    show wpAny _ _ (do ret (← newFields "list_iterator" [.ref r, rawInt 0])) _ _ s
    exact wpAny_bind (wpAny_newObj_type (wpAny_pure ⟨rfl, rfl⟩))
  refine wpAny_bind (wpAny_holding (wpAny_bind ?_))
  unfold bindSpecialIfBound? specialOf
  refine wpAny_bind (wpAny_bind (wpAny_bind (wpAny_loadPart_at hr (wpAny_pure ?_))))
  refine h3 _ _ _ _ (fun _ _ e => e) ?_
  dsimp only
  simp only [slot_list_iter.bind]
  refine wpAny_bind (wpAny_askSetting (wpAny_ite ?_))
  split
  · refine wpAny_bind (wpAny_pure (wpAny_pure ?_))
    dsimp only
    rw [if_neg (by decide)]
    refine wpAny_bind (wpAny_mono fin (fun v s' hv => ?_) fun _ _ h => h.elim)
    obtain ⟨rfl, rfl⟩ := hv
    refine wpAny_pure ?_
    dsimp only
    refine wpAny_bind (wpAny_bind (wpAny_typeOf (T := "list_iterator") ⟨_, Heap.get?_push_at rfl rfl, rfl⟩ (wpAny_of_eq slot_listiter_next.lookup ?_)))
    exact wpAny_pure hQ
  · refine wpAny_tryCatch (wpAny_bind (wpAny_pure (wpAny_pure ?_)))
    dsimp only
    rw [if_neg (by decide)]
    refine wpAny_bind (wpAny_mono fin (fun v s' hv => ?_) fun _ _ h => h.elim)
    obtain ⟨rfl, rfl⟩ := hv
    refine wpAny_pure ?_
    dsimp only
    refine wpAny_bind (wpAny_bind (wpAny_typeOf (T := "list_iterator") ⟨_, Heap.get?_push_at rfl rfl, rfl⟩ (wpAny_of_eq slot_listiter_next.lookup ?_)))
    exact wpAny_pure hQ
end
end XnStrText
theorem rstXnStr2 : True := by
  w_top off
  trivial
section XnStr2Text
open PySem PySem.W PySem.W.X PyProof.Rows
set_option maxRecDepth 100000
set_option maxHeartbeats 4000000
set_option linter.all false
section
variable {w : World} {A : Around} {E : Value → Shared → Prop} {s : Shared}
/-- a pair of texts -/
noncomputable def TupS (h : Heap) (a : Addr) (p : Str × Str) : Prop := ∃ t u, h.get? a = some { cls := .type "tuple", data := .seq #[.str p.1 t, .str p.2 u] }
theorem TupS.keeps {h h' : Heap} {a : Addr} {p : Str × Str} (x : TupS h a p) (k : ∀ b o, h.get? b = some o → h'.get? b = some o) : TupS h' a p := let ⟨t, u, e⟩ := x; ⟨t, u, k _ _ e⟩
/-- a row: its tuples and their texts -/
structure RowIs (h : Heap) (r : Addr) (ts : List Addr) (l : List (Str × Str)) : Prop where
  row : RowAt h r (ts.map Value.ref).toArray
  len : ts.length = l.length
  tup : ∀ i (h1 : i < ts.length) (h2 : i < l.length), TupS h ts[i] l[i]
theorem RowIs.keeps {h h' : Heap} {r : Addr} {ts : List Addr} {l : List (Str × Str)} (x : RowIs h r ts l) (k : ∀ b o, h.get? b = some o → h'.get? b = some o) : RowIs h' r ts l :=
  ⟨x.row.keeps k, x.len, fun i h1 h2 => (x.tup i h1 h2).keeps k⟩
noncomputable def catS (l : List Str) : Str := ⟨(l.flatMap fun p => p.cps.toList).toArray⟩
noncomputable def T4 (h : Heap) : Prop := ∃ ps, h.TableAt 104 100 ps
theorem T4.keep2 {h h' : Heap} (x : T4 h) (k1 : ∀ o, h.get? 104 = some o → h'.get? 104 = some o) (k2 : ∀ o, h.get? 100 = some o → h'.get? 100 = some o) : T4 h' :=
  let ⟨ps, ⟨o, vs, a, r⟩, t⟩ := x; ⟨ps, ⟨o, vs, k1 _ a, r⟩, k2 _ t⟩
theorem T4.keeps {h h' : Heap} (x : T4 h) (k : ∀ b o, h.get? b = some o → h'.get? b = some o) : T4 h' := x.keep2 (k 104) (k 100)
theorem genexpr4 {env : Env} {ps : Array Value} {pos : Pos} {qualname : Str} {scope : Scope} {Q : Value → Shared → Prop} (hc : env.code = .ref 104) (hok : s.heap.IsCode 104 100 ps)
    (hQ : ∀ code h' tk ps', Heap.ExtBut 100 s.heap h' → h'.IsCode 104 100 ps' → (T4 s.heap → T4 h') → Q code { s with heap := h', toks := tk }) :
    wpAny (model pw w) A (genexprCode env pos qualname scope) Q E s := by
  by_cases ht : T4 s.heap
  · obtain ⟨ps', ht⟩ := ht
    obtain rfl : ps' = ps := by
      obtain ⟨o, vs, file, tf, flags, tg, inF, text, tt, op, _, _, _, _, _, _, _, e, d, _⟩ := hok
      have := ht.2.symm.trans e
      cases this
      cases d
      rfl
    cases hf : codeAmong pos ps'.toList with
    | some c' => exact wpAny_genexprCode_hit hc hok hf (hQ c' s.heap s.toks ps' (fun _ _ _ e => e) hok fun x => x)
    | none => exact wpAny_genexprCodeX hc hok ht hf fun c' h' tk hx _ _ hi _ ht' _ => hQ _ h' tk _ hx hi fun _ => ⟨_, ht'⟩
  · exact wpAny_genexprCode hc hok fun code h' tk ps' hx hi => hQ code h' tk ps' hx hi fun x => absurd x ht
/-- what a text of a row leaves -/
structure StG (s s' : Shared) : Prop where
  keep : ∀ b o, b ≠ 100 → s.heap.get? b = some o → s'.heap.get? b = some o
  code : ∃ ps, s'.heap.IsCode 104 100 ps
  bare : AllBare s.gens → AllBare s'.gens
  drawn : s'.drawn = s.drawn
  os : s'.os = s.os
  tab : T4 s.heap → T4 s'.heap
theorem Wd.but {h h' : Heap} (x : Wd w h) (k : ∀ b o, b ≠ 100 → h.get? b = some o → h'.get? b = some o) (c : ∃ ps, h'.IsCode 104 100 ps) : Wd w h' :=
  ⟨fun a o e => k a o (fun q => by rw [q] at e; exact absurd e (by rw [show (kTop w.params).lookup 100 = none from rfl]; exact fun h => nomatch h)) (x.K a o e),
   let ⟨es, n, e, r⟩ := x.D; ⟨es, n, k _ _ (by decide) e, r⟩, c⟩
theorem code_op {h : Heap} (x : ∃ ps, h.IsCode 104 100 ps) : ∃ op ps, h.get? 100 = some op ∧ op.data = .fields ps := by
  obtain ⟨ps, o, vs, file, tf, flags, tg, inF, text, tt, op, _, _, _, _, _, _, _, e, d, _⟩ := x
  exact ⟨op, ps, e, d⟩
theorem seq_ne100 {h : Heap} (W : Wd w h) {a : Addr} {xs : Array Value} (x : SeqAt h a xs) : a ≠ 100 := by
  rintro rfl
  obtain ⟨op, ps, e, d⟩ := code_op W.C
  obtain ⟨o, n, e', d'⟩ := x
  rw [e] at e'
  cases e'
  rw [d] at d'
  cases d'
noncomputable def seqOf (h : Heap) (a : Addr) : Array Value := match h.get? a with | some o => (match o.data with | .seq xs _ => xs | _ => #[]) | none => #[]
theorem str_append (a b : Str) : a ++ b = ⟨a.cps ++ b.cps⟩ := rfl
theorem code_keep {h h' : Heap} {c P : Addr} {ps : Array Value} (x : h.IsCode c P ps) (k1 : ∀ o, h.get? c = some o → h'.get? c = some o) (k2 : ∀ o, h.get? P = some o → h'.get? P = some o) : h'.IsCode c P ps := by
  obtain ⟨o, vs, file, tf, flags, tg, inF, text, tt, op, a, r⟩ := x
  exact ⟨o, vs, file, tf, flags, tg, inF, text, tt, op, k1 _ a, r.1, r.2.1, r.2.2.1, r.2.2.2.1, r.2.2.2.2.1, r.2.2.2.2.2.1, k2 _ r.2.2.2.2.2.2.1, r.2.2.2.2.2.2.2⟩
theorem passing_all (n : Nat) : passing (fun _ => true) n 0 = List.range n := by unfold passing; simp
theorem sum_le (l : List Nat) (k : Nat) (h : ∀ x ∈ l, x ≤ k) : l.sum ≤ l.length * k := by
  induction l with
  | nil => simp
  | cons a r ih =>
    have h1 := h a (by simp)
    have h2 := ih (fun x hx => h x (by simp [hx]))
    simp only [List.sum_cons, List.length_cons, Nat.succ_mul]
    omega
theorem join_cat (l : List Str) : Txt.join (Str.ofString "") l = catS l := by
  rw [eq_of_beq (join_plain_closes (Str.ofString "") l)]
  show Str.join ⟨#[]⟩ l = _
  induction l with
  | nil => rfl
  | cons a r ih => rw [PyProof.Rows.join_nil_cons, ih]; simp [catS, str_append]
theorem row_str_fn {r : Addr} {ts : List Addr} {l : List (Str × Str)} {Q : Value → Shared → Prop} (W : Wd w s.heap) (hA : Ar A 8) (hr : RowIs s.heap r ts l) (hl : l.length ≤ 1000) (hz : ∀ p ∈ l, p.1.length + p.2.length ≤ 100)
    (hQ : ∀ s' t, StG s s' → Q (.str (catS (l.map fun p => p.1 ++ p.2)) t) s') : wpAny (model pw w) A (call (.ref 105) [.ref r]) Q E s := by
  refine call_own (q := "_Accumulator.__str__") (scope := stScope (methAt 5)) (cd := .ref 104) (fd := fdOf (o105_p6 w.params)) (body := stBody (methAt 5)) (binds := [("self", .ref r)]) W hA.room (W.at 105 _ rfl) rfl (W.code 104 _ _ _ _ rfl rfl rfl) rfl
    (.of_eq rfl) rfl (locs (by rfl)) (fun h₁ FF => ?_) (hcell := by rw [show (fdOf (o105_p6 w.params)).scope = stScope (methAt 5) from rfl]; decide)
  show wpAny _ _ (execs (_ :: _) _) _ _ _
  walk
  refine nm_glob (v := .str (Str.ofString "") 346) (W.keeps FF.keep) (by rfl) ?_
  walk
  refine wpAny_GeneratorExp_walksQT (cl := []) hA.handled rfl (by rfl) (by decide) (by rfl) (by rfl) (by rfl) (by decide) (by rfl) (by show A.depth + 1 < 1000; have := hA.depth; omega) ?_ (fun _ => rfl)
  walk
  refine row_iter (W.keeps FF.keep) (hr.row.keeps FF.keep) ⟨(W.keeps FF.keep).nolimit.push _, ?_⟩
  obtain ⟨ps, hcode⟩ := W.C
  refine genexpr4 rfl ((hcode.keeps FF.keep).push _) (fun code h₂ tk₂ ps' hx₂ hcode₂ htab₂ => ?_)
  replace hx₂ : Heap.ExtBut 100 (h₁.push { cls := .type "list_iterator", data := .fields #[.ref r, .int 0 0] }) h₂ := hx₂
  have k12 : ∀ b o, b ≠ 100 → h₁.get? b = some o → h₂.get? b = some o := fun b o hb e => hx₂ b o hb (Heap.get?_push_of_some _ e)
  have k02 : ∀ b o, b ≠ 100 → s.heap.get? b = some o → h₂.get? b = some o := fun b o hb e => k12 b o hb (FF.keep b o e)
  have W2 : Wd w h₂ := W.but k02 ⟨ps', hcode₂⟩
  have hI100 : h₁.objs.size ≠ 100 := fun q => by
    obtain ⟨op, _, e, _⟩ := code_op W.C
    exact absurd (Heap.lt_size (FF.keep _ _ e)) (by rw [q]; exact Nat.lt_irrefl _)
  have hit : h₂.IsListIter h₁.objs.size r 0 := ⟨_, hx₂ _ _ hI100 (Heap.get?_push_at rfl rfl), rfl, rfl⟩
  have hr100 : r ≠ 100 := seq_ne100 W hr.row.seq
  have hseq : SeqAt h₂ r (ts.map Value.ref).toArray := hr.row.seq.keep fun o e => k02 _ _ hr100 e
  have htup : ∀ i (h1 : i < ts.length) (h2 : i < l.length), TupS h₂ ts[i] l[i] := fun i h1 h2 => by
    obtain ⟨t, u, e⟩ := hr.tup i h1 h2
    exact ⟨t, u, k02 _ _ (seq_ne100 W ⟨_, _, e, rfl⟩) e⟩
  have hTI : ∀ i (h1 : i < ts.length), ts[i] ≠ h₁.objs.size := fun i h1 q => by
    obtain ⟨t, u, e⟩ := hr.tup i h1 (hr.len ▸ h1)
    exact absurd (Heap.lt_size (FF.keep _ _ e)) (by rw [q]; exact Nat.lt_irrefl _)
  have hrI : r ≠ h₁.objs.size := fun q => by
    obtain ⟨o, n, e, _⟩ := hr.row.seq
    exact absurd (Heap.lt_size (FF.keep _ _ e)) (by rw [q]; exact Nat.lt_irrefl _)
  have WU := fun (A' : Around) (hA' : A'.handled = none) => (walks_row (w := w) hA' h₁.objs.size r hrI (ts.map Value.ref).toArray (fun j => ts.getD j 0) (fun j => seqOf h₂ (ts.getD j 0))
    (fun j hj => by simp at hj; simp [hj]) (fun j hj => by simp at hj; simpa [hj] using hTI j hj)).bound
  have hv : ∀ i (h1 : i < ts.length) (h2 : i < l.length), ∃ t u, seqOf h₂ (ts.getD i 0) = #[.str l[i].1 t, .str l[i].2 u] ∧ h₂.get? (ts.getD i 0) = some { cls := .type "tuple", data := .seq #[.str l[i].1 t, .str l[i].2 u] } := fun i h1 h2 => by
    obtain ⟨t, u, e⟩ := htup i h1 h2
    refine ⟨t, u, ?_⟩
    have : ts.getD i 0 = ts[i] := by simp [h1]
    rw [this]
    exact ⟨by unfold seqOf; rw [e], e⟩
  have hszs : (ts.map Value.ref).toArray.size = ts.length := by simp
  refine wpAny_builtinsFor W2.g (by rfl) (bm := 4) (by decide) (W2.at 4 _ rfl) rfl rfl rfl ?_
  refine ⟨h₁.objs.size, _, _, _, _, _, _, fun _ => true, fun i y => ∃ (h : i < l.length) (t : Tok), y = .str (l[i].1 ++ l[i].2) t,
    rfl, WU, ?_, ⟨hit, hseq, ?_⟩, ?_, W2.nolimit, ?_, ?_, ?_⟩
  · rintro i vals ⟨h1, rfl⟩
    rw [hszs] at h1
    obtain ⟨t, u, e, _⟩ := hv i h1 (hr.len ▸ h1)
    exact ⟨_, _, e⟩
  · intro k hk
    rw [hszs] at hk
    obtain ⟨t, u, e, e'⟩ := hv k hk (hr.len ▸ hk)
    exact ⟨_, e', rfl, 0, by rw [e]⟩
  · intro b hb
    have hlt : ∀ b o, h₂.get? b = some o → b < h₂.objs.size := fun b o e => Heap.lt_size e
    rcases List.mem_cons.mp hb with rfl | hb
    · obtain ⟨o, e, _⟩ := hit; exact hlt _ _ e
    rcases List.mem_cons.mp hb with rfl | hb
    · obtain ⟨o, n, e, _⟩ := hseq; exact hlt _ _ e
    · obtain ⟨j, hj, rfl⟩ := List.mem_map.mp hb
      have hj := List.mem_range.mp hj
      rw [hszs] at hj
      obtain ⟨t, u, e, e'⟩ := hv j hj (hr.len ▸ hj)
      exact hlt _ _ e'
  · intro hm
    have : cStatics = h₁.objs.size := by simpa using hm
    have h2 := Heap.lt_size ((W.keeps FF.keep).at 2 _ rfl)
    exact absurd h2 (by rw [← this]; exact Nat.lt_irrefl _)
  · intro href hk
    refine ⟨?_, ?_⟩
    · intro A' E' i va vb s₂ m₂ _ _ _ _ _ _
      exact wpAny_pure ⟨rfl, _, _, rfl, fun _ _ e => e⟩
    · intro A' E' i va vb s₂ m₂ hA' hP _ hns ha hb hk2
      obtain ⟨hi, hvv⟩ := hP
      rw [hszs] at hi
      have hil : i < l.length := hr.len ▸ hi
      obtain ⟨t, u, e, _⟩ := hv i hi hil
      rw [e] at hvv
      obtain ⟨rfl, rfl⟩ : va = .str l[i].1 t ∧ vb = .str l[i].2 u := by simpa using congrArg Array.toList hvv
      have hIne : ∀ b o, s.heap.get? b = some o → b ≠ h₁.objs.size := fun b o e q => absurd (Heap.lt_size (FF.keep _ _ e)) (by rw [q]; exact Nat.lt_irrefl _)
      have hE : Heap.ExtBut h₁.objs.size h₂ s₂.heap := fun b o hb e => hk2 b (List.mem_range.mpr (Heap.lt_size e)) (by simpa using hb) o (hk b o e)
      have W3 : Wd w s₂.heap := ⟨fun a o e => hE a o (hIne _ _ (W.K a o e)) (W2.K a o e), (let ⟨es, n, e, r⟩ := W2.D; let ⟨es', n', e', r'⟩ := W.D; ⟨es, n, hE _ _ (hIne _ _ e') e, r⟩),
        ⟨ps', hcode₂.extBut hE (hIne _ _ (W.at 104 _ rfl)) (let ⟨op, _, e, _⟩ := code_op W.C; hIne _ _ e)⟩⟩
      refine MethodCall_ ?_
      refine nm_glob (v := .str (Str.ofString "") 346) W3 (by rfl) ?_
      refine GM.join ?_
      walk
      refine wpAny_newTuple ?_ (by size_fits)
      walk
      have hzz := hz l[i] (List.getElem_mem hil)
      refine join_tuple (ys := [l[i].1, l[i].2]) ⟨_, Heap.get?_push_at rfl rfl, rfl, _, rfl⟩ (.cons _ _ (.cons _ _ .nil)) (by
        have : (Str.ofString "").length = 0 := rfl
        simp only [List.map_cons, List.map_nil, List.sum_cons, List.sum_nil, this]
        omega) fun t' k => ?_
      refine ⟨⟨hil, t', ?_⟩, _, _, rfl, fun b o e => Heap.get?_push_of_some _ e⟩
      rw [join_cat]
      simp [catS, str_append]
  · intro a h₅ tk gs hb ha hs5 hk5 WS hG
    walk
    refine SC.joinGen WS.in4_2 (fun i s' st => st.1.typeIs) hG (fun b hb => ?_) List.mem_cons_self (fun j v hv => ?_) (fun s' lt hm hacc => ?_) ?_
    · show b < h₅.objs.size
      rw [hs5]
      rcases List.mem_cons.mp hb with rfl | hb
      · exact Nat.lt_succ_self _
      · rcases List.mem_cons.mp hb with rfl | hb
        · exact Nat.lt_succ_of_lt ha
        · exact Nat.lt_succ_of_lt (Nat.lt_trans (List.mem_range.mp hb) ha)
    · obtain ⟨i, _, hi, t, e⟩ := hv
      exact ⟨_, t, e⟩
    · have hlt : lt.map (·.1) = l.map (fun p => p.1 ++ p.2) := by
        have hn : lt.length = ts.length := by
          have := hacc.1
          rw [passing_all] at this
          simpa [strValues] using this
        apply List.ext_getElem
        · simp [hn, hr.len]
        · intro j h1 h2
          have hj : j < lt.length := by simpa using h1
          obtain ⟨i, hi, hi', t, e⟩ := hacc.2 j (.str lt[j].1 lt[j].2) (by simp [strValues, List.getElem?_eq_getElem hj])
          rw [passing_all] at hi
          have hij : i = j := by
            have hjn : j < (List.map Value.ref ts).toArray.size := by rw [hszs]; omega
            rw [List.getElem?_range hjn] at hi
            exact (Option.some.inj hi).symm
          subst hij
          injection e with e1 _
          simp [e1]
      rw [hlt]
      have hok : JoinOk (Str.ofString "") (l.map fun p => p.1 ++ p.2) = true := by
        refine joinOk_of ?_
        have h0 : (Str.ofString "").length = 0 := rfl
        rw [h0]
        have := sum_le ((l.map fun p => p.1 ++ p.2).map (·.length)) 100 (by
          intro x hx
          simp only [List.mem_map] at hx
          obtain ⟨_, ⟨p, hp, rfl⟩, rfl⟩ := hx
          have := hz p hp
          have e : (p.1 ++ p.2).length = p.1.length + p.2.length := by rw [str_append]; exact Array.size_append ..
          omega)
        simp only [List.length_map] at this ⊢
        omega
      refine ⟨hok, fun t' k => ?_⟩
      rw [join_cat]
      have hnw : ∀ b o, b ≠ 100 → s.heap.get? b = some o → b ∉ [h₂.objs.size, h₁.objs.size] := fun b o hb e => by
        have h1 := Heap.lt_size (FF.keep _ _ e)
        have h2 := Heap.lt_size (k02 _ _ hb e)
        simp only [List.mem_cons, List.not_mem_nil, or_false, not_or]
        exact ⟨Nat.ne_of_lt h2, Nat.ne_of_lt h1⟩
      have hk' : ∀ b o, b ≠ 100 → s.heap.get? b = some o → s'.heap.get? b = some o := fun b o hb e => hm.heap b o (hnw b o hb e) (hk5 b o (k02 b o hb e))
      have k104 : ∀ o, h₂.get? 104 = some o → s'.heap.get? 104 = some o := fun o e => hm.heap 104 o (hnw 104 _ (by decide) (W.at 104 _ rfl)) (hk5 104 o e)
      have k100 : ∀ o, h₂.get? 100 = some o → s'.heap.get? 100 = some o := fun o e => by
        refine hm.heap 100 o ?_ (hk5 100 o e)
        obtain ⟨op, _, e1, _⟩ := code_op W.C
        have h1 := Heap.lt_size (FF.keep _ _ e1)
        have h2 := Heap.lt_size e
        simp only [List.mem_cons, List.not_mem_nil, or_false, not_or]
        exact ⟨Nat.ne_of_lt h2, Nat.ne_of_lt h1⟩
      refine hQ _ _ ⟨hk', ⟨ps', code_keep hcode₂ k104 k100⟩, fun hb0 => ?_, hm.drawn, hm.os, fun hT => (htab₂ (T4.keeps hT fun b o e => Heap.get?_push_of_some _ (FF.keep b o e))).keep2 k104 k100⟩
      · exact AllBare.moved (hb0.push hb) hm.gens
    · rw [passing_all, List.length_range, hszs, hr.len, sizeLine_eq]; omega
theorem row_str {r : Addr} {ts : List Addr} {l : List (Str × Str)} {Q : Value → Shared → Prop} (W : Wd w s.heap) (hA : Ar A 10) (hr : RowIs s.heap r ts l) (hl : l.length ≤ 1000) (hz : ∀ p ∈ l, p.1.length + p.2.length ≤ 100)
    (hQ : ∀ s' t, StG s s' → Q (.str (catS (l.map fun p => p.1 ++ p.2)) t) s') : wpAny (model pw w) A (call (.type "str") [.ref r]) Q E s := by
  refine callType_newIn F.called_str (by decide) (F.typeCall_str_1 _) (F.newCall_str_1 _) (fun obj => F.args_object_init_2 obj _) F.entry_str_new
    (S := fun A' R s' => s' = s ∧ Ar A' 9 ∧ ∀ s' t, StG s s' → R (.ok (.ret (.str (catS (l.map fun p => p.1 ++ p.2)) t))) s') (.of_wp fun A' R s₁ h => ?_) ⟨rfl, hA.in1, fun s' t hs => ⟨typeIs_str _ _ _, hQ s' t hs⟩⟩
  obtain ⟨rfl, hA', h⟩ := h
  obtain ⟨d, n, k, hr0, _, _⟩ := hr.row
  rw [str_new_tree]
  refine wpAny_bind (wpAny_pure ?_)
  refine wpAny_bind (wpAny_of_eq isSubtype_str_str ?_)
  refine wpAny_bind ?_
  unfold Builtin.Str.strOf
  rw [if_neg (by show ¬ (false = true); exact Bool.false_ne_true)]
  refine wpAny_bind (wpAny_cRoomFor hA'.in1.croom ?_)
  refine wpAny_bind ?_
  unfold callSpecial? specialOf
  have h3 : Looks (model pw w) s₁.heap (typeLookup (.ref 131) "__str__") (some (.ref 105)) := looks_findIn W.K (by kernel_rfl)
  refine wpAny_bind (wpAny_bind (wpAny_bind (wpAny_loadPart_at hr0 (wpAny_pure ?_))))
  refine h3 _ _ _ _ (fun _ _ e => e) ?_
  dsimp only
  refine wpAny_holding (wpAny_bind (wpAny_bindSpecial_def (W.at 105 _ rfl) rfl ?_))
  dsimp only
  refine wpAny_bind ?_
  refine row_str_fn W hA'.in1 hr hl hz fun s' t hs => ?_
  refine wpAny_pure ?_
  dsimp only
  refine wpAny_bind (wpAny_pure ?_)
  rw [if_neg (by show ¬ (false = true); exact Bool.false_ne_true)]
  refine wpAny_pure ?_
  exact wpAny_pure ⟨_, rfl, h _ _ hs⟩
end
end XnStr2Text
end GXnRow
theorem rstXnNest (M : PySem.Model) (A : PySem.Around) (env : PySem.Env) (s : PySem.Shared) : True := by
  first
  | (have h : PySem.wpAny M A (PySem.eval (.Constant .none 0 ⟨0, 0, 0, 0⟩) env) (fun _ _ => True) (fun _ _ => True) s := by (walk1; fail)
     trivial)
  | (w_top off
     trivial)
section GXnNest
open PySem PySem.W PySem.W.X PyProof.Rows
local macro_rules | `(tactic| walk_at "eval Name") => `(tactic| first | refine nm_gl (by assumption) (by assumption) (by rfl) ?_ | refine nm_bl (by assumption) (by assumption) (by rfl) ?_ | refine ld (by assumption) (by first | assumption | rfl) ?_)
local macro_rules | `(tactic| walk_at "loadName") => `(tactic| refine ldn (by assumption) (by first | assumption | rfl) ?_)
local macro_rules | `(tactic| walk_at "exec For") => `(tactic| refine wpAny_For ?_)
section EXnNest
open PySem PySem.W PySem.W.X PyProof.Rows
local macro_rules | `(tactic| kby_none) => `(tactic| (walk1; (repeat ((fail_if_success (with_reducible show wpAny _ _ (execs _ _) _ _ _)); (try dsimp only); first | ((with_reducible show wpAny _ _ _ _ _ _); walk1) | (with_reducible rw [if_pos rfl]) | (with_reducible rw [if_neg Bool.false_ne_true]))); (try dsimp only)))
section XnNestText
open PySem PySem.W PySem.W.X PyProof.Rows
set_option maxRecDepth 100000
set_option maxHeartbeats 4000000
set_option linter.all false
/- one statement -/
section
variable {w : World} {A : Around} {E : Value → Shared → Prop} {s : Shared}
noncomputable def iv (p : Int × Tok) : Value := .int p.1 p.2
abbrev LO (xs : Array Value) (n : Nat) : Obj := { cls := .type "list", data := .seq xs n }
/-- the body of the for statement at place i of a block -/
noncomputable def forBody (l : List Stmt) (i : Nat) : List Stmt := match l[i]? with | some (.For _ _ b _ _) => b | _ => []
noncomputable def nestEnv (L : Addr) : Env := envOf (stName (stAt 14)) (stScope (stAt 14)) L 206 (.ref 205)
theorem ints_are (dt : List (Int × Tok)) : IntsAre (dt.map iv) (dt.map (·.1)) := by
  induction dt with
  | nil => exact .nil
  | cons p r ih => exact .cons _ _ ih
theorem iadd_s {x y : Str} {t u : Tok} {Q : Value → Shared → Prop} (hz : x.length + y.length ≤ 16777216) (h : ∀ t' k, Q (.str (x ++ y) t') { s with toks := k }) : wpAny (model pw w) A (inplaceOp .Add (.str x t) (.str y u)) Q E s := by
  refine P.iadd_str ?_
  by_cases hx : x.length = 0
  · have e : x ++ y = y := by
      obtain ⟨x⟩ := x
      have : x = #[] := Array.eq_empty_of_size_eq_zero hx
      rw [str_append, this]; simp
    rw [if_pos (by simp [hx])]
    have := h u s.toks
    rw [e] at this
    exact this
  · rw [if_neg (by simp [hx])]
    by_cases hy : y.length = 0
    · have e : x ++ y = x := by
        obtain ⟨y⟩ := y
        have : y = #[] := Array.eq_empty_of_size_eq_zero hy
        rw [str_append, this]; simp
      rw [if_pos (by simp [hy])]
      have := h t s.toks
      rw [e] at this
      exact this
    · rw [if_neg (by simp [hy])]
      exact ⟨by show (x.cps ++ y.cps).size ≤ _; rw [Array.size_append, sizeLine_eq]; exact hz, h s.toks (s.toks + 1)⟩
theorem pop_end {a : Addr} {xs : Array Value} {y : Value} {n : Nat} {Q : Value → Shared → Prop} (hl : s.heap.get? a = some (LO (xs.push y) n)) (hsz : xs.size ≤ 10000) (h : ∀ h' n', h'.get? a = some (LO xs n') → Heap.SameBut a s.heap h' → Q y { s with heap := h' }) :
    wpAny (model pw w) A (call (.builtin "list.pop") [.ref a]) Q E s := by
  refine call_meets F.slot_list_pop ⟨_, hl, rfl⟩ F.entry_list_pop (F.args_list_pop_1 _) (PySem.MeetsSeq.list_pop_last a (xs.push y) n y (by simp) (by rw [sizeLine_eq]; simp; omega)) ⟨hl, ?_⟩
  refine h _ (n + 1) ?_ (Heap.SameBut.update ..)
  refine (Heap.get?_update_self _ hl rfl).trans ?_
  have e : (xs.push y).eraseIdxIfInBounds ((xs.push y).size - 1) = xs := by
    apply Array.ext'
    simp [Array.eraseIdxIfInBounds, Array.toList_eraseIdx, List.eraseIdx_append_of_length_le]
  show some ({ cls := Value.type "list", dict := none, data := .seq ((xs.push y).eraseIdxIfInBounds ((xs.push y).size - 1)) (if ((xs.push y).eraseIdxIfInBounds ((xs.push y).size - 1)).size == (xs.push y).size then n else n + 1), slots := #[] } : Obj) = _
  rw [e, if_neg (by simp)]
theorem str_assoc (a b c : Str) : a ++ b ++ c = a ++ (b ++ c) := by
  simp only [str_append, Array.append_assoc]
theorem catS_len (l : List Str) (h : ∀ x ∈ l, x.length ≤ 1) : (catS l).length ≤ l.length := by
  show (catS l).cps.size ≤ _
  induction l with
  | nil => simp [catS]
  | cons a r ih =>
    have h1 : a.cps.size ≤ 1 := h a (by simp)
    have h2 := ih (fun x hx => h x (by simp [hx]))
    simp only [catS, List.flatMap_cons, List.size_toArray, List.length_append, List.length_cons, Array.length_toList] at h2 ⊢
    omega
theorem nest_pops {h₀ : Heap} {L aS : Addr} {m : Str → Option Value} {rest : List (Addr × Obj)} {st : List (Str × Tok)} {n3 : Nat} {d : Nat} {td tsp : Tok} {sp : Str} {Q : Flow → Shared → Prop}
    (W : Wd w h₀) (hA : Ar A 15) (FF : Fr h₀ L s.heap m) (N : News h₀ L s.heap ((aS, LO (strValues st).toArray n3) :: rest))
    (hne : ∀ p ∈ rest, p.1 ≠ aS) (md : m "depth" = some (.int d td)) (mS : m "still" = some (.ref aS)) (msp : m "spelled" = some (.str sp tsp)) (hd : d ≤ st.length) (hst : st.length ≤ 1000) (hsp : sp.length ≤ 100000) (hlen : ∀ p ∈ st, p.1.length = 1)
    (hQ : ∀ h' g' k m' n' t', Fr h₀ L h' m' → News h₀ L h' ((aS, LO (strValues (st.take d)).toArray n') :: rest) → (∀ y : Str, y ≠ "spelled" → m' y = m y) → m' "spelled" = some (.str (sp ++ catS ((st.drop d).reverse.map (·.1))) t') → g' = s.gens → Q .next ⟨h', g', s.drawn, k, s.os⟩) :
    wpAny (model pw w) A (exec ((forBody (stBody (stAt 14)) 4).getD 2 default) (nestEnv L)) Q (fun _ _ => False) s := by
  unfold nestEnv
  show wpAny _ _ (exec (Stmt.While _ _ _ _) _) _ _ _
  refine wpAny_While ?_
  refine codeAny_whileLoop (fun n s' => ∃ i h' k m' n' t', (i ≤ st.length ∧ d ≤ st.length - i) ∧ n = st.length - i ∧ s' = ⟨h', s.gens, s.drawn, k, s.os⟩ ∧ Fr h₀ L h' m' ∧ News h₀ L h' ((aS, LO (strValues (st.take (st.length - i))).toArray n') :: rest) ∧
    (∀ y : Str, y ≠ "spelled" → m' y = m y) ∧ m' "spelled" = some (.str (sp ++ catS ((st.drop (st.length - i)).reverse.map (·.1))) t')) (fun n s' hI => ?_) st.length
    ⟨0, s.heap, s.toks, m, n3, tsp, ⟨Nat.zero_le _, hd⟩, rfl, rfl, FF, by simpa using N, fun _ _ => rfl, by simpa [catS, str_append] using msp⟩
  obtain ⟨i, h', k, m', n', t', ⟨hi, hdi⟩, rfl, rfl, FF', N', hm', msp'⟩ := hI
  have md' : m' "depth" = some (.int d td) := (hm' _ (by decide)).trans md
  have mS' : m' "still" = some (.ref aS) := (hm' _ (by decide)).trans mS
  clear FF N msp
  walk
  have hN := (st.take (st.length - i)).length
  have hlt : (st.take (st.length - i)).length = st.length - i := by rw [List.length_take]; omega
  refine len_list (News.isList N' (by news_mem)) (by simp [strValues, hlt]; omega) ?_
  walk
  have hsz : ((strValues (st.take (st.length - i))).toArray.size : Int) = ((st.length - i : Nat) : Int) := by simp [strValues, hlt]
  rw [hsz]
  by_cases hc : d < st.length - i
  · rw [if_pos (by simpa using hc)]
    walk
    have hil : st.length - (i + 1) < st.length := by omega
    have htk : st.take (st.length - i) = st.take (st.length - (i + 1)) ++ [st[st.length - (i + 1)]] := by
      rw [← List.take_succ_eq_append_getElem hil, show st.length - (i + 1) + 1 = st.length - i by omega]
    have hdr : st.drop (st.length - (i + 1)) = st[st.length - (i + 1)] :: st.drop (st.length - i) := by
      rw [List.drop_eq_getElem_cons hil, show st.length - (i + 1) + 1 = st.length - i by omega]
    have hcons : (strValues (st.take (st.length - i))).toArray = (strValues (st.take (st.length - (i + 1)))).toArray.push (.str st[st.length - (i + 1)].1 st[st.length - (i + 1)].2) := by
      rw [htk, List.push_toArray]; unfold strValues; rw [List.map_append]; rfl
    have hget := News.get N' List.mem_cons_self
    rw [hcons] at hget
    refine pop_end hget (by simp [strValues]; omega) fun h'' n'' hg hs => ?_
    have FF2 := FF'.update N' List.mem_cons_self hs
    have N2 := News.setHead N' hne hs hg
    clear FF' N'
    walk
    have hone := hlen st[st.length - (i + 1)] (List.getElem_mem hil)
    refine iadd_s ?_ fun t2 k2 => ?_
    · rw [hone]
      have h1 : (catS ((st.drop (st.length - i)).reverse.map (·.1))).length ≤ 1000 := by
        refine Nat.le_trans (catS_len _ (by intro x hx; simp only [List.mem_map, List.mem_reverse] at hx; obtain ⟨p, hp, rfl⟩ := hx; exact Nat.le_of_eq (hlen p (List.mem_of_mem_drop hp)))) ?_
        simp; omega
      have h2 : (sp ++ catS ((st.drop (st.length - i)).reverse.map (·.1))).length = sp.length + (catS ((st.drop (st.length - i)).reverse.map (·.1))).length := by rw [str_append]; exact Array.size_append ..
      omega
    walk
    refine ⟨st.length - (i + 1), by omega, i + 1, _, _, _, _, t2, ⟨by omega, by omega⟩, rfl, rfl, by assumption, by assumption, ?_, ?_⟩
    · intro y hy
      show (if y = _ then _ else m' y) = _
      rw [if_neg hy]
      exact hm' y hy
    · show some (Value.str ((sp ++ _) ++ _) _) = _
      rw [hdr, List.reverse_cons, List.map_append, str_assoc]
      congr 3
      simp [catS, str_append]
  · rw [if_neg (by simpa using hc)]
    walk
    have hd : st.length - i = d := by omega
    rw [hd] at N' msp'
    exact hQ _ _ _ _ _ _ FF' N' hm' msp' rfl
theorem newsSub {h₀ h : Heap} {L : Addr} {l l' : List (Addr × Obj)} (N : News h₀ L h l) (hs : ∀ p ∈ l', p ∈ l) : News h₀ L h l' := fun p hp => N p (hs p hp)
noncomputable def bases : List Nat := [65, 119808, 119860, 120432]
noncomputable def pres : List Str := [Str.ofString "", ⟨#[173]⟩, ⟨#[8205]⟩, ⟨#[65039]⟩]
theorem fdiv_nat (a b : Nat) : Int.fdiv (a : Int) (b : Int) = ((a / b : Nat) : Int) := by
  rw [Int.fdiv_eq_ediv_of_nonneg _ (by omega)]; rfl
theorem fmod_nat (a b : Nat) : Int.fmod (a : Int) (b : Int) = ((a % b : Nat) : Int) := by
  rw [Int.fmod_eq_emod_of_nonneg _ (by omega)]; rfl
theorem item_ints {value slice : PySem.Expr} {l : Addr} {vs : List Value} {ns : List Int} {k : Int} {u : Tok} {Q : Value → Shared → Prop} (hl : s.heap.IsList l vs.toArray) (hi : IntsAre vs ns)
    (h0 : 0 ≤ k) (h1 : k < ns.length) (hfit : k < 2 ^ 63) (h : ∀ t, Q (.int (ns.getD k.toNat 0) t) s)
    (hs : subscripted slice false (.ref l) (.int k u) = operate [.ref l, .int k u] (getItem (.ref l) (.int k u)) := by with_unfolding_all rfl) :
    wpAny (model pw w) A (subscriptTail value slice (.ref l) (.int k u)) Q E s := by
  obtain ⟨t, hx⟩ := hi.get k.toNat _ (ints_getD h0 h1)
  exact tail_any hl.typeIs slot_list_getitem.lookup (wpAny_getItem_list hl h0 hfit (by simpa using hx) (h t)) hs
theorem nest_great {h₀ : Heap} {L aD : Addr} {m : Str → Option Value} {rest : List (Addr × Obj)} {dt : List (Int × Tok)} {n1 : Nat} {dr : Nat} {td : Tok} {Q : Flow → Shared → Prop}
    (W : Wd w h₀) (hA : Ar A 15) (FF : Fr h₀ L s.heap m) (N : News h₀ L s.heap ((aD, LO (dt.map iv).toArray n1) :: rest))
    (md : m "drawn" = some (.int dr td)) (mD : m "depths" = some (.ref aD)) (hdt : dt.length ≤ 1000)
    (hQ : ∀ h' k m' t', Fr h₀ L h' m' → News h₀ L h' ((aD, LO (dt.map iv).toArray n1) :: rest) → (∀ y : Str, y ≠ "great" → m' y = m y) → m' "great" = some (.str ⟨#[bases.getD (dr / 8 % 4) 0 + dt.length]⟩ t') → Q .next ⟨h', s.gens, s.drawn, k, s.os⟩) :
    wpAny (model pw w) A (exec ((forBody (stBody (stAt 14)) 4).getD 3 default) (nestEnv L)) Q (fun _ _ => False) s := by
  unfold nestEnv
  show wpAny _ _ (exec (Stmt.Assign _ _ _) _) _ _ _
  walk
  have hj : ((dr : Int).fdiv 8).fmod 4 = ((dr / 8 % 4 : Nat) : Int) := by
    have h1 := fdiv_nat dr 8
    have h2 := fmod_nat (dr / 8) 4
    rw [← h1] at h2
    exact h2
  have hj4 : dr / 8 % 4 < 4 := Nat.mod_lt _ (by decide)
  rw [hj]
  generalize dr / 8 % 4 = j at hj4 hQ ⊢
  refine item_ints (vs := [_, _, _, _]) (ns := [65, 119808, 119860, 120432]) (News.isList (by assumption) List.mem_cons_self) (.cons _ _ (.cons _ _ (.cons _ _ (.cons _ _ .nil)))) (by omega) (by show (j : Int) < 4; omega) (by omega) (fun t => ?_)
  walk
  refine len_list (News.isList (by assumption) (by news_mem)) (by simp; omega) ?_
  walk
  have hb : ([65, 119808, 119860, 120432] : List Int).getD ((j : Int).toNat) 0 + ((List.map iv dt).toArray.size : Int) = ((bases.getD j 0 + dt.length : Nat) : Int) := by
    have : j = 0 ∨ j = 1 ∨ j = 2 ∨ j = 3 := by omega
    rcases this with rfl | rfl | rfl | rfl <;> simp [bases]
  have hb2 : bases.getD j 0 ≤ 120432 := by
    have : j = 0 ∨ j = 1 ∨ j = 2 ∨ j = 3 := by omega
    rcases this with rfl | rfl | rfl | rfl <;> simp [bases]
  rw [hb]
  refine chr_of_range (by omega) (by omega) ?_
  rw [Int.toNat_natCast]
  walk
  refine hQ _ _ _ _ (by assumption) (newsSub (by assumption) (fun p hp => List.mem_cons_of_mem _ hp)) (fun y hy => by show (if y = _ then _ else _) = _; rw [if_neg hy]) rfl
theorem nest_spell {h₀ : Heap} {L : Addr} {m : Str → Option Value} {news : List (Addr × Obj)} {dr : Nat} {td tg tsp : Tok} {g : Nat} {sp : Str} {Q : Flow → Shared → Prop}
    (W : Wd w h₀) (hA : Ar A 15) (FF : Fr h₀ L s.heap m) (N : News h₀ L s.heap news)
    (md : m "drawn" = some (.int dr td)) (mg : m "great" = some (.str ⟨#[g]⟩ tg)) (msp : m "spelled" = some (.str sp tsp)) (hsp : sp.length ≤ 200000)
    (hQ : ∀ h' k m' t', Fr h₀ L h' m' → News h₀ L h' news → (∀ y : Str, y ≠ "spelled" → m' y = m y) → m' "spelled" = some (.str (sp ++ (pres.getD (dr / 32 % 4) ⟨#[]⟩ ++ ⟨#[g]⟩)) t') → Q .next ⟨h', s.gens, s.drawn, k, s.os⟩) :
    wpAny (model pw w) A (exec ((forBody (stBody (stAt 14)) 4).getD 4 default) (nestEnv L)) Q (fun _ _ => False) s := by
  unfold nestEnv
  show wpAny _ _ (exec (Stmt.AugAssign _ _ _ _) _) _ _ _
  walk
  have hj : ((dr : Int).fdiv 32).fmod 4 = ((dr / 32 % 4 : Nat) : Int) := by
    have h1 := fdiv_nat dr 32
    have h2 := fmod_nat (dr / 32) 4
    rw [← h1] at h2
    exact h2
  have hj4 : dr / 32 % 4 < 4 := Nat.mod_lt _ (by decide)
  rw [hj]
  generalize dr / 32 % 4 = j at hj4 hQ ⊢
  refine item_strsT (l := [(Str.ofString "", _), (⟨#[173]⟩, _), (⟨#[8205]⟩, _), (⟨#[65039]⟩, _)]) (News.isList (by assumption) List.mem_cons_self) (by omega) (by show (j : Int) < 4; omega) (by omega) (fun y t' hy => ?_)
  have hpy : y = pres.getD j ⟨#[]⟩ := by
    have : j = 0 ∨ j = 1 ∨ j = 2 ∨ j = 3 := by omega
    rcases this with rfl | rfl | rfl | rfl <;> (simp at hy; rw [← hy]; rfl)
  have hy1 : y.length ≤ 1 := by
    rw [hpy]
    have : j = 0 ∨ j = 1 ∨ j = 2 ∨ j = 3 := by omega
    rcases this with rfl | rfl | rfl | rfl <;> decide
  walk
  refine hQ _ _ _ _ (by assumption) (newsSub (by assumption) (fun p hp => List.mem_cons_of_mem _ hp)) (fun y hy => by show (if y = _ then _ else _) = _; rw [if_neg hy]) (by show some (Value.str _ _) = _; rw [hpy])
theorem append_l {a : Addr} {xs : Array Value} {y : Value} {n : Nat} {Q : Value → Shared → Prop} (hl : s.heap.get? a = some (LO xs n)) (hsz : xs.size ≤ 10000) (h : ∀ h' n', h'.get? a = some (LO (xs.push y) n') → Heap.SameBut a s.heap h' → Q .none { s with heap := h' }) :
    wpAny (model pw w) A (call (.builtin "list.append") [.ref a, y]) Q E s :=
  wpAny_list_append_plain ⟨n, hl⟩ (fun h' hp hs => let ⟨n', e⟩ := hp; h h' n' e hs) (by rw [sizeLine_eq]; omega)
theorem nest_still {h₀ : Heap} {L aD aS : Addr} {m : Str → Option Value} {rest : List (Addr × Obj)} {dt : List (Int × Tok)} {st : List (Str × Tok)} {n1 n3 : Nat} {Q : Flow → Shared → Prop}
    (W : Wd w h₀) (hA : Ar A 15) (FF : Fr h₀ L s.heap m) (N : News h₀ L s.heap ((aS, LO (strValues st).toArray n3) :: (aD, LO (dt.map iv).toArray n1) :: rest)) (hne : ∀ p ∈ ((aD, LO (dt.map iv).toArray n1) :: rest), p.1 ≠ aS)
    (mS : m "still" = some (.ref aS)) (mD : m "depths" = some (.ref aD)) (hdt : dt.length ≤ 1000) (hst : st.length ≤ 1000)
    (hQ : ∀ h' k t' n', Fr h₀ L h' m → News h₀ L h' ((aS, LO (strValues (st ++ [(⟨#[97 + dt.length]⟩, t')])).toArray n') :: (aD, LO (dt.map iv).toArray n1) :: rest) → Q .next ⟨h', s.gens, s.drawn, k, s.os⟩) :
    wpAny (model pw w) A (exec ((forBody (stBody (stAt 14)) 4).getD 5 default) (nestEnv L)) Q (fun _ _ => False) s := by
  unfold nestEnv
  show wpAny _ _ (exec (Stmt.Expr _ _) _) _ _ _
  walk
  refine len_list (News.isList (by assumption) (by news_mem)) (by simp; omega) ?_
  walk
  refine chr_of_range (by omega) (by simp; omega) ?_
  walk
  refine append_l (News.get (by assumption) List.mem_cons_self) (by simp [strValues]; omega) fun h' n' hg hs => ?_
  have FF2 := FF.update N List.mem_cons_self hs
  have N2 := News.setHead N hne hs hg
  clear FF N
  walk
  have e : (97 + ((List.map iv dt).toArray.size : Int)).toNat = 97 + dt.length := by simp; omega
  rw [e, List.push_toArray] at N2
  refine hQ _ _ _ _ FF2 (by have h := N2; unfold strValues at h ⊢; rw [List.map_append]; exact h)
theorem nest_depths {h₀ : Heap} {L aD : Addr} {m : Str → Option Value} {news : List (Addr × Obj)} {dt : List (Int × Tok)} {n1 : Nat} {d : Int} {td : Tok} {Q : Flow → Shared → Prop}
    (W : Wd w h₀) (hA : Ar A 15) (FF : Fr h₀ L s.heap m) (N : News h₀ L s.heap ((aD, LO (dt.map iv).toArray n1) :: news)) (hne : ∀ p ∈ news, p.1 ≠ aD)
    (mD : m "depths" = some (.ref aD)) (md : m "depth" = some (.int d td)) (hdt : dt.length ≤ 1000)
    (hQ : ∀ h' k n', Fr h₀ L h' m → News h₀ L h' ((aD, LO ((dt ++ [(d, td)]).map iv).toArray n') :: news) → Q .next ⟨h', s.gens, s.drawn, k, s.os⟩) :
    wpAny (model pw w) A (exec ((forBody (stBody (stAt 14)) 4).getD 6 default) (nestEnv L)) Q (fun _ _ => False) s := by
  unfold nestEnv
  show wpAny _ _ (exec (Stmt.Expr _ _) _) _ _ _
  walk
  refine append_l (News.get (by assumption) List.mem_cons_self) (by simp; omega) fun h' n' hg hs => ?_
  have FF2 := FF.update N List.mem_cons_self hs
  have N2 := News.setHead N hne hs hg
  clear FF N
  walk
  rw [List.push_toArray] at N2
  refine hQ _ _ _ FF2 (by rw [List.map_append]; exact N2)
theorem nest_greats {h₀ : Heap} {L aG : Addr} {m : Str → Option Value} {news : List (Addr × Obj)} {gt : List (Str × Tok)} {n1 : Nat} {g : Str} {tg : Tok} {Q : Flow → Shared → Prop}
    (W : Wd w h₀) (hA : Ar A 15) (FF : Fr h₀ L s.heap m) (N : News h₀ L s.heap ((aG, LO (strValues gt).toArray n1) :: news)) (hne : ∀ p ∈ news, p.1 ≠ aG)
    (mG : m "greats" = some (.ref aG)) (mg : m "great" = some (.str g tg)) (hgt : gt.length ≤ 1000)
    (hQ : ∀ h' k n', Fr h₀ L h' m → News h₀ L h' ((aG, LO (strValues (gt ++ [(g, tg)])).toArray n') :: news) → Q .next ⟨h', s.gens, s.drawn, k, s.os⟩) :
    wpAny (model pw w) A (exec ((forBody (stBody (stAt 14)) 4).getD 7 default) (nestEnv L)) Q (fun _ _ => False) s := by
  unfold nestEnv
  show wpAny _ _ (exec (Stmt.Expr _ _) _) _ _ _
  walk
  refine append_l (News.get (by assumption) List.mem_cons_self) (by simp [strValues]; omega) fun h' n' hg hs => ?_
  have FF2 := FF.update N List.mem_cons_self hs
  have N2 := News.setHead N hne hs hg
  clear FF N
  walk
  rw [List.push_toArray] at N2
  refine hQ _ _ _ FF2 (by have h := N2; unfold strValues at h ⊢; rw [List.map_append]; exact h)
theorem nest_drawn {h₀ : Heap} {L : Addr} {m : Str → Option Value} {news : List (Addr × Obj)} {x : Int} {tx : Tok} {Q : Flow → Shared → Prop}
    (W : Wd w h₀) (hA : Ar A 15) (FF : Fr h₀ L s.heap m) (N : News h₀ L s.heap news) (mx : m "x" = some (.int x tx))
    (hQ : ∀ h' k m' t', Fr h₀ L h' m' → News h₀ L h' news → (∀ y : Str, y ≠ "drawn" → m' y = m y) → m' "drawn" = some (.int ((x % 1000000).toNat : Nat) t') → Q .next ⟨h', s.gens, s.drawn, k, s.os⟩) :
    wpAny (model pw w) A (exec ((forBody (stBody (stAt 14)) 4).getD 0 default) (nestEnv L)) Q (fun _ _ => False) s := by
  unfold nestEnv
  show wpAny _ _ (exec (Stmt.Assign _ _ _) _) _ _ _
  walk
  have e : x.fmod (10 ^ Int.toNat 6) = ((x % 1000000).toNat : Nat) := by
    show x.fmod 1000000 = _
    rw [Int.fmod_eq_emod_of_nonneg _ (by omega), Int.toNat_of_nonneg (Int.emod_nonneg _ (by omega))]
  refine hQ _ _ _ _ (by assumption) (by assumption) (fun y hy => by show (if y = _ then _ else _) = _; rw [if_neg hy]) (by show some (Value.int _ _) = _; rw [e])
noncomputable def nextDepth (ds : List Nat) (dr : Nat) : Nat := match ds.getLast? with | none => 0 | some l => dr % (l + 2)
theorem nest_depth {h₀ : Heap} {L aD : Addr} {m : Str → Option Value} {news : List (Addr × Obj)} {ds : List Nat} {tk : List Tok} {n1 dr : Nat} {td : Tok} {Q : Flow → Shared → Prop}
    (W : Wd w h₀) (hA : Ar A 15) (FF : Fr h₀ L s.heap m) (N : News h₀ L s.heap ((aD, LO (((ds.map Int.ofNat).zip tk).map iv).toArray n1) :: news)) (htk : tk.length = ds.length)
    (mD : m "depths" = some (.ref aD)) (md : m "drawn" = some (.int dr td)) (hdt : ds.length ≤ 1000)
    (hQ : ∀ h' k m' t', Fr h₀ L h' m' → News h₀ L h' ((aD, LO (((ds.map Int.ofNat).zip tk).map iv).toArray n1) :: news) → (∀ y : Str, y ≠ "depth" → m' y = m y) → m' "depth" = some (.int (nextDepth ds dr : Nat) t') → Q .next ⟨h', s.gens, s.drawn, k, s.os⟩) :
    wpAny (model pw w) A (exec ((forBody (stBody (stAt 14)) 4).getD 1 default) (nestEnv L)) Q (fun _ _ => False) s := by
  have hD := ints_are ((ds.map Int.ofNat).zip tk)
  have hfst : ((ds.map Int.ofNat).zip tk).map (·.1) = ds.map Int.ofNat := List.map_fst_zip (by simp [htk])
  rw [hfst] at hD
  unfold nestEnv
  show wpAny _ _ (exec (Stmt.Assign _ _ _) _) _ _ _
  walk
  refine ne_intsK (us := []) (News.isList (by assumption) (by news_mem)) hD (News.isList (by assumption) (by news_mem)) .nil (by have := hA.croom; have := hA.units; show A.units + 64 < 9900; omega) ?_
  walk
  by_cases h0 : ds = []
  · subst h0
    rw [if_neg (by simp)]
    walk
    refine hQ _ _ _ _ (by assumption) (newsSub (by assumption) (fun p hp => List.mem_cons_of_mem _ hp)) (fun y hy => by show (if y = _ then _ else _) = _; rw [if_neg hy]) rfl
  · rw [if_pos (by simpa using h0)]
    walk
    have hl : 0 < ds.length := List.length_pos_iff.mpr h0
    refine item_list_ints_neg (News.isList (by assumption) (by news_mem)) hD (by decide) (by simp; omega) (by decide) (fun t => ?_)
    have hlast : (ds.map Int.ofNat).getD ((-1 : Int) + (ds.map Int.ofNat).length).toNat 0 = ((ds.getLast h0 : Nat) : Int) := by
      have : ((-1 : Int) + ((ds.map Int.ofNat).length : Nat)).toNat = ds.length - 1 := by simp; omega
      rw [this, List.getLast_eq_getElem]
      simp [List.getD_eq_getElem?_getD, List.getElem?_eq_getElem (show ds.length - 1 < ds.length by omega)]
    rw [hlast]
    walk
    have he : Int.fmod (dr : Int) (((ds.getLast h0 : Nat) : Int) + 2) = ((nextDepth ds dr : Nat) : Int) := by
      have := fmod_nat dr (ds.getLast h0 + 2)
      unfold nextDepth
      rw [List.getLast?_eq_some_getLast h0]
      exact this
    refine hQ _ _ _ _ (by assumption) (newsSub (by assumption) (fun p hp => List.mem_cons_of_mem _ hp)) (fun y hy => by show (if y = _ then _ else _) = _; rw [if_neg hy]) (by show some (Value.int _ _) = _; rw [he])
noncomputable def chS (c : Nat) : Str := ⟨#[c]⟩
/-- what the nest's loop has at hand -/
structure NSt where
  ds : List Nat
  gs : List Nat
  stk : List Nat
  sp : Str
noncomputable def NSt.turn (S : NSt) (x : Int) : NSt :=
  let dr := (x % 1000000).toNat
  let d := nextDepth S.ds dr
  let g := bases.getD (dr / 8 % 4) 0 + S.ds.length
  { ds := S.ds ++ [d], gs := S.gs ++ [g], stk := S.stk.take d ++ [97 + S.ds.length], sp := S.sp ++ catS ((S.stk.drop d).reverse.map chS) ++ (pres.getD (dr / 32 % 4) ⟨#[]⟩ ++ ⟨#[g]⟩) }
structure NSt.Ok (S : NSt) : Prop where
  last : ∀ l, S.ds.getLast? = some l → S.stk.length = l + 1
  none : S.ds = [] → S.stk = []
  gs : S.gs.length = S.ds.length
  stk : S.stk.length ≤ S.ds.length
  sp : S.sp.length ≤ 20 * S.ds.length * S.ds.length
theorem NSt.Ok.depth {S : NSt} (h : S.Ok) (dr : Nat) : nextDepth S.ds dr ≤ S.stk.length := by
  unfold nextDepth
  cases hl : S.ds.getLast? with
  | none => exact Nat.zero_le _
  | some l =>
    rw [h.last l hl]
    have := Nat.mod_lt dr (show 0 < l + 2 by omega)
    show dr % (l + 2) ≤ l + 1
    omega
theorem NSt.Ok.turn {S : NSt} (h : S.Ok) (x : Int) : (S.turn x).Ok := by
  have hd := h.depth (x % 1000000).toNat
  have h1 := h.stk
  refine ⟨fun l hl => ?_, fun e => ?_, ?_, ?_, ?_⟩
  · simp [NSt.turn] at hl ⊢
    omega
  · simp [NSt.turn] at e
  · simp [NSt.turn, h.gs]
  · simp [NSt.turn]; omega
  · have h2 := h.sp
    have h3 : (catS ((S.stk.drop (nextDepth S.ds (x % 1000000).toNat)).reverse.map chS)).length ≤ S.ds.length := by
      refine Nat.le_trans (catS_len _ (by intro y hy; simp only [List.mem_map] at hy; obtain ⟨c, _, rfl⟩ := hy; exact Nat.le_refl 1)) ?_
      simp; omega
    have h4 : ∀ j, (pres.getD j ⟨#[]⟩).length ≤ 1 := by
      intro j
      match j with
      | 0 => decide
      | 1 => decide
      | 2 => decide
      | 3 => decide
      | j + 4 => simp [pres]; decide
    have h4 := h4 ((x % 1000000).toNat / 32 % 4)
    have e : (S.turn x).sp.length = S.sp.length + (catS ((S.stk.drop (nextDepth S.ds (x % 1000000).toNat)).reverse.map chS)).length + ((pres.getD ((x % 1000000).toNat / 32 % 4) ⟨#[]⟩).length + 1) := by
      show (S.sp.cps ++ _ ++ (_ ++ #[_])).size = _
      simp only [Array.size_append]
      rfl
    have e2 : (S.turn x).ds.length = S.ds.length + 1 := by simp [NSt.turn]
    rw [e, e2]
    have : 20 * (S.ds.length + 1) * (S.ds.length + 1) = 20 * S.ds.length * S.ds.length + 40 * S.ds.length + 20 := by
      generalize S.ds.length = n
      simp only [Nat.mul_add, Nat.add_mul, Nat.mul_one, Nat.one_mul]; omega
    omega
/-- the lists of the nest, as they lie -/
structure NLy (h₀ : Heap) (L : Addr) (h : Heap) (m : Str → Option Value) (rest : List (Addr × Obj)) (aD aG aS : Addr) (S : NSt) : Prop where
  fr : Fr h₀ L h m
  mD : m "depths" = some (.ref aD)
  mG : m "greats" = some (.ref aG)
  mS : m "still" = some (.ref aS)
  msp : ∃ t, m "spelled" = some (.str S.sp t)
  news : ∃ tk gt st n1 n2 n3, News h₀ L h ([(aD, LO (((S.ds.map Int.ofNat).zip tk).map iv).toArray n1), (aG, LO (strValues gt).toArray n2), (aS, LO (strValues st).toArray n3)] ++ rest) ∧ tk.length = S.ds.length ∧ gt.map (·.1) = S.gs.map chS ∧ st.map (·.1) = S.stk.map chS
theorem nest_turn {h₀ : Heap} {L aD aG aS : Addr} {m : Str → Option Value} {rest : List (Addr × Obj)} {S : NSt} {x : Int} {tx : Tok} {Q : Flow → Shared → Prop}
    (W : Wd w h₀) (hA : Ar A 15) (Y : NLy h₀ L s.heap m rest aD aG aS S) (ok : S.Ok) (h9 : S.ds.length ≤ 9) (h12 : aD ≠ aG) (h13 : aD ≠ aS) (h23 : aG ≠ aS) (hrest : ∀ p ∈ rest, p.1 ≠ aD ∧ p.1 ≠ aG ∧ p.1 ≠ aS) (mx : m "x" = some (.int x tx))
    (hQ : ∀ h' k m', NLy h₀ L h' m' rest aD aG aS (S.turn x) → (∀ y : Str, y ∉ ([Str.ofString "drawn", Str.ofString "depth", Str.ofString "great", Str.ofString "spelled"] : List Str) → m' y = m y) → Q .next ⟨h', s.gens, s.drawn, k, s.os⟩) :
    wpAny (model pw w) A (execs (forBody (stBody (stAt 14)) 4) (nestEnv L)) Q (fun _ _ => False) s := by
  obtain ⟨FF, mD, mG, mS, ⟨tsp, msp⟩, tk, gt, st, n1, n2, n3, N, htk, hgt, hst⟩ := Y
  have hlg : gt.length = S.ds.length := by have := congrArg List.length hgt; simpa [ok.gs] using this
  have hls : st.length = S.stk.length := by have := congrArg List.length hst; simpa using this
  have hsl := ok.stk
  have hd := ok.depth (x % 1000000).toNat
  have hsp : S.sp.length ≤ 1620 := Nat.le_trans ok.sp (by
    have : S.ds.length * S.ds.length ≤ 9 * 9 := Nat.mul_le_mul h9 h9
    rw [Nat.mul_assoc]; omega)
  show wpAny _ _ (execs [_, _, _, _, _, _, _, _] _) _ _ _
  refine wpAny_execs_cons (nest_drawn W hA FF N mx fun h1 k1 m1 t1 F1 N1 e1 d1 => ?_)
  refine wpAny_execs_cons (nest_depth (news := (aG, LO (strValues gt).toArray n2) :: (aS, LO (strValues st).toArray n3) :: rest) W hA F1 N1 htk ((e1 _ (by decide)).trans mD) d1 (by omega) fun h2 k2 m2 t2 F2 N2 e2 d2 => ?_)
  have perm : ∀ {h : Heap} {a b c : Addr × Obj} {l : List (Addr × Obj)}, News h₀ L h l → a ∈ l → b ∈ l → c ∈ l → (∀ p ∈ rest, p ∈ l) → News h₀ L h (a :: b :: c :: rest) := fun N ha hb hc hr => newsSub N (by
    intro p hp
    rcases List.mem_cons.mp hp with rfl | hp
    · exact ha
    rcases List.mem_cons.mp hp with rfl | hp
    · exact hb
    rcases List.mem_cons.mp hp with rfl | hp
    · exact hc
    · exact hr p hp)
  refine wpAny_execs_cons (nest_pops (st := st) (n3 := n3) (rest := (aD, LO (((S.ds.map Int.ofNat).zip tk).map iv).toArray n1) :: (aG, LO (strValues gt).toArray n2) :: rest) W hA F2 (perm N2 (by repeat (first | exact List.Mem.head _ | assumption | refine List.Mem.tail _ ?_)) (by repeat (first | exact List.Mem.head _ | assumption | refine List.Mem.tail _ ?_)) (by repeat (first | exact List.Mem.head _ | assumption | refine List.Mem.tail _ ?_)) (by intro p hp; repeat (first | exact hp | refine List.Mem.tail _ ?_)) : News h₀ L h2 ((aS, _) :: (aD, _) :: (aG, _) :: rest)) (by intro p hp; rcases List.mem_cons.mp hp with rfl | hp; exact h13; rcases List.mem_cons.mp hp with rfl | hp; exact h23; exact (hrest p hp).2.2) d2 ((e2 _ (by decide)).trans ((e1 _ (by decide)).trans mS)) ((e2 _ (by decide)).trans ((e1 _ (by decide)).trans msp)) (by rw [hls]; exact hd) (by omega) (by omega)
    (by
      intro p hp
      have : p.1 ∈ S.stk.map chS := by rw [← hst]; exact List.mem_map_of_mem hp
      obtain ⟨c, _, e⟩ := List.mem_map.mp this
      rw [← e]; rfl) fun h3 g3 k3 m3 n3' t3 F3 N3 e3 d3 eg => ?_)
  subst eg
  refine wpAny_execs_cons (nest_great (dt := (S.ds.map Int.ofNat).zip tk) (n1 := n1) (rest := (aG, LO (strValues gt).toArray n2) :: (aS, LO (strValues (st.take (nextDepth S.ds (x % 1000000).toNat))).toArray n3') :: rest) W hA F3 (perm N3 (by repeat (first | exact List.Mem.head _ | assumption | refine List.Mem.tail _ ?_)) (by repeat (first | exact List.Mem.head _ | assumption | refine List.Mem.tail _ ?_)) (by repeat (first | exact List.Mem.head _ | assumption | refine List.Mem.tail _ ?_)) (by intro p hp; repeat (first | exact hp | refine List.Mem.tail _ ?_))) ((e3 _ (by decide)).trans ((e2 _ (by decide)).trans d1)) ((e3 _ (by decide)).trans ((e2 _ (by decide)).trans ((e1 _ (by decide)).trans mD))) (by simp [htk]; omega) fun h4 k4 m4 t4 F4 N4 e4 d4 => ?_)
  have hsp4 : (S.sp ++ catS ((st.drop (nextDepth S.ds (x % 1000000).toNat)).reverse.map (·.1))).length ≤ 200000 := by
    have e : (S.sp ++ catS ((st.drop (nextDepth S.ds (x % 1000000).toNat)).reverse.map (·.1))).length = S.sp.length + (catS ((st.drop (nextDepth S.ds (x % 1000000).toNat)).reverse.map (·.1))).length := by
      show (_ ++ _ : Array Nat).size = _
      exact Array.size_append ..
    have := catS_len ((st.drop (nextDepth S.ds (x % 1000000).toNat)).reverse.map (·.1)) (by
      intro y hy
      simp only [List.mem_map, List.mem_reverse] at hy
      obtain ⟨p, hp, rfl⟩ := hy
      have : p.1 ∈ S.stk.map chS := by rw [← hst]; exact List.mem_map_of_mem (List.mem_of_mem_drop hp)
      obtain ⟨c, _, e⟩ := List.mem_map.mp this
      rw [← e]; exact Nat.le_refl 1)
    rw [e]
    simp only [List.length_map, List.length_reverse, List.length_drop] at this
    omega
  refine wpAny_execs_cons (nest_spell W hA F4 N4 ((e4 _ (by decide)).trans ((e3 _ (by decide)).trans ((e2 _ (by decide)).trans d1))) d4 ((e4 _ (by decide)).trans d3) hsp4 fun h5 k5 m5 t5 F5 N5 e5 d5 => ?_)
  refine wpAny_execs_cons (nest_still (dt := (S.ds.map Int.ofNat).zip tk) (n1 := n1) (rest := (aG, LO (strValues gt).toArray n2) :: rest) (st := st.take (nextDepth S.ds (x % 1000000).toNat)) (n3 := n3') W hA F5 (perm N5 (by repeat (first | exact List.Mem.head _ | assumption | refine List.Mem.tail _ ?_)) (by repeat (first | exact List.Mem.head _ | assumption | refine List.Mem.tail _ ?_)) (by repeat (first | exact List.Mem.head _ | assumption | refine List.Mem.tail _ ?_)) (by intro p hp; repeat (first | exact hp | refine List.Mem.tail _ ?_))) (by intro p hp; rcases List.mem_cons.mp hp with rfl | hp; exact h13; rcases List.mem_cons.mp hp with rfl | hp; exact h23; exact (hrest p hp).2.2)
    ((e5 _ (by decide)).trans ((e4 _ (by decide)).trans ((e3 _ (by decide)).trans ((e2 _ (by decide)).trans ((e1 _ (by decide)).trans mS))))) ((e5 _ (by decide)).trans ((e4 _ (by decide)).trans ((e3 _ (by decide)).trans ((e2 _ (by decide)).trans ((e1 _ (by decide)).trans mD))))) (by simp [htk]; omega) (by simp; omega) fun h6 k6 t6 n6 F6 N6 => ?_)
  refine wpAny_execs_cons (nest_depths (dt := (S.ds.map Int.ofNat).zip tk) (n1 := n1) (news := (aG, LO (strValues gt).toArray n2) :: (aS, LO (strValues (st.take (nextDepth S.ds (x % 1000000).toNat) ++ [(⟨#[97 + ((S.ds.map Int.ofNat).zip tk).length]⟩, t6)])).toArray n6) :: rest) W hA F6 (perm N6 (by repeat (first | exact List.Mem.head _ | assumption | refine List.Mem.tail _ ?_)) (by repeat (first | exact List.Mem.head _ | assumption | refine List.Mem.tail _ ?_)) (by repeat (first | exact List.Mem.head _ | assumption | refine List.Mem.tail _ ?_)) (by intro p hp; repeat (first | exact hp | refine List.Mem.tail _ ?_))) (by intro p hp; rcases List.mem_cons.mp hp with rfl | hp; exact Ne.symm h12; rcases List.mem_cons.mp hp with rfl | hp; exact Ne.symm h13; exact (hrest p hp).1)
    ((e5 _ (by decide)).trans ((e4 _ (by decide)).trans ((e3 _ (by decide)).trans ((e2 _ (by decide)).trans ((e1 _ (by decide)).trans mD))))) ((e5 _ (by decide)).trans ((e4 _ (by decide)).trans ((e3 _ (by decide)).trans d2))) (by simp [htk]; omega) fun h7 k7 n7 F7 N7 => ?_)
  refine wpAny_execs_cons (nest_greats (gt := gt) (n1 := n2) (news := (aD, LO (((S.ds.map Int.ofNat).zip tk ++ [(((nextDepth S.ds (x % 1000000).toNat : Nat) : Int), t2)]).map iv).toArray n7) :: (aS, LO (strValues (st.take (nextDepth S.ds (x % 1000000).toNat) ++ [(⟨#[97 + ((S.ds.map Int.ofNat).zip tk).length]⟩, t6)])).toArray n6) :: rest) W hA F7 (perm N7 (by repeat (first | exact List.Mem.head _ | assumption | refine List.Mem.tail _ ?_)) (by repeat (first | exact List.Mem.head _ | assumption | refine List.Mem.tail _ ?_)) (by repeat (first | exact List.Mem.head _ | assumption | refine List.Mem.tail _ ?_)) (by intro p hp; repeat (first | exact hp | refine List.Mem.tail _ ?_))) (by intro p hp; rcases List.mem_cons.mp hp with rfl | hp; exact h12; rcases List.mem_cons.mp hp with rfl | hp; exact Ne.symm h23; exact (hrest p hp).2.1)
    ((e5 _ (by decide)).trans ((e4 _ (by decide)).trans ((e3 _ (by decide)).trans ((e2 _ (by decide)).trans ((e1 _ (by decide)).trans mG))))) ((e5 _ (by decide)).trans d4) (by omega) fun h8 k8 n8 F8 N8 => ?_)
  refine wpAny_execs_nil ?_
  have hz : ((S.ds.map Int.ofNat).zip tk).length = S.ds.length := by simp [htk]
  have hz' : ((S.turn x).ds.map Int.ofNat).zip (tk ++ [t2]) = (S.ds.map Int.ofNat).zip tk ++ [(((nextDepth S.ds (x % 1000000).toNat : Nat) : Int), t2)] := by
    show ((S.ds ++ [_]).map Int.ofNat).zip (tk ++ [t2]) = _
    rw [List.map_append, List.zip_append (by simp [htk])]
    rfl
  refine hQ _ _ _ ⟨F8, (e5 _ (by decide)).trans ((e4 _ (by decide)).trans ((e3 _ (by decide)).trans ((e2 _ (by decide)).trans ((e1 _ (by decide)).trans mD)))), (e5 _ (by decide)).trans ((e4 _ (by decide)).trans ((e3 _ (by decide)).trans ((e2 _ (by decide)).trans ((e1 _ (by decide)).trans mG)))),
    (e5 _ (by decide)).trans ((e4 _ (by decide)).trans ((e3 _ (by decide)).trans ((e2 _ (by decide)).trans ((e1 _ (by decide)).trans mS)))), ⟨t5, ?_⟩, tk ++ [t2], gt ++ [(⟨#[bases.getD ((x % 1000000).toNat / 8 % 4) 0 + ((S.ds.map Int.ofNat).zip tk).length]⟩, t4)], st.take (nextDepth S.ds (x % 1000000).toNat) ++ [(⟨#[97 + ((S.ds.map Int.ofNat).zip tk).length]⟩, t6)], n7, n8, n6, ?_, ?_, ?_, ?_⟩ (fun y hy => ?_)
  · refine d5.trans ?_
    show some (Value.str _ _) = some (Value.str (_ ++ _ ++ _) _)
    rw [hz]
    have : (st.drop (nextDepth S.ds (x % 1000000).toNat)).reverse.map (·.1) = ((S.stk.drop (nextDepth S.ds (x % 1000000).toNat)).reverse.map chS) := by
      rw [List.map_reverse, List.map_reverse, List.map_drop, List.map_drop, hst]
    rw [this]
  · rw [hz']
    exact perm N8 (by repeat (first | exact List.Mem.head _ | assumption | refine List.Mem.tail _ ?_)) (by repeat (first | exact List.Mem.head _ | assumption | refine List.Mem.tail _ ?_)) (by repeat (first | exact List.Mem.head _ | assumption | refine List.Mem.tail _ ?_)) (by intro p hp; repeat (first | exact hp | refine List.Mem.tail _ ?_))
  · simp [NSt.turn, htk]
  · show (gt ++ [_]).map (fun p : Str × Tok => p.1) = (S.gs ++ [_]).map chS
    rw [List.map_append, List.map_append, hgt, hz]
    rfl
  · show (st.take _ ++ [_]).map (fun p : Str × Tok => p.1) = (S.stk.take _ ++ [_]).map chS
    rw [List.map_append, List.map_append, List.map_take, List.map_take, hst, hz]
    rfl
  · simp only [List.mem_cons, List.not_mem_nil, or_false, not_or] at hy
    exact (e5 _ hy.2.2.2).trans ((e4 _ hy.2.2.1).trans ((e3 _ hy.2.2.2).trans ((e2 _ hy.2.1).trans (e1 _ hy.1))))
end
end XnNestText
end EXnNest
theorem rstXnNest2 : True := by
  w_top off
  trivial
section XnNest2Text
open PySem PySem.W PySem.W.X PyProof.Rows
set_option maxRecDepth 100000
set_option maxHeartbeats 4000000
set_option linter.all false
section
variable {w : World} {A : Around} {E : Value → Shared → Prop} {s : Shared}
/-- the numbers that the nest is made of -/
noncomputable def nine (l : List Int) : List Int := (l ++ [8, 41, 71, 13, 99]).take 9
noncomputable def nestOf (l : List Int) : NSt := (nine l).foldl NSt.turn ⟨[], [], [], Str.ofString ""⟩
theorem five (l : List (Int × Tok)) (a b c d e : Tok) : ∃ l5 : List (Int × Tok), (List.map iv l).toArray ++ #[Value.int 8 a, Value.int 41 b, Value.int 71 c, Value.int 13 d, Value.int 99 e] = (l5.map iv).toArray ∧ l5.map (·.1) = l.map (·.1) ++ [8, 41, 71, 13, 99] :=
  ⟨l ++ [(8, a), (41, b), (71, c), (13, d), (99, e)], by simp [iv], by simp⟩
theorem NLy.iter {h₀ h h' : Heap} {L aI aD aG aS : Addr} {m : Str → Option Value} {oI oI' : Obj} {rest : List (Addr × Obj)} {S : NSt} (Y : NLy h₀ L h m ((aI, oI) :: rest) aD aG aS S) (hne : ∀ p ∈ rest, p.1 ≠ aI) (h1 : aD ≠ aI) (h2 : aG ≠ aI) (h3 : aS ≠ aI)
    (hs : Heap.SameBut aI h h') (ho : h'.get? aI = some oI') : NLy h₀ L h' m ((aI, oI') :: rest) aD aG aS S := by
  obtain ⟨FF, mD, mG, mS, msp, tk, gt, st, n1, n2, n3, N, r⟩ := Y
  refine ⟨FF.update N (a := aI) (o := oI) (by simp) hs, mD, mG, mS, msp, tk, gt, st, n1, n2, n3, ?_, r⟩
  intro p hp
  by_cases hpI : p = (aI, oI')
  · subst hpI
    exact ⟨ho, (N (aI, oI) (by simp)).2⟩
  · have hp' : p.1 ≠ aI ∧ p ∈ [(aD, LO (((S.ds.map Int.ofNat).zip tk).map iv).toArray n1), (aG, LO (strValues gt).toArray n2), (aS, LO (strValues st).toArray n3)] ++ (aI, oI) :: rest := by
      simp only [List.cons_append, List.nil_append, List.mem_cons] at hp ⊢
      rcases hp with rfl | rfl | rfl | rfl | hp
      · exact ⟨h1, by simp⟩
      · exact ⟨h2, by simp⟩
      · exact ⟨h3, by simp⟩
      · exact absurd rfl hpI
      · exact ⟨hne p hp, by simp [hp]⟩
    exact ⟨(hs.2 _ hp'.1).trans (N p hp'.2).1, (N p hp'.2).2⟩
theorem NLy.setM {h₀ h h' : Heap} {L aD aG aS : Addr} {m m' : Str → Option Value} {rest : List (Addr × Obj)} {S : NSt} (Y : NLy h₀ L h m rest aD aG aS S) (hn : h'.Ns L m') (hs : Heap.SameBut L h h')
    (hm : ∀ y ∈ ([Str.ofString "depths", Str.ofString "greats", Str.ofString "still", Str.ofString "spelled"] : List Str), m' y = m y) : NLy h₀ L h' m' rest aD aG aS S := by
  obtain ⟨FF, mD, mG, mS, ⟨t, msp⟩, tk, gt, st, n1, n2, n3, N, r⟩ := Y
  exact ⟨FF.set hn hs, (hm _ (by simp)).trans mD, (hm _ (by simp)).trans mG, (hm _ (by simp)).trans mS, ⟨t, (hm _ (by simp)).trans msp⟩, tk, gt, st, n1, n2, n3, N.set hs, r⟩
theorem NLy.ext {h₀ h h' : Heap} {L aI aD aG aS : Addr} {m : Str → Option Value} {oI : Obj} {rest : List (Addr × Obj)} {S : NSt} (Y : NLy h₀ L h m ((aI, oI) :: rest) aD aG aS S) (hs : Heap.ExtBut aI h h') (h1 : aD ≠ aI) (h2 : aG ≠ aI) (h3 : aS ≠ aI) : NLy h₀ L h' m [] aD aG aS S := by
  obtain ⟨FF, mD, mG, mS, msp, tk, gt, st, n1, n2, n3, N, r⟩ := Y
  have hI := N (aI, oI) (by simp)
  refine ⟨⟨let ⟨o, es, n, e, q⟩ := FF.ns; ⟨o, es, n, hs _ _ (Ne.symm hI.2.1) e, q⟩, fun b o e => hs b o (fun q => by rw [q, hI.2.2] at e; cases e) (FF.keep b o e), FF.above⟩, mD, mG, mS, msp, tk, gt, st, n1, n2, n3, ?_, r⟩
  intro p hp
  have hp' : p.1 ≠ aI ∧ p ∈ [(aD, LO (((S.ds.map Int.ofNat).zip tk).map iv).toArray n1), (aG, LO (strValues gt).toArray n2), (aS, LO (strValues st).toArray n3)] ++ (aI, oI) :: rest := by
    simp only [List.append_nil, List.mem_cons, List.not_mem_nil, or_false] at hp
    rcases hp with rfl | rfl | rfl
    · exact ⟨h1, by simp⟩
    · exact ⟨h2, by simp⟩
    · exact ⟨h3, by simp⟩
  exact ⟨hs _ _ hp'.1 (N p hp'.2).1, (N p hp'.2).2⟩
theorem foldOk {S : NSt} (ok : S.Ok) (l : List Int) : (l.foldl NSt.turn S).Ok := by
  induction l generalizing S with
  | nil => exact ok
  | cons x r ih => exact ih (ok.turn x)
theorem foldLen (S : NSt) (l : List Int) : (l.foldl NSt.turn S).ds.length = S.ds.length + l.length := by
  induction l generalizing S with
  | nil => rfl
  | cons x r ih => rw [List.foldl_cons, ih]; simp [NSt.turn]; omega
theorem nest_for {h₀ : Heap} {L aX aD aG aS : Addr} {m : Str → Option Value} {xs : List (Int × Tok)} {nX : Nat} {S : NSt} {R : Result → Shared → Prop}
    (W : Wd w h₀) (hA : Ar A 16) (Y : NLy h₀ L s.heap m [(aX, LO (xs.map iv).toArray nX)] aD aG aS S) (ok : S.Ok) (h9 : S.ds.length + xs.length ≤ 9) (h12 : aD ≠ aG) (h13 : aD ≠ aS) (h23 : aG ≠ aS) (hX : aX ≠ aD ∧ aX ≠ aG ∧ aX ≠ aS)
    (hR : ∀ h' k m' rest, NLy h₀ L h' m' rest aD aG aS ((xs.map (·.1)).foldl NSt.turn S) → R (.ok .next) ⟨h', s.gens, s.drawn, k, s.os⟩) :
    wpAny (model pw w) A (pyIter (.ref aX)) (fun it s₂ => codeAny (model pw w) A (.forLoop (.Name "x" ⟨59, 8, 59, 9⟩) it (forBody (stBody (stAt 14)) 4) [] (nestEnv L)) R s₂) E s := by
  have hXl : s.heap.IsList aX (xs.map iv).toArray := by
    obtain ⟨_, _, _, _, _, tk, gt, st, n1, n2, n3, N, _⟩ := Y
    exact News.isList N (List.mem_cons_of_mem _ (List.mem_cons_of_mem _ (List.mem_cons_of_mem _ List.mem_cons_self)))
  refine wpAny_pyIter_list hXl ?_
  have hXs : aX < s.heap.objs.size := let ⟨o, e, _⟩ := hXl; Heap.lt_size e
  have hlt : aD < s.heap.objs.size ∧ aG < s.heap.objs.size ∧ aS < s.heap.objs.size := by
    obtain ⟨_, _, _, _, _, tk, gt, st, n1, n2, n3, N, _⟩ := Y
    exact ⟨Heap.lt_size (N.get List.mem_cons_self), Heap.lt_size (N.get (List.mem_cons_of_mem _ List.mem_cons_self)), Heap.lt_size (N.get (List.mem_cons_of_mem _ (List.mem_cons_of_mem _ List.mem_cons_self)))⟩
  have Y1 : NLy h₀ L (s.heap.push { cls := .type "list_iterator", data := .fields #[.ref aX, .int 0 0] }) m [(s.heap.objs.size, { cls := .type "list_iterator", data := .fields #[.ref aX, .int 0 0] }), (aX, LO (xs.map iv).toArray nX)] aD aG aS S := by
    obtain ⟨FF, mD, mG, mS, msp, tk, gt, st, n1, n2, n3, N, r⟩ := Y
    refine ⟨FF.push _, mD, mG, mS, msp, tk, gt, st, n1, n2, n3, newsSub (News.push FF N _) ?_, r⟩
    intro p hp
    simp only [List.cons_append, List.nil_append, List.mem_cons, List.not_mem_nil, or_false] at hp ⊢
    rcases hp with h | h | h | h | h <;> simp [h]
  refine codeAny_forLoop (fun n s' => ∃ i h' k m' oI, (i ≤ xs.length ∧ n = xs.length - i) ∧ s' = ⟨h', s.gens, s.drawn, k, s.os⟩ ∧ oI.cls = .type "list_iterator" ∧ oI.data = .fields #[.ref aX, .int (i : Nat) 0] ∧
    NLy h₀ L h' m' [(s.heap.objs.size, oI), (aX, LO (xs.map iv).toArray nX)] aD aG aS ((((xs.take i).map (·.1)).foldl NSt.turn S))) (fun n s' hI => ?_) xs.length ⟨0, _, s.toks, m, _, ⟨Nat.zero_le _, rfl⟩, rfl, rfl, rfl, Y1⟩
  obtain ⟨i, h', k, m', oI, ⟨hi, rfl⟩, rfl, hc, hd, Y'⟩ := hI
  have NY := Y'
  obtain ⟨FF, mD, mG, mS, ⟨tsp, msp⟩, tk, gt, st, n1, n2, n3, N, r⟩ := NY
  have hgI : h'.get? s.heap.objs.size = some oI := N.get (List.mem_cons_of_mem _ (List.mem_cons_of_mem _ (List.mem_cons_of_mem _ List.mem_cons_self)))
  have hgX : h'.IsList aX (xs.map iv).toArray := News.isList N (List.mem_cons_of_mem _ (List.mem_cons_of_mem _ (List.mem_cons_of_mem _ (List.mem_cons_of_mem _ List.mem_cons_self))))
  by_cases hlt' : i < xs.length
  · refine wpAny_pyNext_list_item (x := iv xs[i]) ⟨oI, hgI, hc, hd⟩ hgX (by simp [hlt']) fun h2 hit hs => ?_
    obtain ⟨oI2, e2, c2, d2⟩ := hit
    have Y2 := Y'.iter (by intro p hp; simp only [List.mem_cons, List.not_mem_nil, or_false] at hp; subst hp; exact Nat.ne_of_lt hXs) (Nat.ne_of_lt hlt.1) (Nat.ne_of_lt hlt.2.1) (Nat.ne_of_lt hlt.2.2) hs e2
    dsimp only
    refine wpAny_assign_Name (wpAny_storeName_local (by rfl) Y2.fr.ns (fun h3 hn3 hs3 => ?_))
    have Y3 := Y2.setM hn3 hs3 (by intro y hy; simp only [List.mem_cons, List.not_mem_nil, or_false] at hy; rcases hy with rfl | rfl | rfl | rfl <;> rfl)
    have okk := foldOk ok ((xs.take i).map (·.1))
    have hlen : ((((xs.take i).map (·.1)).foldl NSt.turn S)).ds.length = S.ds.length + i := by rw [foldLen, List.length_map, List.length_take]; omega
    have hx : (xs.take (i + 1)).map (·.1) = (xs.take i).map (·.1) ++ [xs[i].1] := by rw [List.take_succ_eq_append_getElem hlt', List.map_append]; rfl
    refine wpAny_mono (nest_turn (x := xs[i].1) (tx := xs[i].2) W (hA.le (by omega)) Y3 okk (by omega) h12 h13 h23 ?_ (by simp [iv]) fun h4 k4 m4 Y4 hm4 => ?_) (fun _ _ h => h) (fun _ _ h => h.elim)
    · intro p hp
      simp only [List.mem_cons, List.not_mem_nil, or_false] at hp
      rcases hp with rfl | rfl
      · exact ⟨Nat.ne_of_gt hlt.1, Nat.ne_of_gt hlt.2.1, Nat.ne_of_gt hlt.2.2⟩
      · exact hX
    · refine ⟨xs.length - (i + 1), by omega, i + 1, h4, k4, m4, oI2, ⟨by omega, rfl⟩, rfl, c2, d2, ?_⟩
      rw [hx, List.foldl_append]
      exact Y4
  · refine wpAny_pyNext_list_end hA.handled ⟨oI, hgI, hc, hd⟩ hgX (by simp; omega) fun h2 hx => ?_
    dsimp only
    refine wpAny_execs_nil ?_
    have hie : i = xs.length := by omega
    subst hie
    rw [List.take_length] at Y'
    refine hR h2 k m' [] (Y'.ext hx (Nat.ne_of_lt hlt.1) (Nat.ne_of_lt hlt.2.1) (Nat.ne_of_lt hlt.2.2))
theorem strs_are (l : List (Str × Tok)) : StrsAre (strValues l) (l.map (·.1)) := by
  induction l with
  | nil => exact .nil
  | cons p r ih => exact .cons _ _ ih
theorem nest_ret {h₀ : Heap} {L aD aG aS : Addr} {m : Str → Option Value} {rest : List (Addr × Obj)} {S : NSt} {Q : Flow → Shared → Prop}
    (W : Wd w h₀) (hA : Ar A 15) (Y : NLy h₀ L s.heap m rest aD aG aS S) (ok : S.Ok) (h9 : S.ds.length ≤ 9)
    (hQ : ∀ h' k t t', (∀ b o, s.heap.get? b = some o → h'.get? b = some o) → s.heap.get? t = none → h'.get? t = some { cls := .type "tuple", data := .seq #[.ref aD, .ref aG, .str (S.sp ++ catS (S.stk.reverse.map chS)) t'] } → Q (.ret (.ref t)) ⟨h', s.gens, s.drawn, k, s.os⟩) :
    wpAny (model pw w) A (execs ((stBody (stAt 14)).drop 5) (nestEnv L)) Q (fun _ _ => False) s := by
  obtain ⟨FF, mD, mG, mS, ⟨tsp, msp⟩, tk, gt, st, n1, n2, n3, N, htk, hgt, hst⟩ := Y
  unfold nestEnv
  show wpAny _ _ (execs (_ :: _) _) _ _ _
  walk
  have hS : s.heap.get? aS = some (LO (strValues st).toArray n3) := N.get (by simp)
  have hlen1 : ∀ p ∈ st, p.1.length = 1 := by
    intro p hp
    have : p.1 ∈ S.stk.map chS := by rw [← hst]; exact List.mem_map_of_mem hp
    obtain ⟨c, _, e⟩ := List.mem_map.mp this
    rw [← e]; rfl
  have hls : st.length = S.stk.length := by have := congrArg List.length hst; simpa using this
  have hsl := ok.stk
  refine tail_any (T := "list") ⟨_, Heap.get?_push_of_some _ hS, rfl⟩ slot_list_getitem.lookup (wpAny_getItem_list_slice (lo := none) (hi := none) (st := some (-1)) ⟨_, Heap.get?_push_of_some _ hS, rfl, _, rfl⟩ (Heap.IsSliceOf.new _ _ _ _) .none .none (.int _ _) (by decide) ?_ (by rw [sizeLine_eq]; simp [strValues]; omega)) (by with_unfolding_all rfl)
  rw [krv_pick]
  walk
  have hrev : (strValues st).toArray.toList.reverse.toArray = (strValues st.reverse).toArray := by simp [strValues]
  rw [hrev]
  have hys : StrsAre (strValues st.reverse) (st.reverse.map (·.1)) := strs_are _
  refine join_list (ys := st.reverse.map (·.1)) ⟨_, Heap.get?_push_at rfl rfl, rfl, _, rfl⟩ hys ?_ (fun t' k' => ?_)
  · have h0 : (Str.ofString "").length = 0 := rfl
    rw [h0]
    have := sum_le ((st.reverse.map (·.1)).map (·.length)) 1 (by
      intro x hx
      simp only [List.mem_map, List.mem_reverse] at hx
      obtain ⟨_, ⟨p, hp, rfl⟩, rfl⟩ := hx
      exact Nat.le_of_eq (hlen1 p hp))
    simp only [List.length_map, List.length_reverse] at this ⊢
    omega
  rw [join_cat, List.map_reverse, hst, ← List.map_reverse]
  have hcl := catS_len (S.stk.reverse.map chS) (by intro x hx; obtain ⟨c, _, rfl⟩ := List.mem_map.mp hx; exact Nat.le_refl 1)
  have hsp : S.sp.length ≤ 1620 := Nat.le_trans ok.sp (by
    have : S.ds.length * S.ds.length ≤ 9 * 9 := Nat.mul_le_mul h9 h9
    rw [Nat.mul_assoc]; omega)
  refine PyProof.Rows.add_str (fun t2 k2 => ?_) (by rw [sizeLine_eq]; simp only [List.length_map, List.length_reverse] at hcl; omega)
  walk
  refine wpAny_newTuple ?_ (by size_fits)
  refine hQ _ _ _ t2 (fun b o e => Heap.get?_push_of_some _ (Heap.get?_push_of_some _ (Heap.get?_push_of_some _ e))) ?_ (Heap.get?_push_at rfl rfl)
  cases e : s.heap.get? ((s.heap.push { cls := .type "slice", data := .fields #[.none, .none, .int (-1) (s.toks + 1 + 1)] }).push { cls := .type "list", data := .seq (strValues st.reverse).toArray }).objs.size with
  | none => rfl
  | some o => exact absurd (Heap.lt_size e) (by rw [Heap.size_push, Heap.size_push]; exact Nat.not_lt.mpr (Nat.le_trans (Nat.le_succ _) (Nat.le_succ _)))
theorem law_nest {a : Addr} {l : List (Int × Tok)} {Q : Value → Shared → Prop} (W : Wd w s.heap) (hA : Ar A 20) (hl : s.heap.PlainList a (l.map iv).toArray) (h63 : l.length ≤ 63)
    (hQ : ∀ s' t aD aG tsp tk gt n1 n2, St s s' → s.heap.get? aD = none → s.heap.get? aG = none → s.heap.get? t = none → aD ≠ aG → s'.heap.get? t = some { cls := .type "tuple", data := .seq #[.ref aD, .ref aG, .str ((nestOf (l.map (·.1))).sp ++ catS (((nestOf (l.map (·.1))).stk.reverse).map chS)) tsp] } → s'.heap.get? aD = some (LO ((((nestOf (l.map (·.1))).ds.map Int.ofNat).zip tk).map iv).toArray n1) → tk.length = (nestOf (l.map (·.1))).ds.length → s'.heap.get? aG = some (LO (strValues gt).toArray n2) → gt.map (·.1) = (nestOf (l.map (·.1))).gs.map chS → Q (.ref t) s') : wpAny (model pw w) A (call (.ref 206) [.ref a]) Q E s := by
  refine call_own (q := stName (stAt 14)) (scope := stScope (stAt 14)) (cd := .ref 205) (fd := fdOf (o206_p13 w.params)) (body := stBody (stAt 14)) (binds := [("script", .ref a)]) W hA.room (W.at 206 _ rfl) rfl (W.code 205 _ _ _ _ rfl rfl rfl) rfl
    (.of_eq rfl) rfl (locs (by rfl)) (fun h₁ FF => ?_) (hcell := by rw [show (fdOf (o206_p13 w.params)).scope = stScope (stAt 14) from rfl]; decide)
  show wpAny _ _ (execs (_ :: _) _) _ _ _
  have N0 : News s.heap s.heap.objs.size h₁ [] := News.nil
  walk
  rename_i hA1 fA1 nA1 hA2 fA2 nA2 hA3 fA3 nA3 hA4 fA4 nA4 hA5 fA5 nA5 hA6 fA6 nA6 hA7 fA7 nA7 hA8 fA8 nA8
  obtain ⟨na, hla⟩ := hl
  have d12 : h₁.objs.size < hA2.objs.size := Heap.lt_size (News.get nA2 List.mem_cons_self)
  have d13 : h₁.objs.size < hA5.objs.size := Heap.lt_size (News.get nA5 (List.mem_cons_of_mem _ List.mem_cons_self))
  have d23 : hA2.objs.size < hA5.objs.size := Heap.lt_size (News.get nA5 List.mem_cons_self)
  refine P.add_list (fA8.keep _ _ hla) (News.get nA8 List.mem_cons_self) ?_ (by rw [sizeLine_eq]; simp; omega)
  obtain ⟨l5, e5, f5⟩ : ∃ l5 : List (Int × Tok), (List.map iv l).toArray ++ #[Value.int 8 (s.toks + [(Str.ofString "script", Value.ref a)].length + 1 + 1 + 1 + 1 + 1), Value.int 41 (s.toks + [(Str.ofString "script", Value.ref a)].length + 1 + 1 + 1 + 1 + 1 + 1), Value.int 71 (s.toks + [(Str.ofString "script", Value.ref a)].length + 1 + 1 + 1 + 1 + 1 + 1 + 1), Value.int 13 (s.toks + [(Str.ofString "script", Value.ref a)].length + 1 + 1 + 1 + 1 + 1 + 1 + 1 + 1), Value.int 99 (s.toks + [(Str.ofString "script", Value.ref a)].length + 1 + 1 + 1 + 1 + 1 + 1 + 1 + 1 + 1)] = (l5.map iv).toArray ∧ l5.map (·.1) = l.map (·.1) ++ [8, 41, 71, 13, 99] :=
    five l _ _ _ _ _
  rw [e5]
  have F9 := fA8.push { cls := .type "list", data := .seq (l5.map iv).toArray }
  have N9 := News.push fA8 nA8 { cls := .type "list", data := .seq (l5.map iv).toArray }
  walk
  refine tail_any (T := "list") ⟨_, Heap.get?_push_of_some _ (Heap.get?_push_at rfl rfl), rfl⟩ slot_list_getitem.lookup (wpAny_getItem_list_slice (lo := none) (hi := some 9) (st := none) ⟨_, Heap.get?_push_of_some _ (Heap.get?_push_at rfl rfl), rfl, _, rfl⟩ (Heap.IsSliceOf.new _ _ _ _) .none (.int _ _) .none (by simp) ?_ (by rw [sizeLine_eq]; have := congrArg List.length f5; simp at this ⊢; omega)) (by with_unfolding_all rfl)
  have hpick : slicePick (l5.map iv).toArray none (some 9) none = ((l5.take 9).map iv).toArray := by
    rw [show (some (9 : Int)) = some ((9 : Nat) : Int) from rfl, slicePick_upto' _ 9]
    simp [List.map_take]
  rw [hpick]
  have hf9 : (l5.take 9).map (·.1) = nine (l.map (·.1)) := by unfold nine; rw [← f5, List.map_take]
  have hl9 : (l5.take 9).length ≤ 9 := by simp; omega
  have Y0 : ∀ tok, NLy s.heap s.heap.objs.size (((hA8.push { cls := .type "list", data := .seq (l5.map iv).toArray }).push { cls := .type "slice", data := .fields #[.none, .int 9 tok, .none] }).push { cls := .type "list", data := .seq ((l5.take 9).map iv).toArray })
      (fun y => if y = Str.ofString "still" then some (Value.ref hA5.objs.size) else if y = Str.ofString "spelled" then some (Value.str (Str.ofString "") (s.toks + [(Str.ofString "script", Value.ref a)].length + 1 + 1)) else if y = Str.ofString "greats" then some (Value.ref hA2.objs.size) else if y = Str.ofString "depths" then some (Value.ref h₁.objs.size) else List.lookup y [(Str.ofString "script", Value.ref a)].reverse)
      [(((hA8.push { cls := .type "list", data := .seq (l5.map iv).toArray }).push { cls := .type "slice", data := .fields #[.none, .int 9 tok, .none] }).objs.size, LO ((l5.take 9).map iv).toArray 0)] h₁.objs.size hA2.objs.size hA5.objs.size ⟨[], [], [], Str.ofString ""⟩ := fun tok => by
    refine ⟨(F9.push _).push _, rfl, rfl, rfl, ⟨_, rfl⟩, [], [], [], 0, 0, 0, newsSub (News.push (F9.push { cls := .type "slice", data := .fields #[.none, .int 9 tok, .none] }) (News.push F9 N9 _) _) ?_, rfl, rfl, rfl⟩
    intro p hp
    simp only [List.cons_append, List.nil_append, List.mem_cons, List.not_mem_nil, or_false] at hp ⊢
    rcases hp with h | h | h | h
    · rw [h]; right; right; right; right; right; right; rfl
    · rw [h]; right; right; right; right; right; left; rfl
    · rw [h]; right; right; right; right; left; rfl
    · rw [h]; left; rfl
  refine nest_for W ((hA.deeper _).le (by omega)) (Y0 _) ⟨fun l h => by simp at h, fun _ => rfl, rfl, Nat.le_refl _, Nat.le_refl _⟩ (by simpa using hl9) (Nat.ne_of_lt d12) (Nat.ne_of_lt d13) (Nat.ne_of_lt d23) ?_ (fun h' k m' rest Y => ?_)
  · have e8 : hA5.objs.size < hA8.objs.size := Heap.lt_size (News.get nA8 (List.mem_cons_of_mem _ List.mem_cons_self))
    rw [Heap.size_push, Heap.size_push]
    have l1 : hA5.objs.size < hA8.objs.size + 1 + 1 := Nat.lt_of_lt_of_le e8 (Nat.le_trans (Nat.le_succ _) (Nat.le_succ _))
    exact ⟨Nat.ne_of_gt (Nat.lt_trans d13 l1), Nat.ne_of_gt (Nat.lt_trans d23 l1), Nat.ne_of_gt l1⟩
  · rw [hf9] at Y
    have okN : (nestOf (l.map (·.1))).Ok := foldOk ⟨fun l h => by simp at h, fun _ => rfl, rfl, Nat.le_refl _, Nat.le_refl _⟩ _
    have h9N : (nestOf (l.map (·.1))).ds.length ≤ 9 := by
      unfold nestOf
      rw [foldLen]
      simp [nine]; omega
    have Y2 := Y
    obtain ⟨FF', _, _, _, _, tk, gt, st, n1, n2, n3, N, htk, hgt, hst⟩ := Y2
    have hD := N.get (a := h₁.objs.size) (o := LO _ n1) (by simp; exact .inl rfl)
    have hG := N.get (a := hA2.objs.size) (o := LO (strValues gt).toArray n2) (by simp)
    refine nest_ret (s := ⟨h', s.gens, s.drawn, k, s.os⟩) (S := nestOf (l.map (·.1))) W ((hA.deeper _).le (by omega)) Y okN h9N fun h'' k'' t t' hk hn ht => ?_
    refine hQ _ _ _ _ t' tk gt n1 n2 ⟨fun b o e => hk b o (FF'.keep b o e), rfl, rfl, rfl⟩ ?_ ?_ ?_ (Nat.ne_of_lt d12) ht (hk _ _ hD) htk (hk _ _ hG) hgt
    · exact nA8.fresh (o := { cls := .type "list", data := .seq #[] }) (by simp)
    · exact nA8.fresh (o := { cls := .type "list", data := .seq #[] }) (by simp)
    · cases e : s.heap.get? t with
      | none => rfl
      | some o =>
        have := FF'.keep _ _ e
        rw [hn] at this; cases this
end
end XnNest2Text
theorem rstXnFor : True := by
  w_top off
  trivial
section XnForText
open PySem PySem.W PySem.W.X PyProof.Rows
set_option maxRecDepth 100000
set_option maxHeartbeats 4000000
set_option linter.all false
section
variable {w : World} {A : Around} {E : Value → Shared → Prop} {s : Shared}
/-- same life but for heap and tokens -/
structure Sm (s s' : Shared) : Prop where
  gens : s'.gens = s.gens
  drawn : s'.drawn = s.drawn
  os : s'.os = s.os
theorem Sm.refl (s : Shared) : Sm s s := ⟨rfl, rfl, rfl⟩
theorem Sm.trans {a b c : Shared} (x : Sm a b) (y : Sm b c) : Sm a c := ⟨y.gens.trans x.gens, y.drawn.trans x.drawn, y.os.trans x.os⟩
theorem newsHead {h₀ h h' : Heap} {L aI : Addr} {o o' : Obj} {news : List (Addr × Obj)} (N : News h₀ L h ((aI, o) :: news)) (hne : ∀ p ∈ news, p.1 ≠ aI) (hs : Heap.SameBut aI h h') (ho : h'.get? aI = some o') : News h₀ L h' ((aI, o') :: news) :=
  News.setHead N hne hs ho
theorem newsEnd {h₀ h h' : Heap} {L aI : Addr} {o : Obj} {news : List (Addr × Obj)} (N : News h₀ L h ((aI, o) :: news)) (hne : ∀ p ∈ news, p.1 ≠ aI) (hs : Heap.ExtBut aI h h') : News h₀ L h' news :=
  fun p hp => ⟨hs _ _ (hne p hp) (N p (List.mem_cons_of_mem _ hp)).1, (N p (List.mem_cons_of_mem _ hp)).2⟩
theorem frEnd {h₀ h h' : Heap} {L aI : Addr} {m : Str → Option Value} {o : Obj} {news : List (Addr × Obj)} (F : Fr h₀ L h m) (N : News h₀ L h ((aI, o) :: news)) (hs : Heap.ExtBut aI h h') : Fr h₀ L h' m :=
  have hI := N (aI, o) List.mem_cons_self
  ⟨let ⟨o, es, n, e, q⟩ := F.ns; ⟨o, es, n, hs _ _ (Ne.symm hI.2.1) e, q⟩, fun b o e => hs b o (fun q => by rw [q, hI.2.2] at e; cases e) (F.keep b o e), F.above⟩
theorem for_iter {h₀ : Heap} {L aI : Addr} {env : Env} {x : Str} {px : Pos} {body : List Stmt} {R : Result → Shared → Prop} {n : Nat} {ob : Nat → Obj} {IsVal : Nat → Value → Prop} {m₀ : Str → Option Value} {news₀ : List (Addr × Obj)}
    (P : Nat → (Str → Option Value) → List (Addr × Obj) → Prop) (Bk : (Str → Option Value) → List (Addr × Obj) → Prop) (hL : env.locals = L) (hx : env.kindOf x = some .local) (hp : (env.scope.kind == .class || (env.scope.kind == .module && env.locals != env.globals)) = false)
    (hPx : ∀ i m news v, P i m news → P i (fun y => if y = x then some v else m y) news) (hPa : ∀ i m news, P i m news → ∀ p ∈ news, p.1 ≠ aI)
    (item : ∀ i, i < n → ∀ (s : Shared) m news Q E, Fr h₀ L s.heap m → News h₀ L s.heap ((aI, ob i) :: news) → P i m news → (∀ h' k v, IsVal i v → h'.get? aI = some (ob (i + 1)) → Heap.SameBut aI s.heap h' → Q (some v) ⟨h', s.gens, s.drawn, k, s.os⟩) → wpAny (model pw w) A (pyNext (.ref aI)) Q E s)
    (done : ∀ (s : Shared) m news Q E, Fr h₀ L s.heap m → News h₀ L s.heap ((aI, ob n) :: news) → P n m news → (∀ h', Heap.ExtBut aI s.heap h' → Q none { s with heap := h' }) → wpAny (model pw w) A (pyNext (.ref aI)) Q E s)
    (turn : ∀ i, i < n → ∀ (s : Shared) m news v, IsVal i v → Fr h₀ L s.heap m → News h₀ L s.heap ((aI, ob (i + 1)) :: news) → P i m news → m x = some v →
      wpAny (model pw w) A (execs body env) (fun f s' => match f with
        | .next => Sm s s' ∧ ∃ m' news', Fr h₀ L s'.heap m' ∧ News h₀ L s'.heap ((aI, ob (i + 1)) :: news') ∧ P (i + 1) m' news'
        | .brk => Sm s s' ∧ ∃ m' news', Fr h₀ L s'.heap m' ∧ News h₀ L s'.heap ((aI, ob (i + 1)) :: news') ∧ Bk m' news'
        | _ => False) (fun _ _ => False) s)
    (F : Fr h₀ L s.heap m₀) (N : News h₀ L s.heap ((aI, ob 0) :: news₀)) (hP : P 0 m₀ news₀)
    (hB : ∀ s' m news, Sm s s' → Fr h₀ L s'.heap m → News h₀ L s'.heap news → Bk m news → R (.ok .next) s')
    (hR : ∀ s' m news, Sm s s' → Fr h₀ L s'.heap m → News h₀ L s'.heap news → P n m news → R (.ok .next) s') :
    codeAny (model pw w) A (.forLoop (.Name x px) (.ref aI) body [] env) R s := by
  subst hL
  refine codeAny_forLoop (fun k s' => ∃ i m news, (i ≤ n ∧ k = n - i) ∧ Sm s s' ∧ Fr h₀ env.locals s'.heap m ∧ News h₀ env.locals s'.heap ((aI, ob i) :: news) ∧ P i m news) (fun k s' hI => ?_) n ⟨0, m₀, news₀, ⟨Nat.zero_le _, rfl⟩, Sm.refl _, F, N, hP⟩
  obtain ⟨i, m, news, ⟨hi, rfl⟩, S, F', N', P'⟩ := hI
  by_cases hlt : i < n
  · refine item i hlt s' m news _ _ F' N' P' fun h' k v hv hg hs => ?_
    have F2 := F'.update N' List.mem_cons_self hs
    have N2 := newsHead N' (hPa _ _ _ P') hs hg
    refine wpAny_assign_Name (wpAny_storeName_local hx F2.ns (fun h3 hn3 hs3 => ?_) hp)
    refine wpAny_mono (turn i hlt ⟨h3, s'.gens, s'.drawn, k + 1, s'.os⟩ _ news v hv (F2.set hn3 hs3) (N2.set hs3) (hPx _ _ _ v P') (by simp)) (fun f s4 h4 => ?_) (fun _ _ h => h.elim)
    cases f with
    | next =>
      obtain ⟨S4, m4, news4, F4, N4, P4⟩ := h4
      exact ⟨n - (i + 1), by omega, i + 1, m4, news4, ⟨by omega, rfl⟩, ⟨S4.gens.trans S.gens, S4.drawn.trans S.drawn, S4.os.trans S.os⟩, F4, N4, P4⟩
    | brk =>
      obtain ⟨S4, m4, news4, F4, N4, P4⟩ := h4
      exact hB _ m4 news4 ⟨S4.gens.trans S.gens, S4.drawn.trans S.drawn, S4.os.trans S.os⟩ F4 (newsSub N4 fun p hp => List.mem_cons_of_mem _ hp) P4
    | cont => exact h4.elim
    | ret _ => exact h4.elim
  · have hin : i = n := by omega
    subst hin
    refine done s' m news _ _ F' N' P' fun h' hx' => ?_
    refine wpAny_execs_nil ?_
    exact hR _ m news ⟨S.gens, S.drawn, S.os⟩ (frEnd F' N' hx') (newsEnd N' (hPa _ _ _ P') hx') P'
noncomputable def itO (a : Addr) (i : Nat) : Obj := { cls := .type "list_iterator", data := .fields #[.ref a, .int (i : Nat) 0] }
noncomputable def rgO (n i : Nat) : Obj := { cls := .type "range_iterator", data := .fields #[rawInt (i : Nat), rawInt ((n : Int) - (i : Nat)), rawInt 1] }
theorem next_list {it l : Addr} {i : Nat} {items : Array Value} {x : Value} {Q : Option Value → Shared → Prop} (hit : s.heap.get? it = some (itO l i)) (hl : SeqAt s.heap l items) (hx : items[i]? = some x)
    (hQ : ∀ h', h'.get? it = some (itO l (i + 1)) → Heap.SameBut it s.heap h' → Q (some x) { s with heap := h' }) :
    wpAny (model pw w) A (pyNext (.ref it)) Q E s := by
  have hit' : s.heap.IsListIter it l i := ⟨_, hit, rfl, rfl⟩
  have hd : (itO l i).data = .fields #[.ref l, .int (i : Nat) 0] := rfl
  obtain ⟨ol, nl, hol, hdl⟩ := hl
  unfold pyNext
  refine wpAny_bind (wpAny_attempt (wpAny_callSpecial?_slot (name := Str.ofString "__next__") hit'.typeIs slot_listiter_next
    (wpAny_call_entry slot_listiter_next hit'.typeIs entry_listiter_next ?_ (args_listiter_next _))))
  show wpAny _ _ (field (.ref it) 0 >>= _) _ _ s
  refine wpAny_bind (wpAny_field hit hd (x := .ref l) rfl ?_)
  show wpAny _ _ (if (Value.ref l == Value.none) = true then _ else _) _ _ s
  rw [if_neg (show ¬ ((Value.ref l == Value.none) = true) from Bool.false_ne_true)]
  show wpAny _ _ (field (.ref it) 1 >>= _) _ _ s
  refine wpAny_bind (wpAny_field hit hd (x := .int i 0) rfl ?_)
  show wpAny _ _ (seqItems? (.ref l) >>= _) _ _ s
  refine wpAny_bind (wpAny_seqItems hol hdl ?_)
  simp only [Int.toNat_natCast, hx]
  refine wpAny_bind (wpAny_setField hit hd (by simp) (wpAny_pure ⟨x, rfl, wpAny_pure (hQ _ ?_ (Heap.SameBut.update ..))⟩))
  refine (Heap.get?_update_self _ hit rfl).trans ?_
  simp [Obj.mapFields, itO, rawInt]
theorem range_item {n i : Nat} {aI : Addr} {Q : Option Value → Shared → Prop} (hi : i < n) (h : s.heap.get? aI = some (rgO n i)) (hQ : ∀ h' k v, (∃ t, v = .int (i : Nat) t) → h'.get? aI = some (rgO n (i + 1)) → Heap.SameBut aI s.heap h' → Q (some v) ⟨h', s.gens, s.drawn, k, s.os⟩) :
    wpAny (model pw w) A (pyNext (.ref aI)) Q E s := by
  refine wpAny_pyNext_range_item (x := (i : Nat)) (left := (n : Int) - (i : Nat)) (step := 1) h (by omega) fun h' hit hs => hQ h' _ _ ⟨_, rfl⟩ (hit.trans ?_) hs
  have e1 : ((i : Nat) : Int) + 1 = ((i + 1 : Nat) : Int) := by omega
  have e2 : (n : Int) - (i : Nat) - 1 = (n : Int) - ((i + 1 : Nat) : Int) := by omega
  rw [e1, e2]; rfl
theorem range_done {n : Nat} {aI : Addr} {Q : Option Value → Shared → Prop} (hA : A.handled = none) (h : s.heap.get? aI = some (rgO n n)) (hQ : ∀ h', Heap.ExtBut aI s.heap h' → Q none { s with heap := h' }) :
    wpAny (model pw w) A (pyNext (.ref aI)) Q E s :=
  wpAny_pyNext_range_end (x := (n : Nat)) (left := (n : Int) - (n : Nat)) (step := 1) hA h (by omega) hQ
theorem range_iter {n : Nat} {r : Addr} {t u v : Tok} {Q : Value → Shared → Prop} (hn : n ≤ 100000) (hr : s.heap.get? r = some { cls := .type "range", data := .fields #[.int 0 t, .int (n : Nat) u, .int 1 v] })
    (hQ : Q (.ref s.heap.objs.size) { s with heap := s.heap.push (rgO n 0) }) : wpAny (model pw w) A (pyIter (.ref r)) Q E s := by
  refine wpAny_pyIter_range (a := 0) (b := (n : Nat)) (c := 1) hr ?_ ?_
  · exact small_one (by omega) (by omega) (by omega) (by omega)
  · rw [rangeSize_nat]
    have e : rawInt ((((n : Nat) : Int) - 0).toNat : Nat) = rawInt ((n : Int) - ((0 : Nat) : Int)) := by congr 1
    rw [e]
    exact hQ
end
end XnForText
theorem rstXnDue : True := by
  w_top off
  trivial
section XnDueText
open PySem PySem.W PySem.W.X PyProof.Rows
set_option maxRecDepth 100000
set_option maxHeartbeats 4000000
set_option linter.all false
section
variable {w : World} {A : Around} {E : Value → Shared → Prop} {s : Shared}
/-- the text of an opening, of a closing -/
noncomputable def opS (g : Nat) : Str := ⟨#[40, 34, g, 41, 34]⟩
noncomputable def clS (k : Nat) : Str := ⟨#[41, 34, 92, 34, 97 + k, 40, 34]⟩
/-- what stands in row l of a group k -/
noncomputable def piece (ds gs : List Nat) (l k : Nat) : List Str := (if ds.getD k 0 = l then [opS (gs.getD k 0)] else []) ++ (if ds.getD k 0 + 1 = l then [clS k] else [])
noncomputable def told (ds gs : List Nat) (l n : Nat) : List Str := (List.range n).flatMap (piece ds gs l)
noncomputable def dueEnv (L : Addr) : Env := envOf (stName (stAt 15)) (stScope (stAt 15)) L 213 (.ref 212)
noncomputable def outerBody : List Stmt := forBody (stBody (stAt 15)) 1
noncomputable def innerBody : List Stmt := forBody outerBody 1
theorem lenE (a b : Str) : (a ++ b).length = a.length + b.length := Array.size_append ..
theorem catS_nil (a : Str) : a ++ catS [] = a := by rw [str_append]; simp [catS]
theorem due_if1 {h₀ : Heap} {L aD aG : Addr} {m : Str → Option Value} {news : List (Addr × Obj)} {ds gs : List Nat} {tk : List Tok} {gt : List (Str × Tok)} {n1 n2 k l : Nat} {tkk tl tt : Tok} {sp : Str} {Q : Flow → Shared → Prop}
    (W : Wd w h₀) (hA : Ar A 10) (FF : Fr h₀ L s.heap m) (N : News h₀ L s.heap news) (hD : h₀.get? aD = some (LO (((ds.map Int.ofNat).zip tk).map iv).toArray n1)) (hG : h₀.get? aG = some (LO (strValues gt).toArray n2))
    (htk : tk.length = ds.length) (hgt : gt.map (·.1) = gs.map chS) (hk : k < ds.length) (hlg : gs.length = ds.length) (h9 : ds.length ≤ 9) (mk : m "k" = some (.int (k : Nat) tkk)) (ml : m "level" = some (.int (l : Nat) tl)) (mt : m "told" = some (.str sp tt)) (hsp : sp.length ≤ 1000)
    (mD : m "depths" = some (.ref aD)) (mG : m "greats" = some (.ref aG))
    (hQ : ∀ h' kk m' t', Fr h₀ L h' m' → News h₀ L h' news → (∀ y : Str, y ≠ "told" → m' y = m y) → m' "told" = some (.str (sp ++ catS (if ds.getD k 0 = l then [opS (gs.getD k 0)] else [])) t') → Q .next ⟨h', s.gens, s.drawn, kk, s.os⟩) :
    wpAny (model pw w) A (exec (innerBody.getD 0 default) (dueEnv L)) Q (fun _ _ => False) s := by
  have hDl : ∀ {h : Heap} {m : Str → Option Value}, Fr h₀ L h m → h.IsList aD ((((ds.map Int.ofNat).zip tk).map iv)).toArray := fun F => ⟨_, F.keep _ _ hD, rfl, _, rfl⟩
  have hGl : ∀ {h : Heap} {m : Str → Option Value}, Fr h₀ L h m → h.IsList aG (strValues gt).toArray := fun F => ⟨_, F.keep _ _ hG, rfl, _, rfl⟩
  have hDi := ints_are ((ds.map Int.ofNat).zip tk)
  have hfst : ((ds.map Int.ofNat).zip tk).map (·.1) = ds.map Int.ofNat := List.map_fst_zip (by simp [htk])
  rw [hfst] at hDi
  have hget : (ds.map Int.ofNat).getD ((k : Nat) : Int).toNat 0 = ((ds.getD k 0 : Nat) : Int) := by
    simp [List.getD_eq_getElem?_getD, hk]
  have hgl : gt.length = ds.length := by have := congrArg List.length hgt; simpa [hlg] using this
  unfold dueEnv
  show wpAny _ _ (exec (Stmt.If _ _ _ _) _) _ _ _
  walk
  refine item_ints (hDl (by assumption)) hDi (by omega) (by simp; omega) (by omega) (fun t => ?_)
  rw [hget]
  walk
  by_cases hc : ds.getD k 0 = l
  · rw [if_pos (beq_iff_eq.mpr (by omega))]
    rw [if_pos hc] at hQ
    walk
    refine item_strsT (hGl (by assumption)) (by omega) (by omega) (by omega) (fun y t' hy => ?_)
    have hye : y = chS (gs.getD k 0) := by
      rw [hgt, Int.toNat_natCast, List.getElem?_map, List.getElem?_eq_getElem (by omega)] at hy
      simp only [Option.map_some, Option.some.injEq] at hy
      rw [← hy, List.getD_eq_getElem?_getD, List.getElem?_eq_getElem (by omega)]
      rfl
    subst hye
    have l1 : (Str.ofString "(\"").length = 2 := rfl
    have l2 : (Str.ofString ")\"").length = 2 := rfl
    have l3 : (chS (gs.getD k 0)).length = 1 := rfl
    refine PyProof.Rows.add_str (fun t1 k1 => ?_) (by rw [sizeLine_eq]; omega)
    walk
    refine hQ _ _ _ _ (by assumption) (by assumption) (fun y hy => by show (if y = _ then _ else _) = _; rw [if_neg hy]) (congrArg (fun z => some (Value.str z _)) ?_ : some (Value.str _ _) = some (Value.str _ _))
    congr 1
  · rw [if_neg (fun h => hc (by have := beq_iff_eq.mp h; omega))]
    rw [if_neg hc] at hQ
    walk
    exact hQ _ _ _ tt FF N (fun _ _ => rfl) (by rw [mt, catS_nil])
theorem due_if2 {h₀ : Heap} {L aD aG : Addr} {m : Str → Option Value} {news : List (Addr × Obj)} {ds gs : List Nat} {tk : List Tok} {gt : List (Str × Tok)} {n1 n2 k l : Nat} {tkk tl tt : Tok} {sp : Str} {Q : Flow → Shared → Prop}
    (W : Wd w h₀) (hA : Ar A 10) (FF : Fr h₀ L s.heap m) (N : News h₀ L s.heap news) (hD : h₀.get? aD = some (LO (((ds.map Int.ofNat).zip tk).map iv).toArray n1)) (hG : h₀.get? aG = some (LO (strValues gt).toArray n2))
    (htk : tk.length = ds.length) (hgt : gt.map (·.1) = gs.map chS) (hk : k < ds.length) (hlg : gs.length = ds.length) (h9 : ds.length ≤ 9) (mk : m "k" = some (.int (k : Nat) tkk)) (ml : m "level" = some (.int (l : Nat) tl)) (mt : m "told" = some (.str sp tt)) (hsp : sp.length ≤ 1000)
    (mD : m "depths" = some (.ref aD)) (mG : m "greats" = some (.ref aG))
    (hQ : ∀ h' kk m' t', Fr h₀ L h' m' → News h₀ L h' news → (∀ y : Str, y ≠ "told" → m' y = m y) → m' "told" = some (.str (sp ++ catS (if ds.getD k 0 + 1 = l then [clS k] else [])) t') → Q .next ⟨h', s.gens, s.drawn, kk, s.os⟩) :
    wpAny (model pw w) A (exec (innerBody.getD 1 default) (dueEnv L)) Q (fun _ _ => False) s := by
  have hDl : ∀ {h : Heap} {m : Str → Option Value}, Fr h₀ L h m → h.IsList aD ((((ds.map Int.ofNat).zip tk).map iv)).toArray := fun F => ⟨_, F.keep _ _ hD, rfl, _, rfl⟩
  have hGl : ∀ {h : Heap} {m : Str → Option Value}, Fr h₀ L h m → h.IsList aG (strValues gt).toArray := fun F => ⟨_, F.keep _ _ hG, rfl, _, rfl⟩
  have hDi := ints_are ((ds.map Int.ofNat).zip tk)
  have hfst : ((ds.map Int.ofNat).zip tk).map (·.1) = ds.map Int.ofNat := List.map_fst_zip (by simp [htk])
  rw [hfst] at hDi
  have hget : (ds.map Int.ofNat).getD ((k : Nat) : Int).toNat 0 = ((ds.getD k 0 : Nat) : Int) := by
    simp [List.getD_eq_getElem?_getD, hk]
  have hgl : gt.length = ds.length := by have := congrArg List.length hgt; simpa [hlg] using this
  unfold dueEnv
  show wpAny _ _ (exec (Stmt.If _ _ _ _) _) _ _ _
  walk
  refine item_ints (hDl (by assumption)) hDi (by omega) (by simp; omega) (by omega) (fun t => ?_)
  rw [hget]
  walk
  by_cases hc : ds.getD k 0 + 1 = l
  · rw [if_pos (beq_iff_eq.mpr (by omega))]
    rw [if_pos hc] at hQ
    walk
    refine hQ _ _ _ _ (by assumption) (by assumption) (fun y hy => by show (if y = _ then _ else _) = _; rw [if_neg hy]) (congrArg (fun z => some (Value.str z _)) ?_ : some (Value.str _ _) = some (Value.str _ _))
    rw [show (97 + (k : Int)).toNat = 97 + k by omega]
    congr 1
  · rw [if_neg (fun h => hc (by have := beq_iff_eq.mp h; omega))]
    rw [if_neg hc] at hQ
    walk
    exact hQ _ _ _ tt FF N (fun _ _ => rfl) (by rw [mt, catS_nil])
theorem catS_app (a b : List Str) : catS (a ++ b) = catS a ++ catS b := by
  rw [str_append]; simp [catS]
theorem piece_len (ds gs : List Nat) (l k : Nat) : (catS (piece ds gs l k)).length ≤ 12 := by
  unfold piece
  split <;> split <;> exact Nat.le_of_ble_eq_true rfl
theorem told_len (ds gs : List Nat) (l i : Nat) : (catS (told ds gs l i)).length ≤ 12 * i := by
  induction i with
  | zero => exact Nat.le_refl _
  | succ i ih =>
    have e : told ds gs l (i + 1) = told ds gs l i ++ piece ds gs l i := by
      unfold told
      rw [List.range_succ, List.flatMap_append]; simp
    rw [e, catS_app, lenE]
    have := piece_len ds gs l i
    omega
theorem due_inner {h₀ : Heap} {L aD aG : Addr} {m : Str → Option Value} {news : List (Addr × Obj)} {ds gs : List Nat} {tk : List Tok} {gt : List (Str × Tok)} {n1 n2 k l : Nat} {tkk tl tt : Tok} {sp : Str} {Q : Flow → Shared → Prop}
    (W : Wd w h₀) (hA : Ar A 10) (FF : Fr h₀ L s.heap m) (N : News h₀ L s.heap news) (hD : h₀.get? aD = some (LO (((ds.map Int.ofNat).zip tk).map iv).toArray n1)) (hG : h₀.get? aG = some (LO (strValues gt).toArray n2))
    (htk : tk.length = ds.length) (hgt : gt.map (·.1) = gs.map chS) (hk : k < ds.length) (hlg : gs.length = ds.length) (h9 : ds.length ≤ 9) (mk : m "k" = some (.int (k : Nat) tkk)) (ml : m "level" = some (.int (l : Nat) tl)) (mt : m "told" = some (.str sp tt)) (hsp : sp.length ≤ 900)
    (mD : m "depths" = some (.ref aD)) (mG : m "greats" = some (.ref aG))
    (hQ : ∀ h' kk m' t', Fr h₀ L h' m' → News h₀ L h' news → (∀ y : Str, y ≠ "told" → m' y = m y) → m' "told" = some (.str (sp ++ catS (piece ds gs l k)) t') → Q .next ⟨h', s.gens, s.drawn, kk, s.os⟩) :
    wpAny (model pw w) A (execs innerBody (dueEnv L)) Q (fun _ _ => False) s := by
  show wpAny _ _ (execs [_, _] _) _ _ _
  refine wpAny_execs_cons (due_if1 W hA FF N hD hG htk hgt hk hlg h9 mk ml mt (by omega) mD mG fun h1 k1 m1 t1 F1 N1 e1 d1 => ?_)
  refine wpAny_execs_cons (due_if2 W hA F1 N1 hD hG htk hgt hk hlg h9 ((e1 _ (by decide)).trans mk) ((e1 _ (by decide)).trans ml) d1 ?_ ((e1 _ (by decide)).trans mD) ((e1 _ (by decide)).trans mG) fun h2 k2 m2 t2 F2 N2 e2 d2 => ?_)
  · have := lenE sp (catS (if ds.getD k 0 = l then [opS (gs.getD k 0)] else []))
    have h2 : (catS (if ds.getD k 0 = l then [opS (gs.getD k 0)] else [])).length ≤ 5 := by split <;> exact Nat.le_of_ble_eq_true rfl
    omega
  · refine wpAny_execs_nil (hQ _ _ _ t2 F2 N2 (fun y hy => (e2 y hy).trans (e1 y hy)) ?_)
    rw [d2, str_assoc, ← catS_app]
    rfl
/-- where the due list lies -/
theorem due_rows {h₀ : Heap} {L aD aG : Addr} {ds gs : List Nat} {tk : List Tok} {gt : List (Str × Tok)} {n1 n2 : Nat} {Q : Flow → Shared → Prop} {m : Str → Option Value} {news : List (Addr × Obj)} {aU nU l : Nat} {tl : Tok} {ut : List (Str × Tok)}
    (W : Wd w h₀) (hA : Ar A 12) (FF : Fr h₀ L s.heap m) (N : News h₀ L s.heap ((aU, LO (strValues ut).toArray nU) :: news)) (hneU : ∀ p ∈ news, p.1 ≠ aU) (hD : h₀.get? aD = some (LO (((ds.map Int.ofNat).zip tk).map iv).toArray n1)) (hG : h₀.get? aG = some (LO (strValues gt).toArray n2))
    (htk : tk.length = ds.length) (hgt : gt.map (·.1) = gs.map chS) (hlg : gs.length = ds.length) (h9 : ds.length ≤ 9) (hut : ut.length ≤ 100) (ml : m "level" = some (.int (l : Nat) tl)) (mD : m "depths" = some (.ref aD)) (mG : m "greats" = some (.ref aG)) (mU : m "due" = some (.ref aU))
    (hQ : ∀ s' m' t' nU', Sm s s' → Fr h₀ L s'.heap m' → News h₀ L s'.heap ((aU, LO (strValues (ut ++ [(catS (told ds gs l ds.length), t')])).toArray nU') :: news) → (∀ y : Str, y ∉ ([Str.ofString "told", Str.ofString "k"] : List Str) → m' y = m y) → Q .next s') :
    wpAny (model pw w) A (execs outerBody (dueEnv L)) Q (fun _ _ => False) s := by
  have hDl : ∀ {h : Heap} {m : Str → Option Value}, Fr h₀ L h m → h.IsList aD ((((ds.map Int.ofNat).zip tk).map iv)).toArray := fun F => ⟨_, F.keep _ _ hD, rfl, _, rfl⟩
  unfold dueEnv
  show wpAny _ _ (execs (_ :: _) _) _ _ _
  walk
  rename_i hh1 FF1 NN1
  have hsz : ((((ds.map Int.ofNat).zip tk).map iv).toArray.size : Int) = ((ds.length : Nat) : Int) := by simp [htk]
  refine len_list (hDl FF1) (by rw [hsz]; omega) ?_
  rw [hsz]
  walk
  rename_i h3 tk3 t1 u1 v1 hR3 F3 N3 k3
  refine range_iter (n := ds.length) (by omega) hR3 ?_
  have F4 := F3.push (rgO ds.length 0)
  have N4 := News.push F3 N3 (rgO ds.length 0)
  have hIne : ∀ p ∈ (aU, LO (strValues ut).toArray nU) :: news, p.1 ≠ h3.objs.size := fun p hp => Nat.ne_of_lt (Heap.lt_size (N3 p hp).1)
  refine for_iter (ob := rgO ds.length) (IsVal := fun i v => ∃ t, v = .int (i : Nat) t) (n := ds.length)
    (fun i m' nw => nw = (aU, LO (strValues ut).toArray nU) :: news ∧ (∀ y : Str, y ∉ ([Str.ofString "told", Str.ofString "k"] : List Str) → m' y = m y) ∧ ∃ t', m' "told" = some (.str (catS (told ds gs l i)) t')) (fun _ _ => False) rfl (by rfl) (by rfl)
    ?_ ?_ ?_ ?_ ?_ F4 N4 ?_ ?_ ?_
  · rintro i m' nw v ⟨h1, h2, t', h3⟩
    exact ⟨h1, fun y hy => by
      simp only [List.mem_cons, List.not_mem_nil, or_false, not_or] at hy
      show (if y = _ then _ else _) = _
      rw [if_neg hy.2]
      exact h2 y (by simp [hy.1, hy.2]), t', h3⟩
  · rintro i m' nw ⟨rfl, _⟩
    exact hIne
  · intro i hi s' m' nw Q' E' F' N' _ hQ'
    exact range_item hi (N'.get List.mem_cons_self) fun h' k v hv hg hs => hQ' h' k v hv hg hs
  · intro s' m' nw Q' E' F' N' _ hQ'
    exact range_done hA.handled (N'.get List.mem_cons_self) hQ'
  · rintro i hi s' m' nw v ⟨tv, rfl⟩ F' N' ⟨rfl, hm, t', ht⟩ mx
    have htl : (catS (told ds gs l i)).length ≤ 12 * i := told_len ds gs l i
    refine due_inner (gs := gs) (l := l) W (hA.le (by omega)) F' N' hD hG htk hgt hi hlg h9 mx ((hm _ (by decide)).trans ml) ht (by omega) ((hm _ (by decide)).trans mD) ((hm _ (by decide)).trans mG) fun h5 k5 m5 t5 F5 N5 e5 d5 => ?_
    refine ⟨⟨rfl, rfl, rfl⟩, m5, _, F5, N5, rfl, fun y hy => ?_, t5, ?_⟩
    · simp only [List.mem_cons, List.not_mem_nil, or_false, not_or] at hy
      exact (e5 y hy.1).trans (hm y (by simp [hy.1, hy.2]))
    · rw [d5, ← catS_app]
      unfold told
      rw [List.range_succ, List.flatMap_append]
      simp
  · refine ⟨rfl, fun y hy => ?_, s.toks, rfl⟩
    simp only [List.mem_cons, List.not_mem_nil, or_false, not_or] at hy
    show (if y = _ then _ else _) = _
    rw [if_neg hy.1]
  · exact fun _ _ _ _ _ _ h => h.elim
  · rintro s' m' nw S' F' N' ⟨rfl, hm, t', ht⟩
    dsimp only
    have mU' : m' "due" = some (.ref aU) := (hm _ (by decide)).trans mU
    have s1 := S'.gens
    have s2 := S'.drawn
    have s3 := S'.os
    clear FF N F3 N3 F4 N4
    walk
    refine append_l (N'.get List.mem_cons_self) (by simp [strValues]; omega) fun h' n' hg hs => ?_
    have FF2 := F'.update N' List.mem_cons_self hs
    have N2 := newsHead N' hneU hs hg
    clear F' N'
    walk
    rw [List.push_toArray] at N2
    refine hQ _ m' t' n' ⟨s1, s2, s3⟩ FF2 (by have h := N2; unfold strValues at h ⊢; rw [List.map_append]; exact h) hm
noncomputable def dueOf (ds gs : List Nat) (l : Nat) : Str := catS (told ds gs l ds.length)
theorem law_due {aD aG : Addr} {ds gs : List Nat} {tk : List Tok} {gt : List (Str × Tok)} {n1 n2 D : Nat} {Q : Value → Shared → Prop}
    (W : Wd w s.heap) (hA : Ar A 20) (hD : s.heap.get? aD = some (LO (((ds.map Int.ofNat).zip tk).map iv).toArray n1)) (hG : s.heap.get? aG = some (LO (strValues gt).toArray n2))
    (htk : tk.length = ds.length) (hgt : gt.map (·.1) = gs.map chS) (hlg : gs.length = ds.length) (h9 : ds.length ≤ 9) (hmem : D ∈ ds) (hmax : ∀ d ∈ ds, d ≤ D) (hD9 : D ≤ 20)
    (hQ : ∀ s' aU nU ut, St s s' → s.heap.get? aU = none → s'.heap.get? aU = some (LO (strValues ut).toArray nU) → ut.map (·.1) = (List.range (D + 2)).map (dueOf ds gs) → Q (.ref aU) s') :
    wpAny (model pw w) A (call (.ref 213) [.ref aD, .ref aG]) Q E s := by
  refine call_own (q := stName (stAt 15)) (scope := stScope (stAt 15)) (cd := .ref 212) (fd := fdOf (o213_p14 w.params)) (body := stBody (stAt 15)) (binds := [("depths", .ref aD), ("greats", .ref aG)]) W hA.room (W.at 213 _ rfl) rfl (W.code 212 _ _ _ _ rfl rfl rfl) rfl
    (.of_eq rfl) rfl (locs (by rfl)) (fun h₁ FF => ?_) (hcell := by rw [show (fdOf (o213_p14 w.params)).scope = stScope (stAt 15) from rfl]; decide)
  show wpAny _ _ (execs (_ :: _) _) _ _ _
  have N0 : News s.heap s.heap.objs.size h₁ [] := News.nil
  have hDl : ∀ {h : Heap} {m : Str → Option Value}, Fr s.heap s.heap.objs.size h m → h.IsList aD ((((ds.map Int.ofNat).zip tk).map iv)).toArray := fun F => ⟨_, F.keep _ _ hD, rfl, _, rfl⟩
  have hDi := ints_are ((ds.map Int.ofNat).zip tk)
  have hfst : ((ds.map Int.ofNat).zip tk).map (·.1) = ds.map Int.ofNat := List.map_fst_zip (by simp [htk])
  rw [hfst] at hDi
  have hA' := hA.deeper (envOf (stName (stAt 15)) (stScope (stAt 15)) s.heap.objs.size 213 (.ref 212))
  walk
  rename_i hA1 fA1 nA1 hA2 fA2 nA2
  refine max_list_N hA'.handled fA2 nA2 (hDl fA2) hDi (by rw [List.length_map]; exact List.length_pos_of_mem hmem) fun h3 M t3 k3 F3 N3 hM hMx => ?_
  have hMD : M = ((D : Nat) : Int) := by
    obtain ⟨d, hd, rfl⟩ := List.mem_map.mp hM
    have h1 := hmax d hd
    have h2 := hMx (Int.ofNat D) (List.mem_map_of_mem hmem)
    simp only [Int.ofNat_eq_natCast] at h2 ⊢
    omega
  subst hMD
  clear fA1 nA1 fA2 nA2 FF
  have e2 : ((D : Nat) : Int) + 2 = ((D + 2 : Nat) : Int) := by omega
  walk
  rename_i h5 tk5 t5 u5 v5 hR5 F5 N5 k5
  refine range_iter (n := D + 2) (by omega) (e2 ▸ hR5) ?_
  have F6 := F5.push (rgO (D + 2) 0)
  have N6 := News.push F5 N5 (rgO (D + 2) 0)
  have hlt : h₁.objs.size < h5.objs.size := Heap.lt_size (N5.get List.mem_cons_self)
  refine for_iter (ob := rgO (D + 2)) (IsVal := fun i v => ∃ t, v = .int (i : Nat) t) (n := D + 2)
    (fun i m' nw => ∃ ut nU, nw = [(h₁.objs.size, LO (strValues ut).toArray nU)] ∧ ut.map (·.1) = (List.range i).map (dueOf ds gs) ∧ m' "depths" = some (.ref aD) ∧ m' "greats" = some (.ref aG) ∧ m' "due" = some (.ref h₁.objs.size)) (fun _ _ => False) rfl (by rfl) (by rfl)
    ?_ ?_ ?_ ?_ ?_ F6 N6 ?_ ?_ ?_
  · rintro i m' nw v ⟨ut, nU, h1, h2, h3, h4, h5⟩
    exact ⟨ut, nU, h1, h2, h3, h4, h5⟩
  · rintro i m' nw ⟨ut, nU, rfl, _⟩ p hp
    simp only [List.mem_cons, List.not_mem_nil, or_false] at hp
    subst hp
    exact Nat.ne_of_lt hlt
  · intro i hi s' m' nw Q' E' F' N' _ hQ'
    exact range_item hi (N'.get List.mem_cons_self) fun h' k v hv hg hs => hQ' h' k v hv hg hs
  · intro s' m' nw Q' E' F' N' _ hQ'
    exact range_done hA'.handled (N'.get List.mem_cons_self) hQ'
  · rintro i hi s' m' nw v ⟨tv, rfl⟩ F' N' ⟨ut, nU, rfl, hut, hmD, hmG, hmU⟩ mx
    have hul : ut.length = i := by have := congrArg List.length hut; simpa using this
    have N'' : News s.heap s.heap.objs.size s'.heap ((h₁.objs.size, LO (strValues ut).toArray nU) :: [(h5.objs.size, rgO (D + 2) (i + 1))]) := newsSub N' (by
      intro p hp
      simp only [List.mem_cons, List.not_mem_nil, or_false] at hp ⊢
      rcases hp with h | h <;> simp [h])
    refine due_rows (gs := gs) (l := i) W (hA'.le (by omega)) F' N'' (by
      intro p hp
      simp only [List.mem_cons, List.not_mem_nil, or_false] at hp
      subst hp
      exact Nat.ne_of_gt hlt) hD hG htk hgt hlg h9 (by omega) mx hmD hmG hmU fun s4 m4 t4 n4 S4 F4 N4 e4 => ?_
    refine ⟨S4, m4, _, F4, newsSub N4 (l' := [(h5.objs.size, rgO (D + 2) (i + 1)), (h₁.objs.size, LO (strValues (ut ++ [(catS (told ds gs i ds.length), t4)])).toArray n4)]) (by
      intro p hp
      simp only [List.mem_cons, List.not_mem_nil, or_false] at hp ⊢
      rcases hp with h | h <;> simp [h]), ut ++ [(catS (told ds gs i ds.length), t4)], n4, rfl, ?_, (e4 _ (by decide)).trans hmD, (e4 _ (by decide)).trans hmG, (e4 _ (by decide)).trans hmU⟩
    rw [List.map_append, hut, List.range_succ, List.map_append]
    rfl
  · exact ⟨[], 0, rfl, rfl, rfl, rfl, rfl⟩
  · exact fun _ _ _ _ _ _ h => h.elim
  · rintro s' m' nw S' F' N' ⟨ut, nU, rfl, hut, hmD, hmG, hmU⟩
    dsimp only
    clear F5 N5 F6 N6
    walk
    refine hQ _ _ nU ut ⟨F'.keep, S'.gens, S'.drawn, S'.os⟩ (N'.fresh List.mem_cons_self) (N'.get List.mem_cons_self) hut
end
end XnDueText
end GXnNest
end WXnLeaf
theorem rstXnComp (M : PySem.Model) (A : PySem.Around) (env : PySem.Env) (s : PySem.Shared) : True := by
  first
  | (have h : PySem.wpAny M A (PySem.eval (.Constant .none 0 ⟨0, 0, 0, 0⟩) env) (fun _ _ => True) (fun _ _ => True) s := by (walk1; fail)
     trivial)
  | (w_top off
     trivial)
section XnCompText
open PySem PySem.W PySem.W.X PyProof.Rows
set_option maxRecDepth 100000
set_option maxHeartbeats 4000000
set_option linter.all false
section
variable {w : World} {A : Around} {E : Value → Shared → Prop} {s : Shared} {R : Result → Shared → Prop}
/-- the conditions of a clause -/
noncomputable def testsOf (ifs : List PySem.Expr) (env : Env) : Sem Bool := forIn ifs true fun c r => if r = true then do let ok ← isTrue c env (eval c env); pure (ForInStep.yield ok) else pure (ForInStep.yield r)
theorem tests_nil {env : Env} {Q : Bool → Shared → Prop} (h : Q true s) : wpAny (model pw w) A (testsOf [] env) Q E s := wpAny_tests_nil h
theorem tests_one {env : Env} {c : PySem.Expr} {Q : Bool → Shared → Prop} (h : wpAny (model pw w) A (isTrue c env (eval c env)) Q E s) : wpAny (model pw w) A (testsOf [c] env) Q E s := wpAny_tests_one h
theorem noE {α : Type} {M : Model} {A : Around} {t : Sem α} {Q : α → Shared → Prop} {E : Value → Shared → Prop} {s : Shared} (h : wpAny M A t Q (fun _ _ => False) s) : wpAny M A t Q E s := wpAny_mono h (fun _ _ h => h) (fun _ _ h => h.elim)
/-- the last clause's loop -/
theorem compLast {elt target iter : PySem.Expr} {gens : List Comprehension} {ifs : List PySem.Expr} {scope : Scope} {pos : Pos} {d : Nat} {it acc : Value} {env : Env} (hg : gens[d]? = some ⟨target, iter, ifs, 0⟩) (hl : gens[d + 1]? = none) (I : Nat → Shared → Prop)
    (turn : ∀ n s, I n s → wpAny (model pw w) A (pyNext it) (fun r s₁ => match r with
      | none => R (.ok .next) s₁
      | some v => wpAny (model pw w) A (letOwnedTupleGo target it v) (fun _ s₁' => wpAny (model pw w) A (assign target env v) (fun _ s₂ =>
          wpAny (model pw w) A (testsOf ifs env) (fun ok s₃ =>
            if ok = true then wpAny (model pw w) A (eval elt env) (fun x s₄ =>
              wpAny (model pw w) A (call (.builtin "list.append") [acc, x]) (fun _ s₅ => ∃ m, m < n ∧ I m s₅) (fun _ _ => False) s₄) (fun _ _ => False) s₃
            else ∃ m, m < n ∧ I m s₃) (fun _ _ => False) s₂) (fun _ _ => False) s₁') (fun _ _ => False) s₁) (fun _ _ => False) s)
    (n : Nat) (h : I n s) :
    codeAny (model pw w) A (.compLoop (.ListComp elt gens scope pos) d it acc env) R s := by
  refine codeAny_loop rfl I (fun n s hI => ?_) n h
  show wpAny _ A ((compTurn (.ListComp elt gens scope pos) d it acc env).onRaise (fun x => do noteFrame x env; theTreesLotGoes x)) _ _ s
  refine wpAny_noted ?_
  unfold compTurn
  dsimp only
  rw [hg]
  dsimp only
  refine wpAny_bind (wpAny_standAt (wpAny_bind (noE (wpAny_mono (turn n s hI) (fun r s₁ h₁ => ?_) fun _ _ h' => h'))))
  cases r with
  | none => exact wpAny_pure h₁
  | some v =>
    refine wpAny_bind (noE (wpAny_mono h₁ (fun _ s₁' h₁' => ?_) fun _ _ h' => h'))
    refine wpAny_bind (noE (wpAny_mono h₁' (fun _ s₂ h₂ => ?_) fun _ _ h' => h'))
    refine wpAny_bind (noE (wpAny_mono h₂ (fun ok s₃ h₃ => ?_) fun _ _ h' => h'))
    cases ok with
    | false => exact wpAny_pure ⟨rfl, h₃⟩
    | true =>
      rw [hl]
      exact wpAny_bind (wpAny_bind (noE (wpAny_mono h₃ (fun x s₄ h₄ => wpAny_bind (noE (wpAny_mono h₄ (fun _ s₅ h₅ => wpAny_pure (wpAny_pure ⟨rfl, h₅⟩)) fun _ _ h' => h'))) fun _ _ h' => h')))
/-- a clause's loop that has another within it -/
theorem compOuter {elt target iter target' iter' : PySem.Expr} {gens : List Comprehension} {ifs ifs' : List PySem.Expr} {scope : Scope} {pos : Pos} {d : Nat} {it acc : Value} {env : Env} (hg : gens[d]? = some ⟨target, iter, ifs, 0⟩) (hl : gens[d + 1]? = some ⟨target', iter', ifs', 0⟩) (I : Nat → Shared → Prop)
    (hs : ∀ x, foldedSetIterable iter' env x = pure x)
    (turn : ∀ n s, I n s → wpAny (model pw w) A (pyNext it) (fun r s₁ => match r with
      | none => R (.ok .next) s₁
      | some v => wpAny (model pw w) A (letOwnedTupleGo target it v) (fun _ s₁' => wpAny (model pw w) A (assign target env v) (fun _ s₂ =>
          wpAny (model pw w) A (testsOf ifs env) (fun ok s₃ =>
            if ok = true then wpAny (model pw w) A (eval iter' env) (fun x s₄ => wpAny (model pw w) A (pyIter x) (fun it' s₅ =>
              codeAny (model pw w) A (.compStart (.ListComp elt gens scope pos) (d + 1) it' acc env) (fun r s₆ => match r with | .ok _ => ∃ m, m < n ∧ I m s₆ | .error _ => False) s₅) (fun _ _ => False) s₄) (fun _ _ => False) s₃
            else ∃ m, m < n ∧ I m s₃) (fun _ _ => False) s₂) (fun _ _ => False) s₁') (fun _ _ => False) s₁) (fun _ _ => False) s)
    (n : Nat) (h : I n s) :
    codeAny (model pw w) A (.compLoop (.ListComp elt gens scope pos) d it acc env) R s := by
  refine codeAny_loop rfl I (fun n s hI => ?_) n h
  show wpAny _ A ((compTurn (.ListComp elt gens scope pos) d it acc env).onRaise (fun x => do noteFrame x env; theTreesLotGoes x)) _ _ s
  refine wpAny_noted ?_
  unfold compTurn
  dsimp only
  rw [hg]
  dsimp only
  refine wpAny_bind (wpAny_standAt (wpAny_bind (noE (wpAny_mono (turn n s hI) (fun r s₁ h₁ => ?_) fun _ _ h' => h'))))
  cases r with
  | none => exact wpAny_pure h₁
  | some v =>
    refine wpAny_bind (noE (wpAny_mono h₁ (fun _ s₁' h₁' => ?_) fun _ _ h' => h'))
    refine wpAny_bind (noE (wpAny_mono h₁' (fun _ s₂ h₂ => ?_) fun _ _ h' => h'))
    refine wpAny_bind (noE (wpAny_mono h₂ (fun ok s₃ h₃ => ?_) fun _ _ h' => h'))
    cases ok with
    | false => exact wpAny_pure ⟨rfl, h₃⟩
    | true =>
      rw [hl]
      dsimp only
      rw [if_pos rfl]
      refine wpAny_bind (noE (wpAny_mono h₃ (fun x s₄ h₄ => ?_) fun _ _ h' => h'))
      refine wpAny_bind (wpAny_standAt ?_)
      rw [if_neg (by decide)]
      refine wpAny_bind (wpAny_of_eq (hs x) ?_)
      refine wpAny_bind (wpAny_holding ?_)
      rw [if_neg (by decide)]
      refine noE (wpAny_mono h₄ (fun it' s₅ h₅ => ?_) fun _ _ h' => h')
      refine wpAny_bind (wpAny_runOwn (codeAny_mono h₅ fun r s₆ h₆ => ?_))
      cases r with
      | error e => exact h₆.elim
      | ok f => exact wpAny_pure ⟨rfl, h₆⟩
theorem compStart_any {elt target iter : PySem.Expr} {gens : List Comprehension} {ifs : List PySem.Expr} {scope : Scope} {pos : Pos} {d : Nat} {it acc : Value} {env : Env} (hg : gens[d]? = some ⟨target, iter, ifs, 0⟩)
    (hi : ∀ Q : Value → Shared → Prop, Q it s → ∀ E, wpAny (model pw w) A (pyIter it) Q E s) (h0 : codeAny (model pw w) A (.compLoop (.ListComp elt gens scope pos) d it acc env) R s) :
    codeAny (model pw w) A (.compStart (.ListComp elt gens scope pos) d it acc env) R s := by
  refine codeAny_of_tree ?_
  show wpAny _ _ ((compStart (.ListComp elt gens scope pos) d it acc env).onRaise (fun x => do noteFrame x env; standAt theWindowsPlace)) _ _ s
  refine wpAny_notedAt ?_
  unfold compStart
  have hc : clausesOf (.ListComp elt gens scope pos) = gens := rfl
  rw [hc, hg]
  dsimp only
  rw [if_neg (by simp)]
  refine wpAny_bind (wpAny_askSetting (wpAny_ite ?_))
  split
  · exact wpAny_bind (wpAny_pure (wpAny_pure ⟨rfl, h0⟩))
  · refine wpAny_bind (wpAny_rule ?_)
    refine wpAny_bind (wpAny_standAt ?_)
    exact wpAny_bind (hi _ (wpAny_pure ⟨rfl, h0⟩) _)
/-- what stood still stands, but for what X names -/
noncomputable def Keep (X : List Addr) (h h' : Heap) : Prop := ∀ b o, b ∉ X → h.get? b = some o → h'.get? b = some o
theorem frKeep {h₀ h h' : Heap} {L : Addr} {m : Str → Option Value} (F : Fr h₀ L h m) (k : ∀ b o, h.get? b = some o → h'.get? b = some o) : Fr h₀ L h' m :=
  ⟨let ⟨o, es, n, e, q⟩ := F.ns; ⟨o, es, n, k _ _ e, q⟩, fun b o e => k b o (F.keep b o e), F.above⟩
/-- an iterator of n values, by its object at each step -/
structure CompIt (w : World) (A : Around) (xv : Value) (s₁ : Shared) (n : Nat) (ob : Nat → Obj) (IsVal : Nat → Value → Prop) : Prop where
  iter : ∀ (Q E : Value → Shared → Prop), Q (.ref s₁.heap.objs.size) { s₁ with heap := s₁.heap.push (ob 0) } → wpAny (model pw w) A (pyIter xv) Q E s₁
  self : ∀ (s : Shared) (Q : Value → Shared → Prop) (E : Value → Shared → Prop), s.heap.get? s₁.heap.objs.size = some (ob 0) → Q (.ref s₁.heap.objs.size) s → wpAny (model pw w) A (pyIter (.ref s₁.heap.objs.size)) Q E s
  item : ∀ i, i < n → ∀ (s : Shared) (Q : Option Value → Shared → Prop) E, (∀ b o, s₁.heap.get? b = some o → s.heap.get? b = some o) → s.heap.get? s₁.heap.objs.size = some (ob i) →
        (∀ h' k v, IsVal i v → h'.get? s₁.heap.objs.size = some (ob (i + 1)) → Heap.SameBut s₁.heap.objs.size s.heap h' → Q (some v) ⟨h', s.gens, s.drawn, k, s.os⟩) → wpAny (model pw w) A (pyNext (.ref s₁.heap.objs.size)) Q E s
  done : ∀ (s : Shared) (Q : Option Value → Shared → Prop) E, (∀ b o, s₁.heap.get? b = some o → s.heap.get? b = some o) → s.heap.get? s₁.heap.objs.size = some (ob n) → (∀ h', Heap.ExtBut s₁.heap.objs.size s.heap h' → Q none { s with heap := h' }) → wpAny (model pw w) A (pyNext (.ref s₁.heap.objs.size)) Q E s
  free : ∀ i, (ob i).isFreed = false
  few : n ≤ 10000
theorem compIt_range {n : Nat} {r : Addr} {t u v : Tok} (hA : A.handled = none) (hn : n ≤ 10000) (hr : s.heap.get? r = some { cls := .type "range", data := .fields #[.int 0 t, .int (n : Nat) u, .int 1 v] }) : CompIt w A (.ref r) s n (rgO n) (fun i v => ∃ t, v = .int (i : Nat) t) where
  iter := fun Q E hQ => range_iter (by omega) hr hQ
  self := fun s' Q E h hQ => wpAny_pyIter_slot ⟨_, h, rfl⟩ F.slot_range_iterator_iter (wpAny_call_entry F.slot_range_iterator_iter ⟨_, h, rfl⟩ F.entry_range_iterator_iter (wpAny_pure ⟨_, rfl, "range_iterator", _, ⟨_, h, rfl⟩, F.slot_range_iterator_next.lookup, hQ⟩) (F.args_range_iterator_iter_1 _))
  item := fun i hi s' Q E _ h hQ => range_item hi h fun h' k v hv hg hs => hQ h' k v hv hg hs
  done := fun s' Q E _ h hQ => range_done hA h hQ
  free := fun _ => rfl
  few := hn
/-- what a turn of a comprehension does: its element may make new things, it changes nothing old -/
noncomputable def CompTurn (w : World) (A : Around) (s₁ : Shared) (n : Nat) (ob : Nat → Obj) (IsVal : Nat → Value → Prop) (P : Nat → List Value → List (Addr × Obj) → Prop) (x : Str) (ifs : List PySem.Expr) (elt : PySem.Expr) (cenv : Addr → Env) : Prop :=
  ∀ C i, i < n → ∀ (s : Shared) m acc news v kD D I, IsVal i v → Sm s₁ s → Fr s₁.heap C s.heap m → News s₁.heap C s.heap ((D, LO acc.toArray kD) :: (I, ob (i + 1)) :: news) → P i acc news → m x = some v →
        wpAny (model pw w) A (testsOf ifs (cenv C)) (fun ok s₃ => if ok = true then wpAny (model pw w) A (eval elt (cenv C)) (fun y s' => Sm s s' ∧ ∃ m' news', Fr s₁.heap C s'.heap m' ∧ News s₁.heap C s'.heap ((D, LO acc.toArray kD) :: (I, ob (i + 1)) :: news') ∧ P (i + 1) (acc ++ [y]) news' ∧ ∀ p ∈ news', p ∈ news ∨ s.heap.get? p.1 = none) (fun _ _ => False) s₃
          else Sm s s₃ ∧ ∃ m' news', Fr s₁.heap C s₃.heap m' ∧ News s₁.heap C s₃.heap ((D, LO acc.toArray kD) :: (I, ob (i + 1)) :: news') ∧ P (i + 1) acc news' ∧ ∀ p ∈ news', p ∈ news ∨ s.heap.get? p.1 = none) (fun _ _ => False) s
theorem comp_core {elt iter : PySem.Expr} {x : Str} {px : Pos} {ifs : List PySem.Expr} {scope : Scope} {pos : Pos} {env : Env} {cl : List (Str × Addr)} {n : Nat} {ob : Nat → Obj} {IsVal : Nat → Value → Prop} {xv : Value} {s₁ : Shared} {RR : Value → Addr → Result → Shared → Prop}
    (P : Nat → List Value → List (Addr × Obj) → Prop) (hcell : ∀ y ∈ scope.names, y.2 ≠ .cell) (hkind : scope.kind = .function) (hx : scope.names.lookup x = some .local)
    (hP0 : P 0 [] []) (hlenP : ∀ i acc news, P i acc news → acc.length ≤ i) (hit : CompIt w A xv s₁ n ob IsVal) (turn : CompTurn w A s₁ n ob IsVal P x ifs elt (fun C => compEnvC scope cl C env))
    (hEnd : ∀ s' D C m acc news k, Sm s₁ s' → Fr s₁.heap C s'.heap m → s₁.heap.get? C = none → s₁.heap.get? D = none → D ≠ C → s'.heap.get? D = some (LO acc.toArray k) → (∀ p ∈ news, s'.heap.get? p.1 = some p.2 ∧ s₁.heap.get? p.1 = none ∧ p.1 ≠ C ∧ p.1 ≠ D) → P n acc news → RR (.ref D) C (.ok .next) s') :
    wpAny (model pw w) A (pyIter xv) (fun it s₂ => wpAny (model pw w) A (newList []) (fun acc s₃ => wpAny (model pw w) A (newFunctionEnv scope env.globals cl [] env.qual none .none (some env)) (fun cenv s₄ => codeAny (model pw w) A (.compStart (.ListComp elt [⟨.Name x px, iter, ifs, 0⟩] scope pos) 0 it acc { cenv with scope := relabel scope env }) (RR acc cenv.locals) s₄) E s₃) E s₂) E s₁ := by
  obtain ⟨hiter, hself, item, done, hfree, hn⟩ := hit
  refine hiter _ _ ?_
  refine wpAny_newObj_type (wpAny_newFunctionEnv hcell (by intro y hy; simp at hy) (fun h₁ hns₁ hsb₁ => ?_) hkind)
  dsimp only at hns₁ hsb₁ ⊢
  simp only [Heap.size_push] at hns₁ hsb₁ ⊢
  have lI : s₁.heap.objs.size < s₁.heap.objs.size + 1 + 1 := Nat.lt_of_lt_of_le (Nat.lt_succ_self _) (Nat.le_succ _)
  have kI : (s₁.heap.push (ob 0)).get? s₁.heap.objs.size = some (ob 0) := Heap.get?_push_at rfl (hfree 0)
  have nD : ∀ {a : Addr}, s₁.heap.objs.size ≤ a → s₁.heap.get? a = none := fun {a} ha => by
    cases e : s₁.heap.get? a with
    | none => rfl
    | some o => exact absurd (Heap.lt_size e) (Nat.not_lt.mpr ha)
  have kD : ((s₁.heap.push (ob 0)).push { cls := .type "list", dict := none, data := .seq ([] : List Value).toArray }).get? (s₁.heap.objs.size + 1) = some (LO #[] 0) := Heap.get?_push_at (by rw [Heap.size_push]) rfl
  have F1 : Fr s₁.heap (s₁.heap.objs.size + 1 + 1) h₁ _ := ⟨hns₁, fun b o e => hsb₁.extBut b o (Nat.ne_of_lt (Nat.lt_trans (Heap.lt_size e) lI)) (Heap.get?_push_of_some _ (Heap.get?_push_of_some _ (Heap.get?_push_of_some _ e))), Nat.le_of_lt lI⟩
  have N1 : News s₁.heap (s₁.heap.objs.size + 1 + 1) h₁ [(s₁.heap.objs.size + 1, LO ([] : List Value).toArray 0), (s₁.heap.objs.size, ob 0)] := by
    intro p hp
    simp only [List.mem_cons, List.not_mem_nil, or_false] at hp
    rcases hp with rfl | rfl
    · exact ⟨hsb₁.extBut _ _ (Nat.ne_of_lt (Nat.lt_succ_self _)) (Heap.get?_push_of_some _ kD), Nat.ne_of_lt (Nat.lt_succ_self _), nD (Nat.le_succ _)⟩
    · exact ⟨hsb₁.extBut _ _ (Nat.ne_of_lt lI) (Heap.get?_push_of_some _ (Heap.get?_push_of_some _ kI)), Nat.ne_of_lt lI, nD (Nat.le_refl _)⟩
  have hxC : (compEnvC scope cl (s₁.heap.objs.size + 1 + 1) env).kindOf x = some .local := lookup_relabel_local hx
  refine compStart_any (gens := [⟨.Name x px, iter, ifs, 0⟩]) (d := 0) rfl (fun Q hq E => hself _ _ _ (N1.get (by simp)) hq) ?_
  refine compLast (gens := [⟨.Name x px, iter, ifs, 0⟩]) (d := 0) (target := .Name x px) (iter := iter) (ifs := ifs) rfl rfl (fun k s' => ∃ i m acc news kk, (i ≤ n ∧ k = n - i) ∧ Sm s₁ s' ∧ Fr s₁.heap (s₁.heap.objs.size + 1 + 1) s'.heap m ∧ News s₁.heap (s₁.heap.objs.size + 1 + 1) s'.heap ((s₁.heap.objs.size + 1, LO acc.toArray kk) :: (s₁.heap.objs.size, ob i) :: news) ∧ P i acc news ∧ (∀ p ∈ news, p.1 ≠ s₁.heap.objs.size ∧ p.1 ≠ s₁.heap.objs.size + 1))
    (fun k s' hI => ?_) n ⟨0, _, [], [], 0, ⟨Nat.zero_le _, rfl⟩, ⟨rfl, rfl, rfl⟩, F1, N1, hP0, by simp⟩
  obtain ⟨i, m, acc, news, kk, ⟨hi, rfl⟩, S, F', N', P', hne⟩ := hI
  have hDI : s₁.heap.objs.size + 1 ≠ s₁.heap.objs.size := Nat.succ_ne_self _
  have gI : s'.heap.get? s₁.heap.objs.size = some (ob i) := N'.get (by simp)
  by_cases hlt : i < n
  · refine item i hlt s' _ _ (fun b o e => F'.keep b o e) gI fun h' k v hv hg hs => ?_
    have F2 := F'.update N' (a := s₁.heap.objs.size) (o := ob i) (by simp) hs
    have N2 : News s₁.heap (s₁.heap.objs.size + 1 + 1) h' ((s₁.heap.objs.size + 1, LO acc.toArray kk) :: (s₁.heap.objs.size, ob (i + 1)) :: news) := News.setSecond N' hDI (fun p hp => (hne p hp).1) hs hg
    dsimp only
    refine wpAny_pure ?_
    refine wpAny_assign_Name (wpAny_storeName_local hxC F2.ns (fun h3 hn3 hs3 => ?_) (by simp [compEnvC, relabel, hkind]))
    have F3 := F2.set hn3 hs3
    have N3 := N2.set hs3
    refine wpAny_mono (turn _ i hlt ⟨h3, s'.gens, s'.drawn, k + 1, s'.os⟩ _ acc news v kk (s₁.heap.objs.size + 1) s₁.heap.objs.size hv ⟨S.gens, S.drawn, S.os⟩ F3 N3 P' (by simp)) (fun ok s3 hok => ?_) fun _ _ h => h
    have apart : ∀ {news' : List (Addr × Obj)}, (∀ p ∈ news', p ∈ news ∨ h3.get? p.1 = none) → ∀ p ∈ news', p.1 ≠ s₁.heap.objs.size ∧ p.1 ≠ s₁.heap.objs.size + 1 := fun hh p hp => by
      rcases hh p hp with h | h
      · exact hne p h
      · exact ⟨fun q => (by rw [q, N3.get (o := ob (i + 1)) (by simp)] at h; cases h), fun q => (by rw [q, N3.get List.mem_cons_self] at h; cases h)⟩
    cases ok with
    | true =>
      rw [if_pos rfl] at hok ⊢
      refine wpAny_mono hok (fun y s4 h4 => ?_) fun _ _ h => h
      obtain ⟨S4, m4, news4, F4, N4, P4, hn4⟩ := h4
      refine append_l (N4.get List.mem_cons_self) (by have := hlenP _ _ _ P'; simp; omega) fun h5 n5 hg5 hs5 => ?_
      have N5 := News.setHead N4 (by
        intro p hp
        rcases List.mem_cons.mp hp with rfl | hp
        · exact Ne.symm hDI
        · exact (apart hn4 p hp).2) hs5 hg5
      refine ⟨n - (i + 1), by omega, i + 1, m4, acc ++ [y], news4, n5, ⟨by omega, rfl⟩, ⟨S4.gens.trans S.gens, S4.drawn.trans S.drawn, S4.os.trans S.os⟩, F4.update N4 List.mem_cons_self hs5, ?_, P4, apart hn4⟩
      rw [List.push_toArray] at N5
      exact N5
    | false =>
      rw [if_neg Bool.false_ne_true] at hok ⊢
      obtain ⟨S4, m4, news4, F4, N4, P4, hn4⟩ := hok
      exact ⟨n - (i + 1), by omega, i + 1, m4, acc, news4, kk, ⟨by omega, rfl⟩, ⟨S4.gens.trans S.gens, S4.drawn.trans S.drawn, S4.os.trans S.os⟩, F4, N4, P4, apart hn4⟩
  · have hin : i = n := by omega
    subst hin
    refine done s' _ _ (fun b o e => F'.keep b o e) gI fun h' hx' => ?_
    have N2 : News s₁.heap (s₁.heap.objs.size + 1 + 1) h' ((s₁.heap.objs.size + 1, LO acc.toArray kk) :: news) := by
      intro p hp
      have : p.1 ≠ s₁.heap.objs.size ∧ p ∈ (s₁.heap.objs.size + 1, LO acc.toArray kk) :: (s₁.heap.objs.size, ob i) :: news := by
        rcases List.mem_cons.mp hp with rfl | hp
        · exact ⟨hDI, by simp⟩
        · exact ⟨(hne p hp).1, by simp [hp]⟩
      exact ⟨hx' _ _ this.1 (N' p this.2).1, (N' p this.2).2⟩
    have F2 : Fr s₁.heap (s₁.heap.objs.size + 1 + 1) h' m := ⟨let ⟨o, es, n, e, q⟩ := F'.ns; ⟨o, es, n, hx' _ _ (Nat.ne_of_gt lI) e, q⟩, fun b o e => hx' b o (Nat.ne_of_lt (Heap.lt_size e)) (F'.keep b o e), F'.above⟩
    exact hEnd ⟨h', s'.gens, s'.drawn, s'.toks, s'.os⟩ _ _ m acc news kk ⟨S.gens, S.drawn, S.os⟩ F2 (nD (Nat.le_of_lt lI)) (nD (Nat.le_succ _)) (Nat.ne_of_lt (Nat.lt_succ_self _)) (N2.get List.mem_cons_self) (fun p hp => ⟨(N2 p (List.mem_cons_of_mem _ hp)).1, (N2 p (List.mem_cons_of_mem _ hp)).2.2, (N2 p (List.mem_cons_of_mem _ hp)).2.1, (hne p hp).2⟩) P'
/-- a list comprehension of one clause -/
theorem list_comp {elt iter : PySem.Expr} {x : Str} {px : Pos} {ifs : List PySem.Expr} {scope : Scope} {pos : Pos} {env : Env} {cl : List (Str × Addr)} {n : Nat} {ob : Nat → Obj} {IsVal : Nat → Value → Prop} {Q : Value → Shared → Prop}
    (P : Nat → List Value → List (Addr × Obj) → Prop) (hclos : closureFor scope env = pure cl) (hcell : ∀ y ∈ scope.names, y.2 ≠ .cell) (hkind : scope.kind = .function) (hnames : ∀ x ∈ scope.names, x.2 = .local → scope.names.lookup x.1 = some .local) (hx : scope.names.lookup x = some .local)
    (hs : ∀ x, foldedSetIterable iter env x = pure x) (hP0 : P 0 [] []) (hlenP : ∀ i acc news, P i acc news → acc.length ≤ i)
    (h : wpAny (model pw w) A (eval iter env) (fun xv s₁ => CompIt w A xv s₁ n ob IsVal ∧ CompTurn w A s₁ n ob IsVal P x ifs elt (fun C => compEnvC scope cl C env) ∧
      (∀ s' D acc news k, Sm s₁ s' → (∀ b o, s₁.heap.get? b = some o → s'.heap.get? b = some o) → s₁.heap.get? D = none → s'.heap.get? D = some (LO acc.toArray k) → (∀ p ∈ news, s'.heap.get? p.1 = some p.2 ∧ s₁.heap.get? p.1 = none ∧ p.1 ≠ D) → P n acc news → Q (.ref D) s')) E s) :
    wpAny (model pw w) A (eval (.ListComp elt [⟨.Name x px, iter, ifs, 0⟩] scope pos) env) Q E s := by
  rw [eval_ListComp]
  refine wpAny_comprehension_free (use := none) rfl hs hclos hkind hnames (wpAny_mono h (fun xv s₁ h₁ => ?_) fun _ _ e => e)
  obtain ⟨hit, turn, hQ⟩ := h₁
  refine comp_core (RR := fun acc C => compPost (model pw w) A E none Q acc C) P hcell hkind hx hP0 hlenP hit turn fun s' D C m acc news k S F hC hD hDC hgD hnews hP => ?_
  refine ⟨m, F.ns, fun h'' hs'' => hQ ⟨h'', s'.gens, s'.drawn, s'.toks, s'.os⟩ D acc news k ⟨S.gens, S.drawn, S.os⟩ (fun b o e => (hs''.2 b (fun q => by rw [q, hC] at e; cases e)).trans (F.keep b o e)) hD ((hs''.2 _ hDC).trans hgD) (fun p hp => ?_) hP⟩
  obtain ⟨a1, a2, a3, a4⟩ := hnews p hp
  exact ⟨(hs''.2 _ a3).trans a1, a2, a4⟩
/-- a list comprehension of one clause that a local name takes -/
theorem list_comp_as {h₀ : Heap} {L : Addr} {elt iter : PySem.Expr} {x y : Str} {px py : Pos} {ifs : List PySem.Expr} {scope : Scope} {pos spos : Pos} {env : Env} {cl : List (Str × Addr)} {n : Nat} {ob : Nat → Obj} {IsVal : Nat → Value → Prop} {Q : Flow → Shared → Prop}
    (P : Nat → List Value → List (Addr × Obj) → Prop) (hsw : swapsWith (.ListComp elt [⟨.Name x px, iter, ifs, 0⟩] scope pos) (some (.Name y py)) spos.line env = pure true) (hL : env.locals = L) (hy : env.kindOf y = some .local) (hp : (env.scope.kind == .class || (env.scope.kind == .module && env.locals != env.globals)) = false)
    (hclos : closureFor scope env = pure cl) (hcell : ∀ y ∈ scope.names, y.2 ≠ .cell) (hkind : scope.kind = .function) (hnames : ∀ x ∈ scope.names, x.2 = .local → scope.names.lookup x.1 = some .local) (hx : scope.names.lookup x = some .local)
    (hs : ∀ x, foldedSetIterable iter env x = pure x) (hP0 : P 0 [] []) (hlenP : ∀ i acc news, P i acc news → acc.length ≤ i)
    (h : wpAny (model pw w) A (eval iter env) (fun xv s₁ => CompIt w A xv s₁ n ob IsVal ∧ CompTurn w A s₁ n ob IsVal P x ifs elt (fun C => compEnvC scope cl C env) ∧ ∃ m₁, Fr h₀ L s₁.heap m₁ ∧
      (∀ s' D acc news k, Sm s₁ s' → Fr h₀ L s'.heap (fun z => if z = y then some (.ref D) else m₁ z) → Keep [L] s₁.heap s'.heap → s₁.heap.get? D = none → s'.heap.get? D = some (LO acc.toArray k) → (∀ p ∈ news, s'.heap.get? p.1 = some p.2 ∧ s₁.heap.get? p.1 = none ∧ p.1 ≠ D) → P n acc news → Q .next s')) E s) :
    wpAny (model pw w) A (exec (.Assign [.Name y py] (.ListComp elt [⟨.Name x px, iter, ifs, 0⟩] scope pos) spos) env) Q E s := by
  subst hL
  rw [exec_Assign_Name_used _ _ _ _ hsw]
  refine wpAny_bind (wpAny_standAt (wpAny_bind ?_))
  show wpAny _ A (do let _ ← comprehension (.ListComp elt [⟨.Name x px, iter, ifs, 0⟩] scope pos) scope env _ (newList []) false (eval iter env) (some (assign (.Name y py) env))) _ _ s
  refine wpAny_bind (wpAny_mono (wpAny_comprehension_free (use := some (assign (.Name y py) env)) (Q := fun _ s' => Q .next s') rfl hs hclos hkind hnames (wpAny_mono h (fun xv s₁ h₁ => ?_) fun _ _ e => e)) (fun _ s' hq => wpAny_pure (wpAny_pure hq)) fun _ _ e => e)
  obtain ⟨hit, turn, m₁, F₁, hQ⟩ := h₁
  refine comp_core (RR := fun acc C => compPost (model pw w) A E (some (assign (.Name y py) env)) (fun _ s' => Q .next s') acc C) P hcell hkind hx hP0 hlenP hit turn fun s' D C m acc news k S F hC hD hDC hgD hnews hP => ?_
  obtain ⟨oL, esL, epL, eL, rL⟩ := F₁.ns
  have hLC : env.locals ≠ C := fun q => by rw [q, hC] at eL; cases eL
  have hLD : env.locals ≠ D := fun q => by rw [q, hD] at eL; cases eL
  have F₂ : Fr h₀ env.locals s'.heap m₁ := frKeep F₁ fun b o e => F.keep b o e
  show wpAny _ A (assign (.Name y py) env (.ref D)) _ _ _
  refine wpAny_assign_Name (wpAny_storeName_local hy F₂.ns (fun h₂ hn₂ hs₂ => ?_) hp)
  have F₃ := F₂.set hn₂ hs₂
  refine ⟨m, F.ns.sameBut hs₂ (Ne.symm hLC), fun h'' hs'' => hQ _ D acc news k ⟨S.gens, S.drawn, S.os⟩ ⟨F₃.ns.sameBut hs'' hLC, fun b o e => (hs''.2 b (fun q => ?_)).trans (F₃.keep b o e), F₃.above⟩ (fun b o hb e => (hs''.2 b (fun q => by rw [q, hC] at e; cases e)).trans ((hs₂.2 b (by simpa using hb)).trans (F.keep b o e))) hD ((hs''.2 _ hDC).trans ((hs₂.2 _ (Ne.symm hLD)).trans hgD)) (fun p hp => ?_) hP⟩
  · rw [q] at e
    have := F₁.keep _ _ e
    rw [hC] at this; cases this
  · obtain ⟨a1, a2, a3, a4⟩ := hnews p hp
    refine ⟨(hs''.2 _ a3).trans ((hs₂.2 _ (fun q => ?_)).trans a1), a2, a4⟩
    rw [q, eL] at a2; cases a2
end
end XnCompText
theorem rstXnEnc (M : PySem.Model) (A : PySem.Around) (env : PySem.Env) (s : PySem.Shared) : True := by
  first
  | (have h : PySem.wpAny M A (PySem.eval (.Constant .none 0 ⟨0, 0, 0, 0⟩) env) (fun _ _ => True) (fun _ _ => True) s := by (walk1; fail)
     trivial)
  | (w_top off
     trivial)
section XnEncText
open PySem PySem.W PySem.W.X PyProof.Rows
set_option maxRecDepth 100000
set_option maxHeartbeats 4000000
set_option linter.all false
section
variable {w : World} {A : Around} {E : Value → Shared → Prop} {s : Shared}
noncomputable def utf (l : List Nat) : List UInt8 := l.flatMap Str.utf8Of
theorem utf_fold (l : List Nat) (a : Array UInt8) : List.foldl (fun acc y => acc ++ (Str.utf8Of y).toArray) a l = a ++ (utf l).toArray := by
  induction l generalizing a with
  | nil => simp [utf]
  | cons x r ih => rw [List.foldl_cons, ih]; simp [utf]
open Builtin._codecs in
theorem enc_n (self : Value) (x y : Nat) (l : List Nat) (h : ∀ c ∈ x :: y :: l, Str.isSurrogate c = false) (hz : (utf (x :: y :: l)).length ≤ 1000) : encodeNarrow "str.encode" utf8Codec none self ⟨(x :: y :: l).toArray⟩ = pure (utf (x :: y :: l)).toArray := by
  have hb : utf8Codec.bad = Str.isSurrogate := rfl
  have hbo : utf8Codec.bytesOf = Str.utf8Of := rfl
  have hf : List.findIdx? Str.isSurrogate (x :: y :: l) = none := by
    rw [List.findIdx?_eq_none_iff]; exact h
  have hx : Str.isSurrogate x = false := h x (by simp)
  unfold encodeNarrow
  have hl : (⟨(x :: y :: l).toArray⟩ : Str).length = l.length + 2 := rfl
  rw [hl]
  simp only [Std.Legacy.Range.forIn_eq_forIn_range']
  have hr : List.range' ([0:l.length + 2] : Std.Legacy.Range).start ([0:l.length + 2] : Std.Legacy.Range).size ([0:l.length + 2] : Std.Legacy.Range).step = 0 :: 1 :: List.range' 2 l.length := by
    show List.range' 0 ((l.length + 2 - 0 + 1 - 1) / 1) 1 = _
    simp [List.range'_succ]
  rw [hr, List.forIn_cons]
  have e0 : (⟨(x :: y :: l).toArray⟩ : Str).cps.extract 0 (⟨(x :: y :: l).toArray⟩ : Str).cps.size = (x :: y :: l).toArray := by simp
  have hfa : (x :: y :: l).toArray.findIdx? Str.isSurrogate = none := by simpa using hf
  have hsz : ¬ (utf (x :: y :: l)).toArray.size > sizeLine := by rw [sizeLine_eq]; simp; omega
  have hfold : (Array.foldl (fun acc y => acc ++ (Str.utf8Of y).toArray) #[] ((x :: y :: l).toArray.extract 0 (x :: y :: l).toArray.size)) = (utf (x :: y :: l)).toArray := by
    rw [Array.extract_size, List.foldl_toArray, utf_fold]; simp
  have s1 : (⟨(x :: y :: l).toArray⟩ : Str).cps[0]? = some x := rfl
  have s2 : (⟨(x :: y :: l).toArray⟩ : Str).cps[0 + (x :: y :: l).toArray.size]? = none := by simp
  rw [if_neg (by show ¬ (0 > sizeLine); exact Nat.not_lt_zero _)]
  dsimp only
  rw [s1]
  dsimp only
  rw [hb, hx]
  simp only [Bool.not_false, if_true]
  rw [Array.extract_size, hfa, hbo]
  dsimp only [Option.getD_none]
  rw [hfold, Nat.zero_add]
  simp only [pure_bind]
  rw [List.forIn_cons, if_neg hsz]
  dsimp only
  rw [show (x :: y :: l).toArray[(x :: y :: l).toArray.size]? = none by simp]
  dsimp only
  simp only [pure_bind]
theorem encode_call {l : List Nat} {t : Tok} {Q : Value → Shared → Prop} (h : ∀ c ∈ l, Str.isSurrogate c = false) (h2 : 2 ≤ l.length) (hz : (utf l).length ≤ 1000) (hQ : ∀ t' k, Q (.bytes (utf l).toArray t') { s with toks := k }) :
    wpAny (model pw w) A (call (.builtin "str.encode") [.str ⟨l.toArray⟩ t]) Q E s := by
  refine wpAny_call_entry F.slot_str_encode (typeIs_str _ _ _) F.entry_str_encode ?_ (F.args_str_encode_1 _)
  rw [encode_tree, encodeRoad_utf8]
  match l, h2 with
  | x :: y :: r, _ =>
    rw [enc_n _ x y r h hz]
    exact wpAny_bind (wpAny_bind (wpAny_pure (wpAny_mkBytes (wpAny_pure ⟨_, rfl, hQ _ _⟩) (by rw [sizeLine_eq]; simp; omega))))
end
end XnEncText
theorem rstXnLaw0 (M : PySem.Model) (A : PySem.Around) (env : PySem.Env) (s : PySem.Shared) : True := by
  first
  | (have h : PySem.wpAny M A (PySem.eval (.Constant .none 0 ⟨0, 0, 0, 0⟩) env) (fun _ _ => True) (fun _ _ => True) s := by (walk1; fail)
     trivial)
  | (w_top off
     trivial)
section XnLaw0Text
open PySem PySem.W PySem.W.X PyProof.Rows
set_option maxRecDepth 100000
set_option maxHeartbeats 4000000
set_option linter.all false
section
variable {w : World} {A : Around} {E : Value → Shared → Prop} {s : Shared}
theorem Keep.refl (X : List Addr) (h : Heap) : Keep X h h := fun _ _ _ e => e
theorem Keep.trans {X : List Addr} {a b c : Heap} (x : Keep X a b) (y : Keep X b c) : Keep X a c := fun p o n e => y p o n (x p o n e)
theorem Keep.mono {X Y : List Addr} {a b : Heap} (x : Keep X a b) (h : ∀ p ∈ X, p ∈ Y) : Keep Y a b := fun p o n e => x p o (fun q => n (h p q)) e
theorem Keep.of {X : List Addr} {a b : Heap} (h : ∀ p o, a.get? p = some o → b.get? p = some o) : Keep X a b := fun p o _ e => h p o e
/-- all that is new in a heap, but for L and for what X names -/
structure Sn (h₀ : Heap) (L : Addr) (X : List Addr) (K : Heap) (rest : List (Addr × Obj)) : Prop where
  all : ∀ b o, b ≠ L → b ∉ X → h₀.get? b = none → K.get? b = some o → (b, o) ∈ rest
  old : ∀ b o, h₀.get? b = some o → K.get? b = some o
  apart : ∀ p ∈ rest, p.1 ∉ X
theorem snap {h₀ K : Heap} {L : Addr} {m : Str → Option Value} (F : Fr h₀ L K m) (X : List Addr) : ∃ rest, Sn h₀ L X K rest ∧ News h₀ L K rest := by
  refine ⟨(List.range K.objs.size).filterMap fun a => if a = L ∨ a ∈ X ∨ (h₀.get? a).isSome then none else (K.get? a).map fun o => (a, o), ⟨fun b o hL hX h0 e => ?_, F.keep, fun p hp => ?_⟩, fun p hp => ?_⟩
  · refine List.mem_filterMap.mpr ⟨b, List.mem_range.mpr (Heap.lt_size e), ?_⟩
    rw [if_neg (by simp [hL, hX, h0]), e]; rfl
  · obtain ⟨a, _, h⟩ := List.mem_filterMap.mp hp
    split at h
    · cases h
    · rename_i hn
      cases e : K.get? a with
      | none => rw [e] at h; cases h
      | some o => rw [e] at h; cases h; exact fun q => hn (.inr (.inl q))
  · obtain ⟨a, _, h⟩ := List.mem_filterMap.mp hp
    split at h
    · cases h
    · rename_i hn
      cases e : K.get? a with
      | none => rw [e] at h; cases h
      | some o =>
        rw [e] at h; cases h
        refine ⟨e, fun q => hn (.inl q), ?_⟩
        cases e0 : h₀.get? a with
        | none => rfl
        | some o => exact absurd (.inr (.inr (by rw [e0]; rfl))) hn
theorem Sn.at {h₀ h K : Heap} {L : Addr} {X : List Addr} {m : Str → Option Value} {rest news : List (Addr × Obj)} (S : Sn h₀ L X K rest) (F : Fr h₀ L h m) (N : News h₀ L h news) (hs : ∀ p ∈ rest, p ∈ news) : Keep (L :: X) K h := fun b o hb e => by
  simp only [List.mem_cons, not_or] at hb
  cases e0 : h₀.get? b with
  | some o' => rw [S.old _ _ e0] at e; cases e; exact F.keep _ _ e0
  | none => exact (N _ (hs _ (S.all b o hb.1 hb.2 e0 e))).1
theorem newsKeep {h₀ h h' : Heap} {L : Addr} {l : List (Addr × Obj)} (N : News h₀ L h l) (k : ∀ b o, h.get? b = some o → h'.get? b = some o) : News h₀ L h' l := fun p hp => ⟨k _ _ (N p hp).1, (N p hp).2⟩
theorem newsAdd {h₀ h h' : Heap} {L : Addr} {m : Str → Option Value} {l : List (Addr × Obj)} {a : Addr} {o : Obj} (F : Fr h₀ L h m) (N : News h₀ L h' l) (hn : h.get? a = none) (ho : h'.get? a = some o) : News h₀ L h' ((a, o) :: l) := fun p hp => by
  rcases List.mem_cons.mp hp with rfl | hp
  · refine ⟨ho, fun q => ?_, ?_⟩
    · obtain ⟨o', es, n, e, _⟩ := F.ns
      dsimp only at q
      rw [q, e] at hn; cases hn
    · cases e0 : h₀.get? a with
      | none => rfl
      | some o => rw [F.keep _ _ e0] at hn; cases hn
  · exact N p hp
/-- the frame of law -/
noncomputable def lawEnv (L : Addr) : Env := envOfC (stName (stAt 16)) (stScope (stAt 16)) L 218 (.ref 217)
noncomputable def lawS (i : Nat) : Stmt := (stBody (stAt 16)).getD i default
theorem ldC {name : Str} {scope : Scope} {L a c : Addr} {cd v : Value} {x : Str} {pos : Pos} {Q : Value → Shared → Prop} (hcell : s.heap.IsCell c (some v)) (hc : (cellsFrom (L + 1) scope.names []).lookup x = some c) (h : Q v s)
    (hk : scope.kind = .function := by rfl) (hl : (envOfC name scope L a cd).kindOf x = some .cell := by rfl) (hdb : (x == ("__debug__" : Str)) = false := by decide) :
    wpAny (model pw w) A (eval (.Name x pos) (envOfC name scope L a cd)) Q E s := wpAny_Name (wpAny_loadName_cell hk hl hc hcell h) hdb
theorem stC {name : Str} {scope : Scope} {L a c : Addr} {cd v : Value} {v₀ : Option Value} {x : Str} {h₀ : Heap} {m : Str → Option Value} {news : List (Addr × Obj)} {Q : Unit → Shared → Prop} (F : Fr h₀ L s.heap m) (N : News h₀ L s.heap news) (hf : h₀.get? c = none) (hcL : c ≠ L) (hcell : s.heap.IsCell c v₀)
    (hc : (cellsFrom (L + 1) scope.names []).lookup x = some c) (hne : ∀ p ∈ news, p.1 ≠ c)
    (h : ∀ h', Fr h₀ L h' m → News h₀ L h' news → h'.IsCell c (some v) → Heap.SameBut c s.heap h' → Q () { s with heap := h' })
    (hk : scope.kind = .function := by rfl) (hl : (envOfC name scope L a cd).kindOf x = some .cell := by rfl) :
    wpAny (model pw w) A (storeName (envOfC name scope L a cd) x v) Q E s := by
  refine wpAny_storeName_cell hk hl hc hcell fun h' hv hs => ?_
  refine h h' ⟨F.ns.sameBut hs (Ne.symm hcL), fun b ob e => (hs.2 b (fun q => ?_)).trans (F.keep b ob e), F.above⟩ (fun p hp => ⟨(hs.2 _ (hne p hp)).trans (N p hp).1, (N p hp).2⟩) hv hs
  rw [q, hf] at e; cases e
theorem callR {env : Env} {pos : Pos} {f : Addr} {first : List Value} {e : PySem.Expr} {rest : List PySem.Expr} {h₀ : Heap} {Q : Value → Shared → Prop} (_W : Wd w h₀) (hk : keepIn (kTop w.params) (.ref f) = true) (h : wpAny (model pw w) A (spliced (backTo pos (starEach (e :: rest) env))) (fun vs s₁ => (kTop w.params).In s₁.heap ∧ wpAny (model pw w) A (call (.ref f) (first ++ vs)) Q E s₁) E s)
    (he : starEach (e :: rest) env = (false, eval e env) :: starEach rest env := by rfl) (hplain : (backTo pos (starEach rest env)).any (·.1) = false := by rfl) :
    wpAny (model pw w) A (callWith pos (.ref f) first (backTo pos (starEach (e :: rest) env)) []) Q E s := callWith_K _W.K hk h he hplain
theorem callR0 {env : Env} {pos : Pos} {f : Addr} {first : List Value} {h₀ : Heap} {L : Addr} {m : Str → Option Value} {Q : Value → Shared → Prop} (W : Wd w h₀) (F : Fr h₀ L s.heap m) (hk : keepIn (kTop w.params) (.ref f) = true) (h : wpAny (model pw w) A (call (.ref f) (first ++ [])) Q E s) :
    wpAny (model pw w) A (callWith pos (.ref f) first (backTo pos (starEach [] env)) []) Q E s := callWith_K0 (W.keeps F.keep).K hk h
theorem law_enter {a : Addr} {Q : Value → Shared → Prop} (W : Wd w s.heap) (hA : Ar A 60)
    (h : ∀ h₁ tk, Fr s.heap s.heap.objs.size h₁ (fun x => if x = "script" then some (.ref a) else none) → h₁.IsCell (s.heap.objs.size + 1) none → h₁.IsCell (s.heap.objs.size + 2) none →
      wpAny (model pw w) (A.deeper (lawEnv s.heap.objs.size)) (execs (stBody (stAt 16)) (lawEnv s.heap.objs.size)) (fun f s' => Q (match f with | .ret v => v | _ => .none) s') (fun _ _ => False) { s with heap := h₁, toks := tk }) :
    wpAny (model pw w) A (call (.ref 218) [.ref a]) Q E s := by
  refine wpAny_call (call_cellsN_ret (name := stName (stAt 16)) (params := stArgs (stAt 16)) (body := stBody (stAt 16)) (scope := stScope (stAt 16)) (binds := [("script", .ref a)]) hA.room (W.at 218 _ rfl) (by rfl) W.nolimit (W.code 217 _ _ _ _ rfl rfl rfl) (by rfl) (fun x hx => ?_) (by decide) (fun h₁ tk cells F N C => ?_))
  · simp only [List.mem_cons, List.not_mem_nil, or_false] at hx
    subst hx
    exact .inl (by rfl)
  · obtain ⟨o, o', rfl, h1, h2⟩ := CellsAre.two (n := "ends") (n' := "depths") (c := s.heap.objs.size + 2) (c' := s.heap.objs.size + 1) C
    refine wpAny_mono (h h₁ tk ⟨?_, F.keep, F.above⟩ ⟨_, N.get (by simp), h2⟩ ⟨_, N.get (by simp), h1⟩) (fun _ _ q => q) fun _ _ q => q.elim
    obtain ⟨o, es, n, e, d, q1, q2⟩ := F.ns
    refine ⟨o, es, n, e, d, q1, fun x => (q2 x).trans ?_⟩
    rw [show bindL (envOfC (stName (stAt 16)) (stScope (stAt 16)) s.heap.objs.size 218 (.ref 217)).kindOf [("script", Value.ref a)] (fun _ => none) x = _ from rfl]
    rfl
end
end XnLaw0Text
section WXnLaw1
open PySem PySem.W PySem.W.X PyProof.Rows
local macro_rules | `(tactic| walk) => `(tactic| ((repeat ((try dsimp only); first | ((with_reducible show wpAny _ _ _ _ _ _); walk1) | (with_reducible refine And.intro (Wd.keeps (by assumption) (Fr.keep (by assumption))).K ?_) | (with_reducible rw [if_pos rfl]) | (with_reducible rw [if_neg Bool.false_ne_true]))); (try dsimp only)))
theorem rstXnLaw1 (M : PySem.Model) (A : PySem.Around) (env : PySem.Env) (s : PySem.Shared) : True := by
  first
  | (have h : PySem.wpAny M A (PySem.eval (.Constant .none 0 ⟨0, 0, 0, 0⟩) env) (fun _ _ => True) (fun _ _ => True) s := by (walk1; fail)
     trivial)
  | (w_top off
     trivial)
section GXnLaw1
open PySem PySem.W PySem.W.X PyProof.Rows
local macro_rules | `(tactic| walk_at "loadName") => `(tactic| refine ldnLoc (by assumption) (by first | assumption | rfl) ?_)
local macro_rules | `(tactic| walk_at "exec For") => `(tactic| refine wpAny_For ?_)
local macro_rules | `(tactic| walk_at "callWith ref") => `(tactic| first | refine callR (by assumption) (by kernel_rfl) ?_ | refine callR0 (by assumption) (by assumption) (by kernel_rfl) ?_)
section IXnLaw1
open PySem PySem.W PySem.W.X PyProof.Rows
local macro_rules | `(tactic| walk_at "eval Name") => `(tactic| first | refine nm_gl (by assumption) (by assumption) (by rfl) ?_ | refine nm_bl (by assumption) (by assumption) (by rfl) ?_ | refine ldLoc (by assumption) (by first | assumption | rfl) ?_)
local macro_rules | `(tactic| walk_at "storeName") => `(tactic| (refine stLocN (by assumption) (by assumption) (fun _ _ _ => ?_)))
section XnLaw1Text
open PySem PySem.W PySem.W.X PyProof.Rows
set_option maxRecDepth 100000
set_option maxHeartbeats 4000000
set_option linter.all false
section
variable {w : World} {A : Around} {E : Value → Shared → Prop} {s : Shared}
theorem law0 {a : Addr} {l : List (Int × Tok)} {h₀ : Heap} {L : Addr} {m : Str → Option Value} {Q : Flow → Shared → Prop} (W : Wd w h₀) (hA : Ar A 30) (FF : Fr h₀ L s.heap m) (hl : h₀.PlainList a (l.map iv).toArray) (h63 : l.length ≤ 63)
    (ma : m "script" = some (.ref a)) (hc1 : s.heap.IsCell (L + 1) none) (hc2 : s.heap.IsCell (L + 2) none)
    (hQ : ∀ s' m' aD aG tsp tk gt n1 n2, Sm s s' → Fr h₀ L s'.heap m' → h₀.get? aD = none → h₀.get? aG = none → aD ≠ aG → s'.heap.IsCell (L + 1) (some (.ref aD)) → s'.heap.IsCell (L + 2) none →
      s'.heap.get? aD = some (LO ((((nestOf (l.map (·.1))).ds.map Int.ofNat).zip tk).map iv).toArray n1) → tk.length = (nestOf (l.map (·.1))).ds.length → s'.heap.get? aG = some (LO (strValues gt).toArray n2) → gt.map (·.1) = (nestOf (l.map (·.1))).gs.map chS →
      m' "greats" = some (.ref aG) → m' "spelled" = some (.str ((nestOf (l.map (·.1))).sp ++ catS (((nestOf (l.map (·.1))).stk.reverse).map chS)) tsp) → Q .next s') :
    wpAny (model pw w) A (exec (lawS 0) (lawEnv L)) Q (fun _ _ => False) s := by
  obtain ⟨rest, S0, N⟩ := snap FF [L + 1]
  unfold lawEnv
  show wpAny _ _ (exec (Stmt.Assign _ _ _) _) _ _ _
  walk
  have Ws := W.keeps FF.keep
  obtain ⟨na, hla⟩ := hl
  refine law_nest Ws (hA.le (by omega)) ⟨na, FF.keep _ _ hla⟩ h63 fun s1 t aD aG tsp tk gt n1 n2 S hD0 hG0 ht0 hDG ht hD htk hG hgt => ?_
  have hn : ∀ b : Addr, b ∈ rest.map (·.1) → s.heap.get? b ≠ none := fun b hb q => by
    obtain ⟨p, hp, rfl⟩ := List.mem_map.mp hb
    rw [(N p hp).1] at q; cases q
  have hc1n : h₀.get? (L + 1) = none := Heap.get?_none_of_le (Nat.le_trans FF.above (Nat.le_succ _))
  have F1 := frKeep FF S.keep
  have N1 := newsAdd FF (newsAdd FF (newsAdd FF (newsKeep N S.keep) hG0 hG) hD0 hD) ht0 ht
  have hgs := S.gens
  have hds := S.drawn
  have hos := S.os
  have c1 : s1.heap.IsCell (L + 1) none := let ⟨o, e, d⟩ := hc1; ⟨o, S.keep _ _ e, d⟩
  have c2 : s1.heap.IsCell (L + 2) none := let ⟨o, e, d⟩ := hc2; ⟨o, S.keep _ _ e, d⟩
  have e1 : ∀ {b : Addr}, s.heap.get? b = none → b ≠ L + 1 := fun {b} hb q => by
    obtain ⟨o, e, d⟩ := hc1
    rw [← q, hb] at e; cases e
  have hf : ∀ {b : Addr}, s.heap.get? b = none → h₀.get? b = none := fun {b} hb => by
    cases e0 : h₀.get? b with
    | none => rfl
    | some o => rw [FF.keep _ _ e0] at hb; cases hb
  have hne : ∀ p ∈ (t, ({ cls := .type "tuple", data := .seq #[.ref aD, .ref aG, .str ((nestOf (l.map (·.1))).sp ++ catS (((nestOf (l.map (·.1))).stk.reverse).map chS)) tsp] } : Obj)) :: (aD, LO ((((nestOf (l.map (·.1))).ds.map Int.ofNat).zip tk).map iv).toArray n1) :: (aG, LO (strValues gt).toArray n2) :: rest, p.1 ≠ L + 1 := by
    intro p hp
    simp only [List.mem_cons] at hp
    rcases hp with rfl | rfl | rfl | hp
    · exact e1 ht0
    · exact e1 hD0
    · exact e1 hG0
    · exact fun q => S0.apart p hp (by simp [q])
  obtain ⟨o1, eo1, do1⟩ := c1
  have Nc : News h₀ L s1.heap ((L + 1, o1) :: (t, ({ cls := .type "tuple", data := .seq #[.ref aD, .ref aG, .str ((nestOf (l.map (·.1))).sp ++ catS (((nestOf (l.map (·.1))).stk.reverse).map chS)) tsp] } : Obj)) :: (aD, LO ((((nestOf (l.map (·.1))).ds.map Int.ofNat).zip tk).map iv).toArray n1) :: (aG, LO (strValues gt).toArray n2) :: rest) := fun p hp => by
    rcases List.mem_cons.mp hp with rfl | hp
    · exact ⟨eo1, Nat.succ_ne_self _, hc1n⟩
    · exact N1 p hp
  refine unpackN_ F1 Nc ⟨_, ht, rfl, _, rfl⟩ hA.handled (by rfl) (by rfl) fun h3 F3 N3 => ?_
  clear N F1 N1
  have N3' := newsSub (l' := (t, ({ cls := .type "tuple", data := .seq #[.ref aD, .ref aG, .str ((nestOf (l.map (·.1))).sp ++ catS (((nestOf (l.map (·.1))).stk.reverse).map chS)) tsp] } : Obj)) :: (aD, LO ((((nestOf (l.map (·.1))).ds.map Int.ofNat).zip tk).map iv).toArray n1) :: (aG, LO (strValues gt).toArray n2) :: rest) N3 fun p hp => List.mem_cons_of_mem _ hp
  have c3 : h3.IsCell (L + 1) none := ⟨o1, N3.get List.mem_cons_self, do1⟩
  clear N3 Nc
  walk
  refine stC (by assumption) (by assumption) hc1n (Nat.succ_ne_self _) c3 (c := L + 1) (by rfl) hne (fun h4 F4 N4 hc4 hs4 => ?_)
  obtain ⟨o4, eo4, do4⟩ := hc4
  have N4' : News h₀ L h4 ((L + 1, o4) :: (t, ({ cls := .type "tuple", data := .seq #[.ref aD, .ref aG, .str ((nestOf (l.map (·.1))).sp ++ catS (((nestOf (l.map (·.1))).stk.reverse).map chS)) tsp] } : Obj)) :: (aD, LO ((((nestOf (l.map (·.1))).ds.map Int.ofNat).zip tk).map iv).toArray n1) :: (aG, LO (strValues gt).toArray n2) :: rest) := fun p hp => by
    rcases List.mem_cons.mp hp with rfl | hp
    · exact ⟨eo4, Nat.succ_ne_self _, hc1n⟩
    · exact N4 p hp
  clear N4 F3 N3'
  walk
  rename News _ _ _ _ => N6
  rename Fr _ _ _ _ => F6
  obtain ⟨oc2, ec2, dc2⟩ := hc2
  have hr2 : (L + 2, oc2) ∈ rest := S0.all _ _ (Nat.ne_of_gt (Nat.lt_add_of_pos_right (by decide))) (by simp) (Heap.get?_none_of_le (Nat.le_trans FF.above (Nat.le_add_right _ _))) ec2
  exact hQ _ _ aD aG tsp tk gt n1 n2 ⟨hgs, hds, hos⟩ F6 (hf hD0) (hf hG0) hDG ⟨o4, N6.get (by simp), do4⟩ ⟨oc2, N6.get (by simp [hr2]), dc2⟩ (N6.get (by simp)) htk (N6.get (by simp)) hgt rfl rfl
end
end XnLaw1Text
end IXnLaw1
theorem rstXnLaw2 (M : PySem.Model) (A : PySem.Around) (env : PySem.Env) (s : PySem.Shared) : True := by
  first
  | (have h : PySem.wpAny M A (PySem.eval (.Constant .none 0 ⟨0, 0, 0, 0⟩) env) (fun _ _ => True) (fun _ _ => True) s := by (walk1; fail)
     trivial)
  | (w_top off
     trivial)
section IXnLaw2
open PySem PySem.W PySem.W.X PyProof.Rows
local macro_rules | `(tactic| walk_at "eval Name") => `(tactic| first | refine nm_gl (by assumption) (by assumption) (by rfl) ?_ | refine nm_bl (by assumption) (by assumption) (by rfl) ?_ | refine ldLoc (by assumption) (by first | assumption | rfl) ?_ | refine ldCN (by assumption) (by rfl) (by first | assumption | exact List.mem_cons_of_mem _ (by assumption) | exact List.mem_cons_of_mem _ (List.mem_cons_of_mem _ (by assumption)) | exact List.mem_cons_of_mem _ (List.mem_cons_of_mem _ (List.mem_cons_of_mem _ (by assumption)))) (by assumption) ?_)
local macro_rules | `(tactic| walk_at "storeName") => `(tactic| (refine stLocN (by assumption) (by assumption) (fun _ _ _ => ?_)))
section XnLaw2Text
open PySem PySem.W PySem.W.X PyProof.Rows
set_option maxRecDepth 100000
set_option maxHeartbeats 4000000
set_option linter.all false
section
variable {w : World} {A : Around} {E : Value → Shared → Prop} {s : Shared}
theorem law1 {h₀ : Heap} {L aD : Addr} {m : Str → Option Value} {ds : List Nat} {tk : List Tok} {n1 D : Nat} {Q : Flow → Shared → Prop} (W : Wd w h₀) (hA : Ar A 30) (FF : Fr h₀ L s.heap m)
    (hc1 : s.heap.IsCell (L + 1) (some (.ref aD))) (hD : s.heap.get? aD = some (LO (((ds.map Int.ofNat).zip tk).map iv).toArray n1)) (hD0 : h₀.get? aD = none) (hDL : aD ≠ L) (htk : tk.length = ds.length) (hmem : D ∈ ds) (hmax : ∀ d ∈ ds, d ≤ D) (hD9 : D ≤ 20)
    (hQ : ∀ s' m' aR nR (rs : List Addr), Sm s s' → Fr h₀ L s'.heap m' → Keep [L] s.heap s'.heap → s.heap.get? aR = none → s'.heap.get? aR = some (LO (rs.map Value.ref).toArray nR) → rs.length = D + 2 → rs.Nodup → aR ∉ rs → (∀ r ∈ rs, s.heap.get? r = none ∧ RowIs s'.heap r [] []) →
      (∀ y : Str, y ≠ "rows" → m' y = m y) → m' "rows" = some (.ref aR) → Q .next s') :
    wpAny (model pw w) A (exec (lawS 1) (lawEnv L)) Q (fun _ _ => False) s := by
  obtain ⟨rest, S0, N⟩ := snap FF []
  obtain ⟨o1, e1, d1⟩ := hc1
  have m1 : (L + 1, o1) ∈ rest := S0.all _ _ (Nat.succ_ne_self _) (by simp) (Heap.get?_none_of_le (Nat.le_trans FF.above (Nat.le_succ _))) e1
  have mD : (aD, LO (((ds.map Int.ofNat).zip tk).map iv).toArray n1) ∈ rest := S0.all _ _ hDL (by simp) hD0 hD
  have hfst : ((ds.map Int.ofNat).zip tk).map (·.1) = ds.map Int.ofNat := List.map_fst_zip (by simp [htk])
  have hDi := ints_are ((ds.map Int.ofNat).zip tk)
  rw [hfst] at hDi
  unfold lawEnv
  show wpAny _ _ (exec (Stmt.Assign _ (PySem.Expr.ListComp _ [⟨_, _, _, 0⟩] _ _) _) _) _ _ _
  refine list_comp_as (cl := []) (L := L) (h₀ := h₀) (n := D + 2) (ob := rgO (D + 2)) (IsVal := fun i v => ∃ t, v = .int (i : Nat) t)
    (fun i acc news => ∃ rs : List Addr, acc = rs.map Value.ref ∧ rs.length = i ∧ rs.Nodup ∧ ∀ r ∈ rs, ∃ d n k o, (r, rowObj d #[] n) ∈ news ∧ (d, o) ∈ news ∧ d ≠ r ∧ ∀ h : Heap, h.get? d = some o → h.Ns1 d (fun y => if y = "_initial_size" then some (.int 0 k) else none))
    (by rfl) rfl (by rfl) (by rfl) (by rfl) (by decide) (by rfl) (by decide) (by rfl) (fun _ => by rfl) ⟨[], rfl, rfl, List.nodup_nil, by simp⟩ ?_ ?_
  · rintro i acc news ⟨rs, rfl, hl, _⟩
    simp [hl]
  walk
  refine max_list_N hA.handled FF N ⟨_, N.get mD, rfl, _, rfl⟩ hDi (by rw [List.length_map]; exact List.length_pos_of_mem hmem) fun h3 M t3 k3 F3 N3 hM hMx => ?_
  have hMD : M = ((D : Nat) : Int) := by
    obtain ⟨d, hd, rfl⟩ := List.mem_map.mp hM
    have h1 := hmax d hd
    have h2 := hMx (Int.ofNat D) (List.mem_map_of_mem hmem)
    simp only [Int.ofNat_eq_natCast] at h2 ⊢
    omega
  subst hMD
  have e2 : ((D : Nat) : Int) + 2 = ((D + 2 : Nat) : Int) := by omega
  walk
  rename_i h5 tk5 t5 u5 v5 hR5 F5 N5 k5
  refine ⟨compIt_range hA.handled (by omega) (e2 ▸ hR5), ?_, m, F5, fun s' aR acc news k S F K hn hR hnews hP => ?_⟩
  · rintro C i hi s4 m4 acc news v kD D' I ⟨tv, rfl⟩ S4 F4 N4 ⟨rs, rfl, hl, hnd', hall⟩ hx
    refine tests_nil ?_
    rw [if_pos rfl]
    have W4 : Wd w s4.heap := (W.keeps F5.keep).keeps F4.keep
    have W5 : Wd w h5 := W.keeps F5.keep
    dsimp only at F4 N4
    walk
    refine acc_new W4 (hA.le (by omega)) fun s5 a d n k hna hnd hne S5 ha hns => ?_
    have N6 : News h5 C s5.heap ((a, rowObj d #[] n) :: _) := newsAdd F4 (newsKeep N4 S5.keep) hna ha
    obtain ⟨od, es, ep, eod, rod⟩ := hns
    have N7 := newsAdd F4 N6 hnd eod
    refine ⟨⟨S5.gens, S5.drawn, S5.os⟩, m4, (d, od) :: (a, rowObj d #[] n) :: news, frKeep F4 S5.keep, newsSub N7 ?_, ⟨rs ++ [a], by simp, by simp [hl], ?_, ?_⟩, ?_⟩
    · intro p hp
      simp only [List.mem_cons] at hp ⊢
      rcases hp with h | h | h | h | h <;> simp [h]
    · refine List.nodup_append.mpr ⟨hnd', by simp, fun x hx y hy => ?_⟩
      simp only [List.mem_cons, List.not_mem_nil, or_false] at hy
      subst hy
      rintro rfl
      obtain ⟨d', n', k', o', h1, _⟩ := hall _ hx
      have := N4.get (a := x) (o := rowObj d' #[] n') (by simp [h1])
      rw [hna] at this; cases this
    · intro r hr
      rcases List.mem_append.mp hr with hr | hr
      · obtain ⟨d', n', k', o', h1, h2, h3, h4⟩ := hall _ hr
        exact ⟨d', n', k', o', by simp [h1], by simp [h2], h3, h4⟩
      · simp only [List.mem_cons, List.not_mem_nil, or_false] at hr
        subst hr
        exact ⟨d, n, k, od, by simp, by simp, Ne.symm hne, fun h e => ⟨od, es, ep, e, rod⟩⟩
    · intro p hp
      simp only [List.mem_cons] at hp
      rcases hp with rfl | rfl | hp
      · exact .inr hnd
      · exact .inr hna
      · exact .inl hp
  · obtain ⟨rs, rfl, hl, hnd, hall⟩ := hP
    have kp : ∀ b, s.heap.get? b ≠ none → b ≠ L → h5.get? b ≠ none := fun b hb hL q => by
      cases e : s.heap.get? b with
      | none => exact hb e
      | some o => have := S0.at F5 N5 (fun p hp => hp) b o (by simpa using hL) e; rw [q] at this; cases this
    have new : ∀ b, h5.get? b = none → s.heap.get? b = none := fun b hb => by
      by_cases hbL : b = L
      · subst hbL
        obtain ⟨o, es, n, e, _⟩ := F5.ns
        rw [hb] at e; cases e
      · cases e : s.heap.get? b with
        | none => rfl
        | some o => exact absurd hb (kp b (by rw [e]; exact fun h => nomatch h) hbL)
    refine hQ s' _ aR k rs ⟨S.gens, S.drawn, S.os⟩ F (fun b o hb e => K b o hb (S0.at F5 N5 (fun p hp => hp) b o (by simpa using hb) e)) (new _ hn) hR hl hnd (fun hr => ?_) (fun r hr => ?_) (fun y hy => if_neg hy) (if_pos rfl)
    · obtain ⟨d', n', k', o', h1, _⟩ := hall _ hr
      exact (hnews _ h1).2.2 rfl
    · obtain ⟨d', n', k', o', h1, h2, h3, h4⟩ := hall _ hr
      exact ⟨new _ (hnews _ h1).2.1, ⟨⟨d', n', k', (hnews _ h1).1, h4 _ (hnews _ h2).1, h3⟩, rfl, fun i h => absurd h (Nat.not_lt_zero _)⟩⟩
end
end XnLaw2Text
theorem rstXnTurn : True := by
  w_top off
  trivial
section XnTurnText
open PySem PySem.W PySem.W.X PyProof.Rows
set_option maxRecDepth 100000
set_option maxHeartbeats 4000000
set_option linter.all false
section
variable {w : World} {A : Around} {E : Value → Shared → Prop} {s : Shared}
noncomputable def signBody : List Stmt := forBody (stBody (stAt 16)) 3
noncomputable def foldOf (c : Nat) : Str := match b3find c with | some v => v | none => Txt.lower ⟨#[c]⟩
theorem map_b3' {c : Nat} {v : Str} {t : Tok} {Q : Value → Shared → Prop} (W : Wd w s.heap) (hA : Ar A 5) (hm : foldOf c = v)
    (hQ : ∀ s' t, St s s' → Q (.str v t) s') : wpAny (model pw w) A (call (.ref 199) [.str ⟨#[c]⟩ t]) Q E s :=
  map_b3 W hA fun s' t S => by subst hm; exact hQ s' t S
theorem u8_small {c : Nat} (h : c < 128) : Str.utf8Of c = [c.toUInt8] := by
  unfold Str.utf8Of; rw [if_pos (by simpa using h)]
theorem u8_nat {c : Nat} (h : c < 256) : c.toUInt8.toNat = c := by
  show c % 256 = c
  exact Nat.mod_eq_of_lt h
/-- a closing piece, an opening piece, as the machine reads them -/
noncomputable def clB (k : Nat) : Bool × List UInt8 := (false, [92, 34] ++ Str.utf8Of k ++ [40])
noncomputable def opB (g : Nat) : Bool × List UInt8 := (true, Str.utf8Of g ++ [41])
theorem flat_one (p : Bool × List UInt8) : flat [p] = stB p := by simp [flat]
theorem utf_cl (k : Nat) : utf [41, 34, 92, 34, k, 40, 34] = flat [clB k] := by
  rw [flat_one]; simp [utf, stB, clB, u8_small]
theorem utf_op (g : Nat) : utf [40, 34, g, 41, 34] = flat [opB g] := by
  rw [flat_one]; simp [utf, stB, opB, u8_small]
theorem inB_cl {k : Nat} (h : 97 ≤ k) (h' : k ≤ 122) : InB (clB k) := by
  unfold InB clB
  rw [u8_small (by omega)]
  simp only [List.cons_append, List.nil_append, List.map_cons, List.map_nil]
  rw [u8_nat (by omega)]
  exact .mark (by decide) (.plain (by omega) (by omega) (.plain (by decide) (by decide) .nil))
theorem encode_m {x : Str} {t : Tok} {pl : Sem Bool} {Q : Value × List Value → Shared → Prop} (h : Q (.builtin "str.encode", [.str x t]) s) : wpAny (model pw w) A (getMethod (.str x t) "encode" pl) Q E s :=
  getMethod_builtin (typeIs_str _ _ _) F.plainAttrs_str F.slot_str_encode F.type_str_encode (fun b e => by cases e) h
theorem turn_skip {h₀ : Heap} {L aR : Addr} {c : Nat} {m : Str → Option Value} {ts : Tok} {Q : Flow → Shared → Prop} (W : Wd w h₀) (hA : Ar A 30) (FF : Fr h₀ L s.heap m)
    (msn : m "sign" = some (.str ⟨#[c]⟩ ts)) (hb : (b1list.any fun k => decide ((k : Int) = (c : Int))) = true)
    (hQ : ∀ s', St s s' → Q .next s') :
    wpAny (model pw w) A (execs signBody (lawEnv L)) Q (fun _ _ => False) s := by
  obtain ⟨rest, S0, N⟩ := snap FF []
  unfold lawEnv
  show wpAny _ _ (execs (_ :: _) _) _ _ _
  walk
  refine in_b1 (W.keeps FF.keep) (hA.le (by omega)) fun s1 S1 => ?_
  rw [hb]
  have F1 := frKeep FF S1.keep
  have N1 := newsKeep N S1.keep
  clear FF N
  walk1
  rw [if_neg (by decide)]
  walk
  exact hQ _ S1
theorem turn_close {h₀ : Heap} {L aR : Addr} {c : Nat} {m : Str → Option Value} {d : Nat} {td ts : Tok} {Q : Flow → Shared → Prop} (W : Wd w h₀) (hA : Ar A 30) (FF : Fr h₀ L s.heap m)
    (msn : m "sign" = some (.str ⟨#[c]⟩ ts)) (md : m "depth" = some (.int (d + 1 : Nat) td)) (hb : (b1list.any fun k => decide ((k : Int) = (c : Int))) = false) (hm : foldOf c = ⟨#[c]⟩) (hc : 97 ≤ c) (hc' : c ≤ 122)
    (hQ : ∀ s' m', Sm s s' → Fr h₀ L s'.heap m' → Keep [L] s.heap s'.heap → (∀ y : Str, y ≠ "depth" → y ≠ "small" → m' y = m y) → (∃ t, m' "depth" = some (.int (d : Nat) t)) → Q .next s') :
    wpAny (model pw w) A (execs signBody (lawEnv L)) Q (fun _ _ => False) s := by
  obtain ⟨rest, S0, N⟩ := snap FF []
  unfold lawEnv
  show wpAny _ _ (execs (_ :: _) _) _ _ _
  walk
  refine in_b1 (W.keeps FF.keep) (hA.le (by omega)) fun s1 S1 => ?_
  rw [hb]
  have F1 := frKeep FF S1.keep
  have N1 := newsKeep N S1.keep
  clear N
  walk
  rw [if_pos (by rfl)]
  walk
  refine map_b3' (W.keeps F1.keep) (hA.le (by omega)) hm fun s2 t2 S2 => ?_
  have F2 := frKeep F1 S2.keep
  have N2 := newsKeep N1 S2.keep
  clear F1 N1 FF
  walk
  rw [if_pos (beq_self_eq_true _)]
  walk
  refine encode_m ?_
  walk
  rw [show Str.ofString ")\"\\\"" ++ ⟨#[c]⟩ ++ Str.ofString "(\"" = ⟨[41, 34, 92, 34, c, 40, 34].toArray⟩ from rfl]
  refine encode_call ?_ (by simp) ?_ fun t4 k4 => ?_
  · intro x hx
    simp only [List.mem_cons, List.not_mem_nil, or_false] at hx
    rcases hx with rfl | rfl | rfl | rfl | rfl | rfl | rfl <;> first | rfl | (simp [Str.isSurrogate]; omega)
  · rw [utf_cl]; simp [flat_one, stB, clB, u8_small (show c < 128 by omega)]
  rw [utf_cl]
  walk
  rename Fr _ _ _ _ => F3
  rename News _ _ _ _ => N3
  refine paren_depth (W.keeps F3.keep) (hA.le (by omega)) (by intro p hp; simp only [List.mem_cons, List.not_mem_nil, or_false] at hp; subst hp; exact inB_cl hc hc') (by rw [flat_one]; simp [stB, clB, u8_small (show c < 128 by omega)]) fun s5 t5 S5 => ?_
  have F5 := frKeep F3 S5.keep
  have N5 := newsKeep N3 S5.keep
  clear N3 F3
  walk
  rename Fr _ _ _ _ => F6
  rename News _ _ _ _ => N6
  refine hQ _ _ ⟨S5.gens.trans (S2.gens.trans S1.gens), S5.drawn.trans (S2.drawn.trans S1.drawn), S5.os.trans (S2.os.trans S1.os)⟩ F6 (S0.at F6 N6 fun p hp => hp) (fun y hy hy' => ?_) ⟨_, (if_pos rfl).trans (congrArg some (congrArg (fun z => Value.int z _) ?_))⟩
  · show (if y = _ then _ else if y = _ then _ else m y) = _
    rw [if_neg hy, if_neg hy']
  · show ((d + 1 : Nat) : Int) + ((ups [clB c] : Nat) : Int) - ((downs [clB c] : Nat) : Int) = _
    simp [ups, downs, clB]
end
end XnTurnText
theorem rstXnPush : True := by
  w_top off
  trivial
section XnPushText
open PySem PySem.W PySem.W.X PyProof.Rows
set_option maxRecDepth 100000
set_option maxHeartbeats 4000000
set_option linter.all false
section
variable {w : World} {A : Around} {E : Value → Shared → Prop} {s : Shared}
noncomputable def ifElse (st : Stmt) : List Stmt := match st with | .If _ _ e _ => e | _ => []
noncomputable def ifThen (st : Stmt) : List Stmt := match st with | .If _ t _ _ => t | _ => []
noncomputable def openBody : List Stmt := ifElse ((ifThen (signBody.getD 0 default)).getD 1 default)
theorem RowAt.ne {h : Heap} {L r : Addr} {m : Str → Option Value} {xs : Array Value} (x : RowAt h r xs) (F : h.Ns L m) : r ≠ L := fun q => by
  obtain ⟨d, n, k, e, _⟩ := x
  obtain ⟨o, es, ep, e', hd, _⟩ := F
  rw [q, e'] at e; cases e; cases hd
theorem RowAt.stepL {h h' : Heap} {L r : Addr} {m : Str → Option Value} {xs : Array Value} {v : Value} (x : RowAt h r xs) (F : h.Ns L m) (hv : m "rows" = some v) (k : Keep [L] h h') : RowAt h' r xs := by
  have hr := x.ne F
  obtain ⟨d, n, t, e, ⟨o, es, ep, e1, q⟩, ne⟩ := x
  have hd : d ≠ L := fun hh => by
    subst hh
    obtain ⟨o', es', ep', e', hd', hk', hf'⟩ := F
    rw [e'] at e1; cases e1
    have q2 := q.2.2.2 "rows"
    have q1 := q.1
    rw [hd'] at q1; cases q1
    rw [hf', hv] at q2
    cases q2
  exact ⟨d, n, t, k _ _ (by simpa using hr) e, ⟨o, es, ep, k _ _ (by simpa using hd) e1, q⟩, ne⟩
theorem RowAt.stepR {h h' : Heap} {r r' : Addr} {xs ys : Array Value} (x : RowAt h r xs) (y : RowAt h r' ys) (hne : r ≠ r') (k : ∀ b o, b ≠ r' → h.get? b = some o → h'.get? b = some o) : RowAt h' r xs := by
  obtain ⟨d, n, t, e, ⟨o, es, ep, e1, q⟩, ne⟩ := x
  have hd : d ≠ r' := fun hh => by
    subst hh
    obtain ⟨d', n', t', e', _⟩ := y
    rw [e'] at e1; cases e1
    have q1 := q.1
    cases q1
  exact ⟨d, n, t, k _ _ hne e, ⟨o, es, ep, k _ _ hd e1, q⟩, ne⟩
theorem item_at {value slice : PySem.Expr} {l : Addr} {items : Array Value} {k : Nat} {u : Tok} {x : Value} {Q : Value → Shared → Prop} (hl : s.heap.IsList l items) (hk : k < 100000) (hx : items[k]? = some x) (h : Q x s)
    (hs : subscripted slice false (.ref l) (.int (k : Nat) u) = operate [.ref l, .int (k : Nat) u] (getItem (.ref l) (.int (k : Nat) u)) := by with_unfolding_all rfl) :
    wpAny (model pw w) A (subscriptTail value slice (.ref l) (.int (k : Nat) u)) Q E s :=
  tail_any hl.typeIs slot_list_getitem.lookup (wpAny_getItem_list hl (by omega) (by omega) (by simpa using hx) h) hs
theorem FX.type_push {h : Heap} {g : Array GenState} {d : Drawn} {t : Nat} {os : OsState} (W : Wd w h) : (⟨h, g, d, t, os⟩ : Shared).TypeIs (.ref 75) "function" := ⟨_, W.at 75 _ rfl, rfl⟩
theorem frBut {h₀ h h' : Heap} {L r : Addr} {m : Str → Option Value} (F : Fr h₀ L h m) (hr : r ≠ L) (hr0 : h₀.get? r = none) (k : ∀ b o, b ≠ r → h.get? b = some o → h'.get? b = some o) : Fr h₀ L h' m :=
  ⟨let ⟨o, es, n, e, q⟩ := F.ns; ⟨o, es, n, k _ _ (Ne.symm hr) e, q⟩, fun b o e => k b o (fun q => by rw [q, hr0] at e; cases e) (F.keep b o e), F.above⟩
theorem push1 {h₀ : Heap} {L aR r : Addr} {rs : List Addr} {nR : Nat} {c : Nat} {m : Str → Option Value} {d : Nat} {td ts : Tok} {xs : Array Value} {Q : Flow → Shared → Prop} (W : Wd w h₀) (hA : Ar A 30) (FF : Fr h₀ L s.heap m)
    (msn : m "sign" = some (.str ⟨#[c]⟩ ts)) (md : m "depth" = some (.int (d : Nat) td)) (mR : m "rows" = some (.ref aR)) (hR : s.heap.get? aR = some (LO (rs.map Value.ref).toArray nR)) (hR0 : h₀.get? aR = none) (hRL : aR ≠ L) (hrs : rs.length ≤ 100)
    (hr : rs[d]? = some r) (hrow : RowAt s.heap r xs) (hxs : xs.size ≤ 1000) (hr0 : h₀.get? r = none)
    (hQ : ∀ s' a, Sm s s' → Fr h₀ L s'.heap m → Keep [r] s.heap s'.heap → s.heap.get? a = none → TupS s'.heap a (⟨#[40]⟩, ⟨#[34, c, 41, 34]⟩) → RowAt s'.heap r (xs.push (.ref a)) → Q .next s') :
    wpAny (model pw w) A (exec (openBody.getD 0 default) (lawEnv L)) Q (fun _ _ => False) s := by
  obtain ⟨rest, S0, N⟩ := snap FF []
  have mmR : (aR, LO (rs.map Value.ref).toArray nR) ∈ rest := S0.all _ _ hRL (by simp) hR0 hR
  unfold lawEnv
  show wpAny _ _ (exec (Stmt.Expr _ _) _) _ _ _
  walk
  have hd : d < rs.length := (List.getElem?_eq_some_iff.mp hr).1
  refine item_at ⟨_, N.get mmR, rfl, _, rfl⟩ (by omega) (x := .ref r) (by simp [hr]) ?_
  walk
  refine row_getMethod (tf := "function") (W.keeps FF.keep) hrow (f := .ref 75) (by kernel_rfl) ⟨_, (W.keeps FF.keep).at 75 _ rfl, rfl⟩ (.inl rfl) (by decide) ?_
  walk
  refine row_push (W.keeps FF.keep) (hA.le (by omega)) hrow hxs fun s' a hna kp ha hrow' g1 g2 g3 => ?_
  exact hQ s' a ⟨g1, g2, g3⟩ (frBut FF (hrow.ne FF.ns) hr0 kp) (fun b o hb e => kp b o (fun q => hb (by simp [q])) e) hna ⟨_, _, ha⟩ hrow'
theorem push2 {h₀ : Heap} {L aR r : Addr} {rs : List Addr} {nR : Nat} {c : Nat} {m : Str → Option Value} {d : Nat} {td ts : Tok} {xs : Array Value} {Q : Flow → Shared → Prop} (W : Wd w h₀) (hA : Ar A 30) (FF : Fr h₀ L s.heap m)
    (msn : m "small" = some (.str ⟨#[c]⟩ ts)) (md : m "depth" = some (.int (d : Nat) td)) (mR : m "rows" = some (.ref aR)) (hR : s.heap.get? aR = some (LO (rs.map Value.ref).toArray nR)) (hR0 : h₀.get? aR = none) (hRL : aR ≠ L) (hrs : rs.length ≤ 100)
    (hr : rs[d + 1]? = some r) (hrow : RowAt s.heap r xs) (hxs : xs.size ≤ 1000) (hr0 : h₀.get? r = none)
    (hQ : ∀ s' a, Sm s s' → Fr h₀ L s'.heap m → Keep [r] s.heap s'.heap → s.heap.get? a = none → TupS s'.heap a (⟨#[41]⟩, ⟨#[34, 92, 34, c, 40, 34]⟩) → RowAt s'.heap r (xs.push (.ref a)) → Q .next s') :
    wpAny (model pw w) A (exec (openBody.getD 1 default) (lawEnv L)) Q (fun _ _ => False) s := by
  obtain ⟨rest, S0, N⟩ := snap FF []
  have mmR : (aR, LO (rs.map Value.ref).toArray nR) ∈ rest := S0.all _ _ hRL (by simp) hR0 hR
  unfold lawEnv
  show wpAny _ _ (exec (Stmt.Expr _ _) _) _ _ _
  walk
  have hd : d + 1 < rs.length := (List.getElem?_eq_some_iff.mp hr).1
  rw [show (d : Int) + 1 = ((d + 1 : Nat) : Int) by omega]
  refine item_at ⟨_, N.get mmR, rfl, _, rfl⟩ (by omega) (x := .ref r) (by simp [hr]) ?_
  walk
  refine row_getMethod (tf := "function") (W.keeps FF.keep) hrow (f := .ref 75) (by kernel_rfl) ⟨_, (W.keeps FF.keep).at 75 _ rfl, rfl⟩ (.inl rfl) (by decide) ?_
  walk
  refine row_push (W.keeps FF.keep) (hA.le (by omega)) hrow hxs fun s' a hna kp ha hrow' g1 g2 g3 => ?_
  exact hQ s' a ⟨g1, g2, g3⟩ (frBut FF (hrow.ne FF.ns) hr0 kp) (fun b o hb e => kp b o (fun q => hb (by simp [q])) e) hna ⟨_, _, ha⟩ hrow'
theorem deep3 {h₀ : Heap} {L : Addr} {c : Nat} {m : Str → Option Value} {d : Nat} {td ts : Tok} {Q : Flow → Shared → Prop} (W : Wd w h₀) (hA : Ar A 30) (FF : Fr h₀ L s.heap m)
    (msn : m "sign" = some (.str ⟨#[c]⟩ ts)) (md : m "depth" = some (.int (d : Nat) td)) (hc : Str.isSurrogate c = false) (hib : InB (opB c))
    (hQ : ∀ s' m', Sm s s' → Fr h₀ L s'.heap m' → Keep [L] s.heap s'.heap → (∀ y : Str, y ≠ "depth" → m' y = m y) → (∃ t, m' "depth" = some (.int (d + 1 : Nat) t)) → Q .next s') :
    wpAny (model pw w) A (exec (openBody.getD 2 default) (lawEnv L)) Q (fun _ _ => False) s := by
  obtain ⟨rest, S0, N⟩ := snap FF []
  unfold lawEnv
  show wpAny _ _ (exec (Stmt.Assign _ _ _) _) _ _ _
  walk
  refine encode_m ?_
  walk
  rw [show Str.ofString "(\"" ++ ⟨#[c]⟩ ++ Str.ofString ")\"" = ⟨[40, 34, c, 41, 34].toArray⟩ from rfl]
  have hul : (Str.utf8Of c).length ≤ 4 := by unfold Str.utf8Of; split <;> (try split) <;> (try split) <;> simp
  refine encode_call ?_ (by simp) ?_ fun t4 k4 => ?_
  · intro x hx
    simp only [List.mem_cons, List.not_mem_nil, or_false] at hx
    rcases hx with rfl | rfl | rfl | rfl | rfl <;> first | rfl | exact hc
  · rw [utf_op, flat_one]; simp [stB, opB]; omega
  rw [utf_op]
  walk
  refine paren_depth (W.keeps FF.keep) (hA.le (by omega)) (by intro p hp; simp only [List.mem_cons, List.not_mem_nil, or_false] at hp; subst hp; exact hib) (by rw [flat_one]; simp [stB, opB]; omega) fun s5 t5 S5 => ?_
  have F5 := frKeep FF S5.keep
  have N5 := newsKeep N S5.keep
  clear N FF
  walk
  rename Fr _ _ _ _ => F6
  rename News _ _ _ _ => N6
  refine hQ _ _ ⟨S5.gens, S5.drawn, S5.os⟩ F6 (S0.at F6 N6 fun p hp => hp) (fun y hy => if_neg hy) ⟨_, (if_pos rfl).trans (congrArg some (congrArg (fun z => Value.int z _) ?_))⟩
  show (d : Int) + ((ups [opB c] : Nat) : Int) - ((downs [opB c] : Nat) : Int) = _
  simp [ups, downs, opB]
theorem turn_open {h₀ : Heap} {L aR r1 r2 : Addr} {rs : List Addr} {nR : Nat} {c k : Nat} {m : Str → Option Value} {d : Nat} {td ts : Tok} {xs ys : Array Value} {Q : Flow → Shared → Prop} (W : Wd w h₀) (hA : Ar A 30) (FF : Fr h₀ L s.heap m)
    (msn : m "sign" = some (.str ⟨#[c]⟩ ts)) (md : m "depth" = some (.int (d : Nat) td)) (hb : (b1list.any fun k => decide ((k : Int) = (c : Int))) = false) (hm : foldOf c = ⟨#[k]⟩) (hck : k ≠ c) (hc : Str.isSurrogate c = false) (hib : InB (opB c))
    (mR : m "rows" = some (.ref aR)) (hR : s.heap.get? aR = some (LO (rs.map Value.ref).toArray nR)) (hR0 : h₀.get? aR = none) (hRL : aR ≠ L) (hRr : aR ∉ rs) (hrs : rs.length ≤ 100)
    (hr1 : rs[d]? = some r1) (hr2 : rs[d + 1]? = some r2) (hne : r1 ≠ r2) (hrow1 : RowAt s.heap r1 xs) (hrow2 : RowAt s.heap r2 ys) (hxs : xs.size ≤ 1000) (hys : ys.size ≤ 1000) (hr10 : h₀.get? r1 = none) (hr20 : h₀.get? r2 = none)
    (hQ : ∀ s' m' a1 a2, Sm s s' → Fr h₀ L s'.heap m' → Keep [L, r1, r2] s.heap s'.heap → (∀ y : Str, y ≠ "depth" → y ≠ "small" → m' y = m y) → (∃ t, m' "depth" = some (.int (d + 1 : Nat) t)) → s.heap.get? a1 = none → s.heap.get? a2 = none →
      TupS s'.heap a1 (⟨#[40]⟩, ⟨#[34, c, 41, 34]⟩) → TupS s'.heap a2 (⟨#[41]⟩, ⟨#[34, 92, 34, k, 40, 34]⟩) → RowAt s'.heap r1 (xs.push (.ref a1)) → RowAt s'.heap r2 (ys.push (.ref a2)) → Q .next s') :
    wpAny (model pw w) A (execs signBody (lawEnv L)) Q (fun _ _ => False) s := by
  obtain ⟨rest, S0, N⟩ := snap FF []
  have mmR : (aR, LO (rs.map Value.ref).toArray nR) ∈ rest := S0.all _ _ hRL (by simp) hR0 hR
  unfold lawEnv
  show wpAny _ _ (execs (_ :: _) _) _ _ _
  walk
  refine in_b1 (W.keeps FF.keep) (hA.le (by omega)) fun s1 S1 => ?_
  rw [hb]
  have F1 := frKeep FF S1.keep
  have N1 := newsKeep N S1.keep
  clear N
  walk
  rw [if_pos (by rfl)]
  walk
  refine map_b3' (W.keeps F1.keep) (hA.le (by omega)) hm fun s2 t2 S2 => ?_
  have F2 := frKeep F1 S2.keep
  have N2 := newsKeep N1 S2.keep
  have hL0 : s.heap.Ns L m := FF.ns
  clear F1 N1 FF
  walk
  rw [if_neg (by intro e; have := eq_of_beq e; cases this; exact hck rfl)]
  rename Fr _ _ _ _ => F3
  rename News _ _ _ _ => N3
  have K3 := S0.at F3 N3 fun p hp => hp
  have hin : ∀ (i : Nat) (r : Addr), rs[i]? = some r → r ≠ aR := fun i r hr q => hRr (q ▸ List.mem_of_getElem? hr)
  show wpAny _ _ (execs [openBody.getD 0 default, openBody.getD 1 default, openBody.getD 2 default] (lawEnv L)) _ _ _
  refine wpAny_execs_cons (push1 W hA F3 (by exact msn) (by exact md) (by exact mR) (by exact N3.get mmR) hR0 hRL hrs hr1 (by exact hrow1.stepL hL0 mR K3) hxs hr10 fun s4 a1 M4 F4 K4 n4 t4 w4 => ?_)
  have hL3 := F3.ns
  have row1 : RowAt _ r1 xs := hrow1.stepL hL0 mR K3
  have row2 : RowAt s4.heap r2 ys := (hrow2.stepL hL0 mR K3).stepR row1 (Ne.symm hne) fun b o hb e => K4 b o (by simpa using hb) e
  have mmR4 : s4.heap.get? aR = some (LO (rs.map Value.ref).toArray nR) := K4 _ _ (by simpa using Ne.symm (hin d r1 hr1)) (N3.get mmR)
  have ha1 : a1 ≠ r2 := fun q => by
    obtain ⟨_, _, _, e, _⟩ := hrow2.stepL hL0 mR K3
    rw [q] at n4
    have := n4.symm.trans e
    cases this
  refine wpAny_execs_cons (push2 W hA F4 (by rfl) (by exact md) (by exact mR) mmR4 hR0 hRL hrs hr2 row2 hys hr20 fun s5 a2 M5 F5 K5 n5 t5 w5 => ?_)
  have row1' : RowAt s5.heap r1 (xs.push (.ref a1)) := w4.stepR row2 hne fun b o hb e => K5 b o (by simpa using hb) e
  have t4' : TupS s5.heap a1 (⟨#[40]⟩, ⟨#[34, c, 41, 34]⟩) := let ⟨t, u, e⟩ := t4; ⟨t, u, K5 _ _ (by simpa using ha1) e⟩
  refine wpAny_execs_cons (deep3 W hA F5 (by exact msn) (by exact md) hc hib fun s6 m6 M6 F6 K6 e6 d6 => ?_)
  have mR5 : (fun y : Str => if y = "small" then some (Value.str ⟨#[k]⟩ t2) else m y) "rows" = some (.ref aR) := mR
  have nL : ∀ {h : Heap} {a : Addr} {p : Str × Str} {mm : Str → Option Value}, TupS h a p → h.Ns L mm → a ≠ L := fun ⟨t, u, e⟩ ⟨o, es, ep, e', hd, _⟩ q => by
    rw [q, e'] at e; cases e; cases hd
  have k6 : ∀ {a : Addr} {p : Str × Str}, TupS s5.heap a p → TupS s6.heap a p := fun x => let ⟨t, u, e⟩ := x; ⟨t, u, K6 _ _ (by simpa using nL x F5.ns) e⟩
  have old : ∀ b o, b ≠ L → s.heap.get? b = some o → ∃ o, s4.heap.get? b = some o := fun b o hb e => by
    have h3 := K3 b o (by simpa using hb) e
    by_cases hbr : b = r1
    · obtain ⟨_, _, _, e, _⟩ := w4
      exact ⟨_, hbr ▸ e⟩
    · exact ⟨o, K4 b o (by simpa using hbr) h3⟩
  have new1 : s.heap.get? a1 = none := by
    cases e : s.heap.get? a1 with
    | none => rfl
    | some o =>
      have h1 : a1 ≠ L := nL t4 F4.ns
      rw [K3 a1 o (by simpa using h1) e] at n4; cases n4
  have new2 : s.heap.get? a2 = none := by
    cases e : s.heap.get? a2 with
    | none => rfl
    | some o =>
      have h1 : a2 ≠ L := nL t5 F5.ns
      obtain ⟨o', e'⟩ := old a2 o h1 e
      rw [e'] at n5; cases n5
  refine wpAny_execs_nil (wpAny_execs_nil (wpAny_execs_nil (hQ s6 m6 a1 a2 ⟨M6.gens.trans (M5.gens.trans (M4.gens.trans (S2.gens.trans S1.gens))), M6.drawn.trans (M5.drawn.trans (M4.drawn.trans (S2.drawn.trans S1.drawn))), M6.os.trans (M5.os.trans (M4.os.trans (S2.os.trans S1.os)))⟩ F6 (fun b o hb e => ?_) (fun y hy hy' => (e6 y hy).trans (if_neg hy')) d6 new1 new2 (k6 t4') (k6 t5) (row1'.stepL F5.ns mR5 K6) (w5.stepL F5.ns mR5 K6))))
  simp only [List.mem_cons, List.not_mem_nil, or_false, not_or] at hb
  exact K6 b o (by simpa using hb.1) (K5 b o (by simpa using hb.2.2) (K4 b o (by simpa using hb.2.1) (K3 b o (by simpa using hb.1) e)))
end
end XnPushText
theorem rstXnScan : True := by
  w_top off
  trivial
section XnScanText
open PySem PySem.W PySem.W.X PyProof.Rows
set_option maxRecDepth 100000
set_option maxHeartbeats 4000000
set_option linter.all false
section
variable {w : World} {A : Around} {E : Value → Shared → Prop} {s : Shared}
/-- what the reading of the signs does -/
noncomputable def put (f : Nat → List (Str × Str)) (d c k : Nat) (i : Nat) : List (Str × Str) := f i ++ (if i = d then [(⟨#[40]⟩, ⟨#[34, c, 41, 34]⟩)] else []) ++ (if i = d + 1 then [(⟨#[41]⟩, ⟨#[34, 92, 34, k, 40, 34]⟩)] else [])
noncomputable def isB1 (c : Nat) : Bool := b1list.any fun k => decide ((k : Int) = (c : Int))
inductive Sc (n : Nat) : List Nat → Nat → (Nat → List (Str × Str)) → Nat → (Nat → List (Str × Str)) → Prop
  | nil {d f} : Sc n [] d f d f
  | skip {c l d f d' f'} : isB1 c = true → Sc n l d f d' f' → Sc n (c :: l) d f d' f'
  | close {c l d f d' f'} : isB1 c = false → foldOf c = ⟨#[c]⟩ → 97 ≤ c → c ≤ 122 → Sc n l d f d' f' → Sc n (c :: l) (d + 1) f d' f'
  | opn {c k l d f d' f'} : isB1 c = false → foldOf c = ⟨#[k]⟩ → k ≠ c → Str.isSurrogate c = false → InB (opB c) → d + 1 < n → Sc n l (d + 1) (put f d c k) d' f' → Sc n (c :: l) d f d' f'
theorem TupS.neL {h : Heap} {a L : Addr} {p : Str × Str} {mm : Str → Option Value} (x : TupS h a p) (F : h.Ns L mm) : a ≠ L := by
  obtain ⟨t, u, e⟩ := x
  obtain ⟨o, es, ep, e', hd, _⟩ := F
  intro q; rw [q, e'] at e; cases e; cases hd
theorem TupS.neR {h : Heap} {a r : Addr} {p : Str × Str} {ys : Array Value} (x : TupS h a p) (y : RowAt h r ys) : a ≠ r := by
  obtain ⟨t, u, e⟩ := x
  obtain ⟨d, n, k, e', _⟩ := y
  intro q; rw [q, e'] at e; cases e
/-- a row's parts are none of L and the rows -/
theorem RowIs.step {h h' : Heap} {L r : Addr} {ts : List Addr} {l : List (Str × Str)} {m : Str → Option Value} {v : Value} {X : List Addr} (x : RowIs h r ts l) (F : h.Ns L m) (hv : m "rows" = some v) (hX : ∀ b ∈ X, ∃ ys, RowAt h b ys) (hr : r ∉ X) (k : Keep (L :: X) h h') : RowIs h' r ts l := by
  obtain ⟨row, len, tup⟩ := x
  refine ⟨?_, len, fun i h1 h2 => ?_⟩
  · have hrL := row.ne F
    obtain ⟨d, n, t, e, ⟨o, es, ep, e1, q⟩, ne⟩ := row
    have hd : d ≠ L := fun hh => by
      subst hh
      obtain ⟨o', es', ep', e', hd', hk', hf'⟩ := F
      rw [e'] at e1; cases e1
      have q2 := q.2.2.2 "rows"
      have q1 := q.1
      rw [hd'] at q1; cases q1
      rw [hf', hv] at q2
      cases q2
    have hdX : d ∉ X := fun hh => by
      obtain ⟨ys, d', n', t', e', _⟩ := hX d hh
      rw [e'] at e1; cases e1
      have q1 := q.1
      cases q1
    exact ⟨d, n, t, k _ _ (by simp [hrL, hr]) e, ⟨o, es, ep, k _ _ (by simp [hd, hdX]) e1, q⟩, ne⟩
  · have hx := tup i h1 h2
    have hL := hx.neL F
    have hXn : ts[i] ∉ X := fun hh => by
      obtain ⟨ys, hy⟩ := hX _ hh
      exact hx.neR hy rfl
    obtain ⟨t, u, e⟩ := hx
    exact ⟨t, u, k _ _ (by simp [hL, hXn]) e⟩
theorem RowIs.stepIt {h h' : Heap} {it r : Addr} {ts : List Addr} {l : List (Str × Str)} {o : Obj} {fs : Array Value} (x : RowIs h r ts l) (ho : h.get? it = some o) (hd : o.data = .fields fs) (k : ∀ b o, b ≠ it → h.get? b = some o → h'.get? b = some o) : RowIs h' r ts l := by
  obtain ⟨row, len, tup⟩ := x
  refine ⟨?_, len, fun i h1 h2 => ?_⟩
  · obtain ⟨d, n, t, e, ⟨o', es, ep, e1, q⟩, ne⟩ := row
    refine ⟨d, n, t, k _ _ (fun hh => ?_) e, ⟨o', es, ep, k _ _ (fun hh => ?_) e1, q⟩, ne⟩
    · rw [hh, ho] at e; cases e; cases hd
    · rw [hh, ho] at e1; cases e1
      have q1 := q.1
      rw [hd] at q1; cases q1
  · obtain ⟨t, u, e⟩ := tup i h1 h2
    refine ⟨t, u, k _ _ (fun hh => ?_) e⟩
    rw [hh, ho] at e; cases e; cases hd
/-- the tuples of a row that has got one more -/
theorem RowIs.more {h h' : Heap} {L r a : Addr} {ts : List Addr} {l : List (Str × Str)} {p : Str × Str} {m : Str → Option Value} {X : List Addr} (x : RowIs h r ts l) (F : h.Ns L m) (hX : ∀ b ∈ X, ∃ ys, RowAt h b ys) (k : Keep (L :: X) h h') (hr : RowAt h' r ((ts.map Value.ref).toArray.push (.ref a))) (ht : TupS h' a p) : RowIs h' r (ts ++ [a]) (l ++ [p]) := by
  obtain ⟨row, len, tup⟩ := x
  refine ⟨by rw [List.map_append]; rw [List.push_toArray] at hr; exact hr, by simp [len], fun i h1 h2 => ?_⟩
  rw [List.getElem_append, List.getElem_append]
  by_cases hi : i < ts.length
  · rw [dif_pos hi, dif_pos (by omega)]
    have hx := tup i hi (by omega)
    have hL := hx.neL F
    have hXn : ts[i] ∉ X := fun hh => by
      obtain ⟨ys, hy⟩ := hX _ hh
      exact hx.neR hy rfl
    obtain ⟨t, u, e⟩ := hx
    exact ⟨t, u, k _ _ (by simp [hL, hXn]) e⟩
  · rw [dif_neg hi, dif_neg (by omega)]
    have e1 : (if h : i - ts.length < 1 then a else a) = a := by split <;> rfl
    simp only [List.getElem_singleton]
    exact ht
end
end XnScanText
theorem rstXnLaw3 : True := by
  w_top off
  trivial
section XnLaw3Text
open PySem PySem.W PySem.W.X PyProof.Rows
set_option maxRecDepth 100000
set_option maxHeartbeats 4000000
set_option linter.all false
section
variable {w : World} {A : Around} {E : Value → Shared → Prop} {s : Shared}
theorem strit_item {it : Addr} {x : Str} {t : Tok} {i c : Nat} {Q : Option Value → Shared → Prop} (hit : s.heap.IsStrIter it (strIterType x) x t i) (hx : x.cps[i]? = some c)
    (hQ : ∀ h', h'.IsStrIter it (strIterType x) x t (i + 1) → Heap.SameBut it s.heap h' → Q (some (.str ⟨#[c]⟩ s.toks)) { s with heap := h', toks := s.toks + 1 }) : wpAny (model pw w) A (pyNext (.ref it)) Q E s := by
  cases ha : x.cps.all (· < 128)
  · simp only [strIterType, ha, Bool.false_eq_true, if_false] at hit hQ
    exact wpAny_pyNext_wide_item hit hx hQ
  · simp only [strIterType, ha, if_true] at hit hQ
    exact wpAny_pyNext_ascii_item hit hx hQ
theorem strit_end {it : Addr} {x : Str} {t : Tok} {i : Nat} {Q : Option Value → Shared → Prop} (hh : A.handled = none) (hit : s.heap.IsStrIter it (strIterType x) x t i) (hx : x.cps[i]? = none)
    (hQ : ∀ h', Heap.ExtBut it s.heap h' → Q none { s with heap := h' }) : wpAny (model pw w) A (pyNext (.ref it)) Q E s := by
  cases ha : x.cps.all (· < 128)
  · simp only [strIterType, ha, Bool.false_eq_true, if_false] at hit
    exact wpAny_pyNext_wide_end hh hit hx hQ
  · simp only [strIterType, ha, if_true] at hit
    exact wpAny_pyNext_ascii_end hh hit hx hQ
theorem put_len {f : Nat → List (Str × Str)} {d c k i : Nat} (h : ∀ j, (f j).length ≤ i) (j : Nat) : (put f d c k j).length ≤ i + 1 := by
  have := h j
  unfold put
  by_cases h1 : j = d
  · rw [if_pos h1, if_neg (by omega)]; simp; omega
  · rw [if_neg h1]
    by_cases h2 : j = d + 1
    · rw [if_pos h2]; simp; omega
    · rw [if_neg h2]; simp; omega
theorem nd_inj {α : Type} {l : List α} (h : l.Nodup) {i j : Nat} (hi : i < l.length) (hj : j < l.length) (e : l[i] = l[j]) : i = j := by
  have hp := List.pairwise_iff_getElem.mp h
  rcases Nat.lt_trichotomy i j with h1 | h1 | h1
  · exact absurd e (hp i j hi hj h1)
  · exact h1
  · exact absurd e.symm (hp j i hj hi h1)
theorem law3 {h₀ : Heap} {L aR : Addr} {rs : List Addr} {nR : Nat} {x : Str} {t td : Tok} {m : Str → Option Value} {d' : Nat} {f' : Nat → List (Str × Str)} {Q : Flow → Shared → Prop} (W : Wd w h₀) (hA : Ar A 30) (FF : Fr h₀ L s.heap m)
    (mx : m "spelled" = some (.str x t)) (md : m "depth" = some (.int (0 : Nat) td)) (mR : m "rows" = some (.ref aR)) (hR : s.heap.get? aR = some (LO (rs.map Value.ref).toArray nR)) (hR0 : h₀.get? aR = none) (hRL : aR ≠ L) (hRr : aR ∉ rs) (hrs : rs.length ≤ 100) (hnd : rs.Nodup)
    (hr0 : ∀ r ∈ rs, h₀.get? r = none) (hrow : ∀ r ∈ rs, RowIs s.heap r [] []) (hxs : x.cps.size ≤ 900) (hS : Sc rs.length x.cps.toList 0 (fun _ => []) d' f')
    (hQ : ∀ s' m', Sm s s' → Fr h₀ L s'.heap m' → Keep (L :: rs) s.heap s'.heap → (∀ y : Str, y ≠ "sign" → y ≠ "depth" → y ≠ "small" → m' y = m y) → (∀ i r, rs[i]? = some r → ∃ ts, RowIs s'.heap r ts (f' i)) → Q .next s') :
    wpAny (model pw w) A (exec (lawS 3) (lawEnv L)) Q (fun _ _ => False) s := by
  unfold lawEnv
  show wpAny _ _ (exec (Stmt.For _ _ _ _ _) _) _ _ _
  walk
  refine wpAny_pyIter_strU ?_
  have nit : s.heap.get? s.heap.objs.size = none := by
    cases e : s.heap.get? s.heap.objs.size with
    | none => rfl
    | some o => exact absurd (Heap.lt_size e) (Nat.lt_irrefl _)
  have itL : s.heap.objs.size ≠ L := fun q => by
    obtain ⟨o, es, ep, e, _⟩ := FF.ns
    rw [← q, nit] at e; cases e
  have itR : s.heap.objs.size ∉ rs := fun q => by
    obtain ⟨d, n, k, e, _⟩ := (hrow _ q).row
    rw [nit] at e; cases e
  have it0 : h₀.get? s.heap.objs.size = none := by
    cases e : h₀.get? s.heap.objs.size with
    | none => rfl
    | some o => rw [FF.keep _ _ e] at nit; cases nit
  have F0 := FF.push { cls := .type (strIterType x), data := .fields #[.str x t, .int 0 0] }
  have hg0 : (s.heap.push { cls := .type (strIterType x), data := .fields #[.str x t, .int 0 0] }).get? s.heap.objs.size = some { cls := .type (strIterType x), data := .fields #[.str x t, .int 0 0] } := Heap.get?_push_size _ rfl
  refine codeAny_forLoop (fun k s' => ∃ i m' d f, (i ≤ x.cps.size ∧ k = x.cps.size - i) ∧ Sm s s' ∧ Fr h₀ L s'.heap m' ∧ Keep (L :: rs) s.heap s'.heap ∧ s'.heap.IsStrIter s.heap.objs.size (strIterType x) x t i ∧
    (∀ y : Str, y ≠ "sign" → y ≠ "depth" → y ≠ "small" → m' y = m y) ∧ (∃ t, m' "depth" = some (.int (d : Nat) t)) ∧ Sc rs.length (x.cps.toList.drop i) d f d' f' ∧ (∀ j r, rs[j]? = some r → ∃ ts, RowIs s'.heap r ts (f j)) ∧ ∀ j, (f j).length ≤ i) (fun k s' hI => ?_) x.cps.size
    ⟨0, m, 0, fun _ => [], ⟨Nat.zero_le _, rfl⟩, ⟨rfl, rfl, rfl⟩, F0, fun b o _ e => Heap.get?_push_of_some _ e, ⟨_, hg0, rfl, rfl⟩, fun _ _ _ _ => rfl, ⟨td, md⟩, hS, fun j r hj => ⟨[], (hrow r (List.mem_of_getElem? hj)).keeps fun b o e => Heap.get?_push_of_some _ e⟩, fun _ => Nat.le_refl _⟩
  obtain ⟨i, m', d, f, ⟨hi, rfl⟩, S, F', K, hit, em, ⟨tdd, mdd⟩, hsc, hrows, hlen⟩ := hI
  clear F0
  have hLx := (em _ (by decide) (by decide) (by decide)).trans mR
  obtain ⟨oit, git, cit, dit⟩ := id hit
  by_cases hlt : i < x.cps.size
  · obtain ⟨c, hc⟩ : ∃ c, x.cps[i]? = some c := ⟨_, Array.getElem?_eq_getElem hlt⟩
    refine strit_item hit hc fun h' hit' hs' => ?_
    have F2 : Fr h₀ L h' m' := ⟨F'.ns.sameBut hs' (Ne.symm itL), fun b o e => (hs'.2 b (fun q => by rw [q, it0] at e; cases e)).trans (F'.keep b o e), F'.above⟩
    dsimp only
    refine wpAny_assign_Name (wpAny_storeName_local (by rfl) F2.ns (fun h3 hn3 hs3 => ?_) (by rfl))
    have F3 := F2.set hn3 hs3
    have K3 : Keep (L :: rs) s.heap h3 := fun b o hb e => by
      simp only [List.mem_cons, not_or] at hb
      refine (hs3.2 b hb.1).trans ((hs'.2 b (fun q => ?_)).trans (K b o (by simp [hb]) e))
      rw [q, nit] at e; cases e
    have it3 : h3.IsStrIter s.heap.objs.size (strIterType x) x t (i + 1) := let ⟨o, e, r⟩ := hit'; ⟨o, (hs3.2 _ itL).trans e, r⟩
    have rows3 : ∀ j r, rs[j]? = some r → ∃ ts, RowIs h3 r ts (f j) := fun j r hj => by
      obtain ⟨ts, hx⟩ := hrows j r hj
      exact ⟨ts, (hx.stepIt git dit fun b o hb e => (hs'.2 b hb).trans e).step (X := []) F2.ns hLx (by simp) (by simp) fun b o hb e => (hs3.2 b (fun q => hb (List.mem_cons.mpr (.inl q)))).trans e⟩
    have hdrop : x.cps.toList.drop i = c :: x.cps.toList.drop (i + 1) := by
      rw [List.drop_eq_getElem_cons (by simpa using hlt)]
      congr 1
      rw [Array.getElem?_eq_getElem hlt] at hc
      simpa using hc
    rw [hdrop] at hsc
    have m3s : (fun y : Str => if y = "sign" then some (Value.str ⟨#[c]⟩ s'.toks) else m' y) "sign" = some (Value.str ⟨#[c]⟩ s'.toks) := if_pos rfl
    have m3d : (fun y : Str => if y = "sign" then some (Value.str ⟨#[c]⟩ s'.toks) else m' y) "depth" = some (.int (d : Nat) tdd) := mdd
    have m3R : (fun y : Str => if y = "sign" then some (Value.str ⟨#[c]⟩ s'.toks) else m' y) "rows" = some (.ref aR) := hLx
    have hg3 : h3.get? aR = some (LO (rs.map Value.ref).toArray nR) := K3 _ _ (by simp [hRL, hRr]) hR
    cases hsc with
    | skip hb hsc' =>
      refine noE (turn_skip (aR := aR) W hA F3 m3s hb fun s4 S4 => ?_)
      exact ⟨x.cps.size - (i + 1), by omega, i + 1, _, d, f, ⟨by omega, rfl⟩, ⟨S4.gens.trans S.gens, S4.drawn.trans S.drawn, S4.os.trans S.os⟩, frKeep F3 S4.keep, fun b o hb e => S4.keep b o (K3 b o hb e), let ⟨o, e, r⟩ := it3; ⟨o, S4.keep _ _ e, r⟩,
        fun y h1 h2 h3 => (if_neg h1).trans (em y h1 h2 h3), ⟨tdd, m3d⟩, hsc', fun j r hj => let ⟨ts, hx⟩ := rows3 j r hj; ⟨ts, hx.keeps S4.keep⟩, fun j => Nat.le_succ_of_le (hlen j)⟩
    | close hb hm h1 h2 hsc' =>
      refine noE (turn_close (aR := aR) W hA F3 m3s m3d hb hm h1 h2 fun s4 m4 S4 F4 K4 e4 d4 => ?_)
      exact ⟨x.cps.size - (i + 1), by omega, i + 1, m4, _, f, ⟨by omega, rfl⟩, ⟨S4.gens.trans S.gens, S4.drawn.trans S.drawn, S4.os.trans S.os⟩, F4, fun b o hb e => K4 b o (fun q => hb (by simp at q; simp [q])) (K3 b o hb e), let ⟨o, e, r⟩ := it3; ⟨o, K4 _ _ (by simpa using itL) e, r⟩,
        fun y h1 h2 h3 => (e4 y h2 h3).trans ((if_neg h1).trans (em y h1 h2 h3)), d4, hsc', fun j r hj => let ⟨ts, hx⟩ := rows3 j r hj; ⟨ts, hx.step (X := []) F3.ns m3R (by simp) (by simp) K4⟩, fun j => Nat.le_succ_of_le (hlen j)⟩
    | @opn _ k _ _ _ _ _ hb hm hk hs hib hd hsc' =>
      have hr1 : rs[d]? = some rs[d] := List.getElem?_eq_getElem (by omega)
      have hr2 : rs[d + 1]? = some rs[d + 1] := List.getElem?_eq_getElem hd
      have hne : rs[d] ≠ rs[d + 1] := fun q => by
        have := nd_inj hnd (by omega) (by omega) q
        omega
      obtain ⟨ts1, w1⟩ := rows3 d _ hr1
      obtain ⟨ts2, w2⟩ := rows3 (d + 1) _ hr2
      have l1 := w1.len
      have l2 := w2.len
      have g1 := hlen d
      have g2 := hlen (d + 1)
      refine noE (turn_open (aR := aR) W hA F3 m3s m3d hb hm hk hs hib m3R hg3 hR0 hRL hRr hrs hr1 hr2 hne w1.row w2.row (by simp; omega) (by simp; omega) (hr0 _ (List.getElem_mem _)) (hr0 _ (List.getElem_mem _)) fun s4 m4 a1 a2 S4 F4 K4 e4 d4 n1 n2 t1 t2 v1 v2 => ?_)
      have hX : ∀ b ∈ [rs[d], rs[d + 1]], ∃ ys, RowAt h3 b ys := fun b hb => by
        simp only [List.mem_cons, List.not_mem_nil, or_false] at hb
        rcases hb with rfl | rfl
        · exact ⟨_, w1.row⟩
        · exact ⟨_, w2.row⟩
      refine ⟨x.cps.size - (i + 1), by omega, i + 1, m4, _, _, ⟨by omega, rfl⟩, ⟨S4.gens.trans S.gens, S4.drawn.trans S.drawn, S4.os.trans S.os⟩, F4, fun b o hb e => K4 b o (fun q => hb ?_) (K3 b o hb e), let ⟨o, e, r⟩ := it3; ⟨o, K4 _ _ ?_ e, r⟩,
        fun y h1 h2 h3 => (e4 y h2 h3).trans ((if_neg h1).trans (em y h1 h2 h3)), d4, hsc', fun j r hj => ?_, put_len hlen⟩
      · simp only [List.mem_cons, List.not_mem_nil, or_false] at q ⊢
        rcases q with h | h | h
        · exact .inl h
        · exact .inr (h ▸ List.getElem_mem _)
        · exact .inr (h ▸ List.getElem_mem _)
      · simp only [List.mem_cons, List.not_mem_nil, or_false, not_or]
        exact ⟨itL, fun q => itR (q ▸ List.getElem_mem _), fun q => itR (q ▸ List.getElem_mem _)⟩
      · obtain ⟨ts, hx⟩ := rows3 j r hj
        have hjl : j < rs.length := (List.getElem?_eq_some_iff.mp hj).1
        have hjr : rs[j] = r := (List.getElem?_eq_some_iff.mp hj).2
        by_cases hj1 : j = d
        · subst hj1
          rw [hr1] at hj; cases hj
          refine ⟨ts1 ++ [a1], ?_⟩
          have := w1.more F3.ns hX K4 v1 t1
          unfold put
          rw [if_pos rfl, if_neg (by omega)]
          simpa using this
        · by_cases hj2 : j = d + 1
          · subst hj2
            rw [hr2] at hj; cases hj
            refine ⟨ts2 ++ [a2], ?_⟩
            have := w2.more F3.ns hX K4 v2 t2
            unfold put
            rw [if_neg (by omega), if_pos rfl]
            simpa using this
          · refine ⟨ts, ?_⟩
            have hnX : r ∉ [rs[d], rs[d + 1]] := by
              simp only [List.mem_cons, List.not_mem_nil, or_false, not_or]
              rw [← hjr]
              exact ⟨fun q => hj1 (nd_inj hnd (by omega) (by omega) q), fun q => hj2 (nd_inj hnd (by omega) (by omega) q)⟩
            have := hx.step F3.ns m3R hX hnX K4
            unfold put
            rw [if_neg hj1, if_neg hj2]
            simpa using this
  · have hin : i = x.cps.size := by omega
    subst hin
    refine strit_end hA.handled hit (by simp) fun h' hx' => ?_
    refine wpAny_execs_nil ?_
    have hcases : f = f' := by
      rw [List.drop_of_length_le (by simp)] at hsc
      cases hsc; rfl
    subst hcases
    refine hQ _ m' ⟨S.gens, S.drawn, S.os⟩ ⟨let ⟨o, es, n, e, q⟩ := F'.ns; ⟨o, es, n, hx' _ _ (Ne.symm itL) e, q⟩, fun b o e => hx' b o (fun q => by rw [q, it0] at e; cases e) (F'.keep b o e), F'.above⟩ (fun b o hb e => hx' b o (fun q => by rw [q, nit] at e; cases e) (K b o hb e)) em fun j r hj => ?_
    obtain ⟨ts, hx⟩ := hrows j r hj
    exact ⟨ts, hx.stepIt git dit fun b o hb e => hx' b o hb e⟩
end
end XnLaw3Text
theorem rstXnComp2 : True := by
  w_top off
  trivial
section XnComp2Text
open PySem PySem.W PySem.W.X PyProof.Rows
set_option maxRecDepth 100000
set_option maxHeartbeats 4000000
set_option linter.all false
section
variable {w : World} {A : Around} {E : Value → Shared → Prop} {s : Shared}

/-- what a turn of the outer clause does -/
noncomputable def CompTurn2 (w : World) (A : Around) (s₁ : Shared) (n : Nat) (ob : Nat → Obj) (IsVal : Nat → Value → Prop) (P : Nat → List Value → List (Addr × Obj) → Prop) (x : Str) (e iter2 : PySem.Expr) (cenv : Addr → Env) : Prop :=
  ∀ C i, i < n → ∀ (s : Shared) m acc news v kD D I, IsVal i v → Sm s₁ s → Fr s₁.heap C s.heap m → News s₁.heap C s.heap ((D, LO acc.toArray kD) :: (I, ob (i + 1)) :: news) → D ≠ I → (∀ p ∈ news, p.1 ≠ I ∧ p.1 ≠ D) → P i acc news → m x = some v →
    wpAny (model pw w) A (eval iter2 (cenv C)) (fun x2 s₄ => wpAny (model pw w) A (pyIter x2) (fun it' s₅ => codeAny (model pw w) A (.compStart e 1 it' (.ref D) (cenv C)) (fun r s₆ => match r with
      | .ok _ => Sm s s₆ ∧ ∃ m' acc' news' kD', Fr s₁.heap C s₆.heap m' ∧ News s₁.heap C s₆.heap ((D, LO acc'.toArray kD') :: (I, ob (i + 1)) :: news') ∧ P (i + 1) acc' news' ∧ ∀ p ∈ news', p ∈ news ∨ s.heap.get? p.1 = none
      | .error _ => False) s₅) (fun _ _ => False) s₄) (fun _ _ => False) s
theorem comp2_core {elt iter t2 iter2 : PySem.Expr} {x : Str} {px : Pos} {ifs2 : List PySem.Expr} {scope : Scope} {pos : Pos} {env : Env} {cl : List (Str × Addr)} {n : Nat} {ob : Nat → Obj} {IsVal : Nat → Value → Prop} {xv : Value} {s₁ : Shared} {RR : Value → Addr → Result → Shared → Prop}
    (P : Nat → List Value → List (Addr × Obj) → Prop) (hcell : ∀ y ∈ scope.names, y.2 ≠ .cell) (hkind : scope.kind = .function) (hx : scope.names.lookup x = some .local)
    (hP0 : P 0 [] []) (hit : CompIt w A xv s₁ n ob IsVal) (hs2 : ∀ C x, foldedSetIterable iter2 (compEnvC scope cl C env) x = pure x) (turn : CompTurn2 w A s₁ n ob IsVal P x (.ListComp elt [⟨.Name x px, iter, [], 0⟩, ⟨t2, iter2, ifs2, 0⟩] scope pos) iter2 (fun C => compEnvC scope cl C env))
    (hEnd : ∀ s' D C m acc news k, Sm s₁ s' → Fr s₁.heap C s'.heap m → s₁.heap.get? C = none → s₁.heap.get? D = none → D ≠ C → s'.heap.get? D = some (LO acc.toArray k) → (∀ p ∈ news, s'.heap.get? p.1 = some p.2 ∧ s₁.heap.get? p.1 = none ∧ p.1 ≠ C ∧ p.1 ≠ D) → P n acc news → RR (.ref D) C (.ok .next) s') :
    wpAny (model pw w) A (pyIter xv) (fun it s₂ => wpAny (model pw w) A (newList []) (fun acc s₃ => wpAny (model pw w) A (newFunctionEnv scope env.globals cl [] env.qual none .none (some env)) (fun cenv s₄ => codeAny (model pw w) A (.compStart (.ListComp elt [⟨.Name x px, iter, [], 0⟩, ⟨t2, iter2, ifs2, 0⟩] scope pos) 0 it acc { cenv with scope := relabel scope env }) (RR acc cenv.locals) s₄) E s₃) E s₂) E s₁ := by
  obtain ⟨hiter, hself, item, done, hfree, hn⟩ := hit
  refine hiter _ _ ?_
  refine wpAny_newObj_type (wpAny_newFunctionEnv hcell (by intro y hy; simp at hy) (fun h₁ hns₁ hsb₁ => ?_) hkind)
  dsimp only at hns₁ hsb₁ ⊢
  simp only [Heap.size_push] at hns₁ hsb₁ ⊢
  have lI : s₁.heap.objs.size < s₁.heap.objs.size + 1 + 1 := Nat.lt_of_lt_of_le (Nat.lt_succ_self _) (Nat.le_succ _)
  have kI : (s₁.heap.push (ob 0)).get? s₁.heap.objs.size = some (ob 0) := Heap.get?_push_at rfl (hfree 0)
  have nD : ∀ {a : Addr}, s₁.heap.objs.size ≤ a → s₁.heap.get? a = none := fun {a} ha => by
    cases e : s₁.heap.get? a with
    | none => rfl
    | some o => exact absurd (Heap.lt_size e) (Nat.not_lt.mpr ha)
  have kD : ((s₁.heap.push (ob 0)).push { cls := .type "list", dict := none, data := .seq ([] : List Value).toArray }).get? (s₁.heap.objs.size + 1) = some (LO #[] 0) := Heap.get?_push_at (by rw [Heap.size_push]) rfl
  have F1 : Fr s₁.heap (s₁.heap.objs.size + 1 + 1) h₁ _ := ⟨hns₁, fun b o e => hsb₁.extBut b o (Nat.ne_of_lt (Nat.lt_trans (Heap.lt_size e) lI)) (Heap.get?_push_of_some _ (Heap.get?_push_of_some _ (Heap.get?_push_of_some _ e))), Nat.le_of_lt lI⟩
  have N1 : News s₁.heap (s₁.heap.objs.size + 1 + 1) h₁ [(s₁.heap.objs.size + 1, LO ([] : List Value).toArray 0), (s₁.heap.objs.size, ob 0)] := by
    intro p hp
    simp only [List.mem_cons, List.not_mem_nil, or_false] at hp
    rcases hp with rfl | rfl
    · exact ⟨hsb₁.extBut _ _ (Nat.ne_of_lt (Nat.lt_succ_self _)) (Heap.get?_push_of_some _ kD), Nat.ne_of_lt (Nat.lt_succ_self _), nD (Nat.le_succ _)⟩
    · exact ⟨hsb₁.extBut _ _ (Nat.ne_of_lt lI) (Heap.get?_push_of_some _ (Heap.get?_push_of_some _ kI)), Nat.ne_of_lt lI, nD (Nat.le_refl _)⟩
  have hxC : (compEnvC scope cl (s₁.heap.objs.size + 1 + 1) env).kindOf x = some .local := lookup_relabel_local hx
  refine compStart_any (gens := [⟨.Name x px, iter, [], 0⟩, ⟨t2, iter2, ifs2, 0⟩]) (d := 0) rfl (fun Q hq E => hself _ _ _ (N1.get (by simp)) hq) ?_
  refine compOuter (gens := [⟨.Name x px, iter, [], 0⟩, ⟨t2, iter2, ifs2, 0⟩]) (d := 0) (target := .Name x px) (iter := iter) (ifs := []) (target' := t2) (iter' := iter2) (ifs' := ifs2) rfl rfl (fun k s' => ∃ i m acc news kk, (i ≤ n ∧ k = n - i) ∧ Sm s₁ s' ∧ Fr s₁.heap (s₁.heap.objs.size + 1 + 1) s'.heap m ∧ News s₁.heap (s₁.heap.objs.size + 1 + 1) s'.heap ((s₁.heap.objs.size + 1, LO acc.toArray kk) :: (s₁.heap.objs.size, ob i) :: news) ∧ P i acc news ∧ (∀ p ∈ news, p.1 ≠ s₁.heap.objs.size ∧ p.1 ≠ s₁.heap.objs.size + 1)) (hs2 _)
    (fun k s' hI => ?_) n ⟨0, _, [], [], 0, ⟨Nat.zero_le _, rfl⟩, ⟨rfl, rfl, rfl⟩, F1, N1, hP0, by simp⟩
  obtain ⟨i, m, acc, news, kk, ⟨hi, rfl⟩, S, F', N', P', hne⟩ := hI
  have hDI : s₁.heap.objs.size + 1 ≠ s₁.heap.objs.size := Nat.succ_ne_self _
  have gI : s'.heap.get? s₁.heap.objs.size = some (ob i) := N'.get (by simp)
  by_cases hlt : i < n
  · refine item i hlt s' _ _ (fun b o e => F'.keep b o e) gI fun h' k v hv hg hs => ?_
    have F2 := F'.update N' (a := s₁.heap.objs.size) (o := ob i) (by simp) hs
    have N2 : News s₁.heap (s₁.heap.objs.size + 1 + 1) h' ((s₁.heap.objs.size + 1, LO acc.toArray kk) :: (s₁.heap.objs.size, ob (i + 1)) :: news) := News.setSecond N' hDI (fun p hp => (hne p hp).1) hs hg
    dsimp only
    refine wpAny_pure ?_
    refine wpAny_assign_Name (wpAny_storeName_local hxC F2.ns (fun h3 hn3 hs3 => ?_) (by simp [compEnvC, relabel, hkind]))
    have F3 := F2.set hn3 hs3
    have N3 := N2.set hs3
    have apart : ∀ {news' : List (Addr × Obj)}, (∀ p ∈ news', p ∈ news ∨ h3.get? p.1 = none) → ∀ p ∈ news', p.1 ≠ s₁.heap.objs.size ∧ p.1 ≠ s₁.heap.objs.size + 1 := fun hh p hp => by
      rcases hh p hp with h | h
      · exact hne p h
      · exact ⟨fun q => (by rw [q, N3.get (o := ob (i + 1)) (by simp)] at h; cases h), fun q => (by rw [q, N3.get List.mem_cons_self] at h; cases h)⟩
    refine tests_nil ?_
    rw [if_pos rfl]
    refine wpAny_mono (turn _ i hlt ⟨h3, s'.gens, s'.drawn, k + 1, s'.os⟩ _ acc news v kk (s₁.heap.objs.size + 1) s₁.heap.objs.size hv ⟨S.gens, S.drawn, S.os⟩ F3 N3 hDI hne P' (by simp)) (fun x2 s3 h3 => wpAny_mono h3 (fun it' s5 h5 => codeAny_mono h5 fun r s6 h6 => ?_) fun _ _ h => h) fun _ _ h => h
    cases r with
    | error e => exact h6.elim
    | ok f =>
      obtain ⟨S4, m4, acc4, news4, k4, F4, N4, P4, hn4⟩ := h6
      exact ⟨n - (i + 1), by omega, i + 1, m4, acc4, news4, k4, ⟨by omega, rfl⟩, ⟨S4.gens.trans S.gens, S4.drawn.trans S.drawn, S4.os.trans S.os⟩, F4, N4, P4, apart hn4⟩
  · have hin : i = n := by omega
    subst hin
    refine done s' _ _ (fun b o e => F'.keep b o e) gI fun h' hx' => ?_
    have N2 : News s₁.heap (s₁.heap.objs.size + 1 + 1) h' ((s₁.heap.objs.size + 1, LO acc.toArray kk) :: news) := by
      intro p hp
      have : p.1 ≠ s₁.heap.objs.size ∧ p ∈ (s₁.heap.objs.size + 1, LO acc.toArray kk) :: (s₁.heap.objs.size, ob i) :: news := by
        rcases List.mem_cons.mp hp with rfl | hp
        · exact ⟨hDI, by simp⟩
        · exact ⟨(hne p hp).1, by simp [hp]⟩
      exact ⟨hx' _ _ this.1 (N' p this.2).1, (N' p this.2).2⟩
    have F2 : Fr s₁.heap (s₁.heap.objs.size + 1 + 1) h' m := ⟨let ⟨o, es, n, e, q⟩ := F'.ns; ⟨o, es, n, hx' _ _ (Nat.ne_of_gt lI) e, q⟩, fun b o e => hx' b o (Nat.ne_of_lt (Heap.lt_size e)) (F'.keep b o e), F'.above⟩
    exact hEnd ⟨h', s'.gens, s'.drawn, s'.toks, s'.os⟩ _ _ m acc news kk ⟨S.gens, S.drawn, S.os⟩ F2 (nD (Nat.le_of_lt lI)) (nD (Nat.le_succ _)) (Nat.ne_of_lt (Nat.lt_succ_self _)) (N2.get List.mem_cons_self) (fun p hp => ⟨(N2 p (List.mem_cons_of_mem _ hp)).1, (N2 p (List.mem_cons_of_mem _ hp)).2.2, (N2 p (List.mem_cons_of_mem _ hp)).2.1, (hne p hp).2⟩) P'
/-- a list comprehension of two clauses that a local name takes -/
theorem list_comp2_as {h₀ : Heap} {L : Addr} {elt iter t2 iter2 : PySem.Expr} {x y : Str} {px py : Pos} {ifs2 : List PySem.Expr} {scope : Scope} {pos spos : Pos} {env : Env} {cl : List (Str × Addr)} {n : Nat} {ob : Nat → Obj} {IsVal : Nat → Value → Prop} {Q : Flow → Shared → Prop}
    (P : Nat → List Value → List (Addr × Obj) → Prop) (hsw : swapsWith (.ListComp elt [⟨.Name x px, iter, [], 0⟩, ⟨t2, iter2, ifs2, 0⟩] scope pos) (some (.Name y py)) spos.line env = pure true) (hL : env.locals = L) (hy : env.kindOf y = some .local) (hp : (env.scope.kind == .class || (env.scope.kind == .module && env.locals != env.globals)) = false)
    (hclos : closureFor scope env = pure cl) (hcell : ∀ y ∈ scope.names, y.2 ≠ .cell) (hkind : scope.kind = .function) (hnames : ∀ x ∈ scope.names, x.2 = .local → scope.names.lookup x.1 = some .local) (hx : scope.names.lookup x = some .local)
    (hs : ∀ x, foldedSetIterable iter env x = pure x) (hP0 : P 0 [] []) (hs2 : ∀ C x, foldedSetIterable iter2 (compEnvC scope cl C env) x = pure x)
    (h : wpAny (model pw w) A (eval iter env) (fun xv s₁ => CompIt w A xv s₁ n ob IsVal ∧ CompTurn2 w A s₁ n ob IsVal P x (.ListComp elt [⟨.Name x px, iter, [], 0⟩, ⟨t2, iter2, ifs2, 0⟩] scope pos) iter2 (fun C => compEnvC scope cl C env) ∧ ∃ m₁, Fr h₀ L s₁.heap m₁ ∧
      (∀ s' D acc news k, Sm s₁ s' → Fr h₀ L s'.heap (fun z => if z = y then some (.ref D) else m₁ z) → Keep [L] s₁.heap s'.heap → s₁.heap.get? D = none → s'.heap.get? D = some (LO acc.toArray k) → (∀ p ∈ news, s'.heap.get? p.1 = some p.2 ∧ s₁.heap.get? p.1 = none ∧ p.1 ≠ D) → P n acc news → Q .next s')) E s) :
    wpAny (model pw w) A (exec (.Assign [.Name y py] (.ListComp elt [⟨.Name x px, iter, [], 0⟩, ⟨t2, iter2, ifs2, 0⟩] scope pos) spos) env) Q E s := by
  subst hL
  rw [exec_Assign_Name_used _ _ _ _ hsw]
  refine wpAny_bind (wpAny_standAt (wpAny_bind ?_))
  show wpAny _ A (do let _ ← comprehension (.ListComp elt [⟨.Name x px, iter, [], 0⟩, ⟨t2, iter2, ifs2, 0⟩] scope pos) scope env _ (newList []) false (eval iter env) (some (assign (.Name y py) env))) _ _ s
  refine wpAny_bind (wpAny_mono (wpAny_comprehension_free (use := some (assign (.Name y py) env)) (Q := fun _ s' => Q .next s') rfl hs hclos hkind hnames (wpAny_mono h (fun xv s₁ h₁ => ?_) fun _ _ e => e)) (fun _ s' hq => wpAny_pure (wpAny_pure hq)) fun _ _ e => e)
  obtain ⟨hit, turn, m₁, F₁, hQ⟩ := h₁
  refine comp2_core (RR := fun acc C => compPost (model pw w) A E (some (assign (.Name y py) env)) (fun _ s' => Q .next s') acc C) P hcell hkind hx hP0 hit hs2 turn fun s' D C m acc news k S F hC hD hDC hgD hnews hP => ?_
  obtain ⟨oL, esL, epL, eL, rL⟩ := F₁.ns
  have hLC : env.locals ≠ C := fun q => by rw [q, hC] at eL; cases eL
  have hLD : env.locals ≠ D := fun q => by rw [q, hD] at eL; cases eL
  have F₂ : Fr h₀ env.locals s'.heap m₁ := frKeep F₁ fun b o e => F.keep b o e
  show wpAny _ A (assign (.Name y py) env (.ref D)) _ _ _
  refine wpAny_assign_Name (wpAny_storeName_local hy F₂.ns (fun h₂ hn₂ hs₂ => ?_) hp)
  have F₃ := F₂.set hn₂ hs₂
  refine ⟨m, F.ns.sameBut hs₂ (Ne.symm hLC), fun h'' hs'' => hQ _ D acc news k ⟨S.gens, S.drawn, S.os⟩ ⟨F₃.ns.sameBut hs'' hLC, fun b o e => (hs''.2 b (fun q => ?_)).trans (F₃.keep b o e), F₃.above⟩ (fun b o hb e => (hs''.2 b (fun q => by rw [q, hC] at e; cases e)).trans ((hs₂.2 b (by simpa using hb)).trans (F.keep b o e))) hD ((hs''.2 _ hDC).trans ((hs₂.2 _ (Ne.symm hLD)).trans hgD)) (fun p hp => ?_) hP⟩
  · rw [q] at e
    have := F₁.keep _ _ e
    rw [hC] at this; cases this
  · obtain ⟨a1, a2, a3, a4⟩ := hnews p hp
    refine ⟨(hs''.2 _ a3).trans ((hs₂.2 _ (fun q => ?_)).trans a1), a2, a4⟩
    rw [q, eL] at a2; cases a2
theorem compIt_list {a : Addr} {items : Array Value} {k : Nat} (hA : A.handled = none) (hl : s.heap.get? a = some (LO items k)) (hn : items.size ≤ 10000) : CompIt w A (.ref a) s items.size (itO a) (fun i v => items[i]? = some v) where
  iter := fun Q E hQ => wpAny_pyIter_list ⟨_, hl, rfl, _, rfl⟩ hQ
  self := fun s' Q E h hQ => wpAny_pyIter_listiter (i := 0) ⟨_, h, rfl, rfl⟩ hQ
  item := fun i hi s' Q E kp h hQ => next_list h ⟨_, _, kp _ _ hl, rfl⟩ (Array.getElem?_eq_getElem hi) fun h' hg hs => hQ h' _ _ (Array.getElem?_eq_getElem hi) hg hs
  done := fun s' Q E kp h hQ => next_end hA ⟨_, h, rfl, rfl⟩ ⟨_, _, kp _ _ hl, rfl⟩ (by simp) hQ
  free := fun _ => rfl
  few := hn
theorem ldAny {env : Env} {h₀ : Heap} {L : Addr} {m : Str → Option Value} {x : Str} {pos : Pos} {v : Value} {Q : Value → Shared → Prop} (F : Fr h₀ L s.heap m) (hv : m x = some v) (h : Q v s)
    (hL : env.locals = L := by rfl) (hk : env.scope.kind = .function := by rfl) (hl : env.kindOf x = some .local := by rfl) (hd : (x == ("__debug__" : Str)) = false := by decide) :
    wpAny (model pw w) A (eval (.Name x pos) env) Q E s := by
  subst hL
  exact wpAny_Name (wpAny_loadName_local hk hl F.ns hv h) hd
theorem stAny {env : Env} {h₀ : Heap} {L : Addr} {m : Str → Option Value} {news : List (Addr × Obj)} {x : Str} {v : Value} {Q : Unit → Shared → Prop} (F : Fr h₀ L s.heap m) (N : News h₀ L s.heap news)
    (h : ∀ h', Fr h₀ L h' (fun y => if y = x then some v else m y) → News h₀ L h' news → Q () { s with heap := h', toks := s.toks + 1 })
    (hL : env.locals = L := by rfl) (hk : env.scope.kind = .function := by rfl) (hl : env.kindOf x = some .local := by rfl) :
    wpAny (model pw w) A (storeName env x v) Q E s := by
  subst hL
  exact wpAny_storeName_local hl F.ns (fun h' hn hs => h h' (F.set hn hs) (N.set hs)) (by rw [hk]; rfl)
end
end XnComp2Text
end IXnLaw2
theorem rstXnLaw4 (M : PySem.Model) (A : PySem.Around) (env : PySem.Env) (s : PySem.Shared) : True := by
  first
  | (have h : PySem.wpAny M A (PySem.eval (.Constant .none 0 ⟨0, 0, 0, 0⟩) env) (fun _ _ => True) (fun _ _ => True) s := by (walk1; fail)
     trivial)
  | (w_top off
     trivial)
section IXnLaw4
open PySem PySem.W PySem.W.X PyProof.Rows
local macro_rules | `(tactic| walk_at "eval Name") => `(tactic| first | refine nm_gl (by assumption) (by assumption) (by rfl) ?_ | refine nm_bl (by assumption) (by assumption) (by rfl) ?_ | refine ldLoc (by assumption) (by first | assumption | rfl) ?_ | refine ldAny (by assumption) (by first | assumption | rfl) ?_ | refine ldCN (by assumption) (by rfl) (by first | assumption | exact List.mem_cons_of_mem _ (by assumption) | exact List.mem_cons_of_mem _ (List.mem_cons_of_mem _ (by assumption)) | exact List.mem_cons_of_mem _ (List.mem_cons_of_mem _ (List.mem_cons_of_mem _ (by assumption)))) (by assumption) ?_)
local macro_rules | `(tactic| walk_at "storeName") => `(tactic| first | (refine stLocN (by assumption) (by assumption) (fun _ _ _ => ?_)) | (refine stAny (by assumption) (by assumption) (fun _ _ _ => ?_)))
section XnLaw4Text
open PySem PySem.W PySem.W.X PyProof.Rows
set_option maxRecDepth 100000
set_option maxHeartbeats 4000000
set_option linter.all false
section
variable {w : World} {A : Around} {E : Value → Shared → Prop} {s : Shared}
/-- a piece of the swept nest: its text, its bytes -/
abbrev Pc := Bool × Nat
noncomputable def txt (p : Pc) : Str × Str := if p.1 then (⟨#[40]⟩, ⟨#[34, p.2, 41, 34]⟩) else (⟨#[41]⟩, ⟨#[34, 92, 34, p.2, 40, 34]⟩)
noncomputable def byt (p : Pc) : Bool × List UInt8 := if p.1 then opB p.2 else clB p.2
noncomputable def codesOf (p : Pc) : List Nat := if p.1 then [40, 34, p.2, 41, 34] else [41, 34, 92, 34, p.2, 40, 34]
theorem txt_codes (p : Pc) : (txt p).1 ++ (txt p).2 = ⟨(codesOf p).toArray⟩ := by
  obtain ⟨b, c⟩ := p; cases b <;> rfl
theorem txt_len (p : Pc) : (txt p).1.length + (txt p).2.length ≤ 7 := by
  obtain ⟨b, c⟩ := p; cases b <;> exact Nat.le_of_ble_eq_true rfl
theorem utf_codes (p : Pc) : utf (codesOf p) = stB (byt p) := by
  obtain ⟨b, c⟩ := p
  cases b
  · show utf [41, 34, 92, 34, c, 40, 34] = _; rw [utf_cl, flat_one]; rfl
  · show utf [40, 34, c, 41, 34] = _; rw [utf_op, flat_one]; rfl
structure Good (p : Pc) : Prop where
  sur : Str.isSurrogate p.2 = false
  inB : InB (byt p)
theorem Good.codes {p : Pc} (h : Good p) : ∀ c ∈ codesOf p, Str.isSurrogate c = false := by
  obtain ⟨b, c⟩ := p
  have := h.sur
  intro x hx
  cases b <;> simp only [codesOf, if_true, Bool.false_eq_true, if_false, List.mem_cons, List.not_mem_nil, or_false] at hx
  · rcases hx with rfl | rfl | rfl | rfl | rfl | rfl | rfl <;> first | rfl | exact this
  · rcases hx with rfl | rfl | rfl | rfl | rfl <;> first | rfl | exact this
theorem codes_len (p : Pc) : 2 ≤ (codesOf p).length := by
  obtain ⟨b, c⟩ := p; cases b <;> simp [codesOf]
theorem utf8_len (c : Nat) : (Str.utf8Of c).length ≤ 4 := by unfold Str.utf8Of; split <;> (try split) <;> (try split) <;> simp
theorem stB_len (p : Pc) : (stB (byt p)).length ≤ 12 := by
  obtain ⟨b, c⟩ := p
  have := utf8_len c
  cases b <;> simp [stB, byt, opB, clB] <;> omega
noncomputable def byVals (z : List Pc) (tk : List Tok) : List Value := (z.zip tk).map fun p => .bytes (stB (byt p.1)).toArray p.2
theorem byVals_snoc {z : List Pc} {tk : List Tok} {p : Pc} {t : Tok} (h : tk.length = z.length) : byVals z tk ++ [.bytes (stB (byt p)).toArray t] = byVals (z ++ [p]) (tk ++ [t]) := by
  unfold byVals
  rw [List.zip_append h.symm, List.map_append]
  rfl
theorem flat_upto (ps : Nat → List Pc) (i : Nat) : (List.range (i + 1)).flatMap ps = (List.range i).flatMap ps ++ ps i := by
  rw [List.range_succ, List.flatMap_append]; simp
theorem byVals_len {z : List Pc} {tk : List Tok} (h : tk.length = z.length) : (byVals z tk).length = z.length := by
  unfold byVals; simp [h]
theorem flat_mono (ps : Nat → List Pc) {i n : Nat} (h : i ≤ n) : ((List.range i).flatMap ps).length ≤ ((List.range n).flatMap ps).length := by
  induction n with
  | zero => have : i = 0 := by omega
            subst this; exact Nat.le_refl _
  | succ n ih =>
    by_cases hi : i = n + 1
    · subst hi; exact Nat.le_refl _
    · have := ih (by omega)
      rw [flat_upto, List.length_append]; omega
theorem law4 {h₀ : Heap} {L aR : Addr} {rs : List Addr} {nR : Nat} {m : Str → Option Value} {ps : Nat → List Pc} {Q : Flow → Shared → Prop} (W : Wd w h₀) (hA : Ar A 30) (FF : Fr h₀ L s.heap m)
    (mR : m "rows" = some (.ref aR)) (hR : s.heap.get? aR = some (LO (rs.map Value.ref).toArray nR)) (hrs : rs.length ≤ 100)
    (hrow : ∀ i r, rs[i]? = some r → ∃ ts, RowIs s.heap r ts ((ps i).map txt)) (hgood : ∀ i, ∀ p ∈ ps i, Good p) (hz : ((List.range rs.length).flatMap ps).length ≤ 1000)
    (hQ : ∀ s' m' aS kS tks, Sm s s' → Fr h₀ L s'.heap m' → Keep [L] s.heap s'.heap → s.heap.get? aS = none → s'.heap.get? aS = some (LO (byVals ((List.range rs.length).flatMap ps) tks).toArray kS) → tks.length = ((List.range rs.length).flatMap ps).length →
      (∀ y : Str, y ≠ "steps" → m' y = m y) → m' "steps" = some (.ref aS) → Q .next s') :
    wpAny (model pw w) A (exec (lawS 4) (lawEnv L)) Q (fun _ _ => False) s := by
  unfold lawEnv
  show wpAny _ _ (exec (Stmt.Assign _ (PySem.Expr.ListComp _ [⟨_, _, _, 0⟩, ⟨_, _, _, 0⟩] _ _) _) _) _ _ _
  have hsz : (rs.map Value.ref).toArray.size = rs.length := by simp
  have hit := compIt_list (w := w) hA.handled hR (by rw [hsz]; omega)
  rw [hsz] at hit
  refine list_comp2_as (cl := []) (L := L) (h₀ := h₀) (n := rs.length) (ob := itO aR) (IsVal := fun i v => (rs.map Value.ref).toArray[i]? = some v)
    (fun i acc news => news = [] ∧ ∃ tks, acc = byVals ((List.range i).flatMap ps) tks ∧ tks.length = ((List.range i).flatMap ps).length)
    (by rfl) rfl (by rfl) (by rfl) (by rfl) (by decide) (by rfl) (by decide) (by rfl) (fun _ => by rfl) ⟨rfl, [], rfl, rfl⟩ (fun _ _ => by rfl) ?_
  walk
  refine ⟨hit, ?_, m, FF, fun s' aS acc news k S F K hn hg hnews hP => ?_⟩
  · rintro C i hi s4 m4 acc news v kD D I hv S4 F4 N4 hDI hne ⟨rfl, tks, rfl, htk⟩ mx
    have W4 : Wd w s4.heap := (W.keeps FF.keep).keeps F4.keep
    have hri : rs[i]? = some rs[i] := List.getElem?_eq_getElem hi
    have hv' : v = .ref rs[i] := by
      simp [hi] at hv; exact hv.symm
    subst hv'
    obtain ⟨ts, hr⟩ := hrow i _ hri
    have hr4 := hr.keeps F4.keep
    walk
    refine row_iter W4 hr4.row ?_
    have F5 := F4.push (itO rs[i] 0)
    have N5 := News.push F4 N4 (itO rs[i] 0)
    have hjD : D ≠ s4.heap.objs.size := Nat.ne_of_lt (Heap.lt_size (N4.get List.mem_cons_self))
    have hjI : I ≠ s4.heap.objs.size := Nat.ne_of_lt (Heap.lt_size (N4.get (a := I) (o := itO aR (i + 1)) (by simp)))
    have hlen := hr4.len
    rw [List.length_map] at hlen
    have hbnd : ((List.range (i + 1)).flatMap ps).length ≤ 1000 := Nat.le_trans (flat_mono ps (by omega)) hz
    rw [flat_upto, List.length_append] at hbnd
    refine compStart_any (d := 1) (by rfl) (fun Q hq E => wpAny_pyIter_listiter (i := 0) ⟨_, N5.get List.mem_cons_self, rfl, rfl⟩ hq) ?_
    refine compLast (d := 1) (by rfl) (by rfl) (fun k s' => ∃ j m' tks kD', (j ≤ (ps i).length ∧ k = (ps i).length - j) ∧ Sm s4 s' ∧ Fr s.heap C s'.heap m' ∧
      News s.heap C s'.heap [(s4.heap.objs.size, itO rs[i] j), (D, LO (byVals ((List.range i).flatMap ps ++ (ps i).take j) tks).toArray kD'), (I, itO aR (i + 1))] ∧ tks.length = ((List.range i).flatMap ps ++ (ps i).take j).length) (fun k s' hI => ?_) (ps i).length
      ⟨0, m4, tks, kD, ⟨Nat.zero_le _, rfl⟩, ⟨rfl, rfl, rfl⟩, F5, (by rw [List.take_zero, List.append_nil]; exact N5), by simpa using htk⟩
    obtain ⟨j, m', tks', kD', ⟨hj, rfl⟩, S', F', N', htk'⟩ := hI
    have hr' := hr.keeps F'.keep
    by_cases hlt : j < (ps i).length
    · refine next_list (N'.get List.mem_cons_self) hr'.row.seq (x := .ref ts[j]) (by simp [hlen, hlt]) fun h' hg' hs' => ?_
      have F6 := F'.update N' List.mem_cons_self hs'
      have N6 := newsHead N' (by
        intro p hp
        simp only [List.mem_cons, List.not_mem_nil, or_false] at hp
        rcases hp with rfl | rfl
        · exact hjD
        · exact hjI) hs' hg'
      have hr6 := hr.keeps F6.keep
      dsimp only
      refine wpAny_letOwnedTupleGo_listiter (i := j + 1) ⟨_, N6.get List.mem_cons_self, rfl, rfl⟩ ?_
      obtain ⟨t1, u1, e1⟩ := hr6.tup j (by omega) (by simpa using hlt)
      refine unpackN_ F6 N6 ⟨_, e1, rfl, _, rfl⟩ hA.handled (by rfl) (by rfl) fun h7 F7 N7 => ?_
      clear F5 N5 F4 N4 F' N' F6 N6
      walk
      rename Fr _ _ _ _ => F8
      rename News _ _ _ _ => N8
      clear F7 N7
      refine tests_nil ?_
      rw [if_pos rfl]
      walk
      have hjm : j < ((ps i).map txt).length := by simpa using hlt
      have htl0 : ((ps i).map txt)[j].1.length + ((ps i).map txt)[j].2.length ≤ 7 := by rw [List.getElem_map]; exact txt_len _
      refine PyProof.Rows.add_str (fun t1' k1' => ?_) (by rw [sizeLine_eq]; omega)
      walk
      refine encode_m ?_
      walk
      have hpg := hgood i _ (List.getElem_mem hlt)
      rw [show ((ps i).map txt)[j].1 ++ ((ps i).map txt)[j].2 = ⟨(codesOf (ps i)[j]).toArray⟩ by rw [List.getElem_map]; exact txt_codes _]
      have hsl := stB_len (ps i)[j]
      refine encode_call hpg.codes (codes_len _) (by rw [utf_codes]; omega) fun t9 k9 => ?_
      rw [utf_codes]
      dsimp only
      have htl : ((ps i).take j).length ≤ (ps i).length := by simp; omega
      refine append_l (N8.get (o := LO (byVals ((List.range i).flatMap ps ++ (ps i).take j) tks').toArray kD') (by simp)) (by rw [List.size_toArray, byVals_len htk', List.length_append]; omega) fun h9 n9 hg9 hs9 => ?_
      have N9 := News.setSecond N8 (Ne.symm hjD) (by
        intro p hp
        simp only [List.mem_cons, List.not_mem_nil, or_false] at hp
        subst hp
        exact Ne.symm hDI) hs9 hg9
      rw [List.push_toArray, byVals_snoc htk', List.append_assoc, ← List.take_succ_eq_append_getElem hlt] at N9
      refine ⟨(ps i).length - (j + 1), by omega, j + 1, _, tks' ++ [t9], n9, ⟨by omega, rfl⟩, ⟨S'.gens, S'.drawn, S'.os⟩, F8.update N8 (o := LO (byVals ((List.range i).flatMap ps ++ (ps i).take j) tks').toArray kD') (by simp) hs9, N9, ?_⟩
      rw [List.length_append, htk', List.take_succ_eq_append_getElem hlt]
      simp only [List.length_append, List.length_cons, List.length_nil]
      omega
    · have hje : j = (ps i).length := by omega
      subst hje
      refine next_end hA.handled ⟨_, N'.get List.mem_cons_self, rfl, rfl⟩ hr'.row.seq (by simp [hlen]) fun h' hx' => ?_
      dsimp only
      have hne' : ∀ p ∈ [(D, LO (byVals ((List.range i).flatMap ps ++ (ps i).take (ps i).length) tks').toArray kD'), (I, itO aR (i + 1))], p.1 ≠ s4.heap.objs.size := by
        intro p hp
        simp only [List.mem_cons, List.not_mem_nil, or_false] at hp
        rcases hp with rfl | rfl
        · exact hjD
        · exact hjI
      have N6 := newsEnd N' hne' hx'
      rw [List.take_length, ← flat_upto] at N6 htk'
      exact ⟨⟨S'.gens, S'.drawn, S'.os⟩, m', _, [], kD', frEnd F' N' hx', N6, ⟨rfl, tks', rfl, htk'⟩, by simp⟩
  · obtain ⟨_, tks, rfl, htk⟩ := hP
    exact hQ s' _ aS k tks ⟨S.gens, S.drawn, S.os⟩ F K hn hg htk (fun y hy => if_neg hy) (if_pos rfl)
end
end XnLaw4Text
theorem rstXnLaw7 : True := by
  w_top off
  trivial
section XnLaw7Text
open PySem PySem.W PySem.W.X PyProof.Rows
set_option maxRecDepth 100000
set_option maxHeartbeats 4000000
set_option linter.all false
section
variable {w : World} {A : Around} {E : Value → Shared → Prop} {s : Shared}
noncomputable def areaUp (z : List Pc) : Nat → Int
  | 0 => 0
  | i + 1 => areaUp z i + (if (z.getD i (false, 0)).1 then (ups ((z.take i).map byt) : Int) - (downs ((z.take i).map byt) : Int) else 0)
theorem bounds1 (n : Nat) : sliceBounds none (some 1) none (n + 2) = (0, 1, 1) := by
  have h : max (0 : Int) (min 1 ((n + 2 : Nat) : Int)) = 1 := by omega
  show ((0 : Int), max (0 : Int) (min 1 ((n + 2 : Nat) : Int)), (1 : Int)) = _
  rw [h]
theorem picked1 (x y : UInt8) (r : List UInt8) : KBy.picked (x :: y :: r).toArray none (some 1) = #[x] := by
  unfold KBy.picked
  have e : (x :: y :: r).toArray.size = r.length + 2 := rfl
  rw [e, bounds1]
  show ((sliceRange 0 1 1).filterMap ((x :: y :: r).toArray[·]?)).toArray = _
  rw [show sliceRange 0 1 1 = [0] from rfl]
  rfl
theorem whole1 (x y : UInt8) (r : List UInt8) : KBy.whole (x :: y :: r).toArray none (some 1) = false := by
  unfold KBy.whole
  have e : (x :: y :: r).toArray.size = r.length + 2 := rfl
  rw [e, bounds1]
  have h : ((1 : Int) == ((r.length + 2 : Nat) : Int)) = false := by
    rw [beq_eq_false_iff_ne]; omega
  show ((0 : Int) == 0 && (1 : Int) == 1 && (1 : Int) == ((r.length + 2 : Nat) : Int) && _) = false
  rw [h]; simp
theorem stB_cons (p : Pc) : stB (byt p) = (if p.1 then 40 else 41) :: 34 :: ((byt p).2 ++ [34]) := by
  obtain ⟨b, c⟩ := p
  cases b <;> simp [stB, byt, opB, clB]
theorem bytes_head {value slice : PySem.Expr} {h₀ : Heap} {L : Addr} {m : Str → Option Value} {news : List (Addr × Obj)} {h : Heap} {g : Array GenState} {dr : Drawn} {k0 : Nat} {os : OsState} {x y : UInt8} {r : List UInt8} {t tu : Tok} {Q : Value → Shared → Prop} (F : Fr h₀ L h m) (N : News h₀ L h news)
    (hQ : ∀ h' t' k, Fr h₀ L h' m → News h₀ L h' news → Q (.bytes #[x] t') ⟨h', g, dr, k, os⟩)
    (hs : subscripted slice false (.bytes (x :: y :: r).toArray t) (.ref h.objs.size) = operate [.ref h.objs.size, .bytes (x :: y :: r).toArray t] (getItem (.bytes (x :: y :: r).toArray t) (.ref h.objs.size)) := by with_unfolding_all rfl)
    (ht : ∀ r', letTemporaryGo value (.bytes (x :: y :: r).toArray t) r' = pure () := by intro _; with_unfolding_all rfl) :
    wpAny (model pw w) A (subscriptTail value slice (.bytes (x :: y :: r).toArray t) (.ref h.objs.size)) Q E ⟨h.push { cls := .type "slice", data := .fields #[.none, .int 1 tu, .none] }, g, dr, k0, os⟩ := by
  refine KBy.slice_N (s := ⟨h, g, dr, k0, os⟩) (lo := none) (hi := some 1) F N .none (.int _ _) (whole1 _ _ _) (by rw [picked1]; exact Nat.le_of_ble_eq_true rfl) (fun h1 t1 k1 F1 N1 => ?_) hs ht
  rw [picked1]
  exact hQ _ _ _ F1 N1
noncomputable def stepBody : List Stmt := forBody (stBody (stAt 16)) 7
theorem flat_len (z : List Pc) : (flat (z.map byt)).length ≤ 12 * z.length := by
  induction z with
  | nil => exact Nat.le_refl _
  | cons p r ih =>
    have := stB_len p
    show (stB (byt p) ++ flat (r.map byt)).length ≤ _
    rw [List.length_append, List.length_cons]; omega
theorem area_if {h₀ : Heap} {L : Addr} {m : Str → Option Value} {news : List (Addr × Obj)} {z : List Pc} {i : Nat} {tv ta th : Tok} {Q : Flow → Shared → Prop} (W : Wd w h₀) (hA : Ar A 20) (FF : Fr h₀ L s.heap m) (N : News h₀ L s.heap news)
    (hi : i < z.length) (hz : z.length ≤ 1000) (hg : ∀ p ∈ z, Good p) (ms : m "step" = some (.bytes (stB (byt z[i])).toArray tv)) (ma : m "area" = some (.int (areaUp z i) ta)) (mh : m "ahead" = some (.bytes (flat ((z.take i).map byt)).toArray th))
    (hQ : ∀ s' m' ta, Sm s s' → Fr h₀ L s'.heap m' → News h₀ L s'.heap news → (∀ y : Str, y ≠ "area" → m' y = m y) → m' "area" = some (.int (areaUp z (i + 1)) ta) → Q .next s') :
    wpAny (model pw w) A (exec (stepBody.getD 0 default) (lawEnv L)) Q (fun _ _ => False) s := by
  have hgd : z.getD i (false, 0) = z[i] := by rw [List.getD_eq_getElem?_getD, List.getElem?_eq_getElem hi]; rfl
  unfold lawEnv
  show wpAny _ _ (exec (Stmt.If _ _ _ _) _) _ _ _
  walk
  rw [stB_cons]
  refine bytes_head FF N (fun h1 t1 k1 F1 N1 => ?_)
  clear FF N
  walk
  cases hb : z[i].1
  · rw [if_neg (by decide)]
    walk
    refine hQ _ m ta ⟨rfl, rfl, rfl⟩ F1 N1 (fun _ _ => rfl) ?_
    show _ = some (Value.int (areaUp z i + (if (z.getD i (false, 0)).1 then _ else 0)) ta)
    rw [hgd, hb, ma]; simp
  · rw [if_pos (by decide)]
    walk
    have hfl := flat_len (z.take i)
    have htl : (z.take i).length ≤ z.length := by simp; omega
    refine paren_depth0 (W.keeps F1.keep) (hA.le (by omega)) (fun p hp => ?_) (by omega) fun s5 t5 S5 => ?_
    · obtain ⟨q, hq, rfl⟩ := List.mem_map.mp hp
      exact (hg q (List.mem_of_mem_take hq)).inB
    have F5 := frKeep F1 S5.keep
    have N5 := newsKeep N1 S5.keep
    clear F1 N1
    walk
    refine hQ _ _ _ ⟨S5.gens, S5.drawn, S5.os⟩ (by assumption) (by assumption) (fun y hy => if_neg hy) ((if_pos rfl).trans (congrArg some (congrArg (fun q => Value.int q _) ?_)))
    show areaUp z i + (0 + (ups _ : Int) - (downs _ : Int)) = areaUp z i + (if (z.getD i (false, 0)).1 then _ else 0)
    rw [hgd, hb, if_pos rfl]; omega
theorem noI_bytes_add : typeLookup (.type "bytes") (dunderI "add") = pure none := by rw [typeLookup_type, builtinLookup_eq_fast]; kernel_rfl
theorem iadd_b {b c : Array UInt8} {t u : Tok} {Q : Value → Shared → Prop} (hsz : b.size + c.size ≤ 16777216) (h : ∀ t' k, Q (.bytes (b ++ c) t') { s with toks := k }) : wpAny (model pw w) A (inplaceOp .Add (.bytes b t) (.bytes c u)) Q E s := by
  refine iconcat_gives (typeIs_bytes s b t) (typeIs_bytes s c u) noI_bytes_add KBy.noFill_bytes_add KBy.seq_bytes_add FB.slot_bytes_add FB.entry_bytes_add (FB.args_bytes_add_2 _ _) (KBy.gives_bytes_add (KBy.tooLong_not hsz)) ?_
  by_cases hb : b.isEmpty = true
  · rw [if_pos hb]
    have e : b = #[] := Array.isEmpty_iff.1 hb
    have h' := h u s.toks
    rw [e, Array.empty_append] at h'
    exact h'
  · rw [if_neg hb]
    by_cases hc : c.isEmpty = true
    · rw [if_pos hc]
      have e : c = #[] := Array.isEmpty_iff.1 hc
      have h' := h t s.toks
      rw [e, Array.append_empty] at h'
      exact h'
    · rw [if_neg hc]
      exact ⟨by rw [Array.size_append, sizeLine_eq]; exact hsz, h s.toks (s.toks + 1)⟩
theorem ahead_add {h₀ : Heap} {L : Addr} {m : Str → Option Value} {news : List (Addr × Obj)} {b c : List UInt8} {tv th : Tok} {Q : Flow → Shared → Prop} (FF : Fr h₀ L s.heap m) (N : News h₀ L s.heap news)
    (hb : b.length + c.length ≤ 100000) (ms : m "step" = some (.bytes c.toArray tv)) (mh : m "ahead" = some (.bytes b.toArray th))
    (hQ : ∀ s' m' th, Sm s s' → Fr h₀ L s'.heap m' → News h₀ L s'.heap news → (∀ y : Str, y ≠ "ahead" → m' y = m y) → m' "ahead" = some (.bytes (b ++ c).toArray th) → Q .next s') :
    wpAny (model pw w) A (exec (stepBody.getD 1 default) (lawEnv L)) Q (fun _ _ => False) s := by
  unfold lawEnv
  show wpAny _ _ (exec (Stmt.AugAssign _ _ _ _) _) _ _ _
  walk
  refine iadd_b (by simp; omega) fun t1 k1 => ?_
  walk
  refine hQ _ _ _ ⟨rfl, rfl, rfl⟩ (by assumption) (by assumption) (fun y hy => if_neg hy) ((if_pos rfl).trans (congrArg some (congrArg (fun q => Value.bytes q t1) ?_)))
  simp
theorem flat_snoc (z : List Pc) {i : Nat} (hi : i < z.length) : flat ((z.take (i + 1)).map byt) = flat ((z.take i).map byt) ++ stB (byt z[i]) := by
  rw [List.take_succ_eq_append_getElem hi, List.map_append]
  simp [flat]
theorem byVals_at {z : List Pc} {tk : List Tok} (h : tk.length = z.length) {i : Nat} (hi : i < z.length) : ∃ t, (byVals z tk).toArray[i]? = some (.bytes (stB (byt z[i])).toArray t) := by
  refine ⟨tk[i], ?_⟩
  unfold byVals
  simp [hi, h]
theorem law7 {h₀ : Heap} {L aS : Addr} {kS : Nat} {m : Str → Option Value} {z : List Pc} {tks : List Tok} {ta th : Tok} {Q : Flow → Shared → Prop} (W : Wd w h₀) (hA : Ar A 30) (FF : Fr h₀ L s.heap m)
    (mS : m "steps" = some (.ref aS)) (hS : s.heap.get? aS = some (LO (byVals z tks).toArray kS)) (hS0 : h₀.get? aS = none) (hSL : aS ≠ L) (htk : tks.length = z.length) (hz : z.length ≤ 1000) (hg : ∀ p ∈ z, Good p)
    (ma : m "area" = some (.int 0 ta)) (mh : m "ahead" = some (.bytes #[] th))
    (hQ : ∀ s' m' ta, Sm s s' → Fr h₀ L s'.heap m' → Keep [L] s.heap s'.heap → (∀ y : Str, y ≠ "area" → y ≠ "ahead" → y ≠ "step" → m' y = m y) → m' "area" = some (.int (areaUp z z.length) ta) → Q .next s') :
    wpAny (model pw w) A (exec (lawS 7) (lawEnv L)) Q (fun _ _ => False) s := by
  obtain ⟨rest, S0, N⟩ := snap FF []
  have mmS : (aS, LO (byVals z tks).toArray kS) ∈ rest := S0.all _ _ hSL (by simp) hS0 hS
  show wpAny _ _ (exec (Stmt.For _ _ _ _ _) _) _ _ _
  refine wpAny_For ?_
  refine ldLoc (name := stName (stAt 16)) (scope := stScope (stAt 16)) (L := L) (a := 218) (cd := .ref 217) FF mS ?_
  refine wpAny_pyIter_list ⟨_, N.get mmS, rfl, _, rfl⟩ ?_
  have F0 := FF.push (itO aS 0)
  have N0 := News.push FF N (itO aS 0)
  have hIne : ∀ p ∈ rest, p.1 ≠ s.heap.objs.size := fun p hp => Nat.ne_of_lt (Heap.lt_size (N p hp).1)
  refine for_iter (ob := itO aS) (IsVal := fun i v => (byVals z tks).toArray[i]? = some v) (n := z.length)
    (fun i m' nw => nw = rest ∧ (∀ y : Str, y ≠ "area" → y ≠ "ahead" → y ≠ "step" → m' y = m y) ∧ (∃ t, m' "area" = some (.int (areaUp z i) t)) ∧ (∃ t, m' "ahead" = some (.bytes (flat ((z.take i).map byt)).toArray t))) (fun _ _ => False) rfl (by rfl) (by rfl)
    ?_ ?_ ?_ ?_ ?_ F0 N0 ?_ ?_ ?_
  · rintro i m' nw v ⟨h1, h2, h3, h4⟩
    exact ⟨h1, fun y a b c => (if_neg c).trans (h2 y a b c), h3, h4⟩
  · rintro i m' nw ⟨rfl, _⟩ p hp
    exact hIne p hp
  · rintro i hi s' m' nw Q' E' F' N' ⟨rfl, _⟩ hQ'
    obtain ⟨t, ht⟩ := byVals_at htk hi
    exact next_list (N'.get List.mem_cons_self) ⟨_, _, N'.get (List.mem_cons_of_mem _ mmS), rfl⟩ ht fun h' hg hs => hQ' h' _ _ ht hg hs
  · rintro s' m' nw Q' E' F' N' ⟨rfl, _⟩ hQ'
    exact next_end hA.handled ⟨_, N'.get List.mem_cons_self, rfl, rfl⟩ ⟨_, _, N'.get (List.mem_cons_of_mem _ mmS), rfl⟩ (by simp [byVals_len htk]) hQ'
  · rintro i hi s' m' nw v hv F' N' ⟨rfl, em, ⟨ta', ma'⟩, ⟨th', mh'⟩⟩ mx
    obtain ⟨tv, htv⟩ := byVals_at htk hi
    rw [htv] at hv
    cases hv
    show wpAny _ _ (execs [stepBody.getD 0 default, stepBody.getD 1 default] (lawEnv L)) _ _ _
    refine wpAny_execs_cons (area_if W (hA.le (by omega)) F' N' hi hz hg mx ma' mh' fun s1 m1 t1 S1 F1 N1 e1 d1 => ?_)
    have hfl := flat_len (z.take i)
    have htl : (z.take i).length ≤ z.length := by simp; omega
    have hsl := stB_len z[i]
    refine wpAny_execs_cons (ahead_add F1 N1 (by omega) ((e1 _ (by decide)).trans mx) ((e1 _ (by decide)).trans mh') fun s2 m2 t2 S2 F2 N2 e2 d2 => ?_)
    refine wpAny_execs_nil ⟨S1.trans S2, m2, _, F2, N2, rfl, fun y a b c => (e2 y b).trans ((e1 y a).trans (em y a b c)), ⟨_, (e2 _ (by decide)).trans d1⟩, ⟨t2, d2.trans (congrArg some (congrArg (fun q : List UInt8 => Value.bytes q.toArray t2) (flat_snoc z hi).symm))⟩⟩
  · exact ⟨rfl, fun _ _ _ _ => rfl, ⟨ta, ma⟩, ⟨th, mh⟩⟩
  · exact fun _ _ _ _ _ _ h => h.elim
  · rintro s' m' nw S' F' N' ⟨rfl, em, ⟨ta', ma'⟩, _⟩
    exact hQ _ m' ta' ⟨S'.gens, S'.drawn, S'.os⟩ F' (S0.at F' N' fun p hp => hp) em ma'
end
end XnLaw7Text
theorem rstXnLaw9 : True := by
  w_top off
  trivial
section XnLaw9Text
open PySem PySem.W PySem.W.X PyProof.Rows
set_option maxRecDepth 100000
set_option maxHeartbeats 4000000
set_option linter.all false
section
variable {w : World} {A : Around} {E : Value → Shared → Prop} {s : Shared}
/-- the number of closings among the first i -/
noncomputable def clos (z : List Pc) (i : Nat) : Nat := ((z.take i).filter fun p => !p.1).length
/-- how far the front reaches: to the first place at which there are more than t closings -/
structure Reach (z : List Pc) (t i : Nat) : Prop where
  le : i ≤ z.length
  few : ∀ j, j < i → clos z (j + 1) ≤ t
  stop : i < z.length → t < clos z (i + 1)
noncomputable def touchBody : List Stmt := forBody (stBody (stAt 16)) 9
noncomputable def frontBody : List Stmt := forBody touchBody 2
/-- one step of the front: goes on or breaks -/
theorem front_if {h₀ : Heap} {L : Addr} {m : Str → Option Value} {news : List (Addr × Obj)} {z : List Pc} {i : Nat} {tv tc : Tok} {Q : Flow → Shared → Prop} (FF : Fr h₀ L s.heap m) (N : News h₀ L s.heap news)
    (hi : i < z.length) (ms : m "step" = some (.bytes (stB (byt z[i])).toArray tv)) (mc : m "closings" = some (.int (clos z i : Nat) tc))
    (hQ : ∀ s' m' tc, Sm s s' → Fr h₀ L s'.heap m' → News h₀ L s'.heap news → (∀ y : Str, y ≠ "closings" → m' y = m y) → m' "closings" = some (.int (clos z (i + 1) : Nat) tc) → Q .next s') :
    wpAny (model pw w) A (exec (frontBody.getD 0 default) (lawEnv L)) Q (fun _ _ => False) s := by
  have hcl : clos z (i + 1) = clos z i + (if z[i].1 then 0 else 1) := by
    unfold clos
    rw [List.take_succ_eq_append_getElem hi, List.filter_append, List.length_append]
    cases hb : z[i].1 <;> simp [hb, List.filter_cons]
  unfold lawEnv
  show wpAny _ _ (exec (Stmt.If _ _ _ _) _) _ _ _
  walk
  rw [stB_cons]
  refine bytes_head FF N (fun h1 t1 k1 F1 N1 => ?_)
  clear FF N
  walk
  cases hb : z[i].1
  · rw [if_pos (by decide)]
    walk
    rw [hb] at hcl
    refine hQ _ _ _ ⟨rfl, rfl, rfl⟩ (by assumption) (by assumption) (fun y hy => if_neg hy) ((if_pos rfl).trans (congrArg some (congrArg (fun q => Value.int q _) ?_)))
    rw [hcl]; simp
  · rw [if_neg (by decide)]
    walk
    rw [hb] at hcl
    refine hQ _ m tc ⟨rfl, rfl, rfl⟩ F1 N1 (fun _ _ => rfl) ?_
    rw [mc, hcl]; simp
theorem front_brk {h₀ : Heap} {L aT : Addr} {kT : Nat} {m : Str → Option Value} {news : List (Addr × Obj)} {ts : List (Int × Tok)} {T : List Nat} {c t : Nat} {tc : Tok} {Q : Flow → Shared → Prop} (hA : Ar A 10) (FF : Fr h₀ L s.heap m) (N : News h₀ L s.heap news)
    (mT : m "touches" = some (.ref aT)) (hT : (aT, LO (ts.map iv).toArray kT) ∈ news) (hts : ts.length ≤ 100) (hl : ts.map (·.1) = (T ++ [t]).map Int.ofNat) (mc : m "closings" = some (.int (c : Nat) tc))
    (hQ : ∀ s', Sm s s' → Fr h₀ L s'.heap m → News h₀ L s'.heap news → Q (if t < c then .brk else .next) s') :
    wpAny (model pw w) A (exec (frontBody.getD 1 default) (lawEnv L)) Q (fun _ _ => False) s := by
  unfold lawEnv
  show wpAny _ _ (exec (Stmt.If _ _ _ _) _) _ _ _
  walk
  have hi := ints_are ts
  rw [hl] at hi
  have htl : ts.length = T.length + 1 := by have := congrArg List.length hl; simpa using this
  refine item_list_ints_neg ⟨_, N.get hT, rfl, _, rfl⟩ hi (by decide) (by simp; omega) (by decide) (fun t1 => ?_)
  have hg : ((T ++ [t]).map Int.ofNat).getD (-1 + (((T ++ [t]).map Int.ofNat).length : Int)).toNat 0 = (t : Int) := by
    have e : (-1 + (((T ++ [t]).map Int.ofNat).length : Int)).toNat = T.length := by simp; omega
    rw [e, List.getD_eq_getElem?_getD, List.getElem?_map]
    simp
  rw [hg]
  walk
  by_cases hc : t < c
  · rw [if_pos (by simpa using hc)]
    walk
    have := hQ ⟨s.heap, s.gens, s.drawn, s.toks + 1 + 1, s.os⟩ ⟨rfl, rfl, rfl⟩ FF N
    rw [if_pos hc] at this
    exact this
  · rw [if_neg (by simpa using hc)]
    walk
    have := hQ ⟨s.heap, s.gens, s.drawn, s.toks + 1 + 1, s.os⟩ ⟨rfl, rfl, rfl⟩ FF N
    rw [if_neg hc] at this
    exact this
theorem front_add {h₀ : Heap} {L : Addr} {m : Str → Option Value} {news : List (Addr × Obj)} {b c : List UInt8} {tv th : Tok} {Q : Flow → Shared → Prop} (FF : Fr h₀ L s.heap m) (N : News h₀ L s.heap news)
    (hb : b.length + c.length ≤ 100000) (ms : m "step" = some (.bytes c.toArray tv)) (mh : m "front" = some (.bytes b.toArray th))
    (hQ : ∀ s' m' th, Sm s s' → Fr h₀ L s'.heap m' → News h₀ L s'.heap news → (∀ y : Str, y ≠ "front" → m' y = m y) → m' "front" = some (.bytes (b ++ c).toArray th) → Q .next s') :
    wpAny (model pw w) A (exec (frontBody.getD 2 default) (lawEnv L)) Q (fun _ _ => False) s := by
  unfold lawEnv
  show wpAny _ _ (exec (Stmt.AugAssign _ _ _ _) _) _ _ _
  walk
  refine iadd_b (by simp; omega) fun t1 k1 => ?_
  walk
  refine hQ _ _ _ ⟨rfl, rfl, rfl⟩ (by assumption) (by assumption) (fun y hy => if_neg hy) ((if_pos rfl).trans (congrArg some (congrArg (fun q => Value.bytes q t1) ?_)))
  simp
theorem front_loop {h₀ : Heap} {L aS aT : Addr} {kS kT : Nat} {m : Str → Option Value} {news : List (Addr × Obj)} {z : List Pc} {tks : List Tok} {ts : List (Int × Tok)} {T : List Nat} {t : Nat} {tc tf : Tok} {Q : Flow → Shared → Prop} (hA : Ar A 20) (FF : Fr h₀ L s.heap m) (N : News h₀ L s.heap news)
    (mS : m "steps" = some (.ref aS)) (hS : (aS, LO (byVals z tks).toArray kS) ∈ news) (htk : tks.length = z.length) (hz : z.length ≤ 1000)
    (mT : m "touches" = some (.ref aT)) (hT : (aT, LO (ts.map iv).toArray kT) ∈ news) (hts : ts.length ≤ 100) (hl : ts.map (·.1) = (T ++ [t]).map Int.ofNat)
    (mc : m "closings" = some (.int 0 tc)) (mf : m "front" = some (.bytes #[] tf))
    (hQ : ∀ s' m' i tf, Sm s s' → Fr h₀ L s'.heap m' → News h₀ L s'.heap news → (∀ y : Str, y ≠ "closings" → y ≠ "front" → y ≠ "step" → m' y = m y) → Reach z t i → m' "front" = some (.bytes (flat ((z.take i).map byt)).toArray tf) → Q .next s') :
    wpAny (model pw w) A (exec (touchBody.getD 2 default) (lawEnv L)) Q (fun _ _ => False) s := by
  show wpAny _ _ (exec (Stmt.For _ _ _ _ _) _) _ _ _
  refine wpAny_For ?_
  refine ldLoc (name := stName (stAt 16)) (scope := stScope (stAt 16)) (L := L) (a := 218) (cd := .ref 217) FF mS ?_
  refine wpAny_pyIter_list ⟨_, N.get hS, rfl, _, rfl⟩ ?_
  have F0 := FF.push (itO aS 0)
  have N0 := News.push FF N (itO aS 0)
  have hIne : ∀ p ∈ news, p.1 ≠ s.heap.objs.size := fun p hp => Nat.ne_of_lt (Heap.lt_size (N p hp).1)
  refine for_iter (ob := itO aS) (IsVal := fun i v => (byVals z tks).toArray[i]? = some v) (n := z.length)
    (fun i m' nw => nw = news ∧ (∀ y : Str, y ≠ "closings" → y ≠ "front" → y ≠ "step" → m' y = m y) ∧ (∃ t, m' "closings" = some (.int (clos z i : Nat) t)) ∧ (∃ t, m' "front" = some (.bytes (flat ((z.take i).map byt)).toArray t)) ∧ ∀ j, j < i → clos z (j + 1) ≤ t)
    (fun m' nw => (∀ p ∈ news, p ∈ nw) ∧ (∀ y : Str, y ≠ "closings" → y ≠ "front" → y ≠ "step" → m' y = m y) ∧ ∃ i, Reach z t i ∧ ∃ t, m' "front" = some (.bytes (flat ((z.take i).map byt)).toArray t)) rfl (by rfl) (by rfl)
    ?_ ?_ ?_ ?_ ?_ F0 N0 ?_ ?_ ?_
  · rintro i m' nw v ⟨h1, h2, h3, h4, h5⟩
    exact ⟨h1, fun y a b c => (if_neg c).trans (h2 y a b c), h3, h4, h5⟩
  · rintro i m' nw ⟨rfl, _⟩ p hp
    exact hIne p hp
  · rintro i hi s' m' nw Q' E' F' N' ⟨rfl, _⟩ hQ'
    obtain ⟨t, ht⟩ := byVals_at htk hi
    exact next_list (N'.get List.mem_cons_self) ⟨_, _, N'.get (List.mem_cons_of_mem _ hS), rfl⟩ ht fun h' hg hs => hQ' h' _ _ ht hg hs
  · rintro s' m' nw Q' E' F' N' ⟨rfl, _⟩ hQ'
    exact next_end hA.handled ⟨_, N'.get List.mem_cons_self, rfl, rfl⟩ ⟨_, _, N'.get (List.mem_cons_of_mem _ hS), rfl⟩ (by simp [byVals_len htk]) hQ'
  · rintro i hi s' m' nw v hv F' N' ⟨rfl, em, ⟨tc', mc'⟩, ⟨tf', mf'⟩, hno⟩ mx
    obtain ⟨tv, htv⟩ := byVals_at htk hi
    rw [htv] at hv
    cases hv
    show wpAny _ _ (execs [frontBody.getD 0 default, frontBody.getD 1 default, frontBody.getD 2 default] (lawEnv L)) _ _ _
    refine wpAny_execs_cons (front_if F' N' hi mx mc' fun s1 m1 t1 S1 F1 N1 e1 d1 => ?_)
    have mT1 : m1 "touches" = some (.ref aT) := (e1 _ (by decide)).trans ((em _ (by decide) (by decide) (by decide)).trans mT)
    refine wpAny_execs_cons (front_brk (hA.le (by omega)) F1 N1 mT1 (List.mem_cons_of_mem _ hT) hts hl d1 fun s2 S2 F2 N2 => ?_)
    by_cases hc : t < clos z (i + 1)
    · rw [if_pos hc]
      exact ⟨S1.trans S2, m1, _, F2, N2, fun p hp => hp, fun y a b c => (e1 y a).trans (em y a b c), i, ⟨by omega, hno, fun _ => hc⟩, tf', (e1 _ (by decide)).trans mf'⟩
    · rw [if_neg hc]
      have hfl := flat_len (z.take i)
      have htl : (z.take i).length ≤ z.length := by simp; omega
      have hsl := stB_len z[i]
      refine wpAny_execs_cons (front_add F2 N2 (by omega) ((e1 _ (by decide)).trans mx) ((e1 _ (by decide)).trans mf') fun s3 m3 t3 S3 F3 N3 e3 d3 => ?_)
      refine wpAny_execs_nil ⟨S1.trans (S2.trans S3), m3, _, F3, N3, rfl, fun y a b c => (e3 y b).trans ((e1 y a).trans (em y a b c)), ⟨_, (e3 _ (by decide)).trans d1⟩, ⟨t3, d3.trans (congrArg some (congrArg (fun q : List UInt8 => Value.bytes q.toArray t3) (flat_snoc z hi).symm))⟩, fun j hj => ?_⟩
      by_cases hji : j = i
      · subst hji; omega
      · exact hno j (by omega)
  · exact ⟨rfl, fun _ _ _ _ => rfl, ⟨tc, by simpa [clos] using mc⟩, ⟨tf, mf⟩, fun j hj => absurd hj (Nat.not_lt_zero _)⟩
  · rintro s' m' nw S' F' N' ⟨hsub, em, i, hR, tf', mf'⟩
    exact hQ s' m' i tf' ⟨S'.gens, S'.drawn, S'.os⟩ F' (newsSub N' hsub) em hR mf'
  · rintro s' m' nw S' F' N' ⟨rfl, em, _, ⟨tf', mf'⟩, hno⟩
    exact hQ s' m' z.length tf' ⟨S'.gens, S'.drawn, S'.os⟩ F' N' em ⟨Nat.le_refl _, hno, fun h => absurd h (Nat.lt_irrefl _)⟩ mf'
end
end XnLaw9Text
theorem rstXnLaw10 : True := by
  w_top off
  trivial
section XnLaw10Text
open PySem PySem.W PySem.W.X PyProof.Rows
set_option maxRecDepth 100000
set_option maxHeartbeats 4000000
set_option linter.all false
section
variable {w : World} {A : Around} {E : Value → Shared → Prop} {s : Shared}
theorem touch_app {h₀ : Heap} {L aT : Addr} {kT : Nat} {m : Str → Option Value} {rest : List (Addr × Obj)} {z : List Pc} {ts : List (Int × Tok)} {T : List Nat} {t u i : Nat} {tf : Tok} {Q : Flow → Shared → Prop} (W : Wd w h₀) (hA : Ar A 20) (FF : Fr h₀ L s.heap m) (N : News h₀ L s.heap ((aT, LO (ts.map iv).toArray kT) :: rest))
    (hne : ∀ p ∈ rest, p.1 ≠ aT) (hz : z.length ≤ 1000) (hg : ∀ p ∈ z, Good p)
    (mT : m "touches" = some (.ref aT)) (hts : ts.length ≤ 100) (hl : ts.map (·.1) = (T ++ [t]).map Int.ofNat) (mf : m "front" = some (.bytes (flat ((z.take i).map byt)).toArray tf))
    (hu : (t : Int) + (ups ((z.take i).map byt) : Int) - (downs ((z.take i).map byt) : Int) = (u : Int))
    (hQ : ∀ s' tu k', Sm s s' → Fr h₀ L s'.heap m → News h₀ L s'.heap ((aT, LO ((ts ++ [((u : Int), tu)]).map iv).toArray k') :: rest) → Q .next s') :
    wpAny (model pw w) A (exec (touchBody.getD 3 default) (lawEnv L)) Q (fun _ _ => False) s := by
  have hi := ints_are ts
  rw [hl] at hi
  have htl : ts.length = T.length + 1 := by have := congrArg List.length hl; simpa using this
  unfold lawEnv
  show wpAny _ _ (exec (Stmt.Expr _ _) _) _ _ _
  walk
  case' refine'_3 =>
    have hgt : ((T ++ [t]).map Int.ofNat).getD (-1 + (((T ++ [t]).map Int.ofNat).length : Int)).toNat 0 = (t : Int) := by
      have e : (-1 + (((T ++ [t]).map Int.ofNat).length : Int)).toNat = T.length := by simp; omega
      rw [e, List.getD_eq_getElem?_getD, List.getElem?_map]
      simp
    rw [hgt]
    have hfl := flat_len (z.take i)
    have htl : (z.take i).length ≤ z.length := by simp; omega
    refine paren_depth (W.keeps FF.keep) (hA.le (by omega)) (fun p hp => ?_) (by omega) fun s5 t5 S5 => ?_
    · obtain ⟨q, hq, rfl⟩ := List.mem_map.mp hp
      exact (hg q (List.mem_of_mem_take hq)).inB
    rw [hu]
    have F5 := frKeep FF S5.keep
    have N5 := newsKeep N S5.keep
    clear FF N
    walk
    refine append_l (N5.get List.mem_cons_self) (by simp; omega) fun h6 n6 hg6 hs6 => ?_
    have N6 := News.setHead N5 hne hs6 hg6
    have F6 := F5.update N5 List.mem_cons_self hs6
    rw [List.push_toArray, show List.map iv ts ++ [Value.int (u : Int) t5] = List.map iv (ts ++ [((u : Int), t5)]) by simp [iv]] at N6
    exact hQ ⟨h6, s5.gens, s5.drawn, s5.toks, s5.os⟩ t5 n6 ⟨S5.gens, S5.drawn, S5.os⟩ F6 N6
theorem set_front {h₀ : Heap} {L : Addr} {m : Str → Option Value} {news : List (Addr × Obj)} {Q : Flow → Shared → Prop} (FF : Fr h₀ L s.heap m) (N : News h₀ L s.heap news)
    (hQ : ∀ s' m' th, Sm s s' → Fr h₀ L s'.heap m' → News h₀ L s'.heap news → (∀ y : Str, y ≠ "front" → m' y = m y) → m' "front" = some (.bytes #[] th) → Q .next s') :
    wpAny (model pw w) A (exec (touchBody.getD 0 default) (lawEnv L)) Q (fun _ _ => False) s := by
  unfold lawEnv
  show wpAny _ _ (exec (Stmt.Assign _ _ _) _) _ _ _
  walk
  exact hQ _ _ _ ⟨rfl, rfl, rfl⟩ (by assumption) (by assumption) (fun y hy => if_neg hy) (if_pos rfl)
theorem set_clos {h₀ : Heap} {L : Addr} {m : Str → Option Value} {news : List (Addr × Obj)} {Q : Flow → Shared → Prop} (FF : Fr h₀ L s.heap m) (N : News h₀ L s.heap news)
    (hQ : ∀ s' m' th, Sm s s' → Fr h₀ L s'.heap m' → News h₀ L s'.heap news → (∀ y : Str, y ≠ "closings" → m' y = m y) → m' "closings" = some (.int 0 th) → Q .next s') :
    wpAny (model pw w) A (exec (touchBody.getD 1 default) (lawEnv L)) Q (fun _ _ => False) s := by
  unfold lawEnv
  show wpAny _ _ (exec (Stmt.Assign _ _ _) _) _ _ _
  walk
  exact hQ _ _ _ ⟨rfl, rfl, rfl⟩ (by assumption) (by assumption) (fun y hy => if_neg hy) (if_pos rfl)
theorem law9 {h₀ : Heap} {L aR aS aT : Addr} {rs : List Addr} {nR kS kT : Nat} {m : Str → Option Value} {z : List Pc} {tks : List Tok} {t0 : Tok} {tt : Nat → Nat} {Q : Flow → Shared → Prop} (W : Wd w h₀) (hA : Ar A 30) (FF : Fr h₀ L s.heap m)
    (mR : m "rows" = some (.ref aR)) (hR : s.heap.get? aR = some (LO (rs.map Value.ref).toArray nR)) (hR0 : h₀.get? aR = none) (hRL : aR ≠ L) (hrs : rs.length ≤ 90) (hrp : 0 < rs.length)
    (mS : m "steps" = some (.ref aS)) (hS : s.heap.get? aS = some (LO (byVals z tks).toArray kS)) (hS0 : h₀.get? aS = none) (hSL : aS ≠ L) (hST : aS ≠ aT) (htk : tks.length = z.length) (hz : z.length ≤ 1000) (hg : ∀ p ∈ z, Good p)
    (mT : m "touches" = some (.ref aT)) (hT : s.heap.get? aT = some (LO #[.int 0 t0] kT)) (hT0 : h₀.get? aT = none) (hTL : aT ≠ L) (ht0 : tt 0 = 0)
    (htt : ∀ k, k + 1 < rs.length → ∀ i, Reach z (tt k) i → (tt k : Int) + (ups ((z.take i).map byt) : Int) - (downs ((z.take i).map byt) : Int) = (tt (k + 1) : Int))
    (hQ : ∀ s' m' (ts : List (Int × Tok)) k', Sm s s' → Fr h₀ L s'.heap m' → Keep [L, aT] s.heap s'.heap → (∀ y : Str, y ≠ "row" → y ≠ "front" → y ≠ "closings" → y ≠ "step" → m' y = m y) → s'.heap.get? aT = some (LO (ts.map iv).toArray k') → ts.map (·.1) = ((List.range rs.length).map tt).map Int.ofNat → Q .next s') :
    wpAny (model pw w) A (exec (lawS 9) (lawEnv L)) Q (fun _ _ => False) s := by
  obtain ⟨rest, S0, N⟩ := snap FF [aT]
  have mmS : (aS, LO (byVals z tks).toArray kS) ∈ rest := S0.all _ _ hSL (by simpa using hST) hS0 hS
  have mmR : s.heap.IsList aR (rs.map Value.ref).toArray := ⟨_, hR, rfl, _, rfl⟩
  unfold lawEnv
  show wpAny _ _ (exec (Stmt.For _ _ _ _ _) _) _ _ _
  walk
  refine tail_any (T := "list") ⟨_, Heap.get?_push_of_some _ hR, rfl⟩ slot_list_getitem.lookup (wpAny_getItem_list_slice (lo := some 1) (hi := none) (st := none) ⟨_, Heap.get?_push_of_some _ hR, rfl, _, rfl⟩ (Heap.IsSliceOf.new _ _ _ _) (.int _ _) .none .none (by simp) ?_ (by rw [sizeLine_eq]; simp; omega)) (by with_unfolding_all rfl)
  have hpick : slicePick (rs.map Value.ref).toArray (some 1) none none = ((rs.drop 1).map Value.ref).toArray := by
    rw [show (some (1 : Int)) = some ((1 : Nat) : Int) from rfl, slicePick_from' _ 1]
    simp [List.map_drop]
  rw [hpick]
  have F1 := (FF.push { cls := .type "slice", data := .fields #[.int 1 s.toks, .none, .none] }).push (LO ((rs.drop 1).map Value.ref).toArray 0)
  have mmT : News h₀ L s.heap ((aT, LO #[.int 0 t0] kT) :: rest) := fun p hp => by
    rcases List.mem_cons.mp hp with rfl | hp
    · exact ⟨hT, hTL, hT0⟩
    · exact N p hp
  have N1 := News.push (FF.push { cls := .type "slice", data := .fields #[.int 1 s.toks, .none, .none] }) (News.pushKeep mmT { cls := .type "slice", data := .fields #[.int 1 s.toks, .none, .none] }) (LO ((rs.drop 1).map Value.ref).toArray 0)
  generalize hh1 : s.heap.push { cls := .type "slice", data := .fields #[.int 1 s.toks, .none, .none] } = h1 at F1 N1 ⊢
  have hkeep1 : ∀ b o, s.heap.get? b = some o → h1.get? b = some o := fun b o e => hh1 ▸ Heap.get?_push_of_some _ e
  dsimp only
  refine wpAny_pyIter_list ⟨_, N1.get List.mem_cons_self, rfl, _, rfl⟩ ?_
  have F2 := F1.push (itO h1.objs.size 0)
  have N2 := News.push F1 N1 (itO h1.objs.size 0)
  have hWT : aT ≠ h1.objs.size := Nat.ne_of_lt (Heap.lt_size (hkeep1 _ _ hT))
  have hIne : ∀ p ∈ (h1.objs.size, LO ((rs.drop 1).map Value.ref).toArray 0) :: (aT, LO #[.int 0 t0] kT) :: rest, p.1 ≠ (h1.push (LO ((rs.drop 1).map Value.ref).toArray 0)).objs.size := fun p hp => Nat.ne_of_lt (Heap.lt_size (N1 p hp).1)
  have hRT : ∀ p ∈ (h1.objs.size, LO ((rs.drop 1).map Value.ref).toArray 0) :: rest, p.1 ≠ aT := fun p hp => by
    rcases List.mem_cons.mp hp with rfl | hp
    · exact Ne.symm hWT
    · exact fun q => S0.apart p hp (by simp [q])
  refine for_iter (ob := itO h1.objs.size) (IsVal := fun i v => ((rs.drop 1).map Value.ref).toArray[i]? = some v) (n := rs.length - 1)
    (fun i m' nw => ∃ (ts : List (Int × Tok)) (k' : Nat), nw = (aT, LO (ts.map iv).toArray k') :: (h1.objs.size, LO ((rs.drop 1).map Value.ref).toArray 0) :: rest ∧ ts.map (·.1) = ((List.range (i + 1)).map tt).map Int.ofNat ∧ (∀ y : Str, y ≠ "row" → y ≠ "front" → y ≠ "closings" → y ≠ "step" → m' y = m y)) (fun _ _ => False) rfl (by rfl) (by rfl)
    ?_ ?_ ?_ ?_ ?_ F2 (newsSub N2 (l' := (_, itO h1.objs.size 0) :: (aT, LO #[.int 0 t0] kT) :: (h1.objs.size, LO ((rs.drop 1).map Value.ref).toArray 0) :: rest) ?_) ?_ ?_ ?_
  · rintro i m' nw v ⟨ts, k', h1, h2, h3⟩
    exact ⟨ts, k', h1, h2, fun y a b c d => (if_neg a).trans (h3 y a b c d)⟩
  · rintro i m' nw ⟨ts, k', rfl, _⟩ p hp
    rcases List.mem_cons.mp hp with rfl | hp
    · exact hIne (aT, LO #[.int 0 t0] kT) (by simp)
    · refine hIne p ?_
      rcases List.mem_cons.mp hp with rfl | hp
      · simp
      · simp [hp]
  · rintro i hi s' m' nw Q' E' F' N' ⟨ts, k', rfl, _⟩ hQ'
    have hx : ((rs.drop 1).map Value.ref).toArray[i]? = some (.ref (rs[i + 1]'(by omega))) := by
      simp [show i + 1 < rs.length by omega, Nat.add_comm]
    exact next_list (N'.get List.mem_cons_self) ⟨_, _, N'.get (a := h1.objs.size) (o := LO ((rs.drop 1).map Value.ref).toArray 0) (by simp), rfl⟩ hx fun h' hg hs => hQ' h' _ _ hx hg hs
  · rintro s' m' nw Q' E' F' N' ⟨ts, k', rfl, _⟩ hQ'
    exact next_end hA.handled ⟨_, N'.get List.mem_cons_self, rfl, rfl⟩ ⟨_, _, N'.get (a := h1.objs.size) (o := LO ((rs.drop 1).map Value.ref).toArray 0) (by simp), rfl⟩ (by simp) hQ'
  · rintro i hi s' m' nw v hv F' N' ⟨ts, k', rfl, hts, em⟩ mx
    show wpAny _ _ (execs [touchBody.getD 0 default, touchBody.getD 1 default, touchBody.getD 2 default, touchBody.getD 3 default] (lawEnv L)) _ _ _
    have mS' := (em _ (by decide) (by decide) (by decide) (by decide)).trans mS
    have mT' := (em _ (by decide) (by decide) (by decide) (by decide)).trans mT
    have htl : ts.length = i + 1 := by have := congrArg List.length hts; simpa using this
    have hts' : ts.map (·.1) = ((List.range i).map tt ++ [tt i]).map Int.ofNat := by rw [hts, List.range_succ, List.map_append]; rfl
    refine wpAny_execs_cons (set_front F' N' fun s1 m1 t1 S1 F1' N1' e1 d1 => ?_)
    refine wpAny_execs_cons (set_clos F1' N1' fun s2 m2 t2 S2 F2' N2' e2 d2 => ?_)
    refine wpAny_execs_cons (front_loop (kS := kS) (kT := k') (hA.le (by omega)) F2' N2' ((e2 _ (by decide)).trans ((e1 _ (by decide)).trans mS')) (by simp [mmS]) htk hz ((e2 _ (by decide)).trans ((e1 _ (by decide)).trans mT')) (by simp) (by omega) hts' d2 ((e2 _ (by decide)).trans d1) fun s3 m3 j t3 S3 F3' N3' e3 hR d3 => ?_)
    have mT3 : m3 "touches" = some (.ref aT) := (e3 _ (by decide) (by decide) (by decide)).trans ((e2 _ (by decide)).trans ((e1 _ (by decide)).trans mT'))
    refine wpAny_execs_cons (touch_app (kT := k') (rest := ((h1.push (LO ((rs.drop 1).map Value.ref).toArray 0)).objs.size, itO h1.objs.size (i + 1)) :: (h1.objs.size, LO ((rs.drop 1).map Value.ref).toArray 0) :: rest) W (hA.le (by omega)) F3' (newsSub N3' ?_) ?_ hz hg mT3 (by omega) hts' d3 (htt i (by omega) j hR) fun s4 tu k4 S4 F4' N4' => ?_)
    · intro p hp
      simp only [List.mem_cons] at hp ⊢
      rcases hp with h | h | h | h <;> simp [h]
    · intro p hp
      rcases List.mem_cons.mp hp with rfl | hp
      · exact Ne.symm (hIne (aT, LO #[.int 0 t0] kT) (by simp))
      · exact hRT p hp
    refine wpAny_execs_nil ⟨S1.trans (S2.trans (S3.trans S4)), m3, _, F4', newsSub N4' (l' := ((h1.push (LO ((rs.drop 1).map Value.ref).toArray 0)).objs.size, itO h1.objs.size (i + 1)) :: (aT, LO ((ts ++ [((tt (i + 1) : Int), tu)]).map iv).toArray k4) :: (h1.objs.size, LO ((rs.drop 1).map Value.ref).toArray 0) :: rest) ?_, ts ++ [((tt (i + 1) : Int), tu)], k4, rfl, ?_, fun y a b c d => (e3 y c b d).trans ((e2 y c).trans ((e1 y b).trans (em y a b c d)))⟩
    · intro p hp
      simp only [List.mem_cons] at hp ⊢
      rcases hp with h | h | h | h <;> simp [h]
    · rw [List.map_append, hts, List.range_succ (n := i + 1), List.map_append, List.map_append]
      rfl
  · intro p hp
    simp only [List.mem_cons] at hp ⊢
    rcases hp with h | h | h | h <;> simp [h]
  · exact ⟨[(0, t0)], kT, rfl, by simp [ht0], fun _ _ _ _ _ => rfl⟩
  · exact fun _ _ _ _ _ _ h => h.elim
  · rintro s' m' nw S' F' N' ⟨ts, k', rfl, hts, em⟩
    refine hQ _ m' ts k' ⟨S'.gens, S'.drawn, S'.os⟩ F' (S0.at F' N' fun p hp => by simp [hp]) em (N'.get List.mem_cons_self) ?_
    rw [hts, Nat.sub_add_cancel hrp]
end
end XnLaw10Text
theorem rstXnLaw11 : True := by
  w_top off
  trivial
section XnLaw11Text
open PySem PySem.W PySem.W.X PyProof.Rows
set_option maxRecDepth 100000
set_option maxHeartbeats 4000000
set_option linter.all false
section
variable {w : World} {A : Around} {E : Value → Shared → Prop} {s : Shared}
theorem law2 {h₀ : Heap} {L : Addr} {m : Str → Option Value} {Q : Flow → Shared → Prop} (FF : Fr h₀ L s.heap m)
    (hQ : ∀ s' m' t, Sm s s' → Fr h₀ L s'.heap m' → Keep [L] s.heap s'.heap → (∀ y : Str, y ≠ "depth" → m' y = m y) → m' "depth" = some (.int 0 t) → Q .next s') :
    wpAny (model pw w) A (exec (lawS 2) (lawEnv L)) Q (fun _ _ => False) s := by
  obtain ⟨rest, S0, N⟩ := snap FF []
  unfold lawEnv
  show wpAny _ _ (exec (Stmt.Assign _ _ _) _) _ _ _
  walk
  rename Fr _ _ _ _ => F6
  rename News _ _ _ _ => N6
  exact hQ _ _ _ ⟨rfl, rfl, rfl⟩ F6 (S0.at F6 N6 fun p hp => hp) (fun y hy => if_neg hy) (if_pos rfl)
theorem law5 {h₀ : Heap} {L : Addr} {m : Str → Option Value} {Q : Flow → Shared → Prop} (FF : Fr h₀ L s.heap m)
    (hQ : ∀ s' m' t, Sm s s' → Fr h₀ L s'.heap m' → Keep [L] s.heap s'.heap → (∀ y : Str, y ≠ "area" → m' y = m y) → m' "area" = some (.int 0 t) → Q .next s') :
    wpAny (model pw w) A (exec (lawS 5) (lawEnv L)) Q (fun _ _ => False) s := by
  obtain ⟨rest, S0, N⟩ := snap FF []
  unfold lawEnv
  show wpAny _ _ (exec (Stmt.Assign _ _ _) _) _ _ _
  walk
  rename Fr _ _ _ _ => F6
  rename News _ _ _ _ => N6
  exact hQ _ _ _ ⟨rfl, rfl, rfl⟩ F6 (S0.at F6 N6 fun p hp => hp) (fun y hy => if_neg hy) (if_pos rfl)
theorem law6 {h₀ : Heap} {L : Addr} {m : Str → Option Value} {Q : Flow → Shared → Prop} (FF : Fr h₀ L s.heap m)
    (hQ : ∀ s' m' t, Sm s s' → Fr h₀ L s'.heap m' → Keep [L] s.heap s'.heap → (∀ y : Str, y ≠ "ahead" → m' y = m y) → m' "ahead" = some (.bytes #[] t) → Q .next s') :
    wpAny (model pw w) A (exec (lawS 6) (lawEnv L)) Q (fun _ _ => False) s := by
  obtain ⟨rest, S0, N⟩ := snap FF []
  unfold lawEnv
  show wpAny _ _ (exec (Stmt.Assign _ _ _) _) _ _ _
  walk
  rename Fr _ _ _ _ => F6
  rename News _ _ _ _ => N6
  exact hQ _ _ _ ⟨rfl, rfl, rfl⟩ F6 (S0.at F6 N6 fun p hp => hp) (fun y hy => if_neg hy) (if_pos rfl)
theorem law8 {h₀ : Heap} {L : Addr} {m : Str → Option Value} {Q : Flow → Shared → Prop} (FF : Fr h₀ L s.heap m)
    (hQ : ∀ s' m' aT t k, Sm s s' → Fr h₀ L s'.heap m' → Keep [L] s.heap s'.heap → (∀ y : Str, y ≠ "touches" → m' y = m y) → m' "touches" = some (.ref aT) → s.heap.get? aT = none → s'.heap.get? aT = some (LO #[.int 0 t] k) → Q .next s') :
    wpAny (model pw w) A (exec (lawS 8) (lawEnv L)) Q (fun _ _ => False) s := by
  obtain ⟨rest, S0, N⟩ := snap FF []
  have hnew : s.heap.get? s.heap.objs.size = none := by
    cases e : s.heap.get? s.heap.objs.size with
    | none => rfl
    | some o => exact absurd (Heap.lt_size e) (Nat.lt_irrefl _)
  unfold lawEnv
  show wpAny _ _ (exec (Stmt.Assign _ _ _) _) _ _ _
  walk
  rename Fr _ _ _ _ => F6
  rename News _ _ _ _ => N6
  exact hQ _ _ _ _ _ ⟨rfl, rfl, rfl⟩ F6 (S0.at F6 N6 fun p hp => List.mem_cons_of_mem _ hp) (fun y hy => if_neg hy) (if_pos rfl) hnew (N6.get List.mem_cons_self)
theorem law10 {h₀ : Heap} {L aD : Addr} {m : Str → Option Value} {ds : List Nat} {tk : List Tok} {n1 : Nat} {Q : Flow → Shared → Prop} (W : Wd w h₀) (FF : Fr h₀ L s.heap m)
    (hc1 : s.heap.IsCell (L + 1) (some (.ref aD))) (hD : s.heap.get? aD = some (LO (((ds.map Int.ofNat).zip tk).map iv).toArray n1)) (hD0 : h₀.get? aD = none) (hDL : aD ≠ L) (htk : tk.length = ds.length) (h9 : ds.length ≤ 100)
    (hQ : ∀ s' m' t, Sm s s' → Fr h₀ L s'.heap m' → Keep [L] s.heap s'.heap → (∀ y : Str, y ≠ "count" → m' y = m y) → m' "count" = some (.int (ds.length : Nat) t) → Q .next s') :
    wpAny (model pw w) A (exec (lawS 10) (lawEnv L)) Q (fun _ _ => False) s := by
  obtain ⟨rest, S0, N⟩ := snap FF []
  obtain ⟨o1, e1, d1⟩ := hc1
  have m1 : (L + 1, o1) ∈ rest := S0.all _ _ (Nat.succ_ne_self _) (by simp) (Heap.get?_none_of_le (Nat.le_trans FF.above (Nat.le_succ _))) e1
  have mD : (aD, LO (((ds.map Int.ofNat).zip tk).map iv).toArray n1) ∈ rest := S0.all _ _ hDL (by simp) hD0 hD
  have hsz : ((((ds.map Int.ofNat).zip tk).map iv).toArray.size : Int) = ((ds.length : Nat) : Int) := by simp [htk]
  unfold lawEnv
  show wpAny _ _ (exec (Stmt.Assign _ _ _) _) _ _ _
  walk
  refine len_list ⟨_, N.get mD, rfl, _, rfl⟩ (by rw [hsz]; omega) ?_
  rw [hsz]
  walk
  rename Fr _ _ _ _ => F6
  rename News _ _ _ _ => N6
  exact hQ _ _ _ ⟨rfl, rfl, rfl⟩ F6 (S0.at F6 N6 fun p hp => hp) (fun y hy => if_neg hy) (if_pos rfl)
end
end XnLaw11Text
end IXnLaw4
theorem rstXnLaw12 (M : PySem.Model) (A : PySem.Around) (env : PySem.Env) (s : PySem.Shared) : True := by
  first
  | (have h : PySem.wpAny M A (PySem.eval (.Constant .none 0 ⟨0, 0, 0, 0⟩) env) (fun _ _ => True) (fun _ _ => True) s := by (walk1; fail)
     trivial)
  | (w_top off
     trivial)
section PXnLaw12
open PySem PySem.W PySem.W.X PyProof.Rows
set_option maxRecDepth 100000
set_option maxHeartbeats 4000000
set_option linter.all false
theorem ldBase {w : World} {A : Around} {E : Value → Shared → Prop} {s : Shared} {env : Env} {h₀ : Heap} {L c : Addr} {m : Str → Option Value} {x : Str} {pos : Pos} {v : Value} {Q : Value → Shared → Prop} (F : Fr h₀ L s.heap m) (hb : h₀.IsCell c (some v)) (h : Q v s)
    (hc : env.cells.lookup x = some c := by rfl) (hk : env.scope.kind = .function := by rfl) (hl : env.kindOf x = some .cell := by rfl) (hd : (x == ("__debug__" : Str)) = false := by decide) :
    wpAny (model pw w) A (eval (.Name x pos) env) Q E s := wpAny_Name (wpAny_loadName_cell hk hl hc (let ⟨o, e, d⟩ := hb; ⟨o, F.keep _ _ e, d⟩) h) hd
end PXnLaw12
section IXnLaw12
open PySem PySem.W PySem.W.X PyProof.Rows
local macro_rules | `(tactic| walk_at "eval Name") => `(tactic| first | refine nm_gl (by assumption) (by assumption) (by rfl) ?_ | refine nm_bl (by assumption) (by assumption) (by rfl) ?_ | refine ldLoc (by assumption) (by first | assumption | rfl) ?_ | refine ldAny (by assumption) (by first | assumption | rfl) ?_ | refine ldBase (by assumption) (by assumption) ?_ | refine ldCN (by assumption) (by rfl) (by first | assumption | exact List.mem_cons_of_mem _ (by assumption) | exact List.mem_cons_of_mem _ (List.mem_cons_of_mem _ (by assumption)) | exact List.mem_cons_of_mem _ (List.mem_cons_of_mem _ (List.mem_cons_of_mem _ (by assumption)))) (by assumption) ?_)
local macro_rules | `(tactic| walk_at "eval Name") => `(tactic| first | refine ldBase (by assumption) (by assumption) ?_ | refine ldAny (by assumption) (by assumption) ?_ | refine nm_bl (by assumption) (by assumption) (by rfl) ?_)
local macro_rules | `(tactic| walk_at "storeName") => `(tactic| first | (refine stLocN (by assumption) (by assumption) (fun _ _ _ => ?_)) | (refine stAny (by assumption) (by assumption) (fun _ _ _ => ?_)))
section XnLaw12Text
open PySem PySem.W PySem.W.X PyProof.Rows
set_option maxRecDepth 100000
set_option maxHeartbeats 4000000
set_option linter.all false
section
variable {w : World} {A : Around} {E : Value → Shared → Prop} {s : Shared}
/-- the pairs of the law -/
noncomputable def isPair (ds : List Nat) (i j : Nat) : Bool := decide (ds.getD i 0 = ds.getD j 0) || decide (ds.getD i 0 = ds.getD j 0 + 1)
noncomputable def pairsAt (ds : List Nat) (j i : Nat) : Nat := ((List.range i).filter fun i => isPair ds i j).length
noncomputable def pairsUp (ds : List Nat) : Nat → Nat
  | 0 => 0
  | j + 1 => pairsUp ds j + pairsAt ds j j
theorem none_back {h h' : Heap} {a : Addr} (k : ∀ b o, h.get? b = some o → h'.get? b = some o) (hn : h'.get? a = none) : h.get? a = none := by
  cases e : h.get? a with
  | none => rfl
  | some o => rw [k _ _ e] at hn; cases hn
theorem pairsAt_succ (ds : List Nat) (j i : Nat) : pairsAt ds j (i + 1) = pairsAt ds j i + (if isPair ds i j then 1 else 0) := by
  unfold pairsAt
  rw [List.range_succ, List.filter_append, List.length_append]
  cases h : isPair ds i j <;> simp [h]
theorem pairsAt_le (ds : List Nat) (j i : Nat) : pairsAt ds j i ≤ i := by
  unfold pairsAt
  exact Nat.le_trans (List.length_filter_le _ _) (by simp)
theorem pairsUp_le (ds : List Nat) (j : Nat) : pairsUp ds j ≤ j * j := by
  induction j with
  | zero => exact Nat.le_refl _
  | succ j ih =>
    have := pairsAt_le ds j j
    have e : pairsUp ds (j + 1) = pairsUp ds j + pairsAt ds j j := rfl
    have : (j + 1) * (j + 1) = j * j + j + j + 1 := by rw [Nat.add_mul, Nat.mul_add]; omega
    omega
theorem law11 {h₀ : Heap} {L aD : Addr} {m : Str → Option Value} {ds : List Nat} {tk : List Tok} {n1 : Nat} {tc : Tok} {Q : Flow → Shared → Prop} (W : Wd w h₀) (hA : Ar A 30) (FF : Fr h₀ L s.heap m)
    (hc1 : s.heap.IsCell (L + 1) (some (.ref aD))) (hD : s.heap.get? aD = some (LO (((ds.map Int.ofNat).zip tk).map iv).toArray n1)) (hD0 : h₀.get? aD = none) (hDL : aD ≠ L) (htk : tk.length = ds.length) (h9 : ds.length ≤ 20)
    (mc : m "count" = some (.int (ds.length : Nat) tc))
    (hQ : ∀ s' m' aP kP (ps : List Value), Sm s s' → Fr h₀ L s'.heap m' → Keep [L] s.heap s'.heap → (∀ y : Str, y ≠ "pairs" → m' y = m y) → m' "pairs" = some (.ref aP) → s.heap.get? aP = none → s'.heap.get? aP = some (LO ps.toArray kP) → ps.length = pairsUp ds ds.length → Q .next s') :
    wpAny (model pw w) A (exec (lawS 11) (lawEnv L)) Q (fun _ _ => False) s := by
  obtain ⟨rest, S0, N⟩ := snap FF []
  unfold lawEnv
  show wpAny _ _ (exec (Stmt.Assign _ (PySem.Expr.ListComp _ [⟨_, _, _, 0⟩, ⟨_, _, _, 0⟩] _ _) _) _) _ _ _
  refine list_comp2_as (cl := [("depths", L + 1)]) (L := L) (h₀ := h₀) (n := ds.length) (ob := rgO ds.length) (IsVal := fun i v => ∃ t, v = .int (i : Nat) t)
    (fun i acc news => news = [] ∧ acc.length = pairsUp ds i)
    (by rfl) rfl (by rfl) (by rfl) (by rfl) (by decide) (by rfl) (by decide) (by rfl) (fun _ => by rfl) ⟨rfl, rfl⟩ (fun _ _ => by rfl) ?_
  walk
  rename_i h5 tk5 t5 u5 v5 hR5 F5 N5 k5
  have K5 := S0.at F5 N5 fun p hp => hp
  have cB : h5.IsCell (L + 1) (some (.ref aD)) := let ⟨o, e, d⟩ := hc1; ⟨o, K5 _ _ (by simpa using Nat.succ_ne_self L) e, d⟩
  have dB : h5.get? aD = some (LO (((ds.map Int.ofNat).zip tk).map iv).toArray n1) := K5 _ _ (by simpa using hDL) hD
  have hDi := ints_are ((ds.map Int.ofNat).zip tk)
  have hfst : ((ds.map Int.ofNat).zip tk).map (·.1) = ds.map Int.ofNat := List.map_fst_zip (by simp [htk])
  rw [hfst] at hDi
  refine ⟨compIt_range hA.handled (by omega) hR5, ?_, m, F5, fun s' aP acc news k S F K hn hg hnews hP => ?_⟩
  · rintro C j hj s4 m4 acc news v kD D I ⟨tv, rfl⟩ S4 F4 N4 hDI hne ⟨rfl, hacc⟩ mx
    dsimp only at F4 N4
    have W5 : Wd w h5 := W.keeps F5.keep
    clear F5 N5 W
    walk
    rename_i h6 tk6 t6 u6 v6 hR6 F6 N6 k6
    refine range_iter (n := j) (by omega) hR6 ?_
    have F7 := F6.push (rgO j 0)
    have N7 := News.push F6 N6 (rgO j 0)
    refine compStart_any (d := 1) (by rfl) (fun Q hq E => (compIt_range (w := w) (s := ⟨h6, s4.gens, s4.drawn, s4.toks, s4.os⟩) hA.handled (by omega) hR6).self _ _ _ (N7.get List.mem_cons_self) hq) ?_
    have hjD : D ≠ h6.objs.size := Nat.ne_of_lt (Heap.lt_size (N6.get List.mem_cons_self))
    have hjI : I ≠ h6.objs.size := Nat.ne_of_lt (Heap.lt_size (N6.get (a := I) (o := rgO ds.length (j + 1)) (by simp)))
    refine compLast (d := 1) (by rfl) (by rfl) (fun k s' => ∃ i m' acc' kD', (i ≤ j ∧ k = j - i) ∧ Sm s4 s' ∧ Fr h5 C s'.heap m' ∧ m' "j" = some (.int (j : Nat) tv) ∧
      News h5 C s'.heap [(h6.objs.size, rgO j i), (D, LO (List.toArray acc') kD'), (I, rgO ds.length (j + 1))] ∧ acc'.length = pairsUp ds j + pairsAt ds j i) (fun k s' hI => ?_) j
      ⟨0, m4, acc, kD, ⟨Nat.zero_le _, rfl⟩, ⟨rfl, rfl, rfl⟩, F7, mx, N7, by simpa [pairsAt] using hacc⟩
    obtain ⟨i, m', acc', kD', ⟨hi, rfl⟩, S', F', mj', N', hacc'⟩ := hI
    by_cases hlt : i < j
    · refine range_item hlt (N'.get List.mem_cons_self) fun h' k v hv hg' hs' => ?_
      obtain ⟨ti, rfl⟩ := hv
      have F8 := F'.update N' List.mem_cons_self hs'
      have N8 := newsHead N' (by
        intro p hp
        simp only [List.mem_cons, List.not_mem_nil, or_false] at hp
        rcases hp with rfl | rfl
        · exact hjD
        · exact hjI) hs' hg'
      clear F' N' F7 N7 F6 N6
      dsimp only
      refine wpAny_pure ?_
      refine wpAny_assign_Name (stAny F8 N8 fun h9 F9 N9 => ?_)
      clear F8 N8
      obtain ⟨m9, hm9⟩ : ∃ m9, m9 = (fun y => if y = Str.ofString "i" then some (Value.int (i : Nat) ti) else m' y) := ⟨_, rfl⟩
      have mi : m9 "i" = some (.int (i : Nat) ti) := by rw [hm9]; exact if_pos rfl
      have mj : m9 "j" = some (.int (j : Nat) tv) := by rw [hm9]; exact (if_neg (by decide)).trans mj'
      rw [← hm9] at F9
      clear hm9 mj'
      have hDl : ∀ {h : Heap} {m : Str → Option Value}, Fr h5 C h m → h.IsList aD ((((ds.map Int.ofNat).zip tk).map iv)).toArray := fun F => ⟨_, F.keep _ _ dB, rfl, _, rfl⟩
      have hget : ∀ {k : Nat}, k < ds.length → (ds.map Int.ofNat).getD ((k : Nat) : Int).toNat 0 = ((ds.getD k 0 : Nat) : Int) := fun {k} hk => by
        simp [List.getD_eq_getElem?_getD, hk]
      refine tests_one ?_
      walk
      refine item_ints (hDl F9) hDi (by omega) (by simp; omega) (by omega) (fun ta => ?_)
      rw [hget (by omega)]
      walk
      refine item_ints (hDl F9) hDi (by omega) (by simp; omega) (by omega) (fun tb => ?_)
      rw [hget (by omega)]
      walk
      refine item_ints (hDl F9) hDi (by omega) (by simp; omega) (by omega) (fun tc => ?_)
      rw [hget (by omega)]
      walk
      have hb : ([(ds.getD j 0 : Int), (ds.getD j 0 : Int) + 1].any fun x => x == (ds.getD i 0 : Int)) = isPair ds i j := by
        unfold isPair
        rw [List.any_cons, List.any_cons, List.any_nil, Bool.or_false]
        congr 1
        · rw [Bool.eq_iff_iff, beq_iff_eq, decide_eq_true_iff]; omega
        · rw [Bool.eq_iff_iff, beq_iff_eq, decide_eq_true_iff]; omega
      rw [hb]
      have hlen : acc'.length ≤ 1000 := by
        have := pairsAt_le ds j i
        have := pairsUp_le ds j
        have : j * j ≤ 20 * 20 := Nat.mul_le_mul (by omega) (by omega)
        omega
      cases hp : isPair ds i j with
      | false =>
        rw [if_neg Bool.false_ne_true]
        rename Fr _ _ _ _ => F10
        rename News _ _ _ _ => N10
        refine ⟨j - (i + 1), by omega, i + 1, _, acc', kD', ⟨by omega, rfl⟩, ⟨S'.gens, S'.drawn, S'.os⟩, F10, mj, newsSub N10 (fun p hp => List.mem_cons_of_mem _ hp), ?_⟩
        rw [pairsAt_succ, hp, hacc']; simp
      | true =>
        rw [if_pos rfl]
        walk
        rename Fr _ _ _ _ => F10
        rename News _ _ _ _ => N10
        have N11 := newsSub N10 (l' := [(h6.objs.size, rgO j (i + 1)), (D, LO acc'.toArray kD'), (I, rgO ds.length (j + 1))]) (fun p hp => List.mem_cons_of_mem _ (List.mem_cons_of_mem _ hp))
        refine append_l (N11.get (o := LO acc'.toArray kD') (by simp)) (by simp; omega) fun h12 n12 hg12 hs12 => ?_
        have N12 := News.setSecond N11 (Ne.symm hjD) (by
          intro p hp
          simp only [List.mem_cons, List.not_mem_nil, or_false] at hp
          subst hp
          exact Ne.symm hDI) hs12 hg12
        rw [List.push_toArray] at N12
        refine ⟨j - (i + 1), by omega, i + 1, _, _, n12, ⟨by omega, rfl⟩, ⟨S'.gens, S'.drawn, S'.os⟩, F10.update N11 (o := LO acc'.toArray kD') (by simp) hs12, mj, N12, ?_⟩
        rw [pairsAt_succ, hp, List.length_append, hacc']; simp; omega
    · have hje : i = j := by omega
      subst hje
      refine range_done hA.handled (N'.get List.mem_cons_self) fun h' hx' => ?_
      dsimp only
      have hne' : ∀ p ∈ [(D, LO (List.toArray acc') kD'), (I, rgO ds.length (i + 1))], p.1 ≠ h6.objs.size := by
        intro p hp
        simp only [List.mem_cons, List.not_mem_nil, or_false] at hp
        rcases hp with rfl | rfl
        · exact hjD
        · exact hjI
      exact ⟨⟨S'.gens, S'.drawn, S'.os⟩, m', _, [], kD', frEnd F' N' hx', newsEnd N' hne' hx', ⟨rfl, hacc'⟩, by simp⟩
  · exact hQ s' _ aP k acc ⟨S.gens, S.drawn, S.os⟩ F (fun b o hb e => K b o hb (K5 b o hb e)) (fun y hy => if_neg hy) (if_pos rfl) (none_back k5 hn) hg hP.2
end
end XnLaw12Text
end IXnLaw12
end GXnLaw1
theorem rstXnCompC (M : PySem.Model) (A : PySem.Around) (env : PySem.Env) (s : PySem.Shared) : True := by
  first
  | (have h : PySem.wpAny M A (PySem.eval (.Constant .none 0 ⟨0, 0, 0, 0⟩) env) (fun _ _ => True) (fun _ _ => True) s := by (walk1; fail)
     trivial)
  | (w_top off
     trivial)
section XnCompCText
open PySem PySem.W PySem.W.X PyProof.Rows
set_option maxRecDepth 100000
set_option maxHeartbeats 4000000
set_option linter.all false
section
variable {w : World} {A : Around} {E : Value → Shared → Prop} {s : Shared}
noncomputable def cellN : Obj := { cls := .type "cell", data := .cell none }
theorem env_cell1 {scope : Scope} {x : Str} {globals : Addr} {cl : List (Str × Addr)} {qual : Str} {env : Env} {Q : Env → Shared → Prop}
    (hpc : ∀ h, pushCells h scope.names = h.push cellN) (hcf : ∀ n acc, cellsFrom n scope.names acc = (x, n) :: acc)
    (hQ : Q { scope, locals := s.heap.objs.size, globals, cells := (x, s.heap.objs.size + 1) :: cl, qual, func := none, code := env.code, frame := env.frame, builtins := env.builtins } { s with heap := (s.heap.push { cls := .type "dict", data := .dict #[] }).push cellN }) :
    wpAny (model pw w) A (newFunctionEnv scope globals cl [] qual none .none (some env)) Q E s := by
  simp only [newFunctionEnv, Option.isSome_some, if_true]
  refine wpAny_bind (wpAny_alloc ?_)
  refine wpAny_bind (wpAny_layCells _ (fun name kind cells => by cases hkc : kind == NameKind.cell <;> simp [hkc]) _ _ _ _ ?_)
  rw [hpc, hcf]
  rw [List.forIn_nil]
  refine wpAny_bind (wpAny_pure (wpAny_pure ?_))
  rw [show ({ s with heap := s.heap.push { cls := .type "dict", data := .dict #[] } } : Shared).heap.objs.size = s.heap.objs.size + 1 from Heap.size_push ..]
  exact hQ
/-- a list comprehension of one clause whose letter is a cell, its element alone, that a local name takes -/
theorem list_compC_as {h₀ : Heap} {L : Addr} {elt iter : PySem.Expr} {x y : Str} {px py : Pos} {scope : Scope} {pos spos : Pos} {env : Env} {cl : List (Str × Addr)} {n : Nat} {ob : Nat → Obj} {IsVal : Nat → Value → Prop} {Q : Flow → Shared → Prop}
    (P : Nat → List Value → Prop) (hsw : swapsWith (.ListComp elt [⟨.Name x px, iter, [], 0⟩] scope pos) (some (.Name y py)) spos.line env = pure true) (hL : env.locals = L) (hy : env.kindOf y = some .local) (hp : (env.scope.kind == .class || (env.scope.kind == .module && env.locals != env.globals)) = false)
    (hclos : closureFor scope env = pure cl) (hpc : ∀ h, pushCells h scope.names = h.push cellN) (hcf : ∀ n acc, cellsFrom n scope.names acc = (x, n) :: acc) (hkind : scope.kind = .function) (hnames : ∀ x ∈ scope.names, x.2 = .local → scope.names.lookup x.1 = some .local)
    (hxC : ∀ cells C, (compEnvC scope cells C env).kindOf x = some .cell) (hxk : ∀ cells C, (compEnvC scope cells C env).scope.kind = .function)
    (hs : ∀ x, foldedSetIterable iter env x = pure x) (hP0 : P 0 []) (hlenP : ∀ i acc, P i acc → acc.length ≤ i)
    (h : wpAny (model pw w) A (eval iter env) (fun xv s₁ => CompIt w A xv s₁ n ob IsVal ∧
      (∀ C K i, i < n → ∀ (s : Shared) m acc v kD D I oK, IsVal i v → Sm s₁ s → Fr s₁.heap C s.heap m → oK.data = .cell (some v) → News s₁.heap C s.heap [(D, LO acc.toArray kD), (I, ob (i + 1)), (K, oK)] → P i acc →
        wpAny (model pw w) A (eval elt (compEnvC scope ((x, K) :: cl) C env)) (fun y s' => Sm s s' ∧ ∃ m', Fr s₁.heap C s'.heap m' ∧ News s₁.heap C s'.heap [(D, LO acc.toArray kD), (I, ob (i + 1)), (K, oK)] ∧ P (i + 1) (acc ++ [y])) (fun _ _ => False) s) ∧ ∃ m₁, Fr h₀ L s₁.heap m₁ ∧
      (∀ s' D acc k, Sm s₁ s' → Fr h₀ L s'.heap (fun z => if z = y then some (.ref D) else m₁ z) → Keep [L] s₁.heap s'.heap → s₁.heap.get? D = none → s'.heap.get? D = some (LO acc.toArray k) → P n acc → Q .next s')) E s) :
    wpAny (model pw w) A (exec (.Assign [.Name y py] (.ListComp elt [⟨.Name x px, iter, [], 0⟩] scope pos) spos) env) Q E s := by
  subst hL
  rw [exec_Assign_Name_used _ _ _ _ hsw]
  refine wpAny_bind (wpAny_standAt (wpAny_bind ?_))
  show wpAny _ A (do let _ ← comprehension (.ListComp elt [⟨.Name x px, iter, [], 0⟩] scope pos) scope env _ (newList []) false (eval iter env) (some (assign (.Name y py) env))) _ _ s
  refine wpAny_bind (wpAny_mono (wpAny_comprehension_free (use := some (assign (.Name y py) env)) (Q := fun _ s' => Q .next s') rfl hs hclos hkind hnames (wpAny_mono h (fun xv s₁ h₁ => ?_) fun _ _ e => e)) (fun _ s' hq => wpAny_pure (wpAny_pure hq)) fun _ _ e => e)
  obtain ⟨⟨hiter, hself, item, done, hfree, hn⟩, turn, m₁, F₁, hQ⟩ := h₁
  refine hiter _ _ ?_
  refine wpAny_newObj_type (env_cell1 (x := x) hpc hcf ?_)
  simp only [Heap.size_push]
  have nD : ∀ {a : Addr}, s₁.heap.objs.size ≤ a → s₁.heap.get? a = none := fun {a} ha => by
    cases e : s₁.heap.get? a with
    | none => rfl
    | some o => exact absurd (Heap.lt_size e) (Nat.not_lt.mpr ha)
  generalize hz : s₁.heap.objs.size = z at *
  have kI : (s₁.heap.push (ob 0)).get? z = some (ob 0) := Heap.get?_push_at hz.symm (hfree 0)
  have kD : ((s₁.heap.push (ob 0)).push { cls := .type "list", dict := none, data := .seq ([] : List Value).toArray }).get? (z + 1) = some (LO #[] 0) := Heap.get?_push_at (by rw [Heap.size_push, hz]) rfl
  have kC : (((s₁.heap.push (ob 0)).push { cls := .type "list", dict := none, data := .seq ([] : List Value).toArray }).push { cls := .type "dict", data := .dict #[] }).get? (z + 2) = some { cls := .type "dict", data := .dict #[] } := Heap.get?_push_at (by rw [Heap.size_push, Heap.size_push, hz]) rfl
  have kK : ((((s₁.heap.push (ob 0)).push { cls := .type "list", dict := none, data := .seq ([] : List Value).toArray }).push { cls := .type "dict", data := .dict #[] }).push cellN).get? (z + 3) = some cellN := Heap.get?_push_at (by rw [Heap.size_push, Heap.size_push, Heap.size_push, hz]) rfl
  generalize hh1 : ((((s₁.heap.push (ob 0)).push { cls := .type "list", dict := none, data := .seq ([] : List Value).toArray }).push { cls := .type "dict", data := .dict #[] }).push cellN) = h1 at *
  have keep1 : ∀ b o, s₁.heap.get? b = some o → h1.get? b = some o := fun b o e => by rw [← hh1]; exact Heap.get?_push_of_some _ (Heap.get?_push_of_some _ (Heap.get?_push_of_some _ (Heap.get?_push_of_some _ e)))
  have F1 : Fr s₁.heap (z + 2) h1 (fun _ => none) := by
    refine ⟨⟨_, #[], 0, (by rw [← hh1]; exact Heap.get?_push_of_some _ kC), rfl, ?_⟩, keep1, by omega⟩
    exact ⟨fun e he => by simp at he, fun x => rfl⟩
  have N1 : News s₁.heap (z + 2) h1 [(z + 1, LO ([] : List Value).toArray 0), (z, ob 0), (z + 3, cellN)] := by
    intro p hp
    simp only [List.mem_cons, List.not_mem_nil, or_false] at hp
    rcases hp with rfl | rfl | rfl
    · exact ⟨by rw [← hh1]; exact Heap.get?_push_of_some _ (Heap.get?_push_of_some _ kD), by simp, nD (by omega)⟩
    · exact ⟨by rw [← hh1]; exact Heap.get?_push_of_some _ (Heap.get?_push_of_some _ (Heap.get?_push_of_some _ kI)), by simp, nD (Nat.le_refl _)⟩
    · exact ⟨kK, by simp, nD (by omega)⟩
  clear kI kD kC kK
  refine compStart_any (gens := [⟨.Name x px, iter, [], 0⟩]) (d := 0) rfl (fun Q hq E => hself _ _ _ (N1.get (by simp)) hq) ?_
  refine compLast (gens := [⟨.Name x px, iter, [], 0⟩]) (d := 0) (target := .Name x px) (iter := iter) (ifs := []) rfl rfl (fun k s' => ∃ i m acc kk oK, (i ≤ n ∧ k = n - i) ∧ Sm s₁ s' ∧ Fr s₁.heap (z + 2) s'.heap m ∧ (∃ c, oK.data = .cell c) ∧ News s₁.heap (z + 2) s'.heap [(z + 1, LO acc.toArray kk), (z, ob i), (z + 3, oK)] ∧ P i acc)
    (fun k s' hI => ?_) n ⟨0, _, [], 0, cellN, ⟨Nat.zero_le _, rfl⟩, ⟨rfl, rfl, rfl⟩, F1, ⟨_, rfl⟩, N1, hP0⟩
  clear F1 N1
  obtain ⟨i, m, acc, kk, oK, ⟨hi, rfl⟩, S, F', ⟨cK, hoK⟩, N', P'⟩ := hI
  have gI : s'.heap.get? z = some (ob i) := N'.get (by simp)
  by_cases hlt : i < n
  · refine item i hlt s' _ _ (fun b o e => F'.keep b o e) gI fun h' k v hv hg hs => ?_
    have F2 := F'.update N' (a := z) (o := ob i) (by simp) hs
    have N2 : News s₁.heap (z + 2) h' [(z + 1, LO acc.toArray kk), (z, ob (i + 1)), (z + 3, oK)] := News.setSecond N' (by simp) (fun p hp => by
      simp only [List.mem_cons, List.not_mem_nil, or_false] at hp
      subst hp; simp) hs hg
    dsimp only
    refine wpAny_pure ?_
    refine wpAny_assign_Name (wpAny_storeName_cell (c := z + 3) (hxk _ _) (hxC _ _) (by simp [compEnvC]) ⟨_, N2.get (by simp), hoK⟩ (fun h3 hv3 hs3 => ?_))
    obtain ⟨oK3, eK3, dK3⟩ := hv3
    have F3 := F2.update N2 (a := z + 3) (o := oK) (by simp) hs3
    have N3 : News s₁.heap (z + 2) h3 [(z + 1, LO acc.toArray kk), (z, ob (i + 1)), (z + 3, oK3)] := by
      intro p hp
      simp only [List.mem_cons, List.not_mem_nil, or_false] at hp
      rcases hp with rfl | rfl | rfl
      · exact ⟨(hs3.2 _ (by simp)).trans (N2 _ (by simp)).1, by simp, nD (by simp)⟩
      · exact ⟨(hs3.2 _ (by simp)).trans (N2 _ (by simp)).1, by simp, nD (Nat.le_refl _)⟩
      · exact ⟨eK3, by simp, nD (by simp)⟩
    refine tests_nil ?_
    rw [if_pos rfl]
    refine wpAny_mono (turn (z + 2) (z + 3) i hlt ⟨h3, s'.gens, s'.drawn, k, s'.os⟩ _ acc v kk (z + 1) z oK3 hv ⟨S.gens, S.drawn, S.os⟩ F3 dK3 N3 P') (fun y s4 h4 => ?_) fun _ _ h => h
    obtain ⟨S4, m4, F4, N4, P4⟩ := h4
    refine append_l (N4.get List.mem_cons_self) (by have := hlenP _ _ P'; simp; omega) fun h5 n5 hg5 hs5 => ?_
    have N5 := News.setHead N4 (by
      intro p hp
      simp only [List.mem_cons, List.not_mem_nil, or_false] at hp
      rcases hp with rfl | rfl <;> simp) hs5 hg5
    refine ⟨n - (i + 1), by omega, i + 1, m4, acc ++ [y], n5, oK3, ⟨by omega, rfl⟩, ⟨S4.gens.trans S.gens, S4.drawn.trans S.drawn, S4.os.trans S.os⟩, F4.update N4 List.mem_cons_self hs5, ⟨_, dK3⟩, ?_, P4⟩
    rw [List.push_toArray] at N5
    exact N5
  · have hin : i = n := by omega
    subst hin
    refine done s' _ _ (fun b o e => F'.keep b o e) gI fun h' hx' => ?_
    have hgD : h'.get? (z + 1) = some (LO acc.toArray kk) := hx' _ _ (by simp) (N'.get List.mem_cons_self)
    have F2 : Fr s₁.heap (z + 2) h' m := ⟨let ⟨o, es, n, e, q⟩ := F'.ns; ⟨o, es, n, hx' _ _ (by simp) e, q⟩, fun b o e => hx' b o (Nat.ne_of_lt (hz ▸ Heap.lt_size e)) (F'.keep b o e), F'.above⟩
    obtain ⟨oL, esL, epL, eL, rL⟩ := F₁.ns
    have hLC : env.locals ≠ z + 2 := fun q => by rw [q, nD (by omega)] at eL; cases eL
    have hLD : env.locals ≠ z + 1 := fun q => by rw [q, nD (by omega)] at eL; cases eL
    have F₂ : Fr h₀ env.locals h' m₁ := frKeep F₁ fun b o e => F2.keep b o e
    show wpAny _ A (assign (.Name y py) env (.ref (z + 1))) _ _ _
    refine wpAny_assign_Name (wpAny_storeName_local hy F₂.ns (fun h₂ hn₂ hs₂ => ?_) hp)
    have F₃ := F₂.set hn₂ hs₂
    refine ⟨m, F2.ns.sameBut hs₂ (Ne.symm hLC), fun h'' hs'' => hQ _ (z + 1) acc kk ⟨S.gens, S.drawn, S.os⟩ ⟨F₃.ns.sameBut hs'' hLC, fun b o e => (hs''.2 b (fun q => ?_)).trans (F₃.keep b o e), F₃.above⟩ (fun b o hb e => (hs''.2 b (fun q => by rw [q, nD (by omega)] at e; cases e)).trans ((hs₂.2 b (by simpa using hb)).trans (F2.keep b o e))) (nD (by omega)) ((hs''.2 _ (by simp)).trans ((hs₂.2 _ (Ne.symm hLD)).trans hgD)) P'⟩
    rw [q] at e
    have := F₁.keep _ _ e
    rw [nD (by omega)] at this; cases this
end
end XnCompCText
theorem rstXnLaw13 (M : PySem.Model) (A : PySem.Around) (env : PySem.Env) (s : PySem.Shared) : True := by
  first
  | (have h : PySem.wpAny M A (PySem.eval (.Constant .none 0 ⟨0, 0, 0, 0⟩) env) (fun _ _ => True) (fun _ _ => True) s := by (walk1; fail)
     trivial)
  | (w_top off
     trivial)
section GXnLaw13
open PySem PySem.W PySem.W.X PyProof.Rows
local macro_rules | `(tactic| walk_at "eval Name") => `(tactic| first | refine ldBase (by assumption) (by assumption) ?_ | refine ldAny (by assumption) (by assumption) ?_ | refine ldCN (by assumption) (by rfl) (by first | assumption | exact List.mem_cons_of_mem _ (by assumption) | exact List.mem_cons_of_mem _ (List.mem_cons_of_mem _ (by assumption)) | exact List.mem_cons_of_mem _ (List.mem_cons_of_mem _ (List.mem_cons_of_mem _ (by assumption)))) (by assumption) ?_ | refine nm_bl (by assumption) (by assumption) (by rfl) ?_)
local macro_rules | `(tactic| walk_at "callWith ref") => `(tactic| first | refine callR (by assumption) (by kernel_rfl) ?_ | refine callR0 (by assumption) (by assumption) (by kernel_rfl) ?_)
section XnLaw13Text
open PySem PySem.W PySem.W.X PyProof.Rows
set_option maxRecDepth 100000
set_option maxHeartbeats 4000000
set_option linter.all false
section
variable {w : World} {A : Around} {E : Value → Shared → Prop} {s : Shared}
noncomputable def atMost (ds : List Nat) (l : Nat) : Nat := (ds.filter fun d => decide (d ≤ l)).length
theorem none_backL {h₀ h h' : Heap} {L a : Addr} {m : Str → Option Value} (K : Keep [L] h h') (F : Fr h₀ L h' m) (hn : h'.get? a = none) : h.get? a = none := by
  by_cases hL : a = L
  · subst hL
    obtain ⟨o, es, n, e, _⟩ := F.ns
    rw [hn] at e; cases e
  · cases e : h.get? a with
    | none => rfl
    | some o => rw [K a o (by simpa using hL) e] at hn; cases hn
theorem law12 {h₀ : Heap} {L aD : Addr} {m : Str → Option Value} {ds : List Nat} {tk : List Tok} {n1 D : Nat} {Q : Flow → Shared → Prop} (W : Wd w h₀) (hA : Ar A 30) (FF : Fr h₀ L s.heap m)
    (hc1 : s.heap.IsCell (L + 1) (some (.ref aD))) (hD : s.heap.get? aD = some (LO (((ds.map Int.ofNat).zip tk).map iv).toArray n1)) (hD0 : h₀.get? aD = none) (hDL : aD ≠ L) (htk : tk.length = ds.length) (h9 : ds.length ≤ 20)
    (hmem : D ∈ ds) (hmax : ∀ d ∈ ds, d ≤ D) (hD9 : D ≤ 20)
    (hQ : ∀ s' m' aM kM (ts : List (Int × Tok)), Sm s s' → Fr h₀ L s'.heap m' → Keep [L] s.heap s'.heap → (∀ y : Str, y ≠ "at_most" → m' y = m y) → m' "at_most" = some (.ref aM) → s.heap.get? aM = none → s'.heap.get? aM = some (LO (ts.map iv).toArray kM) →
      ts.map (·.1) = (List.range (D + 1)).map (fun l => Int.ofNat (atMost ds l)) → Q .next s') :
    wpAny (model pw w) A (exec (lawS 12) (lawEnv L)) Q (fun _ _ => False) s := by
  obtain ⟨rest, S0, N⟩ := snap FF []
  obtain ⟨o1, e1, d1⟩ := hc1
  have m1 : (L + 1, o1) ∈ rest := S0.all _ _ (Nat.succ_ne_self _) (by simp) (Heap.get?_none_of_le (Nat.le_trans FF.above (Nat.le_succ _))) e1
  have mD : (aD, LO (((ds.map Int.ofNat).zip tk).map iv).toArray n1) ∈ rest := S0.all _ _ hDL (by simp) hD0 hD
  have hDi := ints_are ((ds.map Int.ofNat).zip tk)
  have hfst : ((ds.map Int.ofNat).zip tk).map (·.1) = ds.map Int.ofNat := List.map_fst_zip (by simp [htk])
  rw [hfst] at hDi
  unfold lawEnv
  show wpAny _ _ (exec (Stmt.Assign _ (PySem.Expr.ListComp _ [⟨_, _, _, 0⟩] _ _) _) _) _ _ _
  refine list_compC_as (cl := [("depths", L + 1)]) (L := L) (h₀ := h₀) (n := D + 1) (ob := rgO (D + 1)) (IsVal := fun i v => ∃ t, v = .int (i : Nat) t)
    (fun i acc => ∃ ts : List (Int × Tok), acc = ts.map iv ∧ ts.map (·.1) = (List.range i).map (fun l => Int.ofNat (atMost ds l)))
    (by rfl) rfl (by rfl) (by rfl) (by rfl) (fun _ => by rfl) (fun _ _ => by rfl) (by rfl) (by decide) (fun _ _ => by rfl) (fun _ _ => by rfl) (fun _ => by rfl) ⟨[], rfl, rfl⟩ ?_ ?_
  · rintro i acc ⟨ts, rfl, h⟩
    have := congrArg List.length h
    simp at this ⊢; omega
  walk
  refine max_list_N hA.handled FF N ⟨_, N.get mD, rfl, _, rfl⟩ hDi (by rw [List.length_map]; exact List.length_pos_of_mem hmem) fun h3 M t3 k3 F3 N3 hM hMx => ?_
  have hMD : M = ((D : Nat) : Int) := by
    obtain ⟨d, hd, rfl⟩ := List.mem_map.mp hM
    have h1 := hmax d hd
    have h2 := hMx (Int.ofNat D) (List.mem_map_of_mem hmem)
    simp only [Int.ofNat_eq_natCast] at h2 ⊢
    omega
  subst hMD
  have e2 : ((D : Nat) : Int) + 1 = ((D + 1 : Nat) : Int) := by omega
  walk
  rename_i h5 tk5 t5 u5 v5 hR5 F5 N5 k5
  have K5 := S0.at F5 N5 fun p hp => hp
  have cB : h5.IsCell (L + 1) (some (.ref aD)) := ⟨_, N5.get m1, d1⟩
  have dB : h5.get? aD = some (LO (((ds.map Int.ofNat).zip tk).map iv).toArray n1) := N5.get mD
  refine ⟨compIt_range hA.handled (by omega) (e2 ▸ hR5), ?_, m, F5, fun s' aM acc k S F K hn hg hP => ?_⟩
  · rintro C K i hi s4 m4 acc v kD D' I oK ⟨tv, rfl⟩ S4 F4 dK N4 ⟨ts, rfl, hts⟩
    have W5 : Wd w h5 := W.keeps F5.keep
    have cK : s4.heap.IsCell K (some (.int (i : Nat) tv)) := ⟨_, N4.get (by simp), dK⟩
    have cD : s4.heap.IsCell (L + 1) (some (.ref aD)) := let ⟨o, e, d⟩ := cB; ⟨o, F4.keep _ _ e, d⟩
    have dD : s4.heap.get? aD = some (LO (((ds.map Int.ofNat).zip tk).map iv).toArray n1) := F4.keep _ _ dB
    clear N N5 F5
    walk
    have hsz : (((ds.map Int.ofNat).zip tk).map iv).toArray.size = ds.length := by simp [htk]
    have hit := fun (h : A.handled = none) => compIt_list (w := w) (s := s4) h dD (by rw [hsz]; omega)
    rw [hsz] at hit
    refine list_comp (cl := [("level", K)]) (n := ds.length) (ob := itO aD) (IsVal := fun k v => (((ds.map Int.ofNat).zip tk).map iv).toArray[k]? = some v)
      (fun k acc news => news = [] ∧ acc.length = ((ds.take k).filter fun d => decide (d ≤ i)).length)
      (by rfl) (by decide) (by rfl) (by decide) (by rfl) (fun _ => by rfl) ⟨rfl, rfl⟩ ?_ ?_
    · rintro k acc news ⟨_, h⟩
      rw [h]
      exact Nat.le_trans (List.length_filter_le _ _) (by simp; omega)
    refine ldBase F4 cB ?_
    refine ⟨hit hA.handled, ?_, fun s6 D6 acc6 news6 k6 S6 keep6 hn6 hg6 hnews6 hP6 => ?_⟩
    · rintro C6 k hk s7 m7 acc7 news7 v7 kD7 D7 I7 hv S7 F7 N7 ⟨rfl, hacc7⟩ mx
      have hv' : ∃ t, v7 = .int (ds[k] : Nat) t := by
        have hkt : k < tk.length := by omega
        refine ⟨tk[k], ?_⟩
        have e : ((ds.map Int.ofNat).zip tk)[k]? = some (Int.ofNat ds[k], tk[k]) := by simp [List.getElem?_zip_eq_some, hk, hkt]
        rw [List.getElem?_toArray, List.getElem?_map, e] at hv
        cases hv; rfl
      obtain ⟨t7, rfl⟩ := hv'
      clear F4 N4 cD cB
      refine tests_one ?_
      walk
      by_cases hc : ds[k] ≤ i
      · rw [if_pos (decide_eq_true (by omega))]
        refine ldAny F7 mx ?_
        refine ⟨Sm.refl _, m7, [], F7, N7, ⟨rfl, ?_⟩, by simp⟩
        rw [List.take_succ_eq_append_getElem hk, List.filter_append, List.length_append, List.length_append, hacc7]
        simp [hc]
      · rw [if_neg (fun h => hc (by have := of_decide_eq_true h; omega))]
        refine ⟨Sm.refl _, m7, [], F7, N7, ⟨rfl, ?_⟩, by simp⟩
        rw [List.take_succ_eq_append_getElem hk, List.filter_append, List.length_append, hacc7]
        simp [hc]
    · have F6 := frKeep F4 keep6
      have N6 := newsKeep N4 keep6
      clear F4 N4
      walk
      have hc6 : acc6.length = atMost ds i := by rw [hP6.2, List.take_length]; rfl
      have hc6b : acc6.length ≤ 20 := by rw [hP6.2]; exact Nat.le_trans (List.length_filter_le _ _) (by simp; omega)
      refine len_list ⟨_, hg6, rfl, _, rfl⟩ (by simp; omega) ?_
      refine ⟨⟨S6.gens, S6.drawn, S6.os⟩, _, F6, N6, ts ++ [(Int.ofNat (atMost ds i), s6.toks + 1)], ?_, ?_⟩
      · rw [List.map_append]
        congr 1
        simp [iv, hc6]
      · rw [List.map_append, List.range_succ, List.map_append, hts]; rfl
  · obtain ⟨ts, rfl, hts⟩ := hP
    exact hQ s' _ aM k ts ⟨S.gens, S.drawn, S.os⟩ F (fun b o hb e => K b o hb (K5 b o hb e)) (fun y hy => if_neg hy) (if_pos rfl) (none_backL K5 F5 hn) hg hts
end
end XnLaw13Text
end GXnLaw13
theorem rstXnLaw14 (M : PySem.Model) (A : PySem.Around) (env : PySem.Env) (s : PySem.Shared) : True := by
  first
  | (have h : PySem.wpAny M A (PySem.eval (.Constant .none 0 ⟨0, 0, 0, 0⟩) env) (fun _ _ => True) (fun _ _ => True) s := by (walk1; fail)
     trivial)
  | (w_top off
     trivial)
section GXnLaw14
open PySem PySem.W PySem.W.X PyProof.Rows
local macro_rules | `(tactic| walk_at "eval Name") => `(tactic| first | refine ldAny (by assumption) (by assumption) ?_ | refine nm_bl (by assumption) (by assumption) (by rfl) ?_)
section XnLaw14Text
open PySem PySem.W PySem.W.X PyProof.Rows
set_option maxRecDepth 100000
set_option maxHeartbeats 4000000
set_option linter.all false
section
variable {w : World} {A : Around} {E : Value → Shared → Prop} {s : Shared}
theorem law13 {h₀ : Heap} {L aT : Addr} {m : Str → Option Value} {ts : List (Int × Tok)} {kT n : Nat} {tc : Tok} {Q : Flow → Shared → Prop} (W : Wd w h₀) (FF : Fr h₀ L s.heap m)
    (mT : m "touches" = some (.ref aT)) (hT : s.heap.get? aT = some (LO (ts.map iv).toArray kT)) (hT0 : h₀.get? aT = none) (hTL : aT ≠ L) (hTc : aT ≠ L + 2) (hts : ts.length ≤ 100)
    (mc : m "count" = some (.int (n : Nat) tc)) (hc2 : s.heap.IsCell (L + 2) none)
    (hQ : ∀ s' aE kE (es : List (Int × Tok)), Sm s s' → Fr h₀ L s'.heap m → Keep [L, L + 2] s.heap s'.heap → s'.heap.IsCell (L + 2) (some (.ref aE)) → s.heap.get? aE = none → s'.heap.get? aE = some (LO (es.map iv).toArray kE) →
      es.map (·.1) = [0] ++ ts.map (·.1) ++ [(n : Int)] → Q .next s') :
    wpAny (model pw w) A (exec (lawS 13) (lawEnv L)) Q (fun _ _ => False) s := by
  obtain ⟨rest, S0, N⟩ := snap FF [L + 2]
  have mT' : (aT, LO (ts.map iv).toArray kT) ∈ rest := S0.all _ _ hTL (by simpa using hTc) hT0 hT
  obtain ⟨oc, ec, dc⟩ := hc2
  have NX : News h₀ L s.heap ((L + 2, oc) :: rest) := fun p hp => by
    rcases List.mem_cons.mp hp with rfl | hp
    · exact ⟨ec, Nat.ne_of_gt (Nat.lt_add_of_pos_right (by decide)), Heap.get?_none_of_le (Nat.le_trans FF.above (Nat.le_add_right _ _))⟩
    · exact N p hp
  clear N
  unfold lawEnv
  show wpAny _ _ (exec (Stmt.Assign _ _ _) _) _ _ _
  walk
  rename_i h3 F3 N3
  have lc : L + 2 < s.heap.objs.size := Heap.lt_size ec
  have l3 : s.heap.objs.size < h3.objs.size := Heap.lt_size (N3.get List.mem_cons_self)
  refine P.add_list (N3.get List.mem_cons_self) (N3.get (List.mem_cons_of_mem _ (List.mem_cons_of_mem _ mT'))) ?_ (by rw [sizeLine_eq]; simp; omega)
  have F4 := F3.push { cls := .type "list", data := .seq (#[.int 0 s.toks] ++ (ts.map iv).toArray) }
  have N4 := News.push F3 N3 { cls := .type "list", data := .seq (#[.int 0 s.toks] ++ (ts.map iv).toArray) }
  clear F3 N3
  walk
  rename_i h5 F5 N5
  have l5 : h3.objs.size < h5.objs.size := Heap.lt_size (N5.get (List.mem_cons_of_mem _ List.mem_cons_self))
  obtain ⟨es, he, hes⟩ : ∃ es : List (Int × Tok), (#[Value.int 0 s.toks] ++ (ts.map iv).toArray) ++ #[Value.int (n : Nat) tc] = (es.map iv).toArray ∧ es.map (·.1) = [0] ++ ts.map (·.1) ++ [(n : Int)] :=
    ⟨(0, s.toks) :: ts ++ [((n : Int), tc)], by simp [iv], by simp⟩
  refine P.add_list (N5.get (List.mem_cons_of_mem _ List.mem_cons_self)) (N5.get List.mem_cons_self) ?_ (by rw [sizeLine_eq]; simp; omega)
  rw [he]
  have F6 := F5.push { cls := .type "list", data := .seq (es.map iv).toArray }
  have N6 := News.push F5 N5 { cls := .type "list", data := .seq (es.map iv).toArray }
  have kc : (h5.push { cls := .type "list", data := .seq (es.map iv).toArray }).IsCell (L + 2) none := ⟨oc, N6.get (by simp), dc⟩
  refine stC F6 (newsSub N6 (l' := (h5.objs.size, { cls := .type "list", data := .seq (es.map iv).toArray }) :: rest) (fun p hp => by simp only [List.mem_cons] at hp ⊢; rcases hp with h | h <;> simp [h])) (Heap.get?_none_of_le (Nat.le_trans FF.above (Nat.le_add_right _ _))) (Nat.ne_of_gt (Nat.lt_add_of_pos_right (by decide))) kc (c := L + 2) (by rfl) (fun p hp => ?_) (fun h7 F7 N7 hc7 hs7 => ?_)
  · rcases List.mem_cons.mp hp with rfl | hp
    · exact Nat.ne_of_gt (Nat.lt_trans lc (Nat.lt_trans l3 l5))
    · exact fun q => S0.apart p hp (by simp [q])
  · refine hQ _ h5.objs.size 0 es ⟨rfl, rfl, rfl⟩ F7 (S0.at F7 N7 fun p hp => List.mem_cons_of_mem _ hp) hc7 ?_ (N7.get List.mem_cons_self) hes
    exact Heap.get?_none_of_le (Nat.le_of_lt (Nat.lt_trans l3 l5))
end
end XnLaw14Text
end GXnLaw14
theorem rstXnStrs (M : PySem.Model) (A : PySem.Around) (env : PySem.Env) (s : PySem.Shared) : True := by
  first
  | (have h : PySem.wpAny M A (PySem.eval (.Constant .none 0 ⟨0, 0, 0, 0⟩) env) (fun _ _ => True) (fun _ _ => True) s := by (walk1; fail)
     trivial)
  | (w_top off
     trivial)
section XnStrsText
open PySem PySem.W PySem.W.X PyProof.Rows
set_option maxRecDepth 100000
set_option maxHeartbeats 4000000
set_option linter.all false
section
variable {w : World} {A : Around} {E : Value → Shared → Prop} {s : Shared}
theorem StG.refl {s : Shared} (W : Wd w s.heap) : StG s s := ⟨fun _ _ _ e => e, W.C, fun h => h, rfl, rfl, fun h => h⟩
theorem StG.trans {a b c : Shared} (x : StG a b) (y : StG b c) : StG a c := ⟨fun p o n e => y.keep p o n (x.keep p o n e), y.code, fun h => y.bare (x.bare h), y.drawn.trans x.drawn, y.os.trans x.os, fun h => y.tab (x.tab h)⟩
theorem fields_ne100 {h : Heap} (W : Wd w h) {a : Addr} {o : Obj} (e : h.get? a = some o) (hd : ∀ fs, o.data ≠ .fields fs) : a ≠ 100 := by
  rintro rfl
  obtain ⟨op, ps, e', d⟩ := code_op W.C
  rw [e] at e'; cases e'
  exact hd _ d
theorem it_ne100 {h h' : Heap} {a b : Addr} {i : Nat} (x : h.get? b = some (itO a i)) (hn : ∃ o, h'.get? 100 = some o) (h0 : h'.get? b = none) : b ≠ 100 := by
  rintro rfl
  obtain ⟨o, e⟩ := hn
  rw [h0] at e; cases e
theorem RowIs.but {h h' : Heap} (W : Wd w h) {r : Addr} {ts : List Addr} {l : List (Str × Str)} (x : RowIs h r ts l) (k : ∀ b o, b ≠ 100 → h.get? b = some o → h'.get? b = some o) : RowIs h' r ts l := by
  obtain ⟨op, ps, e, d⟩ := code_op W.C
  exact x.stepIt e d k
noncomputable def rowScope : Scope := { kind := .function, names := [(".0", .local), ("row", .local), ("str", .globalImplicit)], isGenerator := false, isCoroutine := false, more := [] }
theorem str_row {p1 p2 p3 : Pos} {L C r : Addr} {m : Str → Option Value} {ts : List Addr} {l : List (Str × Str)} {Q : Value → Shared → Prop} (W : Wd w s.heap) (hA : Ar A 20) (NS : s.heap.Ns C m) (hm : m "row" = some (.ref r)) (hr : RowIs s.heap r ts l) (hl : l.length ≤ 1000) (hz : ∀ p ∈ l, p.1.length + p.2.length ≤ 100)
    (hQ : ∀ s' t, StG s s' → Q (.str (catS (l.map fun p => p.1 ++ p.2)) t) s') : wpAny (model pw w) A (eval (.Call (.Name "str" p1) [.Name "row" p2] [] p3) (compEnvC rowScope [] C (lawEnv L))) Q E s := by
  unfold rowScope
  walk1
  refine nm_built W (bl_of (v := .type "str") rfl).1 (bl_of (v := .type "str") rfl).2 ?_
  refine Pv.callWith_type1 ?_
  walk1
  refine wpAny_Name (wpAny_loadName_local (by rfl) (by rfl) NS hm ?_) (by decide)
  walk1
  exact row_str W (hA.le (by omega)) hr hl hz hQ
/-- the texts of the rows -/
theorem strs_comp {elt iter : PySem.Expr} {px p1 p2 p3 pos : Pos} {scope : Scope} {L aR : Addr} {rs : List Addr} {nR : Nat} {l : Nat → List (Str × Str)} {Q : Value → Shared → Prop} (W : Wd w s.heap) (hA : Ar A 20)
    (hscope : scope = rowScope)
    (hit : ∀ Q : Value → Shared → Prop, Q (.ref aR) s → wpAny (model pw w) A (eval iter (lawEnv L)) Q E s) (hs : ∀ x, foldedSetIterable iter (lawEnv L) x = pure x)
    (hR : s.heap.get? aR = some (LO (rs.map Value.ref).toArray nR)) (hrs : rs.length ≤ 100)
    (hrow : ∀ i r, rs[i]? = some r → ∃ ts, RowIs s.heap r ts (l i)) (hl : ∀ i, (l i).length ≤ 1000) (hz : ∀ i, ∀ p ∈ l i, p.1.length + p.2.length ≤ 100)
    (hQ : ∀ s' D k (tx : List (Str × Tok)), StG s s' → s.heap.get? D = none → s'.heap.get? D = some (LO (strValues tx).toArray k) → tx.map (·.1) = (List.range rs.length).map (fun i => catS ((l i).map fun p => p.1 ++ p.2)) → Q (.ref D) s') :
    wpAny (model pw w) A (eval (.ListComp (.Call (.Name "str" p1) [.Name "row" p2] [] p3) [⟨.Name "row" px, iter, [], 0⟩] scope pos) (lawEnv L)) Q E s := by
  subst hscope
  rw [eval_ListComp]
  refine wpAny_comprehension_free (use := none) (cl := []) rfl hs (by rfl) rfl (by decide) (hit _ ?_)
  have hsz : (rs.map Value.ref).toArray.size = rs.length := by simp
  have hit' := compIt_list (w := w) hA.handled hR (by rw [hsz]; omega)
  obtain ⟨hiter, hself, item, done, hfree, hn⟩ := hit'
  refine hiter _ _ ?_
  refine wpAny_newObj_type (wpAny_newFunctionEnv (by decide) (by intro y hy; simp at hy) (fun h₁ hns₁ hsb₁ => ?_) rfl)
  dsimp only at hns₁ hsb₁ ⊢
  simp only [Heap.size_push] at hns₁ hsb₁ ⊢
  have hz' : ∀ {a : Addr}, s.heap.objs.size ≤ a → s.heap.get? a = none := fun {a} ha => by
    cases e : s.heap.get? a with
    | none => rfl
    | some o => exact absurd (Heap.lt_size e) (Nat.not_lt.mpr ha)
  have l100 : (100 : Nat) < s.heap.objs.size := let ⟨op, ps, e, d⟩ := code_op W.C; Heap.lt_size e
  have l104 : (104 : Nat) < s.heap.objs.size := by
    obtain ⟨ps, o, _, _, _, _, _, _, _, _, _, e, _⟩ := W.C
    exact Heap.lt_size e
  have haR : aR < s.heap.objs.size := Heap.lt_size hR
  have hRn : aR ≠ 100 := fields_ne100 W hR (fun fs h => by cases h)
  generalize hzz : s.heap.objs.size = z at *
  have n100 : z ≠ 100 := Nat.ne_of_gt l100
  have n101 : z + 1 ≠ 100 := Nat.ne_of_gt (by omega)
  have n102 : z + 1 + 1 ≠ 100 := Nat.ne_of_gt (by omega)
  have n02 : z ≠ z + 1 + 1 := Nat.ne_of_lt (by omega)
  have n12 : z + 1 ≠ z + 1 + 1 := Nat.ne_of_lt (by omega)
  have n10 : z + 1 ≠ z := Nat.ne_of_gt (by omega)
  have n20 : z + 1 + 1 ≠ z := Nat.ne_of_gt (by omega)
  have kI : (s.heap.push (itO aR 0)).get? z = some (itO aR 0) := Heap.get?_push_at hzz.symm rfl
  have kD : ((s.heap.push (itO aR 0)).push { cls := .type "list", dict := none, data := .seq ([] : List Value).toArray }).get? (z + 1) = some (LO #[] 0) := Heap.get?_push_at (by rw [Heap.size_push, hzz]) rfl
  have g1 : h₁.get? z = some (itO aR 0) := hsb₁.extBut _ _ n02 (Heap.get?_push_of_some _ (Heap.get?_push_of_some _ kI))
  have g2 : h₁.get? (z + 1) = some (LO ([] : List Value).toArray 0) := hsb₁.extBut _ _ n12 (Heap.get?_push_of_some _ kD)
  have g3 : ∀ b o, s.heap.get? b = some o → h₁.get? b = some o := fun b o e => hsb₁.extBut b o (fun q => by rw [q, hz' (by omega)] at e; cases e) (Heap.get?_push_of_some _ (Heap.get?_push_of_some _ (Heap.get?_push_of_some _ e)))
  have W1 : Wd w h₁ := W.keeps g3
  refine compStart_any (gens := [⟨.Name "row" px, iter, [], 0⟩]) (d := 0) rfl (fun Q hq E => hself _ _ _ g1 hq) ?_
  refine compLast (gens := [⟨.Name "row" px, iter, [], 0⟩]) (d := 0) (target := .Name "row" px) (iter := iter) (ifs := []) rfl rfl (fun k s' => ∃ i m tx kk, (i ≤ rs.length ∧ k = rs.length - i) ∧ StG s s' ∧ s'.heap.Ns (z + 2) m ∧ s'.heap.get? z = some (itO aR i) ∧ s'.heap.get? (z + 1) = some (LO (strValues tx).toArray kk) ∧ tx.map (·.1) = (List.range i).map (fun i => catS ((l i).map fun p => p.1 ++ p.2)))
    (fun k s' hI => ?_) rs.length ⟨0, _, [], 0, ⟨Nat.zero_le _, rfl⟩, ⟨fun b o _ e => g3 b o e, W1.C, fun h => h, rfl, rfl, fun h => T4.keeps h g3⟩, hns₁, g1, g2, rfl⟩
  obtain ⟨i, m, tx, kk, ⟨hi, rfl⟩, S, NS, gI, gD, htx⟩ := hI
  have W' : Wd w s'.heap := W.but S.keep S.code
  have hR' : s'.heap.get? aR = some (LO (rs.map Value.ref).toArray nR) := S.keep _ _ hRn hR
  by_cases hlt : i < rs.length
  · have hri : rs[i]? = some rs[i] := List.getElem?_eq_getElem hlt
    refine next_list gI ⟨_, _, hR', rfl⟩ (x := .ref rs[i]) (by simp [hlt]) fun h' hg hs => ?_
    dsimp only
    refine wpAny_pure ?_
    have NS' : h'.Ns (z + 2) m := NS.sameBut hs n20
    refine wpAny_assign_Name (wpAny_storeName_local (by rfl) NS' (fun h3 hn3 hs3 => ?_) (by rfl))
    have keep3 : ∀ b o, b ≠ z → b ≠ z + 2 → s'.heap.get? b = some o → h3.get? b = some o := fun b o h1 h2 e => (hs3.2 b h2).trans ((hs.2 b h1).trans e)
    have gI3 : h3.get? z = some (itO aR (i + 1)) := (hs3.2 _ n02).trans hg
    have gD3 : h3.get? (z + 1) = some (LO (strValues tx).toArray kk) := keep3 _ _ n10 n12 gD
    have C3 : ∃ ps, h3.IsCode 104 100 ps := by
      obtain ⟨ps, c⟩ := S.code
      exact ⟨ps, code_keep c (fun o e => keep3 _ _ (Nat.ne_of_lt l104) (Nat.ne_of_lt (by omega)) e) (fun o e => keep3 _ _ (Nat.ne_of_lt l100) (Nat.ne_of_lt (by omega)) e)⟩
    have S3 : StG s ⟨h3, s'.gens, s'.drawn, s'.toks + 1, s'.os⟩ := ⟨fun b o hb e => keep3 b o (fun q => by rw [q, hz' (by omega)] at e; cases e) (fun q => by rw [q, hz' (by omega)] at e; cases e) (S.keep b o hb e), C3, S.bare, S.drawn, S.os, fun h => (S.tab h).keep2 (fun o e => keep3 _ _ (Nat.ne_of_lt l104) (Nat.ne_of_lt (by omega)) e) (fun o e => keep3 _ _ (Nat.ne_of_lt l100) (Nat.ne_of_lt (by omega)) e)⟩
    have W3 : Wd w h3 := W.but S3.keep C3
    refine tests_nil ?_
    rw [if_pos rfl]
    obtain ⟨tsr, hrw⟩ := hrow i _ hri
    have hrw3 := hrw.but W S3.keep
    refine wpAny_mono (str_row (L := L) (C := z + 1 + 1) (p1 := p1) (p2 := p2) (p3 := p3) W3 hA hn3 (if_pos rfl) hrw3 (hl _) (hz _) fun s6 t6 S6 => ?_) (fun _ _ h => h) fun _ _ h => h
    have gI6 := S6.keep _ _ n100 gI3
    have gD6 := S6.keep _ _ n101 gD3
    have hxl := congrArg List.length htx
    rw [List.length_map, List.length_map, List.length_range] at hxl
    refine append_l gD6 (by simp [strValues]; omega) fun h7 n7 hg7 hs7 => ?_
    have keep7 : ∀ b o, b ≠ z + 1 → s6.heap.get? b = some o → h7.get? b = some o := fun b o hb e => (hs7.2 b hb).trans e
    have C7 : ∃ ps, h7.IsCode 104 100 ps := by
      obtain ⟨ps, c⟩ := S6.code
      exact ⟨ps, code_keep c (fun o e => keep7 _ _ (Nat.ne_of_lt (by omega)) e) (fun o e => keep7 _ _ (Nat.ne_of_lt (by omega)) e)⟩
    obtain ⟨oC, esC, epC, eC, rC⟩ := hn3
    refine ⟨rs.length - (i + 1), by omega, i + 1, _, tx ++ [(catS ((l i).map fun p => p.1 ++ p.2), t6)], n7, ⟨by omega, rfl⟩, ⟨fun b o hb e => keep7 b o (fun q => by rw [q, hz' (by omega)] at e; cases e) (S6.keep b o hb (S3.keep b o hb e)), C7, fun h => S6.bare (S3.bare h), S6.drawn.trans S3.drawn, S6.os.trans S3.os, fun h => (S6.tab (S3.tab h)).keep2 (fun o e => keep7 _ _ (Nat.ne_of_lt (by omega)) e) (fun o e => keep7 _ _ (Nat.ne_of_lt (by omega)) e)⟩, ⟨oC, esC, epC, keep7 _ _ (Ne.symm n12) (S6.keep _ _ n102 eC), rC⟩, keep7 _ _ (Ne.symm n10) gI6, ?_, ?_⟩
    · rw [hg7, List.push_toArray]
      unfold strValues
      rw [List.map_append]
      rfl
    · rw [List.map_append, htx, List.range_succ, List.map_append]; rfl
  · have hin : i = rs.length := by omega
    subst hin
    refine next_end hA.handled ⟨_, gI, rfl, rfl⟩ ⟨_, _, hR', rfl⟩ (by simp) fun h' hx' => ?_
    dsimp only
    have NS' : h'.Ns (z + 1 + 1) m := let ⟨o, es, n, e, q⟩ := NS; ⟨o, es, n, hx' _ _ n20 e, q⟩
    refine ⟨m, NS', fun h'' hs'' => ?_⟩
    have keep8 : ∀ b o, b ≠ z → b ≠ z + 1 + 1 → s'.heap.get? b = some o → h''.get? b = some o := fun b o h1 h2 e => (hs''.2 b h2).trans (hx' b o h1 e)
    have C8 : ∃ ps, h''.IsCode 104 100 ps := by
      obtain ⟨ps, c⟩ := S.code
      exact ⟨ps, code_keep c (fun o e => keep8 _ _ (Nat.ne_of_lt l104) (Nat.ne_of_lt (by omega)) e) (fun o e => keep8 _ _ (Nat.ne_of_lt l100) (Nat.ne_of_lt (by omega)) e)⟩
    exact hQ ⟨h'', s'.gens, s'.drawn, s'.toks, s'.os⟩ (z + 1) kk tx ⟨fun b o hb e => keep8 b o (fun q => by rw [q, hz' (by omega)] at e; cases e) (fun q => by rw [q, hz' (by omega)] at e; cases e) (S.keep b o hb e), C8, S.bare, S.drawn, S.os, fun h => (S.tab h).keep2 (fun o e => keep8 _ _ (Nat.ne_of_lt l104) (Nat.ne_of_lt (by omega)) e) (fun o e => keep8 _ _ (Nat.ne_of_lt l100) (Nat.ne_of_lt (by omega)) e)⟩ (hz' (by omega)) (keep8 _ _ n10 n12 gD) htx
end
end XnStrsText
theorem rstXnLaw15 (M : PySem.Model) (A : PySem.Around) (env : PySem.Env) (s : PySem.Shared) : True := by
  first
  | (have h : PySem.wpAny M A (PySem.eval (.Constant .none 0 ⟨0, 0, 0, 0⟩) env) (fun _ _ => True) (fun _ _ => True) s := by (walk1; fail)
     trivial)
  | (w_top off
     trivial)
section GXnLaw15
open PySem PySem.SeqAt PySem.W PySem.W.X PyProof.Rows
local macro_rules | `(tactic| walk_at "callWith ref") => `(tactic| first | refine callR (by assumption) (by kernel_rfl) ?_ | refine callR0 (by assumption) (by assumption) (by kernel_rfl) ?_)
section XnLaw15Text
open PySem PySem.SeqAt PySem.W PySem.W.X PyProof.Rows
set_option maxRecDepth 100000
set_option maxHeartbeats 4000000
set_option linter.all false
section
variable {w : World} {A : Around} {E : Value → Shared → Prop} {s : Shared}
theorem ne_strs {a b : Addr} {t u : List (Str × Tok)} {n k : Nat} {Q : Value → Shared → Prop} (ha : s.heap.get? a = some (LO (strValues t).toArray n)) (hb : s.heap.get? b = some (LO (strValues u).toArray k)) (he : t.map (·.1) = u.map (·.1)) (hu : A.units + 64 < cLine)
    (h : Q (.bool false) s) : wpAny (model pw w) A (compareOp .NotEq (.ref a) (.ref b)) Q E s := by
  have hlen : t.length = u.length := by have := congrArg List.length he; simpa using this
  show wpAny _ _ (richCompare .NotEq (.ref a) (.ref b)) _ _ _
  refine RcNeAt.lists (e := fun _ => true) ⟨_, ha, rfl, _, rfl⟩ ⟨_, hb, rfl, _, rfl⟩ (by simp [strValues, hlen]) (by omega) (fun j h1 h2 => ?_) _ _ _ _ ?_
  · have j1 : j < t.length := by simpa [strValues] using h1
    have j2 : j < u.length := by simpa [strValues] using h2
    have e1 : (strValues t).toArray[j] = .str t[j].1 t[j].2 := by simp [strValues]
    have e2 : (strValues u).toArray[j] = .str u[j].1 u[j].2 := by simp [strValues]
    have e3 : t[j].1 = u[j].1 := by
      have := congrArg (fun l => l[j]?) he
      simpa [j1, j2] using this
    rw [e1, e2, e3]
    have := EqAt.str_str (A := A.in1) (s := s) u[j].1 t[j].2 u[j].1 u[j].2
    rwa [beq_self_eq_true] at this
  · have e0 : (List.range (strValues t).toArray.size).all (fun _ => true) = true := List.all_eq_true.mpr (fun _ _ => rfl)
    rw [e0]; exact h
theorem law14 {h₀ : Heap} {L aR aD aG : Addr} {m : Str → Option Value} {rs : List Addr} {nR : Nat} {l : Nat → List (Str × Str)} {ds gs : List Nat} {tk : List Tok} {gt : List (Str × Tok)} {n1 n2 D : Nat} {Q : Flow → Shared → Prop} (W : Wd w h₀) (hA : Ar A 30) (FF : Fr h₀ L s.heap m)
    (mR : m "rows" = some (.ref aR)) (mG : m "greats" = some (.ref aG)) (hc1 : s.heap.IsCell (L + 1) (some (.ref aD)))
    (hR : s.heap.get? aR = some (LO (rs.map Value.ref).toArray nR)) (hrs : rs.length = D + 2)
    (hrow : ∀ i r, rs[i]? = some r → ∃ ts, RowIs s.heap r ts (l i)) (hl : ∀ i, (l i).length ≤ 1000) (hz : ∀ i, ∀ p ∈ l i, p.1.length + p.2.length ≤ 100)
    (hD : s.heap.get? aD = some (LO (((ds.map Int.ofNat).zip tk).map iv).toArray n1)) (hG : s.heap.get? aG = some (LO (strValues gt).toArray n2))
    (htk : tk.length = ds.length) (hgt : gt.map (·.1) = gs.map chS) (hlg : gs.length = ds.length) (h9 : ds.length ≤ 9) (hmem : D ∈ ds) (hmax : ∀ d ∈ ds, d ≤ D) (hD9 : D ≤ 20)
    (heq : ∀ i, i < D + 2 → catS ((l i).map fun p => p.1 ++ p.2) = dueOf ds gs i)
    (hQ : ∀ s' h₀', StG s s' → Wd w h₀' → (∀ b, h₀.get? b = none → h₀'.get? b = none) → (∀ b, b ≠ 100 → h₀'.get? b = h₀.get? b) → Fr h₀' L s'.heap m → Q .next s') :
    wpAny (model pw w) A (exec (lawS 14) (lawEnv L)) Q (fun _ _ => False) s := by
  have Ws : Wd w s.heap := W.keeps FF.keep
  show wpAny _ _ (exec (Stmt.If _ _ _ _) _) _ _ _
  walk1
  walk1
  refine strs_comp (l := l) (elt := default) Ws (hA.le (by omega)) (by rfl) (fun Q hq => ldAny FF mR hq) (fun _ => by rfl) hR (by omega) hrow hl hz fun s1 D1 k1 tx S1 hn1 hg1 htx => ?_
  have W1 : Wd w s1.heap := Ws.but S1.keep S1.code
  have nL : L ≠ 100 := by
    obtain ⟨o, es, n, e, d, _⟩ := FF.ns
    exact fields_ne100 Ws e (fun fs h => by rw [h] at d; cases d)
  have c1 : s1.heap.IsCell (L + 1) (some (.ref aD)) := let ⟨o, e, d⟩ := hc1; ⟨o, S1.keep _ _ (fields_ne100 Ws e (fun fs h => by rw [h] at d; cases d)) e, d⟩
  have NS1 : s1.heap.Ns L m := let ⟨o, es, n, e, q⟩ := FF.ns; ⟨o, es, n, S1.keep _ _ nL e, q⟩
  have g1D := S1.keep _ _ (fields_ne100 Ws hD (fun fs h => by cases h)) hD
  have g1G := S1.keep _ _ (fields_ne100 Ws hG (fun fs h => by cases h)) hG
  unfold lawEnv
  walk1
  refine nm_glob W1 (gl_of (v := .ref 213) rfl) ?_
  refine callR W1 (by kernel_rfl) ?_
  walk1
  refine wpAny_Name (wpAny_loadName_cell (c := L + 1) (by rfl) (by rfl) (by rfl) c1 ?_) (by decide)
  walk1
  refine wpAny_Name (wpAny_loadName_local (by rfl) (by rfl) NS1 mG ?_) (by decide)
  walk1
  refine ⟨W1.K, ?_⟩
  refine law_due W1 (hA.le (by omega)) g1D g1G htk hgt hlg h9 hmem hmax hD9 fun s2 aU nU ut S2 hnU hgU hut => ?_
  refine ne_strs (S2.keep _ _ hg1) hgU ?_ (by have := hA.units; show A.units + 64 < 9900; omega) ?_
  · rw [htx, hut, hrs]
    refine List.map_congr_left fun i hi => heq i (List.mem_range.mp hi)
  · walk1
    rw [if_neg Bool.false_ne_true]
    have S12 : StG s s2 := S1.trans ⟨fun b o _ e => S2.keep b o e, let ⟨ps, c⟩ := S1.code; ⟨ps, c.keeps S2.keep⟩, fun h => by rw [S2.gens]; exact h, S2.drawn, S2.os, fun h => T4.keeps h S2.keep⟩
    have W2 : Wd w s2.heap := Ws.but S12.keep S12.code
    obtain ⟨op, ps, e2, d2⟩ := code_op W2.C
    obtain ⟨op0, ps0, e0, d0⟩ := code_op W.C
    have g1 : (h₀.update 100 (fun _ => op)).get? 100 = some op := Heap.get?_update_self _ e0 (Obj.isFreed_of_fields d2)
    have g2 : ∀ b, b ≠ 100 → (h₀.update 100 (fun _ => op)).get? b = h₀.get? b := fun b hb => Heap.get?_update_ne _ _ _ _ hb
    have kp : ∀ b o, (h₀.update 100 (fun _ => op)).get? b = some o → s2.heap.get? b = some o := fun b o e => by
      by_cases hb : b = 100
      · subst hb; rw [g1] at e; cases e; exact e2
      · rw [g2 b hb] at e; exact S12.keep b o hb (FF.keep b o e)
    refine wpAny_execs_nil (hQ s2 (h₀.update 100 (fun _ => op)) S12 (W.but (fun b o hb e => (g2 b hb).trans e) ?_) (fun b hb => ?_) g2 ⟨?_, kp, ?_⟩)
    · obtain ⟨ps, c⟩ := S12.code
      refine ⟨ps, ?_⟩
      obtain ⟨ps', c'⟩ := W.C
      obtain ⟨o, vs, file, tf, flags, tg, inF, text, tt, op', a, r1, r2, r3, r4, r5, r6, b, r⟩ := c'
      obtain ⟨o2, vs2, file2, tf2, flags2, tg2, inF2, text2, tt2, op2, a2, q1, q2, q3, q4, q5, q6, b2, q⟩ := c
      have h104 : (h₀.update 100 (fun _ => op)).get? 104 = some o2 := by
        rw [g2 104 (by decide), a]
        have := S12.keep 104 o (by decide) (FF.keep _ _ a)
        rw [a2] at this; exact this.symm
      rw [e2] at b2; cases b2
      exact ⟨o2, vs2, file2, tf2, flags2, tg2, inF2, text2, tt2, op, h104, q1, q2, q3, q4, q5, q6, g1, q⟩
    · by_cases h1 : b = 100
      · subst h1; rw [e0] at hb; cases hb
      · rw [g2 b h1]; exact hb
    · obtain ⟨o, es, n, e, q⟩ := NS1
      exact ⟨o, es, n, S2.keep _ _ e, q⟩
    · rw [Heap.size_update]; exact FF.above
end
end XnLaw15Text
end GXnLaw15
theorem rstXnLaw16 (M : PySem.Model) (A : PySem.Around) (env : PySem.Env) (s : PySem.Shared) : True := by
  first
  | (have h : PySem.wpAny M A (PySem.eval (.Constant .none 0 ⟨0, 0, 0, 0⟩) env) (fun _ _ => True) (fun _ _ => True) s := by (walk1; fail)
     trivial)
  | (w_top off
     trivial)
section GXnLaw16
open PySem PySem.SeqAt PySem.W PySem.W.X PyProof.Rows
local macro_rules | `(tactic| walk_at "eval Name") => `(tactic| first | refine ldAny (by assumption) (by assumption) ?_ | refine nm_bl (by assumption) (by assumption) (by rfl) ?_)
section XnLaw16Text
open PySem PySem.SeqAt PySem.W PySem.W.X PyProof.Rows
set_option maxRecDepth 100000
set_option maxHeartbeats 4000000
set_option linter.all false
section
variable {w : World} {A : Around} {E : Value → Shared → Prop} {s : Shared}
theorem law15 {h₀ : Heap} {L aP aT aM : Addr} {m : Str → Option Value} {ps : List Value} {ts us : List (Int × Tok)} {kP kT kM : Nat} {a : Int} {ta : Tok} {Q : Flow → Shared → Prop} (W : Wd w h₀) (hA : Ar A 30) (FF : Fr h₀ L s.heap m)
    (ma : m "area" = some (.int a ta)) (mP : m "pairs" = some (.ref aP)) (mT : m "touches" = some (.ref aT)) (mM : m "at_most" = some (.ref aM))
    (hP : s.heap.get? aP = some (LO ps.toArray kP)) (hP0 : h₀.get? aP = none) (hPL : aP ≠ L) (hT : s.heap.get? aT = some (LO (ts.map iv).toArray kT)) (hT0 : h₀.get? aT = none) (hTL : aT ≠ L) (hM : s.heap.get? aM = some (LO (us.map iv).toArray kM)) (hM0 : h₀.get? aM = none) (hML : aM ≠ L)
    (hps : ps.length ≤ 1000) (hus : us.length ≤ 1000) (ha : a = (ps.length : Nat)) (heq : ts.map (·.1) = 0 :: us.map (·.1))
    (hQ : ∀ s', Sm s s' → Fr h₀ L s'.heap m → Keep [L] s.heap s'.heap → Q .next s') :
    wpAny (model pw w) A (exec (lawS 15) (lawEnv L)) Q (fun _ _ => False) s := by
  obtain ⟨rest, S0, N⟩ := snap FF []
  have mPr : (aP, LO ps.toArray kP) ∈ rest := S0.all _ _ hPL (by simp) hP0 hP
  have mTr : (aT, LO (ts.map iv).toArray kT) ∈ rest := S0.all _ _ hTL (by simp) hT0 hT
  have mMr : (aM, LO (us.map iv).toArray kM) ∈ rest := S0.all _ _ hML (by simp) hM0 hM
  unfold lawEnv
  show wpAny _ _ (exec (Stmt.If _ _ _ _) _) _ _ _
  walk
  refine len_list ⟨_, N.get mPr, rfl, _, rfl⟩ (by simp; omega) ?_
  walk
  have hne : (a != ((ps.toArray.size : Nat) : Int)) = false := by rw [bne_eq_false_iff_eq, ha]; simp
  rw [if_neg (by rw [hne]; exact Bool.false_ne_true)]
  walk
  rename_i h3 F3 N3
  refine P.add_list (N3.get List.mem_cons_self) (N3.get (List.mem_cons_of_mem _ mMr)) ?_ (by rw [sizeLine_eq]; simp; omega)
  obtain ⟨vs, he, hes⟩ : ∃ es : List (Int × Tok), (#[Value.int 0 (s.toks + 1 + 1)] ++ (us.map iv).toArray) = (es.map iv).toArray ∧ es.map (·.1) = 0 :: us.map (·.1) :=
    ⟨(0, s.toks + 1 + 1) :: us, by simp [iv], by simp⟩
  rw [he]
  have F4 := F3.push { cls := .type "list", data := .seq (vs.map iv).toArray }
  have N4 := News.push F3 N3 { cls := .type "list", data := .seq (vs.map iv).toArray }
  refine ne_intsK (News.isList N4 (List.mem_cons_of_mem _ (List.mem_cons_of_mem _ mTr))) (ints_are ts) (News.isList N4 List.mem_cons_self) (ints_are vs) (by have := hA.units; show A.units + 64 < 9900; omega) ?_
  rw [heq, hes, decide_eq_true rfl]
  walk
  rw [if_neg (by decide)]
  walk
  exact hQ _ ⟨rfl, rfl, rfl⟩ F4 (S0.at F4 N4 fun p hp => List.mem_cons_of_mem _ (List.mem_cons_of_mem _ hp))
end
end XnLaw16Text
end GXnLaw16
theorem rstXnLaw17 (M : PySem.Model) (A : PySem.Around) (env : PySem.Env) (s : PySem.Shared) : True := by
  first
  | (have h : PySem.wpAny M A (PySem.eval (.Constant .none 0 ⟨0, 0, 0, 0⟩) env) (fun _ _ => True) (fun _ _ => True) s := by (walk1; fail)
     trivial)
  | (w_top off
     trivial)
section GXnLaw17
open PySem PySem.SeqAt PySem.W PySem.W.X PyProof.Rows
local macro_rules | `(tactic| walk_at "eval Name") => `(tactic| first | refine ldBase (by assumption) (by assumption) ?_ | refine ldAny (by assumption) (by assumption) ?_ | refine nm_bl (by assumption) (by assumption) (by rfl) ?_)
local macro_rules | `(tactic| walk_at "callWith ref") => `(tactic| first | refine callR (by assumption) (by kernel_rfl) ?_ | refine callR0 (by assumption) (by assumption) (by kernel_rfl) ?_)
section XnLaw17Text
open PySem PySem.SeqAt PySem.W PySem.W.X PyProof.Rows
set_option maxRecDepth 100000
set_option maxHeartbeats 4000000
set_option linter.all false
section
variable {w : World} {A : Around} {E : Value → Shared → Prop} {s : Shared}
theorem law16 {h₀ : Heap} {L aR aE : Addr} {m : Str → Option Value} {rs : List Addr} {nR kE : Nat} {l : Nat → List (Str × Str)} {es : List (Int × Tok)} {Q : Flow → Shared → Prop} (W : Wd w h₀) (hA : Ar A 30) (FF : Fr h₀ L s.heap m)
    (mR : m "rows" = some (.ref aR)) (hR : s.heap.get? aR = some (LO (rs.map Value.ref).toArray nR)) (hR0 : h₀.get? aR = none) (hRL : aR ≠ L) (hrs : rs.length ≤ 100)
    (hrow : ∀ i r, rs[i]? = some r → ∃ ts, RowIs s.heap r ts (l i)) (hl : ∀ i, (l i).length ≤ 1000)
    (hc2 : s.heap.IsCell (L + 2) (some (.ref aE))) (hE : s.heap.get? aE = some (LO (es.map iv).toArray kE)) (hel : es.length = rs.length + 2)
    (heq : ∀ k, k < rs.length → (((l k).length : Nat) : Int) = (es.map (·.1)).getD (k + 2) 0 - (es.map (·.1)).getD k 0)
    (hQ : ∀ s', Sm s s' → (∀ b o, s.heap.get? b = some o → s'.heap.get? b = some o) → Q (.ret (.bool true)) s') :
    wpAny (model pw w) A (exec (lawS 16) (lawEnv L)) Q (fun _ _ => False) s := by
  have Ws : Wd w s.heap := W.keeps FF.keep
  have hsz : (rs.map Value.ref).toArray.size = rs.length := by simp
  have hit := compIt_list (w := w) hA.handled hR (by rw [hsz]; omega)
  rw [hsz] at hit
  unfold lawEnv
  show wpAny _ _ (exec (Stmt.Return _ _) _) _ _ _
  walk1
  walk1
  refine list_comp (cl := []) (n := rs.length) (ob := itO aR) (IsVal := fun i v => (rs.map Value.ref).toArray[i]? = some v)
    (fun i acc news => news = [] ∧ ∃ ts : List (Int × Tok), acc = ts.map iv ∧ ts.map (·.1) = (List.range i).map (fun i => (((l i).length : Nat) : Int)))
    (by rfl) (by decide) (by rfl) (by decide) (by rfl) (fun _ => by rfl) ⟨rfl, [], rfl, rfl⟩ ?_ ?_
  · rintro k acc news ⟨_, ts, rfl, h⟩
    have := congrArg List.length h
    simp at this ⊢; omega
  refine ldAny FF mR ?_
  refine ⟨hit, ?_, fun s6 D6 acc6 news6 k6 S6 keep6 hn6 hg6 hnews6 hP6 => ?_⟩
  · rintro C i hi s4 m4 acc news v kD D I hv S4 F4 N4 ⟨rfl, ts, rfl, hts⟩ mx
    obtain ⟨tsr, hr⟩ := hrow i rs[i] (List.getElem?_eq_getElem hi)
    have hv' : v = .ref rs[i] := by
      simp [hi] at hv; exact hv.symm
    subst hv'
    have W4 : Wd w s4.heap := Ws.keeps F4.keep
    have hr4 := hr.keeps F4.keep
    refine tests_nil ?_
    rw [if_pos rfl]
    walk
    refine row_getMethod (tf := "function") W4 hr4.row (f := .ref 128) (by kernel_rfl) ⟨_, W4.at 128 _ rfl, rfl⟩ (.inl rfl) (by decide) ?_
    refine callR0 Ws F4 (by kernel_rfl) ?_
    obtain ⟨dr, nr, kr, er, _⟩ := hr4.row
    refine part_count W4 (hA.le (by omega)) er fun s7 t7 S7 => ?_
    refine ⟨⟨S7.gens, S7.drawn, S7.os⟩, m4, [], frKeep F4 S7.keep, newsKeep N4 S7.keep, ⟨rfl, ts ++ [((((l i).length : Nat) : Int), t7)], ?_, ?_⟩, by simp⟩
    · rw [List.map_append]
      have : (tsr.map Value.ref).toArray.size = (l i).length := by simp [hr.len]
      rw [this]; rfl
    · rw [List.map_append, List.range_succ, List.map_append, hts]; rfl
  · obtain ⟨_, ts, rfl, hts⟩ := hP6
    have F6 := frKeep FF keep6
    have hE6 := keep6 _ _ hE
    have c6 : s6.heap.IsCell (L + 2) (some (.ref aE)) := let ⟨o, e, d⟩ := hc2; ⟨o, keep6 _ _ e, d⟩
    have hR6 := keep6 _ _ hR
    refine list_comp (cl := [("ends", L + 2)]) (n := rs.length) (ob := rgO rs.length) (IsVal := fun i v => ∃ t, v = .int (i : Nat) t)
      (fun i acc news => news = [] ∧ ∃ us : List (Int × Tok), acc = us.map iv ∧ us.map (·.1) = (List.range i).map (fun i => (((l i).length : Nat) : Int)))
      (by rfl) (by decide) (by rfl) (by decide) (by rfl) (fun _ => by rfl) ⟨rfl, [], rfl, rfl⟩ ?_ ?_
    · rintro k acc news ⟨_, us, rfl, h⟩
      have := congrArg List.length h
      simp at this ⊢; omega
    clear FF hc2 Ws
    have N6 : News h₀ L s6.heap [] := News.nil
    walk
    refine len_list ⟨_, hR6, rfl, _, rfl⟩ (by rw [hsz]; omega) ?_
    rw [hsz]
    walk
    rename_i h8 tk8 t8 u8 v8 hR8 F8 N8 k8
    have W8 : Wd w h8 := W.keeps F8.keep
    have hE8 : h8.get? aE = some (LO (es.map iv).toArray kE) := k8 _ _ hE6
    have c8 : h8.IsCell (L + 2) (some (.ref aE)) := let ⟨o, e, d⟩ := c6; ⟨o, k8 _ _ e, d⟩
    have hEi := ints_are es
    refine ⟨compIt_range hA.handled (by omega) hR8, ?_, fun s9 D9 acc9 news9 k9 S9 keep9 hn9 hg9 hnews9 hP9 => ?_⟩
    · rintro C i hi s4 m4 acc news v kD D I ⟨tv, rfl⟩ S4 F4 N4 ⟨rfl, us, rfl, hus⟩ mx
      refine tests_nil ?_
      rw [if_pos rfl]
      clear F8 N8 W c6
      have hEl : ∀ {h : Heap} {m : Str → Option Value}, Fr h8 C h m → h.IsList aE (es.map iv).toArray := fun F => ⟨_, F.keep _ _ hE8, rfl, _, rfl⟩
      walk
      refine item_ints (hEl F4) hEi (by omega) (by simp; omega) (by omega) (fun ta => ?_)
      walk
      refine item_ints (hEl F4) hEi (by omega) (by simp; omega) (by omega) (fun tb => ?_)
      walk
      have e1 : ((i : Int) + 2).toNat = i + 2 := by omega
      have e2 : ((i : Nat) : Int).toNat = i := by omega
      rw [e1, e2, ← heq i hi]
      rename Fr _ _ _ _ => F9
      rename News _ _ _ _ => N9
      refine ⟨⟨rfl, rfl, rfl⟩, m4, [], F9, N9, ⟨rfl, us ++ [((((l i).length : Nat) : Int), s4.toks + 1 + 1)], ?_, ?_⟩, by simp⟩
      · rw [List.map_append]; rfl
      · rw [List.map_append, List.range_succ, List.map_append, hus]; rfl
    · obtain ⟨_, us, rfl, hus⟩ := hP9
      have keep8 : ∀ b o, s6.heap.get? b = some o → s9.heap.get? b = some o := fun b o e => keep9 b o (k8 b o e)
      refine eq_intsK ⟨_, keep8 _ _ hg6, rfl, _, rfl⟩ (ints_are ts) ⟨_, hg9, rfl, _, rfl⟩ (ints_are us) (by have := hA.units; show A.units + 64 < 9900; omega) ?_
      rw [hts, hus, decide_eq_true rfl]
      exact hQ _ ⟨S9.gens.trans S6.gens, S9.drawn.trans S6.drawn, S9.os.trans S6.os⟩ fun b o e => keep8 b o (keep6 b o e)
end
end XnLaw17Text
end GXnLaw17
end WXnLaw1
theorem rstXnPlain1 (M : PySem.Model) (A : PySem.Around) (env : PySem.Env) (s : PySem.Shared) : True := by
  first
  | (have h : PySem.wpAny M A (PySem.eval (.Constant .none 0 ⟨0, 0, 0, 0⟩) env) (fun _ _ => True) (fun _ _ => True) s := by (walk1; fail)
     trivial)
  | (w_top off
     trivial)
section XnPlain1Text
open PySem PySem.W PySem.W.X PyProof.Rows
set_option maxRecDepth 100000
set_option maxHeartbeats 4000000
set_option linter.all false
/-! ### the letters -/
noncomputable def plainB : List Nat → Bool
  | [] => true
  | c :: r => !(c == 34) && !(c == 92) && plainB r
theorem inner_of {l : List Nat} (h : plainB l = true) : Inner l := by
  induction l with
  | nil => exact .nil
  | cons c r ih =>
    simp only [plainB, Bool.and_eq_true, Bool.not_eq_true', beq_eq_false_iff_ne] at h
    exact .plain h.1.1 h.1.2 (ih h.2)
noncomputable def greatOk (b n : Nat) : Bool := !isB1 (b + n) && decide (foldOf (b + n) = ⟨#[97 + n]⟩) && !Str.isSurrogate (b + n) && plainB ((opB (b + n)).2.map (·.toNat)) && decide (97 + n ≠ b + n)
theorem great_all : (bases.all fun b => (List.range 9).all fun n => greatOk b n) = true := by decide +kernel
noncomputable def smallOk (n : Nat) : Bool := !isB1 (97 + n) && decide (foldOf (97 + n) = ⟨#[97 + n]⟩) && !Str.isSurrogate (97 + n)
theorem small_all : ((List.range 9).all fun n => smallOk n) = true := by decide +kernel
theorem pres_len : (pres.all fun p => decide (p.cps.size ≤ 1)) = true := by decide +kernel
theorem pres_all : (pres.all fun p => p.cps.toList.all isB1) = true := by decide +kernel
theorem great_facts {b n : Nat} (hb : b ∈ bases) (hn : n < 9) : isB1 (b + n) = false ∧ foldOf (b + n) = ⟨#[97 + n]⟩ ∧ Str.isSurrogate (b + n) = false ∧ InB (opB (b + n)) ∧ 97 + n ≠ b + n := by
  have h := List.all_eq_true.mp (List.all_eq_true.mp great_all b hb) n (List.mem_range.mpr hn)
  simp only [greatOk, Bool.and_eq_true, Bool.not_eq_true', decide_eq_true_eq] at h
  obtain ⟨⟨⟨⟨h1, h2⟩, h3⟩, h4⟩, h5⟩ := h
  exact ⟨h1, h2, h3, inner_of h4, h5⟩
theorem small_facts {c : Nat} (h1 : 97 ≤ c) (h2 : c < 106) : isB1 c = false ∧ foldOf c = ⟨#[c]⟩ ∧ Str.isSurrogate c = false := by
  have h := List.all_eq_true.mp small_all (c - 97) (List.mem_range.mpr (by omega))
  rw [smallOk, show 97 + (c - 97) = c by omega] at h
  simp only [Bool.and_eq_true, Bool.not_eq_true', decide_eq_true_eq] at h
  exact ⟨h.1.1, h.1.2, h.2⟩
/-! ### the scan -/
theorem Sc.app {n : Nat} {a b : List Nat} {d e g : Nat} {f f' f'' : Nat → List (Str × Str)} (x : Sc n a d f e f') (y : Sc n b e f' g f'') : Sc n (a ++ b) d f g f'' := by
  induction x with
  | nil => exact y
  | skip h _ ih => exact .skip h (ih y)
  | close h1 h2 h3 h4 _ ih => exact .close h1 h2 h3 h4 (ih y)
  | opn h1 h2 h3 h4 h5 h6 _ ih => exact .opn h1 h2 h3 h4 h5 h6 (ih y)
theorem Sc.closes {n e : Nat} {f : Nat → List (Str × Str)} : ∀ (q : List Nat), (∀ c ∈ q, 97 ≤ c ∧ c < 106) → Sc n q (e + q.length) f e f
  | [], _ => .nil
  | c :: q, h => by
    obtain ⟨h1, h2⟩ := h c (by simp)
    obtain ⟨f1, f2, _⟩ := small_facts h1 h2
    exact .close f1 f2 h1 (by omega) (Sc.closes q fun x hx => h x (by simp [hx]))
theorem Sc.skips {n e : Nat} {f : Nat → List (Str × Str)} : ∀ (q : List Nat), q.all isB1 = true → Sc n q e f e f
  | [], _ => .nil
  | c :: q, h => by
    rw [List.all_cons, Bool.and_eq_true] at h
    exact .skip h.1 (Sc.skips q h.2)
noncomputable def pcAt (ds gs : List Nat) (i k : Nat) : List Pc := (if ds.getD k 0 = i then [(true, gs.getD k 0)] else []) ++ (if ds.getD k 0 + 1 = i then [(false, 97 + k)] else [])
noncomputable def pcUp (ds gs : List Nat) (i n : Nat) : List Pc := (List.range n).flatMap (pcAt ds gs i)
theorem pcUp_succ (ds gs : List Nat) (i n : Nat) : pcUp ds gs i (n + 1) = pcUp ds gs i n ++ pcAt ds gs i n := by
  unfold pcUp; rw [List.range_succ, List.flatMap_append]; simp
theorem pcUp_congr {ds gs ds' gs' : List Nat} (i n : Nat) (h : ∀ k, k < n → ds.getD k 0 = ds'.getD k 0 ∧ gs.getD k 0 = gs'.getD k 0) : pcUp ds gs i n = pcUp ds' gs' i n := by
  induction n with
  | zero => rfl
  | succ n ih =>
    rw [pcUp_succ, pcUp_succ, ih (fun k hk => h k (by omega))]
    obtain ⟨h1, h2⟩ := h n (by omega)
    unfold pcAt; rw [h1, h2]
theorem getD_app1 {l : List Nat} {x k : Nat} (h : k < l.length) : (l ++ [x]).getD k 0 = l.getD k 0 := by
  simp [List.getD_eq_getElem?_getD, List.getElem?_append, h]
theorem getD_app2 {l : List Nat} {x : Nat} : (l ++ [x]).getD l.length 0 = x := by
  simp [List.getD_eq_getElem?_getD]
structure NInv (S : NSt) : Prop where
  ok : S.Ok
  nest : ∀ k, k + 1 < S.ds.length → S.ds.getD (k + 1) 0 ≤ S.ds.getD k 0 + 1
  zero : S.ds.getD 0 0 = 0
  small : ∀ c ∈ S.stk, 97 ≤ c ∧ c < 97 + S.ds.length
  great : ∀ k, k < S.ds.length → ∃ b ∈ bases, S.gs.getD k 0 = b + k
  len : S.sp.cps.size + S.stk.length ≤ 3 * S.ds.length
  scan : ∀ N, (∀ d ∈ S.ds, d + 1 < N) → Sc N S.sp.cps.toList 0 (fun _ => []) S.stk.length (fun i => (pcUp S.ds S.gs i S.ds.length).map txt)
theorem NInv.start : NInv ⟨[], [], [], Str.ofString ""⟩ :=
  ⟨⟨fun l h => by simp at h, fun _ => rfl, rfl, Nat.le_refl _, Nat.le_refl _⟩, fun k h => by simp at h, rfl, fun c h => by simp at h, fun k h => by simp at h, Nat.le_refl _, fun N _ => .nil⟩
theorem last_getD {l : List Nat} {x : Nat} (h : l.getLast? = some x) : l.getD (l.length - 1) 0 = x := by
  rw [List.getLast?_eq_getElem?] at h
  rw [List.getD_eq_getElem?_getD, h]; rfl
theorem NInv.turn {S : NSt} (h : NInv S) (h9 : S.ds.length < 9) (x : Int) : NInv (S.turn x) := by
  have hd := h.ok.depth (x % 1000000).toNat
  have hok := h.ok.turn x
  obtain ⟨b, hb, hg⟩ : ∃ b ∈ bases, bases.getD ((x % 1000000).toNat / 8 % 4) 0 = b := by
    refine ⟨_, ?_, rfl⟩
    have : (x % 1000000).toNat / 8 % 4 < bases.length := Nat.mod_lt _ (by decide)
    rw [List.getD_eq_getElem?_getD, List.getElem?_eq_getElem this]
    exact List.getElem_mem this
  have hp : ((pres.getD ((x % 1000000).toNat / 32 % 4) ⟨#[]⟩).cps.toList.all isB1) = true := by
    have : (x % 1000000).toNat / 32 % 4 < pres.length := Nat.mod_lt _ (by decide)
    rw [List.getD_eq_getElem?_getD, List.getElem?_eq_getElem this]
    exact List.all_eq_true.mp pres_all _ (List.getElem_mem this)
  have hpl : (pres.getD ((x % 1000000).toNat / 32 % 4) ⟨#[]⟩).cps.size ≤ 1 := by
    have : (x % 1000000).toNat / 32 % 4 < pres.length := Nat.mod_lt _ (by decide)
    rw [List.getD_eq_getElem?_getD, List.getElem?_eq_getElem this]
    exact of_decide_eq_true (List.all_eq_true.mp pres_len _ (List.getElem_mem this))
  have hnd : nextDepth S.ds (x % 1000000).toNat = 0 ∧ S.ds = [] ∨ ∃ l, S.ds.getLast? = some l ∧ nextDepth S.ds (x % 1000000).toNat ≤ l + 1 := by
    unfold nextDepth
    cases hl : S.ds.getLast? with
    | none => exact .inl ⟨rfl, List.getLast?_eq_none_iff.mp hl⟩
    | some l =>
      refine .inr ⟨l, rfl, ?_⟩
      have := Nat.mod_lt (x % 1000000).toNat (show 0 < l + 2 by omega)
      show (x % 1000000).toNat % (l + 2) ≤ l + 1
      omega
  have hT : S.turn x = NSt.mk (S.ds ++ [nextDepth S.ds (x % 1000000).toNat]) (S.gs ++ [b + S.ds.length]) (S.stk.take (nextDepth S.ds (x % 1000000).toNat) ++ [97 + S.ds.length])
      (S.sp ++ catS ((S.stk.drop (nextDepth S.ds (x % 1000000).toNat)).reverse.map chS) ++ (pres.getD ((x % 1000000).toNat / 32 % 4) ⟨#[]⟩ ++ ⟨#[b + S.ds.length]⟩)) := by rw [← hg]; rfl
  rw [hT] at hok ⊢
  generalize nextDepth S.ds (x % 1000000).toNat = d at *
  generalize pres.getD ((x % 1000000).toNat / 32 % 4) ⟨#[]⟩ = pr at *
  clear hT hg
  have hgl := h.ok.gs
  refine ⟨hok, fun k hk => ?_, ?_, fun c hc => ?_, fun k hk => ?_, ?_, fun N hN => ?_⟩
  · simp only [List.length_append, List.length_cons, List.length_nil] at hk
    show (S.ds ++ [d]).getD (k + 1) 0 ≤ (S.ds ++ [d]).getD k 0 + 1
    by_cases hk1 : k + 1 < S.ds.length
    · rw [getD_app1 hk1, getD_app1 (by omega)]; exact h.nest k hk1
    · have e : k + 1 = S.ds.length := by omega
      rw [getD_app1 (l := S.ds) (k := k) (by omega), e, getD_app2]
      rcases hnd with ⟨h0, h1⟩ | ⟨l, hl, h1⟩
      · omega
      · have := last_getD hl
        rw [show S.ds.length - 1 = k by omega] at this
        omega
  · show (S.ds ++ [d]).getD 0 0 = 0
    rcases hnd with ⟨h0, h1⟩ | ⟨l, hl, h1⟩
    · rw [h1, h0]; rfl
    · have : 0 < S.ds.length := by
        cases hds : S.ds with
        | nil => rw [hds] at hl; simp at hl
        | cons a r => simp
      rw [getD_app1 this]; exact h.zero
  · simp only [List.length_append, List.length_cons, List.length_nil]
    rcases List.mem_append.mp hc with hc | hc
    · have := h.small c (List.mem_of_mem_take hc); omega
    · simp only [List.mem_cons, List.not_mem_nil, or_false] at hc
      omega
  · simp only [List.length_append, List.length_cons, List.length_nil] at hk
    by_cases hk1 : k < S.ds.length
    · rw [getD_app1 (by omega)]; exact h.great k hk1
    · have e : k = S.ds.length := by omega
      refine ⟨b, hb, ?_⟩
      show (S.gs ++ [b + S.ds.length]).getD k 0 = b + k
      rw [e, ← hgl, getD_app2]
  · have hl := h.len
    show (S.sp.cps ++ (((S.stk.drop d).reverse.map chS).flatMap fun p => p.cps.toList).toArray ++ (pr.cps ++ #[b + S.ds.length])).size + (S.stk.take d ++ [97 + S.ds.length]).length ≤ 3 * (S.ds ++ [d]).length
    have e : (((S.stk.drop d).reverse.map chS).flatMap fun p => p.cps.toList) = (S.stk.drop d).reverse := by
      rw [List.flatMap_map]
      show (List.flatMap (fun c => [c]) (S.stk.drop d).reverse) = _
      simp
    rw [e]
    simp only [Array.size_append, List.size_toArray, List.length_reverse, List.length_drop, List.length_append, List.length_take, List.length_cons, List.length_nil]
    omega
  · have s1 := h.scan N fun q hq => hN q (by simp [hq])
    have hdN : d + 1 < N := hN d (by simp)
    obtain ⟨g1, g2, g3, g4, g5⟩ := great_facts hb h9
    have s2 : Sc N (S.stk.drop d).reverse (d + (S.stk.drop d).reverse.length) (fun i => (pcUp S.ds S.gs i S.ds.length).map txt) d (fun i => (pcUp S.ds S.gs i S.ds.length).map txt) :=
      Sc.closes _ fun c hc => by have := h.small c (List.mem_of_mem_drop (List.mem_reverse.mp hc)); omega
    rw [List.length_reverse, List.length_drop, show d + (S.stk.length - d) = S.stk.length by omega] at s2
    have s3 : Sc N pr.cps.toList d (fun i => (pcUp S.ds S.gs i S.ds.length).map txt) d (fun i => (pcUp S.ds S.gs i S.ds.length).map txt) := Sc.skips _ hp
    have hf : put (fun i => (pcUp S.ds S.gs i S.ds.length).map txt) d (b + S.ds.length) (97 + S.ds.length) = fun i => (pcUp (S.ds ++ [d]) (S.gs ++ [b + S.ds.length]) i (S.ds ++ [d]).length).map txt := by
      funext i
      rw [List.length_append, List.length_cons, List.length_nil, Nat.zero_add, pcUp_succ, List.map_append, pcUp_congr (ds := S.ds ++ [d]) (gs := S.gs ++ [b + S.ds.length]) (ds' := S.ds) (gs' := S.gs) i S.ds.length (fun k hk => ⟨getD_app1 hk, getD_app1 (by omega)⟩)]
      unfold put pcAt
      rw [getD_app2, show (S.gs ++ [b + S.ds.length]).getD S.ds.length 0 = b + S.ds.length by rw [← hgl, getD_app2], List.append_assoc, List.map_append]
      congr 1
      by_cases e1 : i = d
      · subst e1
        rw [if_pos rfl, if_pos rfl, if_neg (by omega), if_neg (by omega)]; rfl
      · rw [if_neg e1, if_neg (Ne.symm e1)]
        by_cases e2 : i = d + 1
        · rw [if_pos e2, if_pos e2.symm]; rfl
        · rw [if_neg e2, if_neg (Ne.symm e2)]; rfl
    have s4 : Sc N [b + S.ds.length] d (fun i => (pcUp S.ds S.gs i S.ds.length).map txt) (d + 1) (put (fun i => (pcUp S.ds S.gs i S.ds.length).map txt) d (b + S.ds.length) (97 + S.ds.length)) :=
      .opn g1 g2 g5 g3 g4 hdN .nil
    rw [hf] at s4
    have ht : (S.stk.take d ++ [97 + S.ds.length]).length = d + 1 := by
      rw [List.length_append, List.length_take, List.length_cons, List.length_nil]; omega
    have hsp : (S.sp ++ catS ((S.stk.drop d).reverse.map chS) ++ (pr ++ ⟨#[b + S.ds.length]⟩)).cps.toList = S.sp.cps.toList ++ ((S.stk.drop d).reverse ++ (pr.cps.toList ++ [b + S.ds.length])) := by
      simp only [str_append, Array.toList_append, catS, List.append_assoc]
      congr 1
      congr 1
      rw [List.flatMap_map]
      show (List.flatMap (fun c => [c]) (S.stk.drop d).reverse) = _
      simp
    show Sc N (S.sp ++ catS ((S.stk.drop d).reverse.map chS) ++ (pr ++ ⟨#[b + S.ds.length]⟩)).cps.toList 0 _ (S.stk.take d ++ [97 + S.ds.length]).length _
    rw [hsp, ht]
    exact s1.app (s2.app (s3.app s4))
theorem fold_inv : ∀ (xs : List Int) (S : NSt), NInv S → S.ds.length + xs.length ≤ 9 → NInv (xs.foldl NSt.turn S)
  | [], S, h, _ => h
  | x :: r, S, h, h9 => by
    have h9' : S.ds.length + (r.length + 1) ≤ 9 := h9
    refine fold_inv r (S.turn x) (h.turn (by omega) x) ?_
    have : (S.turn x).ds.length = S.ds.length + 1 := by simp [NSt.turn]
    omega
theorem nine_len (l : List Int) : 5 ≤ (nine l).length ∧ (nine l).length ≤ 9 := by
  unfold nine
  rw [List.length_take, List.length_append]
  show 5 ≤ min 9 (l.length + 5) ∧ min 9 (l.length + 5) ≤ 9
  omega
theorem nest_inv (l : List Int) : NInv (nestOf l) := fold_inv _ _ NInv.start (by show 0 + _ ≤ 9; have := nine_len l; omega)
theorem nest_len (l : List Int) : 5 ≤ (nestOf l).ds.length ∧ (nestOf l).ds.length ≤ 9 := by
  unfold nestOf
  rw [foldLen]
  have := nine_len l
  show 5 ≤ 0 + _ ∧ 0 + _ ≤ 9
  omega
/-- the whole text is scanned -/
theorem scan_all {S : NSt} (h : NInv S) (h9 : S.ds.length ≤ 9) (N : Nat) (hN : ∀ d ∈ S.ds, d + 1 < N) : Sc N (S.sp ++ catS (S.stk.reverse.map chS)).cps.toList 0 (fun _ => []) 0 (fun i => (pcUp S.ds S.gs i S.ds.length).map txt) := by
  have s1 := h.scan N hN
  have s2 : Sc N S.stk.reverse (0 + S.stk.reverse.length) (fun i => (pcUp S.ds S.gs i S.ds.length).map txt) 0 (fun i => (pcUp S.ds S.gs i S.ds.length).map txt) :=
    Sc.closes _ fun c hc => by have := h.small c (List.mem_reverse.mp hc); omega
  rw [List.length_reverse, Nat.zero_add] at s2
  have e : (S.sp ++ catS (S.stk.reverse.map chS)).cps.toList = S.sp.cps.toList ++ S.stk.reverse := by
    simp only [str_append, Array.toList_append, catS]
    congr 1
    rw [List.flatMap_map]
    show (List.flatMap (fun c => [c]) S.stk.reverse) = _
    simp
  rw [e]
  exact s1.app s2
theorem scan_len {S : NSt} (h : NInv S) (h9 : S.ds.length ≤ 9) : (S.sp ++ catS (S.stk.reverse.map chS)).cps.size ≤ 900 := by
  have hl := h.len
  show (S.sp.cps ++ ((S.stk.reverse.map chS).flatMap fun p => p.cps.toList).toArray).size ≤ 900
  have e : ((S.stk.reverse.map chS).flatMap fun p => p.cps.toList) = S.stk.reverse := by
    rw [List.flatMap_map]
    show (List.flatMap (fun c => [c]) S.stk.reverse) = _
    simp
  rw [e]
  simp only [Array.size_append, List.size_toArray, List.length_reverse]
  omega
/-- the texts of a row -/
theorem row_due {S : NSt} (h : NInv S) (i : Nat) : catS (((pcUp S.ds S.gs i S.ds.length).map txt).map fun p => p.1 ++ p.2) = dueOf S.ds S.gs i := by
  unfold dueOf told pcUp
  congr 1
  rw [List.map_map, List.map_flatMap]
  congr 1
  funext k
  unfold pcAt piece
  rw [List.map_append]
  congr 1
  · split <;> rfl
  · split <;> rfl
theorem pc_good {S : NSt} (h : NInv S) (h9 : S.ds.length ≤ 9) (i : Nat) : ∀ p ∈ pcUp S.ds S.gs i S.ds.length, Good p := by
  intro p hp
  unfold pcUp at hp
  obtain ⟨k, hk, hp⟩ := List.mem_flatMap.mp hp
  have hk := List.mem_range.mp hk
  unfold pcAt at hp
  rcases List.mem_append.mp hp with hp | hp
  · split at hp
    · simp only [List.mem_cons, List.not_mem_nil, or_false] at hp
      subst hp
      obtain ⟨b, hb, e⟩ := h.great k hk
      obtain ⟨_, _, g3, g4, _⟩ := great_facts hb (show k < 9 by omega)
      rw [e]
      exact ⟨g3, g4⟩
    · simp at hp
  · split at hp
    · simp only [List.mem_cons, List.not_mem_nil, or_false] at hp
      subst hp
      obtain ⟨_, _, g3⟩ := small_facts (c := 97 + k) (by omega) (by omega)
      exact ⟨g3, inB_cl (by omega) (by omega)⟩
    · simp at hp
theorem nest_le {S : NSt} (h : NInv S) : ∀ k, k < S.ds.length → S.ds.getD k 0 ≤ k
  | 0, _ => by rw [h.zero]; exact Nat.le_refl _
  | k + 1, hk => by have := nest_le h k (by omega); have := h.nest k hk; omega
theorem exists_max : ∀ (l : List Nat), l ≠ [] → ∃ D ∈ l, ∀ d ∈ l, d ≤ D
  | [a], _ => ⟨a, by simp, by simp⟩
  | a :: b :: r, _ => by
    obtain ⟨D, hD, h⟩ := exists_max (b :: r) (by simp)
    by_cases hc : a ≤ D
    · exact ⟨D, List.mem_cons_of_mem _ hD, fun d hd => by rcases List.mem_cons.mp hd with rfl | hd; exact hc; exact h d hd⟩
    · exact ⟨a, by simp, fun d hd => by rcases List.mem_cons.mp hd with rfl | hd; exact Nat.le_refl _; have := h d hd; omega⟩
end XnPlain1Text
theorem rstXnPlain2 (M : PySem.Model) (A : PySem.Around) (env : PySem.Env) (s : PySem.Shared) : True := by
  first
  | (have h : PySem.wpAny M A (PySem.eval (.Constant .none 0 ⟨0, 0, 0, 0⟩) env) (fun _ _ => True) (fun _ _ => True) s := by (walk1; fail)
     trivial)
  | (w_top off
     trivial)
section XnPlain2Text
open PySem PySem.W PySem.W.X PyProof.Rows
set_option maxRecDepth 100000
set_option maxHeartbeats 4000000
set_option linter.all false
/-! ### sums -/
noncomputable def sm : Nat → (Nat → Int) → Int
  | 0, _ => 0
  | n + 1, f => sm n f + f n
theorem sm_congr {n : Nat} {f g : Nat → Int} (h : ∀ k, k < n → f k = g k) : sm n f = sm n g := by
  induction n with
  | zero => rfl
  | succ n ih => show sm n f + f n = sm n g + g n; rw [ih (fun k hk => h k (by omega)), h n (by omega)]
theorem sm_add (n : Nat) (f g : Nat → Int) : sm n (fun k => f k + g k) = sm n f + sm n g := by
  induction n with
  | zero => rfl
  | succ n ih => show sm n _ + (f n + g n) = (sm n f + f n) + (sm n g + g n); rw [ih]; omega
theorem sm_sub (n : Nat) (f g : Nat → Int) : sm n (fun k => f k - g k) = sm n f - sm n g := by
  induction n with
  | zero => rfl
  | succ n ih => show sm n _ + (f n - g n) = (sm n f + f n) - (sm n g + g n); rw [ih]; omega
theorem sm_zero (n : Nat) : sm n (fun _ => 0) = 0 := by
  induction n with
  | zero => rfl
  | succ n ih => show sm n _ + 0 = 0; rw [ih]; rfl
theorem sm_swap (a b : Nat) (f : Nat → Nat → Int) : sm a (fun i => sm b (fun k => f i k)) = sm b (fun k => sm a (fun i => f i k)) := by
  induction a with
  | zero => show 0 = sm b (fun _ => 0); rw [sm_zero]
  | succ a ih =>
    show sm a _ + sm b (fun k => f a k) = sm b (fun k => sm a (fun i => f i k) + f a k)
    rw [ih, sm_add]
/-- the one term -/
theorem sm_one (n c : Nat) (g : Nat → Int) : sm n (fun i => if c = i then g i else 0) = if c < n then g c else 0 := by
  induction n with
  | zero => rfl
  | succ n ih =>
    show sm n _ + (if c = n then g n else 0) = _
    rw [ih]
    by_cases h1 : c < n
    · rw [if_pos h1, if_neg (by omega), if_pos (by omega)]; omega
    · by_cases h2 : c = n
      · subst h2; rw [if_neg h1, if_pos rfl, if_pos (by omega)]; omega
      · rw [if_neg h1, if_neg h2, if_neg (by omega)]; rfl
theorem sm_square (n : Nat) (q : Nat → Nat → Int) : sm n (fun k => sm n (fun m => q m k)) = sm n (fun k => sm k (fun m => q m k) + sm k (fun m => q k m) + q k k) := by
  induction n with
  | zero => rfl
  | succ n ih =>
    have e : sm n (fun k => sm n (fun m => q m k) + q n k) = sm n (fun k => sm k (fun m => q m k) + sm k (fun m => q k m) + q k k) + sm n (fun m => q n m) := by rw [← ih]; exact sm_add n _ _
    show sm n (fun k => sm n (fun m => q m k) + q n k) + (sm n (fun m => q m n) + q n n) = sm n (fun k => sm k (fun m => q m k) + sm k (fun m => q k m) + q k k) + (sm n (fun m => q m n) + sm n (fun m => q n m) + q n n)
    rw [e]; omega
/-- one if it holds -/
noncomputable def one (p : Prop) [Decidable p] : Int := if p then 1 else 0
/-! ### the area -/
noncomputable def bal : List Pc → Int
  | [] => 0
  | p :: r => (if p.1 then 1 else -1) + bal r
noncomputable def areaE : Int → List Pc → Int
  | _, [] => 0
  | e, p :: r => if p.1 then e + areaE (e + 1) r else areaE (e - 1) r
theorem bal_app (a b : List Pc) : bal (a ++ b) = bal a + bal b := by
  induction a with
  | nil => show bal b = 0 + bal b; omega
  | cons p a ih => show _ + bal (a ++ b) = _ + bal a + bal b; rw [ih]; omega
theorem areaE_app (e : Int) (a b : List Pc) : areaE e (a ++ b) = areaE e a + areaE (e + bal a) b := by
  induction a generalizing e with
  | nil => show areaE e b = 0 + areaE (e + 0) b; rw [Int.add_zero]; omega
  | cons p a ih =>
    obtain ⟨q, c⟩ := p
    cases q with
    | true =>
      show e + areaE (e + 1) (a ++ b) = e + areaE (e + 1) a + areaE (e + (1 + bal a)) b
      rw [ih, show e + 1 + bal a = e + (1 + bal a) by omega]; omega
    | false =>
      show areaE (e - 1) (a ++ b) = areaE (e - 1) a + areaE (e + (-1 + bal a)) b
      rw [ih, show e - 1 + bal a = e + (-1 + bal a) by omega]
theorem bal_ups (z : List Pc) : (ups (z.map byt) : Int) - (downs (z.map byt) : Int) = bal z := by
  induction z with
  | nil => rfl
  | cons p z ih =>
    obtain ⟨q, c⟩ := p
    cases q with
    | true =>
      show (((List.filter (fun p => p.1) (opB c :: z.map byt)).length : Nat) : Int) - (((List.filter (fun p => !p.1) (opB c :: z.map byt)).length : Nat) : Int) = 1 + bal z
      rw [List.filter_cons_of_pos rfl, List.filter_cons_of_neg (by simp [opB]), List.length_cons]
      unfold ups downs at ih; omega
    | false =>
      show (((List.filter (fun p => p.1) (clB c :: z.map byt)).length : Nat) : Int) - (((List.filter (fun p => !p.1) (clB c :: z.map byt)).length : Nat) : Int) = -1 + bal z
      rw [List.filter_cons_of_neg (by simp [clB]), List.filter_cons_of_pos rfl, List.length_cons]
      unfold ups downs at ih; omega
theorem areaUp_eq (z : List Pc) : ∀ i, i ≤ z.length → areaUp z i = areaE 0 (z.take i)
  | 0, _ => rfl
  | i + 1, hi => by
    have e : z.take (i + 1) = z.take i ++ [z[i]] := List.take_succ_eq_append_getElem (by omega)
    have hg : z.getD i (false, 0) = z[i] := by rw [List.getD_eq_getElem?_getD, List.getElem?_eq_getElem (by omega)]; rfl
    rw [e, areaE_app, ← areaUp_eq z i (by omega)]
    show areaUp z i + (if (z.getD i (false, 0)).1 then (ups ((z.take i).map byt) : Int) - (downs ((z.take i).map byt) : Int) else 0) = _
    rw [hg, bal_ups]
    congr 1
    generalize z[i] = p
    obtain ⟨q, c⟩ := p
    cases q with
    | true => show bal (z.take i) = (0 + bal (z.take i)) + 0; omega
    | false => rfl
section
variable (ds gs : List Nat)
noncomputable def aa (i k : Nat) : Int := one (ds.getD k 0 = i)
noncomputable def bb (i k : Nat) : Int := one (ds.getD k 0 + 1 = i)
theorem bal_at (i k : Nat) : bal (pcAt ds gs i k) = aa ds i k - bb ds i k := by
  unfold pcAt aa bb one
  by_cases h1 : ds.getD k 0 = i
  · rw [if_pos h1, if_pos h1, if_neg (by omega), if_neg (by omega)]; rfl
  · rw [if_neg h1, if_neg h1]
    by_cases h2 : ds.getD k 0 + 1 = i
    · rw [if_pos h2, if_pos h2]; rfl
    · rw [if_neg h2, if_neg h2]; rfl
theorem area_at (e : Int) (i k : Nat) : areaE e (pcAt ds gs i k) = if ds.getD k 0 = i then e else 0 := by
  unfold pcAt
  by_cases h1 : ds.getD k 0 = i
  · rw [if_pos h1, if_pos h1, if_neg (by omega)]; show e + 0 = e; omega
  · rw [if_neg h1, if_neg h1]
    by_cases h2 : ds.getD k 0 + 1 = i
    · rw [if_pos h2]; rfl
    · rw [if_neg h2]; rfl
theorem bal_up (i n : Nat) : bal (pcUp ds gs i n) = sm n (fun k => aa ds i k - bb ds i k) := by
  induction n with
  | zero => rfl
  | succ n ih => rw [pcUp_succ, bal_app, ih, bal_at]; rfl
theorem area_up (e : Int) (i n : Nat) : areaE e (pcUp ds gs i n) = sm n (fun k => if ds.getD k 0 = i then e + sm k (fun m => aa ds i m - bb ds i m) else 0) := by
  induction n with
  | zero => rfl
  | succ n ih => rw [pcUp_succ, areaE_app, ih, area_at, bal_up]; rfl
noncomputable def rowsUp (N r : Nat) : List Pc := (List.range r).flatMap fun i => pcUp ds gs i N
theorem rowsUp_succ (N r : Nat) : rowsUp ds gs N (r + 1) = rowsUp ds gs N r ++ pcUp ds gs r N := by
  unfold rowsUp; rw [List.range_succ, List.flatMap_append]; simp
theorem bal_rows (N r : Nat) : bal (rowsUp ds gs N r) = sm N (fun k => bb ds r k) := by
  have h : ∀ r, bal (rowsUp ds gs N r) = sm r (fun i => sm N (fun k => aa ds i k - bb ds i k)) := by
    intro r
    induction r with
    | zero => rfl
    | succ r ih => rw [rowsUp_succ, bal_app, ih, bal_up]; rfl
  rw [h, sm_swap]
  refine sm_congr fun k _ => ?_
  rw [sm_sub]
  have e1 : sm r (fun i => aa ds i k) = if ds.getD k 0 < r then 1 else 0 := sm_one r (ds.getD k 0) (fun _ => 1)
  have e2 : sm r (fun i => bb ds i k) = if ds.getD k 0 + 1 < r then 1 else 0 := sm_one r (ds.getD k 0 + 1) (fun _ => 1)
  rw [e1, e2]
  unfold bb one
  by_cases h1 : ds.getD k 0 + 1 = r
  · rw [if_pos h1, if_pos (by omega), if_neg (by omega)]; rfl
  · rw [if_neg h1]
    by_cases h2 : ds.getD k 0 + 1 < r
    · rw [if_pos h2, if_pos (by omega)]; rfl
    · rw [if_neg h2, if_neg (by omega)]; rfl
theorem area_rows (N R : Nat) : areaE 0 (rowsUp ds gs N R) = sm R (fun i => sm N (fun k => if ds.getD k 0 = i then sm N (fun m => bb ds i m) + sm k (fun m => aa ds i m - bb ds i m) else 0)) := by
  induction R with
  | zero => rfl
  | succ R ih =>
    rw [rowsUp_succ, areaE_app, ih, Int.zero_add, bal_rows, area_up]; rfl
theorem pairs_sum (n : Nat) : ((pairsUp ds n : Nat) : Int) = sm n (fun j => sm j (fun i => one (ds.getD i 0 = ds.getD j 0) + one (ds.getD i 0 = ds.getD j 0 + 1))) := by
  have h : ∀ j i, ((pairsAt ds j i : Nat) : Int) = sm i (fun i => one (ds.getD i 0 = ds.getD j 0) + one (ds.getD i 0 = ds.getD j 0 + 1)) := by
    intro j i
    induction i with
    | zero => rfl
    | succ i ih =>
      rw [pairsAt_succ]
      show _ = sm i _ + (one (ds.getD i 0 = ds.getD j 0) + one (ds.getD i 0 = ds.getD j 0 + 1))
      rw [← ih]
      unfold isPair one
      by_cases h1 : ds.getD i 0 = ds.getD j 0
      · rw [decide_eq_true h1, Bool.true_or, if_pos rfl, if_pos h1, if_neg (show ¬ ds.getD i 0 = ds.getD j 0 + 1 by omega)]; simp
      · rw [decide_eq_false h1, Bool.false_or, if_neg h1]
        by_cases h2 : ds.getD i 0 = ds.getD j 0 + 1
        · rw [decide_eq_true h2, if_pos rfl, if_pos h2]; simp
        · rw [decide_eq_false h2, if_neg Bool.false_ne_true, if_neg h2]; simp
  induction n with
  | zero => rfl
  | succ n ih =>
    show ((pairsUp ds n + pairsAt ds n n : Nat) : Int) = sm n _ + _
    rw [Int.natCast_add, ih, h]
/-- the area of the swept nest -/
theorem area_pairs (N R : Nat) (hR : ∀ k, k < N → ds.getD k 0 < R) : areaUp (rowsUp ds gs N R) (rowsUp ds gs N R).length = ((pairsUp ds N : Nat) : Int) := by
  rw [areaUp_eq _ _ (Nat.le_refl _), List.take_length, area_rows, sm_swap, pairs_sum]
  have e1 : sm N (fun k => sm R (fun i => if ds.getD k 0 = i then sm N (fun m => bb ds i m) + sm k (fun m => aa ds i m - bb ds i m) else 0)) =
      sm N (fun k => sm N (fun m => one (ds.getD m 0 + 1 = ds.getD k 0)) + (sm k (fun m => one (ds.getD m 0 = ds.getD k 0)) - sm k (fun m => one (ds.getD m 0 + 1 = ds.getD k 0)))) := by
    refine sm_congr fun k hk => ?_
    rw [sm_one R (ds.getD k 0) (fun i => sm N (fun m => bb ds i m) + sm k (fun m => aa ds i m - bb ds i m)), if_pos (hR k hk), sm_sub]
    rfl
  rw [e1, sm_add, sm_square N (fun m k => one (ds.getD m 0 + 1 = ds.getD k 0)), ← sm_add]
  refine sm_congr fun k _ => ?_
  rw [sm_add]
  have e2 : one (ds.getD k 0 + 1 = ds.getD k 0) = 0 := if_neg (by omega)
  have e3 : sm k (fun m => one (ds.getD k 0 + 1 = ds.getD m 0)) = sm k (fun i => one (ds.getD i 0 = ds.getD k 0 + 1)) := sm_congr fun m _ => by
    unfold one
    by_cases h : ds.getD m 0 = ds.getD k 0 + 1
    · rw [if_pos h, if_pos h.symm]
    · rw [if_neg h, if_neg (Ne.symm h)]
  rw [e2, e3]
  omega
/-! ### counts -/
theorem count_sum (p : Nat → Bool) : ∀ n, n ≤ ds.length → ((((ds.take n).filter p).length : Nat) : Int) = sm n (fun k => if p (ds.getD k 0) then 1 else 0)
  | 0, _ => rfl
  | n + 1, hn => by
    have e : ds.take (n + 1) = ds.take n ++ [ds[n]] := List.take_succ_eq_append_getElem (by omega)
    have hg : ds.getD n 0 = ds[n] := by rw [List.getD_eq_getElem?_getD, List.getElem?_eq_getElem (by omega)]; rfl
    rw [e, List.filter_append, List.length_append, Int.natCast_add, count_sum p n (by omega)]
    show _ = sm n _ + (if p (ds.getD n 0) then 1 else 0)
    rw [hg]
    cases hp : p ds[n] <;> simp [hp]
/-- how many are below -/
noncomputable def lt (j : Nat) : Nat := (ds.filter fun d => decide (d < j)).length
theorem lt_sum (j : Nat) : ((lt ds j : Nat) : Int) = sm ds.length (fun k => one (ds.getD k 0 < j)) := by
  have := count_sum ds (fun d => decide (d < j)) ds.length (Nat.le_refl _)
  rw [List.take_length] at this
  unfold lt
  rw [this]
  refine sm_congr fun k _ => ?_
  unfold one
  by_cases h : ds.getD k 0 < j <;> simp [h]
theorem lt_most (l : Nat) : lt ds (l + 1) = atMost ds l := by
  unfold lt atMost
  congr 1
  refine List.filter_congr fun d _ => ?_
  by_cases h : d ≤ l
  · rw [decide_eq_true h, decide_eq_true (by omega)]
  · rw [decide_eq_false h, decide_eq_false (by omega)]
theorem len_up (i n : Nat) : (((pcUp ds gs i n).length : Nat) : Int) = sm n (fun k => aa ds i k + bb ds i k) := by
  induction n with
  | zero => rfl
  | succ n ih =>
    rw [pcUp_succ, List.length_append, Int.natCast_add, ih]
    show _ = sm n _ + (aa ds i n + bb ds i n)
    congr 1
    unfold pcAt aa bb one
    split <;> split <;> simp
theorem len_row (k : Nat) : (((pcUp ds gs k ds.length).length : Nat) : Int) = (lt ds (k + 1) : Int) - (match k with | 0 => 0 | j + 1 => (lt ds j : Int)) := by
  rw [len_up, lt_sum]
  cases k with
  | zero =>
    show _ = _ - 0
    rw [Int.sub_zero]
    refine sm_congr fun m _ => ?_
    unfold aa bb one
    by_cases h : ds.getD m 0 = 0
    · rw [if_pos h, if_neg (by omega), if_pos (by omega)]; rfl
    · rw [if_neg h, if_neg (by omega), if_neg (by omega)]; rfl
  | succ j =>
    show _ = _ - ((lt ds j : Nat) : Int)
    rw [lt_sum, ← sm_sub]
    refine sm_congr fun m _ => ?_
    unfold aa bb one
    by_cases h1 : ds.getD m 0 < j
    · rw [if_neg (by omega), if_neg (by omega), if_pos (by omega), if_pos h1]; rfl
    · by_cases h2 : ds.getD m 0 = j
      · rw [if_neg (by omega), if_pos (by omega), if_pos (by omega), if_neg h1]; rfl
      · by_cases h3 : ds.getD m 0 = j + 1
        · rw [if_pos h3, if_neg (by omega), if_pos (by omega), if_neg h1]; rfl
        · rw [if_neg h3, if_neg (by omega), if_neg (by omega), if_neg h1]; rfl
end
end XnPlain2Text
theorem rstXnPlain3 (M : PySem.Model) (A : PySem.Around) (env : PySem.Env) (s : PySem.Shared) : True := by
  first
  | (have h : PySem.wpAny M A (PySem.eval (.Constant .none 0 ⟨0, 0, 0, 0⟩) env) (fun _ _ => True) (fun _ _ => True) s := by (walk1; fail)
     trivial)
  | (w_top off
     trivial)
section XnPlain3Text
open PySem PySem.W PySem.W.X PyProof.Rows
set_option maxRecDepth 100000
set_option maxHeartbeats 4000000
set_option linter.all false
section
variable (ds gs : List Nat)
noncomputable def closL (z : List Pc) : Nat := (z.filter fun p => !p.1).length
theorem closL_app (a b : List Pc) : closL (a ++ b) = closL a + closL b := by unfold closL; rw [List.filter_append, List.length_append]
theorem clos_eq (z : List Pc) (i : Nat) : clos z i = closL (z.take i) := rfl
theorem clos_mono (z : List Pc) {a b : Nat} (h : a ≤ b) : clos z a ≤ clos z b := by
  rw [clos_eq, clos_eq]
  have e : z.take b = z.take a ++ (z.take b).drop a := by
    have := List.take_append_drop a (z.take b)
    rw [List.take_take, Nat.min_eq_left h] at this
    exact this.symm
  rw [e, closL_app]; omega
theorem closL_up (i n : Nat) : ((closL (pcUp ds gs i n) : Nat) : Int) = sm n (fun k => bb ds i k) := by
  induction n with
  | zero => rfl
  | succ n ih =>
    rw [pcUp_succ, closL_app, Int.natCast_add, ih]
    show _ = sm n _ + bb ds i n
    congr 1
    unfold pcAt bb one closL
    split <;> split <;> simp
theorem closL_rows (N r : Nat) : ((closL (rowsUp ds gs N (r + 1)) : Nat) : Int) = sm N (fun k => one (ds.getD k 0 < r)) := by
  have h : ∀ r, ((closL (rowsUp ds gs N r) : Nat) : Int) = sm r (fun i => sm N (fun k => bb ds i k)) := by
    intro r
    induction r with
    | zero => rfl
    | succ r ih => rw [rowsUp_succ, closL_app, Int.natCast_add, ih, closL_up]; rfl
  rw [h, sm_swap]
  refine sm_congr fun k _ => ?_
  have e2 : sm (r + 1) (fun i => bb ds i k) = if ds.getD k 0 + 1 < r + 1 then 1 else 0 := sm_one (r + 1) (ds.getD k 0 + 1) (fun _ => 1)
  rw [e2]
  unfold one
  by_cases h : ds.getD k 0 < r
  · rw [if_pos h, if_pos (by omega)]
  · rw [if_neg h, if_neg (by omega)]
theorem rows_prefix (N r : Nat) : ∀ R, r ≤ R → ∃ t, rowsUp ds gs N R = rowsUp ds gs N r ++ t
  | 0, h => ⟨[], by rw [show r = 0 by omega]; simp⟩
  | R + 1, h => by
    by_cases hr : r = R + 1
    · exact ⟨[], by rw [hr]; simp⟩
    · obtain ⟨t, e⟩ := rows_prefix N r R (by omega)
      exact ⟨t ++ pcUp ds gs R N, by rw [rowsUp_succ, e, List.append_assoc]⟩
theorem up_prefix (i n : Nat) : ∀ N, n ≤ N → ∃ t, pcUp ds gs i N = pcUp ds gs i n ++ t
  | 0, h => ⟨[], by rw [show n = 0 by omega]; simp⟩
  | N + 1, h => by
    by_cases hr : n = N + 1
    · exact ⟨[], by rw [hr]; simp⟩
    · obtain ⟨t, e⟩ := up_prefix i n N (by omega)
      exact ⟨t ++ pcAt ds gs i N, by rw [pcUp_succ, e, List.append_assoc]⟩
theorem first_at (k : Nat) : ∀ n, (∃ j, j < n ∧ k ≤ ds.getD j 0) → ∃ j, j < n ∧ k ≤ ds.getD j 0 ∧ ∀ m, m < j → ds.getD m 0 < k
  | 0, h => by obtain ⟨j, hj, _⟩ := h; omega
  | n + 1, h => by
    by_cases h' : ∃ j, j < n ∧ k ≤ ds.getD j 0
    · obtain ⟨j, h1, h2, h3⟩ := first_at k n h'
      exact ⟨j, by omega, h2, h3⟩
    · obtain ⟨j, hj, hk⟩ := h
      have : j = n := by
        by_cases e : j < n
        · exact absurd ⟨j, e, hk⟩ h'
        · omega
      subst this
      refine ⟨j, by omega, hk, fun m hm => ?_⟩
      by_cases e : ds.getD m 0 < k
      · exact e
      · exact absurd ⟨m, hm, by omega⟩ h'
/-- the row behind depth k begins with a closing -/
theorem row_first (hnest : ∀ k, k + 1 < ds.length → ds.getD (k + 1) 0 ≤ ds.getD k 0 + 1) (h0 : ds.getD 0 0 = 0) {D k : Nat} (hD : D ∈ ds) (hk : k ≤ D) : ∃ c t, pcUp ds gs (k + 1) ds.length = (false, c) :: t := by
  obtain ⟨j, hj, e⟩ := List.getElem_of_mem hD
  have hg : ds.getD j 0 = D := by rw [List.getD_eq_getElem?_getD, List.getElem?_eq_getElem hj, ← e]; rfl
  obtain ⟨j, hj, h1, h2⟩ := first_at ds k ds.length ⟨j, hj, by omega⟩
  have hjk : ds.getD j 0 = k := by
    cases j with
    | zero => rw [h0] at h1 ⊢; omega
    | succ j =>
      have a := hnest j hj
      have b := h2 j (by omega)
      omega
  have hz : ∀ n, n ≤ j → pcUp ds gs (k + 1) n = [] := by
    intro n hn
    induction n with
    | zero => rfl
    | succ n ih =>
      have := h2 n (by omega)
      rw [pcUp_succ, ih (by omega)]
      unfold pcAt
      rw [if_neg (by omega), if_neg (by omega)]; rfl
  obtain ⟨t, e⟩ := up_prefix ds gs (k + 1) (j + 1) ds.length (by omega)
  refine ⟨97 + j, t, ?_⟩
  rw [e, pcUp_succ, hz j (Nat.le_refl _)]
  unfold pcAt
  rw [if_neg (by omega), if_pos (by omega)]; rfl
theorem touch (hnest : ∀ k, k + 1 < ds.length → ds.getD (k + 1) 0 ≤ ds.getD k 0 + 1) (h0 : ds.getD 0 0 = 0) {D k i : Nat} (hD : D ∈ ds) (hk : k + 1 < D + 2) (hr : Reach (rowsUp ds gs ds.length (D + 2)) (lt ds k) i) :
    (lt ds k : Int) + (ups (((rowsUp ds gs ds.length (D + 2)).take i).map byt) : Int) - (downs (((rowsUp ds gs ds.length (D + 2)).take i).map byt) : Int) = (lt ds (k + 1) : Int) := by
  obtain ⟨c, t, hc⟩ := row_first ds gs hnest h0 hD (show k ≤ D by omega)
  obtain ⟨t2, ht2⟩ := rows_prefix ds gs ds.length (k + 2) (D + 2) (by omega)
  have hz : rowsUp ds gs ds.length (D + 2) = rowsUp ds gs ds.length (k + 1) ++ ((false, c) :: (t ++ t2)) := by
    rw [ht2, rowsUp_succ, hc, List.append_assoc]; rfl
  have hcl : closL (rowsUp ds gs ds.length (k + 1)) = lt ds k := by
    have h1 := closL_rows ds gs ds.length k
    have h2 := lt_sum ds k
    rw [← h2] at h1
    omega
  have hbal : (lt ds k : Int) + bal (rowsUp ds gs ds.length (k + 1)) = (lt ds (k + 1) : Int) := by
    rw [bal_rows, lt_sum, lt_sum, ← sm_add]
    refine sm_congr fun m _ => ?_
    unfold bb one
    by_cases h1 : ds.getD m 0 < k
    · rw [if_pos h1, if_neg (by omega), if_pos (by omega)]; rfl
    · by_cases h2 : ds.getD m 0 + 1 = k + 1
      · rw [if_neg h1, if_pos h2, if_pos (by omega)]; rfl
      · rw [if_neg h1, if_neg h2, if_neg (by omega)]; rfl
  rw [hz] at hr ⊢
  generalize rowsUp ds gs ds.length (k + 1) = Z at hcl hr hbal ⊢
  have c1 : clos (Z ++ ((false, c) :: (t ++ t2))) Z.length = lt ds k := by rw [clos_eq, List.take_left, hcl]
  have c2 : clos (Z ++ ((false, c) :: (t ++ t2))) (Z.length + 1) = lt ds k + 1 := by
    have e : (Z ++ ((false, c) :: (t ++ t2))).take (Z.length + 1) = Z ++ [(false, c)] := by
      rw [List.take_append, List.take_of_length_le (Nat.le_succ _)]; simp
    rw [clos_eq, e, closL_app, hcl]; rfl
  have hi : i = Z.length := by
    by_cases h1 : i < Z.length
    · have h2 := hr.stop (by rw [List.length_append]; omega)
      have h3 := clos_mono (Z ++ ((false, c) :: (t ++ t2))) (show i + 1 ≤ Z.length by omega)
      omega
    · by_cases h2 : Z.length < i
      · have := hr.few Z.length h2
        omega
      · omega
  subst hi
  rw [List.take_left, Int.add_sub_assoc, bal_ups, hbal]
theorem lt_zero : lt ds 0 = 0 := by unfold lt; simp
theorem lt_all {D : Nat} (h : ∀ d ∈ ds, d ≤ D) : lt ds (D + 1) = ds.length := by
  unfold lt
  rw [List.filter_eq_self.mpr (fun d hd => decide_eq_true (by have := h d hd; omega))]
/-- what touches holds -/
theorem touches_most (D : Nat) : ((List.range (D + 2)).map (lt ds)).map Int.ofNat = 0 :: (List.range (D + 1)).map (fun l => Int.ofNat (atMost ds l)) := by
  rw [List.range_succ_eq_map, List.map_cons, List.map_cons, lt_zero]
  congr 1
  rw [List.map_map, List.map_map]
  refine List.map_congr_left fun l _ => ?_
  show Int.ofNat (lt ds (l + 1)) = _
  rw [lt_most]
/-- what ends holds -/
theorem ends_row {D k : Nat} (hk : k < D + 2) (hmax : ∀ d ∈ ds, d ≤ D) : (((pcUp ds gs k ds.length).length : Nat) : Int) =
    ([0] ++ ((List.range (D + 2)).map (lt ds)).map Int.ofNat ++ [((ds.length : Nat) : Int)]).getD (k + 2) 0 - ([0] ++ ((List.range (D + 2)).map (lt ds)).map Int.ofNat ++ [((ds.length : Nat) : Int)]).getD k 0 := by
  have key : ∀ j, j < D + 2 → ([0] ++ ((List.range (D + 2)).map (lt ds)).map Int.ofNat ++ [((ds.length : Nat) : Int)]).getD (j + 1) 0 = (lt ds j : Int) := by
    intro j hj
    rw [List.getD_eq_getElem?_getD, List.getElem?_append_left (by simp; omega), List.getElem?_append_right (by simp)]
    simp [hj]
  have last : ([0] ++ ((List.range (D + 2)).map (lt ds)).map Int.ofNat ++ [((ds.length : Nat) : Int)]).getD (D + 3) 0 = ((ds.length : Nat) : Int) := by
    rw [List.getD_eq_getElem?_getD, List.getElem?_append_right (by simp)]
    simp
  rw [len_row]
  have e1 : ([0] ++ ((List.range (D + 2)).map (lt ds)).map Int.ofNat ++ [((ds.length : Nat) : Int)]).getD (k + 2) 0 = (lt ds (k + 1) : Int) := by
    by_cases h : k + 1 < D + 2
    · exact key (k + 1) h
    · have : k = D + 1 := by omega
      subst this
      rw [last]
      congr 1
      have h2 : ∀ d ∈ ds, d ≤ D + 1 := fun d hd => by have := hmax d hd; omega
      exact (lt_all ds h2).symm
  rw [e1]
  congr 1
  cases k with
  | zero => rfl
  | succ j => exact (key j (by omega)).symm
end
end XnPlain3Text
theorem rstXnLaw (M : PySem.Model) (A : PySem.Around) (env : PySem.Env) (s : PySem.Shared) : True := by
  first
  | (have h : PySem.wpAny M A (PySem.eval (.Constant .none 0 ⟨0, 0, 0, 0⟩) env) (fun _ _ => True) (fun _ _ => True) s := by (walk1; fail)
     trivial)
  | (w_top off
     trivial)
section XnLawText
open PySem PySem.W PySem.W.X PyProof.Rows
set_option maxRecDepth 100000
set_option maxHeartbeats 4000000
set_option linter.all false
section
variable {w : World} {A : Around} {E : Value → Shared → Prop} {s : Shared}
noncomputable def lawBody : List Stmt := stBody (stAt 16)
theorem lawGo {L : Addr} {Q : Flow → Shared → Prop} (i : Nat) (h : wpAny (model pw w) A (exec (lawS i) (lawEnv L)) (fun f s' => match f with | .next => wpAny (model pw w) A (execs (lawBody.drop (i + 1)) (lawEnv L)) Q E s' | f => Q f s') E s)
    (hi : lawBody.drop i = lawS i :: lawBody.drop (i + 1) := by rfl) : wpAny (model pw w) A (execs (lawBody.drop i) (lawEnv L)) Q E s := by
  rw [hi]
  exact wpAny_execs_cons h
theorem ne_frame {h : Heap} {L a : Addr} {m : Str → Option Value} {xs : Array Value} {n : Nat} {h₀ : Heap} (F : Fr h₀ L h m) (e : h.get? a = some (LO xs n)) : a ≠ L := by
  rintro rfl
  obtain ⟨o, es, k, e', d, _⟩ := F.ns
  rw [e] at e'; cases e'; cases d
theorem ne_fresh {h : Heap} {a b : Addr} {o : Obj} (e : h.get? a = some o) (hn : h.get? b = none) : a ≠ b := by
  rintro rfl; rw [e] at hn; cases hn
theorem Cell.keep {h h' : Heap} {c : Addr} {v : Option Value} {X : List Addr} (x : h.IsCell c v) (k : Keep X h h') (hc : c ∉ X) : h'.IsCell c v := let ⟨o, e, d⟩ := x; ⟨o, k _ _ hc e, d⟩
theorem succ1 (L : Addr) : L + 1 ∉ ([L] : List Addr) := by simp
theorem succ2 (L : Addr) : L + 2 ∉ ([L] : List Addr) := by simp
theorem notL {a L : Addr} (h : a ≠ L) : a ∉ ([L] : List Addr) := by simpa using h
theorem up_len (ds gs : List Nat) (i n : Nat) : (pcUp ds gs i n).length ≤ 2 * n := by
  induction n with
  | zero => exact Nat.le_refl _
  | succ n ih =>
    rw [pcUp_succ, List.length_append]
    have : (pcAt ds gs i n).length ≤ 2 := by
      unfold pcAt; rw [List.length_append]
      split <;> split <;> simp
    omega
theorem rows_len (ds gs : List Nat) (N r : Nat) : (rowsUp ds gs N r).length ≤ r * (2 * N) := by
  induction r with
  | zero => simp [rowsUp]
  | succ r ih =>
    rw [rowsUp_succ, List.length_append, Nat.succ_mul]
    have := up_len ds gs r N
    omega
theorem rows_step {h h' : Heap} {L : Addr} {m : Str → Option Value} {v : Value} {rs : List Addr} {f : Nat → List (Str × Str)} (x : ∀ i r, rs[i]? = some r → ∃ ts, RowIs h r ts (f i)) (F : h.Ns L m) (hv : m "rows" = some v) (k : Keep [L] h h') : ∀ i r, rs[i]? = some r → ∃ ts, RowIs h' r ts (f i) :=
  fun i r hi => let ⟨ts, y⟩ := x i r hi; ⟨ts, y.step F hv (X := []) (by simp) (by simp) k⟩
theorem rows_stepX {h h' : Heap} {L b : Addr} {m : Str → Option Value} {v : Value} {rs : List Addr} {f : Nat → List (Str × Str)} {ob : Obj} (x : ∀ i r, rs[i]? = some r → ∃ ts, RowIs h r ts (f i)) (F : h.Ns L m) (hv : m "rows" = some v) (hb : h.get? b = some ob)
    (g1 : ∀ d xs n, ob ≠ rowObj d xs n) (g2 : ∀ xs, ob ≠ { cls := .type "tuple", data := .seq xs }) (g3 : ∀ es n, ob.data ≠ .dict es n) (k : Keep [L, b] h h') : ∀ i r, rs[i]? = some r → ∃ ts, RowIs h' r ts (f i) := by
  intro i r hi
  obtain ⟨ts, row, len, tup⟩ := x i r hi
  refine ⟨ts, ?_, len, fun j h1 h2 => ?_⟩
  · have hrL := row.ne F
    obtain ⟨d, n, t, e, ⟨o, es, ep, e1, q⟩, ne⟩ := row
    have hd : d ≠ L := fun hh => by
      subst hh
      obtain ⟨o', es', ep', e', hd', hk', hf'⟩ := F
      rw [e'] at e1; cases e1
      have q2 := q.2.2.2 "rows"
      have q1 := q.1
      rw [hd'] at q1; cases q1
      rw [hf', hv] at q2
      cases q2
    have hrT : r ≠ b := fun hh => by
      subst hh
      rw [hb] at e
      exact g1 _ _ _ (Option.some.inj e)
    have hdT : d ≠ b := fun hh => by
      subst hh
      rw [hb] at e1
      have e2 := Option.some.inj e1
      subst e2
      exact g3 _ _ q.1
    exact ⟨d, n, t, k _ _ (by simp [hrL, hrT]) e, ⟨o, es, ep, k _ _ (by simp [hd, hdT]) e1, q⟩, ne⟩
  · have hx := tup j h1 h2
    have hL := hx.neL F
    obtain ⟨t, u, e⟩ := hx
    have hXn : ts[j] ≠ b := fun hh => by
      rw [hh, hb] at e
      exact g2 _ (Option.some.inj e)
    exact ⟨t, u, k _ _ (by simp [hL, hXn]) e⟩
theorem LO_row (xs : Array Value) (n : Nat) (d : Addr) (ys : Array Value) (k : Nat) : LO xs n ≠ rowObj d ys k := fun h => by have := congrArg Obj.cls h; cases this
theorem LO_tup (xs : Array Value) (n : Nat) (ys : Array Value) : LO xs n ≠ { cls := .type "tuple", data := .seq ys } := fun h => by
  have := congrArg Obj.cls h
  exact absurd (Value.type.inj this) (by decide)
set_option maxHeartbeats 1000000 in
theorem law_body {h₀ : Heap} {L a : Addr} {l : List (Int × Tok)} {Q : Flow → Shared → Prop} (W : Wd w h₀) (hA : Ar A 40) (F0 : Fr h₀ L s.heap (fun x => if x = "script" then some (.ref a) else none)) (c1 : s.heap.IsCell (L + 1) none) (c2 : s.heap.IsCell (L + 2) none)
    (hl : h₀.PlainList a (l.map iv).toArray) (h63 : l.length ≤ 63)
    (hQ : ∀ s', (∀ b o, b ≠ 100 → h₀.get? b = some o → s'.heap.get? b = some o) → (∃ ps, s'.heap.IsCode 104 100 ps) → (AllBare s.gens → AllBare s'.gens) → s'.drawn = s.drawn → s'.os = s.os → (T4 h₀ → T4 s'.heap) → Q (.ret (.bool true)) s') :
    wpAny (model pw w) A (execs lawBody (lawEnv L)) Q (fun _ _ => False) s := by
  have hA3 : Ar A 30 := hA.le (by omega)
  have NI := nest_inv (l.map (·.1))
  have NL := nest_len (l.map (·.1))
  show wpAny _ _ (execs (lawBody.drop 0) _) _ _ _
  refine lawGo 0 (law0 W hA3 F0 hl h63 (if_pos rfl) c1 c2 fun s1 m1 aD aG tsp tk gt n1 n2 S1 F1 hD0 hG0 hDG c1 c2 hD htk hG hgt mG msp => ?_)
  generalize nestOf (l.map (·.1)) = S at *
  obtain ⟨D, hmem, hmax⟩ := exists_max S.ds (by intro q; rw [q] at NL; simp at NL)
  have hD8 : D ≤ 8 := by
    obtain ⟨j, hj, e⟩ := List.getElem_of_mem hmem
    have := nest_le NI j hj
    rw [List.getD_eq_getElem?_getD, List.getElem?_eq_getElem hj, Option.getD_some, e] at this
    omega
  have hDL := ne_frame F1 hD
  have hGL := ne_frame F1 hG
  refine lawGo 1 (law1 W hA3 F1 c1 hD hD0 hDL htk hmem hmax (by omega) fun s2 m2 aR nR rs S2 F2 K2 hRn hR hrl hnd hRr hrs mm2 mR => ?_)
  have hR0 := none_back F1.keep hRn
  have hRL := ne_frame F2 hR
  have nD : aD ∉ rs := fun q => by rw [(hrs _ q).1] at hD; cases hD
  have nG : aG ∉ rs := fun q => by rw [(hrs _ q).1] at hG; cases hG
  have n1r : L + 1 ∉ rs := fun q => by obtain ⟨o, e, _⟩ := c1; rw [(hrs _ q).1] at e; cases e
  have n2r : L + 2 ∉ rs := fun q => by obtain ⟨o, e, _⟩ := c2; rw [(hrs _ q).1] at e; cases e
  have hr0 : ∀ r ∈ rs, h₀.get? r = none := fun r hr => none_back F1.keep (hrs r hr).1
  have hrow : ∀ r ∈ rs, RowIs s2.heap r [] [] := fun r hr => (hrs r hr).2
  replace c1 := Cell.keep c1 K2 (succ1 L)
  replace c2 := Cell.keep c2 K2 (succ2 L)
  replace mG := (mm2 "greats" (by decide)).trans mG
  replace msp := (mm2 "spelled" (by decide)).trans msp
  replace hD := K2 _ _ (notL hDL) hD
  replace hG := K2 _ _ (notL hGL) hG
  clear hrs K2 mm2 F1
  refine lawGo 2 (law2 F2 fun s3 m3 t3 S3 F3 K3 mm3 md => ?_)
  replace c1 := Cell.keep c1 K3 (succ1 L)
  replace c2 := Cell.keep c2 K3 (succ2 L)
  replace mG := (mm3 "greats" (by decide)).trans mG
  replace msp := (mm3 "spelled" (by decide)).trans msp
  replace hD := K3 _ _ (notL hDL) hD
  replace hG := K3 _ _ (notL hGL) hG
  replace hR := K3 _ _ (notL hRL) hR
  replace hrow : ∀ r ∈ rs, RowIs s3.heap r [] [] := fun r hr => (hrow r hr).step F2.ns mR (X := []) (by simp) (by simp) K3
  replace mR := (mm3 "rows" (by decide)).trans mR
  clear K3 mm3 F2
  refine lawGo 3 (law3 W hA3 F3 msp md mR hR hR0 hRL hRr (by omega) hnd hr0 hrow (scan_len NI NL.2) (scan_all NI NL.2 rs.length (fun d hd => by have := hmax d hd; omega)) fun s4 m4 S4 F4 K4 mm4 hrow4 => ?_)
  have nl4 : ∀ {b : Addr}, b ≠ L → b ∉ rs → b ∉ L :: rs := fun h1 h2 h => by
    rcases List.mem_cons.mp h with h | h
    · exact h1 h
    · exact h2 h
  replace c1 := Cell.keep c1 K4 (nl4 (Nat.succ_ne_self L) n1r)
  replace c2 := Cell.keep c2 K4 (nl4 (Nat.ne_of_gt (Nat.lt_add_of_pos_right (by decide))) n2r)
  replace mG := (mm4 "greats" (by decide) (by decide) (by decide)).trans mG
  replace hD := K4 _ _ (nl4 hDL nD) hD
  replace hG := K4 _ _ (nl4 hGL nG) hG
  replace hR := K4 _ _ (nl4 hRL hRr) hR
  replace mR := (mm4 "rows" (by decide) (by decide) (by decide)).trans mR
  clear K4 mm4 F3 hrow msp md nl4
  have hzl := rows_len S.ds S.gs S.ds.length (D + 2)
  have hzb : (D + 2) * (2 * S.ds.length) ≤ 10 * 18 := Nat.mul_le_mul (by omega) (by omega)
  refine lawGo 4 (law4 W hA3 F4 mR hR (by omega) hrow4 (pc_good NI NL.2) (by rw [hrl]; show (rowsUp S.ds S.gs S.ds.length (D + 2)).length ≤ 1000; omega) fun s5 m5 aS kS tks S5 F5 K5 hSn hS htks mm5 mS => ?_)
  rw [hrl] at hS htks
  change s5.heap.get? aS = some (LO (byVals (rowsUp S.ds S.gs S.ds.length (D + 2)) tks).toArray kS) at hS
  change tks.length = (rowsUp S.ds S.gs S.ds.length (D + 2)).length at htks
  have hS0 := none_back F4.keep hSn
  have hSL := ne_frame F5 hS
  have hSD := ne_fresh hD hSn
  replace c1 := Cell.keep c1 K5 (succ1 L)
  replace c2 := Cell.keep c2 K5 (succ2 L)
  replace mG := (mm5 "greats" (by decide)).trans mG
  replace hD := K5 _ _ (notL hDL) hD
  replace hG := K5 _ _ (notL hGL) hG
  replace hR := K5 _ _ (notL hRL) hR
  have hrow5 := rows_step hrow4 F4.ns mR K5
  replace mR := (mm5 "rows" (by decide)).trans mR
  clear K5 mm5 F4 hrow4 hSn
  refine lawGo 5 (law5 F5 fun s6 m6 t6 S6 F6 K6 mm6 mA => ?_)
  replace c1 := Cell.keep c1 K6 (succ1 L)
  replace c2 := Cell.keep c2 K6 (succ2 L)
  replace mG := (mm6 "greats" (by decide)).trans mG
  replace hD := K6 _ _ (notL hDL) hD
  replace hG := K6 _ _ (notL hGL) hG
  replace hR := K6 _ _ (notL hRL) hR
  replace hS := K6 _ _ (notL hSL) hS
  have hrow6 := rows_step hrow5 F5.ns mR K6
  replace mR := (mm6 "rows" (by decide)).trans mR
  replace mS := (mm6 "steps" (by decide)).trans mS
  clear K6 mm6 F5 hrow5
  refine lawGo 6 (law6 F6 fun s7 m7 t7 S7 F7 K7 mm7 mh => ?_)
  replace c1 := Cell.keep c1 K7 (succ1 L)
  replace c2 := Cell.keep c2 K7 (succ2 L)
  replace mG := (mm7 "greats" (by decide)).trans mG
  replace mA := (mm7 "area" (by decide)).trans mA
  replace hD := K7 _ _ (notL hDL) hD
  replace hG := K7 _ _ (notL hGL) hG
  replace hR := K7 _ _ (notL hRL) hR
  replace hS := K7 _ _ (notL hSL) hS
  have hrow7 := rows_step hrow6 F6.ns mR K7
  replace mR := (mm7 "rows" (by decide)).trans mR
  replace mS := (mm7 "steps" (by decide)).trans mS
  clear K7 mm7 F6 hrow6
  have hgz : ∀ p ∈ rowsUp S.ds S.gs S.ds.length (D + 2), Good p := fun p hp => by
    obtain ⟨i, _, hp⟩ := List.mem_flatMap.mp hp
    exact pc_good NI NL.2 i p hp
  have ga : ∀ k, k < S.ds.length → S.ds.getD k 0 < D + 2 := fun k hk => by
    rw [List.getD_eq_getElem?_getD, List.getElem?_eq_getElem hk]
    have := hmax _ (List.getElem_mem hk)
    simp only [Option.getD_some]; omega
  refine lawGo 7 (law7 W hA3 F7 mS hS hS0 hSL htks (by omega) hgz mA mh fun s8 m8 t8 S8 F8 K8 mm8 mA => ?_)
  rw [area_pairs S.ds S.gs S.ds.length (D + 2) ga] at mA
  replace c1 := Cell.keep c1 K8 (succ1 L)
  replace c2 := Cell.keep c2 K8 (succ2 L)
  replace mG := (mm8 "greats" (by decide) (by decide) (by decide)).trans mG
  replace hD := K8 _ _ (notL hDL) hD
  replace hG := K8 _ _ (notL hGL) hG
  replace hR := K8 _ _ (notL hRL) hR
  replace hS := K8 _ _ (notL hSL) hS
  have hrow8 := rows_step hrow7 F7.ns mR K8
  replace mR := (mm8 "rows" (by decide) (by decide) (by decide)).trans mR
  replace mS := (mm8 "steps" (by decide) (by decide) (by decide)).trans mS
  clear K8 mm8 F7 hrow7 mh ga
  refine lawGo 8 (law8 F8 fun s9 m9 aT t9 kT S9 F9 K9 mm9 mT hTn hT => ?_)
  have hT0 := none_back F8.keep hTn
  have hTL := ne_frame F9 hT
  have hTD := ne_fresh hD hTn
  have hTG := ne_fresh hG hTn
  have hTR := ne_fresh hR hTn
  have hTS := ne_fresh hS hTn
  have hT1 : L + 1 ≠ aT := let ⟨o, e, _⟩ := c1; ne_fresh e hTn
  have hT2 : L + 2 ≠ aT := let ⟨o, e, _⟩ := c2; ne_fresh e hTn
  replace c1 := Cell.keep c1 K9 (succ1 L)
  replace c2 := Cell.keep c2 K9 (succ2 L)
  replace mG := (mm9 "greats" (by decide)).trans mG
  replace mA := (mm9 "area" (by decide)).trans mA
  replace hD := K9 _ _ (notL hDL) hD
  replace hG := K9 _ _ (notL hGL) hG
  replace hR := K9 _ _ (notL hRL) hR
  replace hS := K9 _ _ (notL hSL) hS
  have hrow9 := rows_step hrow8 F8.ns mR K9
  replace mR := (mm9 "rows" (by decide)).trans mR
  replace mS := (mm9 "steps" (by decide)).trans mS
  clear K9 mm9 F8 hrow8 hTn
  have hTs := hT
  have mR9 := mR
  refine lawGo 9 (law9 (tt := lt S.ds) W hA3 F9 mR hR hR0 hRL (by omega) (by omega) mS hS hS0 hSL hTS htks (by omega) hgz mT hT hT0 hTL (lt_zero _) (fun k hk i hi => touch S.ds S.gs NI.nest NI.zero hmem (by omega) hi) fun s10 m10 ts kT S10 F10 K10 mm10 hT hts => ?_)
  rw [hrl] at hts
  have nl2 : ∀ {b : Addr}, b ≠ L → b ≠ aT → b ∉ ([L, aT] : List Addr) := fun h1 h2 h => by
    simp only [List.mem_cons, List.not_mem_nil, or_false] at h
    rcases h with h | h
    · exact h1 h
    · exact h2 h
  replace c1 := Cell.keep c1 K10 (nl2 (Nat.succ_ne_self L) hT1)
  replace c2 := Cell.keep c2 K10 (nl2 (Nat.ne_of_gt (Nat.lt_add_of_pos_right (by decide))) hT2)
  replace mG := (mm10 "greats" (by decide) (by decide) (by decide) (by decide)).trans mG
  replace mA := (mm10 "area" (by decide) (by decide) (by decide) (by decide)).trans mA
  replace mT := (mm10 "touches" (by decide) (by decide) (by decide) (by decide)).trans mT
  replace hD := K10 _ _ (nl2 hDL hTD) hD
  replace hG := K10 _ _ (nl2 hGL hTG) hG
  replace hR := K10 _ _ (nl2 hRL hTR) hR
  have hrow10 := rows_stepX hrow9 F9.ns mR9 hTs (LO_row _ _) (LO_tup _ _) (fun _ _ h => by cases h) K10
  replace mR := (mm10 "rows" (by decide) (by decide) (by decide) (by decide)).trans mR
  clear K10 mm10 F9 hrow9 hTs mR9 nl2 mS hS hS0 hSL hgz hzl hzb htks hSD hTS
  refine lawGo 10 (law10 W F10 c1 hD hD0 hDL htk (by omega) fun s11 m11 t11 S11 F11 K11 mm11 mC => ?_)
  replace c1 := Cell.keep c1 K11 (succ1 L)
  replace c2 := Cell.keep c2 K11 (succ2 L)
  replace mG := (mm11 "greats" (by decide)).trans mG
  replace mA := (mm11 "area" (by decide)).trans mA
  replace mT := (mm11 "touches" (by decide)).trans mT
  replace hD := K11 _ _ (notL hDL) hD
  replace hG := K11 _ _ (notL hGL) hG
  replace hR := K11 _ _ (notL hRL) hR
  replace hT := K11 _ _ (notL hTL) hT
  have hrow11 := rows_step hrow10 F10.ns mR K11
  replace mR := (mm11 "rows" (by decide)).trans mR
  clear K11 mm11 F10 hrow10
  refine lawGo 11 (law11 W hA3 F11 c1 hD hD0 hDL htk (by omega) mC fun s12 m12 aP kP ps S12 F12 K12 mm12 mP hPn hP hpl => ?_)
  have hP0 := none_back F11.keep hPn
  have hPL := ne_frame F12 hP
  replace c1 := Cell.keep c1 K12 (succ1 L)
  replace c2 := Cell.keep c2 K12 (succ2 L)
  replace mG := (mm12 "greats" (by decide)).trans mG
  replace mA := (mm12 "area" (by decide)).trans mA
  replace mT := (mm12 "touches" (by decide)).trans mT
  replace mC := (mm12 "count" (by decide)).trans mC
  replace hD := K12 _ _ (notL hDL) hD
  replace hG := K12 _ _ (notL hGL) hG
  replace hR := K12 _ _ (notL hRL) hR
  replace hT := K12 _ _ (notL hTL) hT
  have hrow12 := rows_step hrow11 F11.ns mR K12
  replace mR := (mm12 "rows" (by decide)).trans mR
  clear K12 mm12 F11 hrow11 hPn
  refine lawGo 12 (law12 W hA3 F12 c1 hD hD0 hDL htk (by omega) hmem hmax (by omega) fun s13 m13 aM kM us S13 F13 K13 mm13 mM hMn hM hus => ?_)
  have hM0 := none_back F12.keep hMn
  have hML := ne_frame F13 hM
  replace c1 := Cell.keep c1 K13 (succ1 L)
  replace c2 := Cell.keep c2 K13 (succ2 L)
  replace mG := (mm13 "greats" (by decide)).trans mG
  replace mA := (mm13 "area" (by decide)).trans mA
  replace mT := (mm13 "touches" (by decide)).trans mT
  replace mC := (mm13 "count" (by decide)).trans mC
  replace mP := (mm13 "pairs" (by decide)).trans mP
  replace hD := K13 _ _ (notL hDL) hD
  replace hG := K13 _ _ (notL hGL) hG
  replace hR := K13 _ _ (notL hRL) hR
  replace hT := K13 _ _ (notL hTL) hT
  replace hP := K13 _ _ (notL hPL) hP
  have hrow13 := rows_step hrow12 F12.ns mR K13
  replace mR := (mm13 "rows" (by decide)).trans mR
  clear K13 mm13 F12 hrow12 hMn
  have htl : ts.length = D + 2 := by have := congrArg List.length hts; simpa using this
  have hul : us.length = D + 1 := by have := congrArg List.length hus; simpa using this
  refine lawGo 13 (law13 W F13 mT hT hT0 hTL (Ne.symm hT2) (by omega) mC c2 fun s14 aE kE es S14 F14 K14 c2 hEn hE hes => ?_)
  have hEL := ne_frame F14 hE
  have hE0 := none_back F13.keep hEn
  have nl3 : ∀ {b : Addr} {o : Obj}, b ≠ L → s13.heap.get? b = some o → (∀ c, o.data ≠ .cell c) → b ∉ ([L, L + 2] : List Addr) := fun {b o} h1 h2 h3 h => by
    simp only [List.mem_cons, List.not_mem_nil, or_false] at h
    rcases h with h | h
    · exact h1 h
    · obtain ⟨o2, e2, d2⟩ : ∃ o, s13.heap.get? (L + 2) = some o ∧ o.data = .cell none := by assumption
      rw [h, e2] at h2; cases h2
      exact h3 _ d2
  have hrow14 : ∀ i r, rs[i]? = some r → ∃ ts, RowIs s14.heap r ts ((pcUp S.ds S.gs i S.ds.length).map txt) := by
    obtain ⟨o2, e2, d2⟩ : ∃ o, s13.heap.get? (L + 2) = some o ∧ o.data = .cell none := by assumption
    exact rows_stepX hrow13 F13.ns mR e2 (fun d xs n h => by rw [h] at d2; cases d2) (fun xs h => by rw [h] at d2; cases d2) (fun es n h => by rw [h] at d2; cases d2) K14
  replace c1 : s14.heap.IsCell (L + 1) (some (.ref aD)) := Cell.keep c1 K14 (by simp)
  replace hD := K14 _ _ (nl3 hDL hD (fun c h => by cases h)) hD
  replace hG := K14 _ _ (nl3 hGL hG (fun c h => by cases h)) hG
  replace hR := K14 _ _ (nl3 hRL hR (fun c h => by cases h)) hR
  replace hT := K14 _ _ (nl3 hTL hT (fun c h => by cases h)) hT
  replace hP := K14 _ _ (nl3 hPL hP (fun c h => by cases h)) hP
  replace hM := K14 _ _ (nl3 hML hM (fun c h => by cases h)) hM
  clear K14 F13 hrow13 nl3 hEn
  have hpl2 : ∀ i, ((pcUp S.ds S.gs i S.ds.length).map txt).length ≤ 1000 := fun i => by
    have := up_len S.ds S.gs i S.ds.length
    simp only [List.length_map]; omega
  refine lawGo 14 (law14 (l := fun i => (pcUp S.ds S.gs i S.ds.length).map txt) W hA3 F14 mR mG c1 hR hrl hrow14 hpl2 (fun i p hp => ?_) hD hG htk hgt NI.ok.gs NL.2 hmem hmax (by omega) (fun i _ => row_due NI i) fun s15 h₁ S15 W1 hno hbut F15 => ?_)
  · obtain ⟨q, _, rfl⟩ := List.mem_map.mp hp
    have := txt_len q; omega
  have W14 : Wd w s14.heap := W.keeps F14.keep
  have l4 : 104 ≠ L := Nat.ne_of_lt (Nat.lt_of_lt_of_le (Heap.lt_size (W.at 104 _ rfl)) F14.above)
  have l0 : 100 ≠ L := Nat.ne_of_lt (Nat.lt_of_lt_of_le (let ⟨_, _, e, _⟩ := code_op W.C; Heap.lt_size e) F14.above)
  have t15 : T4 h₀ → T4 s15.heap := fun h => S15.tab (T4.keeps h F14.keep)
  have nl100 : ∀ {b : Addr} {xs : Array Value} {n : Nat}, s14.heap.get? b = some (LO xs n) → b ≠ 100 := fun e => fields_ne100 W14 e (fun fs h => by cases h)
  have hrow15 : ∀ i r, rs[i]? = some r → ∃ ts, RowIs s15.heap r ts ((pcUp S.ds S.gs i S.ds.length).map txt) := fun i r hi => let ⟨ts, y⟩ := hrow14 i r hi; ⟨ts, y.but W14 S15.keep⟩
  have c2' : s15.heap.IsCell (L + 2) (some (.ref aE)) := let ⟨o, e, d⟩ := c2; ⟨o, S15.keep _ _ (fields_ne100 W14 e (fun fs h => by rw [h] at d; cases d)) e, d⟩
  replace hR := S15.keep _ _ (nl100 hR) hR
  replace hT := S15.keep _ _ (nl100 hT) hT
  replace hP := S15.keep _ _ (nl100 hP) hP
  replace hM := S15.keep _ _ (nl100 hM) hM
  replace hE := S15.keep _ _ (nl100 hE) hE
  clear hrow14 c1 c2 hD hG nl100
  refine lawGo 15 (law15 W1 hA3 F15 mA mP mT mM hP (hno _ hP0) hPL hT (hno _ hT0) hTL hM (hno _ hM0) hML ?_ (by omega) (by rw [hpl]) (by rw [hts, hus]; exact touches_most S.ds D) fun s16 S16 F16 K16 => ?_)
  · rw [hpl]
    have := pairsUp_le S.ds S.ds.length
    have : S.ds.length * S.ds.length ≤ 9 * 9 := Nat.mul_le_mul NL.2 NL.2
    omega
  have hrow16 := rows_step hrow15 F15.ns mR K16
  replace c2' := Cell.keep c2' K16 (succ2 L)
  replace hR := K16 _ _ (notL hRL) hR
  replace hE := K16 _ _ (notL hEL) hE
  have hel : es.length = rs.length + 2 := by have := congrArg List.length hes; simp [htl] at this; omega
  refine lawGo 16 (law16 W1 hA3 F16 mR hR (hno _ hR0) hRL (by omega) hrow16 hpl2 c2' hE hel (fun k hk => ?_) fun s17 S17 k17 => ?_)
  · rw [hes, hts, List.length_map]
    exact ends_row S.ds S.gs (by omega) hmax
  · have q : Sm s s14 := S1.trans (S2.trans (S3.trans (S4.trans (S5.trans (S6.trans (S7.trans (S8.trans (S9.trans (S10.trans (S11.trans (S12.trans (S13.trans S14))))))))))))
    refine hQ s17 (fun b o hb e => k17 _ _ (F16.keep _ _ ((hbut b hb).trans e))) (let ⟨ps, c⟩ := W1.C; ⟨ps, c.keeps fun b o e => k17 _ _ (F16.keep _ _ e)⟩) (fun h => ?_) ?_ ?_ (fun h => ((t15 h).keep2 (fun o e => K16 104 o (notL l4) e) (fun o e => K16 100 o (notL l0) e)).keeps k17)
    · rw [S17.gens, S16.gens]
      exact S15.bare (by rw [q.gens]; exact h)
    · exact S17.drawn.trans (S16.drawn.trans (S15.drawn.trans q.drawn))
    · exact S17.os.trans (S16.os.trans (S15.os.trans q.os))
/-- law's contract -/
theorem law_call {a : Addr} {l : List (Int × Tok)} {Q : Value → Shared → Prop} (W : Wd w s.heap) (hA : Ar A 60) (hl : s.heap.PlainList a (l.map iv).toArray) (h63 : l.length ≤ 63)
    (hQ : ∀ s', StG s s' → Q (.bool true) s') : wpAny (model pw w) A (call (.ref 218) [.ref a]) Q E s := by
  refine law_enter W hA fun h₁ tk F c1 c2 => ?_
  refine law_body W (Ar.deeper (hA.le (by omega)) _) F c1 c2 hl h63 fun s' k c b d o t => hQ s' ⟨k, c, b, d, o, fun h => t h⟩
end
end XnLawText
section XnHKText
open PySem PySem.W PyProof.Rows
set_option maxRecDepth 100000
set_option linter.all false
noncomputable def drawn0 : Drawn := {}
noncomputable def life0 : Life := {}
noncomputable def entAt (t : Nat) (q : Int × Str) : DictEntry := ⟨q.1, .int q.1 t, .str q.2 (t + 1)⟩
noncomputable def entsL (t : Nat) (ps : List (Int × Str)) : List DictEntry := match ps with | [] => [] | q :: r => entAt t q :: entsL (t + 3) r
noncomputable def entsS (t : Nat) (ps : List (Int × Str)) : List DictEntry := match ps with | [] => [] | q :: r => entAt t q :: entsS (t + 2) r
noncomputable def dO (es : List DictEntry) (n : Nat) : Obj := ⟨.type "dict", none, .dict es.toArray n, #[]⟩
noncomputable def chk (bp : List (Int × Str)) (i : Nat) : List (Int × Str) := (bp.drop (17 * i)).take 17
noncomputable def cE (bp : List (Int × Str)) (i : Nat) : List DictEntry := entsL (512 + 51 * i) (chk bp i)
noncomputable def allB (bp : List (Int × Str)) (i : Nat) : List DictEntry := (List.range i).flatMap (cE bp)
noncomputable def oD0 : Obj := dO (allB b3pairs 38 ++ entsS 2450 (b3pairs.drop 646)) 650
noncomputable def oDi (i : Nat) : Obj := dO (cE b3pairs (i + 1)) 17
noncomputable def oDz : Obj := dO (entsS 2450 (b3pairs.drop 646)) 4
noncomputable def bt_s0 (P : Params) : BT := (.node (o0_s0 P) (.node (o1_s0 P) (.node (o3_s0 P) (.node (o7_s0 P) (.node (o15_s0 P) .nil .nil) (.node (o23_s0 P) .nil .nil)) (.node (o11_s0 P) (.node (o19_s0 P) .nil .nil) (.node (o27_s0 P) .nil .nil))) (.node (o5_s0 P) (.node (o9_s0 P) (.node (o17_s0 P) .nil .nil) (.node (o25_s0 P) .nil .nil)) (.node (o13_s0 P) (.node (o21_s0 P) .nil .nil) .nil))) (.node (o2_s0 P) (.node (o4_s0 P) (.node (o8_s0 P) (.node (o16_s0 P) .nil .nil) (.node (o24_s0 P) .nil .nil)) (.node (o12_s0 P) (.node (o20_s0 P) .nil .nil) .nil)) (.node (o6_s0 P) (.node (o10_s0 P) (.node (o18_s0 P) .nil .nil) (.node (o26_s0 P) .nil .nil)) (.node (o14_s0 P) (.node (o22_s0 P) .nil .nil) .nil))))
noncomputable def S_s0 (w : World) (os : OsState) : SharedT := ⟨bt_s0 w.params, 28, life0, #[], drawn0, 276, os⟩
noncomputable def bt_pre (P : Params) : BT := (.node (o0_s0 P) (.node (o1_s0 P) (.node (o3_s0 P) (.node (o7_s0 P) (.node (o15_s0 P) (.node (o31_pre P) .nil .nil) .nil) (.node (o23_s0 P) .nil .nil)) (.node (o11_s0 P) (.node (o19_s0 P) .nil .nil) (.node (o27_s0 P) .nil .nil))) (.node (o5_s0 P) (.node (o9_s0 P) (.node (o17_s0 P) .nil .nil) (.node (o25_s0 P) .nil .nil)) (.node (o13_s0 P) (.node (o21_s0 P) .nil .nil) (.node (o29_pre P) .nil .nil)))) (.node (o2_s0 P) (.node (o4_s0 P) (.node (o8_s0 P) (.node (o16_s0 P) .nil .nil) (.node (o24_s0 P) .nil .nil)) (.node (o12_s0 P) (.node (o20_s0 P) .nil .nil) (.node (o28_pre P) .nil .nil))) (.node (o6_s0 P) (.node (o10_s0 P) (.node (o18_s0 P) .nil .nil) (.node (o26_s0 P) .nil .nil)) (.node (o14_s0 P) (.node (o22_s0 P) .nil .nil) (.node (o30_pre P) .nil .nil)))))
noncomputable def S_pre (w : World) (os : OsState) : SharedT := ⟨bt_pre w.params, 32, life0, #[], drawn0, 282, os⟩
noncomputable def bt_p5 (P : Params) : BT := (.node (o0_s0 P) (.node (o1_s0 P) (.node (o3_p5 P) (.node (o7_s0 P) (.node (o15_s0 P) (.node (o31_pre P) .nil .nil) (.node (o47_p3 P) .nil .nil)) (.node (o23_s0 P) (.node (o39_p2 P) .nil .nil) .nil)) (.node (o11_s0 P) (.node (o19_s0 P) (.node (o35_p0 P) .nil .nil) (.node (o51_p3 P) .nil .nil)) (.node (o27_s0 P) (.node (o43_p2 P) .nil .nil) .nil))) (.node (o5_s0 P) (.node (o9_s0 P) (.node (o17_s0 P) (.node (o33_p0 P) .nil .nil) (.node (o49_p3 P) .nil .nil)) (.node (o25_s0 P) (.node (o41_p2 P) .nil .nil) .nil)) (.node (o13_s0 P) (.node (o21_s0 P) (.node (o37_p0 P) .nil .nil) .nil) (.node (o29_p3 P) (.node (o45_p3 P) .nil .nil) .nil)))) (.node (o2_s0 P) (.node (o4_s0 P) (.node (o8_s0 P) (.node (o16_s0 P) (.node (o32_p0 P) .nil .nil) (.node (o48_p3 P) .nil .nil)) (.node (o24_s0 P) (.node (o40_p2 P) .nil .nil) .nil)) (.node (o12_s0 P) (.node (o20_s0 P) (.node (o36_p0 P) .nil .nil) .nil) (.node (o28_pre P) (.node (o44_p3 P) .nil .nil) .nil))) (.node (o6_s0 P) (.node (o10_s0 P) (.node (o18_s0 P) (.node (o34_p0 P) .nil .nil) (.node (o50_p3 P) .nil .nil)) (.node (o26_s0 P) (.node (o42_p2 P) .nil .nil) .nil)) (.node (o14_s0 P) (.node (o22_s0 P) (.node (o38_p0 P) .nil .nil) .nil) (.node (o30_pre P) (.node (o46_p3 P) .nil .nil) .nil)))))
noncomputable def S_p5 (w : World) (os : OsState) : SharedT := ⟨bt_p5 w.params, 52, life0, #[], drawn0, 348, os⟩
noncomputable def bt_p6 (P : Params) : BT := (.node (o0_s0 P) (.node (o1_s0 P) (.node (o3_p6 P) (.node (o7_s0 P) (.node (o15_s0 P) (.node (o31_pre P) (.node (o63_p6 P) (.node (o127_p6 P) .nil .nil) .nil) (.node (o95_p6 P) .nil .nil)) (.node (o47_p3 P) (.node (o79_p6 P) .nil .nil) (.node (o111_p6 P) .nil .nil))) (.node (o23_s0 P) (.node (o39_p2 P) (.node (o71_p6 P) (.node (o135_p6 P) .nil .nil) .nil) (.node (o103_p6 P) .nil .nil)) (.node (o55_p6 P) (.node (o87_p6 P) .nil .nil) (.node (o119_p6 P) .nil .nil)))) (.node (o11_s0 P) (.node (o19_s0 P) (.node (o35_p0 P) (.node (o67_p6 P) (.node (o131_p6 P) .nil .nil) .nil) (.node (o99_p6 P) .nil .nil)) (.node (o51_p3 P) (.node (o83_p6 P) .nil .nil) (.node (o115_p6 P) .nil .nil))) (.node (o27_s0 P) (.node (o43_p2 P) (.node (o75_p6 P) .nil .nil) (.node (o107_p6 P) .nil .nil)) (.node (o59_p6 P) (.node (o91_p6 P) .nil .nil) (.node (o123_p6 P) .nil .nil))))) (.node (o5_s0 P) (.node (o9_s0 P) (.node (o17_s0 P) (.node (o33_p0 P) (.node (o65_p6 P) (.node (o129_p6 P) .nil .nil) .nil) (.node (o97_p6 P) .nil .nil)) (.node (o49_p3 P) (.node (o81_p6 P) .nil .nil) (.node (o113_p6 P) .nil .nil))) (.node (o25_s0 P) (.node (o41_p2 P) (.node (o73_p6 P) .nil .nil) (.node (o105_p6 P) .nil .nil)) (.node (o57_p6 P) (.node (o89_p6 P) .nil .nil) (.node (o121_p6 P) .nil .nil)))) (.node (o13_s0 P) (.node (o21_s0 P) (.node (o37_p0 P) (.node (o69_p6 P) (.node (o133_p6 P) .nil .nil) .nil) (.node (o101_p6 P) .nil .nil)) (.node (o53_p6 P) (.node (o85_p6 P) .nil .nil) (.node (o117_p6 P) .nil .nil))) (.node (o29_p6 P) (.node (o45_p3 P) (.node (o77_p6 P) .nil .nil) (.node (o109_p6 P) .nil .nil)) (.node (o61_p6 P) (.node (o93_p6 P) .nil .nil) (.node (o125_p6 P) .nil .nil)))))) (.node (o2_s0 P) (.node (o4_s0 P) (.node (o8_s0 P) (.node (o16_s0 P) (.node (o32_p0 P) (.node (o64_p6 P) (.node (o128_p6 P) .nil .nil) .nil) (.node (o96_p6 P) .nil .nil)) (.node (o48_p3 P) (.node (o80_p6 P) .nil .nil) (.node (o112_p6 P) .nil .nil))) (.node (o24_s0 P) (.node (o40_p2 P) (.node (o72_p6 P) .nil .nil) (.node (o104_p6 P) .nil .nil)) (.node (o56_p6 P) (.node (o88_p6 P) .nil .nil) (.node (o120_p6 P) .nil .nil)))) (.node (o12_s0 P) (.node (o20_s0 P) (.node (o36_p0 P) (.node (o68_p6 P) (.node (o132_p6 P) .nil .nil) .nil) (.node (o100_p6 P) .nil .nil)) (.node (o52_p6 P) (.node (o84_p6 P) .nil .nil) (.node (o116_p6 P) .nil .nil))) (.node (o28_pre P) (.node (o44_p3 P) (.node (o76_p6 P) .nil .nil) (.node (o108_p6 P) .nil .nil)) (.node (o60_p6 P) (.node (o92_p6 P) .nil .nil) (.node (o124_p6 P) .nil .nil))))) (.node (o6_s0 P) (.node (o10_s0 P) (.node (o18_s0 P) (.node (o34_p0 P) (.node (o66_p6 P) (.node (o130_p6 P) .nil .nil) .nil) (.node (o98_p6 P) .nil .nil)) (.node (o50_p3 P) (.node (o82_p6 P) .nil .nil) (.node (o114_p6 P) .nil .nil))) (.node (o26_s0 P) (.node (o42_p2 P) (.node (o74_p6 P) .nil .nil) (.node (o106_p6 P) .nil .nil)) (.node (o58_p6 P) (.node (o90_p6 P) .nil .nil) (.node (o122_p6 P) .nil .nil)))) (.node (o14_s0 P) (.node (o22_s0 P) (.node (o38_p0 P) (.node (o70_p6 P) (.node (o134_p6 P) .nil .nil) .nil) (.node (o102_p6 P) .nil .nil)) (.node (o54_p6 P) (.node (o86_p6 P) .nil .nil) (.node (o118_p6 P) .nil .nil))) (.node (o30_pre P) (.node (o46_p3 P) (.node (o78_p6 P) .nil .nil) (.node (o110_p6 P) .nil .nil)) (.node (o62_p6 P) (.node (o94_p6 P) .nil .nil) (.node (o126_p6 P) .nil .nil)))))))
noncomputable def S_p6 (w : World) (os : OsState) : SharedT := ⟨bt_p6 w.params, 136, life0, #[], drawn0, 443, os⟩
noncomputable def bt_p8 (P : Params) : BT := (.node (o0_s0 P) (.node (o1_s0 P) (.node (o3_p8 P) (.node (o7_s0 P) (.node (o15_s0 P) (.node (o31_pre P) (.node (o63_p6 P) (.node (o127_p6 P) .nil .nil) .nil) (.node (o95_p6 P) .nil .nil)) (.node (o47_p3 P) (.node (o79_p6 P) (.node (o143_p8 P) .nil .nil) .nil) (.node (o111_p6 P) .nil .nil))) (.node (o23_s0 P) (.node (o39_p2 P) (.node (o71_p6 P) (.node (o135_p6 P) .nil .nil) .nil) (.node (o103_p6 P) .nil .nil)) (.node (o55_p6 P) (.node (o87_p6 P) .nil .nil) (.node (o119_p6 P) .nil .nil)))) (.node (o11_s0 P) (.node (o19_s0 P) (.node (o35_p0 P) (.node (o67_p6 P) (.node (o131_p6 P) .nil .nil) .nil) (.node (o99_p6 P) .nil .nil)) (.node (o51_p3 P) (.node (o83_p6 P) .nil .nil) (.node (o115_p6 P) .nil .nil))) (.node (o27_s0 P) (.node (o43_p2 P) (.node (o75_p6 P) (.node (o139_p8 P) .nil .nil) .nil) (.node (o107_p6 P) .nil .nil)) (.node (o59_p6 P) (.node (o91_p6 P) .nil .nil) (.node (o123_p6 P) .nil .nil))))) (.node (o5_s0 P) (.node (o9_s0 P) (.node (o17_s0 P) (.node (o33_p0 P) (.node (o65_p6 P) (.node (o129_p6 P) .nil .nil) .nil) (.node (o97_p6 P) .nil .nil)) (.node (o49_p3 P) (.node (o81_p6 P) (.node (o145_p8 P) .nil .nil) .nil) (.node (o113_p6 P) .nil .nil))) (.node (o25_s0 P) (.node (o41_p2 P) (.node (o73_p6 P) (.node (o137_p8 P) .nil .nil) .nil) (.node (o105_p6 P) .nil .nil)) (.node (o57_p6 P) (.node (o89_p6 P) .nil .nil) (.node (o121_p6 P) .nil .nil)))) (.node (o13_s0 P) (.node (o21_s0 P) (.node (o37_p0 P) (.node (o69_p6 P) (.node (o133_p6 P) .nil .nil) .nil) (.node (o101_p6 P) .nil .nil)) (.node (o53_p6 P) (.node (o85_p6 P) .nil .nil) (.node (o117_p6 P) .nil .nil))) (.node (o29_p6 P) (.node (o45_p3 P) (.node (o77_p6 P) (.node (o141_p8 P) .nil .nil) .nil) (.node (o109_p6 P) .nil .nil)) (.node (o61_p6 P) (.node (o93_p6 P) .nil .nil) (.node (o125_p6 P) .nil .nil)))))) (.node (o2_s0 P) (.node (o4_s0 P) (.node (o8_s0 P) (.node (o16_s0 P) (.node (o32_p0 P) (.node (o64_p6 P) (.node (o128_p6 P) .nil .nil) .nil) (.node (o96_p6 P) .nil .nil)) (.node (o48_p3 P) (.node (o80_p6 P) (.node (o144_p8 P) .nil .nil) .nil) (.node (o112_p6 P) .nil .nil))) (.node (o24_s0 P) (.node (o40_p2 P) (.node (o72_p6 P) (.node (o136_p8 P) .nil .nil) .nil) (.node (o104_p6 P) .nil .nil)) (.node (o56_p6 P) (.node (o88_p6 P) .nil .nil) (.node (o120_p6 P) .nil .nil)))) (.node (o12_s0 P) (.node (o20_s0 P) (.node (o36_p0 P) (.node (o68_p6 P) (.node (o132_p6 P) .nil .nil) .nil) (.node (o100_p6 P) .nil .nil)) (.node (o52_p6 P) (.node (o84_p6 P) .nil .nil) (.node (o116_p6 P) .nil .nil))) (.node (o28_pre P) (.node (o44_p3 P) (.node (o76_p6 P) (.node (o140_p8 P) .nil .nil) .nil) (.node (o108_p6 P) .nil .nil)) (.node (o60_p6 P) (.node (o92_p6 P) .nil .nil) (.node (o124_p6 P) .nil .nil))))) (.node (o6_s0 P) (.node (o10_s0 P) (.node (o18_s0 P) (.node (o34_p0 P) (.node (o66_p6 P) (.node (o130_p6 P) .nil .nil) .nil) (.node (o98_p6 P) .nil .nil)) (.node (o50_p3 P) (.node (o82_p6 P) (.node (o146_p8 P) .nil .nil) .nil) (.node (o114_p6 P) .nil .nil))) (.node (o26_s0 P) (.node (o42_p2 P) (.node (o74_p6 P) (.node (o138_p8 P) .nil .nil) .nil) (.node (o106_p6 P) .nil .nil)) (.node (o58_p6 P) (.node (o90_p6 P) .nil .nil) (.node (o122_p6 P) .nil .nil)))) (.node (o14_s0 P) (.node (o22_s0 P) (.node (o38_p0 P) (.node (o70_p6 P) (.node (o134_p6 P) .nil .nil) .nil) (.node (o102_p6 P) .nil .nil)) (.node (o54_p6 P) (.node (o86_p6 P) .nil .nil) (.node (o118_p6 P) .nil .nil))) (.node (o30_pre P) (.node (o46_p3 P) (.node (o78_p6 P) (.node (o142_p8 P) .nil .nil) .nil) (.node (o110_p6 P) .nil .nil)) (.node (o62_p6 P) (.node (o94_p6 P) .nil .nil) (.node (o126_p6 P) .nil .nil)))))))
noncomputable def S_p8 (w : World) (os : OsState) : SharedT := ⟨bt_p8 w.params, 147, life0, #[], drawn0, 505, os⟩
noncomputable def bt_p9 (P : Params) : BT := (.node (o0_s0 P) (.node (o1_s0 P) (.node (o3_p9 P) (.node (o7_s0 P) (.node (o15_s0 P) (.node (o31_pre P) (.node (o63_p6 P) (.node (o127_p6 P) .nil .nil) .nil) (.node (o95_p6 P) .nil .nil)) (.node (o47_p3 P) (.node (o79_p6 P) (.node (o143_p8 P) .nil .nil) .nil) (.node (o111_p6 P) .nil .nil))) (.node (o23_s0 P) (.node (o39_p2 P) (.node (o71_p6 P) (.node (o135_p6 P) .nil .nil) .nil) (.node (o103_p6 P) .nil .nil)) (.node (o55_p6 P) (.node (o87_p6 P) (.node (o151_p9 P) .nil .nil) .nil) (.node (o119_p6 P) .nil .nil)))) (.node (o11_s0 P) (.node (o19_s0 P) (.node (o35_p0 P) (.node (o67_p6 P) (.node (o131_p6 P) .nil .nil) .nil) (.node (o99_p6 P) .nil .nil)) (.node (o51_p3 P) (.node (o83_p6 P) (.node (o147_p9 P) .nil .nil) .nil) (.node (o115_p6 P) .nil .nil))) (.node (o27_s0 P) (.node (o43_p2 P) (.node (o75_p6 P) (.node (o139_p8 P) .nil .nil) .nil) (.node (o107_p6 P) .nil .nil)) (.node (o59_p6 P) (.node (o91_p6 P) .nil .nil) (.node (o123_p6 P) .nil .nil))))) (.node (o5_s0 P) (.node (o9_s0 P) (.node (o17_s0 P) (.node (o33_p0 P) (.node (o65_p6 P) (.node (o129_p6 P) .nil .nil) .nil) (.node (o97_p6 P) .nil .nil)) (.node (o49_p3 P) (.node (o81_p6 P) (.node (o145_p8 P) .nil .nil) .nil) (.node (o113_p6 P) .nil .nil))) (.node (o25_s0 P) (.node (o41_p2 P) (.node (o73_p6 P) (.node (o137_p8 P) .nil .nil) .nil) (.node (o105_p6 P) .nil .nil)) (.node (o57_p6 P) (.node (o89_p6 P) (.node (o153_p9 P) .nil .nil) .nil) (.node (o121_p6 P) .nil .nil)))) (.node (o13_s0 P) (.node (o21_s0 P) (.node (o37_p0 P) (.node (o69_p6 P) (.node (o133_p6 P) .nil .nil) .nil) (.node (o101_p6 P) .nil .nil)) (.node (o53_p6 P) (.node (o85_p6 P) (.node (o149_p9 P) .nil .nil) .nil) (.node (o117_p6 P) .nil .nil))) (.node (o29_p9 P) (.node (o45_p3 P) (.node (o77_p6 P) (.node (o141_p8 P) .nil .nil) .nil) (.node (o109_p6 P) .nil .nil)) (.node (o61_p6 P) (.node (o93_p6 P) .nil .nil) (.node (o125_p6 P) .nil .nil)))))) (.node (o2_s0 P) (.node (o4_s0 P) (.node (o8_s0 P) (.node (o16_s0 P) (.node (o32_p0 P) (.node (o64_p6 P) (.node (o128_p6 P) .nil .nil) .nil) (.node (o96_p6 P) .nil .nil)) (.node (o48_p3 P) (.node (o80_p6 P) (.node (o144_p8 P) .nil .nil) .nil) (.node (o112_p6 P) .nil .nil))) (.node (o24_s0 P) (.node (o40_p2 P) (.node (o72_p6 P) (.node (o136_p8 P) .nil .nil) .nil) (.node (o104_p6 P) .nil .nil)) (.node (o56_p6 P) (.node (o88_p6 P) (.node (o152_p9 P) .nil .nil) .nil) (.node (o120_p6 P) .nil .nil)))) (.node (o12_s0 P) (.node (o20_s0 P) (.node (o36_p0 P) (.node (o68_p6 P) (.node (o132_p6 P) .nil .nil) .nil) (.node (o100_p6 P) .nil .nil)) (.node (o52_p6 P) (.node (o84_p6 P) (.node (o148_p9 P) .nil .nil) .nil) (.node (o116_p6 P) .nil .nil))) (.node (o28_pre P) (.node (o44_p3 P) (.node (o76_p6 P) (.node (o140_p8 P) .nil .nil) .nil) (.node (o108_p6 P) .nil .nil)) (.node (o60_p6 P) (.node (o92_p6 P) .nil .nil) (.node (o124_p6 P) .nil .nil))))) (.node (o6_s0 P) (.node (o10_s0 P) (.node (o18_s0 P) (.node (o34_p0 P) (.node (o66_p6 P) (.node (o130_p6 P) .nil .nil) .nil) (.node (o98_p6 P) .nil .nil)) (.node (o50_p3 P) (.node (o82_p6 P) (.node (o146_p8 P) .nil .nil) .nil) (.node (o114_p6 P) .nil .nil))) (.node (o26_s0 P) (.node (o42_p2 P) (.node (o74_p6 P) (.node (o138_p8 P) .nil .nil) .nil) (.node (o106_p6 P) .nil .nil)) (.node (o58_p6 P) (.node (o90_p6 P) .nil .nil) (.node (o122_p6 P) .nil .nil)))) (.node (o14_s0 P) (.node (o22_s0 P) (.node (o38_p0 P) (.node (o70_p6 P) (.node (o134_p6 P) .nil .nil) .nil) (.node (o102_p6 P) .nil .nil)) (.node (o54_p6 P) (.node (o86_p6 P) (.node (o150_p9 P) .nil .nil) .nil) (.node (o118_p6 P) .nil .nil))) (.node (o30_pre P) (.node (o46_p3 P) (.node (o78_p6 P) (.node (o142_p8 P) .nil .nil) .nil) (.node (o110_p6 P) .nil .nil)) (.node (o62_p6 P) (.node (o94_p6 P) .nil .nil) (.node (o126_p6 P) .nil .nil)))))))
noncomputable def S_p9 (w : World) (os : OsState) : SharedT := ⟨bt_p9 w.params, 154, life0, #[], drawn0, 512, os⟩
noncomputable def bt_mid (P : Params) : BT := (.node (o0_s0 P) (.node (o1_s0 P) (.node (o3_p9 P) (.node (o7_s0 P) (.node (o15_s0 P) (.node (o31_pre P) (.node (o63_p6 P) (.node (o127_p6 P) .nil .nil) (.node (oDi 36) .nil .nil)) (.node (o95_p6 P) (.node (oDi 4) .nil .nil) .nil)) (.node (o47_p3 P) (.node (o79_p6 P) (.node (o143_p8 P) .nil .nil) .nil) (.node (o111_p6 P) (.node (oDi 20) .nil .nil) .nil))) (.node (o23_s0 P) (.node (o39_p2 P) (.node (o71_p6 P) (.node (o135_p6 P) .nil .nil) .nil) (.node (o103_p6 P) (.node (oDi 12) .nil .nil) .nil)) (.node (o55_p6 P) (.node (o87_p6 P) (.node (o151_p9 P) .nil .nil) .nil) (.node (o119_p6 P) (.node (oDi 28) .nil .nil) .nil)))) (.node (o11_s0 P) (.node (o19_s0 P) (.node (o35_p0 P) (.node (o67_p6 P) (.node (o131_p6 P) .nil .nil) .nil) (.node (o99_p6 P) (.node (oDi 8) .nil .nil) .nil)) (.node (o51_p3 P) (.node (o83_p6 P) (.node (o147_p9 P) .nil .nil) .nil) (.node (o115_p6 P) (.node (oDi 24) .nil .nil) .nil))) (.node (o27_s0 P) (.node (o43_p2 P) (.node (o75_p6 P) (.node (o139_p8 P) .nil .nil) .nil) (.node (o107_p6 P) (.node (oDi 16) .nil .nil) .nil)) (.node (o59_p6 P) (.node (o91_p6 P) (.node (oDi 0) .nil .nil) .nil) (.node (o123_p6 P) (.node (oDi 32) .nil .nil) .nil))))) (.node (o5_s0 P) (.node (o9_s0 P) (.node (o17_s0 P) (.node (o33_p0 P) (.node (o65_p6 P) (.node (o129_p6 P) .nil .nil) .nil) (.node (o97_p6 P) (.node (oDi 6) .nil .nil) .nil)) (.node (o49_p3 P) (.node (o81_p6 P) (.node (o145_p8 P) .nil .nil) .nil) (.node (o113_p6 P) (.node (oDi 22) .nil .nil) .nil))) (.node (o25_s0 P) (.node (o41_p2 P) (.node (o73_p6 P) (.node (o137_p8 P) .nil .nil) .nil) (.node (o105_p6 P) (.node (oDi 14) .nil .nil) .nil)) (.node (o57_p6 P) (.node (o89_p6 P) (.node (o153_p9 P) .nil .nil) .nil) (.node (o121_p6 P) (.node (oDi 30) .nil .nil) .nil)))) (.node (o13_s0 P) (.node (o21_s0 P) (.node (o37_p0 P) (.node (o69_p6 P) (.node (o133_p6 P) .nil .nil) .nil) (.node (o101_p6 P) (.node (oDi 10) .nil .nil) .nil)) (.node (o53_p6 P) (.node (o85_p6 P) (.node (o149_p9 P) .nil .nil) .nil) (.node (o117_p6 P) (.node (oDi 26) .nil .nil) .nil))) (.node (o29_p9 P) (.node (o45_p3 P) (.node (o77_p6 P) (.node (o141_p8 P) .nil .nil) .nil) (.node (o109_p6 P) (.node (oDi 18) .nil .nil) .nil)) (.node (o61_p6 P) (.node (o93_p6 P) (.node (oDi 2) .nil .nil) .nil) (.node (o125_p6 P) (.node (oDi 34) .nil .nil) .nil)))))) (.node (o2_s0 P) (.node (o4_s0 P) (.node (o8_s0 P) (.node (o16_s0 P) (.node (o32_p0 P) (.node (o64_p6 P) (.node (o128_p6 P) .nil .nil) (.node (oDz) .nil .nil)) (.node (o96_p6 P) (.node (oDi 5) .nil .nil) .nil)) (.node (o48_p3 P) (.node (o80_p6 P) (.node (o144_p8 P) .nil .nil) .nil) (.node (o112_p6 P) (.node (oDi 21) .nil .nil) .nil))) (.node (o24_s0 P) (.node (o40_p2 P) (.node (o72_p6 P) (.node (o136_p8 P) .nil .nil) .nil) (.node (o104_p6 P) (.node (oDi 13) .nil .nil) .nil)) (.node (o56_p6 P) (.node (o88_p6 P) (.node (o152_p9 P) .nil .nil) .nil) (.node (o120_p6 P) (.node (oDi 29) .nil .nil) .nil)))) (.node (o12_s0 P) (.node (o20_s0 P) (.node (o36_p0 P) (.node (o68_p6 P) (.node (o132_p6 P) .nil .nil) .nil) (.node (o100_p6 P) (.node (oDi 9) .nil .nil) .nil)) (.node (o52_p6 P) (.node (o84_p6 P) (.node (o148_p9 P) .nil .nil) .nil) (.node (o116_p6 P) (.node (oDi 25) .nil .nil) .nil))) (.node (o28_pre P) (.node (o44_p3 P) (.node (o76_p6 P) (.node (o140_p8 P) .nil .nil) .nil) (.node (o108_p6 P) (.node (oDi 17) .nil .nil) .nil)) (.node (o60_p6 P) (.node (o92_p6 P) (.node (oDi 1) .nil .nil) .nil) (.node (o124_p6 P) (.node (oDi 33) .nil .nil) .nil))))) (.node (o6_s0 P) (.node (o10_s0 P) (.node (o18_s0 P) (.node (o34_p0 P) (.node (o66_p6 P) (.node (o130_p6 P) .nil .nil) .nil) (.node (o98_p6 P) (.node (oDi 7) .nil .nil) .nil)) (.node (o50_p3 P) (.node (o82_p6 P) (.node (o146_p8 P) .nil .nil) .nil) (.node (o114_p6 P) (.node (oDi 23) .nil .nil) .nil))) (.node (o26_s0 P) (.node (o42_p2 P) (.node (o74_p6 P) (.node (o138_p8 P) .nil .nil) .nil) (.node (o106_p6 P) (.node (oDi 15) .nil .nil) .nil)) (.node (o58_p6 P) (.node (o90_p6 P) (.node (oD0) .nil .nil) .nil) (.node (o122_p6 P) (.node (oDi 31) .nil .nil) .nil)))) (.node (o14_s0 P) (.node (o22_s0 P) (.node (o38_p0 P) (.node (o70_p6 P) (.node (o134_p6 P) .nil .nil) .nil) (.node (o102_p6 P) (.node (oDi 11) .nil .nil) .nil)) (.node (o54_p6 P) (.node (o86_p6 P) (.node (o150_p9 P) .nil .nil) .nil) (.node (o118_p6 P) (.node (oDi 27) .nil .nil) .nil))) (.node (o30_pre P) (.node (o46_p3 P) (.node (o78_p6 P) (.node (o142_p8 P) .nil .nil) .nil) (.node (o110_p6 P) (.node (oDi 19) .nil .nil) .nil)) (.node (o62_p6 P) (.node (o94_p6 P) (.node (oDi 3) .nil .nil) .nil) (.node (o126_p6 P) (.node (oDi 35) .nil .nil) .nil)))))))
noncomputable def S_mid (w : World) (os : OsState) : SharedT := ⟨bt_mid w.params, 193, life0, #[], drawn0, 2462, os⟩
noncomputable def bt_p10 (P : Params) : BT := (.node (o0_s0 P) (.node (o1_s0 P) (.node (o3_p10 P) (.node (o7_s0 P) (.node (o15_s0 P) (.node (o31_pre P) (.node (o63_p6 P) (.node (o127_p6 P) .nil .nil) (.node (oDi 36) .nil .nil)) (.node (o95_p6 P) (.node (oDi 4) .nil .nil) .nil)) (.node (o47_p3 P) (.node (o79_p6 P) (.node (o143_p8 P) .nil .nil) .nil) (.node (o111_p6 P) (.node (oDi 20) .nil .nil) .nil))) (.node (o23_s0 P) (.node (o39_p2 P) (.node (o71_p6 P) (.node (o135_p6 P) .nil .nil) .nil) (.node (o103_p6 P) (.node (oDi 12) .nil .nil) .nil)) (.node (o55_p6 P) (.node (o87_p6 P) (.node (o151_p9 P) .nil .nil) .nil) (.node (o119_p6 P) (.node (oDi 28) .nil .nil) .nil)))) (.node (o11_s0 P) (.node (o19_s0 P) (.node (o35_p0 P) (.node (o67_p6 P) (.node (o131_p6 P) .nil .nil) .nil) (.node (o99_p6 P) (.node (oDi 8) .nil .nil) .nil)) (.node (o51_p3 P) (.node (o83_p6 P) (.node (o147_p9 P) .nil .nil) .nil) (.node (o115_p6 P) (.node (oDi 24) .nil .nil) .nil))) (.node (o27_s0 P) (.node (o43_p2 P) (.node (o75_p6 P) (.node (o139_p8 P) .nil .nil) .nil) (.node (o107_p6 P) (.node (oDi 16) .nil .nil) .nil)) (.node (o59_p6 P) (.node (o91_p6 P) (.node (oDi 0) .nil .nil) .nil) (.node (o123_p6 P) (.node (oDi 32) .nil .nil) .nil))))) (.node (o5_s0 P) (.node (o9_s0 P) (.node (o17_s0 P) (.node (o33_p0 P) (.node (o65_p6 P) (.node (o129_p6 P) .nil .nil) .nil) (.node (o97_p6 P) (.node (oDi 6) .nil .nil) .nil)) (.node (o49_p3 P) (.node (o81_p6 P) (.node (o145_p8 P) .nil .nil) .nil) (.node (o113_p6 P) (.node (oDi 22) .nil .nil) .nil))) (.node (o25_s0 P) (.node (o41_p2 P) (.node (o73_p6 P) (.node (o137_p8 P) .nil .nil) .nil) (.node (o105_p6 P) (.node (oDi 14) .nil .nil) .nil)) (.node (o57_p6 P) (.node (o89_p6 P) (.node (o153_p9 P) .nil .nil) .nil) (.node (o121_p6 P) (.node (oDi 30) .nil .nil) .nil)))) (.node (o13_s0 P) (.node (o21_s0 P) (.node (o37_p0 P) (.node (o69_p6 P) (.node (o133_p6 P) .nil .nil) .nil) (.node (o101_p6 P) (.node (oDi 10) .nil .nil) .nil)) (.node (o53_p6 P) (.node (o85_p6 P) (.node (o149_p9 P) .nil .nil) .nil) (.node (o117_p6 P) (.node (oDi 26) .nil .nil) .nil))) (.node (o29_p9 P) (.node (o45_p3 P) (.node (o77_p6 P) (.node (o141_p8 P) .nil .nil) .nil) (.node (o109_p6 P) (.node (oDi 18) .nil .nil) .nil)) (.node (o61_p6 P) (.node (o93_p6 P) (.node (oDi 2) .nil .nil) .nil) (.node (o125_p6 P) (.node (oDi 34) .nil .nil) .nil)))))) (.node (o2_s0 P) (.node (o4_s0 P) (.node (o8_s0 P) (.node (o16_s0 P) (.node (o32_p0 P) (.node (o64_p6 P) (.node (o128_p6 P) .nil .nil) (.node (oDz) .nil .nil)) (.node (o96_p6 P) (.node (oDi 5) .nil .nil) .nil)) (.node (o48_p3 P) (.node (o80_p6 P) (.node (o144_p8 P) .nil .nil) .nil) (.node (o112_p6 P) (.node (oDi 21) .nil .nil) .nil))) (.node (o24_s0 P) (.node (o40_p2 P) (.node (o72_p6 P) (.node (o136_p8 P) .nil .nil) .nil) (.node (o104_p6 P) (.node (oDi 13) .nil .nil) .nil)) (.node (o56_p6 P) (.node (o88_p6 P) (.node (o152_p9 P) .nil .nil) .nil) (.node (o120_p6 P) (.node (oDi 29) .nil .nil) .nil)))) (.node (o12_s0 P) (.node (o20_s0 P) (.node (o36_p0 P) (.node (o68_p6 P) (.node (o132_p6 P) .nil .nil) .nil) (.node (o100_p6 P) (.node (oDi 9) .nil .nil) .nil)) (.node (o52_p6 P) (.node (o84_p6 P) (.node (o148_p9 P) .nil .nil) .nil) (.node (o116_p6 P) (.node (oDi 25) .nil .nil) .nil))) (.node (o28_pre P) (.node (o44_p3 P) (.node (o76_p6 P) (.node (o140_p8 P) .nil .nil) .nil) (.node (o108_p6 P) (.node (oDi 17) .nil .nil) .nil)) (.node (o60_p6 P) (.node (o92_p6 P) (.node (oDi 1) .nil .nil) .nil) (.node (o124_p6 P) (.node (oDi 33) .nil .nil) .nil))))) (.node (o6_s0 P) (.node (o10_s0 P) (.node (o18_s0 P) (.node (o34_p0 P) (.node (o66_p6 P) (.node (o130_p6 P) .nil .nil) .nil) (.node (o98_p6 P) (.node (oDi 7) .nil .nil) .nil)) (.node (o50_p3 P) (.node (o82_p6 P) (.node (o146_p8 P) .nil .nil) .nil) (.node (o114_p6 P) (.node (oDi 23) .nil .nil) .nil))) (.node (o26_s0 P) (.node (o42_p2 P) (.node (o74_p6 P) (.node (o138_p8 P) .nil .nil) .nil) (.node (o106_p6 P) (.node (oDi 15) .nil .nil) .nil)) (.node (o58_p6 P) (.node (o90_p6 P) (.node (oD0) .nil .nil) .nil) (.node (o122_p6 P) (.node (oDi 31) .nil .nil) .nil)))) (.node (o14_s0 P) (.node (o22_s0 P) (.node (o38_p0 P) (.node (o70_p6 P) (.node (o134_p6 P) .nil .nil) .nil) (.node (o102_p6 P) (.node (oDi 11) .nil .nil) .nil)) (.node (o54_p6 P) (.node (o86_p6 P) (.node (o150_p9 P) .nil .nil) .nil) (.node (o118_p6 P) (.node (oDi 27) .nil .nil) .nil))) (.node (o30_pre P) (.node (o46_p3 P) (.node (o78_p6 P) (.node (o142_p8 P) .nil .nil) .nil) (.node (o110_p6 P) (.node (oDi 19) .nil .nil) .nil)) (.node (o62_p6 P) (.node (o94_p6 P) (.node (oDi 3) .nil .nil) .nil) (.node (o126_p6 P) (.node (oDi 35) .nil .nil) .nil)))))))
noncomputable def S_p10 (w : World) (os : OsState) : SharedT := ⟨bt_p10 w.params, 193, life0, #[], drawn0, 2463, os⟩
noncomputable def bt_p15 (P : Params) : BT := (.node (o0_s0 P) (.node (o1_s0 P) (.node (o3_p15 P) (.node (o7_s0 P) (.node (o15_s0 P) (.node (o31_pre P) (.node (o63_p6 P) (.node (o127_p6 P) .nil .nil) (.node (oDi 36) .nil .nil)) (.node (o95_p6 P) (.node (oDi 4) .nil .nil) .nil)) (.node (o47_p3 P) (.node (o79_p6 P) (.node (o143_p8 P) .nil .nil) (.node (o207_p14 P) .nil .nil)) (.node (o111_p6 P) (.node (oDi 20) .nil .nil) .nil))) (.node (o23_s0 P) (.node (o39_p2 P) (.node (o71_p6 P) (.node (o135_p6 P) .nil .nil) (.node (o199_p11 P) .nil .nil)) (.node (o103_p6 P) (.node (oDi 12) .nil .nil) .nil)) (.node (o55_p6 P) (.node (o87_p6 P) (.node (o151_p9 P) .nil .nil) (.node (o215_p15 P) .nil .nil)) (.node (o119_p6 P) (.node (oDi 28) .nil .nil) .nil)))) (.node (o11_s0 P) (.node (o19_s0 P) (.node (o35_p0 P) (.node (o67_p6 P) (.node (o131_p6 P) .nil .nil) (.node (o195_p11 P) .nil .nil)) (.node (o99_p6 P) (.node (oDi 8) .nil .nil) .nil)) (.node (o51_p3 P) (.node (o83_p6 P) (.node (o147_p9 P) .nil .nil) (.node (o211_p14 P) .nil .nil)) (.node (o115_p6 P) (.node (oDi 24) .nil .nil) .nil))) (.node (o27_s0 P) (.node (o43_p2 P) (.node (o75_p6 P) (.node (o139_p8 P) .nil .nil) (.node (o203_p13 P) .nil .nil)) (.node (o107_p6 P) (.node (oDi 16) .nil .nil) .nil)) (.node (o59_p6 P) (.node (o91_p6 P) (.node (oDi 0) .nil .nil) .nil) (.node (o123_p6 P) (.node (oDi 32) .nil .nil) .nil))))) (.node (o5_s0 P) (.node (o9_s0 P) (.node (o17_s0 P) (.node (o33_p0 P) (.node (o65_p6 P) (.node (o129_p6 P) .nil .nil) (.node (o193_p11 P) .nil .nil)) (.node (o97_p6 P) (.node (oDi 6) .nil .nil) .nil)) (.node (o49_p3 P) (.node (o81_p6 P) (.node (o145_p8 P) .nil .nil) (.node (o209_p14 P) .nil .nil)) (.node (o113_p6 P) (.node (oDi 22) .nil .nil) .nil))) (.node (o25_s0 P) (.node (o41_p2 P) (.node (o73_p6 P) (.node (o137_p8 P) .nil .nil) (.node (o201_p13 P) .nil .nil)) (.node (o105_p6 P) (.node (oDi 14) .nil .nil) .nil)) (.node (o57_p6 P) (.node (o89_p6 P) (.node (o153_p9 P) .nil .nil) (.node (o217_p15 P) .nil .nil)) (.node (o121_p6 P) (.node (oDi 30) .nil .nil) .nil)))) (.node (o13_s0 P) (.node (o21_s0 P) (.node (o37_p0 P) (.node (o69_p6 P) (.node (o133_p6 P) .nil .nil) (.node (o197_p11 P) .nil .nil)) (.node (o101_p6 P) (.node (oDi 10) .nil .nil) .nil)) (.node (o53_p6 P) (.node (o85_p6 P) (.node (o149_p9 P) .nil .nil) (.node (o213_p14 P) .nil .nil)) (.node (o117_p6 P) (.node (oDi 26) .nil .nil) .nil))) (.node (o29_p15 P) (.node (o45_p3 P) (.node (o77_p6 P) (.node (o141_p8 P) .nil .nil) (.node (o205_p13 P) .nil .nil)) (.node (o109_p6 P) (.node (oDi 18) .nil .nil) .nil)) (.node (o61_p6 P) (.node (o93_p6 P) (.node (oDi 2) .nil .nil) .nil) (.node (o125_p6 P) (.node (oDi 34) .nil .nil) .nil)))))) (.node (o2_s0 P) (.node (o4_s0 P) (.node (o8_s0 P) (.node (o16_s0 P) (.node (o32_p0 P) (.node (o64_p6 P) (.node (o128_p6 P) .nil .nil) (.node (oDz) .nil .nil)) (.node (o96_p6 P) (.node (oDi 5) .nil .nil) .nil)) (.node (o48_p3 P) (.node (o80_p6 P) (.node (o144_p8 P) .nil .nil) (.node (o208_p14 P) .nil .nil)) (.node (o112_p6 P) (.node (oDi 21) .nil .nil) .nil))) (.node (o24_s0 P) (.node (o40_p2 P) (.node (o72_p6 P) (.node (o136_p8 P) .nil .nil) (.node (o200_p13 P) .nil .nil)) (.node (o104_p6 P) (.node (oDi 13) .nil .nil) .nil)) (.node (o56_p6 P) (.node (o88_p6 P) (.node (o152_p9 P) .nil .nil) (.node (o216_p15 P) .nil .nil)) (.node (o120_p6 P) (.node (oDi 29) .nil .nil) .nil)))) (.node (o12_s0 P) (.node (o20_s0 P) (.node (o36_p0 P) (.node (o68_p6 P) (.node (o132_p6 P) .nil .nil) (.node (o196_p11 P) .nil .nil)) (.node (o100_p6 P) (.node (oDi 9) .nil .nil) .nil)) (.node (o52_p6 P) (.node (o84_p6 P) (.node (o148_p9 P) .nil .nil) (.node (o212_p14 P) .nil .nil)) (.node (o116_p6 P) (.node (oDi 25) .nil .nil) .nil))) (.node (o28_pre P) (.node (o44_p3 P) (.node (o76_p6 P) (.node (o140_p8 P) .nil .nil) (.node (o204_p13 P) .nil .nil)) (.node (o108_p6 P) (.node (oDi 17) .nil .nil) .nil)) (.node (o60_p6 P) (.node (o92_p6 P) (.node (oDi 1) .nil .nil) .nil) (.node (o124_p6 P) (.node (oDi 33) .nil .nil) .nil))))) (.node (o6_s0 P) (.node (o10_s0 P) (.node (o18_s0 P) (.node (o34_p0 P) (.node (o66_p6 P) (.node (o130_p6 P) .nil .nil) (.node (o194_p11 P) .nil .nil)) (.node (o98_p6 P) (.node (oDi 7) .nil .nil) .nil)) (.node (o50_p3 P) (.node (o82_p6 P) (.node (o146_p8 P) .nil .nil) (.node (o210_p14 P) .nil .nil)) (.node (o114_p6 P) (.node (oDi 23) .nil .nil) .nil))) (.node (o26_s0 P) (.node (o42_p2 P) (.node (o74_p6 P) (.node (o138_p8 P) .nil .nil) (.node (o202_p13 P) .nil .nil)) (.node (o106_p6 P) (.node (oDi 15) .nil .nil) .nil)) (.node (o58_p6 P) (.node (o90_p6 P) (.node (oD0) .nil .nil) (.node (o218_p15 P) .nil .nil)) (.node (o122_p6 P) (.node (oDi 31) .nil .nil) .nil)))) (.node (o14_s0 P) (.node (o22_s0 P) (.node (o38_p0 P) (.node (o70_p6 P) (.node (o134_p6 P) .nil .nil) (.node (o198_p11 P) .nil .nil)) (.node (o102_p6 P) (.node (oDi 11) .nil .nil) .nil)) (.node (o54_p6 P) (.node (o86_p6 P) (.node (o150_p9 P) .nil .nil) (.node (o214_p15 P) .nil .nil)) (.node (o118_p6 P) (.node (oDi 27) .nil .nil) .nil))) (.node (o30_pre P) (.node (o46_p3 P) (.node (o78_p6 P) (.node (o142_p8 P) .nil .nil) (.node (o206_p13 P) .nil .nil)) (.node (o110_p6 P) (.node (oDi 19) .nil .nil) .nil)) (.node (o62_p6 P) (.node (o94_p6 P) (.node (oDi 3) .nil .nil) .nil) (.node (o126_p6 P) (.node (oDi 35) .nil .nil) .nil)))))))
noncomputable def S_p15 (w : World) (os : OsState) : SharedT := ⟨bt_p15 w.params, 219, life0, #[], drawn0, 2506, os⟩
noncomputable def benv : Env := { scope := pw.main.scope, locals := mainNs, globals := mainNs, cells := [], code := .ref 30, frame := some 31 }
noncomputable def bcode : Code := .body (behindTheImports pw) benv
noncomputable def bst : List Frame := [topFrame ⟨0, 0, 0, 0⟩]
end XnHKText
section XnHD1Text
open PySem PySem.W PyProof.Rows
set_option maxRecDepth 100000
set_option maxHeartbeats 4000000
set_option linter.all false
theorem tw_go : @segGo = @PySem.W.Fast.tw3277212676724774461 := PySem.W.Fast.te3277212676724774461
theorem tw_tb : treeTable = PySem.W.Fast.tw14364793385576792824 := PySem.W.Fast.te14364793385576792824
abbrev annE : Option Value := some (.ref 6)
/-- the hash of an int: the call within it -/
noncomputable def hashCode (i : Int) (t : Tok) : Code := .call (.builtin "int.__hash__") ⟨[.int i t], []⟩
theorem go_hash (w : World) (heap : Heap) (gens : Array GenState) (drawn : Drawn) (toks : Nat) (os : OsState) (i : Int) (t : Tok) (h : Option Value) (g : Bool) (l : List Value) (k : Result → Sem Fin) (p : Pos) :
    segGo treeTable pw w 28 annE 1 4 ⟨heap, gens, drawn, toks, os⟩ ⟨.call (hashCode i t) h g l k, bcode, p, bst⟩ = some (⟨heap, gens, drawn, toks + 1, os⟩, ⟨k (.ok (.ret (.int (rawHash i) toks))), bcode, p, bst⟩) := by
  rw [tw_go, tw_tb]
  kernel_rfl
/-- a tree's run, its steps counted -/
noncomputable def tw (w : World) {α : Type} : Sem α → (α → Shared → Nat → Prop) → Shared → Nat → Prop
  | .pure a, Q, s, c => Q a s c
  | .rule _ k, Q, s, c => tw w (k ()) Q s (c + 1)
  | .at _ k, Q, s, c => tw w (k ()) Q s (c + 1)
  | .point _ k, Q, s, c => tw w (k ()) Q s (c + 1)
  | .load a _ k, Q, s, c => ∃ o, s.heap.get? a = some o ∧ tw w (k o) Q s (c + 1)
  | .update a _ f k, Q, s, c => 28 ≤ a ∧ (s.heap.get? a).isSome = true ∧ tw w (k ()) Q { s with heap := s.heap.update a f } (c + 1)
  | .alloc o k, Q, s, c => tw w (k s.heap.objs.size) Q { s with heap := s.heap.push o } (c + 1)
  | .fresh k, Q, s, c => tw w (k s.toks) Q { s with toks := s.toks + 1 } (c + 1)
  | .ask k, Q, s, c => tw w (k ⟨pw, w.params⟩) Q s (c + 1)
  | .call cd _ _ _ k, Q, s, c => ∃ i t, cd = hashCode i t ∧ tw w (k (.ok (.ret (.int (rawHash i) s.toks)))) Q { s with toks := s.toks + 1 } (c + 4)
  | _, _, _, _ => False
theorem go_one {w : World} {n : Nat} {s s₁ : Shared} {t t₁ : Thread} {r : Option (Shared × Thread)} (he : endAt 1 t = none) (hk : stepOk 28 annE t = true) (hs : step (denote treeTable) pw w s t = .go s₁ t₁) (h : segGo treeTable pw w 28 annE 1 n s₁ t₁ = r) : segGo treeTable pw w 28 annE 1 (n + 1) s t = r := by
  rw [segGo, he]
  dsimp only
  rw [hk]
  dsimp only
  rw [hs]
  exact h
theorem go_app {w : World} : ∀ {n m : Nat} {s s₁ : Shared} {t t₁ : Thread} {r : Option (Shared × Thread)}, segGo treeTable pw w 28 annE 1 n s t = some (s₁, t₁) → segGo treeTable pw w 28 annE 1 m s₁ t₁ = r → segGo treeTable pw w 28 annE 1 (n + m) s t = r
  | 0, m, s, s₁, t, t₁, r, h, k => by
    obtain ⟨rfl, rfl⟩ : s = s₁ ∧ t = t₁ := by simpa [segGo] using h
    rw [Nat.zero_add]; exact k
  | n + 1, m, s, s₁, t, t₁, r, h, k => by
    rw [show n + 1 + m = n + m + 1 by omega]
    unfold segGo at h ⊢
    cases he : endAt 1 t with
    | some f => rw [he] at h; cases h
    | none =>
      rw [he] at h
      cases hk : stepOk 28 annE t with
      | false => rw [hk] at h; cases h
      | true =>
        rw [hk] at h
        cases hs : step (denote treeTable) pw w s t with
        | halt o s₂ => rw [hs] at h; cases h
        | go s₂ t₂ => rw [hs] at h; exact go_app h k
theorem tw_run {w : World} {α : Type} (m : Sem α) : ∀ (Q : α → Shared → Nat → Prop) (s : Shared) (c : Nat), tw w m Q s c → ∀ (K : α → Sem Fin) (H : Value → Sem Fin) (gd : Bool → Bool) (lv : List Value → List Value) (p : Pos),
    ∃ a p' s' n, Q a s' (c + n) ∧ segGo treeTable pw w 28 annE 1 n s ⟨m.wrap K H gd lv, bcode, p, bst⟩ = some (s', ⟨K a, bcode, p', bst⟩) := by
  induction m with
  | pure a => intro Q s c h K H gd lv p; exact ⟨a, p, s, 0, h, rfl⟩
  | rule tag k ih =>
    intro Q s c h K H gd lv p
    obtain ⟨a, p', s', n, hq, hr⟩ := ih () Q s (c + 1) h K H gd lv p
    exact ⟨a, p', s', n + 1, by rw [show c + (n + 1) = c + 1 + n by omega]; exact hq, go_one rfl rfl rfl hr⟩
  | «at» q k ih =>
    intro Q s c h K H gd lv p
    obtain ⟨a, p', s', n, hq, hr⟩ := ih () Q s (c + 1) h K H gd lv q
    exact ⟨a, p', s', n + 1, by rw [show c + (n + 1) = c + 1 + n by omega]; exact hq, go_one rfl rfl rfl hr⟩
  | point l k ih =>
    intro Q s c h K H gd lv p
    obtain ⟨a, p', s', n, hq, hr⟩ := ih () Q s (c + 1) h K H gd lv p
    exact ⟨a, p', s', n + 1, by rw [show c + (n + 1) = c + 1 + n by omega]; exact hq, go_one rfl rfl rfl hr⟩
  | load b part k ih =>
    intro Q s c h K H gd lv p
    obtain ⟨o, ho, h⟩ := h
    obtain ⟨a, p', s', n, hq, hr⟩ := ih o Q s (c + 1) h K H gd lv p
    refine ⟨a, p', s', n + 1, by rw [show c + (n + 1) = c + 1 + n by omega]; exact hq, go_one rfl rfl ?_ hr⟩
    obtain ⟨heap, gens, drawn, toks, os⟩ := s
    simp only [Sem.wrap, step, ho]
  | update b part f k ih =>
    intro Q s c h K H gd lv p
    obtain ⟨hb, ho, h⟩ := h
    obtain ⟨a, p', s', n, hq, hr⟩ := ih () Q _ (c + 1) h K H gd lv p
    refine ⟨a, p', s', n + 1, by rw [show c + (n + 1) = c + 1 + n by omega]; exact hq, go_one rfl ?_ ?_ hr⟩
    · show (true && (Nat.ble 28 b || b == mainNs || b == cStatics || annE == some (.ref b))) = true
      rw [Nat.ble_eq_true_of_le hb]; rfl
    · obtain ⟨heap, gens, drawn, toks, os⟩ := s
      simp only [Sem.wrap, step, ho, if_true]
  | alloc o k ih =>
    intro Q s c h K H gd lv p
    obtain ⟨a, p', s', n, hq, hr⟩ := ih _ Q _ (c + 1) h K H gd lv p
    exact ⟨a, p', s', n + 1, by rw [show c + (n + 1) = c + 1 + n by omega]; exact hq, go_one rfl rfl rfl hr⟩
  | fresh k ih =>
    intro Q s c h K H gd lv p
    obtain ⟨a, p', s', n, hq, hr⟩ := ih _ Q _ (c + 1) h K H gd lv p
    exact ⟨a, p', s', n + 1, by rw [show c + (n + 1) = c + 1 + n by omega]; exact hq, go_one rfl rfl rfl hr⟩
  | ask k ih =>
    intro Q s c h K H gd lv p
    obtain ⟨a, p', s', n, hq, hr⟩ := ih _ Q _ (c + 1) h K H gd lv p
    exact ⟨a, p', s', n + 1, by rw [show c + (n + 1) = c + 1 + n by omega]; exact hq, go_one rfl rfl rfl hr⟩
  | call cd hh g l k ih =>
    intro Q s c h K H gd lv p
    obtain ⟨i, t, rfl, h⟩ := h
    obtain ⟨a, p', s', n, hq, hr⟩ := ih _ Q _ (c + 4) h K H gd lv p
    refine ⟨a, p', s', 4 + n, by rw [show c + (4 + n) = c + 4 + n by omega]; exact hq, go_app ?_ hr⟩
    exact go_hash w s.heap s.gens s.drawn s.toks s.os i t hh (gd g) (lv l) _ p
  | _ => intro Q s c h; exact h.elim
section
variable {w : World} {α β : Type} {s : Shared} {c : Nat}
theorem tw_bind {m : Sem α} {f : α → Sem β} {Q : β → Shared → Nat → Prop} (h : tw w m (fun a s' c' => tw w (f a) Q s' c') s c) : tw w (m >>= f) Q s c := by
  show tw w (m.bind f) Q s c
  induction m generalizing s c with
  | pure a => exact h
  | rule t k ih => exact ih () h
  | «at» p k ih => exact ih () h
  | point l k ih => exact ih () h
  | load a p k ih => obtain ⟨o, ho, h⟩ := h; exact ⟨o, ho, ih o h⟩
  | update a p g k ih => obtain ⟨h1, h2, h⟩ := h; exact ⟨h1, h2, ih () h⟩
  | alloc o k ih => exact ih _ h
  | fresh k ih => exact ih _ h
  | ask k ih => exact ih _ h
  | call cd hh g l k ih => obtain ⟨i, t, e, h⟩ := h; exact ⟨i, t, e, ih _ h⟩
  | _ => exact h.elim
theorem tw_keep {m : Sem α} {vs : List Value} {Q : α → Shared → Nat → Prop} (h : tw w m Q s c) : tw w (m.keep vs) Q s c := by
  induction m generalizing s c with
  | pure a => exact h
  | rule t k ih => exact ih () h
  | «at» p k ih => exact ih () h
  | point l k ih => exact ih () h
  | load a p k ih => obtain ⟨o, ho, h⟩ := h; exact ⟨o, ho, ih o h⟩
  | update a p g k ih => obtain ⟨h1, h2, h⟩ := h; exact ⟨h1, h2, ih () h⟩
  | alloc o k ih => exact ih _ h
  | fresh k ih => exact ih _ h
  | ask k ih => exact ih _ h
  | call cd hh g l k ih => obtain ⟨i, t, e, h⟩ := h; exact ⟨i, t, e, ih _ h⟩
  | _ => exact h.elim
theorem tw_holding {m : Sem α} {vs : List Value} {Q : α → Shared → Nat → Prop} (h : tw w m Q s c) : tw w (holding vs m) Q s c := by
  unfold holding
  split
  · exact h
  · exact tw_keep h
theorem tw_onRaise {m : Sem α} {k : Value → Sem Unit} {Q : α → Shared → Nat → Prop} (h : tw w m Q s c) : tw w (m.onRaise k) Q s c := by
  induction m generalizing s c with
  | pure a => exact h
  | rule t k ih => exact ih () h
  | «at» p k ih => exact ih () h
  | point l k ih => exact ih () h
  | load a p k ih => obtain ⟨o, ho, h⟩ := h; exact ⟨o, ho, ih o h⟩
  | update a p g k ih => obtain ⟨h1, h2, h⟩ := h; exact ⟨h1, h2, ih () h⟩
  | alloc o k ih => exact ih _ h
  | fresh k ih => exact ih _ h
  | ask k ih => exact ih _ h
  | call cd hh g l k ih => obtain ⟨i, t, e, h⟩ := h; exact ⟨i, t, e, ih _ h⟩
  | _ => exact h.elim
theorem tw_mono {m : Sem α} {Q R : α → Shared → Nat → Prop} (h : tw w m Q s c) (hq : ∀ a s c, Q a s c → R a s c) : tw w m R s c := by
  induction m generalizing s c with
  | pure a => exact hq _ _ _ h
  | rule t k ih => exact ih () h
  | «at» p k ih => exact ih () h
  | point l k ih => exact ih () h
  | load a p k ih => obtain ⟨o, ho, h⟩ := h; exact ⟨o, ho, ih o h⟩
  | update a p g k ih => obtain ⟨h1, h2, h⟩ := h; exact ⟨h1, h2, ih () h⟩
  | alloc o k ih => exact ih _ h
  | fresh k ih => exact ih _ h
  | ask k ih => exact ih _ h
  | call cd hh g l k ih => obtain ⟨i, t, e, h⟩ := h; exact ⟨i, t, e, ih _ h⟩
  | _ => exact h.elim
theorem tw_forIn {γ : Type} (f : γ → β → Sem (ForInStep β)) (I : List γ → β → Shared → Nat → Prop) (Q : β → Shared → Nat → Prop)
    (turn : ∀ x r b s c, I (x :: r) b s c → tw w (f x b) (fun y s' c' => ∃ b', y = .yield b' ∧ I r b' s' c') s c) (fin : ∀ b s c, I [] b s c → Q b s c) :
    ∀ (l : List γ) (b : β) (s : Shared) (c : Nat), I l b s c → tw w (forIn l b f) Q s c
  | [], b, s, c, h => by rw [List.forIn_nil]; exact fin b s c h
  | x :: r, b, s, c, h => by
    rw [List.forIn_cons]
    refine tw_bind (tw_mono (turn x r b s c h) fun y s' c' hy => ?_)
    obtain ⟨b', rfl, h'⟩ := hy
    exact tw_forIn f I Q turn fin r b' s' c' h'
end
end XnHD1Text
section XnHD2Text
open PySem PySem.W PyProof.Rows
set_option maxRecDepth 100000
set_option maxHeartbeats 1000000
set_option linter.all false
section
variable {w : World} {s : Shared} {c : Nat}
theorem spec_int (k : Int) (t : Tok) : specialOf (.int k t) "__hash__" = pure (some (.builtin "int.__hash__")) := slot_int_hash.lookup
theorem tw_eq {α : Type} {m : Sem α} {a : α} {Q : α → Shared → Nat → Prop} (h : m = pure a) (hq : Q a s c) : tw w m Q s c := by rw [h]; exact hq
theorem tw_pyHash {k : Int} {t : Tok} {Q : Int → Shared → Nat → Prop} (hk : hashInt k = k) (h : Q k { s with toks := s.toks + 1 } (c + 5)) : tw w (pyHash (.int k t)) Q s c := by
  have hr := rawHash_range k
  unfold pyHash
  show tw w (pyHashByItsType (.int k t)) Q s c
  unfold pyHashByItsType
  have hv : [Value.int k t].any Value.onHeap = false := rfl
  refine tw_bind ?_
  rw [cRoomFor, if_neg (by rw [hv]; exact Bool.false_ne_true)]
  show tw w _ Q s c
  refine tw_bind (tw_eq (spec_int k t) ?_)
  show tw w (if (some (Value.builtin "int.__hash__") == some Value.none) = true then _ else _) Q s c
  rw [if_neg (by rw [beq_builtin_none]; exact Bool.false_ne_true)]
  refine tw_bind (tw_eq (spec_int k t) ?_)
  show tw w (callSpecialIfBoundUnlessNone? (.int k t) "__hash__" _ >>= _) Q s c
  refine tw_bind ?_
  simp only [callSpecialIfBoundUnlessNone?, bindSpecialIfBound?]
  refine tw_holding (tw_bind (tw_bind (tw_eq (spec_int k t) ?_)))
  simp only [slot_int_hash.bind]
  show tw w (if w.params.followText "special-get-raises" = true then _ else _) _ s (c + 1)
  have hnb : (Value.builtin "int.__hash__" == Value.none) = false := builtin_beq_none _
  have fin : tw w (pyHashByItsType.reduced (rawHash k)) Q { s with toks := s.toks + 1 } (c + 5) := by
    unfold pyHashByItsType.reduced
    rw [if_pos (by rw [decide_eq_true hr.1, decide_eq_true hr.2]; rfl)]
    show Q (hashInt k) _ _
    rw [hk]
    exact h
  split
  · show tw w (α := Option Value) (if (Value.builtin "int.__hash__" == Value.none) = true then _ else _) _ s (c + 1)
    rw [hnb, if_neg Bool.false_ne_true]
    exact tw_bind ⟨k, t, rfl, fin⟩
  · show tw w (α := Option Value) (if (Value.builtin "int.__hash__" == Value.none) = true then _ else _) _ s (c + 1)
    rw [hnb, if_neg Bool.false_ne_true]
    exact tw_bind ⟨k, t, rfl, fin⟩
end
/-! ### the heap behind the first 154 objects -/
noncomputable def hp (H : Heap) (L : List Obj) : Heap := ⟨H.objs ++ L.toArray, H.life⟩
section
variable {w : World} {H : Heap} {c : Nat}
theorem get_modify (l : List Obj) (i j : Nat) (f : Obj → Obj) : (l.modify i f)[j]? = if i = j then (l[j]?).map f else l[j]? := by
  rw [List.getElem?_modify]
  by_cases h : i = j <;> simp [h]
theorem hp_size (L : List Obj) (hH : H.objs.size = 154) : (hp H L).objs.size = 154 + L.length := by
  show (H.objs ++ L.toArray).size = _
  rw [Array.size_append, hH]; simp
theorem hp_push (L : List Obj) (o : Obj) : (hp H L).push o = hp H (L ++ [o]) := by
  show Heap.mk ((H.objs ++ L.toArray).push o) _ = Heap.mk _ _
  congr 1
  rw [Array.push_append]; simp
theorem hp_getD {L : List Obj} {i : Nat} {es : List DictEntry} {n : Nat} (hH : H.objs.size = 154) (h : L[i]? = some (dO es n)) : (hp H L).get? (154 + i) = some (dO es n) := by
  have e : (H.objs ++ L.toArray)[154 + i]? = some (dO es n) := by
    rw [Array.getElem?_append_right (by omega), hH, show 154 + i - 154 = i by omega, List.getElem?_toArray, h]
  show Heap.get? ⟨H.objs ++ L.toArray, H.life⟩ (154 + i) = _
  unfold Heap.get?
  rw [e]; rfl
theorem hp_update (L : List Obj) (i : Nat) (f : Obj → Obj) (hH : H.objs.size = 154) : (hp H L).update (154 + i) f = hp H (L.modify i f) := by
  show Heap.mk ((H.objs ++ L.toArray).modify (154 + i) f) _ = Heap.mk _ _
  congr 1
  apply Array.ext_getElem?
  intro j
  rw [Array.getElem?_modify]
  by_cases hj : j < 154
  · rw [if_neg (by omega), Array.getElem?_append_left (by omega), Array.getElem?_append_left (by omega)]
  · rw [Array.getElem?_append_right (by omega), Array.getElem?_append_right (by omega), hH, List.getElem?_toArray, List.getElem?_toArray, get_modify]
    by_cases e : 154 + i = j
    · rw [if_pos e, if_pos (by omega)]
    · rw [if_neg e, if_neg (by omega)]
/-- all hashes are other ones -/
noncomputable def NoHash (es : List DictEntry) (h : Int) : Prop := ∀ e ∈ es, e.hash ≠ h
theorem places_none {es : List DictEntry} {h : Int} (hn : NoHash es h) : placesWithHash es.toArray.size (fun i => es.toArray[i]?.map (·.hash)) h = [] := by
  unfold placesWithHash
  refine List.filter_eq_nil_iff.mpr fun i _ hp => ?_
  dsimp only at hp
  rw [List.getElem?_toArray] at hp
  cases e : es[i]? with
  | none => rw [e] at hp; simp at hp
  | some x =>
    rw [e] at hp
    have := eq_of_beq hp
    simp only [Option.map_some, Option.some.injEq] at this
    exact hn x (List.mem_of_getElem? e) this
variable {g : Array GenState} {d : Drawn} {tk : Nat} {os : OsState}
theorem tw_find {L : List Obj} {i : Nat} {es : List DictEntry} {n : Nat} {k h : Int} {t : Tok} {Q : Option Nat → Shared → Nat → Prop} (hH : H.objs.size = 154) (hL : L[i]? = some (dO es n)) (hn : NoHash es h) (hq : Q none ⟨hp H L, g, d, tk, os⟩ (c + 1)) :
    tw w (dictFind (154 + i) (.int k t) h) Q ⟨hp H L, g, d, tk, os⟩ c := by
  unfold dictFind
  refine tw_holding (tw_bind ?_)
  unfold dictEntries
  refine tw_bind ⟨dO es n, hp_getD hH hL, ?_⟩
  show tw w _ Q _ (c + 1)
  rw [places_none hn]
  exact hq
theorem tw_put {L : List Obj} {i : Nat} {es : List DictEntry} {n : Nat} {e : DictEntry} {part : Option Value} {Q : Unit → Shared → Nat → Prop} (hH : H.objs.size = 154) (hL : L[i]? = some (dO es n)) (hs : es.length ≤ 1000)
    (hq : Q () ⟨hp H (L.set i (dO (es ++ [e]) (n + 1))), g, d, tk, os⟩ (c + 3)) : tw w (updateDictKeys (154 + i) (·.push e) part) Q ⟨hp H L, g, d, tk, os⟩ c := by
  have hm : L.modify i (Obj.mapDictKeys (·.push e)) = L.set i (dO (es ++ [e]) (n + 1)) := by
    apply List.ext_getElem?
    intro j
    rw [get_modify, List.getElem?_set]
    by_cases hj : i = j
    · subst hj
      have hlt : i < L.length := (List.getElem?_eq_some_iff.mp hL).1
      rw [if_pos rfl, if_pos rfl, if_pos hlt, hL]
      show some (Obj.mapDictKeys _ (dO es n)) = _
      show some (Obj.mk _ _ (.dict (es.toArray.push e) (n + 1)) _) = some (Obj.mk _ _ (.dict (es ++ [e]).toArray (n + 1)) _)
      rw [List.push_toArray]
    · rw [if_neg hj, if_neg hj]
  have hg : (L.set i (dO (es ++ [e]) (n + 1)))[i]? = some (dO (es ++ [e]) (n + 1)) := by
    have hlt : i < L.length := (List.getElem?_eq_some_iff.mp hL).1
    simp [hlt]
  unfold updateDictKeys
  refine tw_bind ⟨dO es n, hp_getD hH hL, ?_⟩
  show tw w (updatePart (154 + i) part (Obj.mapDictKeys (·.push e)) >>= fun _ => lookBehind (154 + i) part) Q _ (c + 1)
  refine tw_bind ⟨by show 28 ≤ 154 + i; omega, by rw [hp_getD hH hL]; rfl, ?_⟩
  show tw w (lookBehind (154 + i) part) Q ⟨(hp H L).update (154 + i) _, g, d, tk, os⟩ (c + 2)
  rw [hp_update _ _ _ hH, hm]
  unfold lookBehind
  refine tw_bind ⟨_, hp_getD hH hg, ?_⟩
  have hp : (dO (es ++ [e]) (n + 1)).data.pastItsLine = none := by
    show (if (es ++ [e]).toArray.size > sizeLine + 1 then some "dict:memory" else none) = none
    rw [if_neg]
    rw [sizeLine_eq]; simp; omega
  show tw w _ Q _ _
  rw [hp]
  exact hq
end
end XnHD2Text
section XnHD3Text
open PySem PySem.W PyProof.Rows
set_option maxRecDepth 100000
set_option maxHeartbeats 1000000
set_option linter.all false
section
variable {w : World} {H : Heap} {c : Nat} {g : Array GenState} {d : Drawn} {tk : Nat} {os : OsState}
/-- a pair as the display evaluates it -/
noncomputable def item (pos : Pos) (p : Int × Str) : Sem Value × Sem Value := (mkInt p.1, do let x ← mkText p.2; standAt pos; pure x)
theorem tw_mkInt {s : Shared} {k : Int} {Q : Value → Shared → Nat → Prop} (h : Q (.int k s.toks) { s with toks := s.toks + 1 } (c + 1)) : tw w (mkInt k) Q s c := h
theorem tw_val {s : Shared} {pos : Pos} {v : Str} {Q : Value → Shared → Nat → Prop} (h : Q (.str v s.toks) { s with toks := s.toks + 1 } (c + 2)) : tw w (do let x ← mkText v; standAt pos; pure x) Q s c := h
theorem tw_pure {α : Type} {s : Shared} {a : α} {Q : α → Shared → Nat → Prop} (h : Q a s c) : tw w (pure a) Q s c := h
theorem tw_set {L : List Obj} {i : Nat} {es : List DictEntry} {n : Nat} {k : Int} {t : Tok} {v : Value} {Q : Unit → Shared → Nat → Prop} (hH : H.objs.size = 154) (hL : L[i]? = some (dO es n)) (hs : es.length ≤ 1000) (hk : hashInt k = k) (hn : NoHash es k)
    (hq : Q () ⟨hp H (L.set i (dO (es ++ [⟨k, .int k t, v⟩]) (n + 1))), g, d, tk + 1, os⟩ (c + 10)) : tw w (dictSet (154 + i) (.int k t) v) Q ⟨hp H L, g, d, tk, os⟩ c := by
  unfold dictSet
  refine tw_holding (tw_bind (tw_pyHash hk ?_))
  unfold dictSetHashed
  refine tw_holding (tw_bind (tw_find hH hL hn ?_))
  show tw w (updateDictKeys (154 + i) (·.push ⟨k, .int k t, v⟩) _) Q _ (c + 5 + 1 + 1)
  exact tw_put hH hL hs hq
theorem entsL_snoc (t : Nat) (a : List (Int × Str)) (p : Int × Str) : entsL t (a ++ [p]) = entsL t a ++ [entAt (t + 3 * a.length) p] := by
  induction a generalizing t with
  | nil => rfl
  | cons x a ih =>
    show entAt t x :: entsL (t + 3) (a ++ [p]) = entAt t x :: (entsL (t + 3) a ++ _)
    rw [ih, List.length_cons, show t + 3 + 3 * a.length = t + 3 * (a.length + 1) by omega]
theorem entsS_snoc (t : Nat) (a : List (Int × Str)) (p : Int × Str) : entsS t (a ++ [p]) = entsS t a ++ [entAt (t + 2 * a.length) p] := by
  induction a generalizing t with
  | nil => rfl
  | cons x a ih =>
    show entAt t x :: entsS (t + 2) (a ++ [p]) = entAt t x :: (entsS (t + 2) a ++ _)
    rw [ih, List.length_cons, show t + 2 + 2 * a.length = t + 2 * (a.length + 1) by omega]
theorem entsL_len (t : Nat) (a : List (Int × Str)) : (entsL t a).length = a.length := by
  induction a generalizing t with
  | nil => rfl
  | cons x a ih => show (entsL (t + 3) a).length + 1 = _; rw [ih]; rfl
theorem entsS_len (t : Nat) (a : List (Int × Str)) : (entsS t a).length = a.length := by
  induction a generalizing t with
  | nil => rfl
  | cons x a ih => show (entsS (t + 2) a).length + 1 = _; rw [ih]; rfl
theorem entsL_hash (t : Nat) (a : List (Int × Str)) : (entsL t a).map (·.hash) = a.map (·.1) := by
  induction a generalizing t with
  | nil => rfl
  | cons x a ih => show x.1 :: (entsL (t + 3) a).map (·.hash) = _; rw [ih]; rfl
theorem entsS_hash (t : Nat) (a : List (Int × Str)) : (entsS t a).map (·.hash) = a.map (·.1) := by
  induction a generalizing t with
  | nil => rfl
  | cons x a ih => show x.1 :: (entsS (t + 2) a).map (·.hash) = _; rw [ih]; rfl
theorem noHash_of {es : List DictEntry} {h : Int} (x : h ∉ es.map (·.hash)) : NoHash es h := fun e he q => x (q ▸ List.mem_map_of_mem he)
theorem set_set' (L : List Obj) (i : Nat) (a b : Obj) : (L.set i a).set i b = L.set i b := by simp
theorem get_set' {L : List Obj} {i : Nat} {a o : Obj} (h : L[i]? = some o) : (L.set i a)[i]? = some a := by
  have hlt : i < L.length := (List.getElem?_eq_some_iff.mp h).1
  simp [hlt]
/-- what is asked of the keys -/
structure Keys (q : List (Int × Str)) : Prop where
  nodup : (q.map (·.1)).Nodup
  hash : ∀ p ∈ q, hashInt p.1 = p.1
  few : q.length ≤ 500
theorem Keys.mid {a r : List (Int × Str)} {p : Int × Str} (h : Keys (a ++ p :: r)) : p.1 ∉ a.map (·.1) := fun hm => by
  have := h.nodup
  rw [List.map_append, List.map_cons] at this
  exact (List.nodup_append.mp this).2.2 _ hm _ List.mem_cons_self rfl
/-- a sub-dict of more than 15 pairs -/
theorem tw_subL {L : List Obj} {pos : Pos} {q : List (Int × Str)} {Q : Addr → Shared → Nat → Prop} (hH : H.objs.size = 154) (hk : Keys q) (hq15 : 15 < q.length)
    (hQ : Q (154 + L.length) ⟨hp H (L ++ [dO (entsL tk q) q.length]), g, d, tk + 3 * q.length, os⟩ (c + 2 + 13 * q.length)) : tw w (subDict (q.map (item pos))) Q ⟨hp H L, g, d, tk, os⟩ c := by
  unfold subDict
  refine tw_bind ?_
  show tw w _ _ ⟨(hp H L).push (dO [] 0), g, d, tk, os⟩ (c + 1)
  rw [show (⟨hp H L, g, d, tk, os⟩ : Shared).heap.objs.size = 154 + L.length from hp_size L hH, hp_push]
  refine tw_bind (tw_holding ?_)
  rw [if_neg (by rw [List.length_map]; omega)]
  show tw w (α := PUnit) (Bind.bind (α := PUnit) (forIn (q.map (item pos)) PUnit.unit _) _) _ _ (c + 1 + 1)
  have hL : (L ++ [dO [] 0])[L.length]? = some (dO [] 0) := by simp
  refine tw_bind (tw_forIn _ (fun r b s c' => ∃ a r', q = a ++ r' ∧ r = r'.map (item pos) ∧ s = ⟨hp H ((L ++ [dO [] 0]).set L.length (dO (entsL tk a) a.length)), g, d, tk + 3 * a.length, os⟩ ∧ c' = c + 2 + 13 * a.length) _ ?_ ?_ _ _ _ _ ?_)
  rotate_left 2
  · refine ⟨[], q, rfl, rfl, ?_, ?_⟩
    · rw [show entsL tk [] = [] from rfl]; simp
    · simp
  · rintro x r b s c' ⟨a, r', e, hr, rfl, rfl⟩
    cases r' with
    | nil => simp at hr
    | cons p r' =>
      rw [List.map_cons, List.cons.injEq] at hr
      obtain ⟨rfl, rfl⟩ := hr
      show tw w (mkInt p.1 >>= fun kv => holding [kv] (do let x ← mkText p.2; standAt pos; pure x) >>= fun vv => holding [kv, vv] (dictSet (154 + L.length) kv vv) >>= fun _ => pure (ForInStep.yield PUnit.unit)) _ _ _
      refine tw_bind (tw_mkInt ?_)
      refine tw_bind (tw_holding (tw_val ?_))
      have hfew := hk.few
      have hal : a.length ≤ 500 := by rw [e, List.length_append] at hfew; omega
      refine tw_bind (tw_holding (tw_set hH (get_set' hL) (by rw [entsL_len]; omega) (hk.hash p (by rw [e]; simp)) (noHash_of (by rw [entsL_hash]; exact (e ▸ hk).mid)) ?_))
      rw [set_set']
      refine tw_pure ⟨PUnit.unit, rfl, a ++ [p], r', by rw [e]; simp, rfl, ?_, ?_⟩
      · rw [entsL_snoc, List.length_append, List.length_cons, List.length_nil, show tk + 3 * (a.length + (0 + 1)) = tk + 3 * a.length + 1 + 1 + 1 by omega]
        rfl
      · rw [List.length_append, List.length_cons, List.length_nil]; omega
  · rintro b s c' ⟨a, r', e, hr, rfl, rfl⟩
    have : r' = [] := by
      cases r' with
      | nil => rfl
      | cons p r' => simp at hr
    subst this
    rw [List.append_nil] at e
    subst e
    have e2 : (L ++ [dO [] 0]).set L.length (dO (entsL tk q) q.length) = L ++ [dO (entsL tk q) q.length] := by simp
    rw [e2]
    exact hQ
end
end XnHD3Text
section XnHD4Text
open PySem PySem.W PyProof.Rows
set_option maxRecDepth 100000
set_option maxHeartbeats 1000000
set_option linter.all false
section
variable {w : World} {H : Heap} {c : Nat} {g : Array GenState} {d : Drawn} {tk : Nat} {os : OsState}
noncomputable def valsS (t : Nat) (q : List (Int × Str)) : List (Value × Value) := match q with
  | [] => []
  | p :: r => (.int p.1 t, .str p.2 (t + 1)) :: valsS (t + 2) r
theorem tw_evalPairs {h : Heap} {pos : Pos} {Q : List (Value × Value) → Shared → Nat → Prop} : ∀ (q : List (Int × Str)) (tk c : Nat), Q (valsS tk q) ⟨h, g, d, tk + 2 * q.length, os⟩ (c + 3 * q.length) → tw w (evalPairs (q.map (item pos))) Q ⟨h, g, d, tk, os⟩ c
  | [], tk, c, hq => hq
  | p :: r, tk, c, hq => by
    show tw w (mkInt p.1 >>= fun kv => holding [kv] (do let x ← mkText p.2; standAt pos; pure x) >>= fun vv => holding [kv, vv] (evalPairs (r.map (item pos))) >>= fun l => pure ((kv, vv) :: l)) _ _ _
    refine tw_bind (tw_mkInt ?_)
    refine tw_bind (tw_holding (tw_val ?_))
    refine tw_bind (tw_holding (tw_mono (tw_evalPairs (Q := fun l s c => Q ((.int p.1 tk, .str p.2 (tk + 1)) :: l) s c) r (tk + 2) (c + 3) ?_) fun l s c h => h))
    rw [List.length_cons] at hq
    rw [show tk + 2 + 2 * r.length = tk + 2 * (r.length + 1) by omega, show c + 3 + 3 * r.length = c + 3 * (r.length + 1) by omega]
    exact hq
theorem valsS_app (t : Nat) (a : List (Int × Str)) (p : Int × Str) (r : List (Int × Str)) : valsS t (a ++ p :: r) = valsS t a ++ (.int p.1 (t + 2 * a.length), .str p.2 (t + 2 * a.length + 1)) :: valsS (t + 2 * a.length + 2) r := by
  induction a generalizing t with
  | nil => rfl
  | cons x a ih =>
    show _ :: valsS (t + 2) (a ++ p :: r) = _ :: (valsS (t + 2) a ++ _)
    rw [ih, List.length_cons, show t + 2 + 2 * a.length = t + 2 * (a.length + 1) by omega]
/-- a sub-dict of 15 pairs or fewer -/
theorem tw_subS {L : List Obj} {pos : Pos} {q : List (Int × Str)} {Q : Addr → Shared → Nat → Prop} (hH : H.objs.size = 154) (hk : Keys q) (hq15 : q.length ≤ 15)
    (hQ : Q (154 + L.length) ⟨hp H (L ++ [dO (entsS tk q) q.length]), g, d, tk + 3 * q.length, os⟩ (c + 1 + 13 * q.length)) : tw w (subDict (q.map (item pos))) Q ⟨hp H L, g, d, tk, os⟩ c := by
  unfold subDict
  refine tw_bind ?_
  show tw w _ _ ⟨(hp H L).push (dO [] 0), g, d, tk, os⟩ (c + 1)
  rw [show (⟨hp H L, g, d, tk, os⟩ : Shared).heap.objs.size = 154 + L.length from hp_size L hH, hp_push]
  refine tw_bind (tw_holding ?_)
  rw [if_pos (by rw [List.length_map]; omega)]
  have hL : (L ++ [dO [] 0])[L.length]? = some (dO [] 0) := by simp
  refine tw_bind (tw_evalPairs q tk (c + 1) (tw_holding ?_))
  refine tw_bind (tw_forIn _ (fun r b s c' => ∃ a r', q = a ++ r' ∧ r = valsS (tk + 2 * a.length) r' ∧ s = ⟨hp H ((L ++ [dO [] 0]).set L.length (dO (entsS tk a) a.length)), g, d, tk + 2 * q.length + a.length, os⟩ ∧ c' = c + 1 + 3 * q.length + 10 * a.length) _ ?_ ?_ _ _ _ _ ?_)
  rotate_left 2
  · refine ⟨[], q, rfl, rfl, ?_, ?_⟩
    · rw [show entsS tk [] = [] from rfl]; simp
    · simp
  · rintro x r b s c' ⟨a, r', e, hr, rfl, rfl⟩
    cases r' with
    | nil => exact absurd hr (by simp [valsS])
    | cons p r' =>
      have hr' : x :: r = (Value.int p.1 (tk + 2 * a.length), Value.str p.2 (tk + 2 * a.length + 1)) :: valsS (tk + 2 * a.length + 2) r' := hr
      rw [List.cons.injEq] at hr'
      obtain ⟨rfl, rfl⟩ := hr'
      show tw w (dictSet (154 + L.length) (.int p.1 (tk + 2 * a.length)) (.str p.2 (tk + 2 * a.length + 1)) >>= fun _ => pure (ForInStep.yield PUnit.unit)) _ _ _
      have hal : a.length ≤ 15 := by rw [e, List.length_append] at hq15; omega
      refine tw_bind (tw_set hH (get_set' hL) (by rw [entsS_len]; omega) (hk.hash p (by rw [e]; simp)) (noHash_of (by rw [entsS_hash]; exact (e ▸ hk).mid)) ?_)
      rw [set_set']
      refine tw_pure ⟨PUnit.unit, rfl, a ++ [p], r', by rw [e]; simp, ?_, ?_, ?_⟩
      · rw [List.length_append, List.length_cons, List.length_nil, show tk + 2 * (a.length + (0 + 1)) = tk + 2 * a.length + 2 by omega]
      · rw [entsS_snoc, List.length_append, List.length_cons, List.length_nil, show tk + 2 * q.length + (a.length + (0 + 1)) = tk + 2 * q.length + a.length + 1 by omega]
        rfl
      · rw [List.length_append, List.length_cons, List.length_nil]; omega
  · rintro b s c' ⟨a, r', e, hr, rfl, rfl⟩
    have : r' = [] := by
      cases r' with
      | nil => rfl
      | cons p r' => exact absurd hr (by simp [valsS])
    subst this
    rw [List.append_nil] at e
    subst e
    have e2 : (L ++ [dO [] 0]).set L.length (dO (entsS tk q) q.length) = L ++ [dO (entsS tk q) q.length] := by simp
    rw [e2, show tk + 2 * q.length + q.length = tk + 3 * q.length by omega, show c + 1 + 3 * q.length + 10 * q.length = c + 1 + 13 * q.length by omega]
    exact hQ
theorem isInst_dict {i : Nat} {L : List Obj} {es : List DictEntry} {n : Nat} {Q : Bool → Shared → Nat → Prop} (hH : H.objs.size = 154) (hL : L[i]? = some (dO es n)) (hq : Q true ⟨hp H L, g, d, tk, os⟩ (c + 1)) : tw w (isInstance (.ref (154 + i)) (.type "dict")) Q ⟨hp H L, g, d, tk, os⟩ c := by
  unfold isInstance
  refine tw_bind (tw_bind ⟨dO es n, hp_getD hH hL, ?_⟩)
  show tw w (isSubtype (.type "dict") (.type "dict")) Q _ (c + 1)
  exact tw_eq isSubtype_dict_dict hq
theorem spec_dict {i : Nat} {L : List Obj} {es : List DictEntry} {n : Nat} {Q : Option Value → Shared → Nat → Prop} (hH : H.objs.size = 154) (hL : L[i]? = some (dO es n)) (hq : Q (some (.builtin "dict.__iter__")) ⟨hp H L, g, d, tk, os⟩ (c + 1)) : tw w (specialOf (.ref (154 + i)) "__iter__") Q ⟨hp H L, g, d, tk, os⟩ c := by
  unfold specialOf
  refine tw_bind (tw_bind ⟨dO es n, hp_getD hH hL, ?_⟩)
  show tw w (typeLookup (.type "dict") "__iter__") Q _ (c + 1)
  exact tw_eq F.slot_dict_iter.lookup hq
theorem tw_entries {i : Nat} {L : List Obj} {es : List DictEntry} {n : Nat} {part : Option Value} {Q : Array DictEntry → Shared → Nat → Prop} (hH : H.objs.size = 154) (hL : L[i]? = some (dO es n)) (hq : Q es.toArray ⟨hp H L, g, d, tk, os⟩ (c + 1)) : tw w (dictEntries (154 + i) part) Q ⟨hp H L, g, d, tk, os⟩ c := by
  unfold dictEntries
  exact tw_bind ⟨dO es n, hp_getD hH hL, hq⟩
theorem tw_epoch {i : Nat} {L : List Obj} {es : List DictEntry} {n : Nat} {part : Option Value} {Q : Nat → Shared → Nat → Prop} (hH : H.objs.size = 154) (hL : L[i]? = some (dO es n)) (hq : Q n ⟨hp H L, g, d, tk, os⟩ (c + 1)) : tw w (dictEpoch (154 + i) part) Q ⟨hp H L, g, d, tk, os⟩ c := by
  unfold dictEpoch
  exact tw_bind ⟨dO es n, hp_getD hH hL, hq⟩
theorem tw_merge {L : List Obj} {i : Nat} {es fs : List DictEntry} {n m : Nat} {Q : Unit → Shared → Nat → Prop} (hH : H.objs.size = 154) (h0 : L[0]? = some (dO es n)) (hi : 0 < i) (hL : L[i]? = some (dO fs m)) (he : es ≠ []) (hsz : es.length + fs.length ≤ 900)
    (hkey : ∀ e ∈ fs, ∃ k t, e.key = .int k t) (hdis : ((es ++ fs).map (·.hash)).Nodup)
    (hQ : Q () ⟨hp H (L.set 0 (dO (es ++ fs) (n + fs.length))), g, d, tk, os⟩ (c + 5 + 6 * fs.length)) : tw w (mergeMapping 154 (.ref (154 + i)) false) Q ⟨hp H L, g, d, tk, os⟩ c := by
  unfold mergeMapping
  refine tw_bind (tw_bind (isInst_dict hH hL ?_))
  refine tw_bind (spec_dict hH hL ?_)
  rw [beq_self_eq_true]
  refine tw_bind (tw_pure ?_)
  dsimp only
  have hsm : ((154 + i : Addr) == sysModules) = false := beq_eq_false_iff_ne.mpr (by intro q; have : 154 + i = 1 := q; omega)
  rw [hsm, if_neg Bool.false_ne_true]
  refine tw_bind (tw_entries (i := 0) hH h0 ?_)
  have hem : es.toArray.isEmpty = false := by cases es with
    | nil => exact absurd rfl he
    | cons => rfl
  rw [hem, if_neg Bool.false_ne_true]
  refine tw_bind (tw_entries hH hL ?_)
  refine tw_bind (tw_epoch hH hL ?_)
  have hsz' : fs.toArray.size = fs.length := by simp
  rw [hsz']
  have h0L : 0 < L.length := (List.getElem?_eq_some_iff.mp h0).1
  refine tw_bind (tw_forIn _ (fun r b s c' => ∃ j, j ≤ fs.length ∧ r = (List.range fs.length).drop j ∧ s = ⟨hp H (L.set 0 (dO (es ++ fs.take j) (n + j))), g, d, tk, os⟩ ∧ c' = c + 5 + 6 * j) _ ?_ ?_ _ _ _ _ ?_)
  rotate_left 2
  · refine ⟨0, Nat.zero_le _, rfl, ?_, ?_⟩
    · have : L.set 0 (dO (es ++ fs.take 0) (n + 0)) = L := by
        rw [List.take_zero, List.append_nil, Nat.add_zero]
        apply List.ext_getElem?
        intro j
        rw [List.getElem?_set]
        by_cases hj : 0 = j
        · subst hj; rw [if_pos rfl, if_pos h0L, h0]
        · rw [if_neg hj]
      rw [this]
    · omega
  · rintro x r b s c' ⟨j, hj, hr, rfl, rfl⟩
    have hjl : j < fs.length := by
      by_cases q : j < fs.length
      · exact q
      · rw [List.drop_eq_nil_of_le (by simp; omega)] at hr; cases hr
    have hd : (List.range fs.length).drop j = j :: (List.range fs.length).drop (j + 1) := by
      rw [List.drop_eq_getElem_cons (by simpa using hjl)]; simp
    rw [hd, List.cons.injEq] at hr
    obtain ⟨rfl, rfl⟩ := hr
    have hLj : (L.set 0 (dO (es ++ fs.take x) (n + x)))[i]? = some (dO fs m) := by
      rw [List.getElem?_set, if_neg (by omega)]; exact hL
    refine tw_bind (tw_entries hH hLj ?_)
    have hx : fs.toArray[x]? = some fs[x] := by simp [hjl]
    rw [hx]
    dsimp only
    obtain ⟨k, t, hk⟩ := hkey fs[x] (List.getElem_mem hjl)
    rw [if_neg Bool.false_ne_true]
    have hnh : NoHash (es ++ fs.take x) fs[x].hash := noHash_of (fun hm => by
      have e : es ++ fs = (es ++ fs.take x) ++ fs[x] :: fs.drop (x + 1) := by
        rw [List.append_assoc, ← List.drop_eq_getElem_cons hjl, List.take_append_drop]
      rw [e, List.map_append, List.map_cons] at hdis
      exact (List.nodup_append.mp hdis).2.2 _ hm _ List.mem_cons_self rfl)
    refine tw_bind (tw_holding ?_)
    unfold dictPut
    have hl0 := get_set' (a := dO (es ++ fs.take x) (n + x)) h0
    refine tw_bind ?_
    rw [hk]
    refine tw_find (i := 0) hH hl0 hnh ?_
    refine tw_put (i := 0) hH hl0 (by simp; omega) ?_
    rw [set_set']
    have hLj2 : (L.set 0 (dO (es ++ fs.take x ++ [⟨fs[x].hash, .int k t, fs[x].val⟩]) (n + x + 1)))[i]? = some (dO fs m) := by
      rw [List.getElem?_set, if_neg (by omega)]; exact hL
    refine tw_bind (tw_epoch hH hLj2 ?_)
    rw [show (m != m) = false by simp, if_neg Bool.false_ne_true]
    refine tw_pure ⟨PUnit.unit, rfl, x + 1, hjl, rfl, ?_, by omega⟩
    have e1 : (⟨fs[x].hash, .int k t, fs[x].val⟩ : DictEntry) = fs[x] := by rw [← hk]
    rw [e1, List.append_assoc, ← List.take_succ_eq_append_getElem hjl, Nat.add_assoc]
  · rintro b s c' ⟨j, hj, hr, rfl, rfl⟩
    have : j = fs.length := by
      by_cases q : j < fs.length
      · rw [List.drop_eq_getElem_cons (by simpa using q)] at hr; cases hr
      · omega
    subst this
    rw [List.take_length]
    exact hQ
end
end XnHD4Text
section XnHD5Text
open PySem PySem.W PyProof.Rows
set_option maxRecDepth 100000
set_option maxHeartbeats 1000000
set_option linter.all false
section
variable {w : World} {H : Heap} {c : Nat} {g : Array GenState} {d : Drawn} {tk : Nat} {os : OsState}
noncomputable def itemO (pos : Pos) (p : Int × Str) : Option (Sem Value) × Sem Value := (some (mkInt p.1), do let x ← mkText p.2; standAt pos; pure x)
noncomputable def mainOf : Nat → Option Addr | 0 => none | _ + 1 => some 154
noncomputable def Lb (bp : List (Int × Str)) : Nat → List Obj
  | 0 => []
  | i + 1 => dO (allB bp (i + 1)) (17 * (i + 1)) :: (List.range i).map fun k => dO (cE bp (k + 1)) 17
noncomputable def cntB : Nat → Nat | 0 => 0 | i + 1 => 223 + 330 * i
theorem chk_lenH {bp : List (Int × Str)} {i : Nat} (h : 17 * (i + 1) ≤ bp.length) : (chk bp i).length = 17 := by
  unfold chk; rw [List.length_take, List.length_drop]; omega
theorem allB_succ (bp : List (Int × Str)) (i : Nat) : allB bp (i + 1) = allB bp i ++ cE bp i := by
  unfold allB; rw [List.range_succ, List.flatMap_append]; simp
theorem allB_len {bp : List (Int × Str)} : ∀ {i : Nat}, 17 * i ≤ bp.length → (allB bp i).length = 17 * i
  | 0, _ => rfl
  | i + 1, h => by
    rw [allB_succ, List.length_append, allB_len (by omega), cE, entsL_len, chk_lenH h]; omega
theorem allB_hash {bp : List (Int × Str)} : ∀ {i : Nat}, (allB bp i).map (·.hash) = (bp.take (17 * i)).map (·.1)
  | 0 => by simp [allB]
  | i + 1 => by
    rw [allB_succ, List.map_append, allB_hash, cE, entsL_hash, chk, ← List.map_append, show 17 * (i + 1) = 17 * i + 17 by omega, List.take_add]
theorem ent_keyL (t : Nat) (q : List (Int × Str)) : ∀ e ∈ entsL t q, ∃ k t, e.key = .int k t := by
  induction q generalizing t with
  | nil => intro e h; cases h
  | cons p r ih =>
    intro e h
    rcases List.mem_cons.mp h with rfl | h
    · exact ⟨_, _, rfl⟩
    · exact ih _ e h
theorem ent_keyS (t : Nat) (q : List (Int × Str)) : ∀ e ∈ entsS t q, ∃ k t, e.key = .int k t := by
  induction q generalizing t with
  | nil => intro e h; cases h
  | cons p r ih =>
    intro e h
    rcases List.mem_cons.mp h with rfl | h
    · exact ⟨_, _, rfl⟩
    · exact ih _ e h
theorem Keys.sub {q r : List (Int × Str)} (hn : (q.map (·.1)).Nodup) (hh : ∀ p ∈ q, hashInt p.1 = p.1) (hs : r.Sublist q) (hl : r.length ≤ 500) : Keys r :=
  ⟨hn.sublist (hs.map _), fun p hp => hh p (hs.subset hp), hl⟩
theorem Lb_len (bp : List (Int × Str)) (i : Nat) : (Lb bp i).length = i := by
  cases i with
  | zero => rfl
  | succ i => simp [Lb]
theorem Lb_step (bp : List (Int × Str)) (i : Nat) : (Lb bp (i + 1) ++ [dO (cE bp (i + 1)) 17]).set 0 (dO (allB bp (i + 1) ++ cE bp (i + 1)) (17 * (i + 1) + 17)) = Lb bp (i + 2) := by
  show dO (allB bp (i + 1) ++ cE bp (i + 1)) (17 * (i + 1) + 17) :: ((List.range i).map (fun k => dO (cE bp (k + 1)) 17) ++ [dO (cE bp (i + 1)) 17]) = dO (allB bp (i + 2)) (17 * (i + 2)) :: (List.range (i + 1)).map fun k => dO (cE bp (k + 1)) 17
  rw [allB_succ bp (i + 1), List.range_succ, List.map_append]
  rfl
theorem tw_display {bp : List (Int × Str)} {pos : Pos} {Q : Value → Shared → Nat → Prop} (hH : H.objs.size = 154) (hlen : bp.length = 650) (hn : (bp.map (·.1)).Nodup) (hh : ∀ p ∈ bp, hashInt p.1 = p.1)
    (hQ : Q (.ref 154) ⟨hp H (dO (allB bp 38 ++ entsS 2450 (bp.drop 646)) 650 :: ((List.range 37).map (fun k => dO (cE bp (k + 1)) 17) ++ [dO (entsS 2450 (bp.drop 646)) 4])), g, d, 2462, os⟩ (c + 12515)) :
    tw w (dictDisplay (bp.map (itemO pos))) Q ⟨hp H [], g, d, 512, os⟩ c := by
  unfold dictDisplay
  refine tw_bind (tw_forIn _ (fun rest b s c' => ∃ a r', bp = a ++ r' ∧ rest = r'.map (itemO pos) ∧ b = (mainOf (a.length / 17), (a.drop (17 * (a.length / 17))).map (item pos)) ∧ s = ⟨hp H (Lb bp (a.length / 17)), g, d, 512 + 51 * (a.length / 17), os⟩ ∧ c' = c + cntB (a.length / 17)) _ ?_ ?_ _ _ _ _ ?_)
  rotate_left 2
  · exact ⟨[], bp, rfl, rfl, rfl, rfl, rfl⟩
  · rintro x r b s c' ⟨a, r', e, hr, rfl, rfl, rfl⟩
    cases r' with
    | nil => simp at hr
    | cons p r' =>
      rw [List.map_cons, List.cons.injEq] at hr
      obtain ⟨rfl, rfl⟩ := hr
      have hal : a.length + 1 ≤ 650 := by
        have := congrArg List.length e
        rw [hlen, List.length_append, List.length_cons] at this; omega
      generalize hi : a.length / 17 = i at *
      have hr17 : a.length - 17 * i < 17 := by omega
      dsimp only [itemO]
      have hrun : (a.drop (17 * i)).map (item pos) ++ [(mkInt p.1, do let x ← mkText p.2; standAt pos; pure x)] = ((a ++ [p]).drop (17 * i)).map (item pos) := by
        rw [List.drop_append_of_le_length (by omega), List.map_append]; rfl
      rw [hrun]
      have hrl : (((a ++ [p]).drop (17 * i)).map (item pos)).length = a.length - 17 * i + 1 := by
        rw [List.length_map, List.length_drop, List.length_append]; simp; omega
      rw [hrl]
      by_cases h17 : a.length - 17 * i + 1 = 17
      · have hchk : (a ++ [p]).drop (17 * i) = chk bp i := by
          unfold chk
          have hq : (a ++ [p]).length = a.length + 1 := by simp
          rw [e, show a ++ p :: r' = (a ++ [p]) ++ r' by simp]
          generalize a ++ [p] = q at hq
          rw [List.drop_append_of_le_length (by omega), List.take_append_of_le_length (by rw [List.length_drop]; omega), List.take_of_length_le (by rw [List.length_drop]; omega)]
        have hne : ((chk bp i).map (item pos)).isEmpty = false := by
          cases hc : chk bp i with
          | nil => have := chk_lenH (bp := bp) (i := i) (by omega); rw [hc] at this; cases this
          | cons => rfl
        have hcl := chk_lenH (bp := bp) (i := i) (by omega)
        have hK : Keys (chk bp i) := Keys.sub hn hh ((List.take_sublist _ _).trans (List.drop_sublist _ _)) (by omega)
        rw [h17, if_pos (by rfl), hchk, hne]
        have fin : ∃ b', ForInStep.yield (some 154, ([] : List (Sem Value × Sem Value))) = ForInStep.yield b' ∧ ∃ a r'', bp = a ++ r'' ∧ r'.map (itemO pos) = r''.map (itemO pos) ∧ b' = (mainOf (a.length / 17), (a.drop (17 * (a.length / 17))).map (item pos)) ∧
            (⟨hp H (Lb bp (i + 1)), g, d, 512 + 51 * (i + 1), os⟩ : Shared) = ⟨hp H (Lb bp (a.length / 17)), g, d, 512 + 51 * (a.length / 17), os⟩ ∧ c + cntB (i + 1) = c + cntB (a.length / 17) := by
          refine ⟨_, rfl, a ++ [p], r', by rw [e]; simp, rfl, ?_, ?_, ?_⟩
          all_goals rw [show (a ++ [p]).length / 17 = i + 1 by rw [List.length_append]; simp; omega]
          rw [List.drop_of_length_le (by rw [List.length_append]; simp; omega)]; rfl
        cases i with
        | zero =>
          refine tw_bind ?_
          show tw w (subDict ((chk bp 0).map (item pos)) >>= fun a => pure (some a)) _ _ _
          refine tw_bind (tw_subL (L := []) hH hK (by omega) (tw_pure (tw_pure ?_)))
          have e0 : hp H ([] ++ [dO (entsL 512 (chk bp 0)) 17]) = hp H (Lb bp (0 + 1)) := by
            show hp H [dO (cE bp 0) 17] = hp H [dO (allB bp 1) 17]
            rw [allB_succ]; rfl
          have e2 : c + cntB 0 + 2 + 13 * 17 = c + cntB (0 + 1) := by simp only [cntB]
          rw [hcl, e0, e2]
          exact fin
        | succ i =>
          refine tw_bind ?_
          show tw w (holding [.ref 154] (subDict ((chk bp (i + 1)).map (item pos))) >>= fun sub => (((holding [.ref 154, .ref sub] (mergeMapping 154 (.ref sub) false)).onRaise fun x => do let _ ← holding [.ref 154, x] (runValue (.builtin "proto.let_go" {}))) >>= fun _ => pure (some 154))) _ _ _
          refine tw_bind (tw_holding (tw_subL hH hK (by omega) ?_))
          rw [hcl, Lb_len]
          have hg0 : (Lb bp (i + 1) ++ [dO (cE bp (i + 1)) 17])[0]? = some (dO (allB bp (i + 1)) (17 * (i + 1))) := rfl
          have hgi : (Lb bp (i + 1) ++ [dO (cE bp (i + 1)) 17])[i + 1]? = some (dO (cE bp (i + 1)) 17) := by
            rw [List.getElem?_append_right (by rw [Lb_len]; omega), Lb_len]; simp
          have hcel : (cE bp (i + 1)).length = 17 := by rw [cE, entsL_len, hcl]
          have hall := allB_len (bp := bp) (i := i + 1) (by omega)
          have hdis : ((allB bp (i + 1) ++ cE bp (i + 1)).map (·.hash)).Nodup := by
            rw [← allB_succ, allB_hash]
            exact hn.sublist ((List.take_sublist _ _).map _)
          refine tw_bind (tw_onRaise (tw_holding (tw_merge hH hg0 (by omega) hgi (by intro q; rw [q] at hall; simp at hall) (by rw [hall, hcel]; omega) (ent_keyL _ _) hdis ?_)))
          have hX : ((Lb bp (i + 1) ++ [dO (entsL (512 + 51 * (i + 1)) (chk bp (i + 1))) 17]).set 0 (dO (allB bp (i + 1) ++ cE bp (i + 1)) (17 * (i + 1) + 17))) = Lb bp (i + 2) := Lb_step bp i
          rw [hcel, hX]
          refine tw_pure (tw_pure ?_)
          have e1 : 512 + 51 * (i + 1) + 3 * 17 = 512 + 51 * (i + 1 + 1) := by omega
          have e2 : c + cntB (i + 1) + 2 + 13 * 17 + 5 + 6 * 17 = c + cntB (i + 1 + 1) := by simp only [cntB]; omega
          rw [e1, e2]
          exact fin
      · rw [if_neg (by intro q; exact h17 (eq_of_beq q))]
        refine tw_pure ⟨_, rfl, a ++ [p], r', by rw [e]; simp, rfl, ?_, ?_, ?_⟩
        all_goals rw [show (a ++ [p]).length / 17 = i by rw [List.length_append]; simp; omega]
  · rintro b s c' ⟨a, r', e, hr, rfl, rfl, rfl⟩
    have : r' = [] := by
      cases r' with
      | nil => rfl
      | cons p r' => simp at hr
    subst this
    rw [List.append_nil] at e
    subst e
    have h38 : bp.length / 17 = 38 := by omega
    rw [h38]
    have hl4 : (bp.drop (17 * 38)).length = 4 := by rw [List.length_drop]; omega
    have hne : ((bp.drop (17 * 38)).map (item pos)).isEmpty = false := by
      cases hc : bp.drop (17 * 38) with
      | nil => rw [hc] at hl4; cases hl4
      | cons => rfl
    have hK : Keys (bp.drop (17 * 38)) := Keys.sub hn hh (List.drop_sublist _ _) (by omega)
    show tw w (Bind.bind (if ((bp.drop (17 * 38)).map (item pos)).isEmpty = true then (pure (some 154) : Sem (Option Addr)) else (holding [.ref 154] (subDict ((bp.drop (17 * 38)).map (item pos))) >>= fun sub => (((holding [.ref 154, .ref sub] (mergeMapping 154 (.ref sub) false)).onRaise fun x => do let _ ← holding [.ref 154, x] (runValue (.builtin "proto.let_go" {}))) >>= fun _ => pure (some 154)))) _) _ _ _
    rw [hne, if_neg Bool.false_ne_true]
    refine tw_bind (tw_bind (tw_holding (tw_subS hH hK (by omega) ?_)))
    rw [hl4, Lb_len]
    have hg0 : (Lb bp 38 ++ [dO (entsS (512 + 51 * 38) (bp.drop (17 * 38))) 4])[0]? = some (dO (allB bp 38) (17 * 38)) := rfl
    have hgi : (Lb bp 38 ++ [dO (entsS (512 + 51 * 38) (bp.drop (17 * 38))) 4])[38]? = some (dO (entsS (512 + 51 * 38) (bp.drop (17 * 38))) 4) := by
      rw [List.getElem?_append_right (by rw [Lb_len]; omega), Lb_len]; simp
    have hsl : (entsS (512 + 51 * 38) (bp.drop (17 * 38))).length = 4 := by rw [entsS_len, hl4]
    have hall := allB_len (bp := bp) (i := 38) (by omega)
    have hdis : ((allB bp 38 ++ entsS (512 + 51 * 38) (bp.drop (17 * 38))).map (·.hash)).Nodup := by
      rw [List.map_append, allB_hash, entsS_hash, ← List.map_append, List.take_append_drop]
      exact hn
    refine tw_bind (tw_onRaise (tw_holding (tw_merge hH hg0 (by omega) hgi (by intro q; rw [q] at hall; simp at hall) (by rw [hall, hsl]; omega) (ent_keyS _ _) hdis ?_)))
    rw [hsl]
    exact hQ
end
end XnHD5Text
section XnHD6Text
open PySem PySem.W PyProof.Rows
set_option maxRecDepth 100000
set_option maxHeartbeats 4000000
set_option linter.all false
noncomputable def asc : Int → List (Int × Str) → Bool
  | _, [] => true
  | lo, p :: r => decide (lo < p.1) && decide (p.1 < 1000000) && asc p.1 r
theorem asc_all : ∀ (q : List (Int × Str)) (lo : Int), asc lo q = true → (q.map (·.1)).Nodup ∧ ∀ p ∈ q, lo < p.1 ∧ p.1 < 1000000
  | [], _, _ => ⟨by simp, by simp⟩
  | p :: r, lo, h => by
    simp only [asc, Bool.and_eq_true, decide_eq_true_eq] at h
    obtain ⟨h1, h2⟩ := asc_all r p.1 h.2
    refine ⟨?_, fun x hx => ?_⟩
    · rw [List.map_cons, List.nodup_cons]
      refine ⟨fun hm => ?_, h1⟩
      obtain ⟨x, hx, e⟩ := List.mem_map.mp hm
      have := (h2 x hx).1
      omega
    · rcases List.mem_cons.mp hx with rfl | hx
      · exact ⟨h.1.1, h.1.2⟩
      · have := h2 x hx
        exact ⟨by omega, this.2⟩
theorem b3_asc : asc 0 b3pairs = true := by kernel_rfl
theorem b3_len : b3pairs.length = 650 := by kernel_rfl
theorem hash_small {k : Int} (h0 : 0 < k) (h1 : k < 1000000) : hashInt k = k := by
  have e : rawHash k = k := by
    unfold rawHash
    have : ((k.natAbs % (2 ^ 61 - 1) : Nat) : Int) = k := by
      rw [Nat.mod_eq_of_lt (by omega)]; omega
    show (let h : Int := ((k.natAbs % (2 ^ 61 - 1) : Nat) : Int); let h := if k < 0 then -h else h; if h == -1 then -2 else h) = k
    rw [this]
    show (if (if k < 0 then -k else k) == -1 then -2 else (if k < 0 then -k else k)) = k
    rw [if_neg (show ¬ k < 0 by omega), if_neg (by intro q; have := eq_of_beq q; omega)]
  unfold hashInt
  rw [e, if_neg (by intro q; have := eq_of_beq q; omega)]
noncomputable def dPos : Pos := match stAt 11 with | .Assign _ (.Dict _ _ p) _ => p | _ => ⟨0, 0, 0, 0⟩
noncomputable def sPos : Pos := match stAt 11 with | .Assign _ _ p => p | _ => ⟨0, 0, 0, 0⟩
noncomputable def dTail (v : Value) : Sem Flow := match stAt 11 with
  | .Assign ts val _ => do assignStores benv v (← swappedStores ts val benv) ((assignEach ts benv).map (·.2))
  | _ => pure .next
theorem exec_dict : exec (stAt 11) benv = ((do standAt sPos; standAt dPos; dictDisplay (b3pairs.map (itemO dPos)) : Sem Value) >>= dTail) := by kernel_rfl
noncomputable def H9 (w : World) : Heap := absHeap (bt_p9 w.params) 154 life0
theorem H9_size (w : World) : (H9 w).objs.size = 154 := absHeap_size _ _ _
theorem hp_nil (H : Heap) : hp H [] = H := by
  show Heap.mk (H.objs ++ (#[] : Array Obj)) H.life = H
  rw [Array.append_empty]
theorem hp_mid (w : World) : hp (H9 w) (oD0 :: ((List.range 37).map oDi ++ [oDz])) = absHeap (bt_mid w.params) 193 life0 := by kernel_rfl
theorem dict_run' (bp : List (Int × Str)) (hlen : bp.length = 650) (hn : (bp.map (·.1)).Nodup) (hh : ∀ p ∈ bp, hashInt p.1 = p.1) (w : World) (os : OsState) (p1 p2 : Pos) (s' : Shared)
    (hmid : (⟨hp (H9 w) (dO (allB bp 38 ++ entsS 2450 (bp.drop 646)) 650 :: ((List.range 37).map (fun k => dO (cE bp (k + 1)) 17) ++ [dO (entsS 2450 (bp.drop 646)) 4])), #[], drawn0, 2462, os⟩ : Shared) = s')
    (K : Value → Sem Fin) (Hh : Value → Sem Fin) (gd : Bool → Bool) (lv : List Value → List Value) (p : Pos) :
    ∃ p', segGo treeTable pw w 28 annE 1 12517 ⟨H9 w, #[], drawn0, 512, os⟩ ⟨(do standAt p1; standAt p2; dictDisplay (bp.map (itemO p2)) : Sem Value).wrap K Hh gd lv, bcode, p, bst⟩ = some (s', ⟨K (.ref 154), bcode, p', bst⟩) := by
  have h : tw w (do standAt p1; standAt p2; dictDisplay (bp.map (itemO p2)) : Sem Value) (fun a s c' => a = .ref 154 ∧ s = s' ∧ c' = 12517) ⟨H9 w, #[], drawn0, 512, os⟩ 0 := by
    refine tw_bind ?_
    show tw w (standAt p2 >>= fun _ => dictDisplay (bp.map (itemO p2))) _ _ 1
    refine tw_bind ?_
    show tw w (dictDisplay (bp.map (itemO p2))) _ ⟨H9 w, #[], drawn0, 512, os⟩ 2
    rw [← hp_nil (H9 w)]
    exact tw_display (H9_size w) hlen hn hh ⟨rfl, hmid, rfl⟩
  obtain ⟨a, p', s'', n, ⟨rfl, rfl, hn⟩, hr⟩ := tw_run _ _ _ _ h K Hh gd lv p
  rw [Nat.zero_add] at hn
  subst hn
  exact ⟨p', hr⟩
theorem mid_eq (w : World) (os : OsState) : (⟨hp (H9 w) (oD0 :: ((List.range 37).map oDi ++ [oDz])), #[], drawn0, 2462, os⟩ : Shared) = (S_mid w os).abs := by
  show (⟨_, #[], drawn0, 2462, os⟩ : Shared) = ⟨absHeap (bt_mid w.params) 193 life0, #[], drawn0, 2462, os⟩
  rw [hp_mid]
theorem b3_nodup : (b3pairs.map (·.1)).Nodup := (asc_all b3pairs 0 b3_asc).1
theorem b3_hash : ∀ p ∈ b3pairs, hashInt p.1 = p.1 := fun q hq => hash_small ((asc_all b3pairs 0 b3_asc).2 q hq).1 ((asc_all b3pairs 0 b3_asc).2 q hq).2
end XnHD6Text
section XnHD7Text
open PySem PySem.W PyProof.Rows
set_option maxRecDepth 100000
set_option maxHeartbeats 4000000
set_option linter.all false
theorem tw_runT : @segRunT = @PySem.W.Fast.tw10110043849684766642 := PySem.W.Fast.te10110043849684766642
theorem byRow {row : String} {P : World → Prop} (h : ∀ (w : World) (b : Bool), P (w.withFollow row b)) (w : World) : P w := by
  have := h w (w.params.followText row)
  rwa [World.withFollow_self] at this
theorem tail_ff (w : World) (os : OsState) (p : Pos) : segRunT treeTable pw (w.withFollow "special-get-raises" false) 28 annE 1 8 (S_mid (w.withFollow "special-get-raises" false) os) ⟨(dTail (.ref 154)).wrap doneF deadEnd id id, bcode, p, bst⟩ = some (.next, S_p10 (w.withFollow "special-get-raises" false) os, bcode, ⟨47, 0, 47, 13⟩) := by
  rw [tw_runT, tw_tb]
  kernel_rfl
theorem tail_tt (w : World) (os : OsState) (p : Pos) : segRunT treeTable pw (w.withFollow "special-get-raises" true) 28 annE 1 8 (S_mid (w.withFollow "special-get-raises" true) os) ⟨(dTail (.ref 154)).wrap doneF deadEnd id id, bcode, p, bst⟩ = some (.next, S_p10 (w.withFollow "special-get-raises" true) os, bcode, ⟨47, 0, 47, 13⟩) := by
  rw [tw_runT, tw_tb]
  kernel_rfl
theorem dict_tail (w : World) : ∀ (os : OsState) (p : Pos), segRunT treeTable pw w 28 annE 1 8 (S_mid w os) ⟨(dTail (.ref 154)).wrap doneF deadEnd id id, bcode, p, bst⟩ = some (.next, S_p10 w os, bcode, ⟨47, 0, 47, 13⟩) := by
  refine byRow (row := "special-get-raises") (P := fun w => ∀ (os : OsState) (p : Pos), segRunT treeTable pw w 28 annE 1 8 (S_mid w os) ⟨(dTail (.ref 154)).wrap doneF deadEnd id id, bcode, p, bst⟩ = some (.next, S_p10 w os, bcode, ⟨47, 0, 47, 13⟩)) (fun w b => ?_) w
  cases b
  · exact tail_ff w
  · exact tail_tt w
theorem dict_seg (w : World) (os : OsState) (p : Pos) : segRun treeTable pw w 28 annE 1 (12517 + 8) (S_p9 w os).abs (pieceOf (stAt 11) benv bcode p bst) = some (.next, (S_p10 w os).abs, bcode, ⟨47, 0, 47, 13⟩) := by
  have e : pieceOf (stAt 11) benv bcode p bst = ⟨((do standAt sPos; standAt dPos; dictDisplay (b3pairs.map (itemO dPos)) : Sem Value)).wrap (fun a => (dTail a).wrap doneF deadEnd id id) (fun e => (Sem.raise e : Sem Flow).wrap doneF deadEnd id id) (fun g => id (id g)) (fun l => id (id l)), bcode, p, bst⟩ := by
    show (⟨(exec (stAt 11) benv).wrap doneF deadEnd id id, bcode, p, bst⟩ : Thread) = _
    rw [exec_dict, Sem.bind_eq_wrap', Sem.wrap_wrap]
  rw [e]
  obtain ⟨p', hr⟩ := dict_run' b3pairs b3_len b3_nodup b3_hash w os sPos dPos _ (mid_eq w os) (fun a => (dTail a).wrap doneF deadEnd id id) (fun e => (Sem.raise e : Sem Flow).wrap doneF deadEnd id id) (fun g => id (id g)) (fun l => id (id l)) p
  exact seg_go hr (segRun_of (dict_tail w os p'))
end XnHD7Text
section XnHD8Text
open PySem PySem.W PyProof.Rows
set_option maxRecDepth 100000
set_option maxHeartbeats 4000000
set_option linter.all false
theorem tw_segRun : @segRun = @PySem.W.Fast.tw14374325043358763698 := PySem.W.Fast.te14374325043358763698
theorem tw_topGo : @topGo = @PySem.W.Fast.tw15667345088766844465 := PySem.W.Fast.te15667345088766844465
theorem tw_topRun : @topRun = @PySem.W.Fast.tw14082659384304107361 := PySem.W.Fast.te14082659384304107361
theorem tw_den : @denote = @PySem.W.Fast.tw11892475500146522536 := PySem.W.Fast.te11892475500146522536
abbrev GoesTo (n : Nat) (S : World → OsState → SharedT) (l : List Stmt) (p : Pos) (S' : World → OsState → SharedT) (p' : Pos) (w : World) : Prop :=
  ∀ os, segRunT treeTable pw w 28 annE 1 n (S w os) (piecesOf l benv bcode p bst) = some (.next, S' w os, bcode, p')
theorem g0 (w : World) : GoesTo 176 S_pre [stAt 1, stAt 2, stAt 3, stAt 4, stAt 5, stAt 6] ⟨0, 0, 0, 0⟩ S_p5 ⟨11, 0, 11, 11⟩ w := by
  intro os; rw [tw_runT, tw_tb]; kernel_rfl
theorem g1 (w : World) : GoesTo 504 S_p5 [stAt 7] ⟨11, 0, 11, 11⟩ S_p6 ⟨12, 0, 42, 32⟩ w := by
  intro os; rw [tw_runT, tw_tb]; kernel_rfl
noncomputable def w2 (w : World) (a b : Bool) : World := (w.withFollow "set-order" a).withFollow "special-get-raises" b
theorem g2ff (w : World) : GoesTo 1008 S_p6 [stAt 8, stAt 9] ⟨12, 0, 42, 32⟩ S_p8 ⟨44, 0, 44, 6⟩ (w2 w false false) := by
  intro os; rw [tw_runT, tw_tb]; kernel_rfl
theorem g2ft (w : World) : GoesTo 1008 S_p6 [stAt 8, stAt 9] ⟨12, 0, 42, 32⟩ S_p8 ⟨44, 0, 44, 6⟩ (w2 w false true) := by
  intro os; rw [tw_runT, tw_tb]; kernel_rfl
theorem g2tf (w : World) : GoesTo 1008 S_p6 [stAt 8, stAt 9] ⟨12, 0, 42, 32⟩ S_p8 ⟨44, 0, 44, 6⟩ (w2 w true false) := by
  intro os; rw [tw_runT, tw_tb]; kernel_rfl
theorem g2tt (w : World) : GoesTo 1008 S_p6 [stAt 8, stAt 9] ⟨12, 0, 42, 32⟩ S_p8 ⟨44, 0, 44, 6⟩ (w2 w true true) := by
  intro os; rw [tw_runT, tw_tb]; kernel_rfl
theorem follow_swap (w : World) (b : Bool) : ∃ w', w'.withFollow "set-order" b = w.withFollow "set-order" b ∧ w' = w := ⟨w, rfl, rfl⟩
theorem g2 (w : World) : GoesTo 1008 S_p6 [stAt 8, stAt 9] ⟨12, 0, 42, 32⟩ S_p8 ⟨44, 0, 44, 6⟩ w := by
  refine byRow (row := "set-order") (P := GoesTo 1008 S_p6 [stAt 8, stAt 9] ⟨12, 0, 42, 32⟩ S_p8 ⟨44, 0, 44, 6⟩) (fun w a => ?_) w
  have e := World.withFollow_self (w.withFollow "set-order" a) "special-get-raises"
  rw [← e]
  generalize (w.withFollow "set-order" a).params.followText "special-get-raises" = b
  cases a <;> cases b
  · exact g2ff w
  · exact g2ft w
  · exact g2tf w
  · exact g2tt w
theorem g3 (w : World) : GoesTo 30 S_p8 [stAt 10] ⟨44, 0, 44, 6⟩ S_p9 ⟨45, 0, 46, 30⟩ w := by
  intro os; rw [tw_runT, tw_tb]; kernel_rfl
theorem g4 (w : World) : GoesTo 137 S_p10 [stAt 12, stAt 13, stAt 14, stAt 15, stAt 16] ⟨47, 0, 47, 13⟩ S_p15 ⟨81, 0, 120, 98⟩ w := by
  intro os; rw [tw_runT, tw_tb]; kernel_rfl
theorem body_eq : behindTheImports pw = [stAt 1, stAt 2, stAt 3, stAt 4, stAt 5, stAt 6] ++ ([stAt 7] ++ ([stAt 8, stAt 9] ++ ([stAt 10] ++ (stAt 11 :: ([stAt 12, stAt 13, stAt 14, stAt 15, stAt 16] ++ []))))) := by kernel_rfl
theorem g_pre (w : World) (os : OsState) : topGo treeTable pw w 28 annE 12 (S_s0 w os).abs (topStub pw) = some ((S_pre w os).abs, ⟨denote treeTable bcode, bcode, ⟨0, 0, 0, 0⟩, bst⟩) := by
  rw [tw_topGo, tw_den, tw_tb]; kernel_rfl
theorem g_block (w : World) (os : OsState) : segRun treeTable pw w 28 annE 1 1 (S_pre w os).abs (blockOf (behindTheImports pw) benv bcode ⟨0, 0, 0, 0⟩ bst) = some (.next, (S_pre w os).abs, bcode, ⟨0, 0, 0, 0⟩) := by
  kernel_rfl
theorem g_fin (w : World) (os : OsState) : topRun treeTable pw w 28 annE 2 (S_p15 w os).abs ⟨doneF .next, bcode, ⟨81, 0, 120, 98⟩, bst⟩ = some (S_p15 w os).abs := by
  rw [tw_topRun, tw_tb]; kernel_rfl
theorem top_run (w : World) (os : OsState) : topRun treeTable pw w 28 annE (12 + (1 + (176 + (504 + (1008 + (30 + ((12517 + 8) + (137 + 2)))))))) (S_s0 w os).abs (topStub pw) = some (S_p15 w os).abs := by
  have k := piece_nil (env := benv) (c := bcode) (q := ⟨0, 0, 0, 0⟩) (g_fin w os)
  have k := piece_app (q := ⟨0, 0, 0, 0⟩) (segRun_of (g4 w os)) k
  have k := piece_cons (q := ⟨0, 0, 0, 0⟩) (dict_seg w os ⟨45, 0, 46, 30⟩) k
  have k := piece_app (q := ⟨0, 0, 0, 0⟩) (segRun_of (g3 w os)) k
  have k := piece_app (q := ⟨0, 0, 0, 0⟩) (segRun_of (g2 w os)) k
  have k := piece_app (q := ⟨0, 0, 0, 0⟩) (segRun_of (g1 w os)) k
  have k := piece_app (q := ⟨0, 0, 0, 0⟩) (segRun_of (g0 w os)) k
  rw [← body_eq] at k
  have k := piece_block (q := ⟨0, 0, 0, 0⟩) (g_block w os) k
  exact go_top (g_pre w os) k
end XnHD8Text
section XnHEText
open PySem PySem.W PyProof.Rows
set_option maxRecDepth 100000
set_option maxHeartbeats 0
set_option linter.all false
theorem tw_imp : @importEnds = @PySem.W.Fast.tw10274390034422433532 := PySem.W.Fast.te10274390034422433532
theorem tw_fence : @fenceModules? = @PySem.W.Fast.tw14289696077712309145 := PySem.W.Fast.te14289696077712309145
theorem tw_start : @start = @PySem.W.Fast.tw1435165496053646825 := PySem.W.Fast.te1435165496053646825
theorem tw_seen : @seen = @PySem.W.Fast.tw5160383126252970620 := PySem.W.Fast.te5160383126252970620
theorem tw_tabsOk : @tabsOk = @PySem.W.Fast.tw479339242167458305 := PySem.W.Fast.te479339242167458305
theorem tw_tablesOk : @tablesOk = @PySem.W.Fast.tw10994771534591457954 := PySem.W.Fast.te10994771534591457954
theorem tw_pinSeenD : @pinSeenD = @PySem.W.Fast.tw16090120013241838585 := PySem.W.Fast.te16090120013241838585
theorem tw_plainSeenE : @plainSeenE = @PySem.W.Fast.tw2386780881361962483 := PySem.W.Fast.te2386780881361962483
theorem tw_plainSeenD : @plainSeenD = @PySem.W.Fast.tw11698064438423848299 := PySem.W.Fast.te11698064438423848299
theorem tw_wideSeen : @wideSeen = @PySem.W.Fast.tw7317090234206586261 := PySem.W.Fast.te7317090234206586261
theorem tw_clsSeenW : @clsSeenW = @PySem.W.Fast.tw7369524293546568484 := PySem.W.Fast.te7369524293546568484
noncomputable def H0 (P : Params) : Heap := absHeap (bt_s0 P) 28 life0
noncomputable def H1 (P : Params) : Heap := absHeap (bt_p15 P) 219 life0
noncomputable def qv : Program := { pw with main := { pw.main with body := [stAt 16] } }
noncomputable def lo : List Str := ["_sre", "_wall", "_quoted", "_paren_depth", "EMPTYSTRING", "_Accumulator", "b1_set", "in_table_b1", "b3_exceptions", "map_table_b3", "_law_nest", "_law_due"].map Str.ofString
noncomputable def mods : List Str := importedModules pw.main.body
noncomputable def sh (w : World) (os : OsState) : Shared := ⟨H1 w.params, #[], drawn0, 2506, os⟩
theorem hopen (w : World) : (fencedOpening treeTable pw w 20000).map (fun s => (s.heap, s.gens, s.drawn, s.toks)) = some (H0 w.params, #[], drawn0, 276) := by
  unfold fencedOpening
  rw [tw_imp, tw_fence, tw_start, tw_tb]
  kernel_rfl
theorem hsize (w : World) : ((H0 w.params).isNs mainGlobals && (#[] : Array GenState).size == 0, (H0 w.params).objs.size, (H0 w.params).nsMap mainGlobals "__annotations__") = (true, 28, annE) := by
  kernel_rfl
theorem l_stat (w : World) : staticsOk mods (H0 w.params) (H1 w.params) = true := by kernel_rfl
theorem l_bound (w : World) : namesBound pw (H1 w.params) = true := by kernel_rfl
theorem l_laid (w : World) : laidKept (H0 w.params) (H1 w.params) = true := by kernel_rfl
theorem l_seen (w : World) (os : OsState) : seen ((recsOf qv).map (·.name)) (ownsOf qv) [] { sh w os with gens := #[] } = expectedOf qv := by
  rw [tw_seen]; kernel_rfl
theorem l_blt (w : World) (os : OsState) : (sh w os).heap.bltView = bltViewBooted := by kernel_rfl
theorem l_keys (w : World) (os : OsState) : (sh w os).heap.keysOk (looseW qv lo) ((recsOf qv).map (·.name)) ((litsOf qv).map (·.1)) ((clssOf qv (looseW qv lo)).map (·.name)) = true := by kernel_rfl
theorem l_acc (w : World) (os : OsState) : (sh w os).heap.accountedOkI mods = true := by kernel_rfl
theorem l_ns1 (w : World) (os : OsState) : (sh w os).heap.isNs mainGlobals = true := by kernel_rfl
theorem l_ns2 (w : World) (os : OsState) : (sh w os).heap.isNs builtinsNs = true := by kernel_rfl
theorem l_tables (w : World) (os : OsState) : tablesOk qv (sh w os).heap = true := by rw [tw_tablesOk]; kernel_rfl
theorem l_tabs (w : World) (os : OsState) : tabsOk qv (sh w os) = true := by rw [tw_tabsOk]; kernel_rfl
theorem l_pin (w : World) (os : OsState) : pinSeenD qv (drecsOf qv) (sh w os) = pinGoodD (drecsOf qv) := by rw [tw_pinSeenD]; kernel_rfl
theorem l_pe (w : World) (os : OsState) : plainSeenE qv (looseW qv lo) (sh w os) = plainGoodE qv (looseW qv lo) := by rw [tw_plainSeenE]; kernel_rfl
theorem l_pd (w : World) (os : OsState) : plainSeenD qv lo (sh w os) = plainGoodD qv lo := by rw [tw_plainSeenD]; kernel_rfl
theorem l_wide (w : World) (os : OsState) : wideSeen qv (sh w os) = wideGood qv := by rw [tw_wideSeen]; kernel_rfl
theorem l_cls (w : World) (os : OsState) : clsSeenW qv lo (sh w os) = clsGoodW qv lo := by rw [tw_clsSeenW]; kernel_rfl
theorem l_open (w : World) (os : OsState) : openSeen qv lo mods (fun _ => true) true (sh w os) = openGood qv lo := by
  unfold openSeen openGood
  rw [l_seen, l_blt, l_keys, l_acc, l_ns1, l_ns2, l_tables, l_tabs, l_pin, l_pe, l_pd, l_wide, l_cls]
  rfl
theorem left : LeftO pw qv lo (fun _ => true) Shared.heap (fun w => H1 w.params) 20000 true :=
  LeftO.of_pieces (p := pw) (q := qv) (loose := lo) (Xt := fun _ => true) (Yf := Shared.heap) (Ya := fun w => H1 w.params) (N := 20000) (g0 := true) (H₀ := H0) (H₁ := H1) (gs₀ := #[]) (gs₁ := #[]) (d₀ := drawn0) (d₁ := drawn0) (k₀ := 276) (k₁ := 2506) (m₀ := 28) (ann := annE) (M := 12 + (1 + (176 + (504 + (1008 + (30 + ((12517 + 8) + (137 + 2))))))))
    hopen hsize top_run rfl (fun w => funext fun os => by
      show ((staticsOk mods (H0 w.params) (H1 w.params) && namesBound pw (H1 w.params) && gensDone (sh w os) && laidKept (H0 w.params) (H1 w.params)), openSeen qv lo mods (fun _ => true) true (sh w os), (sh w os).heap) = (true, openGood qv lo, H1 w.params)
      rw [l_open, l_stat, l_bound, l_laid]
      rfl)
end XnHEText
section XnHWText
open PySem PySem.W PySem.W.X PyProof.Rows
set_option maxRecDepth 100000
set_option maxHeartbeats 4000000
set_option linter.all false
theorem frag_in {P : Params} {K : Frag} {t : BT} {n : Nat} (h1 : K.map (fun x => t.get x.1) = K.map (fun x => some x.2)) (h2 : K.map (fun x => alive x.2) = K.map (fun x => some x.2)) (h3 : K.all (fun x => Nat.blt x.1 n) = true) : K.In (absHeap t n life0) := by
  intro a o e
  have hm : (a, o) ∈ K := by
    have : ∀ K : Frag, K.lookup a = some o → (a, o) ∈ K := by
      intro K
      induction K with
      | nil => intro e; cases e
      | cons x r ih =>
        intro e
        rw [List.lookup_cons] at e
        split at e
        · rename_i hx
          have hx := eq_of_beq hx
          obtain ⟨u, v⟩ := x
          cases e
          simp only at hx; subst hx
          exact .head _
        · exact .tail _ (ih e)
    exact this K e
  have g1 : t.get a = some o := (List.map_inj_left.mp h1) (a, o) hm
  have g2 : alive o = some o := (List.map_inj_left.mp h2) (a, o) hm
  have g3 := List.all_eq_true.mp h3 (a, o) hm
  rw [abs_get (Nat.le_of_ble_eq_true g3) g1, g2]
noncomputable def form (ps : List (Int × Str)) (es : List DictEntry) : Prop := ∃ ts : List (Nat × Nat), ts.length = ps.length ∧ es = (ps.zip ts).map fun x => ⟨x.1.1, .int x.1.1 x.2.1, .str x.1.2 x.2.2⟩
theorem form_app {p q : List (Int × Str)} {a b : List DictEntry} : form p a → form q b → form (p ++ q) (a ++ b)
  | ⟨t, h1, h2⟩, ⟨u, k1, k2⟩ => ⟨t ++ u, by simp [h1, k1], by rw [List.zip_append h1.symm, List.map_append, ← h2, ← k2]⟩
theorem form_L : ∀ (ps : List (Int × Str)) (t : Nat), form ps (entsL t ps)
  | [], _ => ⟨[], rfl, rfl⟩
  | q :: r, t => by
    obtain ⟨u, h1, h2⟩ := form_L r (t + 3)
    exact ⟨(t, t + 1) :: u, by simp [h1], by unfold entsL; rw [h2]; rfl⟩
theorem form_S : ∀ (ps : List (Int × Str)) (t : Nat), form ps (entsS t ps)
  | [], _ => ⟨[], rfl, rfl⟩
  | q :: r, t => by
    obtain ⟨u, h1, h2⟩ := form_S r (t + 2)
    exact ⟨(t, t + 1) :: u, by simp [h1], by unfold entsS; rw [h2]; rfl⟩
theorem form_all (bp : List (Int × Str)) : ∀ i, form (bp.take (17 * i)) (allB bp i)
  | 0 => by rw [Nat.mul_zero, List.take_zero]; exact ⟨[], rfl, rfl⟩
  | i + 1 => by
    have e : bp.take (17 * (i + 1)) = bp.take (17 * i) ++ chk bp i := by
      unfold chk
      rw [show 17 * (i + 1) = 17 * i + 17 by omega, List.take_add]
    have f : allB bp (i + 1) = allB bp i ++ cE bp i := by unfold allB; rw [List.range_succ, List.flatMap_append]; simp
    rw [e, f]
    exact form_app (form_all bp i) (form_L _ _)
theorem b3_form : b3ok (allB b3pairs 38 ++ entsS 2450 (b3pairs.drop 646)).toArray := by
  have h := form_app (form_all b3pairs 38) (form_S (b3pairs.drop 646) 2450)
  rw [show 17 * 38 = 646 from rfl, List.take_append_drop] at h
  exact h
theorem get154 (w : World) : (H1 w.params).get? 154 = some oD0 := by
  unfold H1
  rw [abs_get (o := oD0) (by decide) (by kernel_rfl)]
  rfl
theorem get100 (w : World) : (H1 w.params).get? 100 = some ⟨.none, none, .fields #[], #[]⟩ := by
  unfold H1
  rw [abs_get (o := o100_p6 w.params) (by decide) (by kernel_rfl)]
  rfl
theorem wd_K (w : World) : (kTop w.params).In (H1 w.params) := frag_in (P := w.params) (by kernel_rfl) (by kernel_rfl) (by kernel_rfl)
theorem wd_top (w : World) : Wd w (H1 w.params) := by
  refine ⟨wd_K w, ⟨_, 650, get154 w, b3_form⟩, ⟨#[], ?_⟩⟩
  exact ⟨o104_p6 w.params, _, _, _, _, _, _, _, _, _, wd_K w 104 _ rfl, rfl, rfl, rfl, rfl, rfl, rfl, get100 w, rfl, trivial, by decide⟩
theorem tab_top (w : World) : (H1 w.params).TableAt 104 100 #[] :=
  ⟨⟨o104_p6 w.params, _, wd_K w 104 _ rfl, rfl, rfl, rfl⟩, get100 w⟩
end XnHWText
theorem rstXnFin (M : PySem.Model) (A : PySem.Around) (env : PySem.Env) (s : PySem.Shared) : True := by
  first
  | (have h : PySem.wpAny M A (PySem.eval (.Constant .none 0 ⟨0, 0, 0, 0⟩) env) (fun _ _ => True) (fun _ _ => True) s := by (walk1; fail)
     trivial)
  | (w_top off
     trivial)
section XnFinText
open PySem PySem.W PySem.W.X PyProof.Rows
set_option maxRecDepth 100000
set_option maxHeartbeats 4000000
set_option linter.all false
noncomputable def YP (w : World) (h : Heap) : Prop := Wd w h ∧ h.TableAt 104 100 #[]
theorem yp_top (w : World) (s : Shared) (e : s.heap = H1 w.params) : YP w s.heap := e ▸ ⟨wd_top w, tab_top w⟩
theorem yp_keeps (w : World) (h h' : Heap) (y : YP w h) (k : ∀ b o, h.get? b = some o → h'.get? b = some o) : YP w h' := ⟨y.1.keeps k, y.2.keeps k⟩
abbrev XT (mg : Str → Option Value) (h : Heap) : Prop := True
theorem ints_iv : ∀ {vs : List Value} {ns : List Int}, IntsAre vs ns → ∃ l : List (Int × Tok), vs = l.map iv ∧ l.length = ns.length
  | _, _, .nil => ⟨[], rfl, rfl⟩
  | _, _, .cons n t r => let ⟨l, h1, h2⟩ := ints_iv r; ⟨(n, t) :: l, by rw [h1]; rfl, by simp [h2]⟩
theorem plain_of_well {P : Params} {h : Heap} {x : Addr} {ns : List Int} {vs : List Value} (w1 : Well P h (.ref x) (ofPy (.list (ns.map PyData.int)))) (hL : h.IsList x vs.toArray) : h.PlainList x vs.toArray := by
  have w1' : Well P h (.ref x) (.list (ofPys (ns.map PyData.int))) := w1
  cases w1' with
  | list ha wa =>
    obtain ⟨o, ho, _, n, hd⟩ := hL
    rw [ha] at ho; cases ho
    obtain ⟨e, _⟩ := Data.seq.inj hd
    exact ⟨_, e ▸ ha⟩
theorem oldK_of {s₁ s' : Shared} (T : s₁.heap.TableAt 104 100 #[]) (S : StG s₁ s') : OldK s₁.heap s'.heap := by
  obtain ⟨ps, _, e'⟩ := S.tab ⟨_, T⟩
  refine ⟨fun b o e => ?_, fun b o e => ?_⟩
  · by_cases hb : b = 100
    · subst hb
      have e₀ : o = { cls := .none, data := .fields #[] } := Option.some.inj (e.symm.trans T.2)
      subst e₀
      exact .inr (.inl ⟨T.isCodeTable, rfl, #[], ps, rfl, by rw [Array.empty_append]; exact e'⟩)
    · exact .inl (S.keep b o hb e)
  · by_cases hb : b = 100
    · exact ⟨_, hb ▸ e'⟩
    · exact ⟨o, S.keep b o hb e⟩
theorem fin_good {c : ClaimW} {cl : Str → Option Addr} {mean : ExcName → Option Value} {args : List WData} {s₁ s' : Shared} (T : s₁.heap.TableAt 104 100 #[]) (S : StG s₁ s') (hr : ∀ cls, c.raises args cls = false) (hp : c.post args (.bool true) args = true) (hb : AllBare s₁.gens) :
    GoodWG c cl mean args s₁ (.ok (.ret (.bool true))) s' :=
  ⟨.inl ⟨_, _, [], rfl, hr, ReadsW.bool true, hp, fun _ => ⟨List.nodup_nil, fun _ hm => (nomatch hm)⟩⟩, oldK_of T S, S.os, S.bare hb⟩
theorem tw_ws : @OpenLaw.wellSaid = @PySem.W.Fast.tw9446332074065402090 := PySem.W.Fast.te9446332074065402090
theorem fin_said : PySem.Challenge.rw_xn0015_01.wellSaid = true := by
  rw [tw_ws]; kernel_rfl
theorem fin_call {w : World} {s₀ s₁ : Shared} {mg : Str → Option Value} {a : Addr} (hG : s₁.heap.Ns mainGlobals mg) (Y : YP w s₁.heap) (hmg : mg "law" = some (.ref a)) (hg : s₁.gens = #[]) {args : List WData} {vals : List Value} {as : List Addr}
    (hpre : PySem.Challenge.rw_xn0015_01.row.toRowW.claim.pre args = true) (hlay : WData.layableAll args = true) (hrd : ReadsAllW PySem.Challenge.rw_xn0015_01.row.toRowW.records (classAt s₀.heap) s₁.heap vals args as) (hwl : WellAll w.params s₁.heap vals args) (hlo : ∀ a ∈ as, (a == sysModules) = false) :
    wpAny (model pw w) callerA (call (.ref a) vals) (fun v s' => GoodWG PySem.Challenge.rw_xn0015_01.row.toRowW.claim (classAt s₀.heap) (ExcName.means s₀.heap) args s₁ (.ok (.ret v)) s')
      (fun e s' => GoodWG PySem.Challenge.rw_xn0015_01.row.toRowW.claim (classAt s₀.heap) (ExcName.means s₀.heap) args s₁ (.error e) s') s₁ := by
  w_on
  obtain ⟨W, T⟩ := Y
  have hga : a = 218 := by
    have e1 : mg = mgOf w := hG.eq_nsMap.trans W.g.eq_nsMap.symm
    rw [e1] at hmg
    have e3 : mgOf w "law" = some (.ref 218) := by rfl
    rw [e3] at hmg
    cases hmg
    rfl
  subst hga
  wrow_args hpre hlay hrd hwl hlo
  rename_i ns _ _ _ _ _ _ _ x vs _ hL _ w1 _ hI _ h63 _
  obtain ⟨l, hlv, hll⟩ := ints_iv hI
  have hP := plain_of_well w1 hL
  rw [hlv] at hP
  refine law_call W (ar_caller 60 (by decide)) hP (by rw [hll]; omega) fun s' S => ?_
  exact fin_good T S (fun _ => rfl) (by first | rfl | wrow_post) (.of_eq hg)
theorem fin_walk : PySem.Challenge.rw_xn0015_01.Holds := by
  w_on
  refine holds_law fin_said fun said => ?_
  refine holds_open (q := qv) (loose := lo) (Xt := fun _ => true) (XP := fun _ _ => True) (Yf := Shared.heap) (Ya := fun w => H1 w.params) (YP := YP) (N := 20000) left yp_top yp_keeps (fun _ _ => trivial) (fun _ _ _ _ _ => trivial) (by rfl) (by rfl) (by rfl) (fun s e => recFacts_nil rfl) (by rfl) said (by decide +kernel) ⟨rfl, rfl, rfl, rfl, rfl, by decide +kernel⟩ ?hw
    fun w s₀ s₁ mg mb G Y a o pm cd doc dV kV ho hd hcd hD hmg hg args vals as hpre hlay hrd hwl hlo => fin_call G.T.g Y hmg hg hpre hlay hrd hwl hlo
  case hw => w_witness2
end XnFinText
end Mine
theorem PySem.Challenge.cw_xn0015_01_holds : PySem.Challenge.rw_xn0015_01.Holds := by
  exact Mine.fin_walk
