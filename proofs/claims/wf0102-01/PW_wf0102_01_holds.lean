import PyProof.Rows.All
import PyProof.DictDisplay
import Wide.FinOn
import OpenK.AllK
import Wide.All
import Lean
import PySem.Challenge.RW_wf0102_01
set_option Elab.async false
set_option compiler.extract_closed false
section
open PySem PySem.W PyProof.Rows
set_option maxRecDepth 100000
namespace Mine
noncomputable abbrev S (x : String) : PySem.Str := PySem.Str.ofString x
noncomputable abbrev pw : Program := PySem.Challenge.pw_wf0102_01
noncomputable def stm (i : Nat) : Stmt := (pw.main.body[i]?).getD (.Pass ⟨0, 0, 0, 0⟩)
noncomputable def mth (i j : Nat) : Stmt := match stm i with
  | .ClassDef _ _ _ b _ _ _ _ _ _ _ => (b[j]?).getD (.Pass ⟨0, 0, 0, 0⟩)
  | s => s
noncomputable def fnP : Stmt → Arguments
  | .FunctionDef _ a _ _ _ _ _ _ _ _ => a
  | _ => ⟨[], [], none, [], [], none, []⟩
noncomputable def fnB : Stmt → List Stmt
  | .FunctionDef _ _ b _ _ _ _ _ _ _ => b
  | _ => []
noncomputable def fnS : Stmt → Scope
  | .FunctionDef _ _ _ _ _ _ s _ _ _ => s
  | _ => ⟨.module, [], false, false, []⟩
noncomputable def dictK : Stmt → List (Option Expr) | .Assign _ (.Dict k _ _) _ => k | _ => []
noncomputable def dictV : Stmt → List Expr | .Assign _ (.Dict _ v _) _ => v | _ => []
/-- the rows of a dict display of ints and texts, as they lie where the first key's token is t (from 2374 on the values stand ahead of the stores) -/
noncomputable def tabGo : List (Option Expr × Expr) → Nat → List DictEntry
  | (some (.Constant (.int i) _ _), .Constant (.str x) _ _) :: r, t => ⟨i, .int i t, .str x (t + 1)⟩ :: tabGo r (if Nat.blt t 2374 then t + 3 else t + 2)
  | _, _ => []
noncomputable def tabE (lo n t : Nat) : Array DictEntry := (tabGo ((((dictK (stm 11)).zip (dictV (stm 11))).drop lo).take n) t).toArray
set_option linter.unusedVariables false
-- the objects and the states of the top, printed by DUMP.lean
noncomputable def o0_0 (P : Params) : Obj := ⟨(.type "dict"), none, (.dict #[⟨PyData.keyHash P (S "__name__"), (.str (S "__name__") 1), (.str (S "builtins") 160)⟩, ⟨PyData.keyHash P (S "__doc__"), (.str (S "__doc__") 2), (.builtin "builtins.__doc__:str#opaque")⟩, ⟨PyData.keyHash P (S "__package__"), (.str (S "__package__") 3), (.builtin "builtins.__package__:str#opaque")⟩, ⟨PyData.keyHash P (S "__loader__"), (.str (S "__loader__") 4), (.builtin "builtins.__loader__:shared#opaque")⟩, ⟨PyData.keyHash P (S "__spec__"), (.str (S "__spec__") 5), (.builtin "builtins.__spec__#opaque")⟩, ⟨PyData.keyHash P (S "__build_class__"), (.str (S "__build_class__") 6), (.builtin "__build_class__")⟩, ⟨PyData.keyHash P (⟨#[95, 95, 105, 109, 112, 111, 114, 116, 95, 95]⟩ : PySem.Str), (.str (⟨#[95, 95, 105, 109, 112, 111, 114, 116, 95, 95]⟩ : PySem.Str) 7), (.builtin "__import__")⟩, ⟨PyData.keyHash P (S "abs"), (.str (S "abs") 8), (.builtin "abs")⟩, ⟨PyData.keyHash P (S "all"), (.str (S "all") 9), (.builtin "all")⟩, ⟨PyData.keyHash P (S "any"), (.str (S "any") 10), (.builtin "any")⟩, ⟨PyData.keyHash P (S "ascii"), (.str (S "ascii") 11), (.builtin "ascii")⟩, ⟨PyData.keyHash P (S "bin"), (.str (S "bin") 12), (.builtin "bin")⟩, ⟨PyData.keyHash P (S "breakpoint"), (.str (S "breakpoint") 13), (.builtin "breakpoint")⟩, ⟨PyData.keyHash P (S "callable"), (.str (S "callable") 14), (.builtin "callable")⟩, ⟨PyData.keyHash P (S "chr"), (.str (S "chr") 15), (.builtin "chr")⟩, ⟨PyData.keyHash P (S "compile"), (.str (S "compile") 16), (.builtin "compile")⟩, ⟨PyData.keyHash P (S "delattr"), (.str (S "delattr") 17), (.builtin "delattr")⟩, ⟨PyData.keyHash P (S "dir"), (.str (S "dir") 18), (.builtin "dir")⟩, ⟨PyData.keyHash P (S "divmod"), (.str (S "divmod") 19), (.builtin "divmod")⟩, ⟨PyData.keyHash P (S "eval"), (.str (S "eval") 20), (.builtin "eval")⟩, ⟨PyData.keyHash P (S "exec"), (.str (S "exec") 21), (.builtin "exec")⟩, ⟨PyData.keyHash P (S "format"), (.str (S "format") 22), (.builtin "format")⟩, ⟨PyData.keyHash P (S "getattr"), (.str (S "getattr") 23), (.builtin "getattr")⟩, ⟨PyData.keyHash P (S "globals"), (.str (S "globals") 24), (.builtin "globals")⟩, ⟨PyData.keyHash P (S "hasattr"), (.str (S "hasattr") 25), (.builtin "hasattr")⟩, ⟨PyData.keyHash P (S "hash"), (.str (S "hash") 26), (.builtin "hash")⟩, ⟨PyData.keyHash P (S "hex"), (.str (S "hex") 27), (.builtin "hex")⟩, ⟨PyData.keyHash P (S "id"), (.str (S "id") 28), (.builtin "id")⟩, ⟨PyData.keyHash P (S "input"), (.str (S "input") 29), (.builtin "input")⟩, ⟨PyData.keyHash P (S "isinstance"), (.str (S "isinstance") 30), (.builtin "isinstance")⟩, ⟨PyData.keyHash P (S "issubclass"), (.str (S "issubclass") 31), (.builtin "issubclass")⟩, ⟨PyData.keyHash P (S "iter"), (.str (S "iter") 32), (.builtin "iter")⟩, ⟨PyData.keyHash P (S "aiter"), (.str (S "aiter") 33), (.builtin "aiter")⟩, ⟨PyData.keyHash P (S "len"), (.str (S "len") 34), (.builtin "len")⟩, ⟨PyData.keyHash P (S "locals"), (.str (S "locals") 35), (.builtin "locals")⟩, ⟨PyData.keyHash P (S "max"), (.str (S "max") 36), (.builtin "max")⟩, ⟨PyData.keyHash P (S "min"), (.str (S "min") 37), (.builtin "min")⟩, ⟨PyData.keyHash P (S "next"), (.str (S "next") 38), (.builtin "next")⟩, ⟨PyData.keyHash P (S "anext"), (.str (S "anext") 39), (.builtin "anext")⟩, ⟨PyData.keyHash P (S "oct"), (.str (S "oct") 40), (.builtin "oct")⟩, ⟨PyData.keyHash P (S "ord"), (.str (S "ord") 41), (.builtin "ord")⟩, ⟨PyData.keyHash P (S "pow"), (.str (S "pow") 42), (.builtin "pow")⟩, ⟨PyData.keyHash P (S "print"), (.str (S "print") 43), (.builtin "print")⟩, ⟨PyData.keyHash P (S "repr"), (.str (S "repr") 44), (.builtin "repr")⟩, ⟨PyData.keyHash P (S "round"), (.str (S "round") 45), (.builtin "round")⟩, ⟨PyData.keyHash P (S "setattr"), (.str (S "setattr") 46), (.builtin "setattr")⟩, ⟨PyData.keyHash P (S "sorted"), (.str (S "sorted") 47), (.builtin "sorted")⟩, ⟨PyData.keyHash P (S "sum"), (.str (S "sum") 48), (.builtin "sum")⟩, ⟨PyData.keyHash P (S "vars"), (.str (S "vars") 49), (.builtin "vars")⟩, ⟨PyData.keyHash P (S "None"), (.str (S "None") 50), .none⟩, ⟨PyData.keyHash P (S "Ellipsis"), (.str (S "Ellipsis") 51), .ellipsis⟩, ⟨PyData.keyHash P (S "NotImplemented"), (.str (S "NotImplemented") 52), .notImplemented⟩, ⟨PyData.keyHash P (S "False"), (.str (S "False") 53), (.bool false)⟩, ⟨PyData.keyHash P (S "True"), (.str (S "True") 54), (.bool true)⟩, ⟨PyData.keyHash P (S "bool"), (.str (S "bool") 55), (.type "bool")⟩, ⟨PyData.keyHash P (S "memoryview"), (.str (S "memoryview") 56), (.type "memoryview")⟩, ⟨PyData.keyHash P (S "bytearray"), (.str (S "bytearray") 57), (.type "bytearray")⟩, ⟨PyData.keyHash P (S "bytes"), (.str (S "bytes") 58), (.type "bytes")⟩, ⟨PyData.keyHash P (S "classmethod"), (.str (S "classmethod") 59), (.type "classmethod")⟩, ⟨PyData.keyHash P (S "complex"), (.str (S "complex") 60), (.type "complex")⟩, ⟨PyData.keyHash P (S "dict"), (.str (S "dict") 61), (.type "dict")⟩, ⟨PyData.keyHash P (S "enumerate"), (.str (S "enumerate") 62), (.type "enumerate")⟩, ⟨PyData.keyHash P (S "filter"), (.str (S "filter") 63), (.type "filter")⟩, ⟨PyData.keyHash P (S "float"), (.str (S "float") 64), (.type "float")⟩, ⟨PyData.keyHash P (S "frozenset"), (.str (S "frozenset") 65), (.type "frozenset")⟩, ⟨PyData.keyHash P (S "property"), (.str (S "property") 66), (.type "property")⟩, ⟨PyData.keyHash P (S "int"), (.str (S "int") 67), (.type "int")⟩, ⟨PyData.keyHash P (S "list"), (.str (S "list") 68), (.type "list")⟩, ⟨PyData.keyHash P (S "map"), (.str (S "map") 69), (.type "map")⟩, ⟨PyData.keyHash P (S "object"), (.str (S "object") 70), (.type "object")⟩, ⟨PyData.keyHash P (S "range"), (.str (S "range") 71), (.type "range")⟩, ⟨PyData.keyHash P (S "reversed"), (.str (S "reversed") 72), (.type "reversed")⟩, ⟨PyData.keyHash P (S "set"), (.str (S "set") 73), (.type "set")⟩, ⟨PyData.keyHash P (S "slice"), (.str (S "slice") 74), (.type "slice")⟩, ⟨PyData.keyHash P (S "staticmethod"), (.str (S "staticmethod") 75), (.type "staticmethod")⟩, ⟨PyData.keyHash P (S "str"), (.str (S "str") 76), (.type "str")⟩, ⟨PyData.keyHash P (S "super"), (.str (S "super") 77), (.type "super")⟩, ⟨PyData.keyHash P (S "tuple"), (.str (S "tuple") 78), (.type "tuple")⟩, ⟨PyData.keyHash P (S "type"), (.str (S "type") 79), (.type "type")⟩, ⟨PyData.keyHash P (S "zip"), (.str (S "zip") 80), (.type "zip")⟩, ⟨PyData.keyHash P (S "__debug__"), (.str (S "__debug__") 81), (.bool true)⟩, ⟨PyData.keyHash P (S "BaseException"), (.str (S "BaseException") 82), (.type "BaseException")⟩, ⟨PyData.keyHash P (S "BaseExceptionGroup"), (.str (S "BaseExceptionGroup") 83), (.type "BaseExceptionGroup")⟩, ⟨PyData.keyHash P (S "Exception"), (.str (S "Exception") 84), (.type "Exception")⟩, ⟨PyData.keyHash P (S "GeneratorExit"), (.str (S "GeneratorExit") 85), (.type "GeneratorExit")⟩, ⟨PyData.keyHash P (S "KeyboardInterrupt"), (.str (S "KeyboardInterrupt") 86), (.type "KeyboardInterrupt")⟩, ⟨PyData.keyHash P (S "SystemExit"), (.str (S "SystemExit") 87), (.type "SystemExit")⟩, ⟨PyData.keyHash P (S "ArithmeticError"), (.str (S "ArithmeticError") 88), (.type "ArithmeticError")⟩, ⟨PyData.keyHash P (S "AssertionError"), (.str (S "AssertionError") 89), (.type "AssertionError")⟩, ⟨PyData.keyHash P (S "AttributeError"), (.str (S "AttributeError") 90), (.type "AttributeError")⟩, ⟨PyData.keyHash P (S "BufferError"), (.str (S "BufferError") 91), (.type "BufferError")⟩, ⟨PyData.keyHash P (S "EOFError"), (.str (S "EOFError") 92), (.type "EOFError")⟩, ⟨PyData.keyHash P (S "ImportError"), (.str (S "ImportError") 93), (.type "ImportError")⟩, ⟨PyData.keyHash P (S "LookupError"), (.str (S "LookupError") 94), (.type "LookupError")⟩, ⟨PyData.keyHash P (S "MemoryError"), (.str (S "MemoryError") 95), (.type "MemoryError")⟩, ⟨PyData.keyHash P (S "NameError"), (.str (S "NameError") 96), (.type "NameError")⟩, ⟨PyData.keyHash P (S "OSError"), (.str (S "OSError") 97), (.type "OSError")⟩, ⟨PyData.keyHash P (S "ReferenceError"), (.str (S "ReferenceError") 98), (.type "ReferenceError")⟩, ⟨PyData.keyHash P (S "RuntimeError"), (.str (S "RuntimeError") 99), (.type "RuntimeError")⟩, ⟨PyData.keyHash P (S "StopAsyncIteration"), (.str (S "StopAsyncIteration") 100), (.type "StopAsyncIteration")⟩, ⟨PyData.keyHash P (S "StopIteration"), (.str (S "StopIteration") 101), (.type "StopIteration")⟩, ⟨PyData.keyHash P (S "SyntaxError"), (.str (S "SyntaxError") 102), (.type "SyntaxError")⟩, ⟨PyData.keyHash P (S "SystemError"), (.str (S "SystemError") 103), (.type "SystemError")⟩, ⟨PyData.keyHash P (S "TypeError"), (.str (S "TypeError") 104), (.type "TypeError")⟩, ⟨PyData.keyHash P (S "ValueError"), (.str (S "ValueError") 105), (.type "ValueError")⟩, ⟨PyData.keyHash P (S "Warning"), (.str (S "Warning") 106), (.type "Warning")⟩, ⟨PyData.keyHash P (S "FloatingPointError"), (.str (S "FloatingPointError") 107), (.type "FloatingPointError")⟩, ⟨PyData.keyHash P (S "OverflowError"), (.str (S "OverflowError") 108), (.type "OverflowError")⟩, ⟨PyData.keyHash P (S "ZeroDivisionError"), (.str (S "ZeroDivisionError") 109), (.type "ZeroDivisionError")⟩, ⟨PyData.keyHash P (S "BytesWarning"), (.str (S "BytesWarning") 110), (.type "BytesWarning")⟩, ⟨PyData.keyHash P (S "DeprecationWarning"), (.str (S "DeprecationWarning") 111), (.type "DeprecationWarning")⟩, ⟨PyData.keyHash P (S "EncodingWarning"), (.str (S "EncodingWarning") 112), (.type "EncodingWarning")⟩, ⟨PyData.keyHash P (S "FutureWarning"), (.str (S "FutureWarning") 113), (.type "FutureWarning")⟩, ⟨PyData.keyHash P (S "ImportWarning"), (.str (S "ImportWarning") 114), (.type "ImportWarning")⟩, ⟨PyData.keyHash P (S "PendingDeprecationWarning"), (.str (S "PendingDeprecationWarning") 115), (.type "PendingDeprecationWarning")⟩, ⟨PyData.keyHash P (S "ResourceWarning"), (.str (S "ResourceWarning") 116), (.type "ResourceWarning")⟩, ⟨PyData.keyHash P (S "RuntimeWarning"), (.str (S "RuntimeWarning") 117), (.type "RuntimeWarning")⟩, ⟨PyData.keyHash P (S "SyntaxWarning"), (.str (S "SyntaxWarning") 118), (.type "SyntaxWarning")⟩, ⟨PyData.keyHash P (S "UnicodeWarning"), (.str (S "UnicodeWarning") 119), (.type "UnicodeWarning")⟩, ⟨PyData.keyHash P (S "UserWarning"), (.str (S "UserWarning") 120), (.type "UserWarning")⟩, ⟨PyData.keyHash P (S "BlockingIOError"), (.str (S "BlockingIOError") 121), (.type "BlockingIOError")⟩, ⟨PyData.keyHash P (S "ChildProcessError"), (.str (S "ChildProcessError") 122), (.type "ChildProcessError")⟩, ⟨PyData.keyHash P (S "ConnectionError"), (.str (S "ConnectionError") 123), (.type "ConnectionError")⟩, ⟨PyData.keyHash P (S "FileExistsError"), (.str (S "FileExistsError") 124), (.type "FileExistsError")⟩, ⟨PyData.keyHash P (S "FileNotFoundError"), (.str (S "FileNotFoundError") 125), (.type "FileNotFoundError")⟩, ⟨PyData.keyHash P (S "InterruptedError"), (.str (S "InterruptedError") 126), (.type "InterruptedError")⟩, ⟨PyData.keyHash P (S "IsADirectoryError"), (.str (S "IsADirectoryError") 127), (.type "IsADirectoryError")⟩, ⟨PyData.keyHash P (S "NotADirectoryError"), (.str (S "NotADirectoryError") 128), (.type "NotADirectoryError")⟩, ⟨PyData.keyHash P (S "PermissionError"), (.str (S "PermissionError") 129), (.type "PermissionError")⟩, ⟨PyData.keyHash P (S "ProcessLookupError"), (.str (S "ProcessLookupError") 130), (.type "ProcessLookupError")⟩, ⟨PyData.keyHash P (S "TimeoutError"), (.str (S "TimeoutError") 131), (.type "TimeoutError")⟩, ⟨PyData.keyHash P (S "IndentationError"), (.str (S "IndentationError") 132), (.type "IndentationError")⟩, ⟨PyData.keyHash P (S "_IncompleteInputError"), (.str (S "_IncompleteInputError") 133), (.type "_IncompleteInputError")⟩, ⟨PyData.keyHash P (S "IndexError"), (.str (S "IndexError") 134), (.type "IndexError")⟩, ⟨PyData.keyHash P (S "KeyError"), (.str (S "KeyError") 135), (.type "KeyError")⟩, ⟨PyData.keyHash P (S "ModuleNotFoundError"), (.str (S "ModuleNotFoundError") 136), (.type "ModuleNotFoundError")⟩, ⟨PyData.keyHash P (S "NotImplementedError"), (.str (S "NotImplementedError") 137), (.type "NotImplementedError")⟩, ⟨PyData.keyHash P (S "PythonFinalizationError"), (.str (S "PythonFinalizationError") 138), (.type "PythonFinalizationError")⟩, ⟨PyData.keyHash P (S "RecursionError"), (.str (S "RecursionError") 139), (.type "RecursionError")⟩, ⟨PyData.keyHash P (S "UnboundLocalError"), (.str (S "UnboundLocalError") 140), (.type "UnboundLocalError")⟩, ⟨PyData.keyHash P (S "UnicodeError"), (.str (S "UnicodeError") 141), (.type "UnicodeError")⟩, ⟨PyData.keyHash P (S "BrokenPipeError"), (.str (S "BrokenPipeError") 142), (.type "BrokenPipeError")⟩, ⟨PyData.keyHash P (S "ConnectionAbortedError"), (.str (S "ConnectionAbortedError") 143), (.type "ConnectionAbortedError")⟩, ⟨PyData.keyHash P (S "ConnectionRefusedError"), (.str (S "ConnectionRefusedError") 144), (.type "ConnectionRefusedError")⟩, ⟨PyData.keyHash P (S "ConnectionResetError"), (.str (S "ConnectionResetError") 145), (.type "ConnectionResetError")⟩, ⟨PyData.keyHash P (S "TabError"), (.str (S "TabError") 146), (.type "TabError")⟩, ⟨PyData.keyHash P (S "UnicodeDecodeError"), (.str (S "UnicodeDecodeError") 147), (.type "UnicodeDecodeError")⟩, ⟨PyData.keyHash P (S "UnicodeEncodeError"), (.str (S "UnicodeEncodeError") 148), (.type "UnicodeEncodeError")⟩, ⟨PyData.keyHash P (S "UnicodeTranslateError"), (.str (S "UnicodeTranslateError") 149), (.type "UnicodeTranslateError")⟩, ⟨PyData.keyHash P (S "ExceptionGroup"), (.str (S "ExceptionGroup") 150), (.type "ExceptionGroup")⟩, ⟨PyData.keyHash P (S "EnvironmentError"), (.str (S "EnvironmentError") 151), (.type "OSError")⟩, ⟨PyData.keyHash P (S "IOError"), (.str (S "IOError") 152), (.type "OSError")⟩, ⟨PyData.keyHash P (S "open"), (.str (S "open") 153), (.builtin "open")⟩, ⟨PyData.keyHash P (S "quit"), (.str (S "quit") 154), (.builtin "builtins.quit#opaque")⟩, ⟨PyData.keyHash P (S "exit"), (.str (S "exit") 155), (.builtin "builtins.exit#opaque")⟩, ⟨PyData.keyHash P (S "copyright"), (.str (S "copyright") 156), (.builtin "builtins.copyright#opaque")⟩, ⟨PyData.keyHash P (S "credits"), (.str (S "credits") 157), (.builtin "builtins.credits#opaque")⟩, ⟨PyData.keyHash P (S "license"), (.str (S "license") 158), (.builtin "builtins.license#opaque")⟩, ⟨PyData.keyHash P (S "help"), (.str (S "help") 159), (.builtin "builtins.help#opaque")⟩] 159), #[]⟩
noncomputable def o1_0 (P : Params) : Obj := ⟨(.type "dict"), none, (.dict #[⟨PyData.keyHash P (S "builtins"), (.str (S "builtins") 162), (.ref 4)⟩, ⟨PyData.keyHash P (S "__main__"), (.str (S "__main__") 163), (.ref 5)⟩, ⟨PyData.keyHash P (S "_sre"), (.str (S "_sre") 244), (.ref 12)⟩] 3), #[]⟩
noncomputable def o2_0 (P : Params) : Obj := ⟨.none, none, (.dict #[⟨PyData.keyHash P (⟨#[105, 109, 112, 111, 114, 116, 46, 108, 111, 97, 100, 101, 100, 46, 95, 115, 114, 101]⟩ : PySem.Str), (.str (⟨#[105, 109, 112, 111, 114, 116, 46, 108, 111, 97, 100, 101, 100, 46, 95, 115, 114, 101]⟩ : PySem.Str) 183), (.bool true)⟩, ⟨PyData.keyHash P (⟨#[99, 108, 97, 115, 115, 46, 95, 102, 114, 111, 122, 101, 110, 95, 105, 109, 112, 111, 114, 116, 108, 105, 98, 46, 66, 117, 105, 108, 116, 105, 110, 73, 109, 112, 111, 114, 116, 101, 114]⟩ : PySem.Str), (.str (⟨#[99, 108, 97, 115, 115, 46, 95, 102, 114, 111, 122, 101, 110, 95, 105, 109, 112, 111, 114, 116, 108, 105, 98, 46, 66, 117, 105, 108, 116, 105, 110, 73, 109, 112, 111, 114, 116, 101, 114]⟩ : PySem.Str) 185), (.ref 14)⟩, ⟨PyData.keyHash P (⟨#[119, 97, 116, 99, 104, 101, 100, 46, 105, 109, 112, 111, 114, 116]⟩ : PySem.Str), (.str (⟨#[119, 97, 116, 99, 104, 101, 100, 46, 105, 109, 112, 111, 114, 116]⟩ : PySem.Str) 206), (.ref 18)⟩, ⟨PyData.keyHash P (⟨#[99, 108, 97, 115, 115, 46, 95, 102, 114, 111, 122, 101, 110, 95, 105, 109, 112, 111, 114, 116, 108, 105, 98, 46, 77, 111, 100, 117, 108, 101, 83, 112, 101, 99]⟩ : PySem.Str), (.str (⟨#[99, 108, 97, 115, 115, 46, 95, 102, 114, 111, 122, 101, 110, 95, 105, 109, 112, 111, 114, 116, 108, 105, 98, 46, 77, 111, 100, 117, 108, 101, 83, 112, 101, 99]⟩ : PySem.Str) 216), (.ref 22)⟩, ⟨PyData.keyHash P (S "sys.modules.booked-epoch"), (.str (S "sys.modules.booked-epoch") 245), (.int 3 0)⟩, ⟨PyData.keyHash P (⟨#[105, 109, 112, 111, 114, 116, 46, 108, 97, 116, 101, 114, 45, 108, 97, 105, 100, 46, 95, 115, 114, 101]⟩ : PySem.Str), (.str (⟨#[105, 109, 112, 111, 114, 116, 46, 108, 97, 116, 101, 114, 45, 108, 97, 105, 100, 46, 95, 115, 114, 101]⟩ : PySem.Str) 270), (.bool true)⟩, ⟨PyData.keyHash P (S "watched.library"), (.str (S "watched.library") 272), (.ref 27)⟩, ⟨PyData.keyHash P (S "watched.library-objects"), (.str (S "watched.library-objects") 0), (.str (⟨#[12]⟩ : PySem.Str) 0)⟩, ⟨PyData.keyHash P (S "watched.library-deep._sre"), (.str (S "watched.library-deep._sre") 273), (.str (⟨#[4, 0, 0, 11, 4, 0, 0, 11, 4, 0, 0, 3, 4, 0, 0, 11, 8, 4, 100, 105, 99, 116, 2]⟩ : PySem.Str) 0)⟩] 9), #[]⟩
noncomputable def o3_0 (P : Params) : Obj := ⟨(.type "dict"), none, (.dict #[⟨PyData.keyHash P (S "__name__"), (.str (S "__name__") 165), (.str (S "__main__") 164)⟩, ⟨PyData.keyHash P (S "__doc__"), (.str (S "__doc__") 166), .none⟩, ⟨PyData.keyHash P (S "__package__"), (.str (S "__package__") 167), .none⟩, ⟨PyData.keyHash P (S "__loader__"), (.str (S "__loader__") 168), (.builtin "__main__.__loader__#opaque")⟩, ⟨PyData.keyHash P (S "__spec__"), (.str (S "__spec__") 169), .none⟩, ⟨PyData.keyHash P (S "__annotations__"), (.str (S "__annotations__") 170), (.ref 6)⟩, ⟨PyData.keyHash P (S "__builtins__"), (.str (S "__builtins__") 171), (.ref 4)⟩, ⟨PyData.keyHash P (S "__file__"), (.str (S "__file__") 173), (.str (S "/claim/cut.py") 172)⟩, ⟨PyData.keyHash P (S "__cached__"), (.str (S "__cached__") 174), .none⟩, ⟨PyData.keyHash P (S "_sre"), (.str (S "_sre") 275), (.ref 12)⟩] 10), #[]⟩
noncomputable def o4_0 (P : Params) : Obj := ⟨(.type "module"), (some 0), .plain, #[]⟩
noncomputable def o5_0 (P : Params) : Obj := ⟨(.type "module"), (some 3), .plain, #[]⟩
noncomputable def o6_0 (P : Params) : Obj := ⟨(.type "dict"), none, (.dict #[] 0), #[]⟩
noncomputable def o7_0 (P : Params) : Obj := ⟨(.type "tuple"), none, (.seq #[] 0), #[]⟩
noncomputable def o8_0 (P : Params) : Obj := ⟨.none, none, (.fields #[]), #[]⟩
noncomputable def o9_0 (P : Params) : Obj := ⟨(.type "code"), none, (.fields #[(.str (S "<module>") 176), (.str (S "<module>") 177), (.str (S "/claim/cut.py") 178), (.int 1 0), (.int 0 0), (.int 0 0), (.int 0 0), (.int 0 0), (.ref 7), (.bool false), (.int 175 0), (.ref 8), .none, .none, .none, .none, (.int 179 0), (.int 1 0), (.str (S "/claim/cut.py") 180)]), #[]⟩
noncomputable def o10_0 (P : Params) : Obj := ⟨(.type "frame"), none, .plain, #[(some (.ref 9)), (some (.ref 3)), (some (.ref 3)), none, (some (.str (S "__main__") 164)), none, (some (.ref 0))]⟩
noncomputable def o11_0 (P : Params) : Obj := ⟨(.type "dict"), none, (.dict #[⟨PyData.keyHash P (S "__name__"), (.str (S "__name__") 247), (.str (S "_sre") 246)⟩, ⟨PyData.keyHash P (S "__doc__"), (.str (S "__doc__") 248), .none⟩, ⟨PyData.keyHash P (S "__package__"), (.str (S "__package__") 250), (.str (S "") 249)⟩, ⟨PyData.keyHash P (S "__loader__"), (.str (S "__loader__") 251), (.ref 14)⟩, ⟨PyData.keyHash P (S "__spec__"), (.str (S "__spec__") 252), (.ref 26)⟩, ⟨PyData.keyHash P (S "compile"), (.str (S "compile") 253), (.builtin "_sre.compile")⟩, ⟨PyData.keyHash P (S "template"), (.str (S "template") 254), (.builtin "_sre.template")⟩, ⟨PyData.keyHash P (S "getcodesize"), (.str (S "getcodesize") 255), (.builtin "_sre.getcodesize")⟩, ⟨PyData.keyHash P (S "ascii_iscased"), (.str (S "ascii_iscased") 256), (.builtin "_sre.ascii_iscased")⟩, ⟨PyData.keyHash P (S "unicode_iscased"), (.str (S "unicode_iscased") 257), (.builtin "_sre.unicode_iscased")⟩, ⟨PyData.keyHash P (S "ascii_tolower"), (.str (S "ascii_tolower") 258), (.builtin "_sre.ascii_tolower")⟩, ⟨PyData.keyHash P (S "unicode_tolower"), (.str (S "unicode_tolower") 259), (.builtin "_sre.unicode_tolower")⟩, ⟨PyData.keyHash P (S "MAGIC"), (.str (S "MAGIC") 261), (.int 20230612 260)⟩, ⟨PyData.keyHash P (S "CODESIZE"), (.str (S "CODESIZE") 263), (.int 4 262)⟩, ⟨PyData.keyHash P (S "MAXREPEAT"), (.str (S "MAXREPEAT") 265), (.int 4294967295 264)⟩, ⟨PyData.keyHash P (S "MAXGROUPS"), (.str (S "MAXGROUPS") 267), (.int 1073741823 266)⟩, ⟨PyData.keyHash P (S "copyright"), (.str (S "copyright") 269), (.str (S " SRE 2.2.2 Copyright (c) 1997-2002 by Secret Labs AB ") 268)⟩] 17), #[]⟩
noncomputable def o12_0 (P : Params) : Obj := ⟨(.type "module"), (some 11), .plain, #[]⟩
noncomputable def o13_0 (P : Params) : Obj := ⟨(.type "dict"), none, (.dict #[⟨PyData.keyHash P (S "__module__"), (.str (S "__module__") 189), (.str (⟨#[95, 102, 114, 111, 122, 101, 110, 95, 105, 109, 112, 111, 114, 116, 108, 105, 98]⟩ : PySem.Str) 186)⟩, ⟨PyData.keyHash P (S "__firstlineno__"), (.str (S "__firstlineno__") 190), (.int 971 187)⟩, ⟨PyData.keyHash P (S "__doc__"), (.str (S "__doc__") 191), (.builtin "_frozen_importlib.BuiltinImporter.__doc__:str#opaque")⟩, ⟨PyData.keyHash P (S "_ORIGIN"), (.str (S "_ORIGIN") 192), (.str (S "built-in") 188)⟩, ⟨PyData.keyHash P (S "find_spec"), (.str (S "find_spec") 193), (.builtin "_frozen_importlib.BuiltinImporter.find_spec#opaque")⟩, ⟨PyData.keyHash P (S "create_module"), (.str (S "create_module") 194), (.builtin "_frozen_importlib.BuiltinImporter.create_module#opaque")⟩, ⟨PyData.keyHash P (S "exec_module"), (.str (S "exec_module") 195), (.builtin "_frozen_importlib.BuiltinImporter.exec_module#opaque")⟩, ⟨PyData.keyHash P (S "get_code"), (.str (S "get_code") 196), (.builtin "_frozen_importlib.BuiltinImporter.get_code#opaque")⟩, ⟨PyData.keyHash P (S "get_source"), (.str (S "get_source") 197), (.builtin "_frozen_importlib.BuiltinImporter.get_source#opaque")⟩, ⟨PyData.keyHash P (S "is_package"), (.str (S "is_package") 198), (.builtin "_frozen_importlib.BuiltinImporter.is_package#opaque")⟩, ⟨PyData.keyHash P (S "load_module"), (.str (S "load_module") 199), (.builtin "_frozen_importlib.BuiltinImporter.load_module#opaque")⟩, ⟨PyData.keyHash P (S "__static_attributes__"), (.str (S "__static_attributes__") 200), (.ref 15)⟩, ⟨PyData.keyHash P (S "__dict__"), (.str (S "__dict__") 202), (.ref 16)⟩, ⟨PyData.keyHash P (S "__weakref__"), (.str (S "__weakref__") 204), (.ref 17)⟩] 14), #[]⟩
noncomputable def o14_0 (P : Params) : Obj := ⟨(.type "type"), none, (.cls { name := (S "BuiltinImporter"), bases := [(.type "object")], mro := [(.ref 14), (.type "object")], ns := 13, qualname := (S "BuiltinImporter"), hasDict := true, slotNames := [], subclasses := [], abstract := false, collection := none, hasDel := false }), #[]⟩
noncomputable def o15_0 (P : Params) : Obj := ⟨(.type "tuple"), none, (.seq #[] 0), #[]⟩
noncomputable def o16_0 (P : Params) : Obj := ⟨(.type "getset_descriptor"), none, (.fields #[(.str (S "__dict__") 201), (.ref 14), (.builtin "function.__dict__"), (.builtin "function.__dict__#set")]), #[]⟩
noncomputable def o17_0 (P : Params) : Obj := ⟨(.type "getset_descriptor"), none, (.fields #[(.str (S "__weakref__") 203), (.ref 14), (.builtin "ExceptionGroup.__weakref__"), .none]), #[]⟩
noncomputable def o18_0 (P : Params) : Obj := ⟨.none, none, (.seq #[(.int 13 0), (.str (⟨#[6, 189, 10, 95, 95, 109, 111, 100, 117, 108, 101, 95, 95, 6, 186, 17, 95, 102, 114, 111, 122, 101, 110, 95, 105, 109, 112, 111, 114, 116, 108, 105, 98, 6, 190, 15, 95, 95, 102, 105, 114, 115, 116, 108, 105, 110, 101, 110, 111, 95, 95, 4, 187, 0, 971, 6, 191, 7, 95, 95, 100, 111, 99, 95, 95, 9, 52, 95, 102, 114, 111, 122, 101, 110, 95, 105, 109, 112, 111, 114, 116, 108, 105, 98, 46, 66, 117, 105, 108, 116, 105, 110, 73, 109, 112, 111, 114, 116, 101, 114, 46, 95, 95, 100, 111, 99, 95, 95, 58, 115, 116, 114, 35, 111, 112, 97, 113, 117, 101, 6, 192, 7, 95, 79, 82, 73, 71, 73, 78, 6, 188, 8, 98, 117, 105, 108, 116, 45, 105, 110, 6, 193, 9, 102, 105, 110, 100, 95, 115, 112, 101, 99, 9, 50, 95, 102, 114, 111, 122, 101, 110, 95, 105, 109, 112, 111, 114, 116, 108, 105, 98, 46, 66, 117, 105, 108, 116, 105, 110, 73, 109, 112, 111, 114, 116, 101, 114, 46, 102, 105, 110, 100, 95, 115, 112, 101, 99, 35, 111, 112, 97, 113, 117, 101, 6, 194, 13, 99, 114, 101, 97, 116, 101, 95, 109, 111, 100, 117, 108, 101, 9, 54, 95, 102, 114, 111, 122, 101, 110, 95, 105, 109, 112, 111, 114, 116, 108, 105, 98, 46, 66, 117, 105, 108, 116, 105, 110, 73, 109, 112, 111, 114, 116, 101, 114, 46, 99, 114, 101, 97, 116, 101, 95, 109, 111, 100, 117, 108, 101, 35, 111, 112, 97, 113, 117, 101, 6, 195, 11, 101, 120, 101, 99, 95, 109, 111, 100, 117, 108, 101, 9, 52, 95, 102, 114, 111, 122, 101, 110, 95, 105, 109, 112, 111, 114, 116, 108, 105, 98, 46, 66, 117, 105, 108, 116, 105, 110, 73, 109, 112, 111, 114, 116, 101, 114, 46, 101, 120, 101, 99, 95, 109, 111, 100, 117, 108, 101, 35, 111, 112, 97, 113, 117, 101, 6, 196, 8, 103, 101, 116, 95, 99, 111, 100, 101, 9, 49, 95, 102, 114, 111, 122, 101, 110, 95, 105, 109, 112, 111, 114, 116, 108, 105, 98, 46, 66, 117, 105, 108, 116, 105, 110, 73, 109, 112, 111, 114, 116, 101, 114, 46, 103, 101, 116, 95, 99, 111, 100, 101, 35, 111, 112, 97, 113, 117, 101, 6, 197, 10, 103, 101, 116, 95, 115, 111, 117, 114, 99, 101, 9, 51, 95, 102, 114, 111, 122, 101, 110, 95, 105, 109, 112, 111, 114, 116, 108, 105, 98, 46, 66, 117, 105, 108, 116, 105, 110, 73, 109, 112, 111, 114, 116, 101, 114, 46, 103, 101, 116, 95, 115, 111, 117, 114, 99, 101, 35, 111, 112, 97, 113, 117, 101, 6, 198, 10, 105, 115, 95, 112, 97, 99, 107, 97, 103, 101, 9, 51, 95, 102, 114, 111, 122, 101, 110, 95, 105, 109, 112, 111, 114, 116, 108, 105, 98, 46, 66, 117, 105, 108, 116, 105, 110, 73, 109, 112, 111, 114, 116, 101, 114, 46, 105, 115, 95, 112, 97, 99, 107, 97, 103, 101, 35, 111, 112, 97, 113, 117, 101, 6, 199, 11, 108, 111, 97, 100, 95, 109, 111, 100, 117, 108, 101, 9, 52, 95, 102, 114, 111, 122, 101, 110, 95, 105, 109, 112, 111, 114, 116, 108, 105, 98, 46, 66, 117, 105, 108, 116, 105, 110, 73, 109, 112, 111, 114, 116, 101, 114, 46, 108, 111, 97, 100, 95, 109, 111, 100, 117, 108, 101, 35, 111, 112, 97, 113, 117, 101, 6, 200, 21, 95, 95, 115, 116, 97, 116, 105, 99, 95, 97, 116, 116, 114, 105, 98, 117, 116, 101, 115, 95, 95, 4, 0, 0, 15, 6, 202, 8, 95, 95, 100, 105, 99, 116, 95, 95, 4, 0, 0, 16, 6, 204, 11, 95, 95, 119, 101, 97, 107, 114, 101, 102, 95, 95, 4, 0, 0, 17]⟩ : PySem.Str) 0), (.bool true), (.bool true), (.str (S "") 205), (.int 21 0), (.str (⟨#[6, 227, 10, 95, 95, 109, 111, 100, 117, 108, 101, 95, 95, 6, 217, 17, 95, 102, 114, 111, 122, 101, 110, 95, 105, 109, 112, 111, 114, 116, 108, 105, 98, 6, 228, 15, 95, 95, 102, 105, 114, 115, 116, 108, 105, 110, 101, 110, 111, 95, 95, 4, 218, 0, 562, 6, 229, 7, 95, 95, 100, 111, 99, 95, 95, 9, 47, 95, 102, 114, 111, 122, 101, 110, 95, 105, 109, 112, 111, 114, 116, 108, 105, 98, 46, 77, 111, 100, 117, 108, 101, 83, 112, 101, 99, 46, 95, 95, 100, 111, 99, 95, 95, 58, 115, 116, 114, 35, 111, 112, 97, 113, 117, 101, 6, 230, 8, 95, 95, 105, 110, 105, 116, 95, 95, 9, 44, 95, 102, 114, 111, 122, 101, 110, 95, 105, 109, 112, 111, 114, 116, 108, 105, 98, 46, 77, 111, 100, 117, 108, 101, 83, 112, 101, 99, 46, 95, 95, 105, 110, 105, 116, 95, 95, 35, 111, 112, 97, 113, 117, 101, 6, 231, 8, 95, 95, 114, 101, 112, 114, 95, 95, 9, 44, 95, 102, 114, 111, 122, 101, 110, 95, 105, 109, 112, 111, 114, 116, 108, 105, 98, 46, 77, 111, 100, 117, 108, 101, 83, 112, 101, 99, 46, 95, 95, 114, 101, 112, 114, 95, 95, 35, 111, 112, 97, 113, 117, 101, 6, 232, 6, 95, 95, 101, 113, 95, 95, 9, 42, 95, 102, 114, 111, 122, 101, 110, 95, 105, 109, 112, 111, 114, 116, 108, 105, 98, 46, 77, 111, 100, 117, 108, 101, 83, 112, 101, 99, 46, 95, 95, 101, 113, 95, 95, 35, 111, 112, 97, 113, 117, 101, 6, 233, 6, 99, 97, 99, 104, 101, 100, 9, 42, 95, 102, 114, 111, 122, 101, 110, 95, 105, 109, 112, 111, 114, 116, 108, 105, 98, 46, 77, 111, 100, 117, 108, 101, 83, 112, 101, 99, 46, 99, 97, 99, 104, 101, 100, 35, 111, 112, 97, 113, 117, 101, 6, 234, 6, 112, 97, 114, 101, 110, 116, 9, 42, 95, 102, 114, 111, 122, 101, 110, 95, 105, 109, 112, 111, 114, 116, 108, 105, 98, 46, 77, 111, 100, 117, 108, 101, 83, 112, 101, 99, 46, 112, 97, 114, 101, 110, 116, 35, 111, 112, 97, 113, 117, 101, 6, 235, 12, 104, 97, 115, 95, 108, 111, 99, 97, 116, 105, 111, 110, 9, 48, 95, 102, 114, 111, 122, 101, 110, 95, 105, 109, 112, 111, 114, 116, 108, 105, 98, 46, 77, 111, 100, 117, 108, 101, 83, 112, 101, 99, 46, 104, 97, 115, 95, 108, 111, 99, 97, 116, 105, 111, 110, 35, 111, 112, 97, 113, 117, 101, 6, 236, 21, 95, 95, 115, 116, 97, 116, 105, 99, 95, 97, 116, 116, 114, 105, 98, 117, 116, 101, 115, 95, 95, 4, 0, 0, 23, 6, 238, 8, 95, 95, 100, 105, 99, 116, 95, 95, 4, 0, 0, 24, 6, 240, 11, 95, 95, 119, 101, 97, 107, 114, 101, 102, 95, 95, 4, 0, 0, 25, 6, 241, 8, 95, 95, 104, 97, 115, 104, 95, 95, 0]⟩ : PySem.Str) 0), (.bool true), (.bool true), (.str (S "") 242)] 1), #[]⟩
noncomputable def o19_0 (P : Params) : Obj := ⟨(.type "list"), none, (.seq #[] 0), #[]⟩
noncomputable def o20_0 (P : Params) : Obj := ⟨(.type "dict"), none, (.dict #[⟨PyData.keyHash P (S "name"), (.str (S "name") 208), (.str (S "_sre") 207)⟩, ⟨PyData.keyHash P (S "loader"), (.str (S "loader") 209), (.ref 14)⟩, ⟨PyData.keyHash P (S "origin"), (.str (S "origin") 210), (.str (S "built-in") 184)⟩, ⟨PyData.keyHash P (S "loader_state"), (.str (S "loader_state") 211), .none⟩, ⟨PyData.keyHash P (S "submodule_search_locations"), (.str (S "submodule_search_locations") 212), .none⟩, ⟨PyData.keyHash P (S "_uninitialized_submodules"), (.str (S "_uninitialized_submodules") 213), (.ref 19)⟩, ⟨PyData.keyHash P (S "_set_fileattr"), (.str (S "_set_fileattr") 214), (.bool false)⟩, ⟨PyData.keyHash P (S "_cached"), (.str (S "_cached") 215), .none⟩, ⟨PyData.keyHash P (S "_initializing"), (.str (S "_initializing") 243), (.bool false)⟩] 9), #[]⟩
noncomputable def o21_0 (P : Params) : Obj := ⟨(.type "dict"), none, (.dict #[⟨PyData.keyHash P (S "__module__"), (.str (S "__module__") 227), (.str (⟨#[95, 102, 114, 111, 122, 101, 110, 95, 105, 109, 112, 111, 114, 116, 108, 105, 98]⟩ : PySem.Str) 217)⟩, ⟨PyData.keyHash P (S "__firstlineno__"), (.str (S "__firstlineno__") 228), (.int 562 218)⟩, ⟨PyData.keyHash P (S "__doc__"), (.str (S "__doc__") 229), (.builtin "_frozen_importlib.ModuleSpec.__doc__:str#opaque")⟩, ⟨PyData.keyHash P (S "__init__"), (.str (S "__init__") 230), (.builtin "_frozen_importlib.ModuleSpec.__init__#opaque")⟩, ⟨PyData.keyHash P (S "__repr__"), (.str (S "__repr__") 231), (.builtin "_frozen_importlib.ModuleSpec.__repr__#opaque")⟩, ⟨PyData.keyHash P (S "__eq__"), (.str (S "__eq__") 232), (.builtin "_frozen_importlib.ModuleSpec.__eq__#opaque")⟩, ⟨PyData.keyHash P (S "cached"), (.str (S "cached") 233), (.builtin "_frozen_importlib.ModuleSpec.cached#opaque")⟩, ⟨PyData.keyHash P (S "parent"), (.str (S "parent") 234), (.builtin "_frozen_importlib.ModuleSpec.parent#opaque")⟩, ⟨PyData.keyHash P (S "has_location"), (.str (S "has_location") 235), (.builtin "_frozen_importlib.ModuleSpec.has_location#opaque")⟩, ⟨PyData.keyHash P (S "__static_attributes__"), (.str (S "__static_attributes__") 236), (.ref 23)⟩, ⟨PyData.keyHash P (S "__dict__"), (.str (S "__dict__") 238), (.ref 24)⟩, ⟨PyData.keyHash P (S "__weakref__"), (.str (S "__weakref__") 240), (.ref 25)⟩, ⟨PyData.keyHash P (S "__hash__"), (.str (S "__hash__") 241), .none⟩] 13), #[]⟩
noncomputable def o22_0 (P : Params) : Obj := ⟨(.type "type"), none, (.cls { name := (S "ModuleSpec"), bases := [(.type "object")], mro := [(.ref 22), (.type "object")], ns := 21, qualname := (S "ModuleSpec"), hasDict := true, slotNames := [], subclasses := [], abstract := false, collection := none, hasDel := false }), #[]⟩
noncomputable def o23_0 (P : Params) : Obj := ⟨(.type "tuple"), none, (.seq #[(.str (S "_cached") 219), (.str (S "_set_fileattr") 220), (.str (S "_uninitialized_submodules") 221), (.str (S "loader") 222), (.str (S "loader_state") 223), (.str (S "name") 224), (.str (S "origin") 225), (.str (S "submodule_search_locations") 226)] 0), #[]⟩
noncomputable def o24_0 (P : Params) : Obj := ⟨(.type "getset_descriptor"), none, (.fields #[(.str (S "__dict__") 237), (.ref 22), (.builtin "function.__dict__"), (.builtin "function.__dict__#set")]), #[]⟩
noncomputable def o25_0 (P : Params) : Obj := ⟨(.type "getset_descriptor"), none, (.fields #[(.str (S "__weakref__") 239), (.ref 22), (.builtin "ExceptionGroup.__weakref__"), .none]), #[]⟩
noncomputable def o26_0 (P : Params) : Obj := ⟨(.ref 22), (some 20), .plain, #[]⟩
noncomputable def o27_0 (P : Params) : Obj := ⟨.none, none, (.seq #[(.int 11 0), (.str (⟨#[6, 247, 8, 95, 95, 110, 97, 109, 101, 95, 95, 6, 246, 4, 95, 115, 114, 101, 6, 248, 7, 95, 95, 100, 111, 99, 95, 95, 0, 6, 250, 11, 95, 95, 112, 97, 99, 107, 97, 103, 101, 95, 95, 6, 249, 0, 6, 251, 10, 95, 95, 108, 111, 97, 100, 101, 114, 95, 95, 4, 0, 0, 14, 6, 252, 8, 95, 95, 115, 112, 101, 99, 95, 95, 4, 0, 0, 26, 6, 253, 7, 99, 111, 109, 112, 105, 108, 101, 9, 12, 95, 115, 114, 101, 46, 99, 111, 109, 112, 105, 108, 101, 6, 254, 8, 116, 101, 109, 112, 108, 97, 116, 101, 9, 13, 95, 115, 114, 101, 46, 116, 101, 109, 112, 108, 97, 116, 101, 6, 255, 11, 103, 101, 116, 99, 111, 100, 101, 115, 105, 122, 101, 9, 16, 95, 115, 114, 101, 46, 103, 101, 116, 99, 111, 100, 101, 115, 105, 122, 101, 6, 256, 13, 97, 115, 99, 105, 105, 95, 105, 115, 99, 97, 115, 101, 100, 9, 18, 95, 115, 114, 101, 46, 97, 115, 99, 105, 105, 95, 105, 115, 99, 97, 115, 101, 100, 6, 257, 15, 117, 110, 105, 99, 111, 100, 101, 95, 105, 115, 99, 97, 115, 101, 100, 9, 20, 95, 115, 114, 101, 46, 117, 110, 105, 99, 111, 100, 101, 95, 105, 115, 99, 97, 115, 101, 100, 6, 258, 13, 97, 115, 99, 105, 105, 95, 116, 111, 108, 111, 119, 101, 114, 9, 18, 95, 115, 114, 101, 46, 97, 115, 99, 105, 105, 95, 116, 111, 108, 111, 119, 101, 114, 6, 259, 15, 117, 110, 105, 99, 111, 100, 101, 95, 116, 111, 108, 111, 119, 101, 114, 9, 20, 95, 115, 114, 101, 46, 117, 110, 105, 99, 111, 100, 101, 95, 116, 111, 108, 111, 119, 101, 114, 6, 261, 5, 77, 65, 71, 73, 67, 4, 260, 0, 20230612, 6, 263, 8, 67, 79, 68, 69, 83, 73, 90, 69, 4, 262, 0, 4, 6, 265, 9, 77, 65, 88, 82, 69, 80, 69, 65, 84, 4, 264, 0, 4294967295, 6, 267, 9, 77, 65, 88, 71, 82, 79, 85, 80, 83, 4, 266, 0, 1073741823, 6, 269, 9, 99, 111, 112, 121, 114, 105, 103, 104, 116, 6, 268, 53, 32, 83, 82, 69, 32, 50, 46, 50, 46, 50, 32, 67, 111, 112, 121, 114, 105, 103, 104, 116, 32, 40, 99, 41, 32, 49, 57, 57, 55, 45, 50, 48, 48, 50, 32, 98, 121, 32, 83, 101, 99, 114, 101, 116, 32, 76, 97, 98, 115, 32, 65, 66, 32]⟩ : PySem.Str) 0), (.bool true), (.bool false), (.str (S "_sre") 271)] 0), #[]⟩
noncomputable def Ti (P : Params) : BT := (.node (o0_0 P) (.node (o1_0 P) (.node (o3_0 P) (.node (o7_0 P) (.node (o15_0 P) .nil .nil) (.node (o23_0 P) .nil .nil)) (.node (o11_0 P) (.node (o19_0 P) .nil .nil) (.node (o27_0 P) .nil .nil))) (.node (o5_0 P) (.node (o9_0 P) (.node (o17_0 P) .nil .nil) (.node (o25_0 P) .nil .nil)) (.node (o13_0 P) (.node (o21_0 P) .nil .nil) .nil))) (.node (o2_0 P) (.node (o4_0 P) (.node (o8_0 P) (.node (o16_0 P) .nil .nil) (.node (o24_0 P) .nil .nil)) (.node (o12_0 P) (.node (o20_0 P) .nil .nil) .nil)) (.node (o6_0 P) (.node (o10_0 P) (.node (o18_0 P) .nil .nil) (.node (o26_0 P) .nil .nil)) (.node (o14_0 P) (.node (o22_0 P) .nil .nil) .nil))))
noncomputable abbrev Si (P : Params) (os : OsState) : SharedT := ⟨Ti P, 28, {}, #[], {}, 276, os⟩
noncomputable def o11_1 (P : Params) : Obj := ⟨(.type "dict"), none, (.dict #[⟨PyData.keyHash P (S "__name__"), (.str (S "__name__") 247), (.str (S "_sre") 246)⟩, ⟨PyData.keyHash P (S "__doc__"), (.str (S "__doc__") 248), .none⟩, ⟨PyData.keyHash P (S "__package__"), (.str (S "__package__") 250), (.str (S "") 249)⟩, ⟨PyData.keyHash P (S "__loader__"), (.str (S "__loader__") 251), (.builtin "off-the-table:_sre.__loader__:shared#opaque")⟩, ⟨PyData.keyHash P (S "__spec__"), (.str (S "__spec__") 252), (.builtin "off-the-table:_sre.__spec__:shared#opaque")⟩, ⟨PyData.keyHash P (S "compile"), (.str (S "compile") 253), (.builtin "_sre.compile")⟩, ⟨PyData.keyHash P (S "template"), (.str (S "template") 254), (.builtin "off-the-table:_sre.template:shared#opaque")⟩, ⟨PyData.keyHash P (S "getcodesize"), (.str (S "getcodesize") 255), (.builtin "off-the-table:_sre.getcodesize:shared#opaque")⟩, ⟨PyData.keyHash P (S "ascii_iscased"), (.str (S "ascii_iscased") 256), (.builtin "off-the-table:_sre.ascii_iscased:shared#opaque")⟩, ⟨PyData.keyHash P (S "unicode_iscased"), (.str (S "unicode_iscased") 257), (.builtin "off-the-table:_sre.unicode_iscased:shared#opaque")⟩, ⟨PyData.keyHash P (S "ascii_tolower"), (.str (S "ascii_tolower") 258), (.builtin "off-the-table:_sre.ascii_tolower:shared#opaque")⟩, ⟨PyData.keyHash P (S "unicode_tolower"), (.str (S "unicode_tolower") 259), (.builtin "off-the-table:_sre.unicode_tolower:shared#opaque")⟩, ⟨PyData.keyHash P (S "MAGIC"), (.str (S "MAGIC") 261), (.int 20230612 260)⟩, ⟨PyData.keyHash P (S "CODESIZE"), (.str (S "CODESIZE") 263), (.int 4 262)⟩, ⟨PyData.keyHash P (S "MAXREPEAT"), (.str (S "MAXREPEAT") 265), (.int 4294967295 264)⟩, ⟨PyData.keyHash P (S "MAXGROUPS"), (.str (S "MAXGROUPS") 267), (.int 1073741823 266)⟩, ⟨PyData.keyHash P (S "copyright"), (.str (S "copyright") 269), (.str (S " SRE 2.2.2 Copyright (c) 1997-2002 by Secret Labs AB ") 268)⟩] 17), #[]⟩
noncomputable def T0 (P : Params) : BT := (.node (o0_0 P) (.node (o1_0 P) (.node (o3_0 P) (.node (o7_0 P) (.node (o15_0 P) .nil .nil) (.node (o23_0 P) .nil .nil)) (.node (o11_1 P) (.node (o19_0 P) .nil .nil) (.node (o27_0 P) .nil .nil))) (.node (o5_0 P) (.node (o9_0 P) (.node (o17_0 P) .nil .nil) (.node (o25_0 P) .nil .nil)) (.node (o13_0 P) (.node (o21_0 P) .nil .nil) .nil))) (.node (o2_0 P) (.node (o4_0 P) (.node (o8_0 P) (.node (o16_0 P) .nil .nil) (.node (o24_0 P) .nil .nil)) (.node (o12_0 P) (.node (o20_0 P) .nil .nil) .nil)) (.node (o6_0 P) (.node (o10_0 P) (.node (o18_0 P) .nil .nil) (.node (o26_0 P) .nil .nil)) (.node (o14_0 P) (.node (o22_0 P) .nil .nil) .nil))))
noncomputable abbrev S0 (P : Params) (os : OsState) : SharedT := ⟨T0 P, 28, {}, #[], {}, 276, os⟩
noncomputable def o28_0 (P : Params) : Obj := ⟨(.type "tuple"), none, (.seq #[] 0), #[]⟩
noncomputable def o29_0 (P : Params) : Obj := ⟨.none, none, (.fields #[]), #[]⟩
noncomputable def o30_0 (P : Params) : Obj := ⟨(.type "code"), none, (.fields #[(.str (S "<module>") 277), (.str (S "<module>") 278), (.str (S "/claim/cut.py") 279), (.int 1 0), (.int 0 0), (.int 0 0), (.int 0 0), (.int 0 0), (.ref 28), (.bool false), (.int 276 0), (.ref 29), .none, .none, .none, .none, (.int 280 0), (.int 1 0), (.str (S "/claim/cut.py") 281)]), #[]⟩
noncomputable def o31_0 (P : Params) : Obj := ⟨(.type "frame"), none, .plain, #[(some (.ref 30)), (some (.ref 3)), (some (.ref 3)), none, (some (.str (S "__main__") 164)), none, (some (.ref 0))]⟩
noncomputable def Ta (P : Params) : BT := (.node (o0_0 P) (.node (o1_0 P) (.node (o3_0 P) (.node (o7_0 P) (.node (o15_0 P) (.node (o31_0 P) .nil .nil) .nil) (.node (o23_0 P) .nil .nil)) (.node (o11_1 P) (.node (o19_0 P) .nil .nil) (.node (o27_0 P) .nil .nil))) (.node (o5_0 P) (.node (o9_0 P) (.node (o17_0 P) .nil .nil) (.node (o25_0 P) .nil .nil)) (.node (o13_0 P) (.node (o21_0 P) .nil .nil) (.node (o29_0 P) .nil .nil)))) (.node (o2_0 P) (.node (o4_0 P) (.node (o8_0 P) (.node (o16_0 P) .nil .nil) (.node (o24_0 P) .nil .nil)) (.node (o12_0 P) (.node (o20_0 P) .nil .nil) (.node (o28_0 P) .nil .nil))) (.node (o6_0 P) (.node (o10_0 P) (.node (o18_0 P) .nil .nil) (.node (o26_0 P) .nil .nil)) (.node (o14_0 P) (.node (o22_0 P) .nil .nil) (.node (o30_0 P) .nil .nil)))))
noncomputable abbrev Sa (P : Params) (os : OsState) : SharedT := ⟨Ta P, 32, {}, #[], {}, 282, os⟩
noncomputable def Tb (P : Params) : BT := (.node (o0_0 P) (.node (o1_0 P) (.node (o3_0 P) (.node (o7_0 P) (.node (o15_0 P) (.node (o31_0 P) .nil .nil) .nil) (.node (o23_0 P) .nil .nil)) (.node (o11_1 P) (.node (o19_0 P) .nil .nil) (.node (o27_0 P) .nil .nil))) (.node (o5_0 P) (.node (o9_0 P) (.node (o17_0 P) .nil .nil) (.node (o25_0 P) .nil .nil)) (.node (o13_0 P) (.node (o21_0 P) .nil .nil) (.node (o29_0 P) .nil .nil)))) (.node (o2_0 P) (.node (o4_0 P) (.node (o8_0 P) (.node (o16_0 P) .nil .nil) (.node (o24_0 P) .nil .nil)) (.node (o12_0 P) (.node (o20_0 P) .nil .nil) (.node (o28_0 P) .nil .nil))) (.node (o6_0 P) (.node (o10_0 P) (.node (o18_0 P) .nil .nil) (.node (o26_0 P) .nil .nil)) (.node (o14_0 P) (.node (o22_0 P) .nil .nil) (.node (o30_0 P) .nil .nil)))))
noncomputable abbrev Sb (P : Params) (os : OsState) : SharedT := ⟨Tb P, 32, {}, #[], {}, 282, os⟩
noncomputable def o3_1 (P : Params) : Obj := ⟨(.type "dict"), none, (.dict #[⟨PyData.keyHash P (S "__name__"), (.str (S "__name__") 165), (.str (S "cpy313.ftplib") 289)⟩, ⟨PyData.keyHash P (S "__doc__"), (.str (S "__doc__") 166), .none⟩, ⟨PyData.keyHash P (S "__package__"), (.str (S "__package__") 167), .none⟩, ⟨PyData.keyHash P (S "__loader__"), (.str (S "__loader__") 168), (.builtin "__main__.__loader__#opaque")⟩, ⟨PyData.keyHash P (S "__spec__"), (.str (S "__spec__") 169), .none⟩, ⟨PyData.keyHash P (S "__annotations__"), (.str (S "__annotations__") 170), (.ref 6)⟩, ⟨PyData.keyHash P (S "__builtins__"), (.str (S "__builtins__") 171), (.ref 4)⟩, ⟨PyData.keyHash P (S "__file__"), (.str (S "__file__") 173), (.str (S "/claim/cut.py") 172)⟩, ⟨PyData.keyHash P (S "__cached__"), (.str (S "__cached__") 174), .none⟩, ⟨PyData.keyHash P (S "_sre"), (.str (S "_sre") 275), (.ref 12)⟩, ⟨PyData.keyHash P (S "_wall"), (.str (S "_wall") 288), (.ref 38)⟩] 11), #[]⟩
noncomputable def o29_1 (P : Params) : Obj := ⟨.none, none, (.fields #[(.int 2 0), (.int 0 0), (.ref 37)]), #[]⟩
noncomputable def o32_0 (P : Params) : Obj := ⟨(.type "tuple"), none, (.seq #[] 0), #[]⟩
noncomputable def o33_0 (P : Params) : Obj := ⟨.none, none, (.fields #[]), #[]⟩
noncomputable def o34_0 (P : Params) : Obj := ⟨(.type "tuple"), none, (.seq #[(.str (S "k") 285)] 0), #[]⟩
noncomputable def o35_0 (P : Params) : Obj := ⟨(.type "tuple"), none, (.seq #[] 0), #[]⟩
noncomputable def o36_0 (P : Params) : Obj := ⟨.none, none, (.func { name := (S "_wall"), qualname := (S "_wall"), params := fnP (stm 1), body := .stmts (fnB (stm 1)), scope := fnS (stm 1), globals := 0, closure := [], defaults := .none, kwdefaults := .none, doc := .none, pyModule := .none, annotations := none, code := .none, closureTuple := .none, builtins := 0 }), #[]⟩
noncomputable def o37_0 (P : Params) : Obj := ⟨(.type "code"), none, (.fields #[(.str (S "_wall") 282), (.str (S "_wall") 283), (.str (S "/claim/cut.py") 284), (.int 2 0), (.int 1 0), (.int 0 0), (.int 0 0), (.int 3 0), (.ref 32), (.bool true), (.int 276 0), (.ref 33), .none, (.ref 34), (.ref 35), (.ref 36), (.int 286 0), (.int 2 0), (.str (S "/claim/cut.py") 287)]), #[]⟩
noncomputable def o38_0 (P : Params) : Obj := ⟨(.type "function"), none, (.func { name := (S "_wall"), qualname := (S "_wall"), params := fnP (stm 1), body := .stmts (fnB (stm 1)), scope := fnS (stm 1), globals := 3, closure := [], defaults := .none, kwdefaults := .none, doc := .none, pyModule := (.str (S "__main__") 164), annotations := none, code := (.ref 37), closureTuple := .none, builtins := 0 }), #[]⟩
noncomputable def T1 (P : Params) : BT := (.node (o0_0 P) (.node (o1_0 P) (.node (o3_1 P) (.node (o7_0 P) (.node (o15_0 P) (.node (o31_0 P) .nil .nil) .nil) (.node (o23_0 P) .nil .nil)) (.node (o11_1 P) (.node (o19_0 P) (.node (o35_0 P) .nil .nil) .nil) (.node (o27_0 P) .nil .nil))) (.node (o5_0 P) (.node (o9_0 P) (.node (o17_0 P) (.node (o33_0 P) .nil .nil) .nil) (.node (o25_0 P) .nil .nil)) (.node (o13_0 P) (.node (o21_0 P) (.node (o37_0 P) .nil .nil) .nil) (.node (o29_1 P) .nil .nil)))) (.node (o2_0 P) (.node (o4_0 P) (.node (o8_0 P) (.node (o16_0 P) (.node (o32_0 P) .nil .nil) .nil) (.node (o24_0 P) .nil .nil)) (.node (o12_0 P) (.node (o20_0 P) (.node (o36_0 P) .nil .nil) .nil) (.node (o28_0 P) .nil .nil))) (.node (o6_0 P) (.node (o10_0 P) (.node (o18_0 P) (.node (o34_0 P) .nil .nil) .nil) (.node (o26_0 P) .nil .nil)) (.node (o14_0 P) (.node (o22_0 P) (.node (o38_0 P) .nil .nil) .nil) (.node (o30_0 P) .nil .nil)))))
noncomputable abbrev S1 (P : Params) (os : OsState) : SharedT := ⟨T1 P, 39, {}, #[], {}, 291, os⟩
noncomputable def o2_1 (P : Params) : Obj := ⟨.none, none, (.dict #[⟨PyData.keyHash P (⟨#[105, 109, 112, 111, 114, 116, 46, 108, 111, 97, 100, 101, 100, 46, 95, 115, 114, 101]⟩ : PySem.Str), (.str (⟨#[105, 109, 112, 111, 114, 116, 46, 108, 111, 97, 100, 101, 100, 46, 95, 115, 114, 101]⟩ : PySem.Str) 183), (.bool true)⟩, ⟨PyData.keyHash P (⟨#[99, 108, 97, 115, 115, 46, 95, 102, 114, 111, 122, 101, 110, 95, 105, 109, 112, 111, 114, 116, 108, 105, 98, 46, 66, 117, 105, 108, 116, 105, 110, 73, 109, 112, 111, 114, 116, 101, 114]⟩ : PySem.Str), (.str (⟨#[99, 108, 97, 115, 115, 46, 95, 102, 114, 111, 122, 101, 110, 95, 105, 109, 112, 111, 114, 116, 108, 105, 98, 46, 66, 117, 105, 108, 116, 105, 110, 73, 109, 112, 111, 114, 116, 101, 114]⟩ : PySem.Str) 185), (.ref 14)⟩, ⟨PyData.keyHash P (⟨#[119, 97, 116, 99, 104, 101, 100, 46, 105, 109, 112, 111, 114, 116]⟩ : PySem.Str), (.str (⟨#[119, 97, 116, 99, 104, 101, 100, 46, 105, 109, 112, 111, 114, 116]⟩ : PySem.Str) 206), (.ref 18)⟩, ⟨PyData.keyHash P (⟨#[99, 108, 97, 115, 115, 46, 95, 102, 114, 111, 122, 101, 110, 95, 105, 109, 112, 111, 114, 116, 108, 105, 98, 46, 77, 111, 100, 117, 108, 101, 83, 112, 101, 99]⟩ : PySem.Str), (.str (⟨#[99, 108, 97, 115, 115, 46, 95, 102, 114, 111, 122, 101, 110, 95, 105, 109, 112, 111, 114, 116, 108, 105, 98, 46, 77, 111, 100, 117, 108, 101, 83, 112, 101, 99]⟩ : PySem.Str) 216), (.ref 22)⟩, ⟨PyData.keyHash P (S "sys.modules.booked-epoch"), (.str (S "sys.modules.booked-epoch") 245), (.int 3 0)⟩, ⟨PyData.keyHash P (⟨#[105, 109, 112, 111, 114, 116, 46, 108, 97, 116, 101, 114, 45, 108, 97, 105, 100, 46, 95, 115, 114, 101]⟩ : PySem.Str), (.str (⟨#[105, 109, 112, 111, 114, 116, 46, 108, 97, 116, 101, 114, 45, 108, 97, 105, 100, 46, 95, 115, 114, 101]⟩ : PySem.Str) 270), (.bool true)⟩, ⟨PyData.keyHash P (S "watched.library"), (.str (S "watched.library") 272), (.ref 27)⟩, ⟨PyData.keyHash P (S "watched.library-objects"), (.str (S "watched.library-objects") 0), (.str (⟨#[12]⟩ : PySem.Str) 0)⟩, ⟨PyData.keyHash P (S "watched.library-deep._sre"), (.str (S "watched.library-deep._sre") 273), (.str (⟨#[4, 0, 0, 11, 4, 0, 0, 11, 4, 0, 0, 3, 4, 0, 0, 11, 8, 4, 100, 105, 99, 116, 2]⟩ : PySem.Str) 0)⟩, ⟨PyData.keyHash P (S "type.__subclasses__.Exception.0"), (.str (S "type.__subclasses__.Exception.0") 307), (.int 48 0)⟩, ⟨PyData.keyHash P (S "type.__subclasses__.Exception.n"), (.str (S "type.__subclasses__.Exception.n") 308), (.int 1 0)⟩] 11), #[]⟩
noncomputable def o3_2 (P : Params) : Obj := ⟨(.type "dict"), none, (.dict #[⟨PyData.keyHash P (S "__name__"), (.str (S "__name__") 165), (.str (S "cpy313.ftplib") 289)⟩, ⟨PyData.keyHash P (S "__doc__"), (.str (S "__doc__") 166), .none⟩, ⟨PyData.keyHash P (S "__package__"), (.str (S "__package__") 167), .none⟩, ⟨PyData.keyHash P (S "__loader__"), (.str (S "__loader__") 168), (.builtin "__main__.__loader__#opaque")⟩, ⟨PyData.keyHash P (S "__spec__"), (.str (S "__spec__") 169), .none⟩, ⟨PyData.keyHash P (S "__annotations__"), (.str (S "__annotations__") 170), (.ref 6)⟩, ⟨PyData.keyHash P (S "__builtins__"), (.str (S "__builtins__") 171), (.ref 4)⟩, ⟨PyData.keyHash P (S "__file__"), (.str (S "__file__") 173), (.str (S "/claim/cut.py") 172)⟩, ⟨PyData.keyHash P (S "__cached__"), (.str (S "__cached__") 174), .none⟩, ⟨PyData.keyHash P (S "_sre"), (.str (S "_sre") 275), (.ref 12)⟩, ⟨PyData.keyHash P (S "_wall"), (.str (S "_wall") 288), (.ref 38)⟩, ⟨PyData.keyHash P (S "Error"), (.str (S "Error") 310), (.ref 48)⟩, ⟨PyData.keyHash P (S "error_reply"), (.str (S "error_reply") 326), (.ref 61)⟩] 13), #[]⟩
noncomputable def o29_2 (P : Params) : Obj := ⟨.none, none, (.fields #[(.int 2 0), (.int 0 0), (.ref 37), (.int 6 0), (.int 0 0), (.ref 44), (.int 8 0), (.int 0 0), (.ref 57)]), #[]⟩
noncomputable def o39_0 (P : Params) : Obj := ⟨(.type "tuple"), none, (.seq #[(.type "Exception")] 0), #[]⟩
noncomputable def o40_0 (P : Params) : Obj := ⟨(.type "builtin_function_or_method"), none, (.fields #[(.builtin "type.__prepare__"), (.type "type")]), #[]⟩
noncomputable def o41_0 (P : Params) : Obj := ⟨(.type "dict"), none, (.dict #[⟨PyData.keyHash P (S "__module__"), (.str (S "__module__") 298), (.str (S "cpy313.ftplib") 289)⟩, ⟨PyData.keyHash P (S "__qualname__"), (.str (S "__qualname__") 300), (.str (S "Error") 299)⟩, ⟨PyData.keyHash P (S "__firstlineno__"), (.str (S "__firstlineno__") 302), (.int 6 301)⟩, ⟨PyData.keyHash P (S "__static_attributes__"), (.str (S "__static_attributes__") 303), (.ref 46)⟩] 4), #[]⟩
noncomputable def o42_0 (P : Params) : Obj := ⟨(.type "tuple"), none, (.seq #[] 0), #[]⟩
noncomputable def o43_0 (P : Params) : Obj := ⟨.none, none, (.fields #[]), #[]⟩
noncomputable def o44_0 (P : Params) : Obj := ⟨(.type "code"), none, (.fields #[(.str (S "Error") 293), (.str (S "Error") 294), (.str (S "/claim/cut.py") 295), (.int 6 0), (.int 0 0), (.int 0 0), (.int 0 0), (.int 0 0), (.ref 42), (.bool false), (.int 276 0), (.ref 43), .none, .none, .none, .none, (.int 296 0), (.int 6 0), (.str (S "/claim/cut.py") 297)]), #[]⟩
noncomputable def o45_0 (P : Params) : Obj := ⟨(.type "frame"), none, .plain, #[(some (.ref 44)), (some (.ref 3)), (some (.ref 41)), none, (some (.str (S "cpy313.ftplib") 289)), none, (some (.ref 0))]⟩
noncomputable def o46_0 (P : Params) : Obj := ⟨(.type "tuple"), none, (.seq #[] 0), #[]⟩
noncomputable def o47_0 (P : Params) : Obj := ⟨(.type "dict"), none, (.dict #[⟨PyData.keyHash P (S "__module__"), (.str (S "__module__") 298), (.str (S "cpy313.ftplib") 289)⟩, ⟨PyData.keyHash P (S "__firstlineno__"), (.str (S "__firstlineno__") 302), (.int 6 301)⟩, ⟨PyData.keyHash P (S "__static_attributes__"), (.str (S "__static_attributes__") 303), (.ref 46)⟩, ⟨PyData.keyHash P (S "__weakref__"), (.str (S "__weakref__") 305), (.ref 49)⟩, ⟨PyData.keyHash P (S "__doc__"), (.str (S "__doc__") 306), .none⟩] 3), #[]⟩
noncomputable def o48_0 (P : Params) : Obj := ⟨(.type "type"), none, (.cls { name := (S "Error"), bases := [(.type "Exception")], mro := [(.ref 48), (.type "Exception"), (.type "BaseException"), (.type "object")], ns := 47, qualname := (S "Error"), hasDict := true, slotNames := [], subclasses := [(.ref 61)], abstract := false, collection := none, hasDel := false }), #[(some (.ref 39)), none, (some (.str (S "Error") 291)), (some (.str (S "Error") 299)), (some (.builtin "Exception.__new__")), (some (.bool true))]⟩
noncomputable def o49_0 (P : Params) : Obj := ⟨(.type "getset_descriptor"), none, (.fields #[(.str (S "__weakref__") 304), (.ref 48), (.builtin "ExceptionGroup.__weakref__"), .none]), #[]⟩
noncomputable def o50_0 (P : Params) : Obj := ⟨(.type "super"), none, (.fields #[(.ref 48), (.ref 48), (.ref 48)]), #[]⟩
noncomputable def o51_0 (P : Params) : Obj := ⟨(.type "builtin_function_or_method"), none, (.fields #[(.builtin "object.__init_subclass__"), (.ref 48)]), #[]⟩
noncomputable def o52_0 (P : Params) : Obj := ⟨(.type "tuple"), none, (.seq #[(.ref 48)] 0), #[]⟩
noncomputable def o53_0 (P : Params) : Obj := ⟨(.type "builtin_function_or_method"), none, (.fields #[(.builtin "type.__prepare__"), (.type "type")]), #[]⟩
noncomputable def o54_0 (P : Params) : Obj := ⟨(.type "dict"), none, (.dict #[⟨PyData.keyHash P (S "__module__"), (.str (S "__module__") 318), (.str (S "cpy313.ftplib") 289)⟩, ⟨PyData.keyHash P (S "__qualname__"), (.str (S "__qualname__") 320), (.str (S "error_reply") 319)⟩, ⟨PyData.keyHash P (S "__firstlineno__"), (.str (S "__firstlineno__") 322), (.int 8 321)⟩, ⟨PyData.keyHash P (S "__static_attributes__"), (.str (S "__static_attributes__") 323), (.ref 59)⟩] 4), #[]⟩
noncomputable def o55_0 (P : Params) : Obj := ⟨(.type "tuple"), none, (.seq #[] 0), #[]⟩
noncomputable def o56_0 (P : Params) : Obj := ⟨.none, none, (.fields #[]), #[]⟩
noncomputable def o57_0 (P : Params) : Obj := ⟨(.type "code"), none, (.fields #[(.str (S "error_reply") 313), (.str (S "error_reply") 314), (.str (S "/claim/cut.py") 315), (.int 8 0), (.int 0 0), (.int 0 0), (.int 0 0), (.int 0 0), (.ref 55), (.bool false), (.int 276 0), (.ref 56), .none, .none, .none, .none, (.int 316 0), (.int 8 0), (.str (S "/claim/cut.py") 317)]), #[]⟩
noncomputable def o58_0 (P : Params) : Obj := ⟨(.type "frame"), none, .plain, #[(some (.ref 57)), (some (.ref 3)), (some (.ref 54)), none, (some (.str (S "cpy313.ftplib") 289)), none, (some (.ref 0))]⟩
noncomputable def o59_0 (P : Params) : Obj := ⟨(.type "tuple"), none, (.seq #[] 0), #[]⟩
noncomputable def o60_0 (P : Params) : Obj := ⟨(.type "dict"), none, (.dict #[⟨PyData.keyHash P (S "__module__"), (.str (S "__module__") 318), (.str (S "cpy313.ftplib") 289)⟩, ⟨PyData.keyHash P (S "__firstlineno__"), (.str (S "__firstlineno__") 322), (.int 8 321)⟩, ⟨PyData.keyHash P (S "__static_attributes__"), (.str (S "__static_attributes__") 323), (.ref 59)⟩, ⟨PyData.keyHash P (S "__doc__"), (.str (S "__doc__") 324), .none⟩] 2), #[]⟩
noncomputable def o61_0 (P : Params) : Obj := ⟨(.type "type"), none, (.cls { name := (S "error_reply"), bases := [(.ref 48)], mro := [(.ref 61), (.ref 48), (.type "Exception"), (.type "BaseException"), (.type "object")], ns := 60, qualname := (S "error_reply"), hasDict := true, slotNames := [], subclasses := [], abstract := false, collection := none, hasDel := false }), #[(some (.ref 52)), none, (some (.str (S "error_reply") 311)), (some (.str (S "error_reply") 319)), (some (.builtin "Exception.__new__")), (some (.bool true))]⟩
noncomputable def o62_0 (P : Params) : Obj := ⟨(.type "super"), none, (.fields #[(.ref 61), (.ref 61), (.ref 61)]), #[]⟩
noncomputable def o63_0 (P : Params) : Obj := ⟨(.type "builtin_function_or_method"), none, (.fields #[(.builtin "object.__init_subclass__"), (.ref 61)]), #[]⟩
noncomputable def T3 (P : Params) : BT := (.node (o0_0 P) (.node (o1_0 P) (.node (o3_2 P) (.node (o7_0 P) (.node (o15_0 P) (.node (o31_0 P) (.node (o63_0 P) .nil .nil) .nil) (.node (o47_0 P) .nil .nil)) (.node (o23_0 P) (.node (o39_0 P) .nil .nil) (.node (o55_0 P) .nil .nil))) (.node (o11_1 P) (.node (o19_0 P) (.node (o35_0 P) .nil .nil) (.node (o51_0 P) .nil .nil)) (.node (o27_0 P) (.node (o43_0 P) .nil .nil) (.node (o59_0 P) .nil .nil)))) (.node (o5_0 P) (.node (o9_0 P) (.node (o17_0 P) (.node (o33_0 P) .nil .nil) (.node (o49_0 P) .nil .nil)) (.node (o25_0 P) (.node (o41_0 P) .nil .nil) (.node (o57_0 P) .nil .nil))) (.node (o13_0 P) (.node (o21_0 P) (.node (o37_0 P) .nil .nil) (.node (o53_0 P) .nil .nil)) (.node (o29_2 P) (.node (o45_0 P) .nil .nil) (.node (o61_0 P) .nil .nil))))) (.node (o2_1 P) (.node (o4_0 P) (.node (o8_0 P) (.node (o16_0 P) (.node (o32_0 P) .nil .nil) (.node (o48_0 P) .nil .nil)) (.node (o24_0 P) (.node (o40_0 P) .nil .nil) (.node (o56_0 P) .nil .nil))) (.node (o12_0 P) (.node (o20_0 P) (.node (o36_0 P) .nil .nil) (.node (o52_0 P) .nil .nil)) (.node (o28_0 P) (.node (o44_0 P) .nil .nil) (.node (o60_0 P) .nil .nil)))) (.node (o6_0 P) (.node (o10_0 P) (.node (o18_0 P) (.node (o34_0 P) .nil .nil) (.node (o50_0 P) .nil .nil)) (.node (o26_0 P) (.node (o42_0 P) .nil .nil) (.node (o58_0 P) .nil .nil))) (.node (o14_0 P) (.node (o22_0 P) (.node (o38_0 P) .nil .nil) (.node (o54_0 P) .nil .nil)) (.node (o30_0 P) (.node (o46_0 P) .nil .nil) (.node (o62_0 P) .nil .nil))))))
noncomputable abbrev S3 (P : Params) (os : OsState) : SharedT := ⟨T3 P, 64, {}, #[], {}, 327, os⟩
noncomputable def o3_3 (P : Params) : Obj := ⟨(.type "dict"), none, (.dict #[⟨PyData.keyHash P (S "__name__"), (.str (S "__name__") 165), (.str (S "cpy313.stringprep") 367)⟩, ⟨PyData.keyHash P (S "__doc__"), (.str (S "__doc__") 166), .none⟩, ⟨PyData.keyHash P (S "__package__"), (.str (S "__package__") 167), .none⟩, ⟨PyData.keyHash P (S "__loader__"), (.str (S "__loader__") 168), (.builtin "__main__.__loader__#opaque")⟩, ⟨PyData.keyHash P (S "__spec__"), (.str (S "__spec__") 169), .none⟩, ⟨PyData.keyHash P (S "__annotations__"), (.str (S "__annotations__") 170), (.ref 6)⟩, ⟨PyData.keyHash P (S "__builtins__"), (.str (S "__builtins__") 171), (.ref 4)⟩, ⟨PyData.keyHash P (S "__file__"), (.str (S "__file__") 173), (.str (S "/claim/cut.py") 172)⟩, ⟨PyData.keyHash P (S "__cached__"), (.str (S "__cached__") 174), .none⟩, ⟨PyData.keyHash P (S "_sre"), (.str (S "_sre") 275), (.ref 12)⟩, ⟨PyData.keyHash P (S "_wall"), (.str (S "_wall") 288), (.ref 38)⟩, ⟨PyData.keyHash P (S "Error"), (.str (S "Error") 310), (.ref 48)⟩, ⟨PyData.keyHash P (S "error_reply"), (.str (S "error_reply") 326), (.ref 61)⟩, ⟨PyData.keyHash P (S "error_proto"), (.str (S "error_proto") 342), (.ref 73)⟩, ⟨PyData.keyHash P (S "parse229"), (.str (S "parse229") 355), (.ref 82)⟩, ⟨PyData.keyHash P (S "parse257"), (.str (S "parse257") 366), (.ref 89)⟩] 16), #[]⟩
noncomputable def o29_3 (P : Params) : Obj := ⟨.none, none, (.fields #[(.int 2 0), (.int 0 0), (.ref 37), (.int 6 0), (.int 0 0), (.ref 44), (.int 8 0), (.int 0 0), (.ref 57), (.int 10 0), (.int 0 0), (.ref 69), (.int 12 0), (.int 0 0), (.ref 81), (.int 29 0), (.int 0 0), (.ref 88)]), #[]⟩
noncomputable def o48_1 (P : Params) : Obj := ⟨(.type "type"), none, (.cls { name := (S "Error"), bases := [(.type "Exception")], mro := [(.ref 48), (.type "Exception"), (.type "BaseException"), (.type "object")], ns := 47, qualname := (S "Error"), hasDict := true, slotNames := [], subclasses := [(.ref 61), (.ref 73)], abstract := false, collection := none, hasDel := false }), #[(some (.ref 39)), none, (some (.str (S "Error") 291)), (some (.str (S "Error") 299)), (some (.builtin "Exception.__new__")), (some (.bool true))]⟩
noncomputable def o64_0 (P : Params) : Obj := ⟨(.type "tuple"), none, (.seq #[(.ref 48)] 0), #[]⟩
noncomputable def o65_0 (P : Params) : Obj := ⟨(.type "builtin_function_or_method"), none, (.fields #[(.builtin "type.__prepare__"), (.type "type")]), #[]⟩
noncomputable def o66_0 (P : Params) : Obj := ⟨(.type "dict"), none, (.dict #[⟨PyData.keyHash P (S "__module__"), (.str (S "__module__") 334), (.str (S "cpy313.ftplib") 289)⟩, ⟨PyData.keyHash P (S "__qualname__"), (.str (S "__qualname__") 336), (.str (S "error_proto") 335)⟩, ⟨PyData.keyHash P (S "__firstlineno__"), (.str (S "__firstlineno__") 338), (.int 10 337)⟩, ⟨PyData.keyHash P (S "__static_attributes__"), (.str (S "__static_attributes__") 339), (.ref 71)⟩] 4), #[]⟩
noncomputable def o67_0 (P : Params) : Obj := ⟨(.type "tuple"), none, (.seq #[] 0), #[]⟩
noncomputable def o68_0 (P : Params) : Obj := ⟨.none, none, (.fields #[]), #[]⟩
noncomputable def o69_0 (P : Params) : Obj := ⟨(.type "code"), none, (.fields #[(.str (S "error_proto") 329), (.str (S "error_proto") 330), (.str (S "/claim/cut.py") 331), (.int 10 0), (.int 0 0), (.int 0 0), (.int 0 0), (.int 0 0), (.ref 67), (.bool false), (.int 276 0), (.ref 68), .none, .none, .none, .none, (.int 332 0), (.int 10 0), (.str (S "/claim/cut.py") 333)]), #[]⟩
noncomputable def o70_0 (P : Params) : Obj := ⟨(.type "frame"), none, .plain, #[(some (.ref 69)), (some (.ref 3)), (some (.ref 66)), none, (some (.str (S "cpy313.ftplib") 289)), none, (some (.ref 0))]⟩
noncomputable def o71_0 (P : Params) : Obj := ⟨(.type "tuple"), none, (.seq #[] 0), #[]⟩
noncomputable def o72_0 (P : Params) : Obj := ⟨(.type "dict"), none, (.dict #[⟨PyData.keyHash P (S "__module__"), (.str (S "__module__") 334), (.str (S "cpy313.ftplib") 289)⟩, ⟨PyData.keyHash P (S "__firstlineno__"), (.str (S "__firstlineno__") 338), (.int 10 337)⟩, ⟨PyData.keyHash P (S "__static_attributes__"), (.str (S "__static_attributes__") 339), (.ref 71)⟩, ⟨PyData.keyHash P (S "__doc__"), (.str (S "__doc__") 340), .none⟩] 2), #[]⟩
noncomputable def o73_0 (P : Params) : Obj := ⟨(.type "type"), none, (.cls { name := (S "error_proto"), bases := [(.ref 48)], mro := [(.ref 73), (.ref 48), (.type "Exception"), (.type "BaseException"), (.type "object")], ns := 72, qualname := (S "error_proto"), hasDict := true, slotNames := [], subclasses := [], abstract := false, collection := none, hasDel := false }), #[(some (.ref 64)), none, (some (.str (S "error_proto") 327)), (some (.str (S "error_proto") 335)), (some (.builtin "Exception.__new__")), (some (.bool true))]⟩
noncomputable def o74_0 (P : Params) : Obj := ⟨(.type "super"), none, (.fields #[(.ref 73), (.ref 73), (.ref 73)]), #[]⟩
noncomputable def o75_0 (P : Params) : Obj := ⟨(.type "builtin_function_or_method"), none, (.fields #[(.builtin "object.__init_subclass__"), (.ref 73)]), #[]⟩
noncomputable def o76_0 (P : Params) : Obj := ⟨(.type "tuple"), none, (.seq #[] 0), #[]⟩
noncomputable def o77_0 (P : Params) : Obj := ⟨.none, none, (.fields #[]), #[]⟩
noncomputable def o78_0 (P : Params) : Obj := ⟨(.type "tuple"), none, (.seq #[(.str (S "resp") 346), (.str (S "peer") 347), (.str (S "left") 348), (.str (S "right") 349), (.str (S "parts") 350), (.str (S "host") 351), (.str (S "port") 352)] 0), #[]⟩
noncomputable def o79_0 (P : Params) : Obj := ⟨(.type "tuple"), none, (.seq #[] 0), #[]⟩
noncomputable def o80_0 (P : Params) : Obj := ⟨.none, none, (.func { name := (S "parse229"), qualname := (S "parse229"), params := fnP (stm 6), body := .stmts (fnB (stm 6)), scope := fnS (stm 6), globals := 0, closure := [], defaults := .none, kwdefaults := .none, doc := .none, pyModule := .none, annotations := none, code := .none, closureTuple := .none, builtins := 0 }), #[]⟩
noncomputable def o81_0 (P : Params) : Obj := ⟨(.type "code"), none, (.fields #[(.str (S "parse229") 343), (.str (S "parse229") 344), (.str (S "/claim/cut.py") 345), (.int 12 0), (.int 2 0), (.int 0 0), (.int 0 0), (.int 3 0), (.ref 76), (.bool true), (.int 276 0), (.ref 77), .none, (.ref 78), (.ref 79), (.ref 80), (.int 353 0), (.int 12 0), (.str (S "/claim/cut.py") 354)]), #[]⟩
noncomputable def o82_0 (P : Params) : Obj := ⟨(.type "function"), none, (.func { name := (S "parse229"), qualname := (S "parse229"), params := fnP (stm 6), body := .stmts (fnB (stm 6)), scope := fnS (stm 6), globals := 3, closure := [], defaults := .none, kwdefaults := .none, doc := .none, pyModule := (.str (S "cpy313.ftplib") 289), annotations := none, code := (.ref 81), closureTuple := .none, builtins := 0 }), #[]⟩
noncomputable def o83_0 (P : Params) : Obj := ⟨(.type "tuple"), none, (.seq #[] 0), #[]⟩
noncomputable def o84_0 (P : Params) : Obj := ⟨.none, none, (.fields #[]), #[]⟩
noncomputable def o85_0 (P : Params) : Obj := ⟨(.type "tuple"), none, (.seq #[(.str (S "resp") 359), (.str (S "dirname") 360), (.str (S "i") 361), (.str (S "n") 362), (.str (S "c") 363)] 0), #[]⟩
noncomputable def o86_0 (P : Params) : Obj := ⟨(.type "tuple"), none, (.seq #[] 0), #[]⟩
noncomputable def o87_0 (P : Params) : Obj := ⟨.none, none, (.func { name := (S "parse257"), qualname := (S "parse257"), params := fnP (stm 7), body := .stmts (fnB (stm 7)), scope := fnS (stm 7), globals := 0, closure := [], defaults := .none, kwdefaults := .none, doc := .none, pyModule := .none, annotations := none, code := .none, closureTuple := .none, builtins := 0 }), #[]⟩
noncomputable def o88_0 (P : Params) : Obj := ⟨(.type "code"), none, (.fields #[(.str (S "parse257") 356), (.str (S "parse257") 357), (.str (S "/claim/cut.py") 358), (.int 29 0), (.int 1 0), (.int 0 0), (.int 0 0), (.int 3 0), (.ref 83), (.bool true), (.int 276 0), (.ref 84), .none, (.ref 85), (.ref 86), (.ref 87), (.int 364 0), (.int 29 0), (.str (S "/claim/cut.py") 365)]), #[]⟩
noncomputable def o89_0 (P : Params) : Obj := ⟨(.type "function"), none, (.func { name := (S "parse257"), qualname := (S "parse257"), params := fnP (stm 7), body := .stmts (fnB (stm 7)), scope := fnS (stm 7), globals := 3, closure := [], defaults := .none, kwdefaults := .none, doc := .none, pyModule := (.str (S "cpy313.ftplib") 289), annotations := none, code := (.ref 88), closureTuple := .none, builtins := 0 }), #[]⟩
noncomputable def T7 (P : Params) : BT := (.node (o0_0 P) (.node (o1_0 P) (.node (o3_3 P) (.node (o7_0 P) (.node (o15_0 P) (.node (o31_0 P) (.node (o63_0 P) .nil .nil) .nil) (.node (o47_0 P) (.node (o79_0 P) .nil .nil) .nil)) (.node (o23_0 P) (.node (o39_0 P) (.node (o71_0 P) .nil .nil) .nil) (.node (o55_0 P) (.node (o87_0 P) .nil .nil) .nil))) (.node (o11_1 P) (.node (o19_0 P) (.node (o35_0 P) (.node (o67_0 P) .nil .nil) .nil) (.node (o51_0 P) (.node (o83_0 P) .nil .nil) .nil)) (.node (o27_0 P) (.node (o43_0 P) (.node (o75_0 P) .nil .nil) .nil) (.node (o59_0 P) .nil .nil)))) (.node (o5_0 P) (.node (o9_0 P) (.node (o17_0 P) (.node (o33_0 P) (.node (o65_0 P) .nil .nil) .nil) (.node (o49_0 P) (.node (o81_0 P) .nil .nil) .nil)) (.node (o25_0 P) (.node (o41_0 P) (.node (o73_0 P) .nil .nil) .nil) (.node (o57_0 P) (.node (o89_0 P) .nil .nil) .nil))) (.node (o13_0 P) (.node (o21_0 P) (.node (o37_0 P) (.node (o69_0 P) .nil .nil) .nil) (.node (o53_0 P) (.node (o85_0 P) .nil .nil) .nil)) (.node (o29_3 P) (.node (o45_0 P) (.node (o77_0 P) .nil .nil) .nil) (.node (o61_0 P) .nil .nil))))) (.node (o2_1 P) (.node (o4_0 P) (.node (o8_0 P) (.node (o16_0 P) (.node (o32_0 P) (.node (o64_0 P) .nil .nil) .nil) (.node (o48_1 P) (.node (o80_0 P) .nil .nil) .nil)) (.node (o24_0 P) (.node (o40_0 P) (.node (o72_0 P) .nil .nil) .nil) (.node (o56_0 P) (.node (o88_0 P) .nil .nil) .nil))) (.node (o12_0 P) (.node (o20_0 P) (.node (o36_0 P) (.node (o68_0 P) .nil .nil) .nil) (.node (o52_0 P) (.node (o84_0 P) .nil .nil) .nil)) (.node (o28_0 P) (.node (o44_0 P) (.node (o76_0 P) .nil .nil) .nil) (.node (o60_0 P) .nil .nil)))) (.node (o6_0 P) (.node (o10_0 P) (.node (o18_0 P) (.node (o34_0 P) (.node (o66_0 P) .nil .nil) .nil) (.node (o50_0 P) (.node (o82_0 P) .nil .nil) .nil)) (.node (o26_0 P) (.node (o42_0 P) (.node (o74_0 P) .nil .nil) .nil) (.node (o58_0 P) .nil .nil))) (.node (o14_0 P) (.node (o22_0 P) (.node (o38_0 P) (.node (o70_0 P) .nil .nil) .nil) (.node (o54_0 P) (.node (o86_0 P) .nil .nil) .nil)) (.node (o30_0 P) (.node (o46_0 P) (.node (o78_0 P) .nil .nil) .nil) (.node (o62_0 P) .nil .nil))))))
noncomputable abbrev S7 (P : Params) (os : OsState) : SharedT := ⟨T7 P, 90, {}, #[], {}, 369, os⟩
noncomputable def o3_4 (P : Params) : Obj := ⟨(.type "dict"), none, (.dict #[⟨PyData.keyHash P (S "__name__"), (.str (S "__name__") 165), (.str (S "cpy313.stringprep") 367)⟩, ⟨PyData.keyHash P (S "__doc__"), (.str (S "__doc__") 166), .none⟩, ⟨PyData.keyHash P (S "__package__"), (.str (S "__package__") 167), .none⟩, ⟨PyData.keyHash P (S "__loader__"), (.str (S "__loader__") 168), (.builtin "__main__.__loader__#opaque")⟩, ⟨PyData.keyHash P (S "__spec__"), (.str (S "__spec__") 169), .none⟩, ⟨PyData.keyHash P (S "__annotations__"), (.str (S "__annotations__") 170), (.ref 6)⟩, ⟨PyData.keyHash P (S "__builtins__"), (.str (S "__builtins__") 171), (.ref 4)⟩, ⟨PyData.keyHash P (S "__file__"), (.str (S "__file__") 173), (.str (S "/claim/cut.py") 172)⟩, ⟨PyData.keyHash P (S "__cached__"), (.str (S "__cached__") 174), .none⟩, ⟨PyData.keyHash P (S "_sre"), (.str (S "_sre") 275), (.ref 12)⟩, ⟨PyData.keyHash P (S "_wall"), (.str (S "_wall") 288), (.ref 38)⟩, ⟨PyData.keyHash P (S "Error"), (.str (S "Error") 310), (.ref 48)⟩, ⟨PyData.keyHash P (S "error_reply"), (.str (S "error_reply") 326), (.ref 61)⟩, ⟨PyData.keyHash P (S "error_proto"), (.str (S "error_proto") 342), (.ref 73)⟩, ⟨PyData.keyHash P (S "parse229"), (.str (S "parse229") 355), (.ref 82)⟩, ⟨PyData.keyHash P (S "parse257"), (.str (S "parse257") 366), (.ref 89)⟩, ⟨PyData.keyHash P (S "b1_set"), (.str (S "b1_set") 428), (.ref 97)⟩] 17), #[]⟩
noncomputable def o90_0 (P : Params) : Obj := ⟨(.type "list"), none, (.seq #[(.int 173 369), (.int 847 370), (.int 6150 371), (.int 6155 372), (.int 6156 373), (.int 6157 374), (.int 8203 375), (.int 8204 376), (.int 8205 377), (.int 8288 378), (.int 65279 379)] 0), #[]⟩
noncomputable def o91_0 (P : Params) : Obj := ⟨(.type "range"), none, (.fields #[(.int 65024 380), (.int 65040 381), (.int 1 382)]), #[]⟩
noncomputable def o92_0 (P : Params) : Obj := ⟨(.type "list"), none, (.seq #[(.int 65024 385), (.int 65025 386), (.int 65026 387), (.int 65027 388), (.int 65028 389), (.int 65029 390), (.int 65030 391), (.int 65031 392), (.int 65032 393), (.int 65033 394), (.int 65034 395), (.int 65035 396), (.int 65036 397), (.int 65037 398), (.int 65038 399), (.int 65039 400)] 18), #[]⟩
noncomputable def o93_0 (P : Params) : Obj := ⟨(.type "range_iterator"), none, (.fields #[(.int 65040 0), (.int 0 0), (.int 1 0)]), #[]⟩
noncomputable def o94_0 (P : Params) : Obj := ⟨(.type "tuple"), none, (.seq #[] 0), #[]⟩
noncomputable def o95_0 (P : Params) : Obj := ⟨(.type "StopIteration"), none, (.fields #[(.ref 94), .none, .none, .none, (.bool false), .none]), #[]⟩
noncomputable def o96_0 (P : Params) : Obj := ⟨(.type "list"), none, (.seq #[(.int 173 369), (.int 847 370), (.int 6150 371), (.int 6155 372), (.int 6156 373), (.int 6157 374), (.int 8203 375), (.int 8204 376), (.int 8205 377), (.int 8288 378), (.int 65279 379), (.int 65024 385), (.int 65025 386), (.int 65026 387), (.int 65027 388), (.int 65028 389), (.int 65029 390), (.int 65030 391), (.int 65031 392), (.int 65032 393), (.int 65033 394), (.int 65034 395), (.int 65035 396), (.int 65036 397), (.int 65037 398), (.int 65038 399), (.int 65039 400)] 0), #[]⟩
noncomputable def o97_0 (P : Params) : Obj := ⟨(.type "set"), none, (.set #[(65024, (.int 65024 385)), (65025, (.int 65025 386)), (65026, (.int 65026 387)), (65027, (.int 65027 388)), (65028, (.int 65028 389)), (65029, (.int 65029 390)), (6150, (.int 6150 371)), (65030, (.int 65030 391)), (65031, (.int 65031 392)), (65032, (.int 65032 393)), (65033, (.int 65033 394)), (6155, (.int 6155 372)), (6156, (.int 6156 373)), (6157, (.int 6157 374)), (8203, (.int 8203 375)), (8204, (.int 8204 376)), (8205, (.int 8205 377)), (65034, (.int 65034 395)), (65035, (.int 65035 396)), (65036, (.int 65036 397)), (65037, (.int 65037 398)), (65038, (.int 65038 399)), (65039, (.int 65039 400)), (173, (.int 173 369)), (847, (.int 847 370)), (8288, (.int 8288 378)), (65279, (.int 65279 379))] 29 { mask := 127, place := #[0, 1, 2, 3, 4, 5, 6, 7, 8, 9, 10, 11, 12, 13, 14, 15, 16, 17, 18, 19, 20, 21, 22, 45, 79, 96, 127], dummies := #[], finger := 0, led := (!P.followText "set-order"), moves := 2, plain := true }), #[]⟩
noncomputable def o98_0 (P : Params) : Obj := ⟨(.type "list_iterator"), none, (.fields #[.none, (.int 27 0)]), #[]⟩
noncomputable def o99_0 (P : Params) : Obj := ⟨(.type "tuple"), none, (.seq #[] 0), #[]⟩
noncomputable def o100_0 (P : Params) : Obj := ⟨(.type "StopIteration"), none, (.fields #[(.ref 99), .none, .none, .none, (.bool false), .none]), #[]⟩
noncomputable def T8 (P : Params) : BT := (.node (o0_0 P) (.node (o1_0 P) (.node (o3_4 P) (.node (o7_0 P) (.node (o15_0 P) (.node (o31_0 P) (.node (o63_0 P) .nil .nil) (.node (o95_0 P) .nil .nil)) (.node (o47_0 P) (.node (o79_0 P) .nil .nil) .nil)) (.node (o23_0 P) (.node (o39_0 P) (.node (o71_0 P) .nil .nil) .nil) (.node (o55_0 P) (.node (o87_0 P) .nil .nil) .nil))) (.node (o11_1 P) (.node (o19_0 P) (.node (o35_0 P) (.node (o67_0 P) .nil .nil) (.node (o99_0 P) .nil .nil)) (.node (o51_0 P) (.node (o83_0 P) .nil .nil) .nil)) (.node (o27_0 P) (.node (o43_0 P) (.node (o75_0 P) .nil .nil) .nil) (.node (o59_0 P) (.node (o91_0 P) .nil .nil) .nil)))) (.node (o5_0 P) (.node (o9_0 P) (.node (o17_0 P) (.node (o33_0 P) (.node (o65_0 P) .nil .nil) (.node (o97_0 P) .nil .nil)) (.node (o49_0 P) (.node (o81_0 P) .nil .nil) .nil)) (.node (o25_0 P) (.node (o41_0 P) (.node (o73_0 P) .nil .nil) .nil) (.node (o57_0 P) (.node (o89_0 P) .nil .nil) .nil))) (.node (o13_0 P) (.node (o21_0 P) (.node (o37_0 P) (.node (o69_0 P) .nil .nil) .nil) (.node (o53_0 P) (.node (o85_0 P) .nil .nil) .nil)) (.node (o29_3 P) (.node (o45_0 P) (.node (o77_0 P) .nil .nil) .nil) (.node (o61_0 P) (.node (o93_0 P) .nil .nil) .nil))))) (.node (o2_1 P) (.node (o4_0 P) (.node (o8_0 P) (.node (o16_0 P) (.node (o32_0 P) (.node (o64_0 P) .nil .nil) (.node (o96_0 P) .nil .nil)) (.node (o48_1 P) (.node (o80_0 P) .nil .nil) .nil)) (.node (o24_0 P) (.node (o40_0 P) (.node (o72_0 P) .nil .nil) .nil) (.node (o56_0 P) (.node (o88_0 P) .nil .nil) .nil))) (.node (o12_0 P) (.node (o20_0 P) (.node (o36_0 P) (.node (o68_0 P) .nil .nil) (.node (o100_0 P) .nil .nil)) (.node (o52_0 P) (.node (o84_0 P) .nil .nil) .nil)) (.node (o28_0 P) (.node (o44_0 P) (.node (o76_0 P) .nil .nil) .nil) (.node (o60_0 P) (.node (o92_0 P) .nil .nil) .nil)))) (.node (o6_0 P) (.node (o10_0 P) (.node (o18_0 P) (.node (o34_0 P) (.node (o66_0 P) .nil .nil) (.node (o98_0 P) .nil .nil)) (.node (o50_0 P) (.node (o82_0 P) .nil .nil) .nil)) (.node (o26_0 P) (.node (o42_0 P) (.node (o74_0 P) .nil .nil) .nil) (.node (o58_0 P) (.node (o90_0 P) .nil .nil) .nil))) (.node (o14_0 P) (.node (o22_0 P) (.node (o38_0 P) (.node (o70_0 P) .nil .nil) .nil) (.node (o54_0 P) (.node (o86_0 P) .nil .nil) .nil)) (.node (o30_0 P) (.node (o46_0 P) (.node (o78_0 P) .nil .nil) .nil) (.node (o62_0 P) (.node (o94_0 P) .nil .nil) .nil))))))
noncomputable abbrev S8 (P : Params) (os : OsState) : SharedT := ⟨T8 P, 101, {}, #[], {}, 429, os⟩
noncomputable def o3_5 (P : Params) : Obj := ⟨(.type "dict"), none, (.dict #[⟨PyData.keyHash P (S "__name__"), (.str (S "__name__") 165), (.str (S "cpy313.stringprep") 367)⟩, ⟨PyData.keyHash P (S "__doc__"), (.str (S "__doc__") 166), .none⟩, ⟨PyData.keyHash P (S "__package__"), (.str (S "__package__") 167), .none⟩, ⟨PyData.keyHash P (S "__loader__"), (.str (S "__loader__") 168), (.builtin "__main__.__loader__#opaque")⟩, ⟨PyData.keyHash P (S "__spec__"), (.str (S "__spec__") 169), .none⟩, ⟨PyData.keyHash P (S "__annotations__"), (.str (S "__annotations__") 170), (.ref 6)⟩, ⟨PyData.keyHash P (S "__builtins__"), (.str (S "__builtins__") 171), (.ref 4)⟩, ⟨PyData.keyHash P (S "__file__"), (.str (S "__file__") 173), (.str (S "/claim/cut.py") 172)⟩, ⟨PyData.keyHash P (S "__cached__"), (.str (S "__cached__") 174), .none⟩, ⟨PyData.keyHash P (S "_sre"), (.str (S "_sre") 275), (.ref 12)⟩, ⟨PyData.keyHash P (S "_wall"), (.str (S "_wall") 288), (.ref 38)⟩, ⟨PyData.keyHash P (S "Error"), (.str (S "Error") 310), (.ref 48)⟩, ⟨PyData.keyHash P (S "error_reply"), (.str (S "error_reply") 326), (.ref 61)⟩, ⟨PyData.keyHash P (S "error_proto"), (.str (S "error_proto") 342), (.ref 73)⟩, ⟨PyData.keyHash P (S "parse229"), (.str (S "parse229") 355), (.ref 82)⟩, ⟨PyData.keyHash P (S "parse257"), (.str (S "parse257") 366), (.ref 89)⟩, ⟨PyData.keyHash P (S "b1_set"), (.str (S "b1_set") 428), (.ref 97)⟩, ⟨PyData.keyHash P (S "in_table_b1"), (.str (S "in_table_b1") 435), (.ref 107)⟩] 18), #[]⟩
noncomputable def o29_4 (P : Params) : Obj := ⟨.none, none, (.fields #[(.int 2 0), (.int 0 0), (.ref 37), (.int 6 0), (.int 0 0), (.ref 44), (.int 8 0), (.int 0 0), (.ref 57), (.int 10 0), (.int 0 0), (.ref 69), (.int 12 0), (.int 0 0), (.ref 81), (.int 29 0), (.int 0 0), (.ref 88), (.int 48 0), (.int 0 0), (.ref 106)]), #[]⟩
noncomputable def o101_0 (P : Params) : Obj := ⟨(.type "tuple"), none, (.seq #[] 0), #[]⟩
noncomputable def o102_0 (P : Params) : Obj := ⟨.none, none, (.fields #[]), #[]⟩
noncomputable def o103_0 (P : Params) : Obj := ⟨(.type "tuple"), none, (.seq #[(.str (S "code") 432)] 0), #[]⟩
noncomputable def o104_0 (P : Params) : Obj := ⟨(.type "tuple"), none, (.seq #[] 0), #[]⟩
noncomputable def o105_0 (P : Params) : Obj := ⟨.none, none, (.func { name := (S "in_table_b1"), qualname := (S "in_table_b1"), params := fnP (stm 10), body := .stmts (fnB (stm 10)), scope := fnS (stm 10), globals := 0, closure := [], defaults := .none, kwdefaults := .none, doc := .none, pyModule := .none, annotations := none, code := .none, closureTuple := .none, builtins := 0 }), #[]⟩
noncomputable def o106_0 (P : Params) : Obj := ⟨(.type "code"), none, (.fields #[(.str (S "in_table_b1") 429), (.str (S "in_table_b1") 430), (.str (S "/claim/cut.py") 431), (.int 48 0), (.int 1 0), (.int 0 0), (.int 0 0), (.int 3 0), (.ref 101), (.bool true), (.int 276 0), (.ref 102), .none, (.ref 103), (.ref 104), (.ref 105), (.int 433 0), (.int 48 0), (.str (S "/claim/cut.py") 434)]), #[]⟩
noncomputable def o107_0 (P : Params) : Obj := ⟨(.type "function"), none, (.func { name := (S "in_table_b1"), qualname := (S "in_table_b1"), params := fnP (stm 10), body := .stmts (fnB (stm 10)), scope := fnS (stm 10), globals := 3, closure := [], defaults := .none, kwdefaults := .none, doc := .none, pyModule := (.str (S "cpy313.stringprep") 367), annotations := none, code := (.ref 106), closureTuple := .none, builtins := 0 }), #[]⟩
noncomputable def T9 (P : Params) : BT := (.node (o0_0 P) (.node (o1_0 P) (.node (o3_5 P) (.node (o7_0 P) (.node (o15_0 P) (.node (o31_0 P) (.node (o63_0 P) .nil .nil) (.node (o95_0 P) .nil .nil)) (.node (o47_0 P) (.node (o79_0 P) .nil .nil) .nil)) (.node (o23_0 P) (.node (o39_0 P) (.node (o71_0 P) .nil .nil) (.node (o103_0 P) .nil .nil)) (.node (o55_0 P) (.node (o87_0 P) .nil .nil) .nil))) (.node (o11_1 P) (.node (o19_0 P) (.node (o35_0 P) (.node (o67_0 P) .nil .nil) (.node (o99_0 P) .nil .nil)) (.node (o51_0 P) (.node (o83_0 P) .nil .nil) .nil)) (.node (o27_0 P) (.node (o43_0 P) (.node (o75_0 P) .nil .nil) (.node (o107_0 P) .nil .nil)) (.node (o59_0 P) (.node (o91_0 P) .nil .nil) .nil)))) (.node (o5_0 P) (.node (o9_0 P) (.node (o17_0 P) (.node (o33_0 P) (.node (o65_0 P) .nil .nil) (.node (o97_0 P) .nil .nil)) (.node (o49_0 P) (.node (o81_0 P) .nil .nil) .nil)) (.node (o25_0 P) (.node (o41_0 P) (.node (o73_0 P) .nil .nil) (.node (o105_0 P) .nil .nil)) (.node (o57_0 P) (.node (o89_0 P) .nil .nil) .nil))) (.node (o13_0 P) (.node (o21_0 P) (.node (o37_0 P) (.node (o69_0 P) .nil .nil) (.node (o101_0 P) .nil .nil)) (.node (o53_0 P) (.node (o85_0 P) .nil .nil) .nil)) (.node (o29_4 P) (.node (o45_0 P) (.node (o77_0 P) .nil .nil) .nil) (.node (o61_0 P) (.node (o93_0 P) .nil .nil) .nil))))) (.node (o2_1 P) (.node (o4_0 P) (.node (o8_0 P) (.node (o16_0 P) (.node (o32_0 P) (.node (o64_0 P) .nil .nil) (.node (o96_0 P) .nil .nil)) (.node (o48_1 P) (.node (o80_0 P) .nil .nil) .nil)) (.node (o24_0 P) (.node (o40_0 P) (.node (o72_0 P) .nil .nil) (.node (o104_0 P) .nil .nil)) (.node (o56_0 P) (.node (o88_0 P) .nil .nil) .nil))) (.node (o12_0 P) (.node (o20_0 P) (.node (o36_0 P) (.node (o68_0 P) .nil .nil) (.node (o100_0 P) .nil .nil)) (.node (o52_0 P) (.node (o84_0 P) .nil .nil) .nil)) (.node (o28_0 P) (.node (o44_0 P) (.node (o76_0 P) .nil .nil) .nil) (.node (o60_0 P) (.node (o92_0 P) .nil .nil) .nil)))) (.node (o6_0 P) (.node (o10_0 P) (.node (o18_0 P) (.node (o34_0 P) (.node (o66_0 P) .nil .nil) (.node (o98_0 P) .nil .nil)) (.node (o50_0 P) (.node (o82_0 P) .nil .nil) .nil)) (.node (o26_0 P) (.node (o42_0 P) (.node (o74_0 P) .nil .nil) (.node (o106_0 P) .nil .nil)) (.node (o58_0 P) (.node (o90_0 P) .nil .nil) .nil))) (.node (o14_0 P) (.node (o22_0 P) (.node (o38_0 P) (.node (o70_0 P) .nil .nil) (.node (o102_0 P) .nil .nil)) (.node (o54_0 P) (.node (o86_0 P) .nil .nil) .nil)) (.node (o30_0 P) (.node (o46_0 P) (.node (o78_0 P) .nil .nil) .nil) (.node (o62_0 P) (.node (o94_0 P) .nil .nil) .nil))))))
noncomputable abbrev S9 (P : Params) (os : OsState) : SharedT := ⟨T9 P, 108, {}, #[], {}, 436, os⟩
noncomputable def o3_6 (P : Params) : Obj := ⟨(.type "dict"), none, (.dict #[⟨PyData.keyHash P (S "__name__"), (.str (S "__name__") 165), (.str (S "cpy313.stringprep") 367)⟩, ⟨PyData.keyHash P (S "__doc__"), (.str (S "__doc__") 166), .none⟩, ⟨PyData.keyHash P (S "__package__"), (.str (S "__package__") 167), .none⟩, ⟨PyData.keyHash P (S "__loader__"), (.str (S "__loader__") 168), (.builtin "__main__.__loader__#opaque")⟩, ⟨PyData.keyHash P (S "__spec__"), (.str (S "__spec__") 169), .none⟩, ⟨PyData.keyHash P (S "__annotations__"), (.str (S "__annotations__") 170), (.ref 6)⟩, ⟨PyData.keyHash P (S "__builtins__"), (.str (S "__builtins__") 171), (.ref 4)⟩, ⟨PyData.keyHash P (S "__file__"), (.str (S "__file__") 173), (.str (S "/claim/cut.py") 172)⟩, ⟨PyData.keyHash P (S "__cached__"), (.str (S "__cached__") 174), .none⟩, ⟨PyData.keyHash P (S "_sre"), (.str (S "_sre") 275), (.ref 12)⟩, ⟨PyData.keyHash P (S "_wall"), (.str (S "_wall") 288), (.ref 38)⟩, ⟨PyData.keyHash P (S "Error"), (.str (S "Error") 310), (.ref 48)⟩, ⟨PyData.keyHash P (S "error_reply"), (.str (S "error_reply") 326), (.ref 61)⟩, ⟨PyData.keyHash P (S "error_proto"), (.str (S "error_proto") 342), (.ref 73)⟩, ⟨PyData.keyHash P (S "parse229"), (.str (S "parse229") 355), (.ref 82)⟩, ⟨PyData.keyHash P (S "parse257"), (.str (S "parse257") 366), (.ref 89)⟩, ⟨PyData.keyHash P (S "b1_set"), (.str (S "b1_set") 428), (.ref 97)⟩, ⟨PyData.keyHash P (S "in_table_b1"), (.str (S "in_table_b1") 435), (.ref 107)⟩, ⟨PyData.keyHash P (S "b3_exceptions"), (.str (S "b3_exceptions") 2386), (.ref 108)⟩] 19), #[]⟩
noncomputable def o108_0 (P : Params) : Obj := ⟨(.type "dict"), none, (.dict (tabE 0 650 436) 650), #[]⟩
noncomputable def o109_0 (P : Params) : Obj := ⟨(.type "dict"), none, (.dict (tabE 17 17 487) 17), #[]⟩
noncomputable def o110_0 (P : Params) : Obj := ⟨(.type "dict"), none, (.dict (tabE 34 17 538) 17), #[]⟩
noncomputable def o111_0 (P : Params) : Obj := ⟨(.type "dict"), none, (.dict (tabE 51 17 589) 17), #[]⟩
noncomputable def o112_0 (P : Params) : Obj := ⟨(.type "dict"), none, (.dict (tabE 68 17 640) 17), #[]⟩
noncomputable def o113_0 (P : Params) : Obj := ⟨(.type "dict"), none, (.dict (tabE 85 17 691) 17), #[]⟩
noncomputable def o114_0 (P : Params) : Obj := ⟨(.type "dict"), none, (.dict (tabE 102 17 742) 17), #[]⟩
noncomputable def o115_0 (P : Params) : Obj := ⟨(.type "dict"), none, (.dict (tabE 119 17 793) 17), #[]⟩
noncomputable def o116_0 (P : Params) : Obj := ⟨(.type "dict"), none, (.dict (tabE 136 17 844) 17), #[]⟩
noncomputable def o117_0 (P : Params) : Obj := ⟨(.type "dict"), none, (.dict (tabE 153 17 895) 17), #[]⟩
noncomputable def o118_0 (P : Params) : Obj := ⟨(.type "dict"), none, (.dict (tabE 170 17 946) 17), #[]⟩
noncomputable def o119_0 (P : Params) : Obj := ⟨(.type "dict"), none, (.dict (tabE 187 17 997) 17), #[]⟩
noncomputable def o120_0 (P : Params) : Obj := ⟨(.type "dict"), none, (.dict (tabE 204 17 1048) 17), #[]⟩
noncomputable def o121_0 (P : Params) : Obj := ⟨(.type "dict"), none, (.dict (tabE 221 17 1099) 17), #[]⟩
noncomputable def o122_0 (P : Params) : Obj := ⟨(.type "dict"), none, (.dict (tabE 238 17 1150) 17), #[]⟩
noncomputable def o123_0 (P : Params) : Obj := ⟨(.type "dict"), none, (.dict (tabE 255 17 1201) 17), #[]⟩
noncomputable def o124_0 (P : Params) : Obj := ⟨(.type "dict"), none, (.dict (tabE 272 17 1252) 17), #[]⟩
noncomputable def o125_0 (P : Params) : Obj := ⟨(.type "dict"), none, (.dict (tabE 289 17 1303) 17), #[]⟩
noncomputable def o126_0 (P : Params) : Obj := ⟨(.type "dict"), none, (.dict (tabE 306 17 1354) 17), #[]⟩
noncomputable def o127_0 (P : Params) : Obj := ⟨(.type "dict"), none, (.dict (tabE 323 17 1405) 17), #[]⟩
noncomputable def o128_0 (P : Params) : Obj := ⟨(.type "dict"), none, (.dict (tabE 340 17 1456) 17), #[]⟩
noncomputable def o129_0 (P : Params) : Obj := ⟨(.type "dict"), none, (.dict (tabE 357 17 1507) 17), #[]⟩
noncomputable def o130_0 (P : Params) : Obj := ⟨(.type "dict"), none, (.dict (tabE 374 17 1558) 17), #[]⟩
noncomputable def o131_0 (P : Params) : Obj := ⟨(.type "dict"), none, (.dict (tabE 391 17 1609) 17), #[]⟩
noncomputable def o132_0 (P : Params) : Obj := ⟨(.type "dict"), none, (.dict (tabE 408 17 1660) 17), #[]⟩
noncomputable def o133_0 (P : Params) : Obj := ⟨(.type "dict"), none, (.dict (tabE 425 17 1711) 17), #[]⟩
noncomputable def o134_0 (P : Params) : Obj := ⟨(.type "dict"), none, (.dict (tabE 442 17 1762) 17), #[]⟩
noncomputable def o135_0 (P : Params) : Obj := ⟨(.type "dict"), none, (.dict (tabE 459 17 1813) 17), #[]⟩
noncomputable def o136_0 (P : Params) : Obj := ⟨(.type "dict"), none, (.dict (tabE 476 17 1864) 17), #[]⟩
noncomputable def o137_0 (P : Params) : Obj := ⟨(.type "dict"), none, (.dict (tabE 493 17 1915) 17), #[]⟩
noncomputable def o138_0 (P : Params) : Obj := ⟨(.type "dict"), none, (.dict (tabE 510 17 1966) 17), #[]⟩
noncomputable def o139_0 (P : Params) : Obj := ⟨(.type "dict"), none, (.dict (tabE 527 17 2017) 17), #[]⟩
noncomputable def o140_0 (P : Params) : Obj := ⟨(.type "dict"), none, (.dict (tabE 544 17 2068) 17), #[]⟩
noncomputable def o141_0 (P : Params) : Obj := ⟨(.type "dict"), none, (.dict (tabE 561 17 2119) 17), #[]⟩
noncomputable def o142_0 (P : Params) : Obj := ⟨(.type "dict"), none, (.dict (tabE 578 17 2170) 17), #[]⟩
noncomputable def o143_0 (P : Params) : Obj := ⟨(.type "dict"), none, (.dict (tabE 595 17 2221) 17), #[]⟩
noncomputable def o144_0 (P : Params) : Obj := ⟨(.type "dict"), none, (.dict (tabE 612 17 2272) 17), #[]⟩
noncomputable def o145_0 (P : Params) : Obj := ⟨(.type "dict"), none, (.dict (tabE 629 17 2323) 17), #[]⟩
noncomputable def o146_0 (P : Params) : Obj := ⟨(.type "dict"), none, (.dict (tabE 646 4 2374) 4), #[]⟩
noncomputable def T10 (P : Params) : BT := (.node (o0_0 P) (.node (o1_0 P) (.node (o3_6 P) (.node (o7_0 P) (.node (o15_0 P) (.node (o31_0 P) (.node (o63_0 P) (.node (o127_0 P) .nil .nil) .nil) (.node (o95_0 P) .nil .nil)) (.node (o47_0 P) (.node (o79_0 P) (.node (o143_0 P) .nil .nil) .nil) (.node (o111_0 P) .nil .nil))) (.node (o23_0 P) (.node (o39_0 P) (.node (o71_0 P) (.node (o135_0 P) .nil .nil) .nil) (.node (o103_0 P) .nil .nil)) (.node (o55_0 P) (.node (o87_0 P) .nil .nil) (.node (o119_0 P) .nil .nil)))) (.node (o11_1 P) (.node (o19_0 P) (.node (o35_0 P) (.node (o67_0 P) (.node (o131_0 P) .nil .nil) .nil) (.node (o99_0 P) .nil .nil)) (.node (o51_0 P) (.node (o83_0 P) .nil .nil) (.node (o115_0 P) .nil .nil))) (.node (o27_0 P) (.node (o43_0 P) (.node (o75_0 P) (.node (o139_0 P) .nil .nil) .nil) (.node (o107_0 P) .nil .nil)) (.node (o59_0 P) (.node (o91_0 P) .nil .nil) (.node (o123_0 P) .nil .nil))))) (.node (o5_0 P) (.node (o9_0 P) (.node (o17_0 P) (.node (o33_0 P) (.node (o65_0 P) (.node (o129_0 P) .nil .nil) .nil) (.node (o97_0 P) .nil .nil)) (.node (o49_0 P) (.node (o81_0 P) (.node (o145_0 P) .nil .nil) .nil) (.node (o113_0 P) .nil .nil))) (.node (o25_0 P) (.node (o41_0 P) (.node (o73_0 P) (.node (o137_0 P) .nil .nil) .nil) (.node (o105_0 P) .nil .nil)) (.node (o57_0 P) (.node (o89_0 P) .nil .nil) (.node (o121_0 P) .nil .nil)))) (.node (o13_0 P) (.node (o21_0 P) (.node (o37_0 P) (.node (o69_0 P) (.node (o133_0 P) .nil .nil) .nil) (.node (o101_0 P) .nil .nil)) (.node (o53_0 P) (.node (o85_0 P) .nil .nil) (.node (o117_0 P) .nil .nil))) (.node (o29_4 P) (.node (o45_0 P) (.node (o77_0 P) (.node (o141_0 P) .nil .nil) .nil) (.node (o109_0 P) .nil .nil)) (.node (o61_0 P) (.node (o93_0 P) .nil .nil) (.node (o125_0 P) .nil .nil)))))) (.node (o2_1 P) (.node (o4_0 P) (.node (o8_0 P) (.node (o16_0 P) (.node (o32_0 P) (.node (o64_0 P) (.node (o128_0 P) .nil .nil) .nil) (.node (o96_0 P) .nil .nil)) (.node (o48_1 P) (.node (o80_0 P) (.node (o144_0 P) .nil .nil) .nil) (.node (o112_0 P) .nil .nil))) (.node (o24_0 P) (.node (o40_0 P) (.node (o72_0 P) (.node (o136_0 P) .nil .nil) .nil) (.node (o104_0 P) .nil .nil)) (.node (o56_0 P) (.node (o88_0 P) .nil .nil) (.node (o120_0 P) .nil .nil)))) (.node (o12_0 P) (.node (o20_0 P) (.node (o36_0 P) (.node (o68_0 P) (.node (o132_0 P) .nil .nil) .nil) (.node (o100_0 P) .nil .nil)) (.node (o52_0 P) (.node (o84_0 P) .nil .nil) (.node (o116_0 P) .nil .nil))) (.node (o28_0 P) (.node (o44_0 P) (.node (o76_0 P) (.node (o140_0 P) .nil .nil) .nil) (.node (o108_0 P) .nil .nil)) (.node (o60_0 P) (.node (o92_0 P) .nil .nil) (.node (o124_0 P) .nil .nil))))) (.node (o6_0 P) (.node (o10_0 P) (.node (o18_0 P) (.node (o34_0 P) (.node (o66_0 P) (.node (o130_0 P) .nil .nil) .nil) (.node (o98_0 P) .nil .nil)) (.node (o50_0 P) (.node (o82_0 P) (.node (o146_0 P) .nil .nil) .nil) (.node (o114_0 P) .nil .nil))) (.node (o26_0 P) (.node (o42_0 P) (.node (o74_0 P) (.node (o138_0 P) .nil .nil) .nil) (.node (o106_0 P) .nil .nil)) (.node (o58_0 P) (.node (o90_0 P) .nil .nil) (.node (o122_0 P) .nil .nil)))) (.node (o14_0 P) (.node (o22_0 P) (.node (o38_0 P) (.node (o70_0 P) (.node (o134_0 P) .nil .nil) .nil) (.node (o102_0 P) .nil .nil)) (.node (o54_0 P) (.node (o86_0 P) .nil .nil) (.node (o118_0 P) .nil .nil))) (.node (o30_0 P) (.node (o46_0 P) (.node (o78_0 P) (.node (o142_0 P) .nil .nil) .nil) (.node (o110_0 P) .nil .nil)) (.node (o62_0 P) (.node (o94_0 P) .nil .nil) (.node (o126_0 P) .nil .nil)))))))
noncomputable abbrev S10 (P : Params) (os : OsState) : SharedT := ⟨T10 P, 147, {}, #[], {}, 2387, os⟩
noncomputable def o3_7 (P : Params) : Obj := ⟨(.type "dict"), none, (.dict #[⟨PyData.keyHash P (S "__name__"), (.str (S "__name__") 165), (.str (S "cpy313.wsgiref.headers") 2395)⟩, ⟨PyData.keyHash P (S "__doc__"), (.str (S "__doc__") 166), .none⟩, ⟨PyData.keyHash P (S "__package__"), (.str (S "__package__") 167), .none⟩, ⟨PyData.keyHash P (S "__loader__"), (.str (S "__loader__") 168), (.builtin "__main__.__loader__#opaque")⟩, ⟨PyData.keyHash P (S "__spec__"), (.str (S "__spec__") 169), .none⟩, ⟨PyData.keyHash P (S "__annotations__"), (.str (S "__annotations__") 170), (.ref 6)⟩, ⟨PyData.keyHash P (S "__builtins__"), (.str (S "__builtins__") 171), (.ref 4)⟩, ⟨PyData.keyHash P (S "__file__"), (.str (S "__file__") 173), (.str (S "/claim/cut.py") 172)⟩, ⟨PyData.keyHash P (S "__cached__"), (.str (S "__cached__") 174), .none⟩, ⟨PyData.keyHash P (S "_sre"), (.str (S "_sre") 275), (.ref 12)⟩, ⟨PyData.keyHash P (S "_wall"), (.str (S "_wall") 288), (.ref 38)⟩, ⟨PyData.keyHash P (S "Error"), (.str (S "Error") 310), (.ref 48)⟩, ⟨PyData.keyHash P (S "error_reply"), (.str (S "error_reply") 326), (.ref 61)⟩, ⟨PyData.keyHash P (S "error_proto"), (.str (S "error_proto") 342), (.ref 73)⟩, ⟨PyData.keyHash P (S "parse229"), (.str (S "parse229") 355), (.ref 82)⟩, ⟨PyData.keyHash P (S "parse257"), (.str (S "parse257") 366), (.ref 89)⟩, ⟨PyData.keyHash P (S "b1_set"), (.str (S "b1_set") 428), (.ref 97)⟩, ⟨PyData.keyHash P (S "in_table_b1"), (.str (S "in_table_b1") 435), (.ref 107)⟩, ⟨PyData.keyHash P (S "b3_exceptions"), (.str (S "b3_exceptions") 2386), (.ref 108)⟩, ⟨PyData.keyHash P (S "map_table_b3"), (.str (S "map_table_b3") 2394), (.ref 153)⟩, ⟨PyData.keyHash P (S "_name_disallowed_re"), (.str (S "_name_disallowed_re") 2422), (.ref 158)⟩, ⟨PyData.keyHash P (S "_value_disallowed_re"), (.str (S "_value_disallowed_re") 2456), (.ref 163)⟩] 22), #[]⟩
noncomputable def o29_5 (P : Params) : Obj := ⟨.none, none, (.fields #[(.int 2 0), (.int 0 0), (.ref 37), (.int 6 0), (.int 0 0), (.ref 44), (.int 8 0), (.int 0 0), (.ref 57), (.int 10 0), (.int 0 0), (.ref 69), (.int 12 0), (.int 0 0), (.ref 81), (.int 29 0), (.int 0 0), (.ref 88), (.int 48 0), (.int 0 0), (.ref 106), (.int 51 0), (.int 0 0), (.ref 152)]), #[]⟩
noncomputable def o147_0 (P : Params) : Obj := ⟨(.type "tuple"), none, (.seq #[] 0), #[]⟩
noncomputable def o148_0 (P : Params) : Obj := ⟨.none, none, (.fields #[]), #[]⟩
noncomputable def o149_0 (P : Params) : Obj := ⟨(.type "tuple"), none, (.seq #[(.str (S "code") 2390), (.str (S "r") 2391)] 0), #[]⟩
noncomputable def o150_0 (P : Params) : Obj := ⟨(.type "tuple"), none, (.seq #[] 0), #[]⟩
noncomputable def o151_0 (P : Params) : Obj := ⟨.none, none, (.func { name := (S "map_table_b3"), qualname := (S "map_table_b3"), params := fnP (stm 12), body := .stmts (fnB (stm 12)), scope := fnS (stm 12), globals := 0, closure := [], defaults := .none, kwdefaults := .none, doc := .none, pyModule := .none, annotations := none, code := .none, closureTuple := .none, builtins := 0 }), #[]⟩
noncomputable def o152_0 (P : Params) : Obj := ⟨(.type "code"), none, (.fields #[(.str (S "map_table_b3") 2387), (.str (S "map_table_b3") 2388), (.str (S "/claim/cut.py") 2389), (.int 51 0), (.int 1 0), (.int 0 0), (.int 0 0), (.int 3 0), (.ref 147), (.bool true), (.int 276 0), (.ref 148), .none, (.ref 149), (.ref 150), (.ref 151), (.int 2392 0), (.int 51 0), (.str (S "/claim/cut.py") 2393)]), #[]⟩
noncomputable def o153_0 (P : Params) : Obj := ⟨(.type "function"), none, (.func { name := (S "map_table_b3"), qualname := (S "map_table_b3"), params := fnP (stm 12), body := .stmts (fnB (stm 12)), scope := fnS (stm 12), globals := 3, closure := [], defaults := .none, kwdefaults := .none, doc := .none, pyModule := (.str (S "cpy313.stringprep") 367), annotations := none, code := (.ref 152), closureTuple := .none, builtins := 0 }), #[]⟩
noncomputable def o154_0 (P : Params) : Obj := ⟨(.type "list"), none, (.seq #[(.int 14 2400), (.int 10 2401), (.int 4 2402), (.int 1 2403), (.int 1 2404), (.int 22 2405), (.int 0 2406), (.int 31 2407), (.int 16 2408), (.int 127 2409), (.int 0 2410), (.int 13 2411), (.int 7 2412), (.int 22 2413), (.int 0 2414), (.int 31 2415), (.int 16 2416), (.int 127 2417), (.int 0 2418), (.int 1 2419)] 0), #[]⟩
noncomputable def o155_0 (P : Params) : Obj := ⟨(.type "dict"), none, (.dict #[] 0), #[]⟩
noncomputable def o156_0 (P : Params) : Obj := ⟨(.type "tuple"), none, (.seq #[.none] 0), #[]⟩
noncomputable def o157_0 (P : Params) : Obj := ⟨(.type "tuple"), none, (.seq #[(.int 14 0), (.int 10 0), (.int 4 0), (.int 1 0), (.int 1 0), (.int 22 0), (.int 0 0), (.int 31 0), (.int 16 0), (.int 127 0), (.int 0 0), (.int 13 0), (.int 7 0), (.int 22 0), (.int 0 0), (.int 31 0), (.int 16 0), (.int 127 0), (.int 0 0), (.int 1 0)] 0), #[]⟩
noncomputable def o158_0 (P : Params) : Obj := ⟨(.type "re.Pattern"), none, (.fields #[(.str (⟨#[91, 92, 120, 48, 48, 45, 92, 120, 49, 70, 92, 120, 55, 70, 93]⟩ : PySem.Str) 2398), (.int 32 2421), (.int 0 0), .none, .none, (.ref 157), (.int 0 0)]), #[]⟩
noncomputable def o159_0 (P : Params) : Obj := ⟨(.type "list"), none, (.seq #[(.int 14 2426), (.int 14 2427), (.int 4 2428), (.int 1 2429), (.int 1 2430), (.int 9 2431), (.int 4294966783 2432), (.int 0 2433), (.int 0 2434), (.int 2147483648 2435), (.int 0 2436), (.int 0 2437), (.int 0 2438), (.int 0 2439), (.int 0 2440), (.int 13 2441), (.int 11 2442), (.int 9 2443), (.int 4294966783 2444), (.int 0 2445), (.int 0 2446), (.int 2147483648 2447), (.int 0 2448), (.int 0 2449), (.int 0 2450), (.int 0 2451), (.int 0 2452), (.int 1 2453)] 0), #[]⟩
noncomputable def o160_0 (P : Params) : Obj := ⟨(.type "dict"), none, (.dict #[] 0), #[]⟩
noncomputable def o161_0 (P : Params) : Obj := ⟨(.type "tuple"), none, (.seq #[.none] 0), #[]⟩
noncomputable def o162_0 (P : Params) : Obj := ⟨(.type "tuple"), none, (.seq #[(.int 14 0), (.int 14 0), (.int 4 0), (.int 1 0), (.int 1 0), (.int 9 0), (.int 4294966783 0), (.int 0 0), (.int 0 0), (.int 2147483648 0), (.int 0 0), (.int 0 0), (.int 0 0), (.int 0 0), (.int 0 0), (.int 13 0), (.int 11 0), (.int 9 0), (.int 4294966783 0), (.int 0 0), (.int 0 0), (.int 2147483648 0), (.int 0 0), (.int 0 0), (.int 0 0), (.int 0 0), (.int 0 0), (.int 1 0)] 0), #[]⟩
noncomputable def o163_0 (P : Params) : Obj := ⟨(.type "re.Pattern"), none, (.fields #[(.str (⟨#[91, 92, 120, 48, 48, 45, 92, 120, 48, 56, 92, 120, 48, 65, 45, 92, 120, 49, 70, 92, 120, 55, 70, 93]⟩ : PySem.Str) 2424), (.int 32 2455), (.int 0 0), .none, .none, (.ref 162), (.int 0 0)]), #[]⟩
noncomputable def T14 (P : Params) : BT := (.node (o0_0 P) (.node (o1_0 P) (.node (o3_7 P) (.node (o7_0 P) (.node (o15_0 P) (.node (o31_0 P) (.node (o63_0 P) (.node (o127_0 P) .nil .nil) .nil) (.node (o95_0 P) (.node (o159_0 P) .nil .nil) .nil)) (.node (o47_0 P) (.node (o79_0 P) (.node (o143_0 P) .nil .nil) .nil) (.node (o111_0 P) .nil .nil))) (.node (o23_0 P) (.node (o39_0 P) (.node (o71_0 P) (.node (o135_0 P) .nil .nil) .nil) (.node (o103_0 P) .nil .nil)) (.node (o55_0 P) (.node (o87_0 P) (.node (o151_0 P) .nil .nil) .nil) (.node (o119_0 P) .nil .nil)))) (.node (o11_1 P) (.node (o19_0 P) (.node (o35_0 P) (.node (o67_0 P) (.node (o131_0 P) .nil .nil) .nil) (.node (o99_0 P) (.node (o163_0 P) .nil .nil) .nil)) (.node (o51_0 P) (.node (o83_0 P) (.node (o147_0 P) .nil .nil) .nil) (.node (o115_0 P) .nil .nil))) (.node (o27_0 P) (.node (o43_0 P) (.node (o75_0 P) (.node (o139_0 P) .nil .nil) .nil) (.node (o107_0 P) .nil .nil)) (.node (o59_0 P) (.node (o91_0 P) (.node (o155_0 P) .nil .nil) .nil) (.node (o123_0 P) .nil .nil))))) (.node (o5_0 P) (.node (o9_0 P) (.node (o17_0 P) (.node (o33_0 P) (.node (o65_0 P) (.node (o129_0 P) .nil .nil) .nil) (.node (o97_0 P) (.node (o161_0 P) .nil .nil) .nil)) (.node (o49_0 P) (.node (o81_0 P) (.node (o145_0 P) .nil .nil) .nil) (.node (o113_0 P) .nil .nil))) (.node (o25_0 P) (.node (o41_0 P) (.node (o73_0 P) (.node (o137_0 P) .nil .nil) .nil) (.node (o105_0 P) .nil .nil)) (.node (o57_0 P) (.node (o89_0 P) (.node (o153_0 P) .nil .nil) .nil) (.node (o121_0 P) .nil .nil)))) (.node (o13_0 P) (.node (o21_0 P) (.node (o37_0 P) (.node (o69_0 P) (.node (o133_0 P) .nil .nil) .nil) (.node (o101_0 P) .nil .nil)) (.node (o53_0 P) (.node (o85_0 P) (.node (o149_0 P) .nil .nil) .nil) (.node (o117_0 P) .nil .nil))) (.node (o29_5 P) (.node (o45_0 P) (.node (o77_0 P) (.node (o141_0 P) .nil .nil) .nil) (.node (o109_0 P) .nil .nil)) (.node (o61_0 P) (.node (o93_0 P) (.node (o157_0 P) .nil .nil) .nil) (.node (o125_0 P) .nil .nil)))))) (.node (o2_1 P) (.node (o4_0 P) (.node (o8_0 P) (.node (o16_0 P) (.node (o32_0 P) (.node (o64_0 P) (.node (o128_0 P) .nil .nil) .nil) (.node (o96_0 P) (.node (o160_0 P) .nil .nil) .nil)) (.node (o48_1 P) (.node (o80_0 P) (.node (o144_0 P) .nil .nil) .nil) (.node (o112_0 P) .nil .nil))) (.node (o24_0 P) (.node (o40_0 P) (.node (o72_0 P) (.node (o136_0 P) .nil .nil) .nil) (.node (o104_0 P) .nil .nil)) (.node (o56_0 P) (.node (o88_0 P) (.node (o152_0 P) .nil .nil) .nil) (.node (o120_0 P) .nil .nil)))) (.node (o12_0 P) (.node (o20_0 P) (.node (o36_0 P) (.node (o68_0 P) (.node (o132_0 P) .nil .nil) .nil) (.node (o100_0 P) .nil .nil)) (.node (o52_0 P) (.node (o84_0 P) (.node (o148_0 P) .nil .nil) .nil) (.node (o116_0 P) .nil .nil))) (.node (o28_0 P) (.node (o44_0 P) (.node (o76_0 P) (.node (o140_0 P) .nil .nil) .nil) (.node (o108_0 P) .nil .nil)) (.node (o60_0 P) (.node (o92_0 P) (.node (o156_0 P) .nil .nil) .nil) (.node (o124_0 P) .nil .nil))))) (.node (o6_0 P) (.node (o10_0 P) (.node (o18_0 P) (.node (o34_0 P) (.node (o66_0 P) (.node (o130_0 P) .nil .nil) .nil) (.node (o98_0 P) (.node (o162_0 P) .nil .nil) .nil)) (.node (o50_0 P) (.node (o82_0 P) (.node (o146_0 P) .nil .nil) .nil) (.node (o114_0 P) .nil .nil))) (.node (o26_0 P) (.node (o42_0 P) (.node (o74_0 P) (.node (o138_0 P) .nil .nil) .nil) (.node (o106_0 P) .nil .nil)) (.node (o58_0 P) (.node (o90_0 P) (.node (o154_0 P) .nil .nil) .nil) (.node (o122_0 P) .nil .nil)))) (.node (o14_0 P) (.node (o22_0 P) (.node (o38_0 P) (.node (o70_0 P) (.node (o134_0 P) .nil .nil) .nil) (.node (o102_0 P) .nil .nil)) (.node (o54_0 P) (.node (o86_0 P) (.node (o150_0 P) .nil .nil) .nil) (.node (o118_0 P) .nil .nil))) (.node (o30_0 P) (.node (o46_0 P) (.node (o78_0 P) (.node (o142_0 P) .nil .nil) .nil) (.node (o110_0 P) .nil .nil)) (.node (o62_0 P) (.node (o94_0 P) (.node (o158_0 P) .nil .nil) .nil) (.node (o126_0 P) .nil .nil)))))))
noncomputable abbrev S14 (P : Params) (os : OsState) : SharedT := ⟨T14 P, 164, {}, #[], {}, 2457, os⟩
noncomputable def o3_8 (P : Params) : Obj := ⟨(.type "dict"), none, (.dict #[⟨PyData.keyHash P (S "__name__"), (.str (S "__name__") 165), (.str (S "cpy313.wsgiref.headers") 2395)⟩, ⟨PyData.keyHash P (S "__doc__"), (.str (S "__doc__") 166), .none⟩, ⟨PyData.keyHash P (S "__package__"), (.str (S "__package__") 167), .none⟩, ⟨PyData.keyHash P (S "__loader__"), (.str (S "__loader__") 168), (.builtin "__main__.__loader__#opaque")⟩, ⟨PyData.keyHash P (S "__spec__"), (.str (S "__spec__") 169), .none⟩, ⟨PyData.keyHash P (S "__annotations__"), (.str (S "__annotations__") 170), (.ref 6)⟩, ⟨PyData.keyHash P (S "__builtins__"), (.str (S "__builtins__") 171), (.ref 4)⟩, ⟨PyData.keyHash P (S "__file__"), (.str (S "__file__") 173), (.str (S "/claim/cut.py") 172)⟩, ⟨PyData.keyHash P (S "__cached__"), (.str (S "__cached__") 174), .none⟩, ⟨PyData.keyHash P (S "_sre"), (.str (S "_sre") 275), (.ref 12)⟩, ⟨PyData.keyHash P (S "_wall"), (.str (S "_wall") 288), (.ref 38)⟩, ⟨PyData.keyHash P (S "Error"), (.str (S "Error") 310), (.ref 48)⟩, ⟨PyData.keyHash P (S "error_reply"), (.str (S "error_reply") 326), (.ref 61)⟩, ⟨PyData.keyHash P (S "error_proto"), (.str (S "error_proto") 342), (.ref 73)⟩, ⟨PyData.keyHash P (S "parse229"), (.str (S "parse229") 355), (.ref 82)⟩, ⟨PyData.keyHash P (S "parse257"), (.str (S "parse257") 366), (.ref 89)⟩, ⟨PyData.keyHash P (S "b1_set"), (.str (S "b1_set") 428), (.ref 97)⟩, ⟨PyData.keyHash P (S "in_table_b1"), (.str (S "in_table_b1") 435), (.ref 107)⟩, ⟨PyData.keyHash P (S "b3_exceptions"), (.str (S "b3_exceptions") 2386), (.ref 108)⟩, ⟨PyData.keyHash P (S "map_table_b3"), (.str (S "map_table_b3") 2394), (.ref 153)⟩, ⟨PyData.keyHash P (S "_name_disallowed_re"), (.str (S "_name_disallowed_re") 2422), (.ref 158)⟩, ⟨PyData.keyHash P (S "_value_disallowed_re"), (.str (S "_value_disallowed_re") 2456), (.ref 163)⟩, ⟨PyData.keyHash P (S "Headers"), (.str (S "Headers") 2612), (.ref 286)⟩] 23), #[]⟩
noncomputable def o29_6 (P : Params) : Obj := ⟨.none, none, (.fields #[(.int 2 0), (.int 0 0), (.ref 37), (.int 6 0), (.int 0 0), (.ref 44), (.int 8 0), (.int 0 0), (.ref 57), (.int 10 0), (.int 0 0), (.ref 69), (.int 12 0), (.int 0 0), (.ref 81), (.int 29 0), (.int 0 0), (.ref 88), (.int 48 0), (.int 0 0), (.ref 106), (.int 51 0), (.int 0 0), (.ref 152), (.int 59 0), (.int 0 0), (.ref 169)]), #[]⟩
noncomputable def o164_0 (P : Params) : Obj := ⟨(.type "tuple"), none, (.seq #[] 0), #[]⟩
noncomputable def o165_0 (P : Params) : Obj := ⟨(.type "builtin_function_or_method"), none, (.fields #[(.builtin "type.__prepare__"), (.type "type")]), #[]⟩
noncomputable def o166_0 (P : Params) : Obj := ⟨(.type "dict"), none, (.dict #[⟨PyData.keyHash P (S "__module__"), (.str (S "__module__") 2464), (.str (S "cpy313.wsgiref.headers") 2395)⟩, ⟨PyData.keyHash P (S "__qualname__"), (.str (S "__qualname__") 2466), (.str (S "Headers") 2465)⟩, ⟨PyData.keyHash P (S "__firstlineno__"), (.str (S "__firstlineno__") 2468), (.int 59 2467)⟩, ⟨PyData.keyHash P (S "__init__"), (.str (S "__init__") 2478), (.ref 178)⟩, ⟨PyData.keyHash P (S "_convert_string_type"), (.str (S "_convert_string_type") 2488), (.ref 185)⟩, ⟨PyData.keyHash P (S "__len__"), (.str (S "__len__") 2495), (.ref 192)⟩, ⟨PyData.keyHash P (S "__setitem__"), (.str (S "__setitem__") 2504), (.ref 199)⟩, ⟨PyData.keyHash P (S "__delitem__"), (.str (S "__delitem__") 2510), (.ref 204)⟩, ⟨PyData.keyHash P (S "__getitem__"), (.str (S "__getitem__") 2518), (.ref 211)⟩, ⟨PyData.keyHash P (S "__contains__"), (.str (S "__contains__") 2526), (.ref 218)⟩, ⟨PyData.keyHash P (S "get_all"), (.str (S "get_all") 2534), (.ref 225)⟩, ⟨PyData.keyHash P (S "get"), (.str (S "get") 2545), (.ref 233)⟩, ⟨PyData.keyHash P (S "keys"), (.str (S "keys") 2551), (.ref 238)⟩, ⟨PyData.keyHash P (S "values"), (.str (S "values") 2557), (.ref 243)⟩, ⟨PyData.keyHash P (S "items"), (.str (S "items") 2564), (.ref 250)⟩, ⟨PyData.keyHash P (S "__repr__"), (.str (S "__repr__") 2571), (.ref 257)⟩, ⟨PyData.keyHash P (S "__str__"), (.str (S "__str__") 2577), (.ref 262)⟩, ⟨PyData.keyHash P (S "__bytes__"), (.str (S "__bytes__") 2584), (.ref 269)⟩, ⟨PyData.keyHash P (S "setdefault"), (.str (S "setdefault") 2593), (.ref 276)⟩, ⟨PyData.keyHash P (S "add_header"), (.str (S "add_header") 2603), (.ref 283)⟩, ⟨PyData.keyHash P (S "__static_attributes__"), (.str (S "__static_attributes__") 2605), (.ref 284)⟩] 21), #[]⟩
noncomputable def o167_0 (P : Params) : Obj := ⟨(.type "tuple"), none, (.seq #[] 0), #[]⟩
noncomputable def o168_0 (P : Params) : Obj := ⟨.none, none, (.fields #[(.int 61 0), (.int 4 0), (.ref 177), (.int 71 0), (.int 4 0), (.ref 184), (.int 79 0), (.int 4 0), (.ref 191), (.int 82 0), (.int 4 0), (.ref 198), (.int 86 0), (.int 4 0), (.ref 203), (.int 90 0), (.int 4 0), (.ref 210), (.int 93 0), (.int 4 0), (.ref 217), (.int 96 0), (.int 4 0), (.ref 224), (.int 99 0), (.int 4 0), (.ref 232), (.int 106 0), (.int 4 0), (.ref 237), (.int 109 0), (.int 4 0), (.ref 242), (.int 112 0), (.int 4 0), (.ref 249), (.int 115 0), (.int 4 0), (.ref 256), (.int 118 0), (.int 4 0), (.ref 261), (.int 121 0), (.int 4 0), (.ref 268), (.int 124 0), (.int 4 0), (.ref 275), (.int 127 0), (.int 4 0), (.ref 282)]), #[]⟩
noncomputable def o169_0 (P : Params) : Obj := ⟨(.type "code"), none, (.fields #[(.str (S "Headers") 2459), (.str (S "Headers") 2460), (.str (S "/claim/cut.py") 2461), (.int 59 0), (.int 0 0), (.int 0 0), (.int 0 0), (.int 0 0), (.ref 167), (.bool false), (.int 276 0), (.ref 168), .none, .none, .none, .none, (.int 2462 0), (.int 59 0), (.str (S "/claim/cut.py") 2463)]), #[]⟩
noncomputable def o170_0 (P : Params) : Obj := ⟨(.type "frame"), none, .plain, #[(some (.ref 169)), (some (.ref 3)), (some (.ref 166)), none, (some (.str (S "cpy313.wsgiref.headers") 2395)), none, (some (.ref 0))]⟩
noncomputable def o171_0 (P : Params) : Obj := ⟨(.type "tuple"), none, (.seq #[.none] 0), #[]⟩
noncomputable def o172_0 (P : Params) : Obj := ⟨(.type "tuple"), none, (.seq #[] 0), #[]⟩
noncomputable def o173_0 (P : Params) : Obj := ⟨.none, none, (.fields #[]), #[]⟩
noncomputable def o174_0 (P : Params) : Obj := ⟨(.type "tuple"), none, (.seq #[(.str (S "self") 2472), (.str (S "headers") 2473), (.str (S "k") 2474), (.str (S "v") 2475)] 0), #[]⟩
noncomputable def o175_0 (P : Params) : Obj := ⟨(.type "tuple"), none, (.seq #[] 0), #[]⟩
noncomputable def o176_0 (P : Params) : Obj := ⟨.none, none, (.func { name := (S "__init__"), qualname := (S "Headers.__init__"), params := fnP (mth 16 0), body := .stmts (fnB (mth 16 0)), scope := fnS (mth 16 0), globals := 0, closure := [], defaults := .none, kwdefaults := .none, doc := .none, pyModule := .none, annotations := none, code := .none, closureTuple := .none, builtins := 0 }), #[]⟩
noncomputable def o177_0 (P : Params) : Obj := ⟨(.type "code"), none, (.fields #[(.str (S "__init__") 2469), (.str (S "Headers.__init__") 2470), (.str (S "/claim/cut.py") 2471), (.int 61 0), (.int 2 0), (.int 0 0), (.int 0 0), (.int 3 0), (.ref 172), (.bool true), (.int 276 0), (.ref 173), .none, (.ref 174), (.ref 175), (.ref 176), (.int 2476 0), (.int 61 0), (.str (S "/claim/cut.py") 2477)]), #[]⟩
noncomputable def o178_0 (P : Params) : Obj := ⟨(.type "function"), none, (.func { name := (S "__init__"), qualname := (S "Headers.__init__"), params := fnP (mth 16 0), body := .stmts (fnB (mth 16 0)), scope := fnS (mth 16 0), globals := 3, closure := [], defaults := (.ref 171), kwdefaults := .none, doc := .none, pyModule := (.str (S "cpy313.wsgiref.headers") 2395), annotations := none, code := (.ref 177), closureTuple := .none, builtins := 0 }), #[]⟩
noncomputable def o179_0 (P : Params) : Obj := ⟨(.type "tuple"), none, (.seq #[] 0), #[]⟩
noncomputable def o180_0 (P : Params) : Obj := ⟨.none, none, (.fields #[]), #[]⟩
noncomputable def o181_0 (P : Params) : Obj := ⟨(.type "tuple"), none, (.seq #[(.str (S "self") 2482), (.str (S "value") 2483), (.str (S "name") 2484), (.str (S "regex") 2485)] 0), #[]⟩
noncomputable def o182_0 (P : Params) : Obj := ⟨(.type "tuple"), none, (.seq #[] 0), #[]⟩
noncomputable def o183_0 (P : Params) : Obj := ⟨.none, none, (.func { name := (S "_convert_string_type"), qualname := (S "Headers._convert_string_type"), params := fnP (mth 16 1), body := .stmts (fnB (mth 16 1)), scope := fnS (mth 16 1), globals := 0, closure := [], defaults := .none, kwdefaults := .none, doc := .none, pyModule := .none, annotations := none, code := .none, closureTuple := .none, builtins := 0 }), #[]⟩
noncomputable def o184_0 (P : Params) : Obj := ⟨(.type "code"), none, (.fields #[(.str (S "_convert_string_type") 2479), (.str (S "Headers._convert_string_type") 2480), (.str (S "/claim/cut.py") 2481), (.int 71 0), (.int 2 0), (.int 0 0), (.int 1 0), (.int 3 0), (.ref 179), (.bool true), (.int 276 0), (.ref 180), .none, (.ref 181), (.ref 182), (.ref 183), (.int 2486 0), (.int 71 0), (.str (S "/claim/cut.py") 2487)]), #[]⟩
noncomputable def o185_0 (P : Params) : Obj := ⟨(.type "function"), none, (.func { name := (S "_convert_string_type"), qualname := (S "Headers._convert_string_type"), params := fnP (mth 16 1), body := .stmts (fnB (mth 16 1)), scope := fnS (mth 16 1), globals := 3, closure := [], defaults := .none, kwdefaults := .none, doc := .none, pyModule := (.str (S "cpy313.wsgiref.headers") 2395), annotations := none, code := (.ref 184), closureTuple := .none, builtins := 0 }), #[]⟩
noncomputable def o186_0 (P : Params) : Obj := ⟨(.type "tuple"), none, (.seq #[] 0), #[]⟩
noncomputable def o187_0 (P : Params) : Obj := ⟨.none, none, (.fields #[]), #[]⟩
noncomputable def o188_0 (P : Params) : Obj := ⟨(.type "tuple"), none, (.seq #[(.str (S "self") 2492)] 0), #[]⟩
noncomputable def o189_0 (P : Params) : Obj := ⟨(.type "tuple"), none, (.seq #[] 0), #[]⟩
noncomputable def o190_0 (P : Params) : Obj := ⟨.none, none, (.func { name := (S "__len__"), qualname := (S "Headers.__len__"), params := fnP (mth 16 2), body := .stmts (fnB (mth 16 2)), scope := fnS (mth 16 2), globals := 0, closure := [], defaults := .none, kwdefaults := .none, doc := .none, pyModule := .none, annotations := none, code := .none, closureTuple := .none, builtins := 0 }), #[]⟩
noncomputable def o191_0 (P : Params) : Obj := ⟨(.type "code"), none, (.fields #[(.str (S "__len__") 2489), (.str (S "Headers.__len__") 2490), (.str (S "/claim/cut.py") 2491), (.int 79 0), (.int 1 0), (.int 0 0), (.int 0 0), (.int 3 0), (.ref 186), (.bool true), (.int 276 0), (.ref 187), .none, (.ref 188), (.ref 189), (.ref 190), (.int 2493 0), (.int 79 0), (.str (S "/claim/cut.py") 2494)]), #[]⟩
noncomputable def o192_0 (P : Params) : Obj := ⟨(.type "function"), none, (.func { name := (S "__len__"), qualname := (S "Headers.__len__"), params := fnP (mth 16 2), body := .stmts (fnB (mth 16 2)), scope := fnS (mth 16 2), globals := 3, closure := [], defaults := .none, kwdefaults := .none, doc := .none, pyModule := (.str (S "cpy313.wsgiref.headers") 2395), annotations := none, code := (.ref 191), closureTuple := .none, builtins := 0 }), #[]⟩
noncomputable def o193_0 (P : Params) : Obj := ⟨(.type "tuple"), none, (.seq #[] 0), #[]⟩
noncomputable def o194_0 (P : Params) : Obj := ⟨.none, none, (.fields #[]), #[]⟩
noncomputable def o195_0 (P : Params) : Obj := ⟨(.type "tuple"), none, (.seq #[(.str (S "self") 2499), (.str (S "name") 2500), (.str (S "val") 2501)] 0), #[]⟩
noncomputable def o196_0 (P : Params) : Obj := ⟨(.type "tuple"), none, (.seq #[] 0), #[]⟩
noncomputable def o197_0 (P : Params) : Obj := ⟨.none, none, (.func { name := (S "__setitem__"), qualname := (S "Headers.__setitem__"), params := fnP (mth 16 3), body := .stmts (fnB (mth 16 3)), scope := fnS (mth 16 3), globals := 0, closure := [], defaults := .none, kwdefaults := .none, doc := .none, pyModule := .none, annotations := none, code := .none, closureTuple := .none, builtins := 0 }), #[]⟩
noncomputable def o198_0 (P : Params) : Obj := ⟨(.type "code"), none, (.fields #[(.str (S "__setitem__") 2496), (.str (S "Headers.__setitem__") 2497), (.str (S "/claim/cut.py") 2498), (.int 82 0), (.int 3 0), (.int 0 0), (.int 0 0), (.int 3 0), (.ref 193), (.bool true), (.int 276 0), (.ref 194), .none, (.ref 195), (.ref 196), (.ref 197), (.int 2502 0), (.int 82 0), (.str (S "/claim/cut.py") 2503)]), #[]⟩
noncomputable def o199_0 (P : Params) : Obj := ⟨(.type "function"), none, (.func { name := (S "__setitem__"), qualname := (S "Headers.__setitem__"), params := fnP (mth 16 3), body := .stmts (fnB (mth 16 3)), scope := fnS (mth 16 3), globals := 3, closure := [], defaults := .none, kwdefaults := .none, doc := .none, pyModule := (.str (S "cpy313.wsgiref.headers") 2395), annotations := none, code := (.ref 198), closureTuple := .none, builtins := 0 }), #[]⟩
noncomputable def o200_0 (P : Params) : Obj := ⟨(.type "tuple"), none, (.seq #[] 0), #[]⟩
noncomputable def o201_0 (P : Params) : Obj := ⟨.none, none, (.fields #[]), #[]⟩
noncomputable def o202_0 (P : Params) : Obj := ⟨.none, none, (.func { name := (S "__delitem__"), qualname := (S "Headers.__delitem__"), params := fnP (mth 16 4), body := .stmts (fnB (mth 16 4)), scope := fnS (mth 16 4), globals := 0, closure := [], defaults := .none, kwdefaults := .none, doc := .none, pyModule := .none, annotations := none, code := .none, closureTuple := .none, builtins := 0 }), #[]⟩
noncomputable def o203_0 (P : Params) : Obj := ⟨(.type "code"), none, (.fields #[(.str (S "__delitem__") 2505), (.str (S "Headers.__delitem__") 2506), (.str (S "/claim/cut.py") 2507), (.int 86 0), (.int 2 0), (.int 0 0), (.int 0 0), (.int 3 0), (.ref 200), (.bool true), (.int 276 0), (.ref 201), .none, .none, .none, (.ref 202), (.int 2508 0), (.int 86 0), (.str (S "/claim/cut.py") 2509)]), #[]⟩
noncomputable def o204_0 (P : Params) : Obj := ⟨(.type "function"), none, (.func { name := (S "__delitem__"), qualname := (S "Headers.__delitem__"), params := fnP (mth 16 4), body := .stmts (fnB (mth 16 4)), scope := fnS (mth 16 4), globals := 3, closure := [], defaults := .none, kwdefaults := .none, doc := .none, pyModule := (.str (S "cpy313.wsgiref.headers") 2395), annotations := none, code := (.ref 203), closureTuple := .none, builtins := 0 }), #[]⟩
noncomputable def o205_0 (P : Params) : Obj := ⟨(.type "tuple"), none, (.seq #[] 0), #[]⟩
noncomputable def o206_0 (P : Params) : Obj := ⟨.none, none, (.fields #[]), #[]⟩
noncomputable def o207_0 (P : Params) : Obj := ⟨(.type "tuple"), none, (.seq #[(.str (S "self") 2514), (.str (S "name") 2515)] 0), #[]⟩
noncomputable def o208_0 (P : Params) : Obj := ⟨(.type "tuple"), none, (.seq #[] 0), #[]⟩
noncomputable def o209_0 (P : Params) : Obj := ⟨.none, none, (.func { name := (S "__getitem__"), qualname := (S "Headers.__getitem__"), params := fnP (mth 16 5), body := .stmts (fnB (mth 16 5)), scope := fnS (mth 16 5), globals := 0, closure := [], defaults := .none, kwdefaults := .none, doc := .none, pyModule := .none, annotations := none, code := .none, closureTuple := .none, builtins := 0 }), #[]⟩
noncomputable def o210_0 (P : Params) : Obj := ⟨(.type "code"), none, (.fields #[(.str (S "__getitem__") 2511), (.str (S "Headers.__getitem__") 2512), (.str (S "/claim/cut.py") 2513), (.int 90 0), (.int 2 0), (.int 0 0), (.int 0 0), (.int 3 0), (.ref 205), (.bool true), (.int 276 0), (.ref 206), .none, (.ref 207), (.ref 208), (.ref 209), (.int 2516 0), (.int 90 0), (.str (S "/claim/cut.py") 2517)]), #[]⟩
noncomputable def o211_0 (P : Params) : Obj := ⟨(.type "function"), none, (.func { name := (S "__getitem__"), qualname := (S "Headers.__getitem__"), params := fnP (mth 16 5), body := .stmts (fnB (mth 16 5)), scope := fnS (mth 16 5), globals := 3, closure := [], defaults := .none, kwdefaults := .none, doc := .none, pyModule := (.str (S "cpy313.wsgiref.headers") 2395), annotations := none, code := (.ref 210), closureTuple := .none, builtins := 0 }), #[]⟩
noncomputable def o212_0 (P : Params) : Obj := ⟨(.type "tuple"), none, (.seq #[] 0), #[]⟩
noncomputable def o213_0 (P : Params) : Obj := ⟨.none, none, (.fields #[]), #[]⟩
noncomputable def o214_0 (P : Params) : Obj := ⟨(.type "tuple"), none, (.seq #[(.str (S "self") 2522), (.str (S "name") 2523)] 0), #[]⟩
noncomputable def o215_0 (P : Params) : Obj := ⟨(.type "tuple"), none, (.seq #[] 0), #[]⟩
noncomputable def o216_0 (P : Params) : Obj := ⟨.none, none, (.func { name := (S "__contains__"), qualname := (S "Headers.__contains__"), params := fnP (mth 16 6), body := .stmts (fnB (mth 16 6)), scope := fnS (mth 16 6), globals := 0, closure := [], defaults := .none, kwdefaults := .none, doc := .none, pyModule := .none, annotations := none, code := .none, closureTuple := .none, builtins := 0 }), #[]⟩
noncomputable def o217_0 (P : Params) : Obj := ⟨(.type "code"), none, (.fields #[(.str (S "__contains__") 2519), (.str (S "Headers.__contains__") 2520), (.str (S "/claim/cut.py") 2521), (.int 93 0), (.int 2 0), (.int 0 0), (.int 0 0), (.int 3 0), (.ref 212), (.bool true), (.int 276 0), (.ref 213), .none, (.ref 214), (.ref 215), (.ref 216), (.int 2524 0), (.int 93 0), (.str (S "/claim/cut.py") 2525)]), #[]⟩
noncomputable def o218_0 (P : Params) : Obj := ⟨(.type "function"), none, (.func { name := (S "__contains__"), qualname := (S "Headers.__contains__"), params := fnP (mth 16 6), body := .stmts (fnB (mth 16 6)), scope := fnS (mth 16 6), globals := 3, closure := [], defaults := .none, kwdefaults := .none, doc := .none, pyModule := (.str (S "cpy313.wsgiref.headers") 2395), annotations := none, code := (.ref 217), closureTuple := .none, builtins := 0 }), #[]⟩
noncomputable def o219_0 (P : Params) : Obj := ⟨(.type "tuple"), none, (.seq #[] 0), #[]⟩
noncomputable def o220_0 (P : Params) : Obj := ⟨.none, none, (.fields #[]), #[]⟩
noncomputable def o221_0 (P : Params) : Obj := ⟨(.type "tuple"), none, (.seq #[(.str (S "self") 2530), (.str (S "name") 2531)] 0), #[]⟩
noncomputable def o222_0 (P : Params) : Obj := ⟨(.type "tuple"), none, (.seq #[] 0), #[]⟩
noncomputable def o223_0 (P : Params) : Obj := ⟨.none, none, (.func { name := (S "get_all"), qualname := (S "Headers.get_all"), params := fnP (mth 16 7), body := .stmts (fnB (mth 16 7)), scope := fnS (mth 16 7), globals := 0, closure := [], defaults := .none, kwdefaults := .none, doc := .none, pyModule := .none, annotations := none, code := .none, closureTuple := .none, builtins := 0 }), #[]⟩
noncomputable def o224_0 (P : Params) : Obj := ⟨(.type "code"), none, (.fields #[(.str (S "get_all") 2527), (.str (S "Headers.get_all") 2528), (.str (S "/claim/cut.py") 2529), (.int 96 0), (.int 2 0), (.int 0 0), (.int 0 0), (.int 3 0), (.ref 219), (.bool true), (.int 276 0), (.ref 220), .none, (.ref 221), (.ref 222), (.ref 223), (.int 2532 0), (.int 96 0), (.str (S "/claim/cut.py") 2533)]), #[]⟩
noncomputable def o225_0 (P : Params) : Obj := ⟨(.type "function"), none, (.func { name := (S "get_all"), qualname := (S "Headers.get_all"), params := fnP (mth 16 7), body := .stmts (fnB (mth 16 7)), scope := fnS (mth 16 7), globals := 3, closure := [], defaults := .none, kwdefaults := .none, doc := .none, pyModule := (.str (S "cpy313.wsgiref.headers") 2395), annotations := none, code := (.ref 224), closureTuple := .none, builtins := 0 }), #[]⟩
noncomputable def o226_0 (P : Params) : Obj := ⟨(.type "tuple"), none, (.seq #[.none] 0), #[]⟩
noncomputable def o227_0 (P : Params) : Obj := ⟨(.type "tuple"), none, (.seq #[] 0), #[]⟩
noncomputable def o228_0 (P : Params) : Obj := ⟨.none, none, (.fields #[]), #[]⟩
noncomputable def o229_0 (P : Params) : Obj := ⟨(.type "tuple"), none, (.seq #[(.str (S "self") 2538), (.str (S "name") 2539), (.str (S "default") 2540), (.str (S "k") 2541), (.str (S "v") 2542)] 0), #[]⟩
noncomputable def o230_0 (P : Params) : Obj := ⟨(.type "tuple"), none, (.seq #[] 0), #[]⟩
noncomputable def o231_0 (P : Params) : Obj := ⟨.none, none, (.func { name := (S "get"), qualname := (S "Headers.get"), params := fnP (mth 16 8), body := .stmts (fnB (mth 16 8)), scope := fnS (mth 16 8), globals := 0, closure := [], defaults := .none, kwdefaults := .none, doc := .none, pyModule := .none, annotations := none, code := .none, closureTuple := .none, builtins := 0 }), #[]⟩
noncomputable def o232_0 (P : Params) : Obj := ⟨(.type "code"), none, (.fields #[(.str (S "get") 2535), (.str (S "Headers.get") 2536), (.str (S "/claim/cut.py") 2537), (.int 99 0), (.int 3 0), (.int 0 0), (.int 0 0), (.int 3 0), (.ref 227), (.bool true), (.int 276 0), (.ref 228), .none, (.ref 229), (.ref 230), (.ref 231), (.int 2543 0), (.int 99 0), (.str (S "/claim/cut.py") 2544)]), #[]⟩
noncomputable def o233_0 (P : Params) : Obj := ⟨(.type "function"), none, (.func { name := (S "get"), qualname := (S "Headers.get"), params := fnP (mth 16 8), body := .stmts (fnB (mth 16 8)), scope := fnS (mth 16 8), globals := 3, closure := [], defaults := (.ref 226), kwdefaults := .none, doc := .none, pyModule := (.str (S "cpy313.wsgiref.headers") 2395), annotations := none, code := (.ref 232), closureTuple := .none, builtins := 0 }), #[]⟩
noncomputable def o234_0 (P : Params) : Obj := ⟨(.type "tuple"), none, (.seq #[] 0), #[]⟩
noncomputable def o235_0 (P : Params) : Obj := ⟨.none, none, (.fields #[]), #[]⟩
noncomputable def o236_0 (P : Params) : Obj := ⟨.none, none, (.func { name := (S "keys"), qualname := (S "Headers.keys"), params := fnP (mth 16 9), body := .stmts (fnB (mth 16 9)), scope := fnS (mth 16 9), globals := 0, closure := [], defaults := .none, kwdefaults := .none, doc := .none, pyModule := .none, annotations := none, code := .none, closureTuple := .none, builtins := 0 }), #[]⟩
noncomputable def o237_0 (P : Params) : Obj := ⟨(.type "code"), none, (.fields #[(.str (S "keys") 2546), (.str (S "Headers.keys") 2547), (.str (S "/claim/cut.py") 2548), (.int 106 0), (.int 1 0), (.int 0 0), (.int 0 0), (.int 3 0), (.ref 234), (.bool true), (.int 276 0), (.ref 235), .none, .none, .none, (.ref 236), (.int 2549 0), (.int 106 0), (.str (S "/claim/cut.py") 2550)]), #[]⟩
noncomputable def o238_0 (P : Params) : Obj := ⟨(.type "function"), none, (.func { name := (S "keys"), qualname := (S "Headers.keys"), params := fnP (mth 16 9), body := .stmts (fnB (mth 16 9)), scope := fnS (mth 16 9), globals := 3, closure := [], defaults := .none, kwdefaults := .none, doc := .none, pyModule := (.str (S "cpy313.wsgiref.headers") 2395), annotations := none, code := (.ref 237), closureTuple := .none, builtins := 0 }), #[]⟩
noncomputable def o239_0 (P : Params) : Obj := ⟨(.type "tuple"), none, (.seq #[] 0), #[]⟩
noncomputable def o240_0 (P : Params) : Obj := ⟨.none, none, (.fields #[]), #[]⟩
noncomputable def o241_0 (P : Params) : Obj := ⟨.none, none, (.func { name := (S "values"), qualname := (S "Headers.values"), params := fnP (mth 16 10), body := .stmts (fnB (mth 16 10)), scope := fnS (mth 16 10), globals := 0, closure := [], defaults := .none, kwdefaults := .none, doc := .none, pyModule := .none, annotations := none, code := .none, closureTuple := .none, builtins := 0 }), #[]⟩
noncomputable def o242_0 (P : Params) : Obj := ⟨(.type "code"), none, (.fields #[(.str (S "values") 2552), (.str (S "Headers.values") 2553), (.str (S "/claim/cut.py") 2554), (.int 109 0), (.int 1 0), (.int 0 0), (.int 0 0), (.int 3 0), (.ref 239), (.bool true), (.int 276 0), (.ref 240), .none, .none, .none, (.ref 241), (.int 2555 0), (.int 109 0), (.str (S "/claim/cut.py") 2556)]), #[]⟩
noncomputable def o243_0 (P : Params) : Obj := ⟨(.type "function"), none, (.func { name := (S "values"), qualname := (S "Headers.values"), params := fnP (mth 16 10), body := .stmts (fnB (mth 16 10)), scope := fnS (mth 16 10), globals := 3, closure := [], defaults := .none, kwdefaults := .none, doc := .none, pyModule := (.str (S "cpy313.wsgiref.headers") 2395), annotations := none, code := (.ref 242), closureTuple := .none, builtins := 0 }), #[]⟩
noncomputable def o244_0 (P : Params) : Obj := ⟨(.type "tuple"), none, (.seq #[] 0), #[]⟩
noncomputable def o245_0 (P : Params) : Obj := ⟨.none, none, (.fields #[]), #[]⟩
noncomputable def o246_0 (P : Params) : Obj := ⟨(.type "tuple"), none, (.seq #[(.str (S "self") 2561)] 0), #[]⟩
noncomputable def o247_0 (P : Params) : Obj := ⟨(.type "tuple"), none, (.seq #[] 0), #[]⟩
noncomputable def o248_0 (P : Params) : Obj := ⟨.none, none, (.func { name := (S "items"), qualname := (S "Headers.items"), params := fnP (mth 16 11), body := .stmts (fnB (mth 16 11)), scope := fnS (mth 16 11), globals := 0, closure := [], defaults := .none, kwdefaults := .none, doc := .none, pyModule := .none, annotations := none, code := .none, closureTuple := .none, builtins := 0 }), #[]⟩
noncomputable def o249_0 (P : Params) : Obj := ⟨(.type "code"), none, (.fields #[(.str (S "items") 2558), (.str (S "Headers.items") 2559), (.str (S "/claim/cut.py") 2560), (.int 112 0), (.int 1 0), (.int 0 0), (.int 0 0), (.int 3 0), (.ref 244), (.bool true), (.int 276 0), (.ref 245), .none, (.ref 246), (.ref 247), (.ref 248), (.int 2562 0), (.int 112 0), (.str (S "/claim/cut.py") 2563)]), #[]⟩
noncomputable def o250_0 (P : Params) : Obj := ⟨(.type "function"), none, (.func { name := (S "items"), qualname := (S "Headers.items"), params := fnP (mth 16 11), body := .stmts (fnB (mth 16 11)), scope := fnS (mth 16 11), globals := 3, closure := [], defaults := .none, kwdefaults := .none, doc := .none, pyModule := (.str (S "cpy313.wsgiref.headers") 2395), annotations := none, code := (.ref 249), closureTuple := .none, builtins := 0 }), #[]⟩
noncomputable def o251_0 (P : Params) : Obj := ⟨(.type "tuple"), none, (.seq #[] 0), #[]⟩
noncomputable def o252_0 (P : Params) : Obj := ⟨.none, none, (.fields #[]), #[]⟩
noncomputable def o253_0 (P : Params) : Obj := ⟨(.type "tuple"), none, (.seq #[(.str (S "self") 2568)] 0), #[]⟩
noncomputable def o254_0 (P : Params) : Obj := ⟨(.type "tuple"), none, (.seq #[] 0), #[]⟩
noncomputable def o255_0 (P : Params) : Obj := ⟨.none, none, (.func { name := (S "__repr__"), qualname := (S "Headers.__repr__"), params := fnP (mth 16 12), body := .stmts (fnB (mth 16 12)), scope := fnS (mth 16 12), globals := 0, closure := [], defaults := .none, kwdefaults := .none, doc := .none, pyModule := .none, annotations := none, code := .none, closureTuple := .none, builtins := 0 }), #[]⟩
noncomputable def o256_0 (P : Params) : Obj := ⟨(.type "code"), none, (.fields #[(.str (S "__repr__") 2565), (.str (S "Headers.__repr__") 2566), (.str (S "/claim/cut.py") 2567), (.int 115 0), (.int 1 0), (.int 0 0), (.int 0 0), (.int 3 0), (.ref 251), (.bool true), (.int 276 0), (.ref 252), .none, (.ref 253), (.ref 254), (.ref 255), (.int 2569 0), (.int 115 0), (.str (S "/claim/cut.py") 2570)]), #[]⟩
noncomputable def o257_0 (P : Params) : Obj := ⟨(.type "function"), none, (.func { name := (S "__repr__"), qualname := (S "Headers.__repr__"), params := fnP (mth 16 12), body := .stmts (fnB (mth 16 12)), scope := fnS (mth 16 12), globals := 3, closure := [], defaults := .none, kwdefaults := .none, doc := .none, pyModule := (.str (S "cpy313.wsgiref.headers") 2395), annotations := none, code := (.ref 256), closureTuple := .none, builtins := 0 }), #[]⟩
noncomputable def o258_0 (P : Params) : Obj := ⟨(.type "tuple"), none, (.seq #[] 0), #[]⟩
noncomputable def o259_0 (P : Params) : Obj := ⟨.none, none, (.fields #[]), #[]⟩
noncomputable def o260_0 (P : Params) : Obj := ⟨.none, none, (.func { name := (S "__str__"), qualname := (S "Headers.__str__"), params := fnP (mth 16 13), body := .stmts (fnB (mth 16 13)), scope := fnS (mth 16 13), globals := 0, closure := [], defaults := .none, kwdefaults := .none, doc := .none, pyModule := .none, annotations := none, code := .none, closureTuple := .none, builtins := 0 }), #[]⟩
noncomputable def o261_0 (P : Params) : Obj := ⟨(.type "code"), none, (.fields #[(.str (S "__str__") 2572), (.str (S "Headers.__str__") 2573), (.str (S "/claim/cut.py") 2574), (.int 118 0), (.int 1 0), (.int 0 0), (.int 0 0), (.int 3 0), (.ref 258), (.bool true), (.int 276 0), (.ref 259), .none, .none, .none, (.ref 260), (.int 2575 0), (.int 118 0), (.str (S "/claim/cut.py") 2576)]), #[]⟩
noncomputable def o262_0 (P : Params) : Obj := ⟨(.type "function"), none, (.func { name := (S "__str__"), qualname := (S "Headers.__str__"), params := fnP (mth 16 13), body := .stmts (fnB (mth 16 13)), scope := fnS (mth 16 13), globals := 3, closure := [], defaults := .none, kwdefaults := .none, doc := .none, pyModule := (.str (S "cpy313.wsgiref.headers") 2395), annotations := none, code := (.ref 261), closureTuple := .none, builtins := 0 }), #[]⟩
noncomputable def o263_0 (P : Params) : Obj := ⟨(.type "tuple"), none, (.seq #[] 0), #[]⟩
noncomputable def o264_0 (P : Params) : Obj := ⟨.none, none, (.fields #[]), #[]⟩
noncomputable def o265_0 (P : Params) : Obj := ⟨(.type "tuple"), none, (.seq #[(.str (S "self") 2581)] 0), #[]⟩
noncomputable def o266_0 (P : Params) : Obj := ⟨(.type "tuple"), none, (.seq #[] 0), #[]⟩
noncomputable def o267_0 (P : Params) : Obj := ⟨.none, none, (.func { name := (S "__bytes__"), qualname := (S "Headers.__bytes__"), params := fnP (mth 16 14), body := .stmts (fnB (mth 16 14)), scope := fnS (mth 16 14), globals := 0, closure := [], defaults := .none, kwdefaults := .none, doc := .none, pyModule := .none, annotations := none, code := .none, closureTuple := .none, builtins := 0 }), #[]⟩
noncomputable def o268_0 (P : Params) : Obj := ⟨(.type "code"), none, (.fields #[(.str (S "__bytes__") 2578), (.str (S "Headers.__bytes__") 2579), (.str (S "/claim/cut.py") 2580), (.int 121 0), (.int 1 0), (.int 0 0), (.int 0 0), (.int 3 0), (.ref 263), (.bool true), (.int 276 0), (.ref 264), .none, (.ref 265), (.ref 266), (.ref 267), (.int 2582 0), (.int 121 0), (.str (S "/claim/cut.py") 2583)]), #[]⟩
noncomputable def o269_0 (P : Params) : Obj := ⟨(.type "function"), none, (.func { name := (S "__bytes__"), qualname := (S "Headers.__bytes__"), params := fnP (mth 16 14), body := .stmts (fnB (mth 16 14)), scope := fnS (mth 16 14), globals := 3, closure := [], defaults := .none, kwdefaults := .none, doc := .none, pyModule := (.str (S "cpy313.wsgiref.headers") 2395), annotations := none, code := (.ref 268), closureTuple := .none, builtins := 0 }), #[]⟩
noncomputable def o270_0 (P : Params) : Obj := ⟨(.type "tuple"), none, (.seq #[] 0), #[]⟩
noncomputable def o271_0 (P : Params) : Obj := ⟨.none, none, (.fields #[]), #[]⟩
noncomputable def o272_0 (P : Params) : Obj := ⟨(.type "tuple"), none, (.seq #[(.str (S "self") 2588), (.str (S "name") 2589), (.str (S "value") 2590)] 0), #[]⟩
noncomputable def o273_0 (P : Params) : Obj := ⟨(.type "tuple"), none, (.seq #[] 0), #[]⟩
noncomputable def o274_0 (P : Params) : Obj := ⟨.none, none, (.func { name := (S "setdefault"), qualname := (S "Headers.setdefault"), params := fnP (mth 16 15), body := .stmts (fnB (mth 16 15)), scope := fnS (mth 16 15), globals := 0, closure := [], defaults := .none, kwdefaults := .none, doc := .none, pyModule := .none, annotations := none, code := .none, closureTuple := .none, builtins := 0 }), #[]⟩
noncomputable def o275_0 (P : Params) : Obj := ⟨(.type "code"), none, (.fields #[(.str (S "setdefault") 2585), (.str (S "Headers.setdefault") 2586), (.str (S "/claim/cut.py") 2587), (.int 124 0), (.int 3 0), (.int 0 0), (.int 0 0), (.int 3 0), (.ref 270), (.bool true), (.int 276 0), (.ref 271), .none, (.ref 272), (.ref 273), (.ref 274), (.int 2591 0), (.int 124 0), (.str (S "/claim/cut.py") 2592)]), #[]⟩
noncomputable def o276_0 (P : Params) : Obj := ⟨(.type "function"), none, (.func { name := (S "setdefault"), qualname := (S "Headers.setdefault"), params := fnP (mth 16 15), body := .stmts (fnB (mth 16 15)), scope := fnS (mth 16 15), globals := 3, closure := [], defaults := .none, kwdefaults := .none, doc := .none, pyModule := (.str (S "cpy313.wsgiref.headers") 2395), annotations := none, code := (.ref 275), closureTuple := .none, builtins := 0 }), #[]⟩
noncomputable def o277_0 (P : Params) : Obj := ⟨(.type "tuple"), none, (.seq #[] 0), #[]⟩
noncomputable def o278_0 (P : Params) : Obj := ⟨.none, none, (.fields #[]), #[]⟩
noncomputable def o279_0 (P : Params) : Obj := ⟨(.type "tuple"), none, (.seq #[(.str (S "self") 2597), (.str (S "_name") 2598), (.str (S "_value") 2599), (.str (S "_params") 2600)] 0), #[]⟩
noncomputable def o280_0 (P : Params) : Obj := ⟨(.type "tuple"), none, (.seq #[] 0), #[]⟩
noncomputable def o281_0 (P : Params) : Obj := ⟨.none, none, (.func { name := (S "add_header"), qualname := (S "Headers.add_header"), params := fnP (mth 16 16), body := .stmts (fnB (mth 16 16)), scope := fnS (mth 16 16), globals := 0, closure := [], defaults := .none, kwdefaults := .none, doc := .none, pyModule := .none, annotations := none, code := .none, closureTuple := .none, builtins := 0 }), #[]⟩
noncomputable def o282_0 (P : Params) : Obj := ⟨(.type "code"), none, (.fields #[(.str (S "add_header") 2594), (.str (S "Headers.add_header") 2595), (.str (S "/claim/cut.py") 2596), (.int 127 0), (.int 3 0), (.int 0 0), (.int 0 0), (.int 11 0), (.ref 277), (.bool true), (.int 276 0), (.ref 278), .none, (.ref 279), (.ref 280), (.ref 281), (.int 2601 0), (.int 127 0), (.str (S "/claim/cut.py") 2602)]), #[]⟩
noncomputable def o283_0 (P : Params) : Obj := ⟨(.type "function"), none, (.func { name := (S "add_header"), qualname := (S "Headers.add_header"), params := fnP (mth 16 16), body := .stmts (fnB (mth 16 16)), scope := fnS (mth 16 16), globals := 3, closure := [], defaults := .none, kwdefaults := .none, doc := .none, pyModule := (.str (S "cpy313.wsgiref.headers") 2395), annotations := none, code := (.ref 282), closureTuple := .none, builtins := 0 }), #[]⟩
noncomputable def o284_0 (P : Params) : Obj := ⟨(.type "tuple"), none, (.seq #[(.str (S "_headers") 2604)] 0), #[]⟩
noncomputable def o285_0 (P : Params) : Obj := ⟨(.type "dict"), none, (.dict #[⟨PyData.keyHash P (S "__module__"), (.str (S "__module__") 2464), (.str (S "cpy313.wsgiref.headers") 2395)⟩, ⟨PyData.keyHash P (S "__firstlineno__"), (.str (S "__firstlineno__") 2468), (.int 59 2467)⟩, ⟨PyData.keyHash P (S "__init__"), (.str (S "__init__") 2478), (.ref 178)⟩, ⟨PyData.keyHash P (S "_convert_string_type"), (.str (S "_convert_string_type") 2488), (.ref 185)⟩, ⟨PyData.keyHash P (S "__len__"), (.str (S "__len__") 2495), (.ref 192)⟩, ⟨PyData.keyHash P (S "__setitem__"), (.str (S "__setitem__") 2504), (.ref 199)⟩, ⟨PyData.keyHash P (S "__delitem__"), (.str (S "__delitem__") 2510), (.ref 204)⟩, ⟨PyData.keyHash P (S "__getitem__"), (.str (S "__getitem__") 2518), (.ref 211)⟩, ⟨PyData.keyHash P (S "__contains__"), (.str (S "__contains__") 2526), (.ref 218)⟩, ⟨PyData.keyHash P (S "get_all"), (.str (S "get_all") 2534), (.ref 225)⟩, ⟨PyData.keyHash P (S "get"), (.str (S "get") 2545), (.ref 233)⟩, ⟨PyData.keyHash P (S "keys"), (.str (S "keys") 2551), (.ref 238)⟩, ⟨PyData.keyHash P (S "values"), (.str (S "values") 2557), (.ref 243)⟩, ⟨PyData.keyHash P (S "items"), (.str (S "items") 2564), (.ref 250)⟩, ⟨PyData.keyHash P (S "__repr__"), (.str (S "__repr__") 2571), (.ref 257)⟩, ⟨PyData.keyHash P (S "__str__"), (.str (S "__str__") 2577), (.ref 262)⟩, ⟨PyData.keyHash P (S "__bytes__"), (.str (S "__bytes__") 2584), (.ref 269)⟩, ⟨PyData.keyHash P (S "setdefault"), (.str (S "setdefault") 2593), (.ref 276)⟩, ⟨PyData.keyHash P (S "add_header"), (.str (S "add_header") 2603), (.ref 283)⟩, ⟨PyData.keyHash P (S "__static_attributes__"), (.str (S "__static_attributes__") 2605), (.ref 284)⟩, ⟨PyData.keyHash P (S "__dict__"), (.str (S "__dict__") 2607), (.ref 287)⟩, ⟨PyData.keyHash P (S "__weakref__"), (.str (S "__weakref__") 2609), (.ref 288)⟩, ⟨PyData.keyHash P (S "__doc__"), (.str (S "__doc__") 2610), .none⟩] 4), #[]⟩
noncomputable def o286_0 (P : Params) : Obj := ⟨(.type "type"), none, (.cls { name := (S "Headers"), bases := [(.type "object")], mro := [(.ref 286), (.type "object")], ns := 285, qualname := (S "Headers"), hasDict := true, slotNames := [], subclasses := [], abstract := false, collection := none, hasDel := false }), #[none, none, (some (.str (S "Headers") 2457)), (some (.str (S "Headers") 2465)), (some (.builtin "object.__new__")), (some (.bool true))]⟩
noncomputable def o287_0 (P : Params) : Obj := ⟨(.type "getset_descriptor"), none, (.fields #[(.str (S "__dict__") 2606), (.ref 286), (.builtin "function.__dict__"), (.builtin "function.__dict__#set")]), #[]⟩
noncomputable def o288_0 (P : Params) : Obj := ⟨(.type "getset_descriptor"), none, (.fields #[(.str (S "__weakref__") 2608), (.ref 286), (.builtin "ExceptionGroup.__weakref__"), .none]), #[]⟩
noncomputable def o289_0 (P : Params) : Obj := ⟨(.type "super"), none, (.fields #[(.ref 286), (.ref 286), (.ref 286)]), #[]⟩
noncomputable def o290_0 (P : Params) : Obj := ⟨(.type "builtin_function_or_method"), none, (.fields #[(.builtin "object.__init_subclass__"), (.ref 286)]), #[]⟩
noncomputable def T15 (P : Params) : BT := (.node (o0_0 P) (.node (o1_0 P) (.node (o3_8 P) (.node (o7_0 P) (.node (o15_0 P) (.node (o31_0 P) (.node (o63_0 P) (.node (o127_0 P) (.node (o255_0 P) .nil .nil) .nil) (.node (o191_0 P) .nil .nil)) (.node (o95_0 P) (.node (o159_0 P) (.node (o287_0 P) .nil .nil) .nil) (.node (o223_0 P) .nil .nil))) (.node (o47_0 P) (.node (o79_0 P) (.node (o143_0 P) (.node (o271_0 P) .nil .nil) .nil) (.node (o207_0 P) .nil .nil)) (.node (o111_0 P) (.node (o175_0 P) .nil .nil) (.node (o239_0 P) .nil .nil)))) (.node (o23_0 P) (.node (o39_0 P) (.node (o71_0 P) (.node (o135_0 P) (.node (o263_0 P) .nil .nil) .nil) (.node (o199_0 P) .nil .nil)) (.node (o103_0 P) (.node (o167_0 P) .nil .nil) (.node (o231_0 P) .nil .nil))) (.node (o55_0 P) (.node (o87_0 P) (.node (o151_0 P) (.node (o279_0 P) .nil .nil) .nil) (.node (o215_0 P) .nil .nil)) (.node (o119_0 P) (.node (o183_0 P) .nil .nil) (.node (o247_0 P) .nil .nil))))) (.node (o11_1 P) (.node (o19_0 P) (.node (o35_0 P) (.node (o67_0 P) (.node (o131_0 P) (.node (o259_0 P) .nil .nil) .nil) (.node (o195_0 P) .nil .nil)) (.node (o99_0 P) (.node (o163_0 P) .nil .nil) (.node (o227_0 P) .nil .nil))) (.node (o51_0 P) (.node (o83_0 P) (.node (o147_0 P) (.node (o275_0 P) .nil .nil) .nil) (.node (o211_0 P) .nil .nil)) (.node (o115_0 P) (.node (o179_0 P) .nil .nil) (.node (o243_0 P) .nil .nil)))) (.node (o27_0 P) (.node (o43_0 P) (.node (o75_0 P) (.node (o139_0 P) (.node (o267_0 P) .nil .nil) .nil) (.node (o203_0 P) .nil .nil)) (.node (o107_0 P) (.node (o171_0 P) .nil .nil) (.node (o235_0 P) .nil .nil))) (.node (o59_0 P) (.node (o91_0 P) (.node (o155_0 P) (.node (o283_0 P) .nil .nil) .nil) (.node (o219_0 P) .nil .nil)) (.node (o123_0 P) (.node (o187_0 P) .nil .nil) (.node (o251_0 P) .nil .nil)))))) (.node (o5_0 P) (.node (o9_0 P) (.node (o17_0 P) (.node (o33_0 P) (.node (o65_0 P) (.node (o129_0 P) (.node (o257_0 P) .nil .nil) .nil) (.node (o193_0 P) .nil .nil)) (.node (o97_0 P) (.node (o161_0 P) (.node (o289_0 P) .nil .nil) .nil) (.node (o225_0 P) .nil .nil))) (.node (o49_0 P) (.node (o81_0 P) (.node (o145_0 P) (.node (o273_0 P) .nil .nil) .nil) (.node (o209_0 P) .nil .nil)) (.node (o113_0 P) (.node (o177_0 P) .nil .nil) (.node (o241_0 P) .nil .nil)))) (.node (o25_0 P) (.node (o41_0 P) (.node (o73_0 P) (.node (o137_0 P) (.node (o265_0 P) .nil .nil) .nil) (.node (o201_0 P) .nil .nil)) (.node (o105_0 P) (.node (o169_0 P) .nil .nil) (.node (o233_0 P) .nil .nil))) (.node (o57_0 P) (.node (o89_0 P) (.node (o153_0 P) (.node (o281_0 P) .nil .nil) .nil) (.node (o217_0 P) .nil .nil)) (.node (o121_0 P) (.node (o185_0 P) .nil .nil) (.node (o249_0 P) .nil .nil))))) (.node (o13_0 P) (.node (o21_0 P) (.node (o37_0 P) (.node (o69_0 P) (.node (o133_0 P) (.node (o261_0 P) .nil .nil) .nil) (.node (o197_0 P) .nil .nil)) (.node (o101_0 P) (.node (o165_0 P) .nil .nil) (.node (o229_0 P) .nil .nil))) (.node (o53_0 P) (.node (o85_0 P) (.node (o149_0 P) (.node (o277_0 P) .nil .nil) .nil) (.node (o213_0 P) .nil .nil)) (.node (o117_0 P) (.node (o181_0 P) .nil .nil) (.node (o245_0 P) .nil .nil)))) (.node (o29_6 P) (.node (o45_0 P) (.node (o77_0 P) (.node (o141_0 P) (.node (o269_0 P) .nil .nil) .nil) (.node (o205_0 P) .nil .nil)) (.node (o109_0 P) (.node (o173_0 P) .nil .nil) (.node (o237_0 P) .nil .nil))) (.node (o61_0 P) (.node (o93_0 P) (.node (o157_0 P) (.node (o285_0 P) .nil .nil) .nil) (.node (o221_0 P) .nil .nil)) (.node (o125_0 P) (.node (o189_0 P) .nil .nil) (.node (o253_0 P) .nil .nil))))))) (.node (o2_1 P) (.node (o4_0 P) (.node (o8_0 P) (.node (o16_0 P) (.node (o32_0 P) (.node (o64_0 P) (.node (o128_0 P) (.node (o256_0 P) .nil .nil) .nil) (.node (o192_0 P) .nil .nil)) (.node (o96_0 P) (.node (o160_0 P) (.node (o288_0 P) .nil .nil) .nil) (.node (o224_0 P) .nil .nil))) (.node (o48_1 P) (.node (o80_0 P) (.node (o144_0 P) (.node (o272_0 P) .nil .nil) .nil) (.node (o208_0 P) .nil .nil)) (.node (o112_0 P) (.node (o176_0 P) .nil .nil) (.node (o240_0 P) .nil .nil)))) (.node (o24_0 P) (.node (o40_0 P) (.node (o72_0 P) (.node (o136_0 P) (.node (o264_0 P) .nil .nil) .nil) (.node (o200_0 P) .nil .nil)) (.node (o104_0 P) (.node (o168_0 P) .nil .nil) (.node (o232_0 P) .nil .nil))) (.node (o56_0 P) (.node (o88_0 P) (.node (o152_0 P) (.node (o280_0 P) .nil .nil) .nil) (.node (o216_0 P) .nil .nil)) (.node (o120_0 P) (.node (o184_0 P) .nil .nil) (.node (o248_0 P) .nil .nil))))) (.node (o12_0 P) (.node (o20_0 P) (.node (o36_0 P) (.node (o68_0 P) (.node (o132_0 P) (.node (o260_0 P) .nil .nil) .nil) (.node (o196_0 P) .nil .nil)) (.node (o100_0 P) (.node (o164_0 P) .nil .nil) (.node (o228_0 P) .nil .nil))) (.node (o52_0 P) (.node (o84_0 P) (.node (o148_0 P) (.node (o276_0 P) .nil .nil) .nil) (.node (o212_0 P) .nil .nil)) (.node (o116_0 P) (.node (o180_0 P) .nil .nil) (.node (o244_0 P) .nil .nil)))) (.node (o28_0 P) (.node (o44_0 P) (.node (o76_0 P) (.node (o140_0 P) (.node (o268_0 P) .nil .nil) .nil) (.node (o204_0 P) .nil .nil)) (.node (o108_0 P) (.node (o172_0 P) .nil .nil) (.node (o236_0 P) .nil .nil))) (.node (o60_0 P) (.node (o92_0 P) (.node (o156_0 P) (.node (o284_0 P) .nil .nil) .nil) (.node (o220_0 P) .nil .nil)) (.node (o124_0 P) (.node (o188_0 P) .nil .nil) (.node (o252_0 P) .nil .nil)))))) (.node (o6_0 P) (.node (o10_0 P) (.node (o18_0 P) (.node (o34_0 P) (.node (o66_0 P) (.node (o130_0 P) (.node (o258_0 P) .nil .nil) .nil) (.node (o194_0 P) .nil .nil)) (.node (o98_0 P) (.node (o162_0 P) (.node (o290_0 P) .nil .nil) .nil) (.node (o226_0 P) .nil .nil))) (.node (o50_0 P) (.node (o82_0 P) (.node (o146_0 P) (.node (o274_0 P) .nil .nil) .nil) (.node (o210_0 P) .nil .nil)) (.node (o114_0 P) (.node (o178_0 P) .nil .nil) (.node (o242_0 P) .nil .nil)))) (.node (o26_0 P) (.node (o42_0 P) (.node (o74_0 P) (.node (o138_0 P) (.node (o266_0 P) .nil .nil) .nil) (.node (o202_0 P) .nil .nil)) (.node (o106_0 P) (.node (o170_0 P) .nil .nil) (.node (o234_0 P) .nil .nil))) (.node (o58_0 P) (.node (o90_0 P) (.node (o154_0 P) (.node (o282_0 P) .nil .nil) .nil) (.node (o218_0 P) .nil .nil)) (.node (o122_0 P) (.node (o186_0 P) .nil .nil) (.node (o250_0 P) .nil .nil))))) (.node (o14_0 P) (.node (o22_0 P) (.node (o38_0 P) (.node (o70_0 P) (.node (o134_0 P) (.node (o262_0 P) .nil .nil) .nil) (.node (o198_0 P) .nil .nil)) (.node (o102_0 P) (.node (o166_0 P) .nil .nil) (.node (o230_0 P) .nil .nil))) (.node (o54_0 P) (.node (o86_0 P) (.node (o150_0 P) (.node (o278_0 P) .nil .nil) .nil) (.node (o214_0 P) .nil .nil)) (.node (o118_0 P) (.node (o182_0 P) .nil .nil) (.node (o246_0 P) .nil .nil)))) (.node (o30_0 P) (.node (o46_0 P) (.node (o78_0 P) (.node (o142_0 P) (.node (o270_0 P) .nil .nil) .nil) (.node (o206_0 P) .nil .nil)) (.node (o110_0 P) (.node (o174_0 P) .nil .nil) (.node (o238_0 P) .nil .nil))) (.node (o62_0 P) (.node (o94_0 P) (.node (o158_0 P) (.node (o286_0 P) .nil .nil) .nil) (.node (o222_0 P) .nil .nil)) (.node (o126_0 P) (.node (o190_0 P) .nil .nil) (.node (o254_0 P) .nil .nil))))))))
noncomputable abbrev S15 (P : Params) (os : OsState) : SharedT := ⟨T15 P, 291, {}, #[], {}, 2613, os⟩
noncomputable def o3_9 (P : Params) : Obj := ⟨(.type "dict"), none, (.dict #[⟨PyData.keyHash P (S "__name__"), (.str (S "__name__") 165), (.str (S "law_wf0102_01") 2613)⟩, ⟨PyData.keyHash P (S "__doc__"), (.str (S "__doc__") 166), .none⟩, ⟨PyData.keyHash P (S "__package__"), (.str (S "__package__") 167), .none⟩, ⟨PyData.keyHash P (S "__loader__"), (.str (S "__loader__") 168), (.builtin "__main__.__loader__#opaque")⟩, ⟨PyData.keyHash P (S "__spec__"), (.str (S "__spec__") 169), .none⟩, ⟨PyData.keyHash P (S "__annotations__"), (.str (S "__annotations__") 170), (.ref 6)⟩, ⟨PyData.keyHash P (S "__builtins__"), (.str (S "__builtins__") 171), (.ref 4)⟩, ⟨PyData.keyHash P (S "__file__"), (.str (S "__file__") 173), (.str (S "/claim/cut.py") 172)⟩, ⟨PyData.keyHash P (S "__cached__"), (.str (S "__cached__") 174), .none⟩, ⟨PyData.keyHash P (S "_sre"), (.str (S "_sre") 275), (.ref 12)⟩, ⟨PyData.keyHash P (S "_wall"), (.str (S "_wall") 288), (.ref 38)⟩, ⟨PyData.keyHash P (S "Error"), (.str (S "Error") 310), (.ref 48)⟩, ⟨PyData.keyHash P (S "error_reply"), (.str (S "error_reply") 326), (.ref 61)⟩, ⟨PyData.keyHash P (S "error_proto"), (.str (S "error_proto") 342), (.ref 73)⟩, ⟨PyData.keyHash P (S "parse229"), (.str (S "parse229") 355), (.ref 82)⟩, ⟨PyData.keyHash P (S "parse257"), (.str (S "parse257") 366), (.ref 89)⟩, ⟨PyData.keyHash P (S "b1_set"), (.str (S "b1_set") 428), (.ref 97)⟩, ⟨PyData.keyHash P (S "in_table_b1"), (.str (S "in_table_b1") 435), (.ref 107)⟩, ⟨PyData.keyHash P (S "b3_exceptions"), (.str (S "b3_exceptions") 2386), (.ref 108)⟩, ⟨PyData.keyHash P (S "map_table_b3"), (.str (S "map_table_b3") 2394), (.ref 153)⟩, ⟨PyData.keyHash P (S "_name_disallowed_re"), (.str (S "_name_disallowed_re") 2422), (.ref 158)⟩, ⟨PyData.keyHash P (S "_value_disallowed_re"), (.str (S "_value_disallowed_re") 2456), (.ref 163)⟩, ⟨PyData.keyHash P (S "Headers"), (.str (S "Headers") 2612), (.ref 286)⟩, ⟨PyData.keyHash P (S "_law_deeds"), (.str (S "_law_deeds") 2624), (.ref 297)⟩, ⟨PyData.keyHash P (S "_law_name"), (.str (S "_law_name") 2631), (.ref 304)⟩, ⟨PyData.keyHash P (S "_law_spelled"), (.str (S "_law_spelled") 2641), (.ref 311)⟩, ⟨PyData.keyHash P (S "_law_replies"), (.str (S "_law_replies") 2660), (.ref 318)⟩, ⟨PyData.keyHash P (S "_law_prepared"), (.str (S "_law_prepared") 2666), (.ref 323)⟩, ⟨PyData.keyHash P (S "_law_learn"), (.str (S "_law_learn") 2676), (.ref 330)⟩] 29), #[]⟩
noncomputable def o29_7 (P : Params) : Obj := ⟨.none, none, (.fields #[(.int 2 0), (.int 0 0), (.ref 37), (.int 6 0), (.int 0 0), (.ref 44), (.int 8 0), (.int 0 0), (.ref 57), (.int 10 0), (.int 0 0), (.ref 69), (.int 12 0), (.int 0 0), (.ref 81), (.int 29 0), (.int 0 0), (.ref 88), (.int 48 0), (.int 0 0), (.ref 106), (.int 51 0), (.int 0 0), (.ref 152), (.int 59 0), (.int 0 0), (.ref 169), (.int 130 0), (.int 0 0), (.ref 296), (.int 139 0), (.int 0 0), (.ref 303), (.int 141 0), (.int 0 0), (.ref 310), (.int 154 0), (.int 0 0), (.ref 317), (.int 179 0), (.int 0 0), (.ref 322), (.int 181 0), (.int 0 0), (.ref 329)]), #[]⟩
noncomputable def o291_0 (P : Params) : Obj := ⟨(.type "tuple"), none, (.seq #[] 0), #[]⟩
noncomputable def o292_0 (P : Params) : Obj := ⟨.none, none, (.fields #[]), #[]⟩
noncomputable def o293_0 (P : Params) : Obj := ⟨(.type "tuple"), none, (.seq #[(.str (S "script") 2618), (.str (S "deeds") 2619), (.str (S "x") 2620), (.str (S "one") 2621)] 0), #[]⟩
noncomputable def o294_0 (P : Params) : Obj := ⟨(.type "tuple"), none, (.seq #[] 0), #[]⟩
noncomputable def o295_0 (P : Params) : Obj := ⟨.none, none, (.func { name := (S "_law_deeds"), qualname := (S "_law_deeds"), params := fnP (stm 18), body := .stmts (fnB (stm 18)), scope := fnS (stm 18), globals := 0, closure := [], defaults := .none, kwdefaults := .none, doc := .none, pyModule := .none, annotations := none, code := .none, closureTuple := .none, builtins := 0 }), #[]⟩
noncomputable def o296_0 (P : Params) : Obj := ⟨(.type "code"), none, (.fields #[(.str (S "_law_deeds") 2615), (.str (S "_law_deeds") 2616), (.str (S "/claim/cut.py") 2617), (.int 130 0), (.int 1 0), (.int 0 0), (.int 0 0), (.int 3 0), (.ref 291), (.bool true), (.int 276 0), (.ref 292), .none, (.ref 293), (.ref 294), (.ref 295), (.int 2622 0), (.int 130 0), (.str (S "/claim/cut.py") 2623)]), #[]⟩
noncomputable def o297_0 (P : Params) : Obj := ⟨(.type "function"), none, (.func { name := (S "_law_deeds"), qualname := (S "_law_deeds"), params := fnP (stm 18), body := .stmts (fnB (stm 18)), scope := fnS (stm 18), globals := 3, closure := [], defaults := .none, kwdefaults := .none, doc := .none, pyModule := (.str (S "law_wf0102_01") 2613), annotations := none, code := (.ref 296), closureTuple := .none, builtins := 0 }), #[]⟩
noncomputable def o298_0 (P : Params) : Obj := ⟨(.type "tuple"), none, (.seq #[] 0), #[]⟩
noncomputable def o299_0 (P : Params) : Obj := ⟨.none, none, (.fields #[]), #[]⟩
noncomputable def o300_0 (P : Params) : Obj := ⟨(.type "tuple"), none, (.seq #[(.str (S "which") 2628)] 0), #[]⟩
noncomputable def o301_0 (P : Params) : Obj := ⟨(.type "tuple"), none, (.seq #[] 0), #[]⟩
noncomputable def o302_0 (P : Params) : Obj := ⟨.none, none, (.func { name := (S "_law_name"), qualname := (S "_law_name"), params := fnP (stm 19), body := .stmts (fnB (stm 19)), scope := fnS (stm 19), globals := 0, closure := [], defaults := .none, kwdefaults := .none, doc := .none, pyModule := .none, annotations := none, code := .none, closureTuple := .none, builtins := 0 }), #[]⟩
noncomputable def o303_0 (P : Params) : Obj := ⟨(.type "code"), none, (.fields #[(.str (S "_law_name") 2625), (.str (S "_law_name") 2626), (.str (S "/claim/cut.py") 2627), (.int 139 0), (.int 1 0), (.int 0 0), (.int 0 0), (.int 3 0), (.ref 298), (.bool true), (.int 276 0), (.ref 299), .none, (.ref 300), (.ref 301), (.ref 302), (.int 2629 0), (.int 139 0), (.str (S "/claim/cut.py") 2630)]), #[]⟩
noncomputable def o304_0 (P : Params) : Obj := ⟨(.type "function"), none, (.func { name := (S "_law_name"), qualname := (S "_law_name"), params := fnP (stm 19), body := .stmts (fnB (stm 19)), scope := fnS (stm 19), globals := 3, closure := [], defaults := .none, kwdefaults := .none, doc := .none, pyModule := (.str (S "law_wf0102_01") 2613), annotations := none, code := (.ref 303), closureTuple := .none, builtins := 0 }), #[]⟩
noncomputable def o305_0 (P : Params) : Obj := ⟨(.type "tuple"), none, (.seq #[] 0), #[]⟩
noncomputable def o306_0 (P : Params) : Obj := ⟨.none, none, (.fields #[]), #[]⟩
noncomputable def o307_0 (P : Params) : Obj := ⟨(.type "tuple"), none, (.seq #[(.str (S "name") 2635), (.str (S "way") 2636), (.str (S "text") 2637), (.str (S "sign") 2638)] 0), #[]⟩
noncomputable def o308_0 (P : Params) : Obj := ⟨(.type "tuple"), none, (.seq #[] 0), #[]⟩
noncomputable def o309_0 (P : Params) : Obj := ⟨.none, none, (.func { name := (S "_law_spelled"), qualname := (S "_law_spelled"), params := fnP (stm 20), body := .stmts (fnB (stm 20)), scope := fnS (stm 20), globals := 0, closure := [], defaults := .none, kwdefaults := .none, doc := .none, pyModule := .none, annotations := none, code := .none, closureTuple := .none, builtins := 0 }), #[]⟩
noncomputable def o310_0 (P : Params) : Obj := ⟨(.type "code"), none, (.fields #[(.str (S "_law_spelled") 2632), (.str (S "_law_spelled") 2633), (.str (S "/claim/cut.py") 2634), (.int 141 0), (.int 2 0), (.int 0 0), (.int 0 0), (.int 3 0), (.ref 305), (.bool true), (.int 276 0), (.ref 306), .none, (.ref 307), (.ref 308), (.ref 309), (.int 2639 0), (.int 141 0), (.str (S "/claim/cut.py") 2640)]), #[]⟩
noncomputable def o311_0 (P : Params) : Obj := ⟨(.type "function"), none, (.func { name := (S "_law_spelled"), qualname := (S "_law_spelled"), params := fnP (stm 20), body := .stmts (fnB (stm 20)), scope := fnS (stm 20), globals := 3, closure := [], defaults := .none, kwdefaults := .none, doc := .none, pyModule := (.str (S "law_wf0102_01") 2613), annotations := none, code := (.ref 310), closureTuple := .none, builtins := 0 }), #[]⟩
noncomputable def o312_0 (P : Params) : Obj := ⟨(.type "tuple"), none, (.seq #[] 0), #[]⟩
noncomputable def o313_0 (P : Params) : Obj := ⟨.none, none, (.fields #[]), #[]⟩
noncomputable def o314_0 (P : Params) : Obj := ⟨(.type "tuple"), none, (.seq #[(.str (S "deed") 2645), (.str (S "client") 2646), (.str (S "which") 2647), (.str (S "way") 2648), (.str (S "fault") 2649), (.str (S "port") 2650), (.str (S "kind") 2651), (.str (S "name") 2652), (.str (S "named") 2653), (.str (S "mark") 2654), (.str (S "figures") 2655), (.str (S "ahead") 2656), (.str (S "ported") 2657)] 0), #[]⟩
noncomputable def o315_0 (P : Params) : Obj := ⟨(.type "tuple"), none, (.seq #[] 0), #[]⟩
noncomputable def o316_0 (P : Params) : Obj := ⟨.none, none, (.func { name := (S "_law_replies"), qualname := (S "_law_replies"), params := fnP (stm 21), body := .stmts (fnB (stm 21)), scope := fnS (stm 21), globals := 0, closure := [], defaults := .none, kwdefaults := .none, doc := .none, pyModule := .none, annotations := none, code := .none, closureTuple := .none, builtins := 0 }), #[]⟩
noncomputable def o317_0 (P : Params) : Obj := ⟨(.type "code"), none, (.fields #[(.str (S "_law_replies") 2642), (.str (S "_law_replies") 2643), (.str (S "/claim/cut.py") 2644), (.int 154 0), (.int 1 0), (.int 0 0), (.int 0 0), (.int 3 0), (.ref 312), (.bool true), (.int 276 0), (.ref 313), .none, (.ref 314), (.ref 315), (.ref 316), (.int 2658 0), (.int 154 0), (.str (S "/claim/cut.py") 2659)]), #[]⟩
noncomputable def o318_0 (P : Params) : Obj := ⟨(.type "function"), none, (.func { name := (S "_law_replies"), qualname := (S "_law_replies"), params := fnP (stm 21), body := .stmts (fnB (stm 21)), scope := fnS (stm 21), globals := 3, closure := [], defaults := .none, kwdefaults := .none, doc := .none, pyModule := (.str (S "law_wf0102_01") 2613), annotations := none, code := (.ref 317), closureTuple := .none, builtins := 0 }), #[]⟩
noncomputable def o319_0 (P : Params) : Obj := ⟨(.type "tuple"), none, (.seq #[] 0), #[]⟩
noncomputable def o320_0 (P : Params) : Obj := ⟨.none, none, (.fields #[]), #[]⟩
noncomputable def o321_0 (P : Params) : Obj := ⟨.none, none, (.func { name := (S "_law_prepared"), qualname := (S "_law_prepared"), params := fnP (stm 22), body := .stmts (fnB (stm 22)), scope := fnS (stm 22), globals := 0, closure := [], defaults := .none, kwdefaults := .none, doc := .none, pyModule := .none, annotations := none, code := .none, closureTuple := .none, builtins := 0 }), #[]⟩
noncomputable def o322_0 (P : Params) : Obj := ⟨(.type "code"), none, (.fields #[(.str (S "_law_prepared") 2661), (.str (S "_law_prepared") 2662), (.str (S "/claim/cut.py") 2663), (.int 179 0), (.int 1 0), (.int 0 0), (.int 0 0), (.int 3 0), (.ref 319), (.bool true), (.int 276 0), (.ref 320), .none, .none, .none, (.ref 321), (.int 2664 0), (.int 179 0), (.str (S "/claim/cut.py") 2665)]), #[]⟩
noncomputable def o323_0 (P : Params) : Obj := ⟨(.type "function"), none, (.func { name := (S "_law_prepared"), qualname := (S "_law_prepared"), params := fnP (stm 22), body := .stmts (fnB (stm 22)), scope := fnS (stm 22), globals := 3, closure := [], defaults := .none, kwdefaults := .none, doc := .none, pyModule := (.str (S "law_wf0102_01") 2613), annotations := none, code := (.ref 322), closureTuple := .none, builtins := 0 }), #[]⟩
noncomputable def o324_0 (P : Params) : Obj := ⟨(.type "tuple"), none, (.seq #[] 0), #[]⟩
noncomputable def o325_0 (P : Params) : Obj := ⟨.none, none, (.fields #[]), #[]⟩
noncomputable def o326_0 (P : Params) : Obj := ⟨(.type "tuple"), none, (.seq #[(.str (S "table") 2670), (.str (S "name") 2671), (.str (S "port") 2672), (.str (S "held") 2673)] 0), #[]⟩
noncomputable def o327_0 (P : Params) : Obj := ⟨(.type "tuple"), none, (.seq #[] 0), #[]⟩
noncomputable def o328_0 (P : Params) : Obj := ⟨.none, none, (.func { name := (S "_law_learn"), qualname := (S "_law_learn"), params := fnP (stm 23), body := .stmts (fnB (stm 23)), scope := fnS (stm 23), globals := 0, closure := [], defaults := .none, kwdefaults := .none, doc := .none, pyModule := .none, annotations := none, code := .none, closureTuple := .none, builtins := 0 }), #[]⟩
noncomputable def o329_0 (P : Params) : Obj := ⟨(.type "code"), none, (.fields #[(.str (S "_law_learn") 2667), (.str (S "_law_learn") 2668), (.str (S "/claim/cut.py") 2669), (.int 181 0), (.int 3 0), (.int 0 0), (.int 0 0), (.int 3 0), (.ref 324), (.bool true), (.int 276 0), (.ref 325), .none, (.ref 326), (.ref 327), (.ref 328), (.int 2674 0), (.int 181 0), (.str (S "/claim/cut.py") 2675)]), #[]⟩
noncomputable def o330_0 (P : Params) : Obj := ⟨(.type "function"), none, (.func { name := (S "_law_learn"), qualname := (S "_law_learn"), params := fnP (stm 23), body := .stmts (fnB (stm 23)), scope := fnS (stm 23), globals := 3, closure := [], defaults := .none, kwdefaults := .none, doc := .none, pyModule := (.str (S "law_wf0102_01") 2613), annotations := none, code := (.ref 329), closureTuple := .none, builtins := 0 }), #[]⟩
noncomputable def T22 (P : Params) : BT := (.node (o0_0 P) (.node (o1_0 P) (.node (o3_9 P) (.node (o7_0 P) (.node (o15_0 P) (.node (o31_0 P) (.node (o63_0 P) (.node (o127_0 P) (.node (o255_0 P) .nil .nil) .nil) (.node (o191_0 P) (.node (o319_0 P) .nil .nil) .nil)) (.node (o95_0 P) (.node (o159_0 P) (.node (o287_0 P) .nil .nil) .nil) (.node (o223_0 P) .nil .nil))) (.node (o47_0 P) (.node (o79_0 P) (.node (o143_0 P) (.node (o271_0 P) .nil .nil) .nil) (.node (o207_0 P) .nil .nil)) (.node (o111_0 P) (.node (o175_0 P) (.node (o303_0 P) .nil .nil) .nil) (.node (o239_0 P) .nil .nil)))) (.node (o23_0 P) (.node (o39_0 P) (.node (o71_0 P) (.node (o135_0 P) (.node (o263_0 P) .nil .nil) .nil) (.node (o199_0 P) (.node (o327_0 P) .nil .nil) .nil)) (.node (o103_0 P) (.node (o167_0 P) (.node (o295_0 P) .nil .nil) .nil) (.node (o231_0 P) .nil .nil))) (.node (o55_0 P) (.node (o87_0 P) (.node (o151_0 P) (.node (o279_0 P) .nil .nil) .nil) (.node (o215_0 P) .nil .nil)) (.node (o119_0 P) (.node (o183_0 P) (.node (o311_0 P) .nil .nil) .nil) (.node (o247_0 P) .nil .nil))))) (.node (o11_1 P) (.node (o19_0 P) (.node (o35_0 P) (.node (o67_0 P) (.node (o131_0 P) (.node (o259_0 P) .nil .nil) .nil) (.node (o195_0 P) (.node (o323_0 P) .nil .nil) .nil)) (.node (o99_0 P) (.node (o163_0 P) (.node (o291_0 P) .nil .nil) .nil) (.node (o227_0 P) .nil .nil))) (.node (o51_0 P) (.node (o83_0 P) (.node (o147_0 P) (.node (o275_0 P) .nil .nil) .nil) (.node (o211_0 P) .nil .nil)) (.node (o115_0 P) (.node (o179_0 P) (.node (o307_0 P) .nil .nil) .nil) (.node (o243_0 P) .nil .nil)))) (.node (o27_0 P) (.node (o43_0 P) (.node (o75_0 P) (.node (o139_0 P) (.node (o267_0 P) .nil .nil) .nil) (.node (o203_0 P) .nil .nil)) (.node (o107_0 P) (.node (o171_0 P) (.node (o299_0 P) .nil .nil) .nil) (.node (o235_0 P) .nil .nil))) (.node (o59_0 P) (.node (o91_0 P) (.node (o155_0 P) (.node (o283_0 P) .nil .nil) .nil) (.node (o219_0 P) .nil .nil)) (.node (o123_0 P) (.node (o187_0 P) (.node (o315_0 P) .nil .nil) .nil) (.node (o251_0 P) .nil .nil)))))) (.node (o5_0 P) (.node (o9_0 P) (.node (o17_0 P) (.node (o33_0 P) (.node (o65_0 P) (.node (o129_0 P) (.node (o257_0 P) .nil .nil) .nil) (.node (o193_0 P) (.node (o321_0 P) .nil .nil) .nil)) (.node (o97_0 P) (.node (o161_0 P) (.node (o289_0 P) .nil .nil) .nil) (.node (o225_0 P) .nil .nil))) (.node (o49_0 P) (.node (o81_0 P) (.node (o145_0 P) (.node (o273_0 P) .nil .nil) .nil) (.node (o209_0 P) .nil .nil)) (.node (o113_0 P) (.node (o177_0 P) (.node (o305_0 P) .nil .nil) .nil) (.node (o241_0 P) .nil .nil)))) (.node (o25_0 P) (.node (o41_0 P) (.node (o73_0 P) (.node (o137_0 P) (.node (o265_0 P) .nil .nil) .nil) (.node (o201_0 P) (.node (o329_0 P) .nil .nil) .nil)) (.node (o105_0 P) (.node (o169_0 P) (.node (o297_0 P) .nil .nil) .nil) (.node (o233_0 P) .nil .nil))) (.node (o57_0 P) (.node (o89_0 P) (.node (o153_0 P) (.node (o281_0 P) .nil .nil) .nil) (.node (o217_0 P) .nil .nil)) (.node (o121_0 P) (.node (o185_0 P) (.node (o313_0 P) .nil .nil) .nil) (.node (o249_0 P) .nil .nil))))) (.node (o13_0 P) (.node (o21_0 P) (.node (o37_0 P) (.node (o69_0 P) (.node (o133_0 P) (.node (o261_0 P) .nil .nil) .nil) (.node (o197_0 P) (.node (o325_0 P) .nil .nil) .nil)) (.node (o101_0 P) (.node (o165_0 P) (.node (o293_0 P) .nil .nil) .nil) (.node (o229_0 P) .nil .nil))) (.node (o53_0 P) (.node (o85_0 P) (.node (o149_0 P) (.node (o277_0 P) .nil .nil) .nil) (.node (o213_0 P) .nil .nil)) (.node (o117_0 P) (.node (o181_0 P) (.node (o309_0 P) .nil .nil) .nil) (.node (o245_0 P) .nil .nil)))) (.node (o29_7 P) (.node (o45_0 P) (.node (o77_0 P) (.node (o141_0 P) (.node (o269_0 P) .nil .nil) .nil) (.node (o205_0 P) .nil .nil)) (.node (o109_0 P) (.node (o173_0 P) (.node (o301_0 P) .nil .nil) .nil) (.node (o237_0 P) .nil .nil))) (.node (o61_0 P) (.node (o93_0 P) (.node (o157_0 P) (.node (o285_0 P) .nil .nil) .nil) (.node (o221_0 P) .nil .nil)) (.node (o125_0 P) (.node (o189_0 P) (.node (o317_0 P) .nil .nil) .nil) (.node (o253_0 P) .nil .nil))))))) (.node (o2_1 P) (.node (o4_0 P) (.node (o8_0 P) (.node (o16_0 P) (.node (o32_0 P) (.node (o64_0 P) (.node (o128_0 P) (.node (o256_0 P) .nil .nil) .nil) (.node (o192_0 P) (.node (o320_0 P) .nil .nil) .nil)) (.node (o96_0 P) (.node (o160_0 P) (.node (o288_0 P) .nil .nil) .nil) (.node (o224_0 P) .nil .nil))) (.node (o48_1 P) (.node (o80_0 P) (.node (o144_0 P) (.node (o272_0 P) .nil .nil) .nil) (.node (o208_0 P) .nil .nil)) (.node (o112_0 P) (.node (o176_0 P) (.node (o304_0 P) .nil .nil) .nil) (.node (o240_0 P) .nil .nil)))) (.node (o24_0 P) (.node (o40_0 P) (.node (o72_0 P) (.node (o136_0 P) (.node (o264_0 P) .nil .nil) .nil) (.node (o200_0 P) (.node (o328_0 P) .nil .nil) .nil)) (.node (o104_0 P) (.node (o168_0 P) (.node (o296_0 P) .nil .nil) .nil) (.node (o232_0 P) .nil .nil))) (.node (o56_0 P) (.node (o88_0 P) (.node (o152_0 P) (.node (o280_0 P) .nil .nil) .nil) (.node (o216_0 P) .nil .nil)) (.node (o120_0 P) (.node (o184_0 P) (.node (o312_0 P) .nil .nil) .nil) (.node (o248_0 P) .nil .nil))))) (.node (o12_0 P) (.node (o20_0 P) (.node (o36_0 P) (.node (o68_0 P) (.node (o132_0 P) (.node (o260_0 P) .nil .nil) .nil) (.node (o196_0 P) (.node (o324_0 P) .nil .nil) .nil)) (.node (o100_0 P) (.node (o164_0 P) (.node (o292_0 P) .nil .nil) .nil) (.node (o228_0 P) .nil .nil))) (.node (o52_0 P) (.node (o84_0 P) (.node (o148_0 P) (.node (o276_0 P) .nil .nil) .nil) (.node (o212_0 P) .nil .nil)) (.node (o116_0 P) (.node (o180_0 P) (.node (o308_0 P) .nil .nil) .nil) (.node (o244_0 P) .nil .nil)))) (.node (o28_0 P) (.node (o44_0 P) (.node (o76_0 P) (.node (o140_0 P) (.node (o268_0 P) .nil .nil) .nil) (.node (o204_0 P) .nil .nil)) (.node (o108_0 P) (.node (o172_0 P) (.node (o300_0 P) .nil .nil) .nil) (.node (o236_0 P) .nil .nil))) (.node (o60_0 P) (.node (o92_0 P) (.node (o156_0 P) (.node (o284_0 P) .nil .nil) .nil) (.node (o220_0 P) .nil .nil)) (.node (o124_0 P) (.node (o188_0 P) (.node (o316_0 P) .nil .nil) .nil) (.node (o252_0 P) .nil .nil)))))) (.node (o6_0 P) (.node (o10_0 P) (.node (o18_0 P) (.node (o34_0 P) (.node (o66_0 P) (.node (o130_0 P) (.node (o258_0 P) .nil .nil) .nil) (.node (o194_0 P) (.node (o322_0 P) .nil .nil) .nil)) (.node (o98_0 P) (.node (o162_0 P) (.node (o290_0 P) .nil .nil) .nil) (.node (o226_0 P) .nil .nil))) (.node (o50_0 P) (.node (o82_0 P) (.node (o146_0 P) (.node (o274_0 P) .nil .nil) .nil) (.node (o210_0 P) .nil .nil)) (.node (o114_0 P) (.node (o178_0 P) (.node (o306_0 P) .nil .nil) .nil) (.node (o242_0 P) .nil .nil)))) (.node (o26_0 P) (.node (o42_0 P) (.node (o74_0 P) (.node (o138_0 P) (.node (o266_0 P) .nil .nil) .nil) (.node (o202_0 P) (.node (o330_0 P) .nil .nil) .nil)) (.node (o106_0 P) (.node (o170_0 P) (.node (o298_0 P) .nil .nil) .nil) (.node (o234_0 P) .nil .nil))) (.node (o58_0 P) (.node (o90_0 P) (.node (o154_0 P) (.node (o282_0 P) .nil .nil) .nil) (.node (o218_0 P) .nil .nil)) (.node (o122_0 P) (.node (o186_0 P) (.node (o314_0 P) .nil .nil) .nil) (.node (o250_0 P) .nil .nil))))) (.node (o14_0 P) (.node (o22_0 P) (.node (o38_0 P) (.node (o70_0 P) (.node (o134_0 P) (.node (o262_0 P) .nil .nil) .nil) (.node (o198_0 P) (.node (o326_0 P) .nil .nil) .nil)) (.node (o102_0 P) (.node (o166_0 P) (.node (o294_0 P) .nil .nil) .nil) (.node (o230_0 P) .nil .nil))) (.node (o54_0 P) (.node (o86_0 P) (.node (o150_0 P) (.node (o278_0 P) .nil .nil) .nil) (.node (o214_0 P) .nil .nil)) (.node (o118_0 P) (.node (o182_0 P) (.node (o310_0 P) .nil .nil) .nil) (.node (o246_0 P) .nil .nil)))) (.node (o30_0 P) (.node (o46_0 P) (.node (o78_0 P) (.node (o142_0 P) (.node (o270_0 P) .nil .nil) .nil) (.node (o206_0 P) .nil .nil)) (.node (o110_0 P) (.node (o174_0 P) (.node (o302_0 P) .nil .nil) .nil) (.node (o238_0 P) .nil .nil))) (.node (o62_0 P) (.node (o94_0 P) (.node (o158_0 P) (.node (o286_0 P) .nil .nil) .nil) (.node (o222_0 P) .nil .nil)) (.node (o126_0 P) (.node (o190_0 P) (.node (o318_0 P) .nil .nil) .nil) (.node (o254_0 P) .nil .nil))))))))
noncomputable abbrev S22 (P : Params) (os : OsState) : SharedT := ⟨T22 P, 331, {}, #[], {}, 2677, os⟩
noncomputable def o3_10 (P : Params) : Obj := ⟨(.type "dict"), none, (.dict #[⟨PyData.keyHash P (S "__name__"), (.str (S "__name__") 165), (.str (S "law_wf0102_01") 2613)⟩, ⟨PyData.keyHash P (S "__doc__"), (.str (S "__doc__") 166), .none⟩, ⟨PyData.keyHash P (S "__package__"), (.str (S "__package__") 167), .none⟩, ⟨PyData.keyHash P (S "__loader__"), (.str (S "__loader__") 168), (.builtin "__main__.__loader__#opaque")⟩, ⟨PyData.keyHash P (S "__spec__"), (.str (S "__spec__") 169), .none⟩, ⟨PyData.keyHash P (S "__annotations__"), (.str (S "__annotations__") 170), (.ref 6)⟩, ⟨PyData.keyHash P (S "__builtins__"), (.str (S "__builtins__") 171), (.ref 4)⟩, ⟨PyData.keyHash P (S "__file__"), (.str (S "__file__") 173), (.str (S "/claim/cut.py") 172)⟩, ⟨PyData.keyHash P (S "__cached__"), (.str (S "__cached__") 174), .none⟩, ⟨PyData.keyHash P (S "_sre"), (.str (S "_sre") 275), (.ref 12)⟩, ⟨PyData.keyHash P (S "_wall"), (.str (S "_wall") 288), (.ref 38)⟩, ⟨PyData.keyHash P (S "Error"), (.str (S "Error") 310), (.ref 48)⟩, ⟨PyData.keyHash P (S "error_reply"), (.str (S "error_reply") 326), (.ref 61)⟩, ⟨PyData.keyHash P (S "error_proto"), (.str (S "error_proto") 342), (.ref 73)⟩, ⟨PyData.keyHash P (S "parse229"), (.str (S "parse229") 355), (.ref 82)⟩, ⟨PyData.keyHash P (S "parse257"), (.str (S "parse257") 366), (.ref 89)⟩, ⟨PyData.keyHash P (S "b1_set"), (.str (S "b1_set") 428), (.ref 97)⟩, ⟨PyData.keyHash P (S "in_table_b1"), (.str (S "in_table_b1") 435), (.ref 107)⟩, ⟨PyData.keyHash P (S "b3_exceptions"), (.str (S "b3_exceptions") 2386), (.ref 108)⟩, ⟨PyData.keyHash P (S "map_table_b3"), (.str (S "map_table_b3") 2394), (.ref 153)⟩, ⟨PyData.keyHash P (S "_name_disallowed_re"), (.str (S "_name_disallowed_re") 2422), (.ref 158)⟩, ⟨PyData.keyHash P (S "_value_disallowed_re"), (.str (S "_value_disallowed_re") 2456), (.ref 163)⟩, ⟨PyData.keyHash P (S "Headers"), (.str (S "Headers") 2612), (.ref 286)⟩, ⟨PyData.keyHash P (S "_law_deeds"), (.str (S "_law_deeds") 2624), (.ref 297)⟩, ⟨PyData.keyHash P (S "_law_name"), (.str (S "_law_name") 2631), (.ref 304)⟩, ⟨PyData.keyHash P (S "_law_spelled"), (.str (S "_law_spelled") 2641), (.ref 311)⟩, ⟨PyData.keyHash P (S "_law_replies"), (.str (S "_law_replies") 2660), (.ref 318)⟩, ⟨PyData.keyHash P (S "_law_prepared"), (.str (S "_law_prepared") 2666), (.ref 323)⟩, ⟨PyData.keyHash P (S "_law_learn"), (.str (S "_law_learn") 2676), (.ref 330)⟩, ⟨PyData.keyHash P (S "_law_hear"), (.str (S "_law_hear") 2688), (.ref 337)⟩, ⟨PyData.keyHash P (S "_law_tell"), (.str (S "_law_tell") 2702), (.ref 344)⟩, ⟨PyData.keyHash P (S "_law_answer"), (.str (S "_law_answer") 2709), (.ref 351)⟩, ⟨PyData.keyHash P (S "_law_reached"), (.str (S "_law_reached") 2715), (.ref 356)⟩, ⟨PyData.keyHash P (S "law"), (.str (S "law") 2721), (.ref 361)⟩] 34), #[]⟩
noncomputable def o29_8 (P : Params) : Obj := ⟨.none, none, (.fields #[(.int 2 0), (.int 0 0), (.ref 37), (.int 6 0), (.int 0 0), (.ref 44), (.int 8 0), (.int 0 0), (.ref 57), (.int 10 0), (.int 0 0), (.ref 69), (.int 12 0), (.int 0 0), (.ref 81), (.int 29 0), (.int 0 0), (.ref 88), (.int 48 0), (.int 0 0), (.ref 106), (.int 51 0), (.int 0 0), (.ref 152), (.int 59 0), (.int 0 0), (.ref 169), (.int 130 0), (.int 0 0), (.ref 296), (.int 139 0), (.int 0 0), (.ref 303), (.int 141 0), (.int 0 0), (.ref 310), (.int 154 0), (.int 0 0), (.ref 317), (.int 179 0), (.int 0 0), (.ref 322), (.int 181 0), (.int 0 0), (.ref 329), (.int 185 0), (.int 0 0), (.ref 336), (.int 197 0), (.int 0 0), (.ref 343), (.int 203 0), (.int 0 0), (.ref 350), (.int 207 0), (.int 0 0), (.ref 355), (.int 218 0), (.int 0 0), (.ref 360)]), #[]⟩
noncomputable def o331_0 (P : Params) : Obj := ⟨(.type "tuple"), none, (.seq #[] 0), #[]⟩
noncomputable def o332_0 (P : Params) : Obj := ⟨.none, none, (.fields #[]), #[]⟩
noncomputable def o333_0 (P : Params) : Obj := ⟨(.type "tuple"), none, (.seq #[(.str (S "table") 2680), (.str (S "named") 2681), (.str (S "ported") 2682), (.str (S "name") 2683), (.str (S "host") 2684), (.str (S "port") 2685)] 0), #[]⟩
noncomputable def o334_0 (P : Params) : Obj := ⟨(.type "tuple"), none, (.seq #[] 0), #[]⟩
noncomputable def o335_0 (P : Params) : Obj := ⟨.none, none, (.func { name := (S "_law_hear"), qualname := (S "_law_hear"), params := fnP (stm 24), body := .stmts (fnB (stm 24)), scope := fnS (stm 24), globals := 0, closure := [], defaults := .none, kwdefaults := .none, doc := .none, pyModule := .none, annotations := none, code := .none, closureTuple := .none, builtins := 0 }), #[]⟩
noncomputable def o336_0 (P : Params) : Obj := ⟨(.type "code"), none, (.fields #[(.str (S "_law_hear") 2677), (.str (S "_law_hear") 2678), (.str (S "/claim/cut.py") 2679), (.int 185 0), (.int 3 0), (.int 0 0), (.int 0 0), (.int 3 0), (.ref 331), (.bool true), (.int 276 0), (.ref 332), .none, (.ref 333), (.ref 334), (.ref 335), (.int 2686 0), (.int 185 0), (.str (S "/claim/cut.py") 2687)]), #[]⟩
noncomputable def o337_0 (P : Params) : Obj := ⟨(.type "function"), none, (.func { name := (S "_law_hear"), qualname := (S "_law_hear"), params := fnP (stm 24), body := .stmts (fnB (stm 24)), scope := fnS (stm 24), globals := 3, closure := [], defaults := .none, kwdefaults := .none, doc := .none, pyModule := (.str (S "law_wf0102_01") 2613), annotations := none, code := (.ref 336), closureTuple := .none, builtins := 0 }), #[]⟩
noncomputable def o338_0 (P : Params) : Obj := ⟨(.type "tuple"), none, (.seq #[] 0), #[]⟩
noncomputable def o339_0 (P : Params) : Obj := ⟨.none, none, (.fields #[]), #[]⟩
noncomputable def o340_0 (P : Params) : Obj := ⟨(.type "tuple"), none, (.seq #[(.str (S "teller") 2692), (.str (S "hearer") 2693), (.str (S "page") 2694), (.str (S "told") 2695), (.str (S "row") 2696), (.str (S "name") 2697), (.str (S "colon") 2698), (.str (S "port") 2699)] 0), #[]⟩
noncomputable def o341_0 (P : Params) : Obj := ⟨(.type "tuple"), none, (.seq #[] 0), #[]⟩
noncomputable def o342_0 (P : Params) : Obj := ⟨.none, none, (.func { name := (S "_law_tell"), qualname := (S "_law_tell"), params := fnP (stm 25), body := .stmts (fnB (stm 25)), scope := fnS (stm 25), globals := 0, closure := [], defaults := .none, kwdefaults := .none, doc := .none, pyModule := .none, annotations := none, code := .none, closureTuple := .none, builtins := 0 }), #[]⟩
noncomputable def o343_0 (P : Params) : Obj := ⟨(.type "code"), none, (.fields #[(.str (S "_law_tell") 2689), (.str (S "_law_tell") 2690), (.str (S "/claim/cut.py") 2691), (.int 197 0), (.int 2 0), (.int 0 0), (.int 0 0), (.int 3 0), (.ref 338), (.bool true), (.int 276 0), (.ref 339), .none, (.ref 340), (.ref 341), (.ref 342), (.int 2700 0), (.int 197 0), (.str (S "/claim/cut.py") 2701)]), #[]⟩
noncomputable def o344_0 (P : Params) : Obj := ⟨(.type "function"), none, (.func { name := (S "_law_tell"), qualname := (S "_law_tell"), params := fnP (stm 25), body := .stmts (fnB (stm 25)), scope := fnS (stm 25), globals := 3, closure := [], defaults := .none, kwdefaults := .none, doc := .none, pyModule := (.str (S "law_wf0102_01") 2613), annotations := none, code := (.ref 343), closureTuple := .none, builtins := 0 }), #[]⟩
noncomputable def o345_0 (P : Params) : Obj := ⟨(.type "tuple"), none, (.seq #[] 0), #[]⟩
noncomputable def o346_0 (P : Params) : Obj := ⟨.none, none, (.fields #[]), #[]⟩
noncomputable def o347_0 (P : Params) : Obj := ⟨(.type "tuple"), none, (.seq #[(.str (S "fault") 2706)] 0), #[]⟩
noncomputable def o348_0 (P : Params) : Obj := ⟨(.type "tuple"), none, (.seq #[] 0), #[]⟩
noncomputable def o349_0 (P : Params) : Obj := ⟨.none, none, (.func { name := (S "_law_answer"), qualname := (S "_law_answer"), params := fnP (stm 26), body := .stmts (fnB (stm 26)), scope := fnS (stm 26), globals := 0, closure := [], defaults := .none, kwdefaults := .none, doc := .none, pyModule := .none, annotations := none, code := .none, closureTuple := .none, builtins := 0 }), #[]⟩
noncomputable def o350_0 (P : Params) : Obj := ⟨(.type "code"), none, (.fields #[(.str (S "_law_answer") 2703), (.str (S "_law_answer") 2704), (.str (S "/claim/cut.py") 2705), (.int 203 0), (.int 1 0), (.int 0 0), (.int 0 0), (.int 3 0), (.ref 345), (.bool true), (.int 276 0), (.ref 346), .none, (.ref 347), (.ref 348), (.ref 349), (.int 2707 0), (.int 203 0), (.str (S "/claim/cut.py") 2708)]), #[]⟩
noncomputable def o351_0 (P : Params) : Obj := ⟨(.type "function"), none, (.func { name := (S "_law_answer"), qualname := (S "_law_answer"), params := fnP (stm 26), body := .stmts (fnB (stm 26)), scope := fnS (stm 26), globals := 3, closure := [], defaults := .none, kwdefaults := .none, doc := .none, pyModule := (.str (S "law_wf0102_01") 2613), annotations := none, code := (.ref 350), closureTuple := .none, builtins := 0 }), #[]⟩
noncomputable def o352_0 (P : Params) : Obj := ⟨(.type "tuple"), none, (.seq #[] 0), #[]⟩
noncomputable def o353_0 (P : Params) : Obj := ⟨.none, none, (.fields #[]), #[]⟩
noncomputable def o354_0 (P : Params) : Obj := ⟨.none, none, (.func { name := (S "_law_reached"), qualname := (S "_law_reached"), params := fnP (stm 27), body := .stmts (fnB (stm 27)), scope := fnS (stm 27), globals := 0, closure := [], defaults := .none, kwdefaults := .none, doc := .none, pyModule := .none, annotations := none, code := .none, closureTuple := .none, builtins := 0 }), #[]⟩
noncomputable def o355_0 (P : Params) : Obj := ⟨(.type "code"), none, (.fields #[(.str (S "_law_reached") 2710), (.str (S "_law_reached") 2711), (.str (S "/claim/cut.py") 2712), (.int 207 0), (.int 2 0), (.int 0 0), (.int 0 0), (.int 3 0), (.ref 352), (.bool true), (.int 276 0), (.ref 353), .none, .none, .none, (.ref 354), (.int 2713 0), (.int 207 0), (.str (S "/claim/cut.py") 2714)]), #[]⟩
noncomputable def o356_0 (P : Params) : Obj := ⟨(.type "function"), none, (.func { name := (S "_law_reached"), qualname := (S "_law_reached"), params := fnP (stm 27), body := .stmts (fnB (stm 27)), scope := fnS (stm 27), globals := 3, closure := [], defaults := .none, kwdefaults := .none, doc := .none, pyModule := (.str (S "law_wf0102_01") 2613), annotations := none, code := (.ref 355), closureTuple := .none, builtins := 0 }), #[]⟩
noncomputable def o357_0 (P : Params) : Obj := ⟨(.type "tuple"), none, (.seq #[] 0), #[]⟩
noncomputable def o358_0 (P : Params) : Obj := ⟨.none, none, (.fields #[]), #[]⟩
noncomputable def o359_0 (P : Params) : Obj := ⟨.none, none, (.func { name := (S "law"), qualname := (S "law"), params := fnP (stm 28), body := .stmts (fnB (stm 28)), scope := fnS (stm 28), globals := 0, closure := [], defaults := .none, kwdefaults := .none, doc := .none, pyModule := .none, annotations := none, code := .none, closureTuple := .none, builtins := 0 }), #[]⟩
noncomputable def o360_0 (P : Params) : Obj := ⟨(.type "code"), none, (.fields #[(.str (S "law") 2716), (.str (S "law") 2717), (.str (S "/claim/cut.py") 2718), (.int 218 0), (.int 1 0), (.int 0 0), (.int 0 0), (.int 3 0), (.ref 357), (.bool true), (.int 276 0), (.ref 358), .none, .none, .none, (.ref 359), (.int 2719 0), (.int 218 0), (.str (S "/claim/cut.py") 2720)]), #[]⟩
noncomputable def o361_0 (P : Params) : Obj := ⟨(.type "function"), none, (.func { name := (S "law"), qualname := (S "law"), params := fnP (stm 28), body := .stmts (fnB (stm 28)), scope := fnS (stm 28), globals := 3, closure := [], defaults := .none, kwdefaults := .none, doc := .none, pyModule := (.str (S "law_wf0102_01") 2613), annotations := none, code := (.ref 360), closureTuple := .none, builtins := 0 }), #[]⟩
noncomputable def T27 (P : Params) : BT := (.node (o0_0 P) (.node (o1_0 P) (.node (o3_10 P) (.node (o7_0 P) (.node (o15_0 P) (.node (o31_0 P) (.node (o63_0 P) (.node (o127_0 P) (.node (o255_0 P) .nil .nil) .nil) (.node (o191_0 P) (.node (o319_0 P) .nil .nil) .nil)) (.node (o95_0 P) (.node (o159_0 P) (.node (o287_0 P) .nil .nil) .nil) (.node (o223_0 P) (.node (o351_0 P) .nil .nil) .nil))) (.node (o47_0 P) (.node (o79_0 P) (.node (o143_0 P) (.node (o271_0 P) .nil .nil) .nil) (.node (o207_0 P) (.node (o335_0 P) .nil .nil) .nil)) (.node (o111_0 P) (.node (o175_0 P) (.node (o303_0 P) .nil .nil) .nil) (.node (o239_0 P) .nil .nil)))) (.node (o23_0 P) (.node (o39_0 P) (.node (o71_0 P) (.node (o135_0 P) (.node (o263_0 P) .nil .nil) .nil) (.node (o199_0 P) (.node (o327_0 P) .nil .nil) .nil)) (.node (o103_0 P) (.node (o167_0 P) (.node (o295_0 P) .nil .nil) .nil) (.node (o231_0 P) (.node (o359_0 P) .nil .nil) .nil))) (.node (o55_0 P) (.node (o87_0 P) (.node (o151_0 P) (.node (o279_0 P) .nil .nil) .nil) (.node (o215_0 P) (.node (o343_0 P) .nil .nil) .nil)) (.node (o119_0 P) (.node (o183_0 P) (.node (o311_0 P) .nil .nil) .nil) (.node (o247_0 P) .nil .nil))))) (.node (o11_1 P) (.node (o19_0 P) (.node (o35_0 P) (.node (o67_0 P) (.node (o131_0 P) (.node (o259_0 P) .nil .nil) .nil) (.node (o195_0 P) (.node (o323_0 P) .nil .nil) .nil)) (.node (o99_0 P) (.node (o163_0 P) (.node (o291_0 P) .nil .nil) .nil) (.node (o227_0 P) (.node (o355_0 P) .nil .nil) .nil))) (.node (o51_0 P) (.node (o83_0 P) (.node (o147_0 P) (.node (o275_0 P) .nil .nil) .nil) (.node (o211_0 P) (.node (o339_0 P) .nil .nil) .nil)) (.node (o115_0 P) (.node (o179_0 P) (.node (o307_0 P) .nil .nil) .nil) (.node (o243_0 P) .nil .nil)))) (.node (o27_0 P) (.node (o43_0 P) (.node (o75_0 P) (.node (o139_0 P) (.node (o267_0 P) .nil .nil) .nil) (.node (o203_0 P) (.node (o331_0 P) .nil .nil) .nil)) (.node (o107_0 P) (.node (o171_0 P) (.node (o299_0 P) .nil .nil) .nil) (.node (o235_0 P) .nil .nil))) (.node (o59_0 P) (.node (o91_0 P) (.node (o155_0 P) (.node (o283_0 P) .nil .nil) .nil) (.node (o219_0 P) (.node (o347_0 P) .nil .nil) .nil)) (.node (o123_0 P) (.node (o187_0 P) (.node (o315_0 P) .nil .nil) .nil) (.node (o251_0 P) .nil .nil)))))) (.node (o5_0 P) (.node (o9_0 P) (.node (o17_0 P) (.node (o33_0 P) (.node (o65_0 P) (.node (o129_0 P) (.node (o257_0 P) .nil .nil) .nil) (.node (o193_0 P) (.node (o321_0 P) .nil .nil) .nil)) (.node (o97_0 P) (.node (o161_0 P) (.node (o289_0 P) .nil .nil) .nil) (.node (o225_0 P) (.node (o353_0 P) .nil .nil) .nil))) (.node (o49_0 P) (.node (o81_0 P) (.node (o145_0 P) (.node (o273_0 P) .nil .nil) .nil) (.node (o209_0 P) (.node (o337_0 P) .nil .nil) .nil)) (.node (o113_0 P) (.node (o177_0 P) (.node (o305_0 P) .nil .nil) .nil) (.node (o241_0 P) .nil .nil)))) (.node (o25_0 P) (.node (o41_0 P) (.node (o73_0 P) (.node (o137_0 P) (.node (o265_0 P) .nil .nil) .nil) (.node (o201_0 P) (.node (o329_0 P) .nil .nil) .nil)) (.node (o105_0 P) (.node (o169_0 P) (.node (o297_0 P) .nil .nil) .nil) (.node (o233_0 P) (.node (o361_0 P) .nil .nil) .nil))) (.node (o57_0 P) (.node (o89_0 P) (.node (o153_0 P) (.node (o281_0 P) .nil .nil) .nil) (.node (o217_0 P) (.node (o345_0 P) .nil .nil) .nil)) (.node (o121_0 P) (.node (o185_0 P) (.node (o313_0 P) .nil .nil) .nil) (.node (o249_0 P) .nil .nil))))) (.node (o13_0 P) (.node (o21_0 P) (.node (o37_0 P) (.node (o69_0 P) (.node (o133_0 P) (.node (o261_0 P) .nil .nil) .nil) (.node (o197_0 P) (.node (o325_0 P) .nil .nil) .nil)) (.node (o101_0 P) (.node (o165_0 P) (.node (o293_0 P) .nil .nil) .nil) (.node (o229_0 P) (.node (o357_0 P) .nil .nil) .nil))) (.node (o53_0 P) (.node (o85_0 P) (.node (o149_0 P) (.node (o277_0 P) .nil .nil) .nil) (.node (o213_0 P) (.node (o341_0 P) .nil .nil) .nil)) (.node (o117_0 P) (.node (o181_0 P) (.node (o309_0 P) .nil .nil) .nil) (.node (o245_0 P) .nil .nil)))) (.node (o29_8 P) (.node (o45_0 P) (.node (o77_0 P) (.node (o141_0 P) (.node (o269_0 P) .nil .nil) .nil) (.node (o205_0 P) (.node (o333_0 P) .nil .nil) .nil)) (.node (o109_0 P) (.node (o173_0 P) (.node (o301_0 P) .nil .nil) .nil) (.node (o237_0 P) .nil .nil))) (.node (o61_0 P) (.node (o93_0 P) (.node (o157_0 P) (.node (o285_0 P) .nil .nil) .nil) (.node (o221_0 P) (.node (o349_0 P) .nil .nil) .nil)) (.node (o125_0 P) (.node (o189_0 P) (.node (o317_0 P) .nil .nil) .nil) (.node (o253_0 P) .nil .nil))))))) (.node (o2_1 P) (.node (o4_0 P) (.node (o8_0 P) (.node (o16_0 P) (.node (o32_0 P) (.node (o64_0 P) (.node (o128_0 P) (.node (o256_0 P) .nil .nil) .nil) (.node (o192_0 P) (.node (o320_0 P) .nil .nil) .nil)) (.node (o96_0 P) (.node (o160_0 P) (.node (o288_0 P) .nil .nil) .nil) (.node (o224_0 P) (.node (o352_0 P) .nil .nil) .nil))) (.node (o48_1 P) (.node (o80_0 P) (.node (o144_0 P) (.node (o272_0 P) .nil .nil) .nil) (.node (o208_0 P) (.node (o336_0 P) .nil .nil) .nil)) (.node (o112_0 P) (.node (o176_0 P) (.node (o304_0 P) .nil .nil) .nil) (.node (o240_0 P) .nil .nil)))) (.node (o24_0 P) (.node (o40_0 P) (.node (o72_0 P) (.node (o136_0 P) (.node (o264_0 P) .nil .nil) .nil) (.node (o200_0 P) (.node (o328_0 P) .nil .nil) .nil)) (.node (o104_0 P) (.node (o168_0 P) (.node (o296_0 P) .nil .nil) .nil) (.node (o232_0 P) (.node (o360_0 P) .nil .nil) .nil))) (.node (o56_0 P) (.node (o88_0 P) (.node (o152_0 P) (.node (o280_0 P) .nil .nil) .nil) (.node (o216_0 P) (.node (o344_0 P) .nil .nil) .nil)) (.node (o120_0 P) (.node (o184_0 P) (.node (o312_0 P) .nil .nil) .nil) (.node (o248_0 P) .nil .nil))))) (.node (o12_0 P) (.node (o20_0 P) (.node (o36_0 P) (.node (o68_0 P) (.node (o132_0 P) (.node (o260_0 P) .nil .nil) .nil) (.node (o196_0 P) (.node (o324_0 P) .nil .nil) .nil)) (.node (o100_0 P) (.node (o164_0 P) (.node (o292_0 P) .nil .nil) .nil) (.node (o228_0 P) (.node (o356_0 P) .nil .nil) .nil))) (.node (o52_0 P) (.node (o84_0 P) (.node (o148_0 P) (.node (o276_0 P) .nil .nil) .nil) (.node (o212_0 P) (.node (o340_0 P) .nil .nil) .nil)) (.node (o116_0 P) (.node (o180_0 P) (.node (o308_0 P) .nil .nil) .nil) (.node (o244_0 P) .nil .nil)))) (.node (o28_0 P) (.node (o44_0 P) (.node (o76_0 P) (.node (o140_0 P) (.node (o268_0 P) .nil .nil) .nil) (.node (o204_0 P) (.node (o332_0 P) .nil .nil) .nil)) (.node (o108_0 P) (.node (o172_0 P) (.node (o300_0 P) .nil .nil) .nil) (.node (o236_0 P) .nil .nil))) (.node (o60_0 P) (.node (o92_0 P) (.node (o156_0 P) (.node (o284_0 P) .nil .nil) .nil) (.node (o220_0 P) (.node (o348_0 P) .nil .nil) .nil)) (.node (o124_0 P) (.node (o188_0 P) (.node (o316_0 P) .nil .nil) .nil) (.node (o252_0 P) .nil .nil)))))) (.node (o6_0 P) (.node (o10_0 P) (.node (o18_0 P) (.node (o34_0 P) (.node (o66_0 P) (.node (o130_0 P) (.node (o258_0 P) .nil .nil) .nil) (.node (o194_0 P) (.node (o322_0 P) .nil .nil) .nil)) (.node (o98_0 P) (.node (o162_0 P) (.node (o290_0 P) .nil .nil) .nil) (.node (o226_0 P) (.node (o354_0 P) .nil .nil) .nil))) (.node (o50_0 P) (.node (o82_0 P) (.node (o146_0 P) (.node (o274_0 P) .nil .nil) .nil) (.node (o210_0 P) (.node (o338_0 P) .nil .nil) .nil)) (.node (o114_0 P) (.node (o178_0 P) (.node (o306_0 P) .nil .nil) .nil) (.node (o242_0 P) .nil .nil)))) (.node (o26_0 P) (.node (o42_0 P) (.node (o74_0 P) (.node (o138_0 P) (.node (o266_0 P) .nil .nil) .nil) (.node (o202_0 P) (.node (o330_0 P) .nil .nil) .nil)) (.node (o106_0 P) (.node (o170_0 P) (.node (o298_0 P) .nil .nil) .nil) (.node (o234_0 P) .nil .nil))) (.node (o58_0 P) (.node (o90_0 P) (.node (o154_0 P) (.node (o282_0 P) .nil .nil) .nil) (.node (o218_0 P) (.node (o346_0 P) .nil .nil) .nil)) (.node (o122_0 P) (.node (o186_0 P) (.node (o314_0 P) .nil .nil) .nil) (.node (o250_0 P) .nil .nil))))) (.node (o14_0 P) (.node (o22_0 P) (.node (o38_0 P) (.node (o70_0 P) (.node (o134_0 P) (.node (o262_0 P) .nil .nil) .nil) (.node (o198_0 P) (.node (o326_0 P) .nil .nil) .nil)) (.node (o102_0 P) (.node (o166_0 P) (.node (o294_0 P) .nil .nil) .nil) (.node (o230_0 P) (.node (o358_0 P) .nil .nil) .nil))) (.node (o54_0 P) (.node (o86_0 P) (.node (o150_0 P) (.node (o278_0 P) .nil .nil) .nil) (.node (o214_0 P) (.node (o342_0 P) .nil .nil) .nil)) (.node (o118_0 P) (.node (o182_0 P) (.node (o310_0 P) .nil .nil) .nil) (.node (o246_0 P) .nil .nil)))) (.node (o30_0 P) (.node (o46_0 P) (.node (o78_0 P) (.node (o142_0 P) (.node (o270_0 P) .nil .nil) .nil) (.node (o206_0 P) (.node (o334_0 P) .nil .nil) .nil)) (.node (o110_0 P) (.node (o174_0 P) (.node (o302_0 P) .nil .nil) .nil) (.node (o238_0 P) .nil .nil))) (.node (o62_0 P) (.node (o94_0 P) (.node (o158_0 P) (.node (o286_0 P) .nil .nil) .nil) (.node (o222_0 P) (.node (o350_0 P) .nil .nil) .nil)) (.node (o126_0 P) (.node (o190_0 P) (.node (o318_0 P) .nil .nil) .nil) (.node (o254_0 P) .nil .nil))))))))
noncomputable abbrev S27 (P : Params) (os : OsState) : SharedT := ⟨T27 P, 362, {}, #[], {}, 2722, os⟩
end Mine
end
section
open PySem PySem.W PyProof.Rows
set_option maxRecDepth 100000
set_option linter.unusedVariables false
namespace Mine
noncomputable def k38 (P : Params) : {o : Obj // o38_0 P = o} := by
  have h : o38_0 P = o38_0 P := rfl
  conv at h => rhs; unfold o38_0
  conv at h in (fnB _) => whnf
  conv at h in (fnP _) => whnf
  conv at h in (fnS _) => whnf
  exact ⟨_, h⟩
noncomputable def k82 (P : Params) : {o : Obj // o82_0 P = o} := by
  have h : o82_0 P = o82_0 P := rfl
  conv at h => rhs; unfold o82_0
  conv at h in (fnB _) => whnf
  conv at h in (fnP _) => whnf
  conv at h in (fnS _) => whnf
  exact ⟨_, h⟩
noncomputable def k89 (P : Params) : {o : Obj // o89_0 P = o} := by
  have h : o89_0 P = o89_0 P := rfl
  conv at h => rhs; unfold o89_0
  conv at h in (fnB _) => whnf
  conv at h in (fnP _) => whnf
  conv at h in (fnS _) => whnf
  exact ⟨_, h⟩
noncomputable def k107 (P : Params) : {o : Obj // o107_0 P = o} := by
  have h : o107_0 P = o107_0 P := rfl
  conv at h => rhs; unfold o107_0
  conv at h in (fnB _) => whnf
  conv at h in (fnP _) => whnf
  conv at h in (fnS _) => whnf
  exact ⟨_, h⟩
noncomputable def k153 (P : Params) : {o : Obj // o153_0 P = o} := by
  have h : o153_0 P = o153_0 P := rfl
  conv at h => rhs; unfold o153_0
  conv at h in (fnB _) => whnf
  conv at h in (fnP _) => whnf
  conv at h in (fnS _) => whnf
  exact ⟨_, h⟩
noncomputable def k178 (P : Params) : {o : Obj // o178_0 P = o} := by
  have h : o178_0 P = o178_0 P := rfl
  conv at h => rhs; unfold o178_0
  conv at h in (fnB _) => whnf
  conv at h in (fnP _) => whnf
  conv at h in (fnS _) => whnf
  exact ⟨_, h⟩
noncomputable def k185 (P : Params) : {o : Obj // o185_0 P = o} := by
  have h : o185_0 P = o185_0 P := rfl
  conv at h => rhs; unfold o185_0
  conv at h in (fnB _) => whnf
  conv at h in (fnP _) => whnf
  conv at h in (fnS _) => whnf
  exact ⟨_, h⟩
noncomputable def k192 (P : Params) : {o : Obj // o192_0 P = o} := by
  have h : o192_0 P = o192_0 P := rfl
  conv at h => rhs; unfold o192_0
  conv at h in (fnB _) => whnf
  conv at h in (fnP _) => whnf
  conv at h in (fnS _) => whnf
  exact ⟨_, h⟩
noncomputable def k199 (P : Params) : {o : Obj // o199_0 P = o} := by
  have h : o199_0 P = o199_0 P := rfl
  conv at h => rhs; unfold o199_0
  conv at h in (fnB _) => whnf
  conv at h in (fnP _) => whnf
  conv at h in (fnS _) => whnf
  exact ⟨_, h⟩
noncomputable def k204 (P : Params) : {o : Obj // o204_0 P = o} := by
  have h : o204_0 P = o204_0 P := rfl
  conv at h => rhs; unfold o204_0
  conv at h in (fnB _) => whnf
  conv at h in (fnP _) => whnf
  conv at h in (fnS _) => whnf
  exact ⟨_, h⟩
noncomputable def k211 (P : Params) : {o : Obj // o211_0 P = o} := by
  have h : o211_0 P = o211_0 P := rfl
  conv at h => rhs; unfold o211_0
  conv at h in (fnB _) => whnf
  conv at h in (fnP _) => whnf
  conv at h in (fnS _) => whnf
  exact ⟨_, h⟩
noncomputable def k218 (P : Params) : {o : Obj // o218_0 P = o} := by
  have h : o218_0 P = o218_0 P := rfl
  conv at h => rhs; unfold o218_0
  conv at h in (fnB _) => whnf
  conv at h in (fnP _) => whnf
  conv at h in (fnS _) => whnf
  exact ⟨_, h⟩
noncomputable def k225 (P : Params) : {o : Obj // o225_0 P = o} := by
  have h : o225_0 P = o225_0 P := rfl
  conv at h => rhs; unfold o225_0
  conv at h in (fnB _) => whnf
  conv at h in (fnP _) => whnf
  conv at h in (fnS _) => whnf
  exact ⟨_, h⟩
noncomputable def k233 (P : Params) : {o : Obj // o233_0 P = o} := by
  have h : o233_0 P = o233_0 P := rfl
  conv at h => rhs; unfold o233_0
  conv at h in (fnB _) => whnf
  conv at h in (fnP _) => whnf
  conv at h in (fnS _) => whnf
  exact ⟨_, h⟩
noncomputable def k238 (P : Params) : {o : Obj // o238_0 P = o} := by
  have h : o238_0 P = o238_0 P := rfl
  conv at h => rhs; unfold o238_0
  conv at h in (fnB _) => whnf
  conv at h in (fnP _) => whnf
  conv at h in (fnS _) => whnf
  exact ⟨_, h⟩
noncomputable def k243 (P : Params) : {o : Obj // o243_0 P = o} := by
  have h : o243_0 P = o243_0 P := rfl
  conv at h => rhs; unfold o243_0
  conv at h in (fnB _) => whnf
  conv at h in (fnP _) => whnf
  conv at h in (fnS _) => whnf
  exact ⟨_, h⟩
noncomputable def k250 (P : Params) : {o : Obj // o250_0 P = o} := by
  have h : o250_0 P = o250_0 P := rfl
  conv at h => rhs; unfold o250_0
  conv at h in (fnB _) => whnf
  conv at h in (fnP _) => whnf
  conv at h in (fnS _) => whnf
  exact ⟨_, h⟩
noncomputable def k257 (P : Params) : {o : Obj // o257_0 P = o} := by
  have h : o257_0 P = o257_0 P := rfl
  conv at h => rhs; unfold o257_0
  conv at h in (fnB _) => whnf
  conv at h in (fnP _) => whnf
  conv at h in (fnS _) => whnf
  exact ⟨_, h⟩
noncomputable def k262 (P : Params) : {o : Obj // o262_0 P = o} := by
  have h : o262_0 P = o262_0 P := rfl
  conv at h => rhs; unfold o262_0
  conv at h in (fnB _) => whnf
  conv at h in (fnP _) => whnf
  conv at h in (fnS _) => whnf
  exact ⟨_, h⟩
noncomputable def k269 (P : Params) : {o : Obj // o269_0 P = o} := by
  have h : o269_0 P = o269_0 P := rfl
  conv at h => rhs; unfold o269_0
  conv at h in (fnB _) => whnf
  conv at h in (fnP _) => whnf
  conv at h in (fnS _) => whnf
  exact ⟨_, h⟩
noncomputable def k276 (P : Params) : {o : Obj // o276_0 P = o} := by
  have h : o276_0 P = o276_0 P := rfl
  conv at h => rhs; unfold o276_0
  conv at h in (fnB _) => whnf
  conv at h in (fnP _) => whnf
  conv at h in (fnS _) => whnf
  exact ⟨_, h⟩
noncomputable def k283 (P : Params) : {o : Obj // o283_0 P = o} := by
  have h : o283_0 P = o283_0 P := rfl
  conv at h => rhs; unfold o283_0
  conv at h in (fnB _) => whnf
  conv at h in (fnP _) => whnf
  conv at h in (fnS _) => whnf
  exact ⟨_, h⟩
noncomputable def k297 (P : Params) : {o : Obj // o297_0 P = o} := by
  have h : o297_0 P = o297_0 P := rfl
  conv at h => rhs; unfold o297_0
  conv at h in (fnB _) => whnf
  conv at h in (fnP _) => whnf
  conv at h in (fnS _) => whnf
  exact ⟨_, h⟩
noncomputable def k304 (P : Params) : {o : Obj // o304_0 P = o} := by
  have h : o304_0 P = o304_0 P := rfl
  conv at h => rhs; unfold o304_0
  conv at h in (fnB _) => whnf
  conv at h in (fnP _) => whnf
  conv at h in (fnS _) => whnf
  exact ⟨_, h⟩
noncomputable def k311 (P : Params) : {o : Obj // o311_0 P = o} := by
  have h : o311_0 P = o311_0 P := rfl
  conv at h => rhs; unfold o311_0
  conv at h in (fnB _) => whnf
  conv at h in (fnP _) => whnf
  conv at h in (fnS _) => whnf
  exact ⟨_, h⟩
noncomputable def k318 (P : Params) : {o : Obj // o318_0 P = o} := by
  have h : o318_0 P = o318_0 P := rfl
  conv at h => rhs; unfold o318_0
  conv at h in (fnB _) => whnf
  conv at h in (fnP _) => whnf
  conv at h in (fnS _) => whnf
  exact ⟨_, h⟩
noncomputable def k323 (P : Params) : {o : Obj // o323_0 P = o} := by
  have h : o323_0 P = o323_0 P := rfl
  conv at h => rhs; unfold o323_0
  conv at h in (fnB _) => whnf
  conv at h in (fnP _) => whnf
  conv at h in (fnS _) => whnf
  exact ⟨_, h⟩
noncomputable def k330 (P : Params) : {o : Obj // o330_0 P = o} := by
  have h : o330_0 P = o330_0 P := rfl
  conv at h => rhs; unfold o330_0
  conv at h in (fnB _) => whnf
  conv at h in (fnP _) => whnf
  conv at h in (fnS _) => whnf
  exact ⟨_, h⟩
noncomputable def k337 (P : Params) : {o : Obj // o337_0 P = o} := by
  have h : o337_0 P = o337_0 P := rfl
  conv at h => rhs; unfold o337_0
  conv at h in (fnB _) => whnf
  conv at h in (fnP _) => whnf
  conv at h in (fnS _) => whnf
  exact ⟨_, h⟩
noncomputable def k344 (P : Params) : {o : Obj // o344_0 P = o} := by
  have h : o344_0 P = o344_0 P := rfl
  conv at h => rhs; unfold o344_0
  conv at h in (fnB _) => whnf
  conv at h in (fnP _) => whnf
  conv at h in (fnS _) => whnf
  exact ⟨_, h⟩
noncomputable def k351 (P : Params) : {o : Obj // o351_0 P = o} := by
  have h : o351_0 P = o351_0 P := rfl
  conv at h => rhs; unfold o351_0
  conv at h in (fnB _) => whnf
  conv at h in (fnP _) => whnf
  conv at h in (fnS _) => whnf
  exact ⟨_, h⟩
noncomputable def k356 (P : Params) : {o : Obj // o356_0 P = o} := by
  have h : o356_0 P = o356_0 P := rfl
  conv at h => rhs; unfold o356_0
  conv at h in (fnB _) => whnf
  conv at h in (fnP _) => whnf
  conv at h in (fnS _) => whnf
  exact ⟨_, h⟩
noncomputable def k361 (P : Params) : {o : Obj // o361_0 P = o} := by
  have h : o361_0 P = o361_0 P := rfl
  conv at h => rhs; unfold o361_0
  conv at h in (fnB _) => whnf
  conv at h in (fnP _) => whnf
  conv at h in (fnS _) => whnf
  exact ⟨_, h⟩
noncomputable def KF (P : Params) : Frag := (nat_lit 2, o2_1 P) :: (nat_lit 3, o3_10 P) :: (nat_lit 32, o32_0 P) :: (nat_lit 34, o34_0 P) :: (nat_lit 35, o35_0 P) :: (nat_lit 37, o37_0 P) :: (nat_lit 38, (k38 P).1) :: (nat_lit 39, o39_0 P) :: (nat_lit 46, o46_0 P) :: (nat_lit 47, o47_0 P) :: (nat_lit 48, o48_1 P) :: (nat_lit 49, o49_0 P) :: (nat_lit 52, o52_0 P) :: (nat_lit 59, o59_0 P) :: (nat_lit 60, o60_0 P) :: (nat_lit 61, o61_0 P) :: (nat_lit 64, o64_0 P) :: (nat_lit 71, o71_0 P) :: (nat_lit 72, o72_0 P) :: (nat_lit 73, o73_0 P) :: (nat_lit 76, o76_0 P) :: (nat_lit 78, o78_0 P) :: (nat_lit 79, o79_0 P) :: (nat_lit 81, o81_0 P) :: (nat_lit 82, (k82 P).1) :: (nat_lit 83, o83_0 P) :: (nat_lit 85, o85_0 P) :: (nat_lit 86, o86_0 P) :: (nat_lit 88, o88_0 P) :: (nat_lit 89, (k89 P).1) :: (nat_lit 97, o97_0 P) :: (nat_lit 101, o101_0 P) :: (nat_lit 103, o103_0 P) :: (nat_lit 104, o104_0 P) :: (nat_lit 106, o106_0 P) :: (nat_lit 107, (k107 P).1) :: (nat_lit 108, o108_0 P) :: (nat_lit 147, o147_0 P) :: (nat_lit 149, o149_0 P) :: (nat_lit 150, o150_0 P) :: (nat_lit 152, o152_0 P) :: (nat_lit 153, (k153 P).1) :: (nat_lit 157, o157_0 P) :: (nat_lit 158, o158_0 P) :: (nat_lit 162, o162_0 P) :: (nat_lit 163, o163_0 P) :: (nat_lit 171, o171_0 P) :: (nat_lit 172, o172_0 P) :: (nat_lit 174, o174_0 P) :: (nat_lit 175, o175_0 P) :: (nat_lit 177, o177_0 P) :: (nat_lit 178, (k178 P).1) :: (nat_lit 179, o179_0 P) :: (nat_lit 181, o181_0 P) :: (nat_lit 182, o182_0 P) :: (nat_lit 184, o184_0 P) :: (nat_lit 185, (k185 P).1) :: (nat_lit 186, o186_0 P) :: (nat_lit 188, o188_0 P) :: (nat_lit 189, o189_0 P) :: (nat_lit 191, o191_0 P) :: (nat_lit 192, (k192 P).1) :: (nat_lit 193, o193_0 P) :: (nat_lit 195, o195_0 P) :: (nat_lit 196, o196_0 P) :: (nat_lit 198, o198_0 P) :: (nat_lit 199, (k199 P).1) :: (nat_lit 200, o200_0 P) :: (nat_lit 203, o203_0 P) :: (nat_lit 204, (k204 P).1) :: (nat_lit 205, o205_0 P) :: (nat_lit 207, o207_0 P) :: (nat_lit 208, o208_0 P) :: (nat_lit 210, o210_0 P) :: (nat_lit 211, (k211 P).1) :: (nat_lit 212, o212_0 P) :: (nat_lit 214, o214_0 P) :: (nat_lit 215, o215_0 P) :: (nat_lit 217, o217_0 P) :: (nat_lit 218, (k218 P).1) :: (nat_lit 219, o219_0 P) :: (nat_lit 221, o221_0 P) :: (nat_lit 222, o222_0 P) :: (nat_lit 224, o224_0 P) :: (nat_lit 225, (k225 P).1) :: (nat_lit 226, o226_0 P) :: (nat_lit 227, o227_0 P) :: (nat_lit 229, o229_0 P) :: (nat_lit 230, o230_0 P) :: (nat_lit 232, o232_0 P) :: (nat_lit 233, (k233 P).1) :: (nat_lit 234, o234_0 P) :: (nat_lit 237, o237_0 P) :: (nat_lit 238, (k238 P).1) :: (nat_lit 239, o239_0 P) :: (nat_lit 242, o242_0 P) :: (nat_lit 243, (k243 P).1) :: (nat_lit 244, o244_0 P) :: (nat_lit 246, o246_0 P) :: (nat_lit 247, o247_0 P) :: (nat_lit 249, o249_0 P) :: (nat_lit 250, (k250 P).1) :: (nat_lit 251, o251_0 P) :: (nat_lit 253, o253_0 P) :: (nat_lit 254, o254_0 P) :: (nat_lit 256, o256_0 P) :: (nat_lit 257, (k257 P).1) :: (nat_lit 258, o258_0 P) :: (nat_lit 261, o261_0 P) :: (nat_lit 262, (k262 P).1) :: (nat_lit 263, o263_0 P) :: (nat_lit 265, o265_0 P) :: (nat_lit 266, o266_0 P) :: (nat_lit 268, o268_0 P) :: (nat_lit 269, (k269 P).1) :: (nat_lit 270, o270_0 P) :: (nat_lit 272, o272_0 P) :: (nat_lit 273, o273_0 P) :: (nat_lit 275, o275_0 P) :: (nat_lit 276, (k276 P).1) :: (nat_lit 277, o277_0 P) :: (nat_lit 279, o279_0 P) :: (nat_lit 280, o280_0 P) :: (nat_lit 282, o282_0 P) :: (nat_lit 283, (k283 P).1) :: (nat_lit 284, o284_0 P) :: (nat_lit 285, o285_0 P) :: (nat_lit 286, o286_0 P) :: (nat_lit 287, o287_0 P) :: (nat_lit 288, o288_0 P) :: (nat_lit 291, o291_0 P) :: (nat_lit 293, o293_0 P) :: (nat_lit 294, o294_0 P) :: (nat_lit 296, o296_0 P) :: (nat_lit 297, (k297 P).1) :: (nat_lit 298, o298_0 P) :: (nat_lit 300, o300_0 P) :: (nat_lit 301, o301_0 P) :: (nat_lit 303, o303_0 P) :: (nat_lit 304, (k304 P).1) :: (nat_lit 305, o305_0 P) :: (nat_lit 307, o307_0 P) :: (nat_lit 308, o308_0 P) :: (nat_lit 310, o310_0 P) :: (nat_lit 311, (k311 P).1) :: (nat_lit 312, o312_0 P) :: (nat_lit 314, o314_0 P) :: (nat_lit 315, o315_0 P) :: (nat_lit 317, o317_0 P) :: (nat_lit 318, (k318 P).1) :: (nat_lit 319, o319_0 P) :: (nat_lit 322, o322_0 P) :: (nat_lit 323, (k323 P).1) :: (nat_lit 324, o324_0 P) :: (nat_lit 326, o326_0 P) :: (nat_lit 327, o327_0 P) :: (nat_lit 329, o329_0 P) :: (nat_lit 330, (k330 P).1) :: (nat_lit 331, o331_0 P) :: (nat_lit 333, o333_0 P) :: (nat_lit 334, o334_0 P) :: (nat_lit 336, o336_0 P) :: (nat_lit 337, (k337 P).1) :: (nat_lit 338, o338_0 P) :: (nat_lit 340, o340_0 P) :: (nat_lit 341, o341_0 P) :: (nat_lit 343, o343_0 P) :: (nat_lit 344, (k344 P).1) :: (nat_lit 345, o345_0 P) :: (nat_lit 347, o347_0 P) :: (nat_lit 348, o348_0 P) :: (nat_lit 350, o350_0 P) :: (nat_lit 351, (k351 P).1) :: (nat_lit 352, o352_0 P) :: (nat_lit 355, o355_0 P) :: (nat_lit 356, (k356 P).1) :: (nat_lit 357, o357_0 P) :: (nat_lit 360, o360_0 P) :: (nat_lit 361, (k361 P).1) :: []
noncomputable abbrev KA : List Nat := [2, 3, 32, 34, 35, 37, 38, 39, 46, 47, 48, 49, 52, 59, 60, 61, 64, 71, 72, 73, 76, 78, 79, 81, 82, 83, 85, 86, 88, 89, 97, 101, 103, 104, 106, 107, 108, 147, 149, 150, 152, 153, 157, 158, 162, 163, 171, 172, 174, 175, 177, 178, 179, 181, 182, 184, 185, 186, 188, 189, 191, 192, 193, 195, 196, 198, 199, 200, 203, 204, 205, 207, 208, 210, 211, 212, 214, 215, 217, 218, 219, 221, 222, 224, 225, 226, 227, 229, 230, 232, 233, 234, 237, 238, 239, 242, 243, 244, 246, 247, 249, 250, 251, 253, 254, 256, 257, 258, 261, 262, 263, 265, 266, 268, 269, 270, 272, 273, 275, 276, 277, 279, 280, 282, 283, 284, 285, 286, 287, 288, 291, 293, 294, 296, 297, 298, 300, 301, 303, 304, 305, 307, 308, 310, 311, 312, 314, 315, 317, 318, 319, 322, 323, 324, 326, 327, 329, 330, 331, 333, 334, 336, 337, 338, 340, 341, 343, 344, 345, 347, 348, 350, 351, 352, 355, 356, 357, 360, 361]
theorem KA_eq : ∀ P, KA = (KF P).map (·.1) := fun _ => by kernel_rfl!
end Mine
end
section
open PySem
namespace Mine
variable {prog : Program} {w : World} {A : Around} {E : Value → Shared → Prop} {s : Shared}
/-- a heap and what was pushed onto it -/
noncomputable def hp (b : Heap) (l : List Obj) : Heap := ⟨b.objs ++ l.toArray, b.life⟩
theorem hp_nil (b : Heap) : hp b [] = b := by cases b; simp [hp]
theorem hp_size (b : Heap) (l : List Obj) : (hp b l).objs.size = b.objs.size + l.length := by simp [hp]
theorem hp_push (b : Heap) (l : List Obj) (o : Obj) : (hp b l).push o = hp b (l ++ [o]) := by
  simp [hp, Heap.push]
theorem hp_at (b : Heap) (l1 l2 : List Obj) (o : Obj) : (hp b (l1 ++ o :: l2)).objs[b.objs.size + l1.length]? = some o := by
  simp [hp]
theorem hp_get (b : Heap) (l1 l2 : List Obj) (o : Obj) (hf : o.isFreed = false) : (hp b (l1 ++ o :: l2)).get? (b.objs.size + l1.length) = some o := by
  unfold Heap.get?
  rw [hp_at]
  obtain ⟨c, d, dt, sl⟩ := o
  cases dt <;> first | rfl | cases hf
theorem hp_upd (b : Heap) (l1 l2 : List Obj) (o : Obj) (f : Obj → Obj) : (hp b (l1 ++ o :: l2)).update (b.objs.size + l1.length) f = hp b (l1 ++ f o :: l2) := by
  unfold hp Heap.update
  simp only [Heap.mk.injEq, and_true]
  apply Array.ext_getElem?
  intro i
  rw [Array.getElem?_modify]
  simp only [Array.getElem?_append, List.getElem?_toArray]
  by_cases hi : b.objs.size + l1.length = i
  · subst hi
    have hh : ¬ (b.objs.size + l1.length < b.objs.size) := by omega
    simp [hh]
  · rw [if_neg hi]
    by_cases h1 : i < b.objs.size
    · simp [h1]
    · simp only [h1, if_false]
      have : i - b.objs.size ≠ l1.length := by omega
      by_cases h2 : i - b.objs.size < l1.length
      · rw [List.getElem?_append_left h2, List.getElem?_append_left h2]
      · rw [List.getElem?_append_right (by omega), List.getElem?_append_right (by omega)]
        have : i - b.objs.size - l1.length = (i - b.objs.size - l1.length - 1) + 1 := (Nat.sub_add_cancel (Nat.sub_pos_of_lt (Nat.lt_of_le_of_ne (Nat.le_of_not_lt h2) (Ne.symm this)))).symm
        rw [this, List.getElem?_cons_succ, List.getElem?_cons_succ]
noncomputable abbrev dd (es : List DictEntry) (n : Nat) : Obj := { cls := .type "dict", data := .dict es.toArray n }
inductive KeysI : List DictEntry → List Int → Prop
  | nil : KeysI [] []
  | cons {k : Int} {t : Tok} {v : Value} {es : List DictEntry} {ks : List Int} : KeysI es ks → KeysI (⟨hashInt k, .int k t, v⟩ :: es) (k :: ks)
theorem KeysI.app {es es' : List DictEntry} {ks ks' : List Int} (h : KeysI es ks) (h' : KeysI es' ks') : KeysI (es ++ es') (ks ++ ks') := by
  induction h with
  | nil => exact h'
  | cons _ ih => exact .cons ih
theorem KeysI.len {es : List DictEntry} {ks : List Int} (h : KeysI es ks) : es.length = ks.length := by
  induction h with
  | nil => rfl
  | cons _ ih => simp [ih]
theorem KeysI.of {es : List DictEntry} {ks : List Int} (h : KeysI es ks) : KeysOf (intKind prog w) es.toArray := by
  intro e he
  simp only [List.mem_toArray] at he
  induction h with
  | nil => cases he
  | @cons k t v es ks _ ih =>
    rcases List.mem_cons.mp he with rfl | he
    · exact ⟨k, by simp [intKind, Value.isInt], rfl⟩
    · exact ih he
theorem KeysI.none {es : List DictEntry} {ks : List Int} (h : KeysI es ks) {k : Int} (hk : k ∉ ks) : (es.toArray.findIdx? fun e => (intKind prog w).is k e.key) = Option.none := by
  rw [List.findIdx?_toArray, List.findIdx?_eq_none_iff]
  intro e he
  induction h with
  | nil => cases he
  | @cons k' t v es ks _ ih =>
    rcases List.mem_cons.mp he with rfl | he
    · have : k' ≠ k := fun q => hk (q ▸ .head _)
      simp [intKind, Value.isInt, this]
    · exact ih (fun q => hk (.tail _ q)) he
theorem find_none {d : Addr} {es : List DictEntry} {n : Nat} {ks : List Int} {k : Int} {t : Tok} {Q : Option Nat → Shared → Prop} (ho : s.heap.get? d = some (dd es n)) (hK : KeysI es ks) (hk : k ∉ ks) (h : Q Option.none s) :
    wpAny (model prog w) A (dictFind d (.int k t) (hashInt k)) Q E s :=
  wpAny_dictFind_of (knd := intKind prog w) (k := k) (by simp [intKind, Value.isInt]) ho rfl (hK.of) (by rw [hK.none hk]; exact h)
theorem mapKeys_dd (es : List DictEntry) (n : Nat) (e : DictEntry) : Obj.mapDictKeys (·.push e) (dd es n) = dd (es ++ [e]) (n + 1) := by
  simp [Obj.mapDictKeys]
section
variable {b : Heap} {l1 l2 : List Obj} {es : List DictEntry} {n : Nat} {ks : List Int} {k : Int} {t : Tok} {v : Value} {Q : Unit → Shared → Prop}
theorem put_fresh (hs : s.heap = hp b (l1 ++ dd es n :: l2)) (hK : KeysI es ks) (hk : k ∉ ks) (hsz : es.length ≤ sizeLine)
    (h : Q () { s with heap := hp b (l1 ++ dd (es ++ [⟨hashInt k, .int k t, v⟩]) (n + 1) :: l2) }) :
    wpAny (model prog w) A (dictPut (b.objs.size + l1.length) (hashInt k) (.int k t) v) Q E s := by
  have ho : s.heap.get? (b.objs.size + l1.length) = some (dd es n) := by rw [hs]; exact hp_get b l1 l2 _ rfl
  unfold dictPut
  refine wpAny_bind (find_none ho hK hk ?_)
  refine wpAny_updateDictKeys ho rfl ?_ (by simpa using hsz) (by simp)
  rw [hs, hp_upd, mapKeys_dd]
  exact h
theorem set_fresh (hs : s.heap = hp b (l1 ++ dd es n :: l2)) (hK : KeysI es ks) (hk : k ∉ ks) (hsz : es.length ≤ sizeLine)
    (h : Q () { s with heap := hp b (l1 ++ dd (es ++ [⟨hashInt k, .int k t, v⟩]) (n + 1) :: l2), toks := s.toks + 1 }) :
    wpAny (model prog w) A (dictSet (b.objs.size + l1.length) (.int k t) v) Q E s := by
  have ho : s.heap.get? (b.objs.size + l1.length) = some (dd es n) := by rw [hs]; exact hp_get b l1 l2 _ rfl
  unfold dictSet
  refine wpAny_holding (wpAny_bind (wpAny_pyHash_int ?_))
  unfold dictSetHashed
  refine wpAny_holding (wpAny_bind (find_none ho hK hk ?_))
  refine wpAny_bind (wpAny_rule (wpAny_updateDictKeys ho rfl ?_ (by simpa using hsz) (by simp)))
  show Q () { s with heap := s.heap.update (b.objs.size + l1.length) _, toks := s.toks + 1 }
  rw [hs, hp_upd, mapKeys_dd]
  exact h
end
noncomputable abbrev Ent := Int × Str
noncomputable def ents : List Ent → Nat → List DictEntry
  | [], _ => []
  | (i, x) :: r, t => ⟨hashInt i, .int i t, .str x (t + 1)⟩ :: ents r (t + 3)
/-- the short road: all the values ahead of the stores -/
noncomputable def entsB : List Ent → Nat → List DictEntry
  | [], _ => []
  | (i, x) :: r, t => ⟨hashInt i, .int i t, .str x (t + 1)⟩ :: entsB r (t + 2)
theorem ents_keys : ∀ (l : List Ent) (t : Nat), KeysI (ents l t) (l.map (·.1))
  | [], _ => .nil
  | (_, _) :: r, t => .cons (ents_keys r (t + 3))
theorem entsB_keys : ∀ (l : List Ent) (t : Nat), KeysI (entsB l t) (l.map (·.1))
  | [], _ => .nil
  | (_, _) :: r, t => .cons (entsB_keys r (t + 2))
/-- a pair of trees that gives the entry -/
noncomputable def Gives (prog : Program) (w : World) (p : Sem Value × Sem Value) (e : Ent) : Prop :=
  (∀ (A : Around) (E : Value → Shared → Prop) (s : Shared) (Q : Value → Shared → Prop), Q (.int e.1 s.toks) { s with toks := s.toks + 1 } → wpAny (model prog w) A p.1 Q E s) ∧
  (∀ (A : Around) (E : Value → Shared → Prop) (s : Shared) (Q : Value → Shared → Prop), Q (.str e.2 s.toks) { s with toks := s.toks + 1 } → wpAny (model prog w) A p.2 Q E s)
inductive GivesAll (prog : Program) (w : World) : List (Sem Value × Sem Value) → List Ent → Prop
  | nil : GivesAll prog w [] []
  | cons {p : Sem Value × Sem Value} {e : Ent} {ps : List (Sem Value × Sem Value)} {l : List Ent} : Gives prog w p e → GivesAll prog w ps l → GivesAll prog w (p :: ps) (e :: l)
theorem GivesAll.len {ps : List (Sem Value × Sem Value)} {l : List Ent} (h : GivesAll prog w ps l) : ps.length = l.length := by
  induction h with
  | nil => rfl
  | cons _ _ ih => simp [ih]
noncomputable abbrev fillTurn (a : Addr) : Sem Value × Sem Value → PUnit → Sem (ForInStep PUnit) := fun x _ => (do
        let kv ← x.1
        let vv ← holding [kv] x.2
        holding [kv, vv] (dictSet a kv vv)
        pure (ForInStep.yield PUnit.unit) : Sem (ForInStep PUnit))
theorem fill_long {b : Heap} {l1 : List Obj} {Q : PUnit → Shared → Prop} {ps : List (Sem Value × Sem Value)} {l : List Ent} (hg : GivesAll prog w ps l) : ∀ (es : List DictEntry) (ks : List Int) (s : Shared),
    s.heap = hp b (l1 ++ [dd es es.length]) → KeysI es ks → (ks ++ l.map (·.1)).Nodup → es.length + l.length ≤ sizeLine →
    Q PUnit.unit { s with heap := hp b (l1 ++ [dd (es ++ ents l s.toks) (es.length + l.length)]), toks := s.toks + 3 * l.length } →
    wpAny (model prog w) A (forIn ps PUnit.unit (fillTurn (b.objs.size + l1.length))) Q E s := by
  induction hg with
  | nil =>
    intro es ks s hs hK _ _ hQ
    rw [List.forIn_nil]
    refine wpAny_pure ?_
    obtain ⟨h, g, d, t, o⟩ := s
    dsimp only at hs
    subst hs
    simpa [ents] using hQ
  | @cons p e ps l hp' hps ih =>
    intro es ks s hs hK hn hsz hQ
    obtain ⟨i, x⟩ := e
    rw [List.forIn_cons]
    refine wpAny_bind ?_
    refine wpAny_bind (hp'.1 _ _ _ _ ?_)
    refine wpAny_bind (wpAny_holding (hp'.2 _ _ _ _ ?_))
    refine wpAny_bind (wpAny_holding (set_fresh (es := es) (n := es.length) (ks := ks) (l2 := []) hs hK ?_ (by simp at hsz; omega) (wpAny_pure ?_)))
    · intro hm
      rw [List.map_cons, List.nodup_append] at hn
      exact hn.2.2 i hm i (.head _) rfl
    · refine ih (es ++ [⟨hashInt i, .int i s.toks, .str x (s.toks + 1)⟩]) (ks ++ [i]) _ (by simp) (hK.app (.cons .nil)) (by simpa using hn) (by simp at hsz ⊢; omega) ?_
      have e1 : es.length + 1 + l.length = es.length + (l.length + 1) := by omega
      have e2 : s.toks + 1 + 1 + 1 + 3 * l.length = s.toks + 3 * (l.length + 1) := by omega
      simpa [ents, e1, e2] using hQ
theorem sub_long {ps : List (Sem Value × Sem Value)} {l : List Ent} {b : Heap} {l1 : List Obj} {Q : Addr → Shared → Prop} (hg : GivesAll prog w ps l) (hl : 15 < l.length) (hsz : l.length ≤ sizeLine) (hs : s.heap = hp b l1) (hn : (l.map (·.1)).Nodup)
    (hQ : Q (b.objs.size + l1.length) { s with heap := hp b (l1 ++ [dd (ents l s.toks) l.length]), toks := s.toks + 3 * l.length }) :
    wpAny (model prog w) A (subDict ps) Q E s := by
  unfold subDict
  refine wpAny_bind (wpAny_alloc ?_)
  rw [if_neg (by rw [hg.len]; omega)]
  refine wpAny_bind (wpAny_holding (wpAny_bind (wpAny_rule ?_)))
  have e : s.heap.objs.size = b.objs.size + l1.length := by rw [hs, hp_size]
  rw [e]
  refine wpAny_bind ?_
  refine fill_long hg [] [] _ (by show s.heap.push _ = _; rw [hs, hp_push]; rfl) .nil (by simpa using hn) (by simpa using hsz) ?_
  refine wpAny_pure (wpAny_pure ?_)
  simpa using hQ
theorem dd_type {b : Heap} {l1 l2 : List Obj} {es : List DictEntry} {n : Nat} (hs : s.heap = hp b (l1 ++ dd es n :: l2)) : s.TypeIs (.ref (b.objs.size + l1.length)) "dict" :=
  ⟨dd es n, by rw [hs]; exact hp_get b l1 l2 _ rfl, rfl⟩
theorem KeysI.take {es : List DictEntry} {ks : List Int} (h : KeysI es ks) : ∀ i, KeysI (es.take i) (ks.take i) := by
  induction h with
  | nil => intro i; simp; exact .nil
  | cons _ ih => intro i; cases i with
    | zero => exact .nil
    | succ i => exact .cons (ih i)
theorem KeysI.at {es : List DictEntry} {ks : List Int} (h : KeysI es ks) : ∀ {i : Nat} {e : DictEntry}, es[i]? = some e → ∃ k t, ks[i]? = some k ∧ e.key = .int k t ∧ e.hash = hashInt k := by
  induction h with
  | nil => intro i e h; simp at h
  | @cons k t v es ks _ ih =>
    intro i e h
    cases i with
    | zero => simp at h; subst h; exact ⟨k, t, rfl, rfl, rfl⟩
    | succ i => exact ih (by simpa using h)
theorem merge_full {b : Heap} {es ss : List DictEntry} {n k : Nat} {g : List Obj} {ks js : List Int} {Q : Unit → Shared → Prop} (hs : s.heap = hp b (dd es n :: (g ++ [dd ss k]))) (hK : KeysI es ks) (hJ : KeysI ss js) (hn : (ks ++ js).Nodup)
    (hne : es ≠ []) (hsz : es.length + ss.length ≤ sizeLine) (hS : sysModules < b.objs.size)
    (hQ : Q () { s with heap := hp b (dd (es ++ ss) (n + ss.length) :: (g ++ [dd ss k])) }) :
    wpAny (model prog w) A (mergeMapping b.objs.size (.ref (b.objs.size + (g.length + 1))) false) Q E s := by
  have hs' : s.heap = hp b ((dd es n :: g) ++ dd ss k :: []) := by rw [hs]; rfl
  have T := dd_type hs'
  rw [List.length_cons] at T
  have hd : ∀ (es : List DictEntry) (n : Nat), (hp b (dd es n :: (g ++ [dd ss k]))).get? b.objs.size = some (dd es n) := fun es n => by
    have := hp_get b [] (g ++ [dd ss k]) (dd es n) rfl
    simpa using this
  have ha : ∀ (es : List DictEntry) (n : Nat), (hp b (dd es n :: (g ++ [dd ss k]))).get? (b.objs.size + (g.length + 1)) = some (dd ss k) := fun es n => by
    have := hp_get b (dd es n :: g) [] (dd ss k) rfl
    simpa using this
  unfold mergeMapping
  refine wpAny_bind (wpAny_isInstance T (b := true) (by rw [isSubtype_type]; rfl) ?_)
  rw [if_pos rfl]
  refine wpAny_bind (wpAny_specialOf T F.slot_dict_iter.lookup ?_)
  refine wpAny_bind (wpAny_pure ?_)
  dsimp only
  rw [show ((some (Value.builtin "dict.__iter__") == some (Value.builtin "dict.__iter__")) = true) from by decide]
  dsimp only
  have hns : ¬ (b.objs.size + (g.length + 1) = sysModules) := fun e => by rw [← e] at hS; exact Nat.not_lt.mpr (Nat.le_add_right _ _) hS
  rw [if_neg (by simpa using hns)]
  refine wpAny_bind (wpAny_dictEntries (by rw [hs]; exact hd es n) rfl ?_)
  rw [if_neg (by simpa using hne)]
  refine wpAny_bind (wpAny_dictEntries (by rw [hs]; exact ha es n) rfl ?_)
  refine wpAny_bind (wpAny_dictEpoch (by rw [hs]; exact ha es n) rfl ?_)
  refine wpAny_bind ?_
  rw [List.size_toArray]
  refine wpAny_forIn_list _ (fun rest _ s' => ∃ i, i ≤ ss.length ∧ rest = List.range' i (ss.length - i) ∧ s' = { s with heap := hp b (dd (es ++ ss.take i) (n + i) :: (g ++ [dd ss k])) }) _ ?_ ?_ _ _
    ⟨0, Nat.zero_le _, by rw [List.range_eq_range', Nat.sub_zero], by simp only [List.take_zero, List.append_nil, Nat.add_zero]; rw [← hs]⟩
  · rintro x rest _ s' ⟨i, hi, hr, rfl⟩
    have hlt : i < ss.length := by
      rcases Nat.lt_or_ge i ss.length with h | h
      · exact h
      · rw [Nat.sub_eq_zero_of_le h] at hr; simp at hr
    obtain ⟨rfl, hrest⟩ : x = i ∧ rest = List.range' (i + 1) (ss.length - (i + 1)) := by
      have e : ss.length - i = (ss.length - (i + 1)) + 1 := (Nat.sub_add_cancel (Nat.sub_pos_of_lt hlt)).symm
      rw [e, List.range'_succ] at hr
      injection hr with h1 h2
      exact ⟨h1, h2⟩
    refine wpAny_bind (wpAny_dictEntries (ha _ _) rfl ?_)
    have hx : ss.toArray[x]? = some ss[x] := by simp [hlt]
    have hx' : ss[x]? = some ss[x] := by simp [hlt]
    rw [hx]
    dsimp only
    obtain ⟨key, t, hk, e1, e2⟩ := hJ.at hx'
    have hnot : key ∉ ks ++ js.take x := by
      intro hm
      have hj : js = js.take x ++ key :: js.drop (x + 1) := by
        have hl : x < js.length := by rw [← hJ.len]; exact hlt
        have : js[x] = key := by rw [List.getElem?_eq_getElem hl] at hk; exact Option.some.inj hk
        rw [← this, ← List.drop_eq_getElem_cons hl, List.take_append_drop]
      rw [hj, ← List.append_assoc] at hn
      rw [List.nodup_append] at hn
      exact hn.2.2 key hm key (.head _) rfl
    refine wpAny_bind (wpAny_holding ?_)
    rw [if_neg (by decide), e1, e2]
    have K2 := hK.app (hJ.take x)
    refine put_fresh (b := b) (l1 := []) (l2 := g ++ [dd ss k]) (es := es ++ ss.take x) (n := n + x) rfl K2 hnot (by rw [List.length_append, List.length_take]; omega) ?_
    have hv : ss[x] = ⟨hashInt key, .int key t, ss[x].val⟩ := by
      rw [← e1, ← e2]
    refine wpAny_bind (wpAny_dictEpoch (ha _ _) rfl ?_)
    rw [if_neg (by simp)]
    refine wpAny_pure ⟨x + 1, hlt, hrest, ?_⟩
    rw [← hv]
    have ht : ss.take (x + 1) = ss.take x ++ [ss[x]] := by simp
    rw [ht, List.append_assoc, Nat.add_assoc]
    rfl
  · rintro _ s' ⟨i, hi, hr, rfl⟩
    have hin : i = ss.length := by
      rcases Nat.lt_or_ge i ss.length with h | h
      · have e : ss.length - i = (ss.length - (i + 1)) + 1 := (Nat.sub_add_cancel (Nat.sub_pos_of_lt h)).symm
        rw [e, List.range'_succ] at hr; exact nomatch hr
      · exact Nat.le_antisymm hi h
    subst hin
    rw [List.take_length]
    exact wpAny_pure hQ
noncomputable abbrev Pr := Sem Value × Sem Value
noncomputable abbrev someP (p : Pr) : Option (Sem Value) × Sem Value := (some p.1, p.2)
noncomputable abbrev flushD (run : List Pr) (main : Option Addr) : Sem (Option Addr) :=
    if run.isEmpty = true then pure main
    else
      match main with
      | none => do
        let x ← subDict run
        pure (some x)
      | some d => do
        let sub ← holding [Value.ref d] (subDict run)
        (holding [Value.ref d, Value.ref sub] (mergeMapping d (Value.ref sub) false)).onRaise fun x => do
            let _ ← holding [Value.ref d, x] (runValue (Code.builtin "proto.let_go" { }))
            pure ()
        pure (some d)
noncomputable abbrev Turn := Option (Sem Value) × Sem Value → Option Addr × List Pr → Sem (ForInStep (Option Addr × List Pr))
/-- what the loop's turn does with a pair -/
noncomputable def TurnOk (f : Turn) : Prop := (∀ (p : Pr) (main : Option Addr) (run : List Pr), run.length + 1 < 17 → f (someP p) (main, run) = pure (.yield (main, run ++ [p]))) ∧
  ∀ (p : Pr) (main : Option Addr) (run : List Pr), run.length + 1 = 17 → f (someP p) (main, run) = (do let main ← flushD (run ++ [p]) main; pure (.yield (main, ([] : List Pr))))
theorem gather {f : Turn} (hf : TurnOk f) (rest : List (Option (Sem Value) × Sem Value)) : ∀ (items run : List Pr) (main : Option Addr), run.length + items.length < 17 → forIn (items.map someP ++ rest) (main, run) f = forIn rest (main, run ++ items) f
  | [], run, main, _ => by simp
  | p :: r, run, main, h => by
    rw [List.map_cons, List.cons_append, List.forIn_cons, hf.1 p main run (by simp at h; omega), pure_bind]
    have := gather hf rest r (run ++ [p]) main (by simp at h ⊢; omega)
    simpa using this
theorem gather17 {f : Turn} (hf : TurnOk f) (rest : List (Option (Sem Value) × Sem Value)) (c : List Pr) (main : Option Addr) (h : c.length = 17) :
    forIn (c.map someP ++ rest) (main, ([] : List Pr)) f = (do let main ← flushD c main; forIn rest (main, ([] : List Pr)) f) := by
  obtain ⟨c', p, rfl⟩ : ∃ c' p, c = c' ++ [p] := ⟨c.dropLast, c.getLast (by intro e; rw [e] at h; cases h), (List.dropLast_concat_getLast _).symm⟩
  rw [List.map_append, List.append_assoc, gather hf _ c' [] main (by simp at h ⊢; omega)]
  rw [List.map_cons, List.map_nil, List.singleton_append, List.forIn_cons, List.nil_append, hf.2 p main c' (by simpa using h)]
  simp only [bind_assoc, pure_bind]
theorem turn_ok : ∃ f : Turn, TurnOk f ∧ ∀ items, dictDisplay items = (do
    let s ← forIn items ((none : Option Addr), ([] : List Pr)) f
    match (← flushD s.2 s.1) with
      | some d => pure (Value.ref d)
      | none => newDict) := by
  refine ⟨_, ⟨?_, ?_⟩, fun items => rfl⟩
  · intro p main run h
    simp only
    rw [if_neg (by simp; omega)]
  · intro p main run h
    simp only
    rw [if_pos (by simp; omega)]
    rfl
/-- the chunks, each with its trees -/
inductive Chunks (prog : Program) (w : World) : List (List Pr) → List (List Ent) → Prop
  | nil : Chunks prog w [] []
  | cons {c : List Pr} {l : List Ent} {cs : List (List Pr)} {ls : List (List Ent)} : GivesAll prog w c l → l.length = 17 → Chunks prog w cs ls → Chunks prog w (c :: cs) (l :: ls)
noncomputable def proc : List (List Ent) → List DictEntry → List Obj → Nat → List DictEntry × List Obj × Nat
  | [], m, g, t => (m, g, t)
  | l :: ls, m, g, t => proc ls (m ++ ents l t) (g ++ [dd (ents l t) 17]) (t + 51)
theorem ents_len : ∀ (l : List Ent) (t : Nat), (ents l t).length = l.length
  | [], _ => rfl
  | (_, _) :: r, t => by rw [ents, List.length_cons, List.length_cons, ents_len r]
theorem entsB_len : ∀ (l : List Ent) (t : Nat), (entsB l t).length = l.length
  | [], _ => rfl
  | (_, _) :: r, t => by rw [entsB, List.length_cons, List.length_cons, entsB_len r]
theorem chunks_loop {f : Turn} (hf : TurnOk f) {b : Heap} {rest : List (Option (Sem Value) × Sem Value)} {Q : Option Addr × List Pr → Shared → Prop} {cs : List (List Pr)} {ls : List (List Ent)} (hS : sysModules < b.objs.size) (hc : Chunks prog w cs ls) :
    ∀ (m : List DictEntry) (g : List Obj) (ks : List Int) (s : Shared), s.heap = hp b (dd m m.length :: g) → KeysI m ks → m ≠ [] → (ks ++ (ls.flatten).map (·.1)).Nodup → m.length + 17 * ls.length ≤ sizeLine →
      (∀ mm gg tt, proc ls m g s.toks = (mm, gg, tt) → KeysI mm (ks ++ (ls.flatten).map (·.1)) → mm.length = m.length + 17 * ls.length → wpAny (model prog w) A (forIn rest (some b.objs.size, ([] : List Pr)) f) Q E { s with heap := hp b (dd mm mm.length :: gg), toks := tt }) →
      wpAny (model prog w) A (forIn ((cs.map fun c => c.map someP).flatten ++ rest) (some b.objs.size, ([] : List Pr)) f) Q E s := by
  induction hc with
  | nil =>
    intro m g ks s hs hK _ _ _ hQ
    have := hQ m g s.toks rfl (by simpa using hK) (by simp)
    obtain ⟨h, gg, d, t, o⟩ := s
    dsimp only at hs this
    subst hs
    simpa using this
  | @cons c l cs ls hg hl _ ih =>
    intro m g ks s hs hK hne hn hsz hQ
    rw [List.map_cons, List.flatten_cons, List.append_assoc, gather17 hf _ c _ (by rw [hg.len, hl])]
    have hce : c.isEmpty = false := by cases c with | nil => have := hg.len; rw [hl] at this; cases this | cons _ _ => rfl
    unfold flushD
    rw [if_neg (by rw [hce]; exact Bool.false_ne_true)]
    dsimp only
    have hnl : (l.map (·.1)).Nodup := by
      rw [List.flatten_cons, List.map_append, ← List.append_assoc, List.nodup_append, List.nodup_append] at hn
      exact hn.1.2.1
    have hn2 : (ks ++ l.map (·.1)).Nodup := by
      rw [List.flatten_cons, List.map_append, ← List.append_assoc, List.nodup_append] at hn
      exact hn.1
    simp only [List.length_cons] at hsz
    refine wpAny_bind (wpAny_bind (wpAny_holding (sub_long hg (by omega) (by omega) hs hnl ?_)))
    have es := ents_len l s.toks
    refine wpAny_bind (wpAny_onRaise (wpAny_holding ?_))
    rw [List.length_cons]
    refine merge_full (es := m) (ss := ents l s.toks) (n := m.length) (k := l.length) (g := g) (ks := ks) (js := l.map (·.1)) ?_ hK (ents_keys l _) hn2 hne (by omega) hS ?_
    · simp
    · refine wpAny_pure ?_
      refine ih (m ++ ents l s.toks) (g ++ [dd (ents l s.toks) 17]) (ks ++ l.map (·.1)) _ ?_ (hK.app (ents_keys l _)) (by simp [hne]) ?_ ?_ ?_
      · simp [hl]
      · simpa [List.append_assoc] using hn
      · rw [List.length_append, es, hl]; omega
      · intro mm gg tt e hK' hlen
        refine hQ mm gg tt ?_ (by simpa [List.append_assoc] using hK') (by rw [hlen, List.length_append, es, hl, List.length_cons]; omega)
        rw [proc, ← e]
        have : s.toks + 51 = s.toks + 3 * l.length := by rw [hl]
        rw [this]
/-- the values of the short road -/
noncomputable def valsB : List Ent → Nat → List (Value × Value)
  | [], _ => []
  | (i, x) :: r, t => (.int i t, .str x (t + 1)) :: valsB r (t + 2)
theorem eval_pairs {ps : List Pr} {l : List Ent} (hg : GivesAll prog w ps l) : ∀ {s : Shared} {Q : List (Value × Value) → Shared → Prop}, Q (valsB l s.toks) { s with toks := s.toks + 2 * l.length } → wpAny (model prog w) A (evalPairs ps) Q E s := by
  induction hg with
  | nil => intro s Q h; exact evalPairs_nil h
  | @cons p e ps l hp' _ ih =>
    intro s Q h
    obtain ⟨i, x⟩ := e
    refine evalPairs_cons (hp'.1 _ _ _ _ (hp'.2 _ _ _ _ (ih ?_)))
    have e2 : s.toks + 1 + 1 + 2 * l.length = s.toks + 2 * (l.length + 1) := by omega
    simpa [valsB, e2] using h
theorem fill_short {b : Heap} {l1 : List Obj} {Q : PUnit → Shared → Prop} : ∀ (l : List Ent) (t : Nat) (es : List DictEntry) (ks : List Int) (s : Shared),
    s.heap = hp b (l1 ++ [dd es es.length]) → KeysI es ks → (ks ++ l.map (·.1)).Nodup → es.length + l.length ≤ sizeLine →
    Q PUnit.unit { s with heap := hp b (l1 ++ [dd (es ++ entsB l t) (es.length + l.length)]), toks := s.toks + l.length } →
    wpAny (model prog w) A (forIn (valsB l t) PUnit.unit fun (x : Value × Value) (_ : PUnit) => (do dictSet (b.objs.size + l1.length) x.1 x.2; pure (ForInStep.yield PUnit.unit) : Sem (ForInStep PUnit))) Q E s := by
  intro l
  induction l with
  | nil =>
    intro t es ks s hs hK _ _ hQ
    rw [valsB, List.forIn_nil]
    refine wpAny_pure ?_
    obtain ⟨h, g, d, t, o⟩ := s
    dsimp only at hs
    subst hs
    simpa [entsB] using hQ
  | cons e l ih =>
    intro t es ks s hs hK hn hsz hQ
    obtain ⟨i, x⟩ := e
    rw [valsB, List.forIn_cons]
    refine wpAny_bind ?_
    refine wpAny_bind (set_fresh (es := es) (n := es.length) (ks := ks) (l2 := []) hs hK ?_ (by simp at hsz; omega) (wpAny_pure ?_))
    · intro hm
      rw [List.map_cons, List.nodup_append] at hn
      exact hn.2.2 i hm i (.head _) rfl
    · refine ih (t + 2) (es ++ [⟨hashInt i, .int i t, .str x (t + 1)⟩]) (ks ++ [i]) _ (by simp) (hK.app (.cons .nil)) (by simpa using hn) (by simp at hsz ⊢; omega) ?_
      have e1 : es.length + 1 + l.length = es.length + (l.length + 1) := by omega
      have e2 : s.toks + 1 + l.length = s.toks + (l.length + 1) := by omega
      simpa [entsB, e1, e2] using hQ
theorem sub_short {ps : List Pr} {l : List Ent} {b : Heap} {l1 : List Obj} {Q : Addr → Shared → Prop} (hg : GivesAll prog w ps l) (hl : l.length ≤ 15) (hsz : l.length ≤ sizeLine) (hs : s.heap = hp b l1) (hn : (l.map (·.1)).Nodup)
    (hQ : Q (b.objs.size + l1.length) { s with heap := hp b (l1 ++ [dd (entsB l s.toks) l.length]), toks := s.toks + 3 * l.length }) :
    wpAny (model prog w) A (subDict ps) Q E s := by
  unfold subDict
  refine wpAny_bind (wpAny_alloc ?_)
  rw [if_pos (by rw [hg.len]; omega)]
  refine wpAny_bind (wpAny_holding (wpAny_bind (eval_pairs hg ?_)))
  have e : s.heap.objs.size = b.objs.size + l1.length := by rw [hs, hp_size]
  rw [e]
  refine wpAny_holding (wpAny_bind ?_)
  refine fill_short l s.toks [] [] _ (by show s.heap.push _ = _; rw [hs, hp_push]; rfl) .nil (by simpa using hn) (by simpa using hsz) ?_
  refine wpAny_pure (wpAny_pure ?_)
  have e2 : s.toks + 2 * l.length + l.length = s.toks + 3 * l.length := by omega
  simpa [e2] using hQ
/-- a long display of ints and texts, exactly -/
theorem display {c0 cl : List Pr} {cs : List (List Pr)} {l0 ll : List Ent} {ls : List (List Ent)} {b : Heap} {Q : Value → Shared → Prop} (h0 : GivesAll prog w c0 l0) (h0l : l0.length = 17) (hc : Chunks prog w cs ls) (hl : GivesAll prog w cl ll) (hll : ll.length ≤ 15) (hl1 : ll ≠ [])
    (hs : s.heap = b) (hS : sysModules < b.objs.size) (hn : ((l0 ++ ls.flatten ++ ll).map (·.1)).Nodup) (hsz : 17 + 17 * ls.length + ll.length ≤ sizeLine)
    (hQ : ∀ mm gg tt, proc ls (ents l0 s.toks) [] (s.toks + 51) = (mm, gg, tt) → Q (.ref b.objs.size) { s with heap := hp b (dd (mm ++ entsB ll tt) (mm.length + ll.length) :: (gg ++ [dd (entsB ll tt) ll.length])), toks := tt + 3 * ll.length }) :
    wpAny (model prog w) A (dictDisplay (c0.map someP ++ ((cs.map fun c => c.map someP).flatten ++ cl.map someP))) Q E s := by
  obtain ⟨f, hf, hd⟩ := turn_ok
  rw [hd, gather17 hf _ c0 _ (by rw [h0.len, h0l])]
  have hs' : s.heap = hp b [] := by rw [hs, hp_nil]
  have hce : ∀ {c : List Pr} {l : List Ent}, GivesAll prog w c l → l ≠ [] → ¬ (c.isEmpty = true) := by
    intro c l hg hne
    cases hg with
    | nil => exact absurd rfl hne
    | cons _ _ => simp
  unfold flushD
  rw [if_neg (hce h0 (by intro e; rw [e] at h0l; cases h0l))]
  dsimp only
  rw [List.map_append, List.map_append] at hn
  have hn0 : (l0.map (·.1)).Nodup := by
    rw [List.nodup_append, List.nodup_append] at hn
    exact hn.1.1
  have hnl : (ll.map (·.1)).Nodup := (List.nodup_append.mp hn).2.1
  refine wpAny_bind (wpAny_bind (wpAny_bind (sub_long h0 (by omega) (by omega) hs' hn0 (wpAny_pure ?_))))
  have es := ents_len l0 s.toks
  refine chunks_loop (b := b) hf hS hc (ents l0 s.toks) [] (l0.map (·.1)) _ (by simp [es, hp]) (ents_keys l0 _) (by intro e; rw [e] at es; rw [← es] at h0l; cases h0l) (List.nodup_append.mp hn).1 (by omega) ?_
  intro mm gg tt e hK hlen
  have g1 := gather hf [] cl [] (some b.objs.size) (by rw [hl.len, List.length_nil]; omega)
  rw [List.append_nil] at g1
  rw [g1, List.forIn_nil]
  refine wpAny_pure ?_
  dsimp only
  rw [List.nil_append, if_neg (hce hl hl1)]
  refine wpAny_bind (wpAny_bind (wpAny_holding (sub_short hl hll (by omega) rfl hnl ?_)))
  have eb := entsB_len ll tt
  refine wpAny_bind (wpAny_onRaise (wpAny_holding ?_))
  rw [List.length_cons]
  refine merge_full (es := mm) (ss := entsB ll tt) (n := mm.length) (k := ll.length) (g := gg) (ks := _) (js := ll.map (·.1)) (by simp) hK (entsB_keys ll _) hn (by intro e; rw [e] at hlen; simp at hlen; omega) (by omega) hS ?_
  refine wpAny_pure (wpAny_pure ?_)
  rw [eb]
  have e51 : s.toks + 3 * l0.length = s.toks + 51 := by rw [h0l]
  exact hQ mm gg tt (by rw [← e, ← e51])
end Mine
end
section
open PySem PySem.W PyProof.Rows
set_option maxRecDepth 100000
set_option maxHeartbeats 0
namespace Mine
noncomputable abbrev bE : List Stmt := behindTheImports pw
noncomputable abbrev envE : Env := { scope := pw.main.scope, locals := mainNs, globals := mainNs, cells := [], code := .ref 30, frame := some 31 }
noncomputable abbrev cE : Code := .body bE envE
noncomputable abbrev p0 : Pos := ⟨0, 0, 0, 0⟩
noncomputable abbrev piece (a k : Nat) (pos : Pos) : Thread := piecesOf ((bE.drop a).take k) envE cE pos [topFrame p0]
theorem g0 : ∀ (w : World) (os : OsState), segRunT treeTable pw w 28 (some (.ref 6)) 1 39 (Sb w.params os) (piece 0 2 p0) = some (.next, S1 w.params os, cE, ⟨5, 0, 5, 8⟩) := by
  intro w os
  rw [PySem.W.Fast.te10110043849684766642, PySem.W.Fast.te14364793385576792824]
  kernel_rfl!
theorem g1 : ∀ (w : World) (os : OsState), segRunT treeTable pw w 28 (some (.ref 6)) 1 410 (S1 w.params os) (piece 2 2 ⟨5, 0, 5, 8⟩) = some (.next, S3 w.params os, cE, ⟨8, 0, 9, 8⟩) := by
  intro w os
  rw [PySem.W.Fast.te10110043849684766642, PySem.W.Fast.te14364793385576792824]
  kernel_rfl!
theorem g2 : ∀ (w : World) (os : OsState), segRunT treeTable pw w 28 (some (.ref 6)) 1 291 (S3 w.params os) (piece 4 4 ⟨8, 0, 9, 8⟩) = some (.next, S7 w.params os, cE, ⟨46, 0, 46, 8⟩) := by
  intro w os
  rw [PySem.W.Fast.te10110043849684766642, PySem.W.Fast.te14364793385576792824]
  kernel_rfl!
theorem g3 (w : World) : (fun os => segRunT treeTable pw w 28 (some (.ref 6)) 1 999 (S7 w.params os) (piece 8 1 ⟨46, 0, 46, 8⟩)) = (fun os => some (.next, S8 w.params os, cE, ⟨47, 0, 47, 6⟩)) := by
  refine byRow2 "special-get-raises" (P := fun w => (fun os => segRunT treeTable pw w 28 (some (.ref 6)) 1 999 (S7 w.params os) (piece 8 1 ⟨46, 0, 46, 8⟩)) = (fun os => some (.next, S8 w.params os, cE, ⟨47, 0, 47, 6⟩))) (fun w => ?_) (fun w => ?_) w <;> (funext os; rw [PySem.W.Fast.te10110043849684766642, PySem.W.Fast.te14364793385576792824]; kernel_rfl!)
theorem g4 : ∀ (w : World) (os : OsState), segRunT treeTable pw w 28 (some (.ref 6)) 1 30 (S8 w.params os) (piece 9 1 ⟨47, 0, 47, 6⟩) = some (.next, S9 w.params os, cE, ⟨48, 0, 49, 30⟩) := by
  intro w os
  rw [PySem.W.Fast.te10110043849684766642, PySem.W.Fast.te14364793385576792824]
  kernel_rfl!
theorem g6 : ∀ (w : World) (os : OsState), segRunT treeTable pw w 28 (some (.ref 6)) 1 728 (S14 w.params os) (piece 15 1 ⟨58, 0, 58, 20⟩) = some (.next, S15 w.params os, cE, ⟨59, 0, 128, 16⟩) := by
  intro w os
  rw [PySem.W.Fast.te10110043849684766642, PySem.W.Fast.te14364793385576792824]
  kernel_rfl!
theorem g7 : ∀ (w : World) (os : OsState), segRunT treeTable pw w 28 (some (.ref 6)) 1 202 (S15 w.params os) (piece 16 7 ⟨59, 0, 128, 16⟩) = some (.next, S22 w.params os, cE, ⟨181, 0, 184, 31⟩) := by
  intro w os
  rw [PySem.W.Fast.te10110043849684766642, PySem.W.Fast.te14364793385576792824]
  kernel_rfl!
theorem g8 : ∀ (w : World) (os : OsState), segRunT treeTable pw w 28 (some (.ref 6)) 1 152 (S22 w.params os) (piece 23 5 ⟨181, 0, 184, 31⟩) = some (.next, S27 w.params os, cE, ⟨218, 0, 231, 71⟩) := by
  intro w os
  rw [PySem.W.Fast.te10110043849684766642, PySem.W.Fast.te14364793385576792824]
  kernel_rfl!
end Mine
end
section
open PySem PySem.W PyProof.Rows
set_option maxRecDepth 100000
set_option maxHeartbeats 0
namespace Mine
noncomputable abbrev H0 (P : Params) : Heap := absHeap (T0 P) 28 {}
noncomputable abbrev HF (P : Params) : Heap := absHeap (T27 P) 362 {}
theorem opn_run : ∀ (w : World), importEnds treeTable (opening pw) w 800 (start (opening pw)).1 (start (opening pw)).2 = some ⟨absHeap (Ti w.params) 28 {}, #[], {}, 276, (start (opening pw)).1.os⟩ := by
  intro w
  rw [PySem.W.Fast.te10274390034422433532, PySem.W.Fast.te14364793385576792824]
  kernel_rfl!
theorem opn_fence : ∀ w : World, (fun os => (fenceModules? pw ⟨absHeap (Ti w.params) 28 {}, #[], {}, 276, os⟩).map (fun s => (s.heap, s.gens, s.drawn, s.toks))) = fun _ => some (H0 w.params, #[], {}, 276) := by
  intro w; funext os
  rw [PySem.W.Fast.te14289696077712309145]
  kernel_rfl!
theorem opn : ∀ w : World, (fencedOpening treeTable pw w 40000).map (fun s => (s.heap, s.gens, s.drawn, s.toks)) = some (H0 w.params, #[], {}, 276) :=
  open_cut (M := 800) (He := fun P => absHeap (Ti P) 28 {}) (H₀ := H0) opn_run (by decide) opn_fence
theorem pre : ∀ (w : World) (os : OsState), topGo treeTable pw w 28 (some (.ref 6)) 12 (S0 w.params os).abs (topStub pw) = some ((Sa w.params os).abs, ⟨denote treeTable cE, cE, p0, [topFrame p0]⟩) := by
  intro w os
  rw [PySem.W.Fast.te15667345088766844465, PySem.W.Fast.te14364793385576792824, PySem.W.Fast.te11892475500146522536]
  kernel_rfl!
theorem blk : ∀ (w : World) (os : OsState), segRunT treeTable pw w 28 (some (.ref 6)) 1 1 (Sa w.params os) (blockOf bE envE cE p0 [topFrame p0]) = some (.next, Sb w.params os, cE, p0) := by
  intro w os
  rw [PySem.W.Fast.te10110043849684766642, PySem.W.Fast.te14364793385576792824]
  kernel_rfl!
theorem size0 : ∀ w : World, ((H0 w.params).isNs mainGlobals && (#[] : Array GenState).size == 0, (H0 w.params).objs.size, (H0 w.params).nsMap mainGlobals "__annotations__") = (true, 28, some (.ref 6)) := by
  intro w
  kernel_rfl!
end Mine
end
section
open PySem PySem.W PyProof.Rows
set_option maxRecDepth 100000
set_option maxHeartbeats 0
set_option linter.unusedVariables false
namespace Mine
noncomputable def asgT : Stmt → List Expr | .Assign t _ _ => t | _ => []
noncomputable def asgP : Stmt → Pos | .Assign _ _ p => p | _ => ⟨0, 0, 0, 0⟩
noncomputable def dictP : Stmt → Pos | .Assign _ (.Dict _ _ p) _ => p | _ => ⟨0, 0, 0, 0⟩
theorem b3_is : stm 11 = .Assign [.Name (S "b3_exceptions") ⟨50, 0, 50, 13⟩] (.Dict (dictK (stm 11)) (dictV (stm 11)) (dictP (stm 11))) (asgP (stm 11)) := by kernel_rfl!
/-- a key and a value that are written: an int, a text -/
noncomputable def entOf : Option Expr × Expr → Option Ent
  | (some (.Constant (.int i) _ _), .Constant (.str x) _ _) => some (i, x)
  | _ => none
noncomputable def entsOf (l : List (Option Expr × Expr)) : List Ent := l.filterMap entOf
noncomputable def prOf (env : Env) (pos : Pos) (p : Option Expr × Expr) : Pr := (match p.1 with | some e => eval e env | none => .pure .none, do let x ← eval p.2 env; standAt pos; pure x)
theorem ent_form {p : Option Expr × Expr} {e : Ent} (h : entOf p = some e) : ∃ k1 p1 k2 p2, p = (some (.Constant (.int e.1) k1 p1), .Constant (.str e.2) k2 p2) := by
  unfold entOf at h
  split at h
  · cases h; exact ⟨_, _, _, _, rfl⟩
  · cases h
theorem gives_one {prog : Program} {w : World} {env : Env} {pos : Pos} {p : Option Expr × Expr} {e : Ent} (h : entOf p = some e) : Gives prog w (prOf env pos p) e := by
  obtain ⟨k1, p1, k2, p2, rfl⟩ := ent_form h
  refine ⟨fun A E s Q hQ => ?_, fun A E s Q hQ => ?_⟩
  · show wpAny _ _ (mkInt e.1) _ _ _
    exact wpAny_mkInt hQ
  · show wpAny _ _ (do let x ← mkText e.2; standAt pos; pure x) _ _ _
    exact wpAny_bind (wpAny_mkText (wpAny_bind (wpAny_standAt (wpAny_pure hQ))))
theorem gives_all {prog : Program} {w : World} {env : Env} {pos : Pos} : ∀ (l : List (Option Expr × Expr)), (l.all fun p => (entOf p).isSome) = true → GivesAll prog w (l.map (prOf env pos)) (entsOf l)
  | [], _ => .nil
  | p :: r, h => by
    rw [List.all_cons, Bool.and_eq_true] at h
    obtain ⟨e, he⟩ := Option.isSome_iff_exists.mp h.1
    rw [entsOf, List.filterMap_cons, he]
    exact .cons (gives_one he) (gives_all r h.2)
theorem items_is {env : Env} {pos : Pos} : ∀ (ks : List (Option Expr)) (vs : List Expr), ((ks.zip vs).all fun p => (entOf p).isSome) = true →
    (evalEachOpt ks env).zip ((evalEach vs env).map fun v => do let x ← v; standAt pos; pure x) = ((ks.zip vs).map (prOf env pos)).map someP
  | [], vs, _ => rfl
  | k :: ks, [], _ => rfl
  | k :: ks, v :: vs, h => by
    rw [List.zip_cons_cons, List.all_cons, Bool.and_eq_true] at h
    have ih := items_is (env := env) (pos := pos) ks vs h.2
    rw [arm_evalEachOpt_cons, arm_evalEach_cons, List.map_cons, List.zip_cons_cons, List.zip_cons_cons, List.map_cons, List.map_cons, ih]
    obtain ⟨e, he⟩ := Option.isSome_iff_exists.mp h.1
    obtain ⟨k1, p1, k2, p2, q⟩ := ent_form he
    obtain ⟨rfl, rfl⟩ := Prod.mk.inj q
    rfl
noncomputable def chunk {α : Type} : Nat → List α → List (List α)
  | 0, _ => []
  | n + 1, l => l.take 17 :: chunk n (l.drop 17)
theorem chunk_flat {α β : Type} (f : α → β) : ∀ (n : Nat) (l : List α), ((chunk n l).map fun c => c.map f).flatten ++ (l.drop (17 * n)).map f = l.map f
  | 0, l => by simp [chunk]
  | n + 1, l => by
    have ih := chunk_flat f n (l.drop 17)
    rw [List.drop_drop] at ih
    rw [chunk, List.map_cons, List.flatten_cons, List.append_assoc, show 17 * (n + 1) = 17 + 17 * n by omega, ih, ← List.map_append, List.take_append_drop]
theorem gives_take {prog : Program} {w : World} {ps : List Pr} {l : List Ent} (h : GivesAll prog w ps l) : ∀ n, GivesAll prog w (ps.take n) (l.take n) ∧ GivesAll prog w (ps.drop n) (l.drop n) := by
  induction h with
  | nil => intro n; simp only [List.take_nil, List.drop_nil]; exact And.intro .nil .nil
  | cons h hs ih =>
    intro n
    cases n with
    | zero => exact ⟨.nil, .cons h hs⟩
    | succ n => exact ⟨.cons h (ih n).1, (ih n).2⟩
theorem chunks_of {prog : Program} {w : World} : ∀ (n : Nat) {ps : List Pr} {l : List Ent}, GivesAll prog w ps l → 17 * n ≤ l.length → Chunks prog w (chunk n ps) (chunk n l)
  | 0, _, _, _, _ => .nil
  | n + 1, _, l, h, hl => .cons (gives_take h 17).1 (by rw [List.length_take]; omega) (chunks_of n (gives_take h 17).2 (by rw [List.length_drop]; omega))
theorem chunk_len {α : Type} : ∀ (n : Nat) (l : List α), (chunk n l).length = n
  | 0, _ => rfl
  | n + 1, l => by rw [chunk, List.length_cons, chunk_len n]
noncomputable abbrev b3Ls : List (Option Expr × Expr) := (dictK (stm 11)).zip (dictV (stm 11))
noncomputable abbrev b3E : List Ent := entsOf b3Ls
theorem b3_ok : (b3Ls.all fun p => (entOf p).isSome) = true := by kernel_rfl!
theorem b3_len : b3E.length = 650 := by kernel_rfl!
noncomputable def rising : List Int → Bool
  | a :: b :: r => decide (a < b) && rising (b :: r)
  | _ => true
theorem rising_nodup : ∀ (l : List Int), rising l = true → l.Pairwise (· < ·)
  | [], _ => .nil
  | [a], _ => by simp
  | a :: b :: r, h => by
    rw [rising, Bool.and_eq_true, decide_eq_true_eq] at h
    have ih := rising_nodup (b :: r) h.2
    refine List.Pairwise.cons (fun c hc => ?_) ih
    rcases List.mem_cons.mp hc with rfl | hc
    · exact h.1
    · exact Int.lt_trans h.1 ((List.pairwise_cons.mp ih).1 c hc)
theorem b3_rising : rising (b3E.map (·.1)) = true := by kernel_rfl!
theorem b3_nodup : (b3E.map (·.1)).Nodup := (rising_nodup _ b3_rising).imp (fun h => Int.ne_of_lt h)
/-- what the display leaves, for any rows -/
noncomputable def dispR (L : List Ent) (t : Nat) : List DictEntry × List Obj × Nat := proc (chunk 37 (L.drop 17)) (ents (L.take 17) t) [] (t + 51)
noncomputable def dispO (L : List Ent) (t : Nat) : List Obj := dd ((dispR L t).1 ++ entsB (L.drop 646) (dispR L t).2.2) ((dispR L t).1.length + (L.drop 646).length) :: ((dispR L t).2.1 ++ [dd (entsB (L.drop 646) (dispR L t).2.2) (L.drop 646).length])
/-- in words without the text, so that nothing is unfolded -/
theorem wp_long {p : Program} {w : World} {A : Around} {E : Value → Shared → Prop} {Q : Value → Shared → Prop} {s : Shared} {env : Env} {pos : Pos} {ks : List (Option Expr)} {vs : List Expr} (L : List (Option Expr × Expr)) (hL : ks.zip vs = L)
    (ok : (L.all fun p => (entOf p).isSome) = true) (hl : (entsOf L).length = 650) (hnd : ((entsOf L).map (·.1)).Nodup) (b : Heap) (hb : s.heap = b) (hS : sysModules < b.objs.size)
    (hQ : Q (.ref b.objs.size) { s with heap := hp b (dispO (entsOf L) s.toks), toks := (dispR (entsOf L) s.toks).2.2 + 12 }) :
    wpAny (model p w) A (eval (.Dict ks vs pos) env) Q E s := by
  subst hL
  rw [arm_eval_Dict]
  refine wpAny_bind (wpAny_standAt ?_)
  rw [items_is _ _ ok]
  have G := gives_all (prog := p) (w := w) (env := env) (pos := pos) (ks.zip vs) ok
  have e : ((ks.zip vs).map (prOf env pos)).map someP = (((ks.zip vs).map (prOf env pos)).take 17).map someP ++ (((chunk 37 (((ks.zip vs).map (prOf env pos)).drop 17)).map fun c => c.map someP).flatten ++ (((ks.zip vs).map (prOf env pos)).drop 646).map someP) := by
    have := chunk_flat someP 37 (((ks.zip vs).map (prOf env pos)).drop 17)
    rw [List.drop_drop] at this
    rw [this, ← List.map_append, List.take_append_drop]
  rw [e]
  generalize entsOf (ks.zip vs) = L at *
  have h646 : (L.drop 646).length = 4 := by rw [List.length_drop, hl]
  refine display (prog := p) (w := w) (b := b) (l0 := L.take 17) (ls := chunk 37 (L.drop 17)) (ll := L.drop 646) (gives_take G 17).1 (by rw [List.length_take, hl]; rfl) (chunks_of 37 (gives_take G 17).2 (by rw [List.length_drop, hl]; decide)) (gives_take G 646).2 (by rw [h646]; decide)
    (by intro q; rw [q] at h646; cases h646) hb hS ?_ (by rw [chunk_len, h646]; rw [sizeLine_eq]; omega) ?_
  · have := chunk_flat (fun x : Ent => x) 37 (L.drop 17)
    simp only [List.map_id'] at this
    rw [List.drop_drop] at this
    rw [List.append_assoc, this, List.take_append_drop]
    exact hnd
  · intro mm gg tt h
    have h' : dispR L s.toks = (mm, gg, tt) := h
    unfold dispO at hQ
    rw [h'] at hQ
    have et : 3 * (L.drop 646).length = 12 := by rw [h646]
    rw [et]
    exact hQ
noncomputable abbrev b3O : List Obj := dispO b3E 436
theorem exec_asg (tg : List Expr) (value : Expr) (pos : Pos) (env : Env) : exec (.Assign tg value pos) env = (do
    standAt pos
    if ← swapsWithSole tg value pos.line env then do
      evalThenUse value env fun v => assignAll v ((assignEach tg env).map (·.2))
      pure .next
    else do
      let v ← eval value env
      assignStores env v (← swappedStores tg value env) ((assignEach tg env).map (·.2))) := rfl
theorem assign_nm (x : PySem.Str) (pos : Pos) (env : Env) (v : Value) : assign (.Name x pos) env v = (do standAt pos; bindName env x v) := rfl
theorem wp_tail {p : Program} {w : World} {A : Around} {E : Value → Shared → Prop} {Q : Flow → Shared → Prop} {h : Heap} {g : Array GenState} {d : Drawn} {t : Nat} {os : OsState} {o : Obj} {es : Array DictEntry} {n : Nat} {x : PySem.Str} {pos : Pos} {v : Value}
    (hm : h.get? mainNs = some o) (ho : o.data = .dict es n) (hr : aRefKeyMayBeTheName x es = false) (hk : envE.kindOf x = some .local)
    (hQ : Q .next ⟨h.update mainNs (Obj.putName x (PyData.keyHash w.params x) (.str x t) v), g, d, t + 1, os⟩) :
    wpAny (model p w) A (assignStores envE v none ((assignEach [.Name x pos] envE).map (·.2))) Q E ⟨h, g, d, t, os⟩ := by
  unfold assignStores
  dsimp only
  refine wpAny_bind ?_
  show wpAny _ _ (assign (.Name x pos) envE v) _ _ _
  rw [assign_nm]
  refine wpAny_bind (wpAny_standAt ?_)
  unfold bindName
  refine wpAny_bind (wpAny_holding (wpAny_point ?_))
  refine wpAny_bind ?_
  have e : storeName envE x v = nsSet mainNs x v := by
    unfold storeName
    rw [hk]
    rfl
  rw [e]
  unfold nsSet
  unfold strHash
  refine wpAny_bind (wpAny_bind (wpAny_askSetting (wpAny_pure ?_)))
  refine wpAny_bind (wpAny_mkText ?_)
  refine wpAny_bind (wpAny_loadPart hm ?_)
  rw [ho]
  dsimp only
  rw [hr]
  refine wpAny_updatePart hm ?_
  exact wpAny_point (wpAny_pure hQ)
theorem b3_at (P : Params) : (hp (absHeap (T9 P) 108 {}) b3O).get? mainNs = some (o3_5 P) := by kernel_rfl!
theorem b3_dat (P : Params) : ∃ es n, (o3_5 P).data = .dict es n ∧ aRefKeyMayBeTheName (S "b3_exceptions") es = false := ⟨_, _, rfl, by kernel_rfl!⟩
theorem b3_kind : envE.kindOf (S "b3_exceptions") = some .local := by kernel_rfl!
theorem b3_state (w : World) (os : OsState) : (⟨(hp (absHeap (T9 w.params) 108 {}) b3O).update mainNs (Obj.putName (S "b3_exceptions") (PyData.keyHash w.params (S "b3_exceptions")) (.str (S "b3_exceptions") 2386) (.ref 108)), #[], {}, 2386 + 1, os⟩ : Shared) = (S10 w.params os).abs := by
  kernel_rfl!
theorem exec_dict {p : Program} {w : World} {A : Around} {E : Value → Shared → Prop} {Q : Flow → Shared → Prop} {s : Shared} {ks : List (Option Expr)} {vs : List Expr} {pd pp pos : Pos} {x : PySem.Str} {env : Env}
    (h : wpAny (model p w) A (eval (.Dict ks vs pd) env) (fun v s' => wpAny (model p w) A (assignStores env v none ((assignEach [.Name x pos] env).map (·.2))) Q E s') E s) :
    wpAny (model p w) A (exec (.Assign [.Name x pos] (.Dict ks vs pd) pp) env) Q E s := by
  rw [exec_asg]
  refine wpAny_bind (wpAny_standAt ?_)
  refine wpAny_bind (wpAny_pure ?_)
  rw [if_neg (by decide)]
  refine wpAny_bind (wpAny_mono h (fun v s' h' => ?_) fun _ _ e => e)
  exact wpAny_bind (wpAny_pure h')
theorem wp_one {p : Program} {w : World} {s : Shared} {ks : List (Option Expr)} {vs : List Expr} {pd pp : Pos} {x : PySem.Str} {pos : Pos} {A : Around} {E : Value → Shared → Prop} {Q : Flow → Shared → Prop} (L : List (Option Expr × Expr)) (hL : ks.zip vs = L)
    (ok : (L.all fun p => (entOf p).isSome) = true) (hl : (entsOf L).length = 650) (hnd : ((entsOf L).map (·.1)).Nodup) (b : Heap) (hb : s.heap = b) (hS : sysModules < b.objs.size) {o : Obj} {es : Array DictEntry} {n t t0 z : Nat} (h0 : s.toks = t0) (hz : b.objs.size = z)
    (ht : (dispR (entsOf L) t0).2.2 + 12 = t) (hm : (hp b (dispO (entsOf L) t0)).get? mainNs = some o) (ho : o.data = .dict es n) (hr : aRefKeyMayBeTheName x es = false) (hk : envE.kindOf x = some .local)
    (hQ : Q .next ⟨(hp b (dispO (entsOf L) t0)).update mainNs (Obj.putName x (PyData.keyHash w.params x) (.str x t) (.ref z)), s.gens, s.drawn, t + 1, s.os⟩) :
    wpAny (model p w) A (exec (.Assign [.Name x pos] (.Dict ks vs pd) pp) envE) Q E s := by
  subst h0
  subst hz
  refine exec_dict (wp_long L hL ok hl hnd b hb hS ?_)
  rw [ht]
  exact wp_tail hm ho hr hk hQ
theorem b3_t : (dispR b3E 436).2.2 + 12 = 2386 := by kernel_rfl!
theorem b3_size (P : Params) : (absHeap (T9 P) 108 {}).objs.size = 108 := by rw [absHeap_size]
theorem wp_b3 (w : World) (os : OsState) (A : Around) (E : Value → Shared → Prop) (Q : Flow → Shared → Prop) (hQ : Q .next (S10 w.params os).abs) :
    wpAny (model pw w) A (exec (stm 11) envE) Q E (S9 w.params os).abs := by
  rw [b3_is]
  obtain ⟨es, n, h1, h2⟩ := b3_dat w.params
  rw [← b3_state w os] at hQ
  exact @wp_one pw w (S9 w.params os).abs _ _ _ _ _ _ A E Q b3Ls rfl b3_ok b3_len b3_nodup (absHeap (T9 w.params) 108 {}) rfl (by rw [b3_size]; decide) (o3_5 w.params) es n 2386 436 108 rfl (b3_size w.params) b3_t (b3_at w.params) h1 h2 b3_kind hQ
end Mine
end
section
open PySem PySem.W PyProof.Rows
set_option maxRecDepth 100000
set_option maxHeartbeats 0
set_option linter.unusedVariables false
namespace Mine
noncomputable def qvH : Program := { pw with main := { pw.main with body := [stm 0, stm 1, stm 3, stm 4, stm 5, stm 6, stm 7, stm 10, stm 12, stm 16, stm 18, stm 19, stm 20, stm 21, stm 22, stm 23, stm 24, stm 25, stm 26, stm 27, stm 28] } }
noncomputable abbrev looseH : List PySem.Str := [S "b1_set", S "b3_exceptions", S "_name_disallowed_re", S "_value_disallowed_re"]
noncomputable abbrev rW : RowW := PySem.Challenge.rw_wf0102_01.row.toRowW
noncomputable abbrev Xt : Shared → Bool := fun s => xlAt qvH [] s && recOk (RowW.records rW) s
noncomputable abbrev SF (P : Params) (os : OsState) : Shared := ⟨HF P, #[], {}, 2722, os⟩
theorem look1 (w : World) (os : OsState) : (staticsOk (importedModules pw.main.body) (H0 w.params) (HF w.params) && namesBound pw (HF w.params) && gensDone (SF w.params os) && laidKept (H0 w.params) (HF w.params)) = true := by
  kernel_rfl!
theorem look3 (w : World) (os : OsState) : KA.map (SF w.params os).heap.get? = (KF w.params).map fun p => some p.2 := by
  kernel_rfl!
theorem look2_0 (w : World) (os : OsState) : (openSeen qvH looseH (importedModules pw.main.body) Xt true (SF w.params os)).1 = (openGood qvH looseH).1 := by
  unfold openSeen openGood
  dsimp only
  kernel_rfl!
theorem look2_1 (w : World) (os : OsState) : (openSeen qvH looseH (importedModules pw.main.body) Xt true (SF w.params os)).2.1 = (openGood qvH looseH).2.1 := by
  unfold openSeen openGood
  dsimp only
  kernel_rfl!
theorem lk2_0 (w : World) (os : OsState) : ((HF w.params).keysOk (looseW qvH looseH) ((recsOf qvH).map (·.name)) ((litsOf qvH).map (·.1)) ((clssOf qvH (looseW qvH looseH)).map (·.name))) = true := by
  kernel_rfl!
theorem lk2_1 (w : World) (os : OsState) : ((HF w.params).accountedOkI (importedModules pw.main.body)) = true := by
  kernel_rfl!
theorem lk2_2 (w : World) (os : OsState) : ((HF w.params).isNs mainGlobals) = true := by
  kernel_rfl!
theorem lk2_3 (w : World) (os : OsState) : ((HF w.params).isNs builtinsNs) = true := by
  kernel_rfl!
theorem lk2_4 (w : World) (os : OsState) : (tablesOk qvH (HF w.params)) = true := by
  kernel_rfl!
theorem lk2_5 (w : World) (os : OsState) : (xlAt qvH [] (SF w.params os)) = true := by
  kernel_rfl!
theorem lk2_6 (w : World) (os : OsState) : (recOk (RowW.records rW) (SF w.params os)) = true := by
  kernel_rfl!
theorem look2_2 (w : World) (os : OsState) : (openSeen qvH looseH (importedModules pw.main.body) Xt true (SF w.params os)).2.2.1 = (openGood qvH looseH).2.2.1 := by
  unfold openSeen openGood
  dsimp only
  rw [lk2_0 w os, lk2_1 w os, lk2_2 w os, lk2_3 w os, lk2_4 w os]
  unfold Xt
  rw [lk2_5 w os, lk2_6 w os]
  rfl
theorem look2_3 (w : World) (os : OsState) : (openSeen qvH looseH (importedModules pw.main.body) Xt true (SF w.params os)).2.2.2.1 = (openGood qvH looseH).2.2.2.1 := by
  unfold openSeen openGood
  dsimp only
  kernel_rfl!
theorem look2_4 (w : World) (os : OsState) : (openSeen qvH looseH (importedModules pw.main.body) Xt true (SF w.params os)).2.2.2.2.1 = (openGood qvH looseH).2.2.2.2.1 := by
  unfold openSeen openGood
  dsimp only
  kernel_rfl!
theorem look2_5 (w : World) (os : OsState) : (openSeen qvH looseH (importedModules pw.main.body) Xt true (SF w.params os)).2.2.2.2.2.1 = (openGood qvH looseH).2.2.2.2.2.1 := by
  unfold openSeen openGood
  dsimp only
  kernel_rfl!
theorem look2_6 (w : World) (os : OsState) : (openSeen qvH looseH (importedModules pw.main.body) Xt true (SF w.params os)).2.2.2.2.2.2.1 = (openGood qvH looseH).2.2.2.2.2.2.1 := by
  unfold openSeen openGood
  dsimp only
  kernel_rfl!
theorem look2_7 (w : World) (os : OsState) : (openSeen qvH looseH (importedModules pw.main.body) Xt true (SF w.params os)).2.2.2.2.2.2.2.1 = (openGood qvH looseH).2.2.2.2.2.2.2.1 := by
  unfold openSeen openGood
  dsimp only
  kernel_rfl!
theorem look2_8 (w : World) (os : OsState) : (openSeen qvH looseH (importedModules pw.main.body) Xt true (SF w.params os)).2.2.2.2.2.2.2.2 = (openGood qvH looseH).2.2.2.2.2.2.2.2 := by
  unfold openSeen openGood
  dsimp only
  kernel_rfl!
theorem look2 (w : World) (os : OsState) : openSeen qvH looseH (importedModules pw.main.body) Xt true (SF w.params os) = openGood qvH looseH :=
  Prod.ext (look2_0 w os) (Prod.ext (look2_1 w os) (Prod.ext (look2_2 w os) (Prod.ext (look2_3 w os) (Prod.ext (look2_4 w os) (Prod.ext (look2_5 w os) (Prod.ext (look2_6 w os) (Prod.ext (look2_7 w os) (look2_8 w os))))))))
end Mine
end
section
open PySem PySem.W PyProof.Rows PySem.Spec
set_option maxRecDepth 100000
namespace Mine
section
variable {tb : String → Option Builtin} {p : Program} {w : World} {n₀ : Nat} {ann : Option Value}
/-- calm steps of the machine -/
inductive GoTo (tb : String → Option Builtin) (p : Program) (w : World) : Shared → Thread → Shared → Thread → Prop
  | refl {s : Shared} {t : Thread} : GoTo tb p w s t s t
  | head {s s₂ s' : Shared} {t t₂ t' : Thread} : t.calm = true → step (denote tb) p w s t = .go s₂ t₂ → GoTo tb p w s₂ t₂ s' t' → GoTo tb p w s t s' t'
theorem GoTo.trans {s s₂ s' : Shared} {t t₂ t' : Thread} (h : GoTo tb p w s t s₂ t₂) (k : GoTo tb p w s₂ t₂ s' t') : GoTo tb p w s t s' t' := by
  induction h with
  | refl => exact k
  | head c e _ ih => exact .head c e (ih k)
theorem calm_ok {t : Thread} (h : stepOk n₀ ann t = true) : t.calm = true := (Bool.and_eq_true_iff.mp h).1
theorem topGo_go : ∀ (n : Nat) {s s' : Shared} {t t' : Thread}, topGo tb p w n₀ ann n s t = some (s', t') → GoTo tb p w s t s' t'
  | 0, s, s', t, t', h => by
    obtain ⟨rfl, rfl⟩ : s = s' ∧ t = t' := by simpa [topGo] using h
    exact .refl
  | n + 1, s, s', t, t', h => by
    unfold topGo at h
    cases ht : through t with
    | true => rw [ht] at h; cases h
    | false =>
      rw [ht] at h
      cases hk : stepOk n₀ ann t with
      | false => rw [hk] at h; cases h
      | true =>
        rw [hk] at h
        cases hs : step (denote tb) p w s t with
        | halt o s₂ => rw [hs] at h; cases h
        | go s₂ t₂ => rw [hs] at h; exact .head (calm_ok hk) hs (topGo_go n h)
theorem topRun_go : ∀ (n : Nat) {s s' : Shared} {t : Thread}, topRun tb p w n₀ ann n s t = some s' → ∃ t', GoTo tb p w s t s' t' ∧ through t' = true
  | 0, _, _, _, h => by simp [topRun] at h
  | n + 1, s, s', t, h => by
    unfold topRun at h
    cases ht : through t with
    | true =>
      rw [ht] at h
      obtain rfl : s = s' := Option.some.inj h
      exact ⟨t, .refl, ht⟩
    | false =>
      rw [ht] at h
      cases hk : stepOk n₀ ann t with
      | false => rw [hk] at h; cases h
      | true =>
        rw [hk] at h
        cases hs : step (denote tb) p w s t with
        | halt o s₂ => rw [hs] at h; cases h
        | go s₂ t₂ =>
          rw [hs] at h
          obtain ⟨t', g, q⟩ := topRun_go n h
          exact ⟨t', .head (calm_ok hk) hs g, q⟩
variable {α : Type} {B : List Frame} {K' : α → Sem Fin} {H' : Value → Sem Fin} {gd : Bool → Bool} {lv : List Value → List Value} {res : α → Flow}
/-- a segment with another tail takes the same steps -/
theorem seg_same (hB : splitAtGen B = none) (n : Nat) : ∀ {s : Shared} {t t' : Thread} {f : Flow} {s' : Shared} {c' : Code} {p' : Pos}, Rel2 (fun a => .pure (.done (res a))) K' deadEnd H' gd lv B t t' →
    segRun tb p w n₀ ann B.length n s t = some (f, s', c', p') → ∃ a, res a = f ∧ GoTo tb p w s t' s' ⟨K' a, c', p', B⟩ := by
  induction n with
  | zero => intro s t t' f s' c' p' _ h; simp [segRun] at h
  | succ n ih =>
    rintro s ⟨cur, code, pos, st⟩ ⟨cur', code', pos', st'⟩ f s' c' p' ⟨e1, e2, R⟩ h
    dsimp only at e1 e2 R
    subst e1 e2
    rw [segRun] at h
    by_cases he : endAt B.length ⟨cur, code, pos, st⟩ = none
    · rw [he] at h
      dsimp only at h
      have hk : stepOk n₀ ann ⟨cur, code, pos, st⟩ = true := by
        cases q : stepOk n₀ ann ⟨cur, code, pos, st⟩ with
        | true => rfl
        | false => rw [q] at h; cases h
      rw [hk] at h
      cases hs : step (denote tb) p w s ⟨cur, code, pos, st⟩ with
      | halt o s₂ => rw [hs] at h; cases h
      | go s₂ t₂ =>
        rw [hs] at h
        rcases R with ⟨rfl, rfl, x, rfl, rfl⟩ | ⟨rfl, F⟩
        · have hp : ∀ a, x ≠ .pure a := fun a e => by subst e; simp [endAt, Sem.wrap] at he
          have hr : ∀ e, x ≠ .raise e := fun e q => by
            subst q
            obtain ⟨h1, h2, h3, h4, h5⟩ := s
            simp only [Sem.wrap, step] at hs
            cases hs
          obtain ⟨t₂', k3, R'⟩ := step_outer (K' := K') (H' := H') hB hp hs
          obtain ⟨a, ha, g⟩ := ih R' h
          exact ⟨a, ha, .head (calm_ok (okOuter (K' := K') (H' := H') hp hr hk).1) k3 g⟩
        · obtain ⟨t₂', k3, R'⟩ := step_inner hB F hs
          obtain ⟨a, ha, g⟩ := ih R' h
          exact ⟨a, ha, .head (calm_ok (okInner hB F hk).1) k3 g⟩
    · obtain ⟨g, hg⟩ := Option.ne_none_iff_exists'.mp he
      rw [hg] at h
      obtain ⟨rfl, rfl, rfl, rfl⟩ : g = f ∧ s = s' ∧ code = c' ∧ pos = p' := by simpa using h
      rcases R with ⟨rfl, rfl, x, rfl, rfl⟩ | ⟨rfl, F⟩
      · cases x with
        | pure a =>
          simp only [endAt, Sem.wrap, beq_self_eq_true, Option.some.injEq] at hg
          exact ⟨a, hg, .refl⟩
        | _ => simp [endAt, Sem.wrap] at hg
      · have : (st.length == B.length) = false := beq_eq_false_iff_ne.mpr (Nat.ne_of_gt F.longer.1)
        simp only [endAt, this] at hg
        cases hg
variable {env : Env} {q : Pos}
theorem piece_go {n : Nat} {s s' : Shared} {l rest : List Stmt} {c : Code} {pos p' : Pos} (h : segRun tb p w n₀ ann 1 n s (piecesOf l env c pos [topFrame q]) = some (.next, s', c, p')) :
    GoTo tb p w s (restOf (l ++ rest) env c pos [topFrame q]) s' (restOf rest env c p' [topFrame q]) := by
  obtain ⟨a, ha, g⟩ := seg_same (res := id) (K' := fun f => match f with | .next => (execs rest env).wrap doneF (leaveH env) id id | f => doneF f) (H' := leaveH env) (B := [topFrame q]) rfl n (t := piecesOf l env c pos [topFrame q])
    (t' := ⟨(execs l env).wrap (fun f => match f with | .next => (execs rest env).wrap doneF (leaveH env) id id | f => doneF f) (leaveH env) id id, c, pos, [topFrame q]⟩) ⟨rfl, rfl, .inl ⟨rfl, rfl, _, rfl, rfl⟩⟩ h
  obtain rfl : a = .next := ha
  unfold restOf
  rw [execs_app_wrap]
  exact g
theorem block_go {n : Nat} {s s' : Shared} {b : List Stmt} {c : Code} {pos p' : Pos} (h : segRun tb p w n₀ ann 1 n s (blockOf b env c pos [topFrame q]) = some (.next, s', c, p')) :
    GoTo tb p w s ⟨denote tb (.body b env), c, pos, [topFrame q]⟩ s' (restOf b env c p' [topFrame q]) := by
  obtain ⟨a, ha, g⟩ := seg_same (res := fun _ : Unit => Flow.next) (K' := fun _ => (execs b env).wrap doneF (leaveH env) id id) (H' := Sem.raise) (B := [topFrame q]) rfl n (t := blockOf b env c pos [topFrame q])
    (t' := ⟨(blockStart b env).wrap (fun _ => (execs b env).wrap doneF (leaveH env) id id) .raise id id, c, pos, [topFrame q]⟩) ⟨rfl, rfl, .inl ⟨rfl, rfl, _, rfl, rfl⟩⟩ h
  rw [body_wrap]
  exact g
/-- the machine halts, by calm steps -/
noncomputable def Halts (tb : String → Option Builtin) (p : Program) (w : World) (s : Shared) (t : Thread) (o : Outcome) (s' : Shared) : Prop :=
  ∃ n, runN (denote tb) p w n s t = .halted o s' ∧ ∀ k s₁ t₁, runN (denote tb) p w k s t = .running s₁ t₁ → t₁.calm = true
theorem GoTo.halts {s s₂ s' : Shared} {t t₂ : Thread} {o : Outcome} (h : GoTo tb p w s t s₂ t₂) (k : Halts tb p w s₂ t₂ o s') : Halts tb p w s t o s' := by
  induction h with
  | refl => exact k
  | @head s s₂ s' t t₂ t' c e _ ih =>
    obtain ⟨n, hn, hc⟩ := ih k
    refine ⟨n + 1, by rw [runN, e]; exact hn, fun k s₁ t₁ hk => ?_⟩
    cases k with
    | zero => injection hk with _ e; exact e ▸ c
    | succ k => rw [runN, e] at hk; exact hc k s₁ t₁ hk
theorem through_halts {s : Shared} {t : Thread} (h : through t = true) (hg : leftWithCleanup s.gens = false) : ∃ f, Halts tb p w s t (.done f) s := by
  obtain ⟨cur, code, pos, st⟩ := t
  unfold through at h
  obtain ⟨h1, h2⟩ := Bool.and_eq_true_iff.mp h
  obtain rfl : st = [] := by simpa using h1
  cases cur with
  | pure x =>
    cases x with
    | done f =>
      have hs : step (denote tb) p w s ⟨.pure (.done f), code, pos, []⟩ = .halt (.done f) s := by
        obtain ⟨a, b, c, d, e⟩ := s
        dsimp only [step, finish]
        rw [if_neg (by dsimp only at hg; rw [hg]; exact Bool.false_ne_true)]
      refine ⟨f, 1, by rw [runN, hs], fun k s₁ t₁ hk => ?_⟩
      cases k with
      | zero => injection hk with _ e; subst e; rfl
      | succ k => rw [runN, hs] at hk; cases hk
    | again c => cases h2
  | _ => cases h2
noncomputable def isDone : Step → Bool
  | .halt (.done _) _ => true
  | _ => false
theorem halt_done {s s' : Shared} {t : Thread} {f : Flow} (h : step (denote tb) p w s t = .halt (.done f) s') : s = s' ∧ through t = true := by
  have h' : isDone (step (denote tb) p w s t) = true := by rw [h]; rfl
  obtain ⟨heap, gens, drawn, toks, os⟩ := s
  obtain ⟨cur, code, pos, st⟩ := t
  cases cur with
  | pure x =>
    cases x with
    | done f' =>
      cases st with
      | nil =>
        dsimp only [step, finish] at h
        split at h
        · cases h
        · cases h; exact ⟨rfl, rfl⟩
      | cons fr r => cases fr <;> exact absurd h' Bool.false_ne_true
    | again c => exact absurd h' Bool.false_ne_true
  | raise e =>
    cases st with
    | nil => dsimp only [step, finish] at h'; split at h' <;> exact absurd h' Bool.false_ne_true
    | cons fr r => cases fr <;> exact absurd h' Bool.false_ne_true
  | finish e => dsimp only [step] at h'; split at h' <;> exact absurd h' Bool.false_ne_true
  | load a q k => dsimp only [step] at h'; split at h' <;> exact absurd h' Bool.false_ne_true
  | update a q f k => dsimp only [step] at h'; split at h' <;> exact absurd h' Bool.false_ne_true
  | choose src n k => dsimp only [step] at h'; split at h' <;> exact absurd h' Bool.false_ne_true
  | genState g k => dsimp only [step] at h'; split at h' <;> exact absurd h' Bool.false_ne_true
  | resume g r l k =>
    dsimp only [step] at h'
    split at h'
    · exact absurd h' Bool.false_ne_true
    · split at h' <;> exact absurd h' Bool.false_ne_true
    all_goals exact absurd h' Bool.false_ne_true
  | «yield» v g0 l kk => dsimp only [step] at h'; split at h' <;> exact absurd h' Bool.false_ne_true
  | _ => simp only [step] at h; cases h
theorem Halts.sched {s s' : Shared} {t : Thread} {f : Flow} (h : Halts tb p w s t (.done f) s') (hr : s.asleep) : ∃ n t₁, schedN (denote tb) p w n (.single s t) = .running (.single s' t₁) ∧ through t₁ = true := by
  obtain ⟨n, hn, hc⟩ := h
  have key : ∀ (n : Nat) (s : Shared) (t : Thread), runN (denote tb) p w n s t = .halted (.done f) s' → ∃ k t₁, runN (denote tb) p w k s t = .running s' t₁ ∧ through t₁ = true := by
    intro n
    induction n with
    | zero => intro s t h; cases h
    | succ n ih =>
      intro s t h
      rw [runN] at h
      cases hs : step (denote tb) p w s t with
      | go s₂ t₂ =>
        rw [hs] at h
        obtain ⟨k, t₁, e, q⟩ := ih s₂ t₂ h
        exact ⟨k + 1, t₁, by rw [runN, hs]; exact e, q⟩
      | halt o s₂ =>
        rw [hs] at h
        injection h with h1 h2
        subst h1 h2
        obtain ⟨rfl, q⟩ := halt_done hs
        exact ⟨0, t, rfl, q⟩
  obtain ⟨k, t₁, hk, q⟩ := key n s t hn
  refine ⟨k, t₁, ?_, q⟩
  rw [schedN_prefix (den := denote tb) (prog := p) (w := w) k s t hr fun j s₂ t₂ hj hrun => ⟨hc j s₂ t₂ hrun, fun e => ?_⟩, hk]
  · rfl
  · have stop : ∀ (j : Nat) (s : Shared) (t : Thread), runN (denote tb) p w j s t = .running s₂ t₂ → ∀ i, j < i → ∀ s₃ t₃, runN (denote tb) p w i s t ≠ .running s₃ t₃ := by
      intro j
      induction j with
      | zero =>
        intro s t h i hi s₃ t₃ h3
        injection h with e1 e2
        subst e1 e2
        obtain ⟨i, rfl⟩ : ∃ i', i = i' + 1 := ⟨i - 1, by omega⟩
        rw [runN, e] at h3
        cases h3
      | succ j ih =>
        intro s t h i hi s₃ t₃ h3
        obtain ⟨i, rfl⟩ : ∃ i', i = i' + 1 := ⟨i - 1, by omega⟩
        rw [runN] at h h3
        cases hs : step (denote tb) p w s t with
        | go s₄ t₄ => rw [hs] at h h3; exact ih s₄ t₄ h i (by omega) s₃ t₃ h3
        | halt o s₄ => rw [hs] at h; cases h
    exact stop j s t hrun k hj _ _ hk
end
end Mine
end
section
open PySem PySem.W PyProof.Rows PySem.Spec
set_option maxRecDepth 100000
set_option maxHeartbeats 0
set_option linter.unusedVariables false
namespace Mine
noncomputable abbrev B0 : List Frame := [topFrame p0]
theorem g5p : ∀ (w : World) (os : OsState) (p' : Pos), segRunT treeTable pw w 28 (some (.ref 6)) 1 186 (S10 w.params os) (piece 11 4 p') = some (.next, S14 w.params os, cE, ⟨58, 0, 58, 20⟩) := by
  intro w os p'
  rw [PySem.W.Fast.te10110043849684766642, PySem.W.Fast.te14364793385576792824]
  kernel_rfl!
theorem fin_run : ∀ (w : World) (os : OsState), topRun treeTable pw w 28 (some (.ref 6)) 3 (S27 w.params os).abs ⟨doneF .next, cE, ⟨218, 0, 231, 71⟩, B0⟩ = some (S27 w.params os).abs := by
  intro w os
  rw [PySem.W.Fast.te14082659384304107361, PySem.W.Fast.te14364793385576792824]
  kernel_rfl!
theorem drop_end : bE.drop 28 = [] := by kernel_rfl!
theorem drop10 : bE.drop 10 = stm 11 :: bE.drop 11 := by kernel_rfl!
theorem next_piece {w : World} {s s' : SharedT} {a k n : Nat} {pos p' : Pos} (h : segRunT treeTable pw w 28 (some (.ref 6)) 1 n s (piece a k pos) = some (.next, s', cE, p')) :
    GoTo treeTable pw w s.abs (restOf (bE.drop a) envE cE pos B0) s'.abs (restOf (bE.drop (a + k)) envE cE p' B0) := by
  have e : bE.drop a = (bE.drop a).take k ++ bE.drop (a + k) := by rw [← List.drop_drop, List.take_append_drop]
  rw [e]
  exact piece_go (segRun_of h)
theorem no_gens : leftWithCleanup (#[] : Array GenState) = false := by simp [leftWithCleanup]
theorem suffix (w : World) (os : OsState) (p' : Pos) : ∃ f, Halts treeTable pw w (S10 w.params os).abs (restOf (bE.drop 11) envE cE p' B0) (.done f) (S27 w.params os).abs := by
  have h1 := next_piece (g5p w os p')
  have h2 := next_piece (g6 w os)
  have h3 := next_piece (g7 w os)
  have h4 := next_piece (g8 w os)
  rw [show 23 + 5 = 28 from rfl, drop_end] at h4
  obtain ⟨t', h5, ht⟩ := topRun_go 3 (fin_run w os)
  obtain ⟨f, hf⟩ := through_halts (tb := treeTable) (p := pw) (w := w) (s := (S27 w.params os).abs) ht no_gens
  exact ⟨f, (h1.trans (h2.trans (h3.trans (h4.trans h5)))).halts hf⟩
/-- one statement walked by a rule, between pieces that the kernel ran: in words without the text, so that nothing is unfolded -/
theorem mid_of {p : Program} {w : World} {st : Stmt} {rest : List Stmt} {env : Env} {c : Code} {pos : Pos} {q : Pos} {s s₁ s₂ : Shared} (hg₂ : s₂.gens = #[])
    (hst : ∀ (A : Around) (E : Value → Shared → Prop) (Q : Flow → Shared → Prop), Q .next s₁ → wpAny (model p w) A (exec st env) Q E s)
    (hsuf : ∀ p', ∃ f, Halts treeTable p w s₁ (restOf rest env c p' [topFrame q]) (.done f) s₂) :
    ∃ f, Halts treeTable p w s (restOf (st :: rest) env c pos [topFrame q]) (.done f) s₂ := by
  have no_gens : leftWithCleanup s₂.gens = false := by rw [hg₂]; simp [leftWithCleanup]
  let M : Model := model p w
  let Γ : PySem.Ctx := ⟨c, none, none, [], none⟩
  have step : ∃ e s'', Runs M Γ pos (restOf (st :: rest) env c pos [topFrame q]).cur [topFrame q] s e s'' ∧ (∃ f, e = .ret (.ok f) ∧ s'' = s₂) := by
    unfold restOf
    rw [execs_cons_wrap]
    refine runs_wrap_of_wp (M := M) (Γ := Γ) (fs := [topFrame q]) (Q := fun f _ s' => f = .next ∧ s' = s₁) (E := fun _ _ _ => False) (Φ := fun e s'' => ∃ f, e = .ret (.ok f) ∧ s'' = s₂) _ _ _ _ _ ?_ ?_ ?_
    · have h := hst { handled := (Γ.over [topFrame q]).handled, depth := frameCount (Γ.over [topFrame q]).below + (Γ.over [topFrame q]).code.weight, units := (Γ.over [topFrame q]).units } (fun _ _ => False) (fun f s' => f = .next ∧ s' = s₁) ⟨rfl, rfl⟩
      exact h (Γ.over [topFrame q]) _ ⟨rfl, Nat.le_refl _, fun _ e => (nomatch e), fun _ e => (nomatch e), Nat.le_refl _⟩
    · rintro a p' s' ⟨rfl, rfl⟩
      obtain ⟨f, n, hn, hc⟩ := hsuf p'
      rw [← table_eq_tree] at hn hc
      obtain ⟨s', hi, hf⟩ := runN_calm_runNI (denote table) p w hn hc
      have hg : s'.gens = #[] := by
        have := congrArg (fun s : Shared => s.gens.size) hf
        simp only [Shared.forget, Array.size_map, hg₂] at this
        exact Array.eq_empty_of_size_eq_zero this.symm
      obtain rfl : s₂ = s' := Shared.eq_of_forget_eq hf hg
      exact ⟨_, _, (halts_iff (M := M) (r := .ok f).mp ⟨n, hi⟩).1, f, rfl, rfl⟩
    · intro _ _ _ h; exact h.elim
  obtain ⟨e, s'', hr, f, rfl, rfl⟩ := step
  obtain ⟨n, hn⟩ := (halts_iff (M := M) (r := .ok f)).mpr ⟨hr, no_gens⟩
  obtain ⟨s', h1, h2, h3⟩ := runNI_real (denote table) p w hn rfl
  obtain rfl : s' = s'' := Shared.eq_of_forget_eq h2 hg₂
  refine ⟨f, n, ?_, ?_⟩
  · rw [← table_eq_tree]; exact h1
  · rw [← table_eq_tree]; exact h3
theorem mid (w : World) (os : OsState) : ∃ f, Halts treeTable pw w (S9 w.params os).abs (restOf (bE.drop 10) envE cE ⟨48, 0, 49, 30⟩ B0) (.done f) (S27 w.params os).abs := by
  rw [drop10]
  exact mid_of rfl (@wp_b3 w os) (suffix w os)
theorem whole (w : World) (os : OsState) : ∃ f, Halts treeTable pw w (S0 w.params os).abs (topStub pw) (.done f) (S27 w.params os).abs := by
  obtain ⟨f, hf⟩ := mid w os
  have h0 := topGo_go 12 (pre w os)
  have h1 := block_go (env := envE) (q := p0) (segRun_of (blk w os))
  have a0 := next_piece (g0 w os)
  have a1 := next_piece (g1 w os)
  have a2 := next_piece (g2 w os)
  have a3 := next_piece (congrFun (g3 w) os)
  have a4 := next_piece (g4 w os)
  exact ⟨f, (h0.trans (h1.trans (a0.trans (a1.trans (a2.trans (a3.trans a4)))))).halts hf⟩
theorem top_ran (w : World) (os : OsState) : ∃ n t, schedN (denote table) pw w n (.single (S0 w.params os).abs (topStub pw)) = .running (.single (S27 w.params os).abs t) ∧ through t = true := by
  obtain ⟨f, hf⟩ := whole w os
  rw [table_eq_tree]
  exact hf.sched (by first | rfl | exact ⟨rfl, rfl⟩ | exact ⟨rfl, rfl, rfl⟩ | exact ⟨rfl, rfl, rfl, rfl⟩)
end Mine
end
section
open PySem PySem.W PyProof.Rows PySem.Calls
set_option maxRecDepth 100000
namespace Mine
/-- what stands behind the top's run, in every world -/
noncomputable abbrev Behind (p q : Program) (loose : List PySem.Str) (XP : (PySem.Str → Option Value) → Heap → Prop) (YP : World → Heap → Prop) : Prop :=
  ∀ w, (∃ s, AfterRun (opening p) w s) ∧ ∀ s, AfterRun (opening p) w s → ∃ s₀, fenceModules? p s = some s₀ ∧ s₀.gens = #[] ∧ ∃ s₁, TopRan p w s₀ s₁ ∧ s₁.asleep ∧ s₁.gens = #[] ∧ s₁.heap.isNs mainGlobals = true ∧
      Ground q loose [] XP w s₁ (s₁.heap.nsMap mainGlobals) (s₁.heap.nsMap builtinsNs) s₁.heap ∧ YP w s₁.heap
end Mine
end
section
open PySem PySem.W PyProof.Rows PySem.Calls
set_option maxRecDepth 100000
set_option maxHeartbeats 0
set_option linter.unusedVariables false
namespace Mine
theorem keep28 (P : Params) : ((List.range 28).filter fun b => b != cStatics && b != mainNs).map (H0 P).get? = ((List.range 28).filter fun b => b != cStatics && b != mainNs).map (HF P).get? := by
  kernel_rfl!
theorem keep_old (P : Params) {b : Addr} {o : Obj} (h : (H0 P).get? b = some o) (h1 : b ≠ mainNs) (h2 : b ≠ cStatics) : (HF P).get? b = some o := by
  have hb : b < 28 := by
    have := Heap.lt_size h
    rw [absHeap_size] at this
    exact this
  have hm : b ∈ (List.range 28).filter fun b => b != cStatics && b != mainNs := by
    rw [List.mem_filter, List.mem_range, Bool.and_eq_true, bne_iff_ne, bne_iff_ne]
    exact ⟨hb, h2, h1⟩
  rw [← List.map_inj_left.mp (keep28 P) b hm]
  exact h
theorem hX1 (s : Shared) (e : Xt s = true) : XL qvH [] (s.heap.nsMap mainGlobals) s.heap ∧ RecFacts rW.records s.heap :=
  ⟨xl_of s (Bool.and_eq_true_iff.mp e).1, recFacts_of (Bool.and_eq_true_iff.mp e).2⟩
theorem chains : chainsOk qvH = true := by decide +kernel
theorem beh : Behind PySem.Challenge.rw_wf0102_01.row.prog qvH looseH (fun mg h => XL qvH [] mg h ∧ RecFacts rW.records h) (kHook KF KA KA_eq).says := by
  intro w
  have h := opn w
  rw [← table_eq_tree] at h
  obtain ⟨s₀, h2, e⟩ := Option.map_eq_some_iff.mp h
  obtain ⟨s, h4, h5⟩ := Option.bind_eq_some_iff.mp h2
  have A := AfterImport.of_importEnds h4
  refine ⟨⟨s, A⟩, fun s' hs' => ?_⟩
  obtain rfl : s' = s := AfterImport.unique hs' A
  have z : s₀.asleep := Shared.asleep_of_life (fence_lifeW h5) A.life
  refine ⟨s₀, h5, ?_⟩
  obtain ⟨hh, gs, d, k, os⟩ := s₀
  simp only [Prod.mk.injEq] at e
  obtain ⟨rfl, rfl, rfl, rfl⟩ := e
  refine ⟨rfl, (S27 w.params os).abs, ?_⟩
  obtain ⟨n, t, hs, ht⟩ := top_ran w os
  obtain ⟨G, g0, g1, g2, g3, g4, g5⟩ := ground_of_open (XP := fun mg h => XL qvH [] mg h ∧ RecFacts rW.records h) (q := qvH) (loose := looseH) (Xt := Xt) (w := w) (s := (S27 w.params os).abs) hX1 chains (look2 w os)
  have l1 := look1 w os
  obtain ⟨l1, hlk⟩ := Bool.and_eq_true_iff.mp l1
  obtain ⟨l1, hgd⟩ := Bool.and_eq_true_iff.mp l1
  obtain ⟨hst, hnb⟩ := Bool.and_eq_true_iff.mp l1
  exact ⟨⟨⟨n, t, hs, ht⟩, rfl, rfl, fun b o hb hn => keep_old w.params hb (fun q => hn (.inl q)) (fun q => hn (.inr (.inl q))),
    g2, statics_of_ok hst, g3, g4, g5, gens_of_done hgd, names_of_bound hnb, laid_of_kept hlk⟩, ⟨rfl, rfl⟩, rfl, g1, G, (kHook KF KA KA_eq).of w _ (look3 w os)⟩
end Mine
end
section
open PySem PySem.W PyProof.Rows PySem.Calls
set_option maxRecDepth 100000
set_option maxHeartbeats 8000000
namespace Mine
theorem ws_bare : (["vars", "dir", "locals"] : List PySem.Str).filter (readsOut PySem.Challenge.rw_wf0102_01.row.prog PySem.Challenge.rw_wf0102_01.row.prog.main.body) = [] := by decide +kernel
theorem ws_strict : (!(importedModules PySem.Challenge.rw_wf0102_01.row.prog.main.body).all cThrough.contains) = false := by decide +kernel
/-- look by look: in one step it would want 5 GB of the kernel -/
theorem ws : PySem.Challenge.rw_wf0102_01.wellSaid = true := by
  unfold OpenLaw.wellSaid OpenRow.wellSaid OpenRow.partSaid looksOpen
  rw [ws_bare, ws_strict]
  repeat' (with_reducible refine look_both ?_ ?_)
  all_goals decide +kernel
theorem hsaid (h : PySem.Challenge.rw_wf0102_01.row.wellSaid = true → PySem.Challenge.rw_wf0102_01.row.Holds) : PySem.Challenge.rw_wf0102_01.Holds := holds_law ws h
end Mine
end
section
open PySem PySem.W PyProof.Rows
namespace Mine
theorem four {i : Nat} (h : i < 4) : i = 0 ∨ i = 1 ∨ i = 2 ∨ i = 3 := by
  match i, h with
  | 0, _ => exact .inl rfl
  | 1, _ => exact .inr (.inl rfl)
  | 2, _ => exact .inr (.inr (.inl rfl))
  | 3, _ => exact .inr (.inr (.inr rfl))
  | _ + 4, h => exact absurd h (Nat.not_lt.mpr (Nat.le_add_left 4 _))
theorem three {i : Nat} (h : i < 3) : i = 0 ∨ i = 1 ∨ i = 2 := by
  match i, h with
  | 0, _ => exact .inl rfl
  | 1, _ => exact .inr (.inl rfl)
  | 2, _ => exact .inr (.inr rfl)
  | _ + 3, h => exact absurd h (Nat.not_lt.mpr (Nat.le_add_left 3 _))
theorem five {f : Nat} (h : f < 23) : ¬ f < 16 → ¬ f = 16 → ¬ f = 22 → f = 17 ∨ f = 18 ∨ f = 19 ∨ f = 20 ∨ f = 21 := (by decide : ∀ f : Fin 23, ¬ f.1 < 16 → ¬ f.1 = 16 → ¬ f.1 = 22 → f.1 = 17 ∨ f.1 = 18 ∨ f.1 = 19 ∨ f.1 = 20 ∨ f.1 = 21) ⟨f, h⟩
theorem sub_step {a i : Nat} (h : i < a) : a - i = a - (i + 1) + 1 := (Nat.sub_add_cancel (Nat.sub_pos_of_lt h)).symm
theorem to_succ {i : Int} (h : 0 ≤ i) : (i + 1).toNat = i.toNat + 1 := Int.toNat_add h (by decide)
theorem lim2 {a b x y L : Nat} (h : a + b < L) (e : Nat.ble (x + y) b = true) : a + x + y < L := by
  rw [Nat.add_assoc]
  exact Nat.lt_of_le_of_lt (Nat.add_le_add_left (Nat.le_of_ble_eq_true e) a) h
/-- a goal under a name of its own -/
theorem prop_cut {G : Prop} (h : ∀ G' : Prop, (G → G') → G') : G := h G fun x => x
/-- what stands behind a step, under a name of its own: so that its words are not written out again at every step -/
structure Cut {α : Type} (P Q : α → Shared → Prop) : Prop where
  out : ∀ a s, P a s → Q a s
theorem Cut.use {α : Type} {P Q : α → Shared → Prop} {a : α} {s : Shared} (c : Cut P Q) (h : P a s) : Q a s := c.out a s h
theorem wpAny_cut {α : Type} {M : Model} {A : Around} {t : Sem α} {Q : α → Shared → Prop} {E : Value → Shared → Prop} {s : Shared} (h : ∀ Q' E', Cut Q Q' → Cut E E' → wpAny M A t Q' E' s) : wpAny M A t Q E s := h Q E ⟨fun _ _ x => x⟩ ⟨fun _ _ x => x⟩
end Mine
end
section
open PySem PySem.W PyProof.Rows PySem.Calls PySem.Spec
set_option maxRecDepth 100000
namespace Mine
noncomputable def qv : Program := { pw with main := { pw.main with body := [stm 0, stm 1, stm 3, stm 4, stm 5, stm 6, stm 7, stm 10, stm 12, stm 16, stm 18, stm 19, stm 20, stm 21, stm 22, stm 23, stm 24, stm 25, stm 26, stm 27, stm 28] } }
noncomputable abbrev loose : List PySem.Str := [S "b1_set", S "b3_exceptions", S "_name_disallowed_re", S "_value_disallowed_re"]
noncomputable abbrev PG : Program := PySem.Challenge.rw_wf0102_01.prog
theorem fill (w : World) (h : Heap) : (KF w.params).In h → PySem.Challenge.rw_wf0102_01.prog = PySem.Challenge.rw_wf0102_01.prog := by
  k_fill
  intro _; rfl
/-- what holds in the frame of a caller that is a def of the text -/
structure At (w : World) (base : Heap) (cs : Scope) (L : Addr) (outer : List Env) (h₀ : Heap) (m : PySem.Str → Option Value) (news : List (Addr × Obj)) (h : Heap) : Prop where
  B : ∃ A₀, Below A₀ base outer h₀
  F : Fr h₀ L h m
  X : (KF w.params).In h₀
  N : News h₀ L h news
  T : ∃ mean mg mb, Top qv (looseW qv loose) mean mg mb h₀
  k : cs.kind = .function
/-- how a caller's frame stands where a call has raised e, of the class c -/
noncomputable abbrev Threw (base : Heap) (outer : List Env) (h₀ : Heap) (L : Addr) (m : PySem.Str → Option Value) (env : Env) (e : Addr) (c : Value) (news : List (Addr × Obj)) (h' : Heap) : Prop :=
  ∃ G, Fr h₀ L G m ∧ G.UpToSlots h' ∧ RaisedSN base G (env :: outer) e c news h'
/-- a contract of the def at f, called with vs where the ledger is news: `post` says what the rest of the walk is owed; its first word: how the caller stands where the call has answered; its second: how it stands where the call has raised -/
noncomputable abbrev Ctr (w : World) (f : Addr) (vs : List Value) (news : List (Addr × Obj)) (d u : Nat) (post : (Heap → List (Addr × Obj) → Prop) → (Addr → Value → List (Addr × Obj) → Heap → Prop) → Shared → (Value → Shared → Prop) → (Value → Shared → Prop) → Prop) : Prop :=
  ∀ (dp un : Nat) (gd : Option (List Code)) (cn : PySem.Str) (cs : Scope) (a : Addr) (ccd : Value) (cl : List (PySem.Str × Addr)) (base : Heap) (outer : List Env) (h₀ : Heap) (L : Addr) (m : PySem.Str → Option Value) (s : Shared) (Q E : Value → Shared → Prop),
    At w base cs L outer h₀ m news s.heap → dp + d < recursionLimit → un + u < cLine →
    post (fun h' news' => At w base cs L outer h₀ m news' h') (fun e c news' h' => Threw base outer h₀ L m (envX cn cs L a ccd cl) e c news' h') s Q E →
      wpAny (model PG w) (ktrTop dp un gd cn cs L a ccd cl outer) (call (.ref f) vs) Q E s
theorem lessSN {base G : Heap} {l : List Env} {e : Addr} {cls : Value} {news news' : List (Addr × Obj)} {h : Heap} (R : RaisedSN base G l e cls news h) (hs : ∀ p ∈ news', p ∈ news) : RaisedSN base G l e cls news' h := by
  obtain ⟨B, a0, h1, h2, h3, h4⟩ := R
  exact ⟨B, a0, h1, h2, fun q hq => h3 q (hs q hq), h4⟩
theorem news_cons {h₀ h : Heap} {L : Addr} {p : Addr × Obj} {r : List (Addr × Obj)} (h1 : h.get? p.1 = some p.2 ∧ p.1 ≠ L ∧ h₀.get? p.1 = none) (h2 : News h₀ L h r) : News h₀ L h (p :: r) := List.forall_mem_cons.mpr ⟨h1, h2⟩
theorem sub_cons {p : Addr × Obj} {r l : List (Addr × Obj)} (h1 : p ∈ l) (h2 : ∀ q ∈ r, q ∈ l) : ∀ q ∈ p :: r, q ∈ l := List.forall_mem_cons.mpr ⟨h1, h2⟩
/-- a goal that the walk leaves alone -/
structure Hold (P : Prop) : Prop where
  out : P
theorem Hold.put {P : Prop} (h : Hold P) : P := h.out
end Mine
end
section
open PySem PySem.W PyProof.Rows PySem.Calls PySem.Spec PyProof
namespace Mine
/-- the signs behind an opening quote, the doubled ones read as one, up to the closing quote -/
noncomputable def unq : List Nat → List Nat
  | 34 :: 34 :: r => 34 :: unq r
  | 34 :: _ => []
  | c :: r => c :: unq r
  | [] => []
noncomputable def Eq257 (x : PySem.Str) (i : Int) (d : PySem.Str) : Prop := d.cps.toList ++ unq (x.cps.toList.drop i.toNat) = unq (x.cps.toList.drop 5)
theorem unq_plain {c : Nat} {r : List Nat} (h : c ≠ 34) : unq (c :: r) = c :: unq r := by
  rw [unq]
  · intro r' e1; exact absurd e1 h
  · exact h
theorem unq_stop {c : Nat} {r : List Nat} (h : c ≠ 34) : unq (34 :: c :: r) = [] := by
  rw [unq]
  intro r' e1
  exact h (List.cons.inj e1).1
theorem st0 {x : PySem.Str} (h : 5 ≤ x.length) : (5 : Int) ≤ 5 ∧ (5 : Int) ≤ (x.length : Int) ∧ ((PySem.Str.ofString "").length : Int) ≤ 5 ∧ Eq257 x 5 (PySem.Str.ofString "") := by
  refine ⟨Int.le_refl _, by omega, by decide, ?_⟩
  show (PySem.Str.ofString "").cps.toList ++ unq (x.cps.toList.drop 5) = _
  have : (PySem.Str.ofString "").cps.toList = [] := by decide
  rw [this, List.nil_append]
theorem sgn {x : PySem.Str} {i : Int} (h0 : 0 ≤ i) (h1 : i < x.length) : ∃ c, Txt.item x i = ⟨#[c]⟩ ∧ x.cps.toList.drop i.toNat = c :: x.cps.toList.drop (i.toNat + 1) := by
  have hl : i.toNat < x.cps.toList.length := by
    have : x.cps.toList.length = x.length := rfl
    omega
  refine ⟨x.cps.toList[i.toNat], ?_, ?_⟩
  · refine PyProof.Rows.item_meets h0 ?_
    rw [Array.getElem?_eq_getElem (by simpa using hl)]
    simp
  · exact List.drop_eq_getElem_cons hl
theorem quo_eq (c : Nat) : ((⟨#[c]⟩ : PySem.Str) == PySem.Str.ofString "\"") = decide (c = 34) := by
  have e : PySem.Str.ofString "\"" = ⟨#[34]⟩ := by decide
  rw [e]
  show decide ((⟨#[c]⟩ : PySem.Str) = ⟨#[34]⟩) = _
  congr 1
  simp
theorem quo_ne (c : Nat) : ((⟨#[c]⟩ : PySem.Str) != PySem.Str.ofString "\"") = decide (c ≠ 34) := by
  show (! ((⟨#[c]⟩ : PySem.Str) == PySem.Str.ofString "\"")) = _
  rw [quo_eq]; simp
theorem cat_cps (a b : PySem.Str) : (a ++ b).cps.toList = a.cps.toList ++ b.cps.toList := by
  show (a.cps ++ b.cps).toList = _
  simp
/-- a plain sign -/
theorem eq257_plain {x d : PySem.Str} {i : Int} (E : Eq257 x i d) (h0 : 0 ≤ i) (h1 : i < x.length) (hq : (Txt.item x i == PySem.Str.ofString "\"") = false) : Eq257 x (i + 1) (d ++ Txt.item x i) := by
  obtain ⟨c, e1, e2⟩ := sgn h0 h1
  unfold Eq257 at E ⊢
  rw [e1] at hq ⊢
  rw [quo_eq] at hq
  have hc : c ≠ 34 := by simpa using hq
  rw [e2, unq_plain hc] at E
  rw [← E, cat_cps]
  have : (i + 1).toNat = i.toNat + 1 := to_succ h0
  rw [this]
  simp
/-- a doubled quote -/
theorem eq257_twice {x d : PySem.Str} {i : Int} (E : Eq257 x i d) (h0 : 0 ≤ i) (h1 : i + 1 < x.length) (hq : (Txt.item x i == PySem.Str.ofString "\"") = true) (hn : (Txt.item x (i + 1) != PySem.Str.ofString "\"") = false) : Eq257 x (i + 1 + 1) (d ++ Txt.item x i) := by
  obtain ⟨c, e1, e2⟩ := sgn h0 (by omega : i < x.length)
  obtain ⟨c', e1', e2'⟩ := sgn (i := i + 1) (by omega) h1
  unfold Eq257 at E ⊢
  rw [e1] at hq ⊢
  rw [e1'] at hn
  rw [quo_eq] at hq
  rw [quo_ne] at hn
  have hc : c = 34 := by simpa using hq
  have hc' : c' = 34 := by simpa using hn
  subst hc; subst hc'
  have t1 : (i + 1).toNat = i.toNat + 1 := by omega
  have t2 : (i + 1 + 1).toNat = i.toNat + 1 + 1 := by omega
  rw [t1] at e2'
  rw [e2, e2', unq] at E
  rw [← E, cat_cps, t2]
  simp
/-- the closing quote at the very end -/
theorem eq257_last {x d : PySem.Str} {i : Int} (E : Eq257 x i d) (h0 : 0 ≤ i) (h1 : i < x.length) (hq : (Txt.item x i == PySem.Str.ofString "\"") = true) (hn : i + 1 ≥ x.length) : d.cps.toList = unq (x.cps.toList.drop 5) := by
  obtain ⟨c, e1, e2⟩ := sgn h0 h1
  unfold Eq257 at E
  rw [e1, quo_eq] at hq
  have hc : c = 34 := by simpa using hq
  subst hc
  have : x.cps.toList.drop (i.toNat + 1) = [] := by
    apply List.drop_eq_nil_of_le
    have : x.cps.toList.length = x.length := rfl
    omega
  rw [e2, this] at E
  rw [← E]
  simp [unq]
/-- the closing quote ahead of another sign -/
theorem eq257_shut {x d : PySem.Str} {i : Int} (E : Eq257 x i d) (h0 : 0 ≤ i) (h1 : i + 1 < x.length) (hq : (Txt.item x i == PySem.Str.ofString "\"") = true) (hn : (Txt.item x (i + 1) != PySem.Str.ofString "\"") = true) : d.cps.toList = unq (x.cps.toList.drop 5) := by
  obtain ⟨c, e1, e2⟩ := sgn h0 (by omega : i < x.length)
  obtain ⟨c', e1', e2'⟩ := sgn (i := i + 1) (by omega) h1
  unfold Eq257 at E
  rw [e1, quo_eq] at hq
  rw [e1', quo_ne] at hn
  have hc : c = 34 := by simpa using hq
  have hc' : c' ≠ 34 := by simpa using hn
  subst hc
  have t1 : (i + 1).toNat = i.toNat + 1 := by omega
  rw [t1] at e2'
  rw [e2, e2', unq_stop hc'] at E
  rw [← E]; simp
/-- no closing quote -/
theorem eq257_end {x d : PySem.Str} {i : Int} (E : Eq257 x i d) (h1 : ¬ i < x.length) : d.cps.toList = unq (x.cps.toList.drop 5) := by
  unfold Eq257 at E
  have : x.cps.toList.drop i.toNat = [] := by
    apply List.drop_eq_nil_of_le
    have : x.cps.toList.length = x.length := rfl
    omega
  rw [this] at E
  rw [← E]; simp [unq]
theorem slice_to {x : PySem.Str} {n : Nat} (h : n ≤ x.length) : Txt.slice x none (some (n : Int)) = ⟨(x.cps.toList.take n).toArray⟩ := by
  have h2 := slice_closes_to (x := x) (j := (n : Int)) ⟨by omega, by have : x.cps.toList.length = x.length := rfl; omega⟩
  have h3 := eq_of_beq h2
  rw [h3]
  simp
theorem slice_of {x : PySem.Str} {a b : Nat} (h : a ≤ b) (hb : b ≤ x.length) : Txt.slice x (some (a : Int)) (some (b : Int)) = ⟨((x.cps.toList.drop a).take (b - a)).toArray⟩ := by
  have h2 := slice_closes (x := x) (i := (a : Int)) (j := (b : Int)) ⟨by omega, by omega, by have : x.cps.toList.length = x.length := rfl; omega⟩
  have h3 := eq_of_beq h2
  rw [h3]
  have e : ((b : Int) - (a : Int)).toNat = b - a := Int.toNat_sub b a
  rw [e]
  simp
end Mine
end
section
open PySem PySem.W PyProof.Rows PySem.Calls PySem.Spec PyProof
namespace Mine
/-- one sign of a name, in the spelling of the number -/
noncomputable def spellOne (c : Nat) (way : Nat) : List Nat := if c = 34 ∨ way % 4 = 0 then [c] else if way % 4 = 1 then [c - 32] else if way % 4 = 2 then [c + 120075] else [173, c]
noncomputable def spell : List Nat → Nat → List Nat
  | [], _ => []
  | c :: r, way => spellOne c way ++ spell r (way / 4)
theorem spell_snoc (l : List Nat) (c way : Nat) : spell (l ++ [c]) way = spell l way ++ spellOne c (way / 4 ^ l.length) := by
  induction l generalizing way with
  | nil => simp [spell]
  | cons d r ih =>
    rw [List.cons_append, spell, ih, spell, List.append_assoc, List.length_cons, Nat.pow_succ, Nat.mul_comm, Nat.div_div_eq_div_mul]
theorem spellOne_len (c w : Nat) : (spellOne c w).length ≤ 2 := by
  unfold spellOne
  split
  · simp
  · split
    · simp
    · split <;> simp
theorem str_len (x : PySem.Str) : x.length = x.cps.toList.length := rfl
theorem spell_step {d p : PySem.Str} {way kN : Nat} {kPre : List Int} {v : Int} (A : d.cps.toList = spell (kPre.map Int.toNat) way) (B : d.length ≤ 2 * kPre.length) (hv : v = ((way / 4 ^ kPre.length : Nat) : Int)) (hp : p.cps.toList = spellOne kN (way / 4 ^ kPre.length)) :
    (d ++ p).cps.toList = spell ((kPre ++ [(kN : Int)]).map Int.toNat) way ∧ (d ++ p).length ≤ 2 * (kPre ++ [(kN : Int)]).length ∧ v.fdiv 4 = ((way / 4 ^ (kPre ++ [(kN : Int)]).length : Nat) : Int) := by
  have e : (d ++ p).cps.toList = spell ((kPre ++ [(kN : Int)]).map Int.toNat) way := by
    rw [cat_cps, A, hp, List.map_append]
    show _ = spell (List.map Int.toNat kPre ++ [kN]) way
    rw [spell_snoc, List.length_map]
  refine ⟨e, ?_, ?_⟩
  · rw [str_len, cat_cps, List.length_append, hp, List.length_append, List.length_singleton]
    have := spellOne_len kN (way / 4 ^ kPre.length)
    rw [str_len] at B
    omega
  · rw [hv, List.length_append, List.length_singleton, Nat.pow_succ, ← Nat.div_div_eq_div_mul]
    rw [Int.fdiv_eq_ediv_of_nonneg _ (by decide)]
    omega
theorem fmod4 {v : Int} {n : Nat} (hv : v = ((n : Nat) : Int)) : v.fmod 4 = ((n % 4 : Nat) : Int) := by
  rw [hv, Int.fmod_eq_emod_of_nonneg _ (by decide)]
  omega
theorem one_q {c w : Nat} (h : ((⟨#[c]⟩ : PySem.Str) == PySem.Str.ofString "\"") = true) : (⟨#[c]⟩ : PySem.Str).cps.toList = spellOne c w := by
  rw [quo_eq] at h
  have hc : c = 34 := by simpa using h
  unfold spellOne
  rw [if_pos (.inl hc)]
theorem one_0 {c w : Nat} {v : Int} (hv : v = (w : Int)) (h : v.fmod 4 = 0) : (⟨#[c]⟩ : PySem.Str).cps.toList = spellOne c w := by
  rw [fmod4 hv] at h
  unfold spellOne
  rw [if_pos (.inr (by omega))]
theorem one_1 {c w : Nat} {v : Int} (hv : v = (w : Int)) (hq : ((⟨#[c]⟩ : PySem.Str) == PySem.Str.ofString "\"") = false) (h : v.fmod 4 = 1) : (⟨#[((c : Int) - 32).toNat]⟩ : PySem.Str).cps.toList = spellOne c w := by
  rw [fmod4 hv] at h
  rw [quo_eq] at hq
  have hc : c ≠ 34 := by simpa using hq
  unfold spellOne
  rw [if_neg (by omega), if_pos (by omega)]
  exact congrArg (fun x => [x]) (Int.toNat_sub c 32)
theorem one_2 {c w : Nat} {v : Int} (hv : v = (w : Int)) (hq : ((⟨#[c]⟩ : PySem.Str) == PySem.Str.ofString "\"") = false) (h : v.fmod 4 = 2) : (⟨#[((c : Int) + 120075).toNat]⟩ : PySem.Str).cps.toList = spellOne c w := by
  rw [fmod4 hv] at h
  rw [quo_eq] at hq
  have hc : c ≠ 34 := by simpa using hq
  unfold spellOne
  rw [if_neg (by omega), if_neg (by omega), if_pos (by omega)]
  show [((c : Int) + 120075).toNat] = [c + 120075]
  congr 1
theorem sAd : PySem.Str.ofString "\u00ad" = ⟨#[173]⟩ := by decide +kernel
theorem one_3 {c w : Nat} {v : Int} (hv : v = (w : Int)) (hq : ((⟨#[c]⟩ : PySem.Str) == PySem.Str.ofString "\"") = false) (h0 : v.fmod 4 ≠ 0) (h1 : v.fmod 4 ≠ 1) (h2 : v.fmod 4 ≠ 2) : (PySem.Str.ofString "\u00ad" ++ (⟨#[c]⟩ : PySem.Str)).cps.toList = spellOne c w := by
  rw [fmod4 hv] at h0 h1 h2
  rw [quo_eq] at hq
  have hc : c ≠ 34 := by simpa using hq
  unfold spellOne
  rw [if_neg (by omega), if_neg (by omega), if_neg (by omega), cat_cps, sAd]
  rfl
theorem cat_assoc (a b c : PySem.Str) : a ++ b ++ c = a ++ (b ++ c) := by
  refine PySem.Str.ext' (Array.toList_inj.mp ?_)
  rw [cat_cps, cat_cps, cat_cps, cat_cps, List.append_assoc]
theorem codes_nat (x : PySem.Str) : (KStt.codes x).map Int.toNat = x.cps.toList := by
  unfold KStt.codes
  rw [List.map_map]
  exact (List.map_congr_left (g := fun x => x) fun c _ => Int.toNat_natCast c).trans (List.map_id' _)
theorem letter_in {x : PySem.Str} {pre post : List Int} {n : Nat} (h : KStt.codes x = pre ++ (n : Int) :: post) : n ∈ x.cps.toList := by
  have : (n : Int) ∈ KStt.codes x := by rw [h]; simp
  unfold KStt.codes at this
  obtain ⟨c, hc, e⟩ := List.mem_map.mp this
  have : c = n := by omega
  exact this ▸ hc
end Mine
end
section
open PySem PySem.W PyProof.Rows PySem.Calls PySem.Spec PyProof
namespace Mine
/-- the text of these signs -/
noncomputable def tx (l : List Nat) : PySem.Str := ⟨l.toArray⟩
theorem tx_cps (l : List Nat) : (tx l).cps.toList = l := by simp [tx]
theorem tx_len (l : List Nat) : (tx l).length = l.length := by simp [tx, PySem.Str.length]
theorem tx_of {x : PySem.Str} {l : List Nat} (h : x.cps.toList = l) : x = tx l := by
  subst h
  rfl
theorem tx_inj {a b : List Nat} (h : tx a = tx b) : a = b := by rw [← tx_cps a, h, tx_cps]
theorem tx_beq (a b : List Nat) : (tx a == tx b) = decide (a = b) := by
  show decide (tx a = tx b) = _
  by_cases h : a = b
  · subst h; simp
  · rw [decide_eq_false h, decide_eq_false fun e => h (tx_inj e)]
theorem len_of {x : PySem.Str} {l : List Nat} (h : x.cps.toList = l) : x.length = l.length := by rw [← h]; rfl
theorem beq_of {x y : PySem.Str} {a b : List Nat} (hx : x.cps.toList = a) (hy : y.cps.toList = b) : (x == y) = decide (a = b) := by
  rw [tx_of hx, tx_of hy, tx_beq]
theorem bne_of {x y : PySem.Str} {a b : List Nat} (hx : x.cps.toList = a) (hy : y.cps.toList = b) : (x != y) = decide (a ≠ b) := by
  show (! (x == y)) = _
  rw [beq_of hx hy]; simp
theorem sl_clip_hi (l : Option Int) {j : Int} {n : Nat} (h : (n : Int) ≤ j) : Builtin.Str.strSliceIndices l (some j) 1 n = Builtin.Str.strSliceIndices l (some (n : Int)) 1 n := by
  have h1 : ¬ j < 0 := by omega
  have h2 : ¬ ((n : Int) < 0) := by omega
  have h3 : min j (n : Int) = n := by omega
  simp [Builtin.Str.strSliceIndices, h1, h2, h3]
theorem sl_clip_lo (u : Option Int) {i : Int} {n : Nat} (h : (n : Int) ≤ i) : Builtin.Str.strSliceIndices (some i) u 1 n = Builtin.Str.strSliceIndices (some (n : Int)) u 1 n := by
  have h1 : ¬ i < 0 := by omega
  have h2 : ¬ ((n : Int) < 0) := by omega
  have h3 : min i (n : Int) = n := by omega
  simp [Builtin.Str.strSliceIndices, h1, h2, h3]
theorem sl_to {x : PySem.Str} {a : List Nat} {j : Int} (hx : x.cps.toList = a) (h0 : 0 ≤ j) : (Txt.slice x none (some j)).cps.toList = a.take j.toNat := by
  have hl := len_of hx
  by_cases h1 : j ≤ a.length
  · have e : Txt.slice x none (some j) = _ := StrLaws.sliceText_to (x := x) (j := j) ⟨h0, by rw [hx]; exact h1⟩
    rw [e, hx]; simp
  · have e0 : Txt.slice x none (some j) = StrLaws.sliceText x none (some (x.length : Int)) := by
      show StrLaws.sliceText x none (some j) = _
      unfold StrLaws.sliceText
      rw [sl_clip_hi none (by omega)]
    rw [e0, StrLaws.sliceText_to (x := x) ⟨by omega, by rw [hx]; omega⟩, hx]
    simp only [List.drop_zero]
    rw [List.take_of_length_le (by omega), List.take_of_length_le (by omega)]
theorem sl_from {x : PySem.Str} {a : List Nat} {i : Int} (hx : x.cps.toList = a) (h0 : 0 ≤ i) : (Txt.slice x (some i) none).cps.toList = a.drop i.toNat := by
  have hl := len_of hx
  have main : ∀ i : Int, 0 ≤ i → i ≤ a.length → (StrLaws.sliceText x (some i) none).cps.toList = a.drop i.toNat := fun i h0 h1 => by
    rw [StrLaws.sliceText_from (x := x) (i := i) ⟨h0, by rw [hx]; exact h1⟩, hx]
    show (List.take _ _) = _
    apply List.take_of_length_le
    rw [List.length_drop]
    obtain ⟨n, rfl⟩ := Int.eq_ofNat_of_zero_le h0
    exact Nat.le_of_eq (Int.toNat_sub a.length n).symm
  by_cases h1 : i ≤ a.length
  · exact main i h0 h1
  · have e0 : Txt.slice x (some i) none = StrLaws.sliceText x (some (x.length : Int)) none := by
      show StrLaws.sliceText x (some i) none = _
      unfold StrLaws.sliceText
      rw [sl_clip_lo none (by omega)]
    rw [e0, main _ (by omega) (by omega), List.drop_of_length_le (by omega), List.drop_of_length_le (by omega)]
theorem sl_of {x : PySem.Str} {a : List Nat} {i j : Int} (hx : x.cps.toList = a) (h0 : 0 ≤ i) (h1 : i ≤ j) (h2 : j ≤ a.length) : (Txt.slice x (some i) (some j)).cps.toList = (a.drop i.toNat).take (j - i).toNat := by
  have e : Txt.slice x (some i) (some j) = _ := StrLaws.sliceText_plain (x := x) (i := i) (j := j) ⟨h0, h1, by rw [hx]; exact h2⟩
  rw [e, hx]
theorem sl_last {x : PySem.Str} {a : List Nat} (hx : x.cps.toList = a) : (Txt.slice x none (some (-1))).cps.toList = a.take (a.length - 1) := by
  have hl := len_of hx
  by_cases h : 1 ≤ a.length
  · have e := eq_of_beq (slice_closes_to_neg (x := x) (j := -1) (k := (a.length : Int) - 1) (by decide) (by omega) (by omega))
    rw [e, hx]
    show List.take _ (List.drop 0 a) = _
    rw [List.drop_zero]
    exact congrArg (fun n => List.take n a) (by rw [Int.sub_zero]; exact Int.toNat_sub a.length 1)
  · have ha : a = [] := List.eq_nil_of_length_eq_zero (by omega)
    subst ha
    have hx' : x = tx [] := tx_of hx
    subst hx'
    decide
theorem item_of {x : PySem.Str} {a : List Nat} {i : Int} (hx : x.cps.toList = a) (h0 : 0 ≤ i) (h1 : i < a.length) : (Txt.item x i).cps.toList = [a.getD i.toNat 0] := by
  have hl := len_of hx
  obtain ⟨c, e1, e2⟩ := sgn (x := x) (i := i) h0 (by omega)
  rw [e1]
  rw [hx] at e2
  have : a.getD i.toNat 0 = c := by
    rw [List.getD_eq_getElem?_getD]
    have : (a.drop i.toNat)[0]? = some c := by rw [e2]; rfl
    rw [List.getElem?_drop, Nat.add_zero] at this
    rw [this]; rfl
  rw [this]
theorem foldl_cat (l : List (Array Nat)) (z : Array Nat) : (l.foldl (· ++ ·) z).toList = z.toList ++ (l.map Array.toList).flatten := by
  induction l generalizing z with
  | nil => simp
  | cons a r ih => rw [List.foldl_cons, ih]; simp
theorem mul_of {x : PySem.Str} {a : List Nat} {n : Int} (hx : x.cps.toList = a) (h0 : 0 ≤ n) : (Txt.mul x n).cps.toList = (List.replicate n.toNat a).flatten := by
  unfold Txt.mul
  split
  · have : n.toNat = 0 := by omega
    rw [this]; rfl
  · split
    · rename_i h1 h2
      rw [Bool.or_eq_true, beq_iff_eq, beq_iff_eq] at h2
      rcases h2 with h2 | h2
      · subst h2; rw [hx]; simp
      · have ha : a = [] := by
          have := len_of hx
          rw [h2] at this
          exact List.eq_nil_of_length_eq_zero this.symm
        subst ha
        rw [hx]
        generalize n.toNat = k
        induction k with
        | zero => rfl
        | succ k ih => rw [List.replicate_succ, List.flatten_cons, ← ih]; rfl
    · show (List.foldl (· ++ ·) #[] (List.replicate n.toNat x.cps)).toList = _
      rw [foldl_cat, List.map_replicate, hx]
      rfl
section
variable {prog : Program} {w : World} {A : Around} {E : Value → Shared → Prop} {s : Shared} {x y : PySem.Str} {t u v : Tok} {a b : List Nat} {Q : Value → Shared → Prop} {h₀ : Heap} {L : Addr} {m : PySem.Str → Option Value} {news : List (Addr × Obj)} {value slice : PySem.Expr}
theorem drop_le {K n : Nat} (h : a.length ≤ K) : (a.drop n).length ≤ K := by rw [List.length_drop]; omega
theorem take_le {K n : Nat} (h : a.length ≤ K) : (a.take n).length ≤ K := by rw [List.length_take]; omega
theorem line_of {n : Nat} (h : n ≤ 10000) : n ≤ sizeLine := by rw [sizeLine_eq]; omega
theorem addT {K M : Nat} (hx : x.cps.toList = a) (hy : y.cps.toList = b) (hk : a.length ≤ K) (hm : b.length ≤ M) (hs : K + M ≤ 10000) (h : ∀ t' k d, d = a ++ b → d.length ≤ K + M → Q (.str (tx d) t') { s with toks := k }) : wpAny (model prog w) A (binaryOp .Add (.str x t) (.str y u)) Q E s := by
  refine SBL.add (fun t' k _ => ?_) (by rw [len_of hx, len_of hy]; exact line_of (Nat.le_trans (Nat.add_le_add hk hm) hs))
  have e : x ++ y = tx (a ++ b) := tx_of (by rw [cat_cps, hx, hy])
  rw [e]
  exact h t' k _ rfl (by rw [List.length_append]; exact Nat.add_le_add hk hm)
/-- as addT: what it wants is sought by the walk's own lines -/
theorem addA {K M : Nat} (h : ∀ t' k d, d = a ++ b → d.length ≤ K + M → Q (.str (tx d) t') { s with toks := k }) (hx : x.cps.toList = a := by walk_at "mine txt") (hy : y.cps.toList = b := by walk_at "mine txt") (hk : a.length ≤ K := by walk_at "mine bnd") (hm : b.length ≤ M := by walk_at "mine bnd") (hs : K + M ≤ 10000 := by exact Nat.le_of_ble_eq_true rfl) : wpAny (model prog w) A (binaryOp .Add (.str x t) (.str y u)) Q E s := addT hx hy hk hm hs h
theorem mulT {K : Nat} {n : Int} (hx : x.cps.toList = a) (hk : a.length ≤ K) (hK : K ≤ 16) (h0 : 0 ≤ n) (h1 : n ≤ 16) (h : ∀ t' k d, d = (List.replicate n.toNat a).flatten → d.length ≤ 256 → Q (.str (tx d) t') { s with toks := k }) : wpAny (model prog w) A (binaryOp .Mult (.str x t) (.int n u)) Q E s := by
  have hl := Nat.le_trans hk hK
  refine SB.mul (mulOk_of 16 1048576 (by rw [len_of hx]; exact hl) (by omega) (by omega) (by decide) (by decide)) fun t' k => ?_
  rw [tx_of (mul_of hx h0)]
  refine h t' k _ rfl ?_
  rw [List.length_flatten, List.map_replicate, List.sum_replicate_nat]
  exact Nat.mul_le_mul (by omega : n.toNat ≤ 16) hl
theorem mulA {K : Nat} {n : Int} (h : ∀ t' k d, d = (List.replicate n.toNat a).flatten → d.length ≤ 256 → Q (.str (tx d) t') { s with toks := k }) (hx : x.cps.toList = a := by walk_at "mine txt") (hk : a.length ≤ K := by walk_at "mine bnd") (hK : K ≤ 16 := by exact Nat.le_of_ble_eq_true rfl) (h0 : 0 ≤ n := by first | decide | omega) (h1 : n ≤ 16 := by first | decide | omega) : wpAny (model prog w) A (binaryOp .Mult (.str x t) (.int n u)) Q E s := mulT hx hk hK h0 h1 h
theorem dbl_le (c : Nat) : ∀ a : List Nat, (StrLaws.dbl c a).length ≤ 2 * a.length
  | [] => Nat.le_refl _
  | k :: r => by
    have ih := dbl_le c r
    unfold StrLaws.dbl
    split <;> simp only [List.length_cons] <;> omega
theorem replaceT {K : Nat} (hu : u ≠ 0) (hv : v ≠ 0) (huv : u ≠ v) (hx : x.cps.toList = a) (hk : a.length ≤ K) (hs : K ≤ 5000) (h : ∀ t' k d, d = StrLaws.dbl 34 a → d.length ≤ 2 * K → Q (.str (tx d) t') { s with toks := k }) :
    wpAny (model prog w) A (call (.builtin "str.replace") [.str x t, .str (PySem.Str.ofString "\"") u, .str (PySem.Str.ofString "\"\"") v]) Q E s := by
  refine SC.replaceW hu hv huv (by decide) (by rw [len_of hx]; omega) (by decide) fun t' k => ?_
  have e1 : PySem.Str.ofString "\"" = ⟨#[34]⟩ := by decide
  have e2 : PySem.Str.ofString "\"\"" = ⟨#[34, 34]⟩ := by decide
  rw [e1, e2, tx_of (StrLaws.replace_double x 34), hx]
  exact h t' k _ rfl (Nat.le_trans (dbl_le 34 a) (Nat.mul_le_mul_left _ hk))
theorem replaceA {K : Nat} (h : ∀ t' k d, d = StrLaws.dbl 34 a → d.length ≤ 2 * K → Q (.str (tx d) t') { s with toks := k }) (hu : @Ne Nat u 0 := by omega) (hv : @Ne Nat v 0 := by omega) (huv : @Ne Nat u v := by omega) (hx : x.cps.toList = a := by walk_at "mine txt") (hk : a.length ≤ K := by walk_at "mine bnd") (hs : K ≤ 5000 := by exact Nat.le_of_ble_eq_true rfl) :
    wpAny (model prog w) A (call (.builtin "str.replace") [.str x t, .str (PySem.Str.ofString "\"") u, .str (PySem.Str.ofString "\"\"") v]) Q E s := replaceT hu hv huv hx hk hs h
theorem strT {n : Int} (h0 : 0 ≤ n) (h1 : n < 10 ^ 10) (h : Q (.str (PySem.Str.ofString (toString n)) s.toks) { s with toks := s.toks + 1 }) : wpAny (model prog w) A (call (.type "str") [.int n t]) Q E s :=
  P.str_of_int (by
    have e : (10 : Int) ^ 10 = 10000000000 := by decide
    have h2 : n.natAbs < 2 ^ 34 := by
      have e2 : (2 : Nat) ^ 34 = 17179869184 := by decide
      omega
    rcases Nat.eq_zero_or_pos n.natAbs with e | e
    · rw [e]; decide
    · exact Nat.lt_of_lt_of_le ((Nat.log2_lt (by omega)).mpr h2) (by decide)) h
end
/-- the figures of a number -/
noncomputable def figs (n : Nat) : List Nat := (Nat.toDigits 10 n).map Char.toNat
theorem num_cps0 (n : Nat) : (PySem.Str.ofString (toString (n : Int))).cps.toList = figs n := KIN.signs_num n
theorem num_cps (n : Nat) : (PySem.Str.ofString (toString (n : Int))).cps.toList = figs n := num_cps0 n
theorem num_tx (n : Nat) : PySem.Str.ofString (toString (n : Int)) = tx (figs n) := tx_of (num_cps n)
theorem figs_len {n : Nat} (h : n < 1000) : 1 ≤ (figs n).length ∧ (figs n).length ≤ 3 := by
  unfold figs
  rw [List.length_map]
  have h1 := Nat.length_toDigits_pos (b := 10) (n := n)
  have h2 := (Nat.length_toDigits_le_iff (b := 10) (n := n) (k := 3) (by decide) (by decide)).mpr h
  omega
theorem figs_le {n : Nat} (h : n < 1000) : (figs n).length ≤ 3 := (figs_len h).2
theorem line_len {x : PySem.Str} {a : List Nat} {K : Nat} (hx : x.cps.toList = a) (hk : a.length ≤ K) (hs : K ≤ 10000) : x.length ≤ sizeLine := by
  rw [len_of hx]
  exact line_of (Nat.le_trans hk hs)
theorem lineA {x : PySem.Str} {a : List Nat} {K : Nat} (hx : x.cps.toList = a := by walk_at "mine txt") (hk : a.length ≤ K := by walk_at "mine bnd") (hK : K ≤ 10000 := by exact Nat.le_of_ble_eq_true rfl) : x.length ≤ sizeLine := line_len hx hk hK
theorem lt0 : (PySem.Str.ofString "229").cps.toList = [50, 50, 57] := by decide +kernel
theorem lt1 : (PySem.Str.ofString "(").cps.toList = [40] := by decide +kernel
theorem lt2 : (PySem.Str.ofString ")").cps.toList = [41] := by decide +kernel
theorem lt3 : (PySem.Str.ofString "257").cps.toList = [50, 53, 55] := by decide +kernel
theorem lt4 : (PySem.Str.ofString " \"").cps.toList = [32, 34] := by decide +kernel
theorem lt5 : (PySem.Str.ofString "").cps.toList = [] := by decide +kernel
theorem lt6 : (PySem.Str.ofString "\"").cps.toList = [34] := by decide +kernel
theorem lt7 : (PySem.Str.ofString "ab").cps.toList = [97, 98] := by decide +kernel
theorem lt8 : (PySem.Str.ofString "a\"b").cps.toList = [97, 34, 98] := by decide +kernel
theorem lt9 : (PySem.Str.ofString "b\"").cps.toList = [98, 34] := by decide +kernel
theorem lt10 : (PySem.Str.ofString "c").cps.toList = [99] := by decide +kernel
theorem lt11 : (PySem.Str.ofString "\u00ad").cps.toList = [173] := by decide +kernel
theorem lt12 : (PySem.Str.ofString "\x07").cps.toList = [7] := by decide +kernel
theorem lt13 : (PySem.Str.ofString "257 \"").cps.toList = [50, 53, 55, 32, 34] := by decide +kernel
theorem lt14 : (PySem.Str.ofString "\"\"").cps.toList = [34, 34] := by decide +kernel
theorem lt15 : (PySem.Str.ofString "\" is there").cps.toList = [34, 32, 105, 115, 32, 116, 104, 101, 114, 101] := by decide +kernel
theorem lt16 : (PySem.Str.ofString "250").cps.toList = [50, 53, 48] := by decide +kernel
theorem lt17 : (PySem.Str.ofString "|!/sS(").cps.toList = [124, 33, 47, 115, 83, 40] := by decide +kernel
theorem lt18 : (PySem.Str.ofString "x").cps.toList = [120] := by decide +kernel
theorem lt19 : (PySem.Str.ofString "229 go (").cps.toList = [50, 50, 57, 32, 103, 111, 32, 40] := by decide +kernel
theorem lt20 : (PySem.Str.ofString "228").cps.toList = [50, 50, 56] := by decide +kernel
theorem lt21 : (PySem.Str.ofString "]").cps.toList = [93] := by decide +kernel
theorem lt22 : (PySem.Str.ofString "229 go 2").cps.toList = [50, 50, 57, 32, 103, 111, 32, 50] := by decide +kernel
theorem lt23 : (PySem.Str.ofString "2)").cps.toList = [50, 41] := by decide +kernel
theorem lt24 : (PySem.Str.ofString "~)").cps.toList = [126, 41] := by decide +kernel
theorem lt25 : (PySem.Str.ofString "server").cps.toList = [115, 101, 114, 118, 101, 114] := by decide +kernel
theorem lt26 : (PySem.Str.ofString "\" is all").cps.toList = [34, 32, 105, 115, 32, 97, 108, 108] := by decide +kernel
theorem lt27 : (PySem.Str.ofString "\r\n").cps.toList = [13, 10] := by decide +kernel
theorem lt28 : (PySem.Str.ofString ": ").cps.toList = [58, 32] := by decide +kernel
theorem lt29 : (PySem.Str.ofString "%s: %s").cps.toList = [37, 115, 58, 32, 37, 115] := by decide +kernel
theorem lt30 : (PySem.Str.ofString "b").cps.toList = [98] := by decide +kernel
section
variable {prog : Program} {w : World} {M : Model} {A : Around} {E : Value → Shared → Prop} {s : Shared} {x : PySem.Str} {t u : Tok} {a : List Nat} {Q : Value → Shared → Prop} {h₀ : Heap} {L : Addr} {m : PySem.Str → Option Value} {news : List (Addr × Obj)} {value slice : PySem.Expr}
theorem strN {n : Nat} (h1 : n < 1000) (h : ∀ t' k, Q (.str (tx (figs n)) t') { s with toks := k }) : wpAny (model prog w) A (call (.type "str") [.int (n : Int) t]) Q E s := by
  refine strT (by omega) (by omega) ?_
  rw [num_tx]
  exact h _ _
theorem itemT {K : Nat} {i : Int} (hx : x.cps.toList = a) (hk : a.length ≤ K) (hK : K ≤ 10000) (h0 : 0 ≤ i) (h1 : i < a.length) (h : ∀ t' k c, c = a.getD i.toNat 0 → Q (.str (tx [c]) t') { s with toks := k })
    (hs : subscripted slice false (.str x t) (.int i u) = operate [.str x t, .int i u] (getItem (.str x t) (.int i u)) := by with_unfolding_all rfl)
    (ht : ∀ r, letTemporaryGo value (.str x t) r = pure () := by intro _; with_unfolding_all rfl) :
    wpAny (model prog w) A (subscriptTail value slice (.str x t) (.int i u)) Q E s := by
  have hl := len_of hx
  refine item_str (fitsSsize_of (N := 9223372036854775808) (by omega) (by omega) (Int.le_refl _)) (by omega) (by omega) (fun _ => ?_) hs ht
  rw [tx_of (item_of hx h0 h1)]
  exact h _ _ _ rfl
theorem itemA {K : Nat} {i : Int} (h : ∀ t' k c, c = a.getD i.toNat 0 → Q (.str (tx [c]) t') { s with toks := k }) (hx : x.cps.toList = a := by walk_at "mine txt") (hk : a.length ≤ K := by walk_at "mine bnd") (hK : K ≤ 10000 := by exact Nat.le_of_ble_eq_true rfl) (h0 : 0 ≤ i := by omega) (h1 : i < a.length := by (simp only [List.length_cons, List.length_nil]; omega))
    (hs : subscripted slice false (.str x t) (.int i u) = operate [.str x t, .int i u] (getItem (.str x t) (.int i u)) := by with_unfolding_all rfl)
    (ht : ∀ r, letTemporaryGo value (.str x t) r = pure () := by intro _; with_unfolding_all rfl) :
    wpAny (model prog w) A (subscriptTail value slice (.str x t) (.int i u)) Q E s := itemT hx hk hK h0 h1 h hs ht
/-- a walk that is within an if: no further if is parked -/
structure JoinMark : Prop where
/-- the end of an if that may store the name x: a text of these signs -/
noncomputable def JoinT (h₀ : Heap) (L : Addr) (m : PySem.Str → Option Value) (news : List (Addr × Obj)) (x : PySem.Str) (P : List Nat → Prop) (s : Shared) (fl : Flow) (s' : Shared) : Prop :=
  fl = .next ∧ ∃ h' tk t' l, s' = { s with heap := h', toks := tk } ∧ P l ∧ Fr h₀ L h' (fun y => if y = x then some (.str (tx l) t') else m y) ∧ News h₀ L h' news
theorem joinT {st : Stmt} {env : Env} {Q : Flow → Shared → Prop} (x : PySem.Str) (P : List Nat → Prop) (_F : Fr h₀ L s.heap m) (_N : News h₀ L s.heap news) (first : JoinMark → wpAny M A (exec st env) (JoinT h₀ L m news x P s) E s)
    (rest : ∀ h' tk t' l, P l → Fr h₀ L h' (fun y => if y = x then some (.str (tx l) t') else m y) → News h₀ L h' news → Q .next { s with heap := h', toks := tk }) : wpAny M A (exec st env) Q E s := by
  refine wpAny_mono (first ⟨⟩) ?_ fun _ _ e => e
  rintro fl s' ⟨rfl, h', tk, t', l, rfl, hP, F, N⟩
  exact rest h' tk t' l hP F N
theorem fr_same {h : Heap} {v : Value} (F : Fr h₀ L h m) (hv : m x = some v) : Fr h₀ L h (fun y => if y = x then some v else m y) := by
  have e : (fun y => if y = x then some v else m y) = m := by
    funext y
    by_cases hy : y = x
    · subst hy; rw [if_pos rfl, hv]
    · rw [if_neg hy]
  rw [e]; exact F
theorem JoinT.stored {P : List Nat → Prop} {h' : Heap} {tk : Nat} {t' : Tok} {l : List Nat} (hP : P l) (F : Fr h₀ L h' (fun y => if y = x then some (.str (tx l) t') else m y)) (N : News h₀ L h' news) : JoinT h₀ L m news x P s .next { s with heap := h', toks := tk } := ⟨rfl, h', tk, t', l, rfl, hP, F, N⟩
theorem JoinT.kept {P : List Nat → Prop} {h' : Heap} {tk : Nat} {t' : Tok} {l : List Nat} (F : Fr h₀ L h' m) (N : News h₀ L h' news) (hv : m x = some (.str (tx l) t')) (hP : P l) : JoinT h₀ L m news x P s .next { s with heap := h', toks := tk } := ⟨rfl, h', tk, t', l, rfl, hP, fr_same F hv, N⟩
theorem JoinT.stored2 {P : List Nat → Prop} {h' : Heap} {tk : Nat} {t' : Tok} {l : List Nat} {v : Value} (hP : P l) (F : Fr h₀ L h' (fun y => if y = x then some (.str (tx l) t') else if y = x then some v else m y)) (N : News h₀ L h' news) : JoinT h₀ L m news x P s .next { s with heap := h', toks := tk } := by
  refine JoinT.stored (t' := t') hP ?_ N
  have e : (fun y => if y = x then some (Value.str (tx l) t') else if y = x then some v else m y) = fun y => if y = x then some (Value.str (tx l) t') else m y := by
    funext y
    by_cases hy : y = x
    · rw [if_pos hy, if_pos hy]
    · rw [if_neg hy, if_neg hy, if_neg hy]
  rw [e] at F
  exact F
noncomputable def JoinI (h₀ : Heap) (L : Addr) (m : PySem.Str → Option Value) (news : List (Addr × Obj)) (x : PySem.Str) (P : Int → Prop) (s : Shared) (fl : Flow) (s' : Shared) : Prop :=
  fl = .next ∧ ∃ h' tk t' l, s' = { s with heap := h', toks := tk } ∧ P l ∧ Fr h₀ L h' (fun y => if y = x then some (.int l t') else m y) ∧ News h₀ L h' news
theorem joinI {st : Stmt} {env : Env} {Q : Flow → Shared → Prop} (x : PySem.Str) (P : Int → Prop) (_F : Fr h₀ L s.heap m) (_N : News h₀ L s.heap news) (first : JoinMark → wpAny M A (exec st env) (JoinI h₀ L m news x P s) E s)
    (rest : ∀ h' tk t' l, P l → Fr h₀ L h' (fun y => if y = x then some (.int l t') else m y) → News h₀ L h' news → Q .next { s with heap := h', toks := tk }) : wpAny M A (exec st env) Q E s := by
  refine wpAny_mono (first ⟨⟩) ?_ fun _ _ e => e
  rintro fl s' ⟨rfl, h', tk, t', l, rfl, hP, F, N⟩
  exact rest h' tk t' l hP F N
theorem JoinI.stored {P : Int → Prop} {h' : Heap} {tk : Nat} {t' : Tok} {l : Int} (hP : P l) (F : Fr h₀ L h' (fun y => if y = x then some (.int l t') else m y)) (N : News h₀ L h' news) : JoinI h₀ L m news x P s .next { s with heap := h', toks := tk } := ⟨rfl, h', tk, t', l, rfl, hP, F, N⟩
theorem JoinI.kept {P : Int → Prop} {h' : Heap} {tk : Nat} {t' : Tok} {l : Int} (F : Fr h₀ L h' m) (N : News h₀ L h' news) (hv : m x = some (.int l t')) (hP : P l) : JoinI h₀ L m news x P s .next { s with heap := h', toks := tk } := ⟨rfl, h', tk, t', l, rfl, hP, fr_same F hv, N⟩
end
end Mine
end
section
open PySem PySem.W PyProof.Rows PySem.Calls PySem.Spec PyProof
namespace Mine
theorem tx_getD (l : List Nat) (i : Nat) : (tx l).cps.getD i 0 = l.getD i 0 := by
  show (l.toArray).getD i 0 = _
  simp [List.getD_eq_getElem?_getD, Array.getD_eq_getD_getElem?]
theorem find3_no {p q : List Nat} {c : Nat} {i : Int} (hi : i = (p.length : Int)) (h : c ∉ q) : Txt.find3 (tx (p ++ q)) ⟨#[c]⟩ i = -1 := by
  subst hi
  have hf : PySem.fromIndex (tx (p ++ q)).length (p.length : Int) = p.length := by unfold PySem.fromIndex; omega
  rcases StrLaws.find3_spec (tx (p ++ q)) c (p.length : Int) with ⟨e, _⟩ | ⟨k, _, hk, hl, hc, _⟩
  · exact e
  · rw [hf] at hk
    rw [tx_len, List.length_append] at hl
    rw [tx_getD, List.getD_eq_getElem?_getD, List.getElem?_append_right hk] at hc
    refine absurd ?_ h
    rw [List.getElem?_eq_getElem (by omega)] at hc
    rw [← hc]
    exact List.getElem_mem _
theorem find3_at {p a q : List Nat} {c : Nat} {i : Int} (hi : i = (p.length : Int)) (h : c ∉ a) : Txt.find3 (tx (p ++ (a ++ c :: q))) ⟨#[c]⟩ i = ((p.length + a.length : Nat) : Int) := by
  subst hi
  have hf : PySem.fromIndex (tx (p ++ (a ++ c :: q))).length (p.length : Int) = p.length := by unfold PySem.fromIndex; omega
  have hat : (tx (p ++ (a ++ c :: q))).cps.getD (p.length + a.length) 0 = c := by
    rw [tx_getD, List.getD_eq_getElem?_getD, List.getElem?_append_right (by omega), List.getElem?_append_right (by omega)]
    simp
  have hlen : p.length + a.length < (tx (p ++ (a ++ c :: q))).length := by
    rw [tx_len]
    simp only [List.length_append, List.length_cons]
    omega
  rcases StrLaws.find3_spec (tx (p ++ (a ++ c :: q))) c (p.length : Int) with ⟨_, hn⟩ | ⟨k, e, hk, hl, hc, hn⟩
  · exact absurd hat (hn _ (by omega) hlen)
  · rw [hf] at hk hn
    rw [e]
    congr 1
    rcases Nat.lt_trichotomy k (p.length + a.length) with h1 | h1 | h1
    · refine absurd ?_ h
      rw [tx_getD, List.getD_eq_getElem?_getD, List.getElem?_append_right hk, List.getElem?_append_left (by omega), List.getElem?_eq_getElem (by omega)] at hc
      rw [← hc]
      exact List.getElem_mem _
    · exact h1
    · exact absurd hat (hn _ (by omega) h1)
theorem find_no {q : List Nat} {c : Nat} (h : c ∉ q) : Txt.find (tx q) ⟨#[c]⟩ = -1 := by
  rw [PyProof.Rows.find_is_find3]
  exact find3_no (p := []) (q := q) rfl h
theorem find_at {a q : List Nat} {c : Nat} (h : c ∉ a) : Txt.find (tx (a ++ c :: q)) ⟨#[c]⟩ = (a.length : Int) := by
  rw [PyProof.Rows.find_is_find3]
  have := find3_at (p := []) (a := a) (q := q) (c := c) (i := 0) rfl h
  simpa using this
/-- the pieces between the signs c -/
noncomputable def splitL (c : Nat) : List Nat → List (List Nat)
  | [] => [[]]
  | k :: r => if k = c then [] :: splitL c r else match splitL c r with
    | p :: ps => (k :: p) :: ps
    | [] => [[k]]
theorem splitL_free {c : Nat} : ∀ {p : List Nat}, c ∉ p → splitL c p = [p]
  | [], _ => rfl
  | k :: r, h => by
    have h1 : ¬ k = c := fun e => h (e ▸ List.mem_cons_self ..)
    have h2 : c ∉ r := fun m => h (List.mem_cons_of_mem _ m)
    rw [splitL, if_neg h1, splitL_free h2]
theorem splitL_cut {c : Nat} {r : List Nat} : ∀ {p : List Nat}, c ∉ p → splitL c (p ++ c :: r) = p :: splitL c r
  | [], _ => by rw [List.nil_append, splitL, if_pos rfl]
  | k :: p, h => by
    have h1 : ¬ k = c := fun e => h (e ▸ List.mem_cons_self ..)
    have h2 : c ∉ p := fun m => h (List.mem_cons_of_mem _ m)
    rw [List.cons_append, splitL, if_neg h1, splitL_cut h2]
theorem join_cps (sep : PySem.Str) (p q : PySem.Str) (r : List PySem.Str) : (PySem.Str.join sep (p :: q :: r)).cps.toList = p.cps.toList ++ (sep.cps.toList ++ (PySem.Str.join sep (q :: r)).cps.toList) := by
  show (p ++ sep ++ PySem.Str.join sep (q :: r)).cps.toList = _
  rw [cat_cps, cat_cps, List.append_assoc]
theorem splitL_join {c : Nat} : ∀ {parts : List PySem.Str}, parts ≠ [] → (∀ p ∈ parts, c ∉ p.cps.toList) → splitL c (PySem.Str.join ⟨#[c]⟩ parts).cps.toList = parts.map (fun p => p.cps.toList)
  | [], h, _ => absurd rfl h
  | [p], _, h => by
    show splitL c p.cps.toList = [p.cps.toList]
    exact splitL_free (h p (List.mem_singleton.mpr rfl))
  | p :: q :: r, _, h => by
    rw [join_cps]
    show splitL c (p.cps.toList ++ c :: (PySem.Str.join ⟨#[c]⟩ (q :: r)).cps.toList) = _
    rw [splitL_cut (h p (List.mem_cons_self ..)), splitL_join (by simp) fun x hx => h x (List.mem_cons_of_mem _ hx)]
    rfl
theorem split_ne (x y : PySem.Str) : Txt.split x y ≠ [] := by
  unfold Txt.split
  split
  · simp
  · split
    · simp
    · rw [StrLaws.partsBetween_eq]
      obtain ⟨p, r, e⟩ := StrLaws.partsFrom_ne x y.length 0 (Builtin.Str.occurrences x y 0 x.length (x.length + 1))
      rw [e]; simp
theorem map_tx (parts : List PySem.Str) : (parts.map (fun p => p.cps.toList)).map tx = parts := by
  rw [List.map_map]
  exact (List.map_congr_left (g := fun x => x) fun p _ => (tx_of rfl).symm).trans (List.map_id' _)
theorem split_one (l : List Nat) (c : Nat) : Txt.split (tx l) ⟨#[c]⟩ = (splitL c l).map tx := by
  have h := splitL_join (split_ne (tx l) ⟨#[c]⟩) (StrLaws.split_free (tx l) c)
  rw [StrLaws.join_split, tx_cps] at h
  rw [h, map_tx]
section
variable {prog : Program} {w : World} {A : Around} {E : Value → Shared → Prop} {s : Shared} {x y : PySem.Str} {t u v : Tok} {a b : List Nat} {Q : Value → Shared → Prop}
theorem neT (hx : x.cps.toList = a) (hy : y.cps.toList = b) (e : a ≠ b) (h : Q (.bool true) s) : wpAny (model prog w) A (compareOp .NotEq (.str x t) (.str y u)) Q E s := by
  refine ne_str ?_
  rw [bne_of hx hy, decide_eq_true e]; exact h
theorem neF (hx : x.cps.toList = a) (hy : y.cps.toList = b) (e : a = b) (h : Q (.bool false) s) : wpAny (model prog w) A (compareOp .NotEq (.str x t) (.str y u)) Q E s := by
  refine ne_str ?_
  rw [bne_of hx hy, decide_eq_false (not_not_intro e)]; exact h
theorem eqT (hx : x.cps.toList = a) (hy : y.cps.toList = b) (e : a = b) (h : Q (.bool true) s) : wpAny (model prog w) A (compareOp .Eq (.str x t) (.str y u)) Q E s := by
  refine eq_str ?_
  rw [beq_of hx hy, decide_eq_true e]; exact h
theorem eqF (hx : x.cps.toList = a) (hy : y.cps.toList = b) (e : a ≠ b) (h : Q (.bool false) s) : wpAny (model prog w) A (compareOp .Eq (.str x t) (.str y u)) Q E s := by
  refine eq_str ?_
  rw [beq_of hx hy, decide_eq_false e]; exact h
theorem findR {k : Int} (e : Txt.find x y = k) (h : ∀ t' n, Q (.int k t') { s with toks := n }) : wpAny (model prog w) A (call (.builtin "str.find") [.str x t, .str y u]) Q E s := by
  refine SC.find ?_
  rw [e]; exact h _ _
theorem find3R {i k : Int} (e : Txt.find3 x y i = k) (h : ∀ t' n, Q (.int k t') { s with toks := n }) : wpAny (model prog w) A (call (.builtin "str.find") [.str x t, .str y u, .int i v]) Q E s := by
  refine SC.find3 ?_
  rw [e]; exact h _ _
end
theorem sOpen : PySem.Str.ofString "(" = ⟨#[40]⟩ := by decide
theorem sShut : PySem.Str.ofString ")" = ⟨#[41]⟩ := by decide
theorem find3_cut {p a q : List Nat} {c d : Nat} {i : Int} (hi : i = (p.length : Int) + 1) (h : c ∉ a) : Txt.find3 (tx (p ++ d :: (a ++ c :: q))) ⟨#[c]⟩ i = ((p.length + 1 + a.length : Nat) : Int) := by
  have e : p ++ d :: (a ++ c :: q) = (p ++ [d]) ++ (a ++ c :: q) := by simp
  have hl : (p ++ [d]).length = p.length + 1 := by simp
  rw [e, find3_at (p := p ++ [d]) (by rw [hl]; omega) h, hl]
theorem find3_none {p q : List Nat} {c d : Nat} {i : Int} (hi : i = (p.length : Int) + 1) (h : c ∉ q) : Txt.find3 (tx (p ++ d :: q)) ⟨#[c]⟩ i = -1 := by
  have e : p ++ d :: q = (p ++ [d]) ++ q := by simp
  have hl : (p ++ [d]).length = p.length + 1 := by simp
  rw [e, find3_no (p := p ++ [d]) (by rw [hl]; omega) h]
theorem getD_first {p a q : List Nat} {c d : Nat} (h : a ≠ []) : (p ++ d :: (a ++ c :: q)).getD ((p.length : Int) + 1).toNat 0 = a.getD 0 0 := by
  have e : ((p.length : Int) + 1).toNat = p.length + 1 := by omega
  rw [e, List.getD_eq_getElem?_getD, List.getElem?_append_right (by omega)]
  have e2 : p.length + 1 - p.length = 1 := by omega
  rw [e2]
  cases a with
  | nil => exact absurd rfl h
  | cons k r => rfl
theorem getD_last {p a q : List Nat} {c d : Nat} (h : a ≠ []) : (p ++ d :: (a ++ c :: q)).getD (((p.length + 1 + a.length : Nat) : Int) - 1).toNat 0 = a.getD (a.length - 1) 0 := by
  have ha : 0 < a.length := List.length_pos_iff.mpr h
  have e : (((p.length + 1 + a.length : Nat) : Int) - 1).toNat = p.length + a.length := by rw [Nat.add_right_comm]; exact Int.toNat_sub (p.length + a.length + 1) 1
  rw [e, List.getD_eq_getElem?_getD, List.getElem?_append_right (by omega)]
  have e2 : p.length + a.length - p.length = (a.length - 1) + 1 := (Nat.add_sub_cancel_left _ _).trans (Nat.sub_add_cancel ha).symm
  rw [e2, List.getElem?_cons_succ, List.getElem?_append_left (by omega), ← List.getD_eq_getElem?_getD]
theorem slice_mid {p a q : List Nat} {c d : Nat} {i j : Int} (hi : i = (p.length : Int) + 1) (hj : j = ((p.length + 1 + a.length : Nat) : Int)) : (Txt.slice (tx (p ++ d :: (a ++ c :: q))) (some i) (some j)).cps.toList = a := by
  subst hi hj
  rw [sl_of (tx_cps _) (by omega) (by omega) (by simp only [List.length_append, List.length_cons]; omega)]
  have e1 : ((p.length : Int) + 1).toNat = p.length + 1 := by omega
  have e2 : (((p.length + 1 + a.length : Nat) : Int) - ((p.length : Int) + 1)).toNat = a.length := (Int.toNat_sub (p.length + 1 + a.length) (p.length + 1)).trans (Nat.add_sub_cancel_left _ _)
  have e3 : p ++ d :: (a ++ c :: q) = (p ++ [d]) ++ (a ++ c :: q) := by simp
  rw [e1, e2, e3, List.drop_append_of_le_length (by simp), List.drop_of_length_le (by simp), List.nil_append, List.take_append_of_le_length (Nat.le_refl _), List.take_length]
section
variable {prog : Program} {w : World} {A : Around} {E : Value → Shared → Prop} {s : Shared} {x y : PySem.Str} {t u v : Tok} {a b : List Nat} {Q : Value → Shared → Prop} {h₀ : Heap} {L : Addr} {m : PySem.Str → Option Value} {news : List (Addr × Obj)} {value slice : PySem.Expr}
theorem itemR {i : Int} {c : Nat} (h0 : 0 ≤ i) (h1 : i < a.length) (hl : a.length ≤ 10000) (e : a.getD i.toNat 0 = c) (h : ∀ t' k, Q (.str (tx [c]) t') { s with toks := k })
    (hs : subscripted slice false (.str (tx a) t) (.int i u) = operate [.str (tx a) t, .int i u] (getItem (.str (tx a) t) (.int i u)) := by with_unfolding_all rfl)
    (ht : ∀ r, letTemporaryGo value (.str (tx a) t) r = pure () := by intro _; with_unfolding_all rfl) :
    wpAny (model prog w) A (subscriptTail value slice (.str (tx a) t) (.int i u)) Q E s :=
  itemT (tx_cps a) hl (by decide) h0 h1 (fun t' k c' hc => by rw [hc, e]; exact h t' k) hs ht
theorem splitR {c : Nat} (hF : Fr h₀ L s.heap m) (hN : News h₀ L s.heap news) (hx : x.cps.toList = a) (hl : a.length ≤ 10000)
    (h : ∀ D vs h' k, StrsAre vs ((splitL c a).map tx) → Fr h₀ L h' m → News h₀ L h' ((D, listOf vs.toArray 0) :: news) → (∀ p ∈ news, p.1 < D) → Q (.ref D) { s with heap := h', toks := k }) :
    wpAny (model prog w) A (call (.builtin "str.split") [.str x t, .str (tx [c]) u]) Q E s := by
  refine KSpl.split1 hF hN rfl (fun D l h' k e S F N l1 => ?_) (by rw [len_of hx, sizeLine_eq]; omega)
  refine h D _ h' k ?_ F N l1
  rw [e] at S
  have e2 : (tx [c] : PySem.Str) = ⟨#[c]⟩ := rfl
  rw [e2, tx_of hx, split_one] at S
  exact S
end
theorem strs_cons {vs : List Value} {a : PySem.Str} {r : List PySem.Str} (h : StrsAre vs (a :: r)) : ∃ t ws, vs = .str a t :: ws ∧ StrsAre ws r := by
  cases h with
  | cons _ t h => exact ⟨t, _, rfl, h⟩
theorem strs_nil {vs : List Value} (h : StrsAre vs []) : vs = [] := by
  cases h; rfl
theorem strs4 {vs : List Value} {a b c d : PySem.Str} (h : StrsAre vs [a, b, c, d]) : ∃ t1 t2 t3 t4, vs = [.str a t1, .str b t2, .str c t3, .str d t4] := by
  obtain ⟨t1, w1, e1, h1⟩ := strs_cons h
  obtain ⟨t2, w2, e2, h2⟩ := strs_cons h1
  obtain ⟨t3, w3, e3, h3⟩ := strs_cons h2
  obtain ⟨t4, w4, e4, h4⟩ := strs_cons h3
  exact ⟨t1, t2, t3, t4, by rw [e1, e2, e3, e4, strs_nil h4]⟩
theorem strs5 {vs : List Value} {a b c d e : PySem.Str} (h : StrsAre vs [a, b, c, d, e]) : ∃ t1 t2 t3 t4 t5, vs = [.str a t1, .str b t2, .str c t3, .str d t4, .str e t5] := by
  obtain ⟨t1, w1, e1, h1⟩ := strs_cons h
  obtain ⟨t2, t3, t4, t5, e2⟩ := strs4 h1
  exact ⟨t1, t2, t3, t4, t5, by rw [e1, e2]⟩
theorem strs6 {vs : List Value} {a b c d e f : PySem.Str} (h : StrsAre vs [a, b, c, d, e, f]) : ∃ t1 t2 t3 t4 t5 t6, vs = [.str a t1, .str b t2, .str c t3, .str d t4, .str e t5, .str f t6] := by
  obtain ⟨t1, w1, e1, h1⟩ := strs_cons h
  obtain ⟨t2, t3, t4, t5, t6, e2⟩ := strs5 h1
  exact ⟨t1, t2, t3, t4, t5, t6, by rw [e1, e2]⟩
theorem fOpenNo {q : List Nat} (h : 40 ∉ q) : Txt.find (tx q) (PySem.Str.ofString "(") = -1 := by rw [sOpen]; exact find_no h
theorem fOpen {a q : List Nat} (h : 40 ∉ a) : Txt.find (tx (a ++ 40 :: q)) (PySem.Str.ofString "(") = (a.length : Int) := by rw [sOpen]; exact find_at h
theorem fShutNo {p q : List Nat} {d : Nat} (h : 41 ∉ q) : Txt.find3 (tx (p ++ d :: q)) (PySem.Str.ofString ")") ((p.length : Int) + 1) = -1 := by rw [sShut]; exact find3_none rfl h
theorem fShut {p a q : List Nat} {d : Nat} (h : 41 ∉ a) : Txt.find3 (tx (p ++ d :: (a ++ 41 :: q))) (PySem.Str.ofString ")") ((p.length : Int) + 1) = ((p.length + 1 + a.length : Nat) : Int) := by rw [sShut]; exact find3_cut rfl h
end Mine
end
section
open PySem PySem.W PyProof.Rows PySem.Calls PySem.Spec
set_option maxRecDepth 100000
set_option maxHeartbeats 8000000
namespace Mine
theorem padC2n1 : True ∧ True := by walk1 <;> trivial
theorem fill2 (w : World) (h : Heap) : (KF w.params).In h → PySem.Challenge.rw_wf0102_01.prog = PySem.Challenge.rw_wf0102_01.prog := by
  k_fill
  intro _; rfl
theorem s257 : PySem.Str.ofString "257" = ⟨#[50, 53, 55]⟩ := by decide
theorem sBq : PySem.Str.ofString " \"" = ⟨#[32, 34]⟩ := by decide
theorem padC2n2 : True ∧ True := by walk1 <;> trivial
section
local macro_rules | `(tactic| walk_at "exec") => `(tactic| ((with_reducible show wpAny _ _ (exec (Stmt.While _ _ [] _) _) _ _ _); refine Hold.put ?_))
local macro_rules | `(tactic| walk_at $s:str) => if ["KswEnd"].contains s.getString then `(tactic| (refine Hold.put ?_)) else Lean.Macro.throwUnsupported
theorem p257 (x : PySem.Str) (t : Tok) (news : List (Addr × Obj)) (hx : x.length ≤ 10000) (h1 : (x.cps.toList.take 5) = [50, 53, 55, 32, 34]) (w : World) :
   Ctr w 89 [.str x t] news 1 8 (fun R _ s Q _ => ∀ r t' h' tk', r.cps.toList = unq (x.cps.toList.drop 5) → r.length ≤ x.length → R h' news → Q (.str r t') { s with heap := h', toks := tk' }) := by
  intro dp un gd cn cs a ccd cl base outer h₀ L m s Q E W hd hu hret
  obtain ⟨⟨A₀, B⟩, F, X, N, ⟨mean, mg, mb, T⟩, hk⟩ := W
  refine wpAny_call ?_
  k_dflt cell_enter
  have h5 : 5 ≤ x.length := by
    have := congrArg List.length h1
    rw [List.length_take] at this
    have e : x.cps.toList.length = x.length := rfl
    simp only [List.length_cons, List.length_nil] at this
    omega
  have c1 : Txt.slice x none (some 3) = PySem.Str.ofString "257" := by
    refine (slice_to (x := x) (n := 3) (by omega)).trans ?_
    rw [s257]
    have := congrArg (List.take 3) h1
    rw [List.take_take] at this
    rw [show min 3 5 = 3 from rfl] at this
    rw [this]; rfl
  have c2 : Txt.slice x (some 3) (some 5) = PySem.Str.ofString " \"" := by
    refine (slice_of (x := x) (a := 3) (b := 5) (by omega) (by omega)).trans ?_
    rw [sBq]
    have := congrArg (List.drop 3) h1
    rw [List.drop_take] at this
    rw [this]; rfl
  have c3 : (Txt.slice x none (some 3) != PySem.Str.ofString "257") = true → False := by rw [c1]; decide
  have c4 : (Txt.slice x (some 3) (some 5) != PySem.Str.ofString " \"") = true → False := by rw [c2]; decide
  k_with "state" => exact st0 h5
  k_steps
  all_goals (try (with_reducible show Hold _); refine ⟨?_⟩; k_while (fun _ i dirname => 5 ≤ i ∧ i ≤ (x.length : Int) ∧ (dirname.length : Int) ≤ i ∧ Eq257 x i dirname) (fun _ i _ => ((x.length : Int) - i).toNat) "i" "dirname"; k_steps)
  all_goals (try (((with_reducible show Hold (KswEnd _ _ _ _ _ _ _ _ _ _ _ _)); refine ⟨?_⟩; (rename News _ _ _ _ => nE'); (refine ksw_end ⟨_, _, _, _⟩ (by assumption) nE' (by kst_in) (by kst_facts) (by kst_all) (by ksw_same) ?_ (by ksw_less)); dsimp only)))
  all_goals first
  | (refine ⟨by omega, by omega, by simp only [PyProof.Rows.len_item] at *; omega, ?_⟩; first | exact eq257_plain (by assumption) (by omega) (by omega) (by assumption) | exact eq257_twice (by assumption) (by omega) (by omega) (by assumption) (by assumption))
  | (exfalso; exact c3 (by assumption))
  | (exfalso; exact c4 (by assumption))
  | (refine hret _ _ _ _ ?_ (by omega) ⟨⟨_, B⟩, by assumption, by assumption, by assumption, ⟨_, _, _, T⟩, hk⟩; first | exact eq257_last (by assumption) (by omega) (by omega) (by assumption) (by omega) | exact eq257_shut (by assumption) (by omega) (by omega) (by assumption) (by assumption) | exact eq257_end (by assumption) (by omega))
end
end Mine
end
section
open PySem PySem.W PyProof.Rows PySem.Calls PySem.Spec
set_option maxRecDepth 100000
set_option maxHeartbeats 8000000
namespace Mine
theorem padC3n1 : True ∧ True := by walk1 <;> trivial
theorem fill3 (w : World) (h : Heap) : (KF w.params).In h → PySem.Challenge.rw_wf0102_01.prog = PySem.Challenge.rw_wf0102_01.prog := by
  k_fill
  intro _; rfl
local macro_rules | `(tactic| walk_at $s:str) => if ["KstEnd", "InvEndN", "call builtin:chr"].contains s.getString then `(tactic| (refine Hold.put ?_)) else Lean.Macro.throwUnsupported
noncomputable def nameOf (i : Nat) : PySem.Str := [PySem.Str.ofString "ab", PySem.Str.ofString "a\"b", PySem.Str.ofString "b\"", PySem.Str.ofString "c"].getD i (PySem.Str.ofString "")
theorem pName (i : Nat) (t : Tok) (news : List (Addr × Obj)) (hi : i < 4) (w : World) :
   Ctr w 304 [.int (i : Int) t] news 1 8 (fun R _ s Q _ => ∀ t' h' tk', R h' news → Q (.str (nameOf i) t') { s with heap := h', toks := tk' }) := by
  intro dp un gd cn cs a ccd cl base outer h₀ L m s Q E W hd hu hret
  obtain ⟨⟨A₀, B⟩, F, X, N, ⟨mean, mg, mb, T⟩, hk⟩ := W
  refine wpAny_call ?_
  k_dflt cell_enter
  obtain rfl | rfl | rfl | rfl := four hi
  all_goals (k_steps)
  all_goals exact hret _ _ _ ⟨⟨_, B⟩, by assumption, by assumption, by (first | assumption | (intro p hp; (rename News _ _ _ _ => nX); exact nX p (by repeat (first | exact hp | apply List.Mem.tail)))), ⟨_, _, _, T⟩, hk⟩
theorem pSpelled (x : PySem.Str) (way : Nat) (t1 t2 : Tok) (news : List (Addr × Obj)) (hl : x.length ≤ 3) (hx : ∀ c ∈ x.cps.toList, 33 ≤ c ∧ c ≤ 126) (hw : way < 64) (w : World) :
   Ctr w 311 [.str x t1, .int (way : Int) t2] news 1 8 (fun R _ s Q _ => ∀ r t' h' tk', r.cps.toList = spell x.cps.toList way → R h' news → Q (.str r t') { s with heap := h', toks := tk' }) := by
  intro dp un gd cn cs a ccd cl base outer h₀ L m s Q E W hd hu hret
  obtain ⟨⟨A₀, B⟩, F, X, N, ⟨mean, mg, mb, T⟩, hk⟩ := W
  refine wpAny_call ?_
  k_dflt cell_enter
  k_with "pyIter str" => k_state (fun pre text v => text.cps.toList = spell (pre.map Int.toNat) way ∧ text.length ≤ 2 * pre.length ∧ v = ((way / 4 ^ pre.length : Nat) : Int)) "text" "way"
  k_with "state" => (refine ⟨by decide, by decide, ?_⟩; simp)
  k_steps
  all_goals (try (with_reducible show Hold (wpAny _ _ _ _ _ _); refine ⟨?_⟩; (have hb := hx _ (letter_in (by assumption))); refine PyProof.Rows.chr_of_range (by omega) (by omega) ?_; k_steps))
  all_goals (try k_steps)
  all_goals (try (((with_reducible show Hold (InvEndN _ _ _ _ _ _ _)); refine ⟨?_⟩; (rename News _ _ _ _ => nE'); (refine kst_end ⟨_, _, _, _⟩ (by assumption) nE' (by first | kst_in | kst_inAny) (by first | (intro p hp; kst_mem) | kst_anyIn) (by rfl) (by kst_facts) (by kst_all) (by kst_same) ?_); dsimp only)))
  all_goals first
  | (exact spell_step (by assumption) (by assumption) (by assumption) (one_q (by assumption)))
  | (exact spell_step (by assumption) (by assumption) (by assumption) (one_0 (by assumption) (by assumption)))
  | (exact spell_step (by assumption) (by assumption) (by assumption) (one_1 (by assumption) (by assumption) (by assumption)))
  | (exact spell_step (by assumption) (by assumption) (by assumption) (one_2 (by assumption) (by assumption) (by assumption)))
  | (rw [cat_assoc]; exact spell_step (by assumption) (by assumption) (by assumption) (one_3 (by assumption) (by assumption) (by assumption) (by assumption) (by assumption)))
  | (refine hret _ _ _ _ ?_ ⟨⟨_, B⟩, by assumption, by assumption, by (first | assumption | (intro p hp; (rename News _ _ _ _ => nX); exact nX p (by repeat (first | exact hp | apply List.Mem.tail)))), ⟨_, _, _, T⟩, hk⟩; (rename _ = spell _ _ => hs); rw [codes_nat] at hs; exact hs)
  | w_report
  all_goals trace_state
end Mine
end
section
open PySem PySem.W PyProof.Rows PySem.Calls PySem.Spec
set_option maxRecDepth 100000
set_option maxHeartbeats 8000000
namespace Mine
theorem padC4n1 : True ∧ True := by walk1 <;> trivial
theorem fill4 (w : World) (h : Heap) : (KF w.params).In h → PySem.Challenge.rw_wf0102_01.prog = PySem.Challenge.rw_wf0102_01.prog := by
  k_fill
  intro _; rfl
/-- the set's elements as they lie, each with its token -/
noncomputable def b1Pairs : List (Int × Tok) := ([65024, 65025, 65026, 65027, 65028, 65029, 6150, 65030, 65031, 65032, 65033, 6155, 6156, 6157, 8203, 8204, 8205, 65034, 65035, 65036, 65037, 65038, 65039, 173, 847, 8288, 65279] : List Int).zip [385, 386, 387, 388, 389, 390, 371, 391, 392, 393, 394, 372, 373, 374, 375, 376, 377, 395, 396, 397, 398, 399, 400, 369, 370, 378, 379]
noncomputable def inB1 (c : Int) : Bool := b1Pairs.any fun p => p.1 == c
theorem set97 {prog : Program} {w : World} (P : Params) : (o97_0 P).SetObjOf (intKind prog w) inB1 27 := by
  refine ⟨⟨rfl, rfl, rfl⟩, (b1Pairs.map fun p => (p.1, Value.int p.1 p.2)).toArray, _, _, rfl, ?_, ?_, by decide +kernel, by rfl⟩
  · intro e he
    rw [List.toList_toArray] at he
    obtain ⟨p, hp, rfl⟩ := List.mem_map.mp he
    refine ⟨⟨p.1, by simp [intKind, Value.isInt], ?_⟩, rfl⟩
    have : ∀ p ∈ b1Pairs, p.1 = hashInt p.1 := by decide +kernel
    exact this p hp
  · intro k
    rw [List.toList_toArray]
    unfold inB1
    rw [List.any_eq_true]
    constructor
    · rintro ⟨p, hp, e⟩
      refine ⟨_, List.mem_map.mpr ⟨p, hp, rfl⟩, ?_⟩
      simpa [intKind, Value.isInt] using e
    · rintro ⟨e, he, h⟩
      obtain ⟨p, hp, rfl⟩ := List.mem_map.mp he
      refine ⟨p, hp, ?_⟩
      simpa [intKind, Value.isInt] using h
theorem get97 {P : Params} {h : Heap} (X : (KF P).In h) : h.get? 97 = some (o97_0 P) := X 97 _ (by kernel_rfl!)
theorem get108 {P : Params} {h : Heap} (X : (KF P).In h) : h.get? 108 = some (o108_0 P) := X 108 _ (by kernel_rfl!)
local macro_rules | `(tactic| walk_at $s:str) => if ["compareOp In int ref"].contains s.getString then `(tactic| (refine Hold.put ?_)) else Lean.Macro.throwUnsupported
theorem pIn (c : Nat) (t : Tok) (news : List (Addr × Obj)) (w : World) :
   Ctr w 107 [.str ⟨#[c]⟩ t] news 1 8 (fun R _ s Q _ => ∀ h' tk', R h' news → Q (.bool (inB1 (c : Int))) { s with heap := h', toks := tk' }) := by
  intro dp un gd cn cs a ccd cl base outer h₀ L m s Q E W hd hu hret
  obtain ⟨⟨A₀, B⟩, F, X, N, ⟨mean, mg, mb, T⟩, hk⟩ := W
  refine wpAny_call ?_
  k_dflt cell_enter
  k_steps
  refine ⟨?_⟩
  have G : ∀ g, (KF w.params).In g → g.get? 97 = some (o97_0 w.params) := fun g X => get97 X
  refine wpAny_inSet_of (knd := intKind _ _) (k := (c : Int)) (by simp [intKind, Value.isInt]) rfl ((set97 w.params).setOf (G _ (by k_in)) (by decide)) ?_
  k_steps
  trace_state
  exact hret _ _ ⟨⟨_, B⟩, by assumption, by assumption, by assumption, ⟨_, _, _, T⟩, hk⟩
end Mine
end
section
open PySem PySem.W PyProof.Rows PySem.Calls PySem.Spec PyProof.V
set_option maxRecDepth 100000
set_option maxHeartbeats 8000000
namespace Mine
theorem padC5n1 : True ∧ True := by walk1 <;> trivial
noncomputable def keyI : Value → Int
  | .int n _ => n
  | _ => 0
noncomputable def datS : Value → PyData
  | .str x _ => .str x
  | _ => .none
noncomputable def rowOk (e : DictEntry) : Bool := match e.key, e.val with
  | .int n _, .str _ _ => e.hash == hashInt n
  | _, _ => false
noncomputable def b3Es (o : Obj) : List DictEntry := match o.data with
  | .dict es _ => es.toList
  | _ => []
noncomputable def b3Kvs (o : Obj) : List (Int × Value) := (b3Es o).map fun e => (keyI e.key, e.val)
noncomputable def b3D (o : Obj) : List (PyData × PyData) := (b3Es o).map fun e => (PyData.int (keyI e.key), datS e.val)
theorem b3rows (P : Params) : (b3Es (o108_0 P)).all rowOk = true := by kernel_rfl!
theorem b3flat (l : List DictEntry) (h : l.all rowOk = true) : FlatPairs PyData.int (l.map fun e => (keyI e.key, e.val)) (l.map fun e => (PyData.int (keyI e.key), datS e.val)) := by
  induction l with
  | nil => exact .nil
  | cons e r ih =>
    rw [List.all_cons, Bool.and_eq_true] at h
    refine .cons ?_ (ih h.2)
    have h1 := h.1
    unfold rowOk at h1
    split at h1
    · rename_i e2
      show Flat e.val (datS e.val)
      rw [e2]
      exact Flat.str _ _
    · exact absurd h1 (by decide)
noncomputable def incr : List Int → Bool
  | a :: b :: r => decide (a < b) && incr (b :: r)
  | _ => true
theorem incr_lt {l : List Int} : ∀ {a : Int}, incr (a :: l) = true → ∀ b ∈ l, a < b := by
  induction l with
  | nil => intro a _ b hb; cases hb
  | cons c r ih =>
    intro a h b hb
    rw [incr, Bool.and_eq_true, decide_eq_true_eq] at h
    rcases List.mem_cons.mp hb with rfl | hb
    · exact h.1
    · exact Int.lt_trans h.1 (ih h.2 b hb)
theorem incr_tail {a : Int} {l : List Int} (h : incr (a :: l) = true) : incr l = true := by
  cases l with
  | nil => rfl
  | cons b r => rw [incr, Bool.and_eq_true] at h; exact h.2
theorem incr_nodup {l : List Int} (h : incr l = true) : l.Nodup := by
  induction l with
  | nil => exact List.nodup_nil
  | cons a r ih =>
    refine List.nodup_cons.mpr ⟨fun hm => ?_, ih (incr_tail h)⟩
    exact absurd (incr_lt h a hm) (Int.lt_irrefl a)
theorem b3incr (P : Params) : incr ((b3Es (o108_0 P)).map fun e => keyI e.key) = true := by kernel_rfl!
theorem rowOk_key {prog : Program} {w : World} {e : DictEntry} (h : rowOk e = true) : (intKind prog w).is (keyI e.key) e.key = true ∧ e.hash = (intKind prog w).hash (keyI e.key) := by
  unfold rowOk at h
  split at h
  · rename_i n t x u e1 e2
    rw [e1]
    refine ⟨?_, ?_⟩
    · show Value.isInt n (.int n t) = true
      simp [Value.isInt]
    · exact eq_of_beq h
  · exact absurd h (by decide)
theorem b3dict {prog : Program} {w : World} (P : Params) : (o108_0 P).IsDictOf (intKind prog w) (b3Kvs (o108_0 P)) := by
  have hr := b3rows P
  have hi := b3incr P
  have hc : (o108_0 P).ExactDict := ⟨rfl, rfl, rfl⟩
  have hd : ∃ es ep, (o108_0 P).data = .dict es ep := ⟨_, _, rfl⟩
  generalize o108_0 P = o at hr hi hc hd
  obtain ⟨es, ep, hd⟩ := hd
  have he : b3Es o = es.toList := by unfold b3Es; rw [hd]
  unfold b3Kvs
  rw [he] at hr hi ⊢
  rw [List.all_eq_true] at hr
  refine ⟨es, ep, hc, hd, ?_, ?_, ?_⟩
  · intro e hm
    have h2 := rowOk_key (prog := prog) (w := w) (hr e (Array.mem_toList_iff.mpr hm))
    exact ⟨_, h2.1, h2.2⟩
  · generalize es.toList = l at hr
    induction l with
    | nil => exact .nil
    | cons e r ih => exact .cons (rowOk_key (hr e (.head _))).1 rfl (ih fun x hx => hr x (.tail _ hx))
  · rw [List.map_map]
    exact incr_nodup hi
theorem b3tab {prog : Program} {w : World} {P : Params} {h : Heap} (X : (KF P).In h) : TabAt (intKind prog w) PyData.int h 108 (b3D (o108_0 P)) :=
  TabAt.ofObj rfl (get108 X) (b3dict P) (b3flat _ (b3rows P))
noncomputable def b3Map (c : Nat) : List Nat := if c = 34 then [34] else if c = 97 then [97] else if c = 98 then [98] else if c = 99 then [99] else if c = 65 then [97] else if c = 66 then [98] else if c = 67 then [99] else if c = 120172 then [97] else if c = 120173 then [98] else if c = 120174 then [99] else [c]
noncomputable def b3Of (P : Params) (c : Nat) : PyData := (lookup (.int (c : Int)) (b3D (o108_0 P))).getD .none
theorem b3Of_low (P : Params) : b3Of P 34 = .none ∧ b3Of P 97 = .none ∧ b3Of P 98 = .none ∧ b3Of P 99 = .none ∧ b3Of P 65 = .none ∧ b3Of P 66 = .none ∧ b3Of P 67 = .none ∧ b3Of P 7 = .none := by
  refine ⟨?_, ?_, ?_, ?_, ?_, ?_, ?_, ?_⟩ <;> kernel_rfl!
theorem b3Of_up (P : Params) : b3Of P 120172 = .str (PySem.Str.ofString "a") ∧ b3Of P 120173 = .str (PySem.Str.ofString "b") ∧ b3Of P 120174 = .str (PySem.Str.ofString "c") := by
  refine ⟨?_, ?_, ?_⟩ <;> kernel_rfl!
theorem fill5 (w : World) (h : Heap) : (KF w.params).In h → PySem.Challenge.rw_wf0102_01.prog = PySem.Challenge.rw_wf0102_01.prog := by
  k_fill
  intro _; rfl
theorem padC5n2 : True ∧ True := by walk1 <;> trivial
section
local macro_rules | `(tactic| walk_at $s:str) => if ["getMethod ref", "call builtin:dict.get"].contains s.getString then `(tactic| (refine Hold.put ?_)) else Lean.Macro.throwUnsupported
theorem pMapLow (c : Nat) (t : Tok) (news : List (Addr × Obj)) (w : World) (hc : b3Of w.params c = .none) :
   Ctr w 153 [.str ⟨#[c]⟩ t] news 1 8 (fun R _ s Q _ => ∀ t' h' tk', R h' news → Q (.str (PySem.Txt.lower ⟨#[c]⟩) t') { s with heap := h', toks := tk' }) := by
  intro dp un gd cn cs a ccd cl base outer h₀ L m s Q E W hd hu hret
  obtain ⟨⟨A₀, B⟩, F, X, N, ⟨mean, mg, mb, T⟩, hk⟩ := W
  refine wpAny_call ?_
  k_dflt cell_enter
  k_steps
  refine ⟨?_⟩
  have G : ∀ g, (KF w.params).In g → TabAt (intKind PG w) PyData.int g 108 (b3D (o108_0 w.params)) := fun g X => b3tab X
  refine getMethod_intTab_get (G _ (by k_in)) ?_
  k_steps
  refine ⟨?_⟩
  refine call_get1_intTab (G _ (by k_in)) ?_
  intro v hv
  change Flat v (b3Of w.params c) at hv
  rw [hc] at hv
  have hv := hv s.heap
  cases hv
  k_steps
  have h1 : (⟨#[c]⟩ : PySem.Str).length = 1 := rfl
  refine SCL.lower (by rw [h1]; decide) ?_
  intro _
  k_steps
  exact hret _ _ _ ⟨⟨_, B⟩, by assumption, by assumption, by assumption, ⟨_, _, _, T⟩, hk⟩
theorem pMapUp (c : Nat) (y : PySem.Str) (t : Tok) (news : List (Addr × Obj)) (w : World) (hc : b3Of w.params c = .str y) :
   Ctr w 153 [.str ⟨#[c]⟩ t] news 1 8 (fun R _ s Q _ => ∀ t' h' tk', R h' news → Q (.str y t') { s with heap := h', toks := tk' }) := by
  intro dp un gd cn cs a ccd cl base outer h₀ L m s Q E W hd hu hret
  obtain ⟨⟨A₀, B⟩, F, X, N, ⟨mean, mg, mb, T⟩, hk⟩ := W
  refine wpAny_call ?_
  k_dflt cell_enter
  k_steps
  refine ⟨?_⟩
  have G : ∀ g, (KF w.params).In g → TabAt (intKind PG w) PyData.int g 108 (b3D (o108_0 w.params)) := fun g X => b3tab X
  refine getMethod_intTab_get (G _ (by k_in)) ?_
  k_steps
  refine ⟨?_⟩
  refine call_get1_intTab (G _ (by k_in)) ?_
  intro v hv
  change Flat v (b3Of w.params c) at hv
  rw [hc] at hv
  have hv := hv s.heap
  cases hv
  k_steps
  exact hret _ _ _ ⟨⟨_, B⟩, by assumption, by assumption, by assumption, ⟨_, _, _, T⟩, hk⟩
end
end Mine
end
section
open PySem PySem.W PyProof.Rows PySem.Calls PySem.Spec PyProof.V Mine
local macro_rules | `(tactic| walk_at "mine lit") => `(tactic| with_reducible first | exact lt0 | exact lt1 | exact lt2 | exact lt3 | exact lt4 | exact lt5 | exact lt6 | exact lt7 | exact lt8 | exact lt9 | exact lt10 | exact lt11 | exact lt12 | exact lt13 | exact lt14 | exact lt15 | exact lt16 | exact lt17 | exact lt18 | exact lt19 | exact lt20 | exact lt21 | exact lt22 | exact lt23 | exact lt24 | exact lt25 | exact lt26 | exact lt27 | exact lt28 | exact lt29 | exact lt30)
local macro_rules | `(tactic| walk_at "mine bnd") => `(tactic| first | with_reducible assumption | with_reducible exact figs_le (by with_reducible assumption) | with_reducible exact drop_le (by walk_at "mine bnd") | with_reducible exact take_le (by walk_at "mine bnd") | exact Nat.le_refl _)
local macro_rules | `(tactic| walk_at "mine txt") => `(tactic| first | with_reducible exact tx_cps _ | walk_at "mine lit" | with_reducible exact num_cps _ | with_reducible assumption | (with_reducible refine sl_from (by walk_at "mine txt") (by decide)) | (with_reducible refine sl_last (by walk_at "mine txt")) | (with_reducible refine sl_to (by walk_at "mine txt") (by decide)) | (with_reducible refine item_of (by walk_at "mine txt") (by omega) (by (simp only [List.length_cons, List.length_nil]); omega)))
local macro_rules | `(tactic| walk_at "binaryOp Add str str") => `(tactic| (refine addA ?_; intro t' k' d' hd' hl'))
local macro_rules | `(tactic| walk_at "binaryOp Mult str int") => `(tactic| (refine mulA ?_; intro t' k' d' hd' hl'))
local macro_rules | `(tactic| walk_at "call builtin:str.replace") => `(tactic| (refine replaceA ?_; intro t' k' d' hd' hl'))
local macro_rules | `(tactic| walk_at "call type:str") => `(tactic| (refine strN (by with_reducible assumption) ?_; intro t' k'))
local macro_rules | `(tactic| walk_at "mine slice") => `(tactic| ((with_reducible rename Fr _ _ _ _ => F'); (with_reducible rename News _ _ _ _ => N'); (first | refine slice_strN_ns (hsz := ?hsz) (s := ⟨_, _, _, _, _⟩) F' N' ?_ | refine slice_strN_sn (hsz := ?hsz) (s := ⟨_, _, _, _, _⟩) F' N' ?_ | refine slice_strN_ss (hsz := ?hsz) (s := ⟨_, _, _, _, _⟩) F' N' ?_); (case hsz => exact lineA)))
local macro_rules | `(tactic| walk_at "subscriptTail Name Slice str ref") => `(tactic| (walk_at "mine slice"; intro _ _ _ _ _))
local macro_rules | `(tactic| walk_at "mine item") => `(tactic| (refine itemA ?_; intro t' k' c' hc'))
local macro_rules | `(tactic| walk_at "subscriptTail Constant str Name str int") => `(tactic| walk_at "mine item")
local macro_rules | `(tactic| walk_at "subscriptTail Name BinOp str int") => `(tactic| walk_at "mine item")
local macro_rules | `(tactic| walk_at "subscriptTail Name Name str int") => `(tactic| walk_at "mine item")
section
open PySem PySem.W PyProof.Rows PySem.Calls PySem.Spec PyProof.V
set_option maxRecDepth 100000
set_option maxHeartbeats 8000000
namespace Mine
theorem padC6n1 : True ∧ True := by walk1 <;> trivial
theorem fill6 (w : World) (h : Heap) : (KF w.params).In h → PySem.Challenge.rw_wf0102_01.prog = PySem.Challenge.rw_wf0102_01.prog := by
  k_fill
  intro _; rfl
theorem nameOf_len {i : Nat} (hi : i < 4) : (nameOf i).cps.toList.length ≤ 3 := by
  obtain rfl | rfl | rfl | rfl := four hi
  all_goals decide
theorem spell_len (l : List Nat) : ∀ way, (spell l way).length ≤ 2 * l.length := by
  induction l with
  | nil => intro _; exact Nat.le_refl _
  | cons c r ih =>
    intro way
    have := spellOne_len c way
    have := ih (way / 4)
    rw [spell, List.length_append, List.length_cons]
    omega
noncomputable def markOf (kind : Nat) : Nat := [124, 33, 47, 115, 83, 40].getD kind 0
noncomputable def namedA (nm : List Nat) : List Nat := [50, 53, 55, 32, 34] ++ StrLaws.dbl 34 nm ++ [34, 32, 105, 115, 32, 116, 104, 101, 114, 101]
noncomputable def aheadOf (kind fault : Nat) : Nat := if fault = 20 then (if kind % 2 = 1 then 4 else 2) else 3
theorem aheadOf_le (kind fault : Nat) : aheadOf kind fault ≤ 4 := by
  unfold aheadOf
  split
  · split <;> decide
  · decide
theorem ahead_menu (kind : Nat) : ([2, 4] : List Int).getD (((kind : Int)).fmod 2).toNat 0 = (((if kind % 2 = 1 then 4 else 2) : Nat) : Int) := by
  rw [Int.fmod_eq_emod_of_nonneg _ (by decide)]
  have e : ((kind : Int) % 2).toNat = kind % 2 := rfl
  rw [e]
  rcases Nat.mod_two_eq_zero_or_one kind with h | h <;> rw [h] <;> rfl
noncomputable def portedA (kind fault : Nat) (fg : List Nat) : List Nat := [50, 50, 57, 32, 103, 111, 32, 40] ++ (List.replicate (aheadOf kind fault) [markOf kind]).flatten ++ fg ++ [markOf kind] ++ [41]
/-- the first reply of a deed, its name so spelled -/
noncomputable def namedOf (fault : Nat) (sp : List Nat) : List Nat :=
  if fault = 16 then [50, 53, 48] ++ List.drop 3 (namedA (if fault = 22 then sp ++ [7] else sp)) else namedA (if fault = 22 then sp ++ [7] else sp)
noncomputable def portedFg (kind fault : Nat) (fg : List Nat) : List Nat :=
  let q6 := if fault = 17 then [50, 50, 56] ++ List.drop 3 (portedA kind fault fg) else portedA kind fault fg
  let q7 := if fault = 18 then (if kind % 2 = 1 then [50, 50, 57, 32, 103, 111, 32, 50] ++ fg ++ [50, 41] else List.take (q6.length - 1) q6 ++ [93]) else q6
  if fault = 19 then List.take (q7.length - 1) q7 ++ [126, 41] else q7
/-- the second reply of a deed -/
noncomputable def portedOf (kind port fault : Nat) : List Nat := portedFg kind fault (if fault = 21 then 120 :: figs port else figs port)
theorem padC6n2 : True ∧ True := by walk1 <;> trivial
section
local macro_rules | `(tactic| walk_at $s:str) => if ["call ref"].contains s.getString then `(tactic| (refine Hold.put ?_)) else Lean.Macro.throwUnsupported
local macro_rules | `(tactic| walk_at "exec If") => `(tactic| ((fail_if_success (rename JoinMark => jm)); refine Hold.put ?_))
theorem pRep (D : Addr) (c i way fault port kind : Nat) (t1 t2 t3 t4 t5 t6 : Tok) (news : List (Addr × Obj)) (hf : fault < 23) (hk : kind < 6) (hi : i < 4) (hw : way < 64) (hp : port < 1000) (w : World) :
   Ctr w 318 [.ref D] ((D, { cls := .type "tuple", data := .seq #[.int c t1, .int i t2, .int way t3, .int fault t4, .int port t5, .int kind t6] }) :: news) 3 32 (fun R _ s Q _ => ∀ T ta tb nd pd h' tk' n, nd = namedOf fault (spell (nameOf i).cps.toList way) → pd = portedOf kind port fault → R h' ((T, { cls := .type "tuple", data := .seq #[.str (tx nd) ta, .str (tx pd) tb] n }) :: (D, { cls := .type "tuple", data := .seq #[.int c t1, .int i t2, .int way t3, .int fault t4, .int port t5, .int kind t6] }) :: news) → Q (.ref T) { s with heap := h', toks := tk' }) := by
  intro dp un gd cn cs a ccd cl base outer h₀ L m s Q E W hd hu hret
  obtain ⟨⟨A₀, B⟩, F, X, N, ⟨mean, mg, mb, T⟩, hk⟩ := W
  refine wpAny_call ?_
  k_dflt cell_enter
  k_steps
  refine ⟨?_⟩
  refine pName (w := w) i t2 _ hi _ _ _ _ _ _ _ _ _ _ _ _ _ _ _ _ ⟨⟨_, by assumption⟩, by assumption, by assumption, by assumption, ⟨_, _, _, by assumption⟩, rfl⟩ ?hd ?hu ?ret
  case hd => (dsimp only [ktrTop]); first | exact lim2 hd rfl | omega
  case hu => (dsimp only [ktrTop]); first | exact lim2 hu rfl | omega
  rintro t' h' tk' ⟨_, F', X', N', T', _⟩
  k_steps
  refine ⟨?_⟩
  refine pSpelled (w := w) (nameOf i) way _ _ _ ?hl ?hx hw _ _ _ _ _ _ _ _ _ _ _ _ _ _ _ _ ⟨⟨_, by assumption⟩, by assumption, by assumption, by assumption, ⟨_, _, _, by assumption⟩, rfl⟩ ?hd2 ?hu2 ?ret2
  case hl => obtain rfl | rfl | rfl | rfl := four hi
             all_goals decide
  case hx => obtain rfl | rfl | rfl | rfl := four hi
             all_goals decide
  case hd2 => (dsimp only [ktrTop]); first | exact lim2 hd rfl | omega
  case hu2 => (dsimp only [ktrTop]); first | exact lim2 hu rfl | omega
  rintro r t' h' tk' hr ⟨_, F', X', N', T', _⟩
  have hrl : (spell (nameOf i).cps.toList way).length ≤ 6 := Nat.le_trans (spell_len _ _) (Nat.mul_le_mul_left 2 (nameOf_len hi))
  generalize hsp : spell (nameOf i).cps.toList way = sp at hr hrl
  obtain rfl := tx_of hr
  clear hr
  k_sweep
  k_steps
  refine ⟨?_⟩
  refine joinT (S "name") (fun l => l = (if fault = 22 then sp ++ [7] else sp) ∧ l.length ≤ 7) (by assumption) (by assumption) (fun jm' => ?j1) ?r1
  case j1 =>
    k_steps
    · (have h22 : fault = 22 := by omega); refine JoinT.stored ⟨?_, ?_⟩ (by assumption) (by assumption)
      · rw [if_pos h22]; assumption
      · (rename (List.length _ ≤ _) => hl'); exact hl'
    · (have h22 : ¬ fault = 22 := by omega); refine JoinT.kept (by assumption) (by assumption) (by rfl) ⟨?_, ?_⟩
      · rw [if_neg h22]
      · omega
  case r1 =>
  rintro h2 tk2 tn nm ⟨hnm, hnl⟩ F2 N2
  k_sweep
  k_steps
  refine ⟨?_⟩
  rename_i d1 e1 l1 _ _ d2 e2 l2 _ _ d3 e3 l3 _ _ _
  refine joinT (S "named") (fun l => l = (if fault = 16 then [50, 53, 48] ++ List.drop 3 d3 else d3) ∧ l.length ≤ 40) (by assumption) (by assumption) (fun jm' => ?j2) ?r2
  case j2 =>
    k_steps
    · (have h22 : fault = 16 := by omega); refine JoinT.stored ⟨?_, ?_⟩ (by assumption) (by assumption)
      · rw [if_pos h22]; assumption
      · (rename (List.length _ ≤ _) => hl'); exact Nat.le_trans hl' (by decide)
    · (have h22 : ¬ fault = 16 := by omega); refine JoinT.kept (by assumption) (by assumption) (by rfl) ⟨?_, ?_⟩
      · rw [if_neg h22]
      · exact Nat.le_trans l3 (by decide)
  case r2 =>
  rintro h3 tk3 tn3 nd ⟨hnd, hndl⟩ F3 N3
  have hnd : nd = (if fault = 16 then [50, 53, 48] ++ List.drop 3 (namedA nm) else namedA nm) := by
    subst e1 e2 e3
    exact hnd
  clear e1 e2 e3 l1 l2 l3
  k_sweep
  k_steps
  refine ⟨?_⟩
  (rename _ = [124, 33, 47, 115, 83, 40].getD (Int.toNat kind) 0 => e4); subst e4
  refine joinT (S "figures") (fun l => l = (if fault = 21 then 120 :: figs port else figs port) ∧ l.length ≤ 4) (by assumption) (by assumption) (fun jm' => ?j3) ?r3
  case j3 =>
    k_steps
    · (have h22 : fault = 21 := by omega); refine JoinT.stored ⟨?_, ?_⟩ (by assumption) (by assumption)
      · rw [if_pos h22]; assumption
      · (rename (List.length _ ≤ _) => hl'); exact Nat.le_trans hl' (by decide)
    · (have h22 : ¬ fault = 21 := by omega); refine JoinT.kept (by assumption) (by assumption) (by rfl) ⟨?_, ?_⟩
      · rw [if_neg h22]
      · exact Nat.le_trans (figs_le hp) (by decide)
  case r3 =>
  rintro h4 tk4 tn4 fg ⟨hfg, hfgl⟩ F4 N4
  k_sweep
  k_steps
  refine ⟨?_⟩
  refine joinI (S "ahead") (fun n => n = ((aheadOf kind fault : Nat) : Int)) (by assumption) (by assumption) (fun jm' => ?j4) ?r4
  case j4 =>
    k_steps
    · (have h22 : fault = 20 := by omega); refine JoinI.stored ?_ (by assumption) (by (first | assumption | ((rename News _ _ _ _ => nX); repeat' (first | (intro p hp; refine nX p ?_; (repeat (first | exact hp | apply List.Mem.tail)); done) | refine news_cons (nX _ (by (repeat (first | (exact List.Mem.head _; done) | refine List.Mem.tail _ ?_)))) ?_))))
      unfold aheadOf
      rw [if_pos h22]
      exact ahead_menu kind
    · (have h22 : ¬ fault = 20 := by omega); refine JoinI.kept (by assumption) (by assumption) (by rfl) ?_
      unfold aheadOf
      rw [if_neg h22]
      rfl
  case r4 =>
  rintro h5 tk5 tn5 ah hah F5 N5
  have ha4 : 0 ≤ ah ∧ ah ≤ 4 := by
    subst hah
    have := aheadOf_le kind fault
    omega
  k_sweep
  k_steps
  refine ⟨?_⟩
  rename_i d1 e1 l1 _ _ d2 e2 l2 _ _ d3 e3 l3 _ _ d4 e4 l4 _ _ d5 e5 l5 _ _ _
  have e5 : d5 = portedA kind fault fg := by
    subst hah e1 e2 e3 e4
    exact e5
  have l5 : d5.length ≤ 300 := Nat.le_trans l5 (by exact Nat.le_of_ble_eq_true rfl)
  clear e1 e2 e3 e4 l1 l2 l3 l4 hah
  refine joinT (S "ported") (fun l => l = (if fault = 17 then [50, 50, 56] ++ List.drop 3 d5 else d5) ∧ l.length ≤ 310) (by assumption) (by assumption) (fun jm' => ?j5) ?r5
  case j5 =>
    k_steps
    · (have h22 : fault = 17 := by omega); refine JoinT.stored ⟨?_, ?_⟩ (by assumption) (by assumption)
      · rw [if_pos h22]; assumption
      · (rename (List.length _ ≤ _) => hl'); exact Nat.le_trans hl' (by decide)
    · (have h22 : ¬ fault = 17 := by omega); refine JoinT.kept (by assumption) (by assumption) (by rfl) ⟨?_, ?_⟩
      · rw [if_neg h22]
      · exact Nat.le_trans l5 (by decide)
  case r5 =>
  rintro h6 tk6 tn6 q6 ⟨hq6, hl6⟩ F6 N6
  k_sweep
  k_steps
  refine ⟨?_⟩
  refine joinT (S "ported") (fun l => l = (if fault = 18 then (if kind % 2 = 1 then [50, 50, 57, 32, 103, 111, 32, 50] ++ fg ++ [50, 41] else List.take (q6.length - 1) q6 ++ [93]) else q6) ∧ l.length ≤ 320) (by assumption) (by assumption) (fun jm' => ?j6) ?r6
  case j6 =>
    k_steps
    · (have h22 : fault = 18 := by omega); (rename Int.fmod _ _ = _ => hm); rw [Int.fmod_eq_emod_of_nonneg _ (by decide)] at hm
      refine JoinT.stored2 ⟨?_, ?_⟩ (by assumption) (by assumption)
      · rw [if_pos h22, if_pos (by omega)]
        (rename _ = _ ++ [50, 41] => e2); (rename _ = _ ++ fg => e1); rw [e2, e1]
      · (rename (List.length _ ≤ _) => hl'); exact Nat.le_trans hl' (by decide)
    · (have h22 : fault = 18 := by omega); (rename ¬ Int.fmod _ _ = _ => hm); rw [Int.fmod_eq_emod_of_nonneg _ (by decide)] at hm
      refine JoinT.stored ⟨?_, ?_⟩ (by assumption) (by assumption)
      · rw [if_pos h22, if_neg (by omega)]; assumption
      · (rename (List.length _ ≤ _) => hl'); exact Nat.le_trans hl' (by decide)
    · (have h22 : ¬ fault = 18 := by omega); refine JoinT.kept (by assumption) (by assumption) (by rfl) ⟨?_, ?_⟩
      · rw [if_neg h22]
      · exact Nat.le_trans hl6 (by decide)
  case r6 =>
  rintro h7 tk7 tn7 q7 ⟨hq7, hl7⟩ F7 N7
  k_sweep
  k_steps
  refine ⟨?_⟩
  refine joinT (S "ported") (fun l => l = (if fault = 19 then List.take (q7.length - 1) q7 ++ [126, 41] else q7) ∧ l.length ≤ 330) (by assumption) (by assumption) (fun jm' => ?j7) ?r7
  case j7 =>
    k_steps
    · (have h22 : fault = 19 := by omega); refine JoinT.stored ⟨?_, ?_⟩ (by assumption) (by assumption)
      · rw [if_pos h22]; assumption
      · (rename (List.length _ ≤ _) => hl'); exact Nat.le_trans hl' (by decide)
    · (have h22 : ¬ fault = 19 := by omega); refine JoinT.kept (by assumption) (by assumption) (by rfl) ⟨?_, ?_⟩
      · rw [if_neg h22]
      · exact Nat.le_trans hl7 (by decide)
  case r7 =>
  rintro h8 tk8 tn8 q8 ⟨hq8, hl8⟩ F8 N8
  k_sweep
  k_steps
  refine hret _ _ _ _ _ _ _ _ ?_ ?_ ⟨⟨_, B⟩, by assumption, by assumption, by (first | assumption | ((rename News _ _ _ _ => nX); repeat' (first | (intro p hp; refine nX p ?_; (repeat (first | exact hp | apply List.Mem.tail)); done) | refine news_cons (nX _ (by (repeat (first | (exact List.Mem.head _; done) | refine List.Mem.tail _ ?_)))) ?_))), ⟨_, _, _, T⟩, hk⟩
  · subst hnm hsp
    exact hnd
  · subst hq8 hq7 hq6 e5 hfg
    rfl
end
end Mine
end
section
open PySem PySem.W PyProof.Rows PySem.Calls PySem.Spec PyProof.V
set_option maxRecDepth 100000
set_option maxHeartbeats 8000000
namespace Mine
theorem padC7n1 : True ∧ True := by walk1 <;> trivial
theorem fill7 (w : World) (h : Heap) : (KF w.params).In h → PySem.Challenge.rw_wf0102_01.prog = PySem.Challenge.rw_wf0102_01.prog := by
  k_fill
  intro _; rfl
theorem padC7n2 : True ∧ True := by walk1 <;> trivial
section
local macro_rules | `(tactic| walk_at $s:str) => if ["call builtin:str.find", "call builtin:str.split", "call type:int", "compareOp NotEq str str", "leaving ref", "subscriptTail Name BinOp str int"].contains s.getString then `(tactic| (refine Hold.put ?_)) else Lean.Macro.throwUnsupported
theorem p229A (l : List Nat) (t : Tok) (P : Addr) (news : List (Addr × Obj)) (hl : l.length ≤ 400) (h1 : l.take 3 ≠ [50, 50, 57]) (w : World) :
   Ctr w 82 [.str (tx l) t, .ref P] news 1 8 (fun _ R s _ E => ∀ e h' tk', R e (.ref 61) news h' → E (.ref e) { s with heap := h', toks := tk' }) := by
  intro dp un gd cn cs a0 ccd cl base outer h₀ L m s Q E W hd hu hend
  obtain ⟨⟨A₀, B⟩, F, X, N, ⟨mean, mg, mb, T⟩, hk⟩ := W
  refine wpAny_call ?_
  k_dflt cell_enter
  k_steps
  refine ⟨?_⟩
  refine neT (sl_to (tx_cps _) (by decide)) lt0 (by exact h1) ?_
  k_steps
  refine ⟨?_⟩
  ((refine leave_raiseS (by assumption) (by assumption) (by assumption) (by assumption) ?_))
  intro h' t' S' R' U'
  exact hend _ _ _ ⟨_, by assumption, U', lessSN S'.toSN (by ((repeat' (first | (intro p hp; (repeat (first | exact hp | apply List.Mem.tail)); done) | refine sub_cons (by (repeat (first | (exact List.Mem.head _; done) | refine List.Mem.tail _ ?_))) ?_))))⟩
theorem p229B (l : List Nat) (t : Tok) (P : Addr) (news : List (Addr × Obj)) (hl : l.length ≤ 400) (h1 : l.take 3 = [50, 50, 57]) (h2 : 40 ∉ l) (w : World) :
   Ctr w 82 [.str (tx l) t, .ref P] news 1 8 (fun _ R s _ E => ∀ e h' tk', R e (.ref 73) news h' → E (.ref e) { s with heap := h', toks := tk' }) := by
  intro dp un gd cn cs a0 ccd cl base outer h₀ L m s Q E W hd hu hend
  obtain ⟨⟨A₀, B⟩, F, X, N, ⟨mean, mg, mb, T⟩, hk⟩ := W
  refine wpAny_call ?_
  k_dflt cell_enter
  k_steps
  refine ⟨?_⟩
  refine neF (sl_to (tx_cps _) (by decide)) lt0 (by exact h1) ?_
  k_steps
  refine ⟨?_⟩
  refine findR (fOpenNo h2) ?_
  intro _ _
  k_steps
  refine ⟨?_⟩
  ((refine leave_raiseS (by assumption) (by assumption) (by assumption) (by assumption) ?_))
  intro h' t' S' R' U'
  exact hend _ _ _ ⟨_, by assumption, U', lessSN S'.toSN (by ((repeat' (first | (intro p hp; (repeat (first | exact hp | apply List.Mem.tail)); done) | refine sub_cons (by (repeat (first | (exact List.Mem.head _; done) | refine List.Mem.tail _ ?_))) ?_))))⟩
theorem p229C (p q : List Nat) (t : Tok) (P : Addr) (news : List (Addr × Obj)) (hl : (p ++ 40 :: q).length ≤ 400) (h1 : (p ++ 40 :: q).take 3 = [50, 50, 57]) (h2 : 40 ∉ p) (h3 : 41 ∉ q) (w : World) :
   Ctr w 82 [.str (tx (p ++ 40 :: q)) t, .ref P] news 1 8 (fun _ R s _ E => ∀ e h' tk', R e (.ref 73) news h' → E (.ref e) { s with heap := h', toks := tk' }) := by
  intro dp un gd cn cs a0 ccd cl base outer h₀ L m s Q E W hd hu hend
  obtain ⟨⟨A₀, B⟩, F, X, N, ⟨mean, mg, mb, T⟩, hk⟩ := W
  refine wpAny_call ?_
  k_dflt cell_enter
  k_steps
  refine ⟨?_⟩
  refine neF (sl_to (tx_cps _) (by decide)) lt0 (by exact h1) ?_
  k_steps
  refine ⟨?_⟩
  refine findR (fOpen h2) ?_
  intro _ _
  k_steps
  refine ⟨?_⟩
  refine find3R (fShutNo h3) ?_
  intro _ _
  k_steps
  refine ⟨?_⟩
  ((refine leave_raiseS (by assumption) (by assumption) (by assumption) (by assumption) ?_))
  intro h' t' S' R' U'
  exact hend _ _ _ ⟨_, by assumption, U', lessSN S'.toSN (by ((repeat' (first | (intro p hp; (repeat (first | exact hp | apply List.Mem.tail)); done) | refine sub_cons (by (repeat (first | (exact List.Mem.head _; done) | refine List.Mem.tail _ ?_))) ?_))))⟩
theorem p229D (p a q : List Nat) (t : Tok) (P : Addr) (news : List (Addr × Obj)) (hl : (p ++ 40 :: (a ++ 41 :: q)).length ≤ 400) (h1 : (p ++ 40 :: (a ++ 41 :: q)).take 3 = [50, 50, 57]) (h2 : 40 ∉ p) (h3 : 41 ∉ a) (h4 : a ≠ []) (ha : a.length ≤ 400) (h5 : a.getD 0 0 ≠ a.getD (a.length - 1) 0) (_d0 : True) (_d1 : True) (_d2 : True) (_d3 : True) (_d4 : True) (_d5 : True) (_d6 : True) (_d7 : True) (w : World) :
   Ctr w 82 [.str (tx (p ++ 40 :: (a ++ 41 :: q))) t, .ref P] news 1 8 (fun _ R s _ E => ∀ e h' tk', R e (.ref 73) news h' → E (.ref e) { s with heap := h', toks := tk' }) := by
  intro dp un gd cn cs a0 ccd cl base outer h₀ L m s Q E W hd hu hend
  obtain ⟨⟨A₀, B⟩, F, X, N, ⟨mean, mg, mb, T⟩, hk⟩ := W
  refine wpAny_call ?_
  k_dflt cell_enter
  k_steps
  refine ⟨?_⟩
  refine neF (sl_to (tx_cps _) (by decide)) lt0 (by exact h1) ?_
  k_steps
  refine ⟨?_⟩
  refine findR (fOpen h2) ?_
  intro _ _
  k_steps
  refine ⟨?_⟩
  refine find3R (fShut h3) ?_
  intro _ _
  k_steps
  refine ⟨?_⟩
  refine itemR (c := a.getD 0 0) (by omega) (by simp only [List.length_append, List.length_cons]; omega) (Nat.le_trans hl (by decide)) (getD_first h4) ?_
  intro _ _
  k_steps
  refine ⟨?_⟩
  refine itemR (c := a.getD (a.length - 1) 0) (by omega) (by simp only [List.length_append, List.length_cons]; omega) (Nat.le_trans hl (by decide)) (getD_last h4) ?_
  intro _ _
  k_steps
  refine ⟨?_⟩
  refine neT (tx_cps _) (tx_cps _) (fun e => h5 (List.cons.inj e).1) ?_
  k_steps
  refine ⟨?_⟩
  ((refine leave_raiseS (by assumption) (by assumption) (by assumption) (by assumption) ?_))
  intro h' t' S' R' U'
  exact hend _ _ _ ⟨_, by assumption, U', lessSN S'.toSN (by ((repeat' (first | (intro p hp; (repeat (first | exact hp | apply List.Mem.tail)); done) | refine sub_cons (by (repeat (first | (exact List.Mem.head _; done) | refine List.Mem.tail _ ?_))) ?_))))⟩
theorem p229E4 (u1 u2 u3 u4 p a q : List Nat) (t : Tok) (P : Addr) (news : List (Addr × Obj)) (hl : (p ++ 40 :: (a ++ 41 :: q)).length ≤ 400) (h1 : (p ++ 40 :: (a ++ 41 :: q)).take 3 = [50, 50, 57]) (h2 : 40 ∉ p) (h3 : 41 ∉ a) (h4 : a ≠ []) (ha : a.length ≤ 400) (h5 : a.getD 0 0 = a.getD (a.length - 1) 0) (h6 : (splitL (a.getD 0 0) a).map tx = [tx u1, tx u2, tx u3, tx u4]) (_d1 : True) (_d2 : True) (_d3 : True) (_d4 : True) (_d5 : True) (_d6 : True) (_d7 : True) (w : World) :
   Ctr w 82 [.str (tx (p ++ 40 :: (a ++ 41 :: q))) t, .ref P] news 1 8 (fun _ R s _ E => ∀ e h' tk', R e (.ref 73) news h' → E (.ref e) { s with heap := h', toks := tk' }) := by
  intro dp un gd cn cs a0 ccd cl base outer h₀ L m s Q E W hd hu hend
  obtain ⟨⟨A₀, B⟩, F, X, N, ⟨mean, mg, mb, T⟩, hk⟩ := W
  refine wpAny_call ?_
  k_dflt cell_enter
  k_steps
  refine ⟨?_⟩
  refine neF (sl_to (tx_cps _) (by decide)) lt0 (by exact h1) ?_
  k_steps
  refine ⟨?_⟩
  refine findR (fOpen h2) ?_
  intro _ _
  k_steps
  refine ⟨?_⟩
  refine find3R (fShut h3) ?_
  intro _ _
  k_steps
  refine ⟨?_⟩
  refine itemR (c := a.getD 0 0) (by omega) (by simp only [List.length_append, List.length_cons]; omega) (Nat.le_trans hl (by decide)) (getD_first h4) ?_
  intro _ _
  k_steps
  refine ⟨?_⟩
  refine itemR (c := a.getD (a.length - 1) 0) (by omega) (by simp only [List.length_append, List.length_cons]; omega) (Nat.le_trans hl (by decide)) (getD_last h4) ?_
  intro _ _
  k_steps
  refine ⟨?_⟩
  refine neF (tx_cps _) (tx_cps _) (congrArg (fun c => [c]) h5) ?_
  k_steps
  refine ⟨?_⟩
  refine itemR (c := a.getD 0 0) (by omega) (by simp only [List.length_append, List.length_cons]; omega) (Nat.le_trans hl (by decide)) (getD_first h4) ?_
  intro _ _
  k_steps
  refine ⟨?_⟩
  refine splitR (by assumption) (by assumption) (slice_mid rfl rfl) (Nat.le_trans ha (by decide)) ?_
  intro D vs h' k S F' N' l1
  rw [h6] at S
  obtain ⟨t1, t2, t3, t4, rfl⟩ := strs4 S
  (try k_lt l1)
  k_steps
  refine ⟨?_⟩
  ((refine leave_raiseS (by assumption) (by assumption) (by assumption) (by assumption) ?_))
  intro h' t' S' R' U'
  exact hend _ _ _ ⟨_, by assumption, U', lessSN S'.toSN (by ((repeat' (first | (intro p hp; (repeat (first | exact hp | apply List.Mem.tail)); done) | refine sub_cons (by (repeat (first | (exact List.Mem.head _; done) | refine List.Mem.tail _ ?_))) ?_))))⟩
theorem p229E6 (u1 u2 u3 u4 u5 u6 p a q : List Nat) (t : Tok) (P : Addr) (news : List (Addr × Obj)) (hl : (p ++ 40 :: (a ++ 41 :: q)).length ≤ 400) (h1 : (p ++ 40 :: (a ++ 41 :: q)).take 3 = [50, 50, 57]) (h2 : 40 ∉ p) (h3 : 41 ∉ a) (h4 : a ≠ []) (ha : a.length ≤ 400) (h5 : a.getD 0 0 = a.getD (a.length - 1) 0) (h6 : (splitL (a.getD 0 0) a).map tx = [tx u1, tx u2, tx u3, tx u4, tx u5, tx u6]) (_d1 : True) (_d2 : True) (_d3 : True) (_d4 : True) (_d5 : True) (_d6 : True) (_d7 : True) (w : World) :
   Ctr w 82 [.str (tx (p ++ 40 :: (a ++ 41 :: q))) t, .ref P] news 1 8 (fun _ R s _ E => ∀ e h' tk', R e (.ref 73) news h' → E (.ref e) { s with heap := h', toks := tk' }) := by
  intro dp un gd cn cs a0 ccd cl base outer h₀ L m s Q E W hd hu hend
  obtain ⟨⟨A₀, B⟩, F, X, N, ⟨mean, mg, mb, T⟩, hk⟩ := W
  refine wpAny_call ?_
  k_dflt cell_enter
  k_steps
  refine ⟨?_⟩
  refine neF (sl_to (tx_cps _) (by decide)) lt0 (by exact h1) ?_
  k_steps
  refine ⟨?_⟩
  refine findR (fOpen h2) ?_
  intro _ _
  k_steps
  refine ⟨?_⟩
  refine find3R (fShut h3) ?_
  intro _ _
  k_steps
  refine ⟨?_⟩
  refine itemR (c := a.getD 0 0) (by omega) (by simp only [List.length_append, List.length_cons]; omega) (Nat.le_trans hl (by decide)) (getD_first h4) ?_
  intro _ _
  k_steps
  refine ⟨?_⟩
  refine itemR (c := a.getD (a.length - 1) 0) (by omega) (by simp only [List.length_append, List.length_cons]; omega) (Nat.le_trans hl (by decide)) (getD_last h4) ?_
  intro _ _
  k_steps
  refine ⟨?_⟩
  refine neF (tx_cps _) (tx_cps _) (congrArg (fun c => [c]) h5) ?_
  k_steps
  refine ⟨?_⟩
  refine itemR (c := a.getD 0 0) (by omega) (by simp only [List.length_append, List.length_cons]; omega) (Nat.le_trans hl (by decide)) (getD_first h4) ?_
  intro _ _
  k_steps
  refine ⟨?_⟩
  refine splitR (by assumption) (by assumption) (slice_mid rfl rfl) (Nat.le_trans ha (by decide)) ?_
  intro D vs h' k S F' N' l1
  rw [h6] at S
  obtain ⟨t1, t2, t3, t4, t5, t6, rfl⟩ := strs6 S
  (try k_lt l1)
  k_steps
  refine ⟨?_⟩
  ((refine leave_raiseS (by assumption) (by assumption) (by assumption) (by assumption) ?_))
  intro h' t' S' R' U'
  exact hend _ _ _ ⟨_, by assumption, U', lessSN S'.toSN (by ((repeat' (first | (intro p hp; (repeat (first | exact hp | apply List.Mem.tail)); done) | refine sub_cons (by (repeat (first | (exact List.Mem.head _; done) | refine List.Mem.tail _ ?_))) ?_))))⟩
theorem p229G (u1 u2 u3 u4 u5 p a q : List Nat) (t : Tok) (P : Addr) (news : List (Addr × Obj)) (hl : (p ++ 40 :: (a ++ 41 :: q)).length ≤ 400) (h1 : (p ++ 40 :: (a ++ 41 :: q)).take 3 = [50, 50, 57]) (h2 : 40 ∉ p) (h3 : 41 ∉ a) (h4 : a ≠ []) (ha : a.length ≤ 400) (h5 : a.getD 0 0 = a.getD (a.length - 1) 0) (h6 : (splitL (a.getD 0 0) a).map tx = [tx u1, tx u2, tx u3, tx u4, tx u5]) (x : PySem.Str) (xt yt : Tok) (c : Nat) (n : Int) (hu4 : u4.length ≤ 400) (h7 : PySem.intText? (tx u4) = some n) (w : World) :
   Ctr w 82 [.str (tx (p ++ 40 :: (a ++ 41 :: q))) t, .ref P] ((P, { cls := .type "tuple", data := .seq #[.str x xt, .int 21 yt] c }) :: news) 1 8 (fun R _ s Q _ => ∀ T tb h' tk' k, R h' ((T, { cls := .type "tuple", data := .seq #[.str x xt, .int n tb] k }) :: (P, { cls := .type "tuple", data := .seq #[.str x xt, .int 21 yt] c }) :: news) → Q (.ref T) { s with heap := h', toks := tk' }) := by
  intro dp un gd cn cs a0 ccd cl base outer h₀ L m s Q E W hd hu hend
  obtain ⟨⟨A₀, B⟩, F, X, N, ⟨mean, mg, mb, T⟩, hk⟩ := W
  refine wpAny_call ?_
  k_dflt cell_enter
  k_steps
  refine ⟨?_⟩
  refine neF (sl_to (tx_cps _) (by decide)) lt0 (by exact h1) ?_
  k_steps
  refine ⟨?_⟩
  refine findR (fOpen h2) ?_
  intro _ _
  k_steps
  refine ⟨?_⟩
  refine find3R (fShut h3) ?_
  intro _ _
  k_steps
  refine ⟨?_⟩
  refine itemR (c := a.getD 0 0) (by omega) (by simp only [List.length_append, List.length_cons]; omega) (Nat.le_trans hl (by decide)) (getD_first h4) ?_
  intro _ _
  k_steps
  refine ⟨?_⟩
  refine itemR (c := a.getD (a.length - 1) 0) (by omega) (by simp only [List.length_append, List.length_cons]; omega) (Nat.le_trans hl (by decide)) (getD_last h4) ?_
  intro _ _
  k_steps
  refine ⟨?_⟩
  refine neF (tx_cps _) (tx_cps _) (congrArg (fun c => [c]) h5) ?_
  k_steps
  refine ⟨?_⟩
  refine itemR (c := a.getD 0 0) (by omega) (by simp only [List.length_append, List.length_cons]; omega) (Nat.le_trans hl (by decide)) (getD_first h4) ?_
  intro _ _
  k_steps
  refine ⟨?_⟩
  refine splitR (by assumption) (by assumption) (slice_mid rfl rfl) (Nat.le_trans ha (by decide)) ?_
  intro D vs h' k S F' N' l1
  rw [h6] at S
  obtain ⟨t1, t2, t3, t4, t5, rfl⟩ := strs5 S
  (try k_lt l1)
  k_steps
  refine ⟨?_⟩
  refine KIN.call_text h7 (by rw [tx_len]; exact Nat.le_trans hu4 (by decide)) ?_
  k_steps
  exact hend _ _ _ _ _ ⟨⟨_, B⟩, by assumption, by assumption, by (first | assumption | ((rename News _ _ _ _ => nX); repeat' (first | (intro p hp; refine nX p ?_; (repeat (first | exact hp | apply List.Mem.tail)); done) | refine news_cons (nX _ (by (repeat (first | (exact List.Mem.head _; done) | refine List.Mem.tail _ ?_)))) ?_))), ⟨_, _, _, T⟩, hk⟩
end
end Mine
end
section
open PySem PySem.W PyProof.Rows PySem.Calls PySem.Spec PyProof
namespace Mine
open LCg LCt
section
variable {prog : Program} {w : World} {A : Around} {E : Value → Shared → Prop} {s : Shared} {h₀ : Heap} {L : Addr} {m : PySem.Str → Option Value} {env : Env} {news : List (Addr × Obj)}
theorem compEnd_mono {m : PySem.Str → Option Value} {s₁ s₂ : Shared} {I C D : Addr} {oI oC oD : Obj} {S : List (Addr × Obj) → Prop} {r r' : Value → List (Addr × Obj) → Prop} {y : Value} (h : CompEnd h₀ L m s₁ I oI C oC D oD S r y s₂) (hr : ∀ y news, r y news → r' y news) :
    CompEnd h₀ L m s₁ I oI C oC D oD S r' y s₂ := by
  obtain ⟨h', tk, n', e, F, N, off, hS, q⟩ := h
  exact ⟨h', tk, n', e, F, N, off, hS, hr _ _ q⟩
/-- a comprehension with a test, by an invariant over the turns -/
theorem restT_inv {ct elt : PySem.Expr} {x : PySem.Str} {scope : Scope} {cl : List (PySem.Str × Addr)} {S : List (Addr × Obj) → Prop} {P : Nat → Value → Prop} {Fin : List Value → List (Addr × Obj) → Prop} {n : Nat} (J : Nat → List Value → List (Addr × Obj) → Prop)
    (turn : ∀ i ys news v I oI C oC D m₂ h tk (E' : Value → Shared → Prop), i < n → J i ys news → P i v → NsObj oC m₂ → m₂ x = some v → Fr h₀ L h m → News h₀ L h ((I, oI) :: (C, oC) :: (D, lst ys) :: news) → Off3 I C D news → ((@Ne Nat I C) ∧ (@Ne Nat I D) ∧ (@Ne Nat C D)) →
      wpAny (model prog w) A (isTrue ct (compEnvC scope cl C env) (eval ct (compEnvC scope cl C env))) (fun ok s' => if ok = true then
        wpAny (model prog w) A (eval elt (compEnvC scope cl C env)) (CompEnd h₀ L m { s with heap := h, toks := tk } I oI C oC D (lst ys) S (fun y news' => J (i + 1) (ys ++ [y]) news')) E' s'
        else CompEnd h₀ L m { s with heap := h, toks := tk } I oI C oC D (lst ys) S (fun _ news' => J (i + 1) ys news') Value.none s') E' { s with heap := h, toks := tk })
    (fin : ∀ ys news, J n ys news → Fin ys news) : ∀ k i ys news, k + i = n → J i ys news → CompRestT prog w A h₀ L m env ct elt x scope cl s S P Fin k i ys news := by
  intro k
  induction k with
  | zero =>
    intro i ys news e hJ
    have : i = n := by omega
    subst this
    exact fin ys news hJ
  | succ k ih =>
    intro i ys news e hJ
    refine CompRestT.succ ?_
    intro v I oI C oC D m₂ h tk E' hP hC hx F N off ne
    refine wpAny_mono (turn i ys news v I oI C oC D m₂ h tk E' (by omega) hJ hP hC hx F N off ne) (fun ok s' g => ?_) fun _ _ e => e
    cases ok with
    | true =>
      simp only [if_true] at g ⊢
      exact wpAny_mono g (fun y s'' q => compEnd_mono q fun y' n' j => ih (i + 1) _ _ (by omega) j) fun _ _ e => e
    | false =>
      simp only [Bool.false_eq_true, if_false] at g ⊢
      exact compEnd_mono g fun _ n' j => ih (i + 1) _ _ (by omega) j
/-- a comprehension without a test, by an invariant over the turns -/
theorem rest_inv {elt : PySem.Expr} {x : PySem.Str} {scope : Scope} {cl : List (PySem.Str × Addr)} {S : List (Addr × Obj) → Prop} {P : Nat → Value → Prop} {Fin : List Value → List (Addr × Obj) → Prop} {n : Nat} (J : Nat → List Value → List (Addr × Obj) → Prop)
    (turn : ∀ i ys news v I oI C oC D m₂ h tk (E' : Value → Shared → Prop), i < n → J i ys news → P i v → NsObj oC m₂ → m₂ x = some v → Fr h₀ L h m → News h₀ L h ((I, oI) :: (C, oC) :: (D, lst ys) :: news) → Off3 I C D news → ((@Ne Nat I C) ∧ (@Ne Nat I D) ∧ (@Ne Nat C D)) →
      wpAny (model prog w) A (eval elt (compEnvC scope cl C env)) (CompEnd h₀ L m { s with heap := h, toks := tk } I oI C oC D (lst ys) S (fun y news' => J (i + 1) (ys ++ [y]) news')) E' { s with heap := h, toks := tk })
    (fin : ∀ ys news, J n ys news → Fin ys news) : ∀ k i ys news, k + i = n → J i ys news → CompRest prog w A h₀ L m env elt x scope cl s S P Fin k i ys news := by
  intro k
  induction k with
  | zero =>
    intro i ys news e hJ
    have : i = n := by omega
    subst this
    exact fin ys news hJ
  | succ k ih =>
    intro i ys news e hJ
    refine CompRest.succ ?_
    intro v I oI C oC D m₂ h tk E' hP hC hx F N off ne
    exact wpAny_mono (turn i ys news v I oI C oC D m₂ h tk E' (by omega) hJ hP hC hx F N off ne) (fun y s'' q => compEnd_mono q fun y' n' j => ih (i + 1) _ _ (by omega) j) fun _ _ e => e
noncomputable def SrcS (prog : Program) (w : World) (A : Around) (h₀ : Heap) (L : Addr) (m : PySem.Str → Option Value) (env : Env) (ct elt : PySem.Expr) (x : PySem.Str) (scope : Scope) (cl : List (PySem.Str × Addr)) (Fin : Shared → List Value → List (Addr × Obj) → Prop) (xv : Value) (s₁ : Shared) : Prop :=
  ∃ y t news, xv = .str y t ∧ A.handled = none ∧ Fr h₀ L s₁.heap m ∧ News h₀ L s₁.heap news ∧ y.cps.size ≤ sizeLine ∧
    ∀ s₂ : Shared, (∃ h, s₂ = { s₁ with heap := h }) → CompRestT prog w A h₀ L m env ct elt x scope cl s₂ (fun _ => True) (SignAt y) (Fin s₂) y.cps.size 0 [] news
theorem ListComp_S {ct elt iter : PySem.Expr} {x : PySem.Str} {px : Pos} {scope : Scope} {cl : List (PySem.Str × Addr)} {pos : Pos} {Q : Value → Shared → Prop} (F₀ : Fr h₀ L s.heap m)
    (hclos : closureFor scope env = pure cl) (hcell : ∀ y ∈ scope.names, y.2 ≠ .cell) (hkind : scope.kind = .function)
    (hnames : ∀ y ∈ scope.names, y.2 = .local → scope.names.lookup y.1 = some .local) (hx : scope.names.lookup x = some .local)
    (h : wpAny (model prog w) A (eval iter env) (SrcS prog w A h₀ L m env ct elt x scope cl (fun s₂ => FinE h₀ L m s₂ Q)) E s)
    (hs : ∀ x, foldedSetIterable iter env x = pure x := by intro _; rfl) :
    wpAny (model prog w) A (eval (.ListComp elt [⟨.Name x px, iter, [ct], 0⟩] scope pos) env) Q E s := by
  rw [eval_ListComp]
  refine wpAny_comprehension_free (use := none) rfl hs hclos hkind hnames (wpAny_mono h (fun xv s₁ h₁ => ?_) fun _ _ e => e)
  obtain ⟨y, t, news, rfl, hh, F, N, hsz, R⟩ := h₁
  have key : ∀ (ty : String) (o : Obj), o = { cls := .type ty, data := .fields #[.str y t, .int 0 0] } → Walks prog w A s₁.heap.objs.size [s₁.heap.objs.size] [s₁.heap.objs.size] y.cps.size (SignAt y) (fun i h => h.IsStrIter s₁.heap.objs.size ty y t i) →
      wpAny (model prog w) A (newList []) (fun acc s₃ => wpAny (model prog w) A (newFunctionEnv scope env.globals cl [] env.qual none .none (some env)) (fun cenv s₄ =>
        codeAny (model prog w) A (.compStart (.ListComp elt [⟨.Name x px, iter, [ct], 0⟩] scope pos) 0 (.ref s₁.heap.objs.size) acc { cenv with scope := relabel scope env }) (compPost (model prog w) A E none Q acc cenv.locals) s₄) E s₃) E { s₁ with heap := s₁.heap.push o } := by
    rintro ty o rfl W
    refine block_T (RR := fun acc C => compPost (model prog w) A E none Q acc C) W hsz (fun i h st => by obtain ⟨o, e, _⟩ := st; exact ⟨o, e⟩) (fun i h h' o nw st e1 e2 _ _ _ => ?_) hcell hkind hx ⟨_, Heap.get?_push_size _ rfl, rfl, rfl⟩ (fun b hb => ?_)
      (F.keeps fun _ _ e => Heap.get?_push_of_some _ e) (N.grown fun _ _ e => Heap.get?_push_of_some _ e) (Nat.ne_of_lt F.ns.lt) (next_is_new F) (fun p hp => Nat.ne_of_lt (Heap.lt_size (N p hp).1)) trivial (R _ ⟨_, rfl⟩) ?_
    · obtain ⟨o', e', r⟩ := st
      rw [e1] at e'
      cases e'
      exact ⟨o, e2, r⟩
    · rw [List.mem_singleton.mp hb]
      show s₁.heap.objs.size < (s₁.heap.push _).objs.size
      rw [Heap.size_push]; exact Nat.lt_succ_self _
    · intro D C h tk m' ys news' F' N' o1 hn hC₀ hD₀ hCL hDL hCD offC fin
      refine ⟨m', hn, fun h'' hs'' => fin D h'' tk (F'.change hs'' hCL hC₀) (fun p hp => ?_) o1⟩
      refine ⟨hs''.extBut _ _ ?_ (N' p hp).1, (N' p hp).2⟩
      rcases List.mem_cons.mp hp with rfl | hp
      · exact Ne.symm hCD
      · exact offC p hp
  cases ha : y.cps.all (· < 128)
  · exact wpAny_pyIter_wide ha (key _ _ rfl (Walks.strWide hh _ y t))
  · exact wpAny_pyIter_ascii ha (key _ _ rfl (Walks.strAscii hh _ y t))
end
end Mine
end
section
open PySem PySem.W PyProof.Rows PySem.Calls PySem.Spec PyProof.V
set_option maxRecDepth 100000
set_option maxHeartbeats 8000000
namespace Mine
theorem padC8n1 : True ∧ True := by walk1 <;> trivial
theorem fill8 (w : World) (h : Heap) : (KF w.params).In h → PySem.Challenge.rw_wf0102_01.prog = PySem.Challenge.rw_wf0102_01.prog := by
  k_fill
  intro _; rfl
/-- a sign, as map_table_b3 folds it -/
noncomputable def b3L (c : Nat) : Nat := if c = 65 ∨ c = 66 ∨ c = 67 then c + 32 else if 120172 ≤ c then c - 120075 else c
noncomputable abbrev Sgn (c : Nat) : Prop := c = 34 ∨ c = 97 ∨ c = 98 ∨ c = 99 ∨ c = 65 ∨ c = 66 ∨ c = 67 ∨ c = 7 ∨ c = 120172 ∨ c = 120173 ∨ c = 120174
theorem lowAll : Txt.lower ⟨#[34]⟩ = tx [34] ∧ Txt.lower ⟨#[97]⟩ = tx [97] ∧ Txt.lower ⟨#[98]⟩ = tx [98] ∧ Txt.lower ⟨#[99]⟩ = tx [99] ∧ Txt.lower ⟨#[65]⟩ = tx [97] ∧ Txt.lower ⟨#[66]⟩ = tx [98] ∧ Txt.lower ⟨#[67]⟩ = tx [99] ∧ Txt.lower ⟨#[7]⟩ = tx [7] := by decide +kernel
theorem pMap (c : Nat) (t : Tok) (news : List (Addr × Obj)) (hc : Sgn c) (w : World) :
   Ctr w 153 [.str ⟨#[c]⟩ t] news 1 8 (fun R _ s Q _ => ∀ t' h' tk', R h' news → Q (.str (tx [b3L c]) t') { s with heap := h', toks := tk' }) := by
  have hl := b3Of_low w.params
  have hu := b3Of_up w.params
  have lo := lowAll
  have low : ∀ k, b3Of w.params c = .none → Txt.lower ⟨#[c]⟩ = tx [k] → b3L c = k → _ := fun k h1 h2 h3 => by
    have := pMapLow (w := w) c t news h1
    rw [h2, ← h3] at this
    exact this
  have up : ∀ k y, b3Of w.params c = .str y → y = tx [k] → b3L c = k → _ := fun k y h1 h2 h3 => by
    have := pMapUp (w := w) c y t news h1
    rw [h2, ← h3] at this
    exact this
  rcases hc with rfl | rfl | rfl | rfl | rfl | rfl | rfl | rfl | rfl | rfl | rfl
  · exact low 34 hl.1 lo.1 rfl
  · exact low 97 hl.2.1 lo.2.1 rfl
  · exact low 98 hl.2.2.1 lo.2.2.1 rfl
  · exact low 99 hl.2.2.2.1 lo.2.2.2.1 rfl
  · exact low 97 hl.2.2.2.2.1 lo.2.2.2.2.1 rfl
  · exact low 98 hl.2.2.2.2.2.1 lo.2.2.2.2.2.1 rfl
  · exact low 99 hl.2.2.2.2.2.2.1 lo.2.2.2.2.2.2.1 rfl
  · exact low 7 hl.2.2.2.2.2.2.2 lo.2.2.2.2.2.2.2 rfl
  · exact up 97 _ hu.1 (by decide) rfl
  · exact up 98 _ hu.2.1 (by decide) rfl
  · exact up 99 _ hu.2.2 (by decide) rfl
/-- a text, as _law_prepared gives it -/
noncomputable def prepL (l : List Nat) : List Nat := (l.filter fun (c : Nat) => !inB1 (c : Int)).map b3L
theorem join_nil_cps : ∀ parts : List PySem.Str, (PySem.Str.join (PySem.Str.ofString "") parts).cps.toList = (parts.map fun p => p.cps.toList).flatten
  | [] => by decide
  | [p] => by show p.cps.toList = _; simp
  | p :: q :: r => by
    rw [join_cps, join_nil_cps (q :: r)]
    have : (PySem.Str.ofString "").cps.toList = [] := by decide
    rw [this, List.nil_append]
    simp only [List.map_cons, List.flatten_cons]
theorem join_prep (l : List Nat) : Txt.join (PySem.Str.ofString "") (l.map fun c => tx [b3L c]) = tx (l.map b3L) := by
  refine tx_of ?_
  show (Builtin.Str.glued (PySem.Str.ofString "") _).cps.toList = _
  rw [StrLaws.glued_eq_join, join_nil_cps, List.map_map]
  induction l with
  | nil => rfl
  | cons c r ih => rw [List.map_cons, List.flatten_cons, ih]; rfl
theorem padC8n2 : True ∧ True := by walk1 <;> trivial
section
local macro_rules | `(tactic| walk_at $s:str) => if ["call ref", "eval ListComp", "SrcS", "CompEnd", "call builtin:str.join"].contains s.getString then `(tactic| (refine Hold.put ?_)) else Lean.Macro.throwUnsupported
theorem pPrep (l : List Nat) (t : Tok) (news : List (Addr × Obj)) (hl : l.length ≤ 10) (hs : ∀ c ∈ l, c = 173 ∨ Sgn c) (w : World) :
   Ctr w 323 [.str (tx l) t] news 2 16 (fun R _ s Q _ => ∀ t' h' tk', R h' news → Q (.str (tx (prepL l)) t') { s with heap := h', toks := tk' }) := by
  intro dp un gd cn cs a0 ccd cl base outer h₀ L m s Q E W hd hu hend
  obtain ⟨⟨A₀, B⟩, F, X, N, ⟨mean, mg, mb, T⟩, hk⟩ := W
  refine wpAny_call ?_
  k_dflt cell_enter
  k_steps
  refine ⟨?_⟩
  refine ListComp_S (by assumption) (by with_unfolding_all rfl) (by decide) (by rfl) (by decide) (by rfl) ?_
  k_steps
  refine ⟨?_⟩
  refine ⟨tx l, _, news, rfl, rfl, by assumption, by assumption, by (rw [sizeLine_eq]; have := tx_len l; unfold PySem.Str.length at this; omega), ?_⟩
  rintro _ ⟨g2, rfl⟩
  have hn : (tx l).cps.size = l.length := tx_len l
  rw [hn]
  refine restT_inv (fun i ys n => n = news ∧ StrsAre ys (((l.take i).filter fun (c : Nat) => !inB1 (c : Int)).map fun c => tx [b3L c])) ?turn ?fin l.length 0 [] news rfl ⟨rfl, .nil⟩
  case turn =>
    rintro i ys _ _ I oI C oC D m₂ h tk E' hi ⟨rfl, hS⟩ ⟨c, u, hc, rfl⟩ hC hx F' N' off ne
    have hci : l[i]? = some c := by
      have : (tx l).cps[i]? = l[i]? := by simp [tx]
      rw [← this]; exact hc
    have htk : l.take (i + 1) = l.take i ++ [c] := by rw [List.take_add_one, hci]; rfl
    have hmem := hs c (List.mem_of_getElem? hci)
    k_steps
    refine ⟨?_⟩
    refine pIn (w := w) c u _ _ _ _ _ _ _ _ _ _ _ _ _ _ _ _ _ ⟨⟨_, by assumption⟩, by assumption, by assumption, by assumption, ⟨_, _, _, by assumption⟩, rfl⟩ ?hd ?hu ?ret
    case hd => (dsimp only [ktrTop]); first | exact lim2 hd rfl | omega
    case hu => (dsimp only [ktrTop]); first | exact lim2 hu rfl | omega
    rintro h2 tk2 ⟨_, F2, X2, N2, T2, _⟩
    cases hb : inB1 (c : Int)
    · k_steps
      refine ⟨?_⟩
      have hsg : Sgn c := hmem.resolve_left (by rintro rfl; exact absurd hb (by decide +kernel))
      refine pMap (w := w) c u _ hsg _ _ _ _ _ _ _ _ _ _ _ _ _ _ _ _ ⟨⟨_, by assumption⟩, by assumption, by assumption, by assumption, ⟨_, _, _, by assumption⟩, rfl⟩ ?hd2 ?hu2 ?ret2
      case hd2 => (dsimp only [ktrTop]); first | exact lim2 hd rfl | omega
      case hu2 => (dsimp only [ktrTop]); first | exact lim2 hu rfl | omega
      rintro t3 h3 tk3 ⟨_, F3, X3, N3, T3, _⟩
      k_steps
      refine ⟨?_⟩
      refine ⟨_, _, _, rfl, F3, N3, off, trivial, rfl, ?_⟩
      rw [htk, List.filter_append, List.map_append]
      have : ([c].filter fun (c : Nat) => !inB1 (c : Int)) = [c] := by simp [hb]
      rw [this]
      exact KStt.strs_snoc hS
    · k_steps
      refine ⟨?_⟩
      refine ⟨_, _, _, rfl, F2, N2, off, trivial, rfl, ?_⟩
      rw [htk, List.filter_append, List.map_append]
      have : ([c].filter fun (c : Nat) => !inB1 (c : Int)) = [] := by simp [hb]
      rw [this, List.map_nil, List.append_nil]
      exact hS
  case fin =>
    rintro ys _ ⟨rfl, hS⟩ D h tk F' N' off
    rw [Nat.add_zero, List.take_length] at hS
    k_steps
    refine ⟨?_⟩
    have hsum : ((List.map (fun c => tx [b3L c]) (l.filter fun (c : Nat) => !inB1 (c : Int))).map (·.length)).sum ≤ 10 := by
      rw [List.map_map]
      have e : (List.map ((fun x => x.length) ∘ fun c => tx [b3L c]) (l.filter fun (c : Nat) => !inB1 (c : Int))) = List.replicate (l.filter fun (c : Nat) => !inB1 (c : Int)).length 1 := by
        rw [List.eq_replicate_iff]
        refine ⟨by rw [List.length_map], fun b hb => ?_⟩
        obtain ⟨c, _, rfl⟩ := List.mem_map.mp hb
        rfl
      rw [e, List.sum_replicate_nat, Nat.mul_one]
      exact Nat.le_trans (List.length_filter_le _ _) hl
    have hlen : (List.map (fun c => tx [b3L c]) (l.filter fun (c : Nat) => !inB1 (c : Int))).length ≤ 10 := by
      rw [List.length_map]
      exact Nat.le_trans (List.length_filter_le _ _) hl
    refine join_listC (News.isList N' (.head _)) hS (by decide) (by omega) ?_
    intro t2 k2
    rw [join_prep]
    k_steps
    exact hend _ _ _ ⟨⟨_, B⟩, by assumption, by assumption, by (first | assumption | ((rename News _ _ _ _ => nX); repeat' (first | (intro p hp; refine nX p ?_; (repeat (first | exact hp | apply List.Mem.tail)); done) | refine news_cons (nX _ (by (repeat (first | (exact List.Mem.head _; done) | refine List.Mem.tail _ ?_)))) ?_))), ⟨_, _, _, T⟩, hk⟩
end
end Mine
end
section
open PySem PySem.W PyProof.Rows PySem.Calls PySem.Spec PyProof
set_option maxRecDepth 100000
namespace Mine
open PySem.Sre
noncomputable def codeN : Array Nat := #[14, 10, 4, 1, 1, 22, 0, 31, 16, 127, 0, 13, 7, 22, 0, 31, 16, 127, 0, 1]
noncomputable def codeV : Array Nat := #[14, 14, 4, 1, 1, 9, 4294966783, 0, 0, 2147483648, 0, 0, 0, 0, 0, 13, 11, 9, 4294966783, 0, 0, 2147483648, 0, 0, 0, 0, 0, 1]
/-- the pattern's first set refuses the sign, whatever has been seen so far, and has then seen σ -/
noncomputable def Refuses (code : Array Nat) (σ₀ σ : Sre.Seen) (c : Nat) : Prop := inSet code c code.size 5 true σ₀ = .ok (false, σ) ∧ inSet code c code.size 5 true σ = .ok (false, σ)
theorem admitted_none {m : M} {σ₀ σ : Sre.Seen} (h : ∀ s, s < m.lim → Refuses m.code σ₀ σ (m.text.getD s 0)) : ∀ (fuel s : Nat) (τ : Sre.Seen), (τ = σ₀ ∨ τ = σ) → ∃ τ', M.admitted m fuel s τ = .ok (none, τ') := by
  intro fuel
  induction fuel with
  | zero => intro s τ _; exact ⟨τ, rfl⟩
  | succ n ih =>
    intro s τ hτ
    unfold M.admitted
    by_cases hs : s ≥ m.lim
    · rw [if_pos hs]; exact ⟨τ, rfl⟩
    · rw [if_neg hs]
      obtain ⟨h0, h1⟩ := h s (by omega)
      have e : inSet m.code (m.text.getD s 0) m.code.size 5 true τ = .ok (false, σ) := by
        rcases hτ with rfl | rfl
        · exact h0
        · exact h1
      rw [e]
      exact ih (s + 1) σ (.inr rfl)
/-- where a machine has said no and nothing waits -/
structure SaidNo (m : M) : Prop where
  answer : m.answer = some false
  frames : m.frames = []
  outcome : m.outcome = none
theorem from_no {m : M} {code : Array Nat} {σ₀ σ : Sre.Seen} (hc : m.code = code) (hf : ops[code.getD 0 0]? = some .INFO ∧ code.getD 2 0 = 4) (hs : m.seen = σ₀) (h1 : m.frames = []) (h2 : m.outcome = none)
    (h : ∀ s, s < m.lim → Refuses code σ₀ σ (m.text.getD s 0)) : SaidNo (m.attemptFrom 0 true) := by
  have hfs : m.hasFirstSet = true := by
    unfold M.hasFirstSet
    rw [hc, hf.1, hf.2]; rfl
  subst hc
  obtain ⟨τ', e⟩ := admitted_none h (m.lim + 1 - 0) 0 m.seen (.inl hs)
  unfold M.attemptFrom
  rw [hfs, e]
  exact ⟨rfl, h1, h2⟩
theorem getD_mem {text : Array Nat} {s : Nat} (h : s < text.size) : text.getD s 0 ∈ text.toList := by
  rw [Array.getD_eq_getD_getElem?, Array.getElem?_eq_getElem h]
  simp
theorem search_no {code text : Array Nat} {b : Nat} {σ₀ σ : Sre.Seen} (hh : header code = (1, b)) (hb : b ≠ 0) (hf : ops[code.getD 0 0]? = some .INFO ∧ code.getD 2 0 = 4) (hs : σ₀ = ({} : Sre.Seen).add 14) (h : ∀ c ∈ text.toList, Refuses code σ₀ σ c) :
    SaidNo (forSearch code text 0 0 text.size false) := by
  delta forSearch
  dsimp only
  split
  · exact ⟨rfl, rfl, rfl⟩
  · refine from_no (code := code) (σ₀ := σ₀) (σ := σ) rfl hf ?_ rfl rfl fun s hlt => h _ (getD_mem hlt)
    show (if ((header code).2 == 0) = true then ({} : Sre.Seen) else ({} : Sre.Seen).add 14) = σ₀
    rw [hh, hs, if_neg (by simpa using hb)]
theorem run_no {m : M} (h : SaidNo m) : (m.runFor 4).outcome = some .failed := by
  have h1 : m.step = { m with outcome := some .failed } := by
    unfold M.step
    rw [h.outcome, h.answer, h.frames]; rfl
  unfold M.runFor
  rw [h.outcome, h1]
  rfl
theorem refN : ∀ c ∈ [34, 97, 98, 99], Refuses codeN (({} : Sre.Seen).add 14) ⟨4276225, 0⟩ c := by
  intro c hc
  simp only [List.mem_cons, List.not_mem_nil, or_false] at hc
  rcases hc with rfl | rfl | rfl | rfl <;> exact ⟨by rfl, by rfl⟩
theorem refV : ∀ c ∈ [48, 49, 50, 51, 52, 53, 54, 55, 56, 57], Refuses codeV (({} : Sre.Seen).add 14) ⟨16897, 0⟩ c := by
  intro c hc
  simp only [List.mem_cons, List.not_mem_nil, or_false] at hc
  rcases hc with rfl | rfl | rfl | rfl | rfl | rfl | rfl | rfl | rfl | rfl <;> exact ⟨by rfl, by rfl⟩
theorem noN {text : Array Nat} (h : ∀ c ∈ text.toList, c ∈ [34, 97, 98, 99]) : SaidNo (forSearch codeN text 0 0 text.size false) :=
  search_no (b := 11) rfl (by decide) ⟨rfl, rfl⟩ rfl fun c hc => refN c (h c hc)
theorem noV {text : Array Nat} (h : ∀ c ∈ text.toList, c ∈ [48, 49, 50, 51, 52, 53, 54, 55, 56, 57]) : SaidNo (forSearch codeV text 0 0 text.size false) :=
  search_no (b := 15) rfl (by decide) ⟨rfl, rfl⟩ rfl fun c hc => refV c (h c hc)
end Mine
end
section
open PySem PySem.W PyProof.Rows PySem.Calls PySem.Spec PyProof
set_option maxRecDepth 100000
set_option maxHeartbeats 4000000
namespace Mine
open PySem.Builtin.Re
theorem slot_search : Slot "re.Pattern" "search" "re.Pattern.search" :=
  .of (owner := "re.Pattern") (n := "search") (by rw [typeLookup_type, builtinLookup_eq_fast]; kernel_rfl) (by decide +kernel) (by decide +kernel) (by decide +kernel)
    (by first | exact .inl (by decide +kernel) | exact .inr (by decide +kernel)) (by rw [isSubtype_type]; kernel_rfl)
theorem entry_search : entryFor table "re.Pattern.search" = some Builtin.«re.Pattern.search» := entryFor_of_tree (by kernel_rfl)
theorem args_search (a b : Value) : argsOk "re.Pattern.search" ⟨[a, b], []⟩ := by unfold argsOk; kernel_rfl
theorem named1 (v : Value) : reNamed "re.Pattern.search" "search" ["string", "pos", "endpos"] 1 [v] [] = pure [some v, none, none] := by
  rfl
section
variable {prog : Program} {w : World} {A : Around} {E : Value → Shared → Prop} {s : Shared}
theorem wp_rules {Q : PUnit → Shared → Prop} {f : Nat → PUnit → Sem (ForInStep PUnit)} (hf : ∀ i (Q' : ForInStep PUnit → Shared → Prop), Q' (.yield ⟨⟩) s → wpAny (model prog w) A (f i ⟨⟩) Q' E s) (h : Q ⟨⟩ s) : ∀ l : List Nat, wpAny (model prog w) A (forIn l PUnit.unit f) Q E s
  | [] => wpAny_pure h
  | i :: r => by
    rw [List.forIn_cons]
    exact wpAny_bind (hf i _ (wp_rules hf h r))
theorem wp_drive {m : Sre.M} {Q : Sre.M → Shared → Prop} (hm : (m.runFor 4).outcome.isSome = true) (h : Q (m.runFor 4) s) : wpAny (model prog w) A (reDrive (2 ^ 64) m) Q E s := by
  show wpAny _ _ (reDrive (18446744073709551615 + 1) m) Q E s
  unfold reDrive
  dsimp only
  have e : (m.runFor reTurnSteps).outcome.isSome = true := hm
  rw [if_pos e]
  exact wpAny_pure h
theorem wp_toEnd {m : Sre.M} {Q : Option Sre.M → Shared → Prop} (hm : (m.runFor 4).outcome = some .failed) (h : Q none s) : wpAny (model prog w) A (reRunToEnd m) Q E s := by
  unfold reRunToEnd
  refine wpAny_bind (wp_drive (by rw [hm]; rfl) ?_)
  refine wpAny_bind (wp_rules (fun i Q' hq => ?_) ?_ _)
  · split
    · exact wpAny_bind (wpAny_rule (wpAny_pure hq))
    · exact wpAny_pure hq
  · rw [hm]
    exact wpAny_pure h
theorem wp_no {α : Type} {M : Model} {A : Around} {E : Value → Shared → Prop} {s : Shared} {Q : α → Shared → Prop} {c : Bool} {x y : Sem α} (e : c = false) (h : wpAny M A y Q E s) : wpAny M A (if c = true then x else y) Q E s := by
  rw [e, if_neg Bool.false_ne_true]; exact h
theorem back_code (code : List Nat) : ((code.map fun (n : Nat) => Value.int (n : Int) 0).toArray.map reRawOf).map (·.toNat) = code.toArray := by
  apply Array.toList_inj.mp
  simp only [Array.toList_map, List.map_map]
  exact (List.map_congr_left (g := fun x => x) fun c _ => Int.toNat_natCast c).trans (List.map_id' _)
theorem wp_target {a c : Addr} {x p : PySem.Str} {t tp tf : Tok} {code : List Nat} {k : Nat} {sl1 sl2 : Array (Option Value)} {Q : ReTarget → Shared → Prop}
    (ho : s.heap.get? a = some ⟨.type "re.Pattern", none, .fields #[.str p tp, .int 32 tf, .int 0 0, .none, .none, .ref c, .int 0 0], sl1⟩) (hc : s.heap.get? c = some ⟨.type "tuple", none, .seq (code.map fun (n : Nat) => Value.int (n : Int) 0).toArray k, sl2⟩)
    (hx : x.cps.size < 1000) (h : Q ⟨.ref a, .str x t, code.toArray, x.cps, 0, 0, 0, x.cps.size⟩ s) : wpAny (model prog w) A (reTarget "re.Pattern.search" "search" ⟨[.ref a, .str x t], []⟩) Q E s := by
  unfold reTarget
  dsimp only
  rw [named1]
  refine wpAny_bind (wpAny_pure ?_)
  dsimp only
  refine wpAny_bind (wpAny_pure ?_)
  refine wpAny_bind (wpAny_pure ?_)
  refine wpAny_bind (wpAny_fieldsOf ho rfl ?_)
  unfold reTextOf asStr?
  refine wpAny_bind (wpAny_bind (wpAny_pure (wpAny_pure ?_)))
  dsimp only
  refine wp_no (by rfl) (wp_no (by rfl) ?_)
  unfold reNoCollectionInside
  refine wpAny_bind ?_
  refine wp_no (by rfl) (wpAny_pure ?_)
  unfold reRawItems
  refine wpAny_bind (wpAny_bind (wpAny_seqItems hc rfl (wpAny_pure (wpAny_pure ?_))))
  have e1 : min (Int.toNat 0) x.cps.size = 0 := by show min 0 _ = 0; omega
  have e2 : min (Int.toNat (2 ^ 63 - 1)) x.cps.size = x.cps.size := by
    have e : Int.toNat (2 ^ 63 - 1) = 9223372036854775807 := by decide
    rw [e]; omega
  have e3 := back_code code
  show Q { pattern := .ref a, string := .str x t, code := ((code.map fun (n : Nat) => Value.int (n : Int) 0).toArray.map reRawOf).map (·.toNat), text := x.cps, kind := 0, groups := 0, pos := min (Int.toNat 0) x.cps.size, lim := min (Int.toNat (2 ^ 63 - 1)) x.cps.size } s
  rw [e1, e2, e3]
  exact h
theorem wp_search_none {a c : Addr} {x p : PySem.Str} {t tp tf : Tok} {code : List Nat} {k : Nat} {Q : Value → Shared → Prop} {sl1 sl2 : Array (Option Value)}
    (ho : s.heap.get? a = some ⟨.type "re.Pattern", none, .fields #[.str p tp, .int 32 tf, .int 0 0, .none, .none, .ref c, .int 0 0], sl1⟩) (hc : s.heap.get? c = some ⟨.type "tuple", none, .seq (code.map fun (n : Nat) => Value.int (n : Int) 0).toArray k, sl2⟩)
    (hx : x.cps.size < 1000) (hm : SaidNo (Sre.forSearch code.toArray x.cps 0 0 x.cps.size false)) (h : Q .none s) :
    wpAny (model prog w) A (call (.builtin "re.Pattern.search") [.ref a, .str x t]) Q E s := by
  refine wpAny_call_entry slot_search ⟨_, ho, rfl⟩ entry_search ?_ (args_search _ _)
  unfold Builtin.«re.Pattern.search»
  refine wpAny_bind (wp_target ho hc hx ?_)
  unfold reAnswer
  exact wpAny_bind (wp_toEnd (run_no hm) (wpAny_pure ⟨_, rfl, h⟩))
end
end Mine
end
section
open PySem PySem.W PyProof.Rows PySem.Calls PySem.Spec PyProof
set_option maxRecDepth 100000
set_option maxHeartbeats 4000000
namespace Mine
open PySem.Builtin.Re
noncomputable def ctl : List (List Nat) := [[97, 98, 7], [97, 34, 98, 7], [98, 34, 7], [99, 7]]
theorem run_yes : ∀ l ∈ ctl, ((Sre.forSearch codeN l.toArray 0 0 l.toArray.size false).runFor 4).outcome = some .matched := by
  intro l hl
  simp only [ctl, List.mem_cons, List.not_mem_nil, or_false] at hl
  rcases hl with rfl | rfl | rfl | rfl <;> rfl
theorem match_bool : typeLookup (.type "re.Match") "__bool__" = pure none := by rw [typeLookup_type, builtinLookup_eq_fast]; kernel_rfl
theorem match_len : typeLookup (.type "re.Match") "__len__" = pure none := by rw [typeLookup_type, builtinLookup_eq_fast]; kernel_rfl
section
variable {prog : Program} {w : World} {A : Around} {E : Value → Shared → Prop} {s : Shared}
theorem wp_toEnd_yes {m : Sre.M} {Q : Option Sre.M → Shared → Prop} (hm : (m.runFor 4).outcome = some .matched) (h : ∀ m', Q (some m') s) : wpAny (model prog w) A (reRunToEnd m) Q E s := by
  unfold reRunToEnd
  refine wpAny_bind (wp_drive (by rw [hm]; rfl) ?_)
  refine wpAny_bind (wp_rules (fun i Q' hq => ?_) ?_ _)
  · split
    · exact wpAny_bind (wpAny_rule (wpAny_pure hq))
    · exact wpAny_pure hq
  · rw [hm]
    exact wpAny_pure (h _)
theorem wp_search_some {h₀ : Heap} {L : Addr} {mm : PySem.Str → Option Value} {news : List (Addr × Obj)} {a c : Addr} {x p : PySem.Str} {t tp tf : Tok} {code : List Nat} {k : Nat} {Q : Value → Shared → Prop} {sl1 sl2 : Array (Option Value)} (F : Fr h₀ L s.heap mm) (N : News h₀ L s.heap news)
    (ho : s.heap.get? a = some ⟨.type "re.Pattern", none, .fields #[.str p tp, .int 32 tf, .int 0 0, .none, .none, .ref c, .int 0 0], sl1⟩) (hc : s.heap.get? c = some ⟨.type "tuple", none, .seq (code.map fun (n : Nat) => Value.int (n : Int) 0).toArray k, sl2⟩)
    (hx : x.cps.size < 1000) (hm : ((Sre.forSearch code.toArray x.cps 0 0 x.cps.size false).runFor 4).outcome = some .matched) (h : ∀ M h', Fr h₀ L h' mm → News h₀ L h' news → (∃ o, h'.get? M = some o ∧ o.cls = .type "re.Match") → Q (.ref M) { s with heap := h' }) :
    wpAny (model prog w) A (call (.builtin "re.Pattern.search") [.ref a, .str x t]) Q E s := by
  refine wpAny_call_entry slot_search ⟨_, ho, rfl⟩ entry_search ?_ (args_search _ _)
  unfold Builtin.«re.Pattern.search»
  refine wpAny_bind (wp_target ho hc hx ?_)
  unfold reAnswer
  refine wpAny_bind (wp_toEnd_yes hm fun m' => ?_)
  unfold reNewMatch
  dsimp only
  refine wpAny_bind (wpAny_bind ?_)
  unfold newTuple newFields
  refine (wpAny_newObj_type ?_ (by show (2 : Nat) ≤ sizeLine; rw [sizeLine_eq]; decide))
  refine wpAny_newObj_type ?_
  refine wpAny_pure ⟨_, rfl, ?_⟩
  exact h _ _ ((F.push _).push _) (fun p hp => ⟨Heap.get?_push_of_some _ (Heap.get?_push_of_some _ (N p hp).1), (N p hp).2⟩) ⟨_, Heap.get?_push_size _ rfl, rfl⟩
theorem truthy_match {a : Addr} {Q : Bool → Shared → Prop} (ho : ∃ o, s.heap.get? a = some o ∧ o.cls = .type "re.Match") (h : Q true s) : wpAny (model prog w) A (truthy (.ref a)) Q E s := by
  obtain ⟨o, ho, hc⟩ := ho
  have hT : s.TypeIs (.ref a) "re.Match" := ⟨o, ho, hc⟩
  unfold truthy
  refine wpAny_bind (wpAny_callSpecial?_none (name := PySem.Str.ofString "__bool__") hT match_bool ?_)
  refine wpAny_bind (wpAny_specialOf (name := PySem.Str.ofString "__len__") hT match_len ?_)
  exact wpAny_pure h
end
theorem plainAttrs_pat : PlainAttrs "re.Pattern" :=
  ⟨⟨"object.__getattribute__", by rw [typeLookup_type, builtinLookup_eq_fast]; kernel_rfl, by decide +kernel⟩, by rw [typeLookup_type, builtinLookup_eq_fast]; kernel_rfl⟩
theorem type_search : typeOf (.builtin "re.Pattern.search") = pure (.type "method_descriptor") := by show builtinType _ = _; rw [builtinType_eq_fast]; kernel_rfl
end Mine
end
section
open PySem PySem.W PyProof.Rows PySem.Calls PySem.Spec PyProof.V
set_option maxRecDepth 100000
set_option maxHeartbeats 8000000
namespace Mine
theorem padC9n1 : True ∧ True := by walk1 <;> trivial
theorem fill9 (w : World) (h : Heap) : (KF w.params).In h → PySem.Challenge.rw_wf0102_01.prog = PySem.Challenge.rw_wf0102_01.prog := by
  k_fill
  intro _; rfl
theorem get158 {P : Params} {h : Heap} (X : (KF P).In h) : h.get? 158 = some (o158_0 P) := X 158 _ (by kernel_rfl!)
theorem get157 {P : Params} {h : Heap} (X : (KF P).In h) : h.get? 157 = some (o157_0 P) := X 157 _ (by kernel_rfl!)
theorem get163 {P : Params} {h : Heap} (X : (KF P).In h) : h.get? 163 = some (o163_0 P) := X 163 _ (by kernel_rfl!)
theorem get162 {P : Params} {h : Heap} (X : (KF P).In h) : h.get? 162 = some (o162_0 P) := X 162 _ (by kernel_rfl!)
/-- as Ctr, with keyword arguments -/
noncomputable abbrev CtrK (w : World) (f : Addr) (vs : List Value) (kw : List (PySem.Str × Value)) (news : List (Addr × Obj)) (d u : Nat) (post : (Heap → List (Addr × Obj) → Prop) → (Addr → Value → List (Addr × Obj) → Heap → Prop) → Shared → (Value → Shared → Prop) → (Value → Shared → Prop) → Prop) : Prop :=
  ∀ (dp un : Nat) (gd : Option (List Code)) (cn : PySem.Str) (cs : Scope) (a : Addr) (ccd : Value) (cl : List (PySem.Str × Addr)) (base : Heap) (outer : List Env) (h₀ : Heap) (L : Addr) (m : PySem.Str → Option Value) (s : Shared) (Q E : Value → Shared → Prop),
    At w base cs L outer h₀ m news s.heap → dp + d < recursionLimit → un + u < cLine →
    post (fun h' news' => At w base cs L outer h₀ m news' h') (fun e c news' h' => Threw base outer h₀ L m (envX cn cs L a ccd cl) e c news' h') s Q E →
      wpAny (model PG w) (ktrTop dp un gd cn cs L a ccd cl outer) (call (.ref f) vs kw) Q E s
theorem padC9n2 : True ∧ True := by walk1 <;> trivial
section
local macro_rules | `(tactic| walk_at $s:str) => if ["getMethod ref", "leaving ref"].contains s.getString then `(tactic| (refine Hold.put ?_)) else Lean.Macro.throwUnsupported
theorem pConvN (x : PySem.Str) (t : Tok) (self : Value) (news : List (Addr × Obj)) (hx : ∀ c ∈ x.cps.toList, c ∈ [34, 97, 98, 99]) (hl : x.length ≤ 10) (w : World) :
   CtrK w 185 [self, .str x t] [(S "name", .bool true)] news 1 8 (fun R _ s Q _ => ∀ h' tk', R h' news → Q (.str x t) { s with heap := h', toks := tk' }) := by
  intro dp un gd cn cs a0 ccd cl base outer h₀ L m s Q E W hd hu hend
  obtain ⟨⟨A₀, B⟩, F, X, N, ⟨mean, mg, mb, T⟩, hk⟩ := W
  refine wpAny_call ?_
  k_dflt cell_enter
  have G : ∀ g, (KF w.params).In g → g.get? 158 = some (o158_0 w.params) ∧ g.get? 157 = some (o157_0 w.params) := fun g X => ⟨get158 X, get157 X⟩
  k_steps
  refine ⟨?_⟩
  refine getMethod_builtin ⟨_, (G _ (by k_in)).1, rfl⟩ plainAttrs_pat slot_search type_search (fun a e => by cases e; exact ⟨_, (G _ (by k_in)).1, rfl⟩) ?_
  k_steps
  refine wp_search_none (code := [14, 10, 4, 1, 1, 22, 0, 31, 16, 127, 0, 13, 7, 22, 0, 31, 16, 127, 0, 1]) (G _ (by k_in)).1 (G _ (by k_in)).2 (by show x.length < 1000; omega) (noN hx) ?_
  k_steps
  exact hend _ _ ⟨⟨_, B⟩, by assumption, by assumption, by (first | assumption | ((rename News _ _ _ _ => nX); repeat' (first | (intro p hp; refine nX p ?_; (repeat (first | exact hp | apply List.Mem.tail)); done) | refine news_cons (nX _ (by (repeat (first | (exact List.Mem.head _; done) | refine List.Mem.tail _ ?_)))) ?_))), ⟨_, _, _, T⟩, hk⟩
theorem pConvV (x : PySem.Str) (t : Tok) (self : Value) (news : List (Addr × Obj)) (hx : ∀ c ∈ x.cps.toList, c ∈ [48, 49, 50, 51, 52, 53, 54, 55, 56, 57]) (hl : x.length ≤ 10) (w : World) :
   CtrK w 185 [self, .str x t] [(S "name", .bool false)] news 1 8 (fun R _ s Q _ => ∀ h' tk', R h' news → Q (.str x t) { s with heap := h', toks := tk' }) := by
  intro dp un gd cn cs a0 ccd cl base outer h₀ L m s Q E W hd hu hend
  obtain ⟨⟨A₀, B⟩, F, X, N, ⟨mean, mg, mb, T⟩, hk⟩ := W
  refine wpAny_call ?_
  k_dflt cell_enter
  have G : ∀ g, (KF w.params).In g → g.get? 163 = some (o163_0 w.params) ∧ g.get? 162 = some (o162_0 w.params) := fun g X => ⟨get163 X, get162 X⟩
  k_steps
  refine ⟨?_⟩
  refine getMethod_builtin ⟨_, (G _ (by k_in)).1, rfl⟩ plainAttrs_pat slot_search type_search (fun a e => by cases e; exact ⟨_, (G _ (by k_in)).1, rfl⟩) ?_
  k_steps
  refine wp_search_none (code := [14, 14, 4, 1, 1, 9, 4294966783, 0, 0, 2147483648, 0, 0, 0, 0, 0, 13, 11, 9, 4294966783, 0, 0, 2147483648, 0, 0, 0, 0, 0, 1]) (G _ (by k_in)).1 (G _ (by k_in)).2 (by show x.length < 1000; omega) (noV hx) ?_
  k_steps
  exact hend _ _ ⟨⟨_, B⟩, by assumption, by assumption, by (first | assumption | ((rename News _ _ _ _ => nX); repeat' (first | (intro p hp; refine nX p ?_; (repeat (first | exact hp | apply List.Mem.tail)); done) | refine news_cons (nX _ (by (repeat (first | (exact List.Mem.head _; done) | refine List.Mem.tail _ ?_)))) ?_))), ⟨_, _, _, T⟩, hk⟩
theorem pConvX (l : List Nat) (t : Tok) (self : Value) (news : List (Addr × Obj)) (hx : l ∈ ctl) (w : World) :
   CtrK w 185 [self, .str (tx l) t] [(S "name", .bool true)] news 1 8 (fun _ R s _ E => ∀ e h' tk', R e (.type "ValueError") news h' → E (.ref e) { s with heap := h', toks := tk' }) := by
  intro dp un gd cn cs a0 ccd cl base outer h₀ L m s Q E W hd hu hend
  obtain ⟨⟨A₀, B⟩, F, X, N, ⟨mean, mg, mb, T⟩, hk⟩ := W
  refine wpAny_call ?_
  k_dflt cell_enter
  have G : ∀ g, (KF w.params).In g → g.get? 158 = some (o158_0 w.params) ∧ g.get? 157 = some (o157_0 w.params) := fun g X => ⟨get158 X, get157 X⟩
  k_steps
  refine ⟨?_⟩
  refine getMethod_builtin ⟨_, (G _ (by k_in)).1, rfl⟩ plainAttrs_pat slot_search type_search (fun a e => by cases e; exact ⟨_, (G _ (by k_in)).1, rfl⟩) ?_
  k_steps
  refine wp_search_some (code := [14, 10, 4, 1, 1, 22, 0, 31, 16, 127, 0, 13, 7, 22, 0, 31, 16, 127, 0, 1]) (by assumption) (by assumption) (G _ (by k_in)).1 (G _ (by k_in)).2 ?hs (run_yes l hx) ?_
  case hs => (show (tx l).length < 1000); rw [tx_len]; simp only [ctl, List.mem_cons, List.not_mem_nil, or_false] at hx; rcases hx with rfl | rfl | rfl | rfl <;> decide
  intro M h' F' N' hM
  k_steps
  refine truthy_match hM ?_
  k_steps
  refine ⟨?_⟩
  refine leave_raiseS (by assumption) (by first | assumption | exact Heap.MadeExc.of (by assumption)) (by assumption) (by assumption) ?_
  intro h' t' S' R' U'
  exact hend _ _ _ ⟨_, by assumption, U', lessSN S'.toSN (by ((repeat' (first | (intro p hp; (repeat (first | exact hp | apply List.Mem.tail)); done) | refine sub_cons (by (repeat (first | (exact List.Mem.head _; done) | refine List.Mem.tail _ ?_))) ?_))))⟩
end
end Mine
end
section
open PySem PySem.W PyProof.Rows PySem.Calls PySem.Spec PyProof
namespace Mine
/-- the end of a loop's turn: what holds then, or that the loop is left -/
noncomputable def ForEnd (h₀ : Heap) (L I : Addr) (oI : Obj) (J : (PySem.Str → Option Value) → List (Addr × Obj) → Prop) (s : Shared) (Q : Flow → Shared → Prop) (fl : Flow) (s' : Shared) : Prop :=
  match fl with
  | .ret v => Q (.ret v) s'
  | .brk => Q .next s'
  | _ => ∃ h' tk m' news', s' = { s with heap := h', toks := tk } ∧ Fr h₀ L h' m' ∧ News h₀ L h' ((I, oI) :: news') ∧ (∀ p ∈ news', p.1 ≠ I) ∧ J m' news'
noncomputable def NoRaise : Value → Shared → Prop := fun _ _ => False
theorem ne_objs {h₀ h : Heap} {L a b : Addr} {oa ob : Obj} {news : List (Addr × Obj)} (N : News h₀ L h news) (h1 : (a, oa) ∈ news) (h2 : (b, ob) ∈ news) (hc : oa.cls ≠ ob.cls) : a ≠ b := by
  rintro rfl
  have e1 := (N _ h1).1
  have e2 := (N _ h2).1
  rw [e1] at e2
  exact hc (congrArg Obj.cls (Option.some.inj e2))
section
variable {prog : Program} {w : World} {A : Around} {E : Value → Shared → Prop} {s : Shared} {h₀ : Heap} {env : Env}
theorem wp_owned {target : PySem.Expr} {I : Addr} {v : Value} {o : Obj} {Q : Unit → Shared → Prop} (ho : s.heap.get? I = some o) (hc : o.cls = .type "list_iterator") (h : Q () s) : wpAny (model prog w) A (letOwnedTupleGo target (.ref I) v) Q E s := by
  have main : wpAny (model prog w) A (do
      let (.ref r, .ref a) := ((.ref I, v) : Value × Value) | return
      let o ← load r
      match o.cls, o.data with
      | .type n, .fields vs =>
        if ["enumerate", "zip", "dict_itemiterator", "dict_reverseitemiterator", "odict_iterator", "itertools.zip_longest", "itertools.pairwise"].contains n && vs[0]? == some (rawInt a) then
          rule "for.unpacks-the-owned-tuple"
          updateField r 0 .none
      | _, _ => pure ()) Q E s := by
    cases v with
    | ref a =>
      refine wpAny_bind (wpAny_load ho ?_)
      rw [hc]
      cases o.data <;> exact wpAny_pure h
    | _ => exact wpAny_pure h
  unfold letOwnedTupleGo
  split
  · exact main
  · exact main
  · exact wpAny_pure h
/-- how a for over a list stands between its turns -/
inductive FInv (its : Array Value) (h₀ : Heap) (Lc l I : Addr) (J : Nat → (PySem.Str → Option Value) → List (Addr × Obj) → Prop) (s₁ : Shared) (j : Nat) (s' : Shared) : Prop
  | mk (h' : Heap) (tk i : Nat) (m' : PySem.Str → Option Value) (news' : List (Addr × Obj)) : s' = { s₁ with heap := h', toks := tk } → i ≤ its.size → j = its.size - i → h'.IsListIter I l i → Fr h₀ Lc h' m' → News h₀ Lc h' news' → (∀ p ∈ news', p.1 ≠ I) → J i m' news' → FInv its h₀ Lc l I J s₁ j s'
/-- what a for over a list is owed where the list is known -/
inductive ForAt (prog : Program) (w : World) (A : Around) (h₀ : Heap) (env : Env) (target : PySem.Expr) (body : List Stmt) (Q : Flow → Shared → Prop) (xv : Value) (s : Shared) : Prop
  | mk (l : Addr) (its : Array Value) (k : Nat) (m₀ : PySem.Str → Option Value) (news : List (Addr × Obj)) (J : Nat → (PySem.Str → Option Value) → List (Addr × Obj) → Prop) : xv = .ref l → A.handled = none → Fr h₀ env.locals s.heap m₀ → News h₀ env.locals s.heap news → J 0 m₀ news →
    (∀ i m n, J i m n → (l, listOf its k) ∈ n) →
    (∀ i v m₁ news₁ h tk I oI, its[i]? = some v → J i m₁ news₁ → oI.cls = .type "list_iterator" → Fr h₀ env.locals h m₁ → News h₀ env.locals h ((I, oI) :: news₁) → (∀ p ∈ news₁, p.1 ≠ I) →
      wpAny (model prog w) A (assign target env v) (fun _ s₂ => wpAny (model prog w) A (execs body env) (ForEnd h₀ env.locals I oI (J (i + 1)) { s with heap := h, toks := tk } Q) NoRaise s₂) NoRaise { s with heap := h, toks := tk }) →
    (∀ m₁ news₁ h tk, J its.size m₁ news₁ → Fr h₀ env.locals h m₁ → News h₀ env.locals h news₁ → Q .next { s with heap := h, toks := tk }) → ForAt prog w A h₀ env target body Q xv s
theorem for_list {target iter : PySem.Expr} {pos : Pos} {body : List Stmt} {Q : Flow → Shared → Prop}
    (h : wpAny (model prog w) A (eval iter env) (ForAt prog w A h₀ env target body Q) E s)
    (hs : ∀ x, foldedSetIterable iter env x = pure x := by intro _; rfl) :
    wpAny (model prog w) A (exec (.For target iter body [] pos) env) Q E s := by
  refine wpAny_For (wpAny_mono h (fun xv s₁ h₁ => ?_) fun _ _ e => e) hs
  obtain ⟨l, its, k, m₀, news, J, rfl, hh, F, N, hJ, hlist, turn, done⟩ := h₁
  have hm := hlist _ _ _ hJ
  have hls : s₁.heap.IsList l its := ⟨_, (N _ hm).1, rfl, k, rfl⟩
  have hne : l ≠ s₁.heap.objs.size := Nat.ne_of_lt (Heap.lt_size (N _ hm).1)
  refine wpAny_pyIter_list hls ?_
  generalize hI : s₁.heap.objs.size = I at hne ⊢
  have hI₀ : h₀.get? I = none := by rw [← hI]; exact next_is_new F
  have hIL : env.locals ≠ I := by rw [← hI]; exact Nat.ne_of_lt F.ns.lt
  have hnews : ∀ p ∈ news, p.1 ≠ I := fun p hp => by rw [← hI]; exact Nat.ne_of_lt (Heap.lt_size (N p hp).1)
  refine codeAny_forLoop_any (fun j s' => FInv its h₀ env.locals l I J s₁ j s') ?_ its.size
    ⟨_, s₁.toks, 0, m₀, news, rfl, Nat.zero_le _, rfl, ⟨_, by rw [← hI]; exact Heap.get?_push_size _ rfl, rfl, rfl⟩, F.push _, (fun p hp => ⟨Heap.get?_push_of_some _ (N p hp).1, (N p hp).2⟩), hnews, hJ⟩
  rintro j s' ⟨h', tk, i, m', news', rfl, hi, rfl, hit, F', N', off, hJ'⟩
  have hm' := hlist _ _ _ hJ'
  have hls' : h'.IsList l its := ⟨_, (N' _ hm').1, rfl, k, rfl⟩
  by_cases hlt : i < its.size
  · have hx : its[i]? = some its[i] := by simp [hlt]
    refine wpAny_pyNext_list_item hit hls' hx fun h₂ hit₂ hs₂ => ?_
    obtain ⟨oI, hoI, hcI, hdI⟩ := id hit₂
    have F₂ : Fr h₀ env.locals h₂ m' := ⟨F'.ns.sameBut hs₂ hIL, fun b o e => (hs₂.2 b (fun q => by rw [q, hI₀] at e; cases e)).trans (F'.keep b o e), F'.above⟩
    have N₂ : News h₀ env.locals h₂ ((I, oI) :: news') := fun p hp => by
      rcases List.mem_cons.mp hp with rfl | hp
      · exact ⟨hoI, Ne.symm hIL, hI₀⟩
      · exact ⟨(hs₂.2 _ (off p hp)).trans (N' p hp).1, (N' p hp).2⟩
    refine wp_owned hoI hcI ?_
    refine wpAny_mono (turn i _ m' news' h₂ tk I oI hx hJ' hcI F₂ N₂ off) (fun _ s₂ h₂ => ?_) fun _ _ e => e.elim
    refine wpAny_mono h₂ (fun fl s₃ h₃ => ?_) fun _ _ e => e.elim
    have go : (∃ h' tk' m' news', s₃ = { s₁ with heap := h', toks := tk' } ∧ Fr h₀ env.locals h' m' ∧ News h₀ env.locals h' ((I, oI) :: news') ∧ (∀ p ∈ news', p.1 ≠ I) ∧ J (i + 1) m' news') → ∃ m, m < its.size - i ∧ FInv its h₀ env.locals l I J s₁ m s₃ := by
      rintro ⟨g₃, tk₃, m₃, n₃, rfl, F₃, N₃, off₃, J₃⟩
      exact ⟨its.size - (i + 1), by omega, g₃, tk₃, i + 1, m₃, n₃, rfl, hlt, rfl, ⟨oI, (N₃ _ (.head _)).1, hcI, hdI⟩, F₃, (fun p hp => N₃ p (.tail _ hp)), off₃, J₃⟩
    cases fl with
    | ret v => exact h₃
    | brk => exact h₃
    | next => exact go h₃
    | cont => exact go h₃
  · have e : i = its.size := by omega
    subst e
    refine wpAny_pyNext_list_end hh hit hls' (by simp) fun h₂ hs₂ => ?_
    have F₂ : Fr h₀ env.locals h₂ m' := ⟨F'.ns.at' fun o e => hs₂ _ o hIL e, fun b o e => hs₂ b o (fun q => by rw [q, hI₀] at e; cases e) (F'.keep b o e), F'.above⟩
    have N₂ : News h₀ env.locals h₂ news' := fun p hp => ⟨hs₂ _ _ (off p hp) (N' p hp).1, (N' p hp).2⟩
    exact wpAny_execs_nil (done m' news' h₂ tk hJ' F₂ N₂)
end
end Mine
end
section
open PySem PySem.W PyProof.Rows PySem.Calls PySem.Spec PyProof.V
set_option maxRecDepth 100000
namespace Mine
/-- the signs of the name with this number -/
noncomputable def nm (i : Nat) : List Nat := [[97, 98], [97, 34, 98], [98, 34], [99]].getD i []
theorem nm_of {i : Nat} (hi : i < 4) : (nameOf i).cps.toList = nm i := by
  obtain rfl | rfl | rfl | rfl := four hi
  all_goals decide
theorem nm_tx {i : Nat} (hi : i < 4) : nameOf i = tx (nm i) := tx_of (nm_of hi)
theorem nm_inj {i j : Nat} (hi : i < 4) (hj : j < 4) : nm i = nm j ↔ i = j := by
  obtain rfl | rfl | rfl | rfl := four hi
  all_goals (obtain rfl | rfl | rfl | rfl := four hj)
  all_goals decide
theorem nm_len {i : Nat} (hi : i < 4) : (nm i).length ≤ 3 := by
  obtain rfl | rfl | rfl | rfl := four hi
  all_goals decide
theorem nm_signs {i : Nat} (hi : i < 4) : ∀ c ∈ (tx (nm i)).cps.toList, c ∈ [34, 97, 98, 99] := by
  rw [tx_cps]
  obtain rfl | rfl | rfl | rfl := four hi
  all_goals decide
theorem nm_low {i : Nat} (hi : i < 4) : Txt.lower (tx (nm i)) = tx (nm i) := by
  obtain rfl | rfl | rfl | rfl := four hi
  all_goals decide +kernel
theorem ctl_low {l : List Nat} (h : l ∈ ctl) : Txt.lower (tx l) = tx l ∧ l.length ≤ 4 := by
  simp only [ctl, List.mem_cons, List.not_mem_nil, or_false] at h
  rcases h with rfl | rfl | rfl | rfl <;> exact ⟨by decide +kernel, by decide⟩
theorem ten_signs (c : Nat) (h1 : 48 ≤ c) (h2 : c ≤ 57) : c ∈ [48, 49, 50, 51, 52, 53, 54, 55, 56, 57] := by
  have h : ∀ k, k < 10 → 48 + k ∈ [48, 49, 50, 51, 52, 53, 54, 55, 56, 57] := by decide
  have h3 := h (c - 48) (by omega)
  rwa [Nat.add_sub_cancel' h1] at h3
theorem figs_signs (n : Nat) : ∀ c ∈ (tx (figs n)).cps.toList, c ∈ [48, 49, 50, 51, 52, 53, 54, 55, 56, 57] := by
  rw [tx_cps]
  intro c hc
  unfold figs at hc
  obtain ⟨ch, hch, rfl⟩ := List.mem_map.mp hc
  have := PyProof.Rows.digit_range (Nat.isDigit_of_mem_toDigits (by decide) (by decide) hch)
  exact ten_signs _ this.1 this.2
/-- a table's row as it lies -/
noncomputable abbrev rowO (r : Nat × Nat) (ta tb : Tok) (k : Nat) : Obj := { cls := .type "tuple", data := .seq #[.str (tx (nm r.1)) ta, .str (tx (figs r.2)) tb] k }
/-- the rows of a table, each a tuple of the ledger -/
inductive Rows (news : List (Addr × Obj)) : List Value → List (Nat × Nat) → Prop
  | nil : Rows news [] []
  | cons {T : Addr} {ta tb : Tok} {k : Nat} {vs : List Value} {r : Nat × Nat} {rs : List (Nat × Nat)} : (T, rowO r ta tb k) ∈ news → Rows news vs rs → Rows news (.ref T :: vs) (r :: rs)
theorem Rows.at {news : List (Addr × Obj)} : ∀ {vs : List Value} {rs : List (Nat × Nat)}, Rows news vs rs → ∀ {i : Nat} {v : Value}, vs[i]? = some v → ∃ T ta tb k r, v = .ref T ∧ rs[i]? = some r ∧ (T, rowO r ta tb k) ∈ news
  | _, _, .nil, i, v, h => by simp at h
  | _, _, .cons (T := T) (ta := ta) (tb := tb) (k := k) (r := r) hm _, 0, v, h => by
    simp at h
    exact ⟨T, ta, tb, k, r, h.symm, rfl, hm⟩
  | _, _, .cons _ q, i + 1, v, h => q.at (i := i) (by simpa using h)
theorem Rows.len {news : List (Addr × Obj)} : ∀ {vs : List Value} {rs : List (Nat × Nat)}, Rows news vs rs → vs.length = rs.length
  | _, _, .nil => rfl
  | _, _, .cons _ q => by rw [List.length_cons, List.length_cons, q.len]
theorem Rows.mono {news news' : List (Addr × Obj)} (hs : ∀ p ∈ news, p ∈ news') : ∀ {vs : List Value} {rs : List (Nat × Nat)}, Rows news vs rs → Rows news' vs rs
  | _, _, .nil => .nil
  | _, _, .cons hm q => .cons (hs _ hm) (q.mono hs)
theorem Rows.append {news : List (Addr × Obj)} : ∀ {vs vs' : List Value} {rs rs' : List (Nat × Nat)}, Rows news vs rs → Rows news vs' rs' → Rows news (vs ++ vs') (rs ++ rs')
  | _, _, _, _, .nil, h => h
  | _, _, _, _, .cons hm q, h => .cons hm (q.append h)
/-- the rows have names and ports that the law uses -/
noncomputable def RowsOk (rs : List (Nat × Nat)) : Prop := ∀ r ∈ rs, r.1 < 4 ∧ r.2 < 1000
section
variable {prog : Program} {w : World} {A : Around} {E : Value → Shared → Prop} {s : Shared} {t : Tok} {Q : Value → Shared → Prop}
theorem lowR {l : List Nat} (e : Txt.lower (tx l) = tx l) (hl : l.length ≤ 100) (h : ∀ t' k, Q (.str (tx l) t') { s with toks := k }) : wpAny (model prog w) A (call (.builtin "str.lower") [.str (tx l) t]) Q E s := by
  refine SCL.lower (by rw [tx_len]; omega) fun _ => ?_
  rw [e]
  exact h _ _
end
end Mine
end
section
open PySem PySem.W PyProof.Rows PySem.Calls PySem.Spec PyProof.V
set_option maxRecDepth 100000
set_option maxHeartbeats 8000000
namespace Mine
theorem padC10n1 : True ∧ True := by walk1 <;> trivial
theorem fill10 (w : World) (h : Heap) : (KF w.params).In h → PySem.Challenge.rw_wf0102_01.prog = PySem.Challenge.rw_wf0102_01.prog := by
  k_fill
  intro _; rfl
/-- the ledger with a table's own object, its dict and its list on top -/
noncomputable abbrev tabL (X dX Lt : Addr) (hh : Int) (tk : Tok) (e : Nat) (its : Array Value) (n : Nat) (news : List (Addr × Obj)) : List (Addr × Obj) :=
  (X, instObj 286 dX) :: (dX, dictOf [⟨hh, .str (S "_headers") tk, .ref Lt⟩] e) :: (Lt, listOf its n) :: news
/-- a frame with two names of its own ahead of the rest -/
noncomputable abbrev fr2 (x y : PySem.Str) (a b : Option Value) (m : PySem.Str → Option Value) : PySem.Str → Option Value := fun z => if z = x then a else if z = y then b else m z
theorem fr2_self (x y : PySem.Str) (m : PySem.Str → Option Value) : m = fr2 x y (m x) (m y) m := by
  funext z
  show m z = if z = x then m x else if z = y then m y else m z
  split
  · rename_i e; rw [e]
  · split
    · rename_i e; rw [e]
    · rfl
theorem fr2_set {x y : PySem.Str} {a b c d : Option Value} {m : PySem.Str → Option Value} : fr2 x y c d (fr2 x y a b m) = fr2 x y c d m := by
  funext z
  simp only [fr2]
  split
  · rfl
  · split <;> rfl
theorem Rows.isTup {h₀ h : Heap} {L : Addr} {news : List (Addr × Obj)} {T : Addr} {ta tb : Tok} {k : Nat} {r : Nat × Nat} (N : News h₀ L h news) (hm : (T, rowO r ta tb k) ∈ news) : IsTup h T #[.str (tx (nm r.1)) ta, .str (tx (figs r.2)) tb] := News.isTup N hm
theorem ForEnd.ret {h₀ : Heap} {L I : Addr} {oI : Obj} {J : (PySem.Str → Option Value) → List (Addr × Obj) → Prop} {s s' : Shared} {Q : Flow → Shared → Prop} {v : Value} (h : Q (.ret v) s') : ForEnd h₀ L I oI J s Q (.ret v) s' := h
theorem ForEnd.next {h₀ h' : Heap} {L I : Addr} {oI : Obj} {J : (PySem.Str → Option Value) → List (Addr × Obj) → Prop} {s : Shared} {Q : Flow → Shared → Prop} {tk : Nat} {m' : PySem.Str → Option Value} {news' : List (Addr × Obj)} (F : Fr h₀ L h' m') (N : News h₀ L h' ((I, oI) :: news')) (off : ∀ p ∈ news', p.1 ≠ I) (hJ : J m' news') : ForEnd h₀ L I oI J s Q .next { s with heap := h', toks := tk } := ⟨h', tk, m', news', rfl, F, N, off, hJ⟩
theorem lookup_none {rs : List (Nat × Nat)} {i : Nat} (h : ∀ r ∈ rs, r.1 ≠ i) : rs.lookup i = none := by
  induction rs with
  | nil => rfl
  | cons r rs ih =>
    obtain ⟨a, b⟩ := r
    have : (i == a) = false := by
      have := h (a, b) (.head _)
      simp only [beq_eq_false_iff_ne, ne_eq]
      exact fun e => this e.symm
    rw [List.lookup_cons, this]
    exact ih fun r hr => h r (.tail _ hr)
theorem lookup_at {rs : List (Nat × Nat)} {i j p : Nat} (h : ∀ r ∈ rs.take j, r.1 ≠ i) (hj : rs[j]? = some (i, p)) : rs.lookup i = some p := by
  induction rs generalizing j with
  | nil => simp at hj
  | cons r rs ih =>
    cases j with
    | zero =>
      obtain rfl : r = (i, p) := by simpa using hj
      rw [List.lookup_cons, beq_self_eq_true]
    | succ j =>
      obtain ⟨a, b⟩ := r
      have : (i == a) = false := by
        have := h (a, b) (.head _)
        simp only [beq_eq_false_iff_ne, ne_eq]
        exact fun e => this e.symm
      rw [List.lookup_cons, this]
      exact ih (fun r hr => h r (.tail _ hr)) (by simpa using hj)
theorem padC10n2 : True ∧ True := by walk1 <;> trivial
section
variable {prog : Program} {w : World} {A : Around} {E : Value → Shared → Prop} {s : Shared} {h₀ : Heap} {env : Env}
theorem for_listF {target iter : PySem.Expr} {pos : Pos} {body : List Stmt} {Q : Flow → Shared → Prop} {h' : Heap} {m : PySem.Str → Option Value} (_ : Fr h₀ env.locals h' m)
    (h : wpAny (model prog w) A (eval iter env) (ForAt prog w A h₀ env target body Q) E s)
    (hs : ∀ x, foldedSetIterable iter env x = pure x := by intro _; rfl) :
    wpAny (model prog w) A (exec (.For target iter body [] pos) env) Q E s := for_list h hs
end
theorem padC10n3 : True ∧ True := by walk1 <;> trivial
section
local macro_rules | `(tactic| walk_at $s:str) => if ["call ref", "exec For", "ForAt", "ForEnd", "leaving ref", "call builtin:str.lower", "compareOp Eq str str"].contains s.getString then `(tactic| (refine Hold.put ?_)) else Lean.Macro.throwUnsupported
theorem pGet (X1 dX Lt : Addr) (hh : Int) (th : Tok) (e : Nat) (its : List Value) (n : Nat) (rs : List (Nat × Nat)) (i : Nat) (t : Tok) (news : List (Addr × Obj)) (hi : i < 4) (hr : RowsOk rs) (R : Rows news its rs) (w : World) :
   Ctr w 233 [.ref X1, .str (tx (nm i)) t] (tabL X1 dX Lt hh th e its.toArray n news) 2 16 (fun R _ s Q _ => ∀ v h' tk', (match rs.lookup i with | some p => ∃ t', v = .str (tx (figs p)) t' | none => v = .none) → R h' (tabL X1 dX Lt hh th e its.toArray n news) → Q v { s with heap := h', toks := tk' }) := by
  intro dp un gd cn cs a0 ccd cl base outer h₀ L m s Q E W hd hu hend
  obtain ⟨⟨A₀, B⟩, F, X, N, ⟨mean, mg, mb, T⟩, hk⟩ := W
  refine wpAny_call ?_
  k_dflt (((refine' code_def ?k1 ?k2 ?k3 ?k4 ?k5 ?kA ?kF ?kK ?k6 ?k7 ?k8 ?k9 ?kB ?_ ?c2 ?c3 ?c4 ?c5; (case kA => exact rfl); (case kF => exact rfl); (case kK => assumption); (case k1 => k_asm); (case k2 => k_asm); (case k3 => k_asm); (case k4 => k_asm); (case k5 => k_asm); (case k6 => k_is); (case k7 => k_is); (case k8 => ktr_room); (case k9 => first | exact BindsTo.of_eq rfl | exact binds_K (by k_in) rfl (by k_is) rfl rfl rfl); (case c5 => decide); (case kB => exact locs rfl); (case c2 => exact rfl); (case c3 => exact rfl); (case c4 => exact rfl); k_whole; intro g' L' h' FG' F' N' B' X' T'; (try dsimp only); (try k_lift B'); (try k_fold))))
  k_steps
  refine ⟨?_⟩
  refine lowR (nm_low hi) (Nat.le_trans (nm_len hi) (by decide)) ?_
  intro _ _
  k_steps
  refine ⟨?_⟩
  refine pConvN (w := w) (tx (nm i)) _ _ _ (nm_signs hi) (by rw [tx_len]; exact Nat.le_trans (nm_len hi) (by decide)) _ _ _ _ _ _ _ _ _ _ _ _ _ _ _ _ ⟨⟨_, by assumption⟩, by assumption, by assumption, by assumption, ⟨_, _, _, by assumption⟩, rfl⟩ ?hd1 ?hu1 ?ret1
  case hd1 => (dsimp only [ktrTop]); first | exact lim2 hd rfl | omega
  case hu1 => (dsimp only [ktrTop]); first | exact lim2 hu rfl | omega
  rintro h2 tk2 ⟨_, F2, X2, N2, T2, _⟩
  k_steps
  refine ⟨?_⟩
  (rename Fr _ _ _ _ => Fx); refine for_listF Fx ?_
  k_steps
  refine ⟨?_⟩
  (rename Fr _ _ _ _ => Fy); (rename News _ _ _ _ => Ny)
  refine ⟨Lt, its.toArray, n, _, tabL X1 dX Lt hh th e its.toArray n news, fun j m' n' => (∃ a b, m' = fr2 (S "v") (S "k") a b _) ∧ n' = tabL X1 dX Lt hh th e its.toArray n news ∧ (∀ r ∈ rs.take j, r.1 ≠ i), rfl, rfl, Fy, Ny, ⟨⟨_, _, fr2_self _ _ _⟩, rfl, by simp⟩, ?hl, ?turn, ?done⟩
  case hl => rintro j m' n' ⟨_, rfl, _⟩; (repeat (first | (exact List.Mem.head _; done) | refine List.Mem.tail _ ?_))
  case turn =>
    intro j v m₁ news₁ h tk I oI hv hJ hoI F₃ N₃ off
    refine wpAny_cut ?_
    intro Q4 E4 cQ4 cE4
    obtain ⟨⟨a, b, rfl⟩, rfl, hno⟩ := hJ
    obtain ⟨T₁, ta, tb, kt, r, rfl, hrj, hT⟩ := R.at (by simpa using hv)
    have hTup := Rows.isTup N₃ (.tail _ (.tail _ (.tail _ (.tail _ hT))))
    k_steps
    refine cQ4.use ?_
    refine wpAny_cut ?_
    intro Q5 E5 cQ5 cE5
    k_steps
    refine ⟨?_⟩
    have hrk := hr r (List.mem_of_getElem? hrj)
    refine lowR (nm_low hrk.1) (Nat.le_trans (nm_len hrk.1) (by decide)) ?_
    intro _ _
    k_steps
    refine ⟨?_⟩
    have e1 : rs[j]? = some r := hrj
    by_cases hri : r.1 = i
    · refine eqT (by walk_at "mine txt") (by walk_at "mine txt") (by rw [hri]) ?_
      k_steps
      refine cQ5.use ?_
      k_steps
      refine ⟨?_⟩
      refine ForEnd.ret ?_
      k_steps
      refine hend _ _ _ ?_ ⟨⟨_, B⟩, by assumption, by assumption, by (first | assumption | ((rename News _ _ _ _ => nX); repeat' (first | (intro p hp; refine nX p ?_; (repeat (first | exact hp | apply List.Mem.tail)); done) | refine news_cons (nX _ (by (repeat (first | (exact List.Mem.head _; done) | refine List.Mem.tail _ ?_)))) ?_))), ⟨_, _, _, T⟩, hk⟩
      rw [lookup_at hno (by rw [e1, ← hri])]
      exact ⟨_, rfl⟩
    · refine eqF (by walk_at "mine txt") (by walk_at "mine txt") (by rw [Ne, nm_inj hrk.1 hi]; exact hri) ?_
      k_steps
      refine cQ5.use ?_
      k_steps
      refine ⟨?_⟩
      (rename Fr _ _ _ _ => Fz); (rename News _ _ _ _ => Nz)
      refine ForEnd.next Fz Nz off ⟨⟨_, _, fr2_set⟩, rfl, ?_⟩
      intro r' hr'
      rw [List.take_add_one, e1] at hr'
      rcases List.mem_append.mp hr' with h | h
      · exact hno r' h
      · obtain rfl : r' = r := by simpa using h
        exact hri
  case done =>
    rintro m₁ news₁ h tk ⟨⟨a, b, rfl⟩, rfl, hno⟩ F₃ N₃
    k_steps
    refine hend _ _ _ ?_ ⟨⟨_, B⟩, by assumption, by assumption, by (first | assumption | ((rename News _ _ _ _ => nX); repeat' (first | (intro p hp; refine nX p ?_; (repeat (first | exact hp | apply List.Mem.tail)); done) | refine news_cons (nX _ (by (repeat (first | (exact List.Mem.head _; done) | refine List.Mem.tail _ ?_)))) ?_))), ⟨_, _, _, T⟩, hk⟩
    rw [lookup_none (by rwa [List.size_toArray, R.len, List.take_length] at hno)]
theorem pGetX (X1 dX Lt : Addr) (hh : Int) (th : Tok) (e : Nat) (its : List Value) (n : Nat) (l : List Nat) (t : Tok) (news : List (Addr × Obj)) (hx : l ∈ ctl) (w : World) :
   Ctr w 233 [.ref X1, .str (tx l) t] (tabL X1 dX Lt hh th e its.toArray n news) 2 16 (fun _ R s _ E => ∀ e' h' tk', R e' (.type "ValueError") (tabL X1 dX Lt hh th e its.toArray n news) h' → E (.ref e') { s with heap := h', toks := tk' }) := by
  intro dp un gd cn cs a0 ccd cl base outer h₀ L m s Q E W hd hu hend
  obtain ⟨⟨A₀, B⟩, F, X, N, ⟨mean, mg, mb, T⟩, hk⟩ := W
  refine wpAny_call ?_
  k_dflt (((refine' code_def ?k1 ?k2 ?k3 ?k4 ?k5 ?kA ?kF ?kK ?k6 ?k7 ?k8 ?k9 ?kB ?_ ?c2 ?c3 ?c4 ?c5; (case kA => exact rfl); (case kF => exact rfl); (case kK => assumption); (case k1 => k_asm); (case k2 => k_asm); (case k3 => k_asm); (case k4 => k_asm); (case k5 => k_asm); (case k6 => k_is); (case k7 => k_is); (case k8 => ktr_room); (case k9 => first | exact BindsTo.of_eq rfl | exact binds_K (by k_in) rfl (by k_is) rfl rfl rfl); (case c5 => decide); (case kB => exact locs rfl); (case c2 => exact rfl); (case c3 => exact rfl); (case c4 => exact rfl); k_whole; intro g' L' h' FG' F' N' B' X' T'; (try dsimp only); (try k_lift B'); (try k_fold))))
  k_steps
  refine ⟨?_⟩
  refine lowR (ctl_low hx).1 (Nat.le_trans (ctl_low hx).2 (by decide)) ?_
  intro _ _
  k_steps
  refine ⟨?_⟩
  refine pConvX (w := w) l _ _ _ hx _ _ _ _ _ _ _ _ _ _ _ _ _ _ _ _ ⟨⟨_, by assumption⟩, by assumption, by assumption, by assumption, ⟨_, _, _, by assumption⟩, rfl⟩ ?hd1 ?hu1 ?ret1
  case hd1 => (dsimp only [ktrTop]); first | exact lim2 hd rfl | omega
  case hu1 => (dsimp only [ktrTop]); first | exact lim2 hu rfl | omega
  rintro e2 h2 tk2 ⟨G2, FG2, UG2, RG2⟩
  k_steps
  refine ⟨?_⟩
  refine leave_onSN (by assumption) FG2 RG2 UG2 ?_
  intro h' S' R' U'
  exact hend _ _ _ ⟨_, by assumption, U', lessSN S' (by ((repeat' (first | (intro p hp; (repeat (first | exact hp | apply List.Mem.tail)); done) | refine sub_cons (by (repeat (first | (exact List.Mem.head _; done) | refine List.Mem.tail _ ?_))) ?_))))⟩
end
end Mine
end
section
open PySem PySem.W PyProof.Rows PySem.Calls PySem.Spec PyProof
set_option maxRecDepth 100000
namespace Mine
section
variable {prog : Program} {w : World} {A : Around} {E : Value → Shared → Prop} {s : Shared}
/-- a whole list stored over from another -/
theorem setAll {l sl v : Addr} {items ws : Array Value} {n k : Nat} {Q : Unit → Shared → Prop}
    (ho : s.heap.get? l = some (listOf items n)) (hs : s.heap.IsSliceOf sl .none .none .none) (hv : s.heap.get? v = some (listOf ws k)) (hne : l ≠ v) (h1 : items.size ≤ 100) (h2 : ws.size ≤ 100)
    (h : ∀ h' n', h'.get? l = some (listOf ws n') → Heap.SameBut l s.heap h' → Q () { s with heap := h' }) :
    wpAny (model prog w) A (setItem (.ref l) (.ref sl) (.ref v)) Q E s := by
  have hl : s.heap.IsList l items := ⟨_, ho, rfl, n, rfl⟩
  have hlv : s.heap.IsList v ws := ⟨_, hv, rfl, k, rfl⟩
  obtain ⟨os, hos, hcs, hds⟩ := id hs
  have hTs : s.TypeIs (.ref sl) "slice" := ⟨os, hos, hcs⟩
  have S1 : 100 ≤ sizeLine := by rw [sizeLine_eq]; decide
  have S2 : 200 ≤ sizeLine := by rw [sizeLine_eq]; decide
  unfold setItem
  try with_reducible refine wpAny_holding ?_
  first | refine wpAny_bind (wpAny_pure ?_) | skip
  refine wpAny_bind (wpAny_sequenceKey hl.typeIs (by decide) ?_)
  refine wpAny_bind (wpAny_callSpecial?_slot (name := Str.ofString "__setitem__") hl.typeIs slot_list_setitem
    (wpAny_call_entry slot_list_setitem hl.typeIs entry_list_setitem ?_ (args_list_setitem _ _ _)))
  show wpAny _ _ (Builtin.List.listSubscript? (.ref sl) >>= _) _ _ s
  refine wpAny_bind ?_
  · unfold Builtin.List.listSubscript?
    refine wpAny_bind (wpAny_specialOf hTs slice_no_index ?_)
    simp only [Option.isNone_none, if_true]
    refine wpAny_pure ?_
    show wpAny _ _ (typeOf (.ref sl) >>= _) _ _ s
    refine wpAny_bind (wpAny_typeOf hTs ?_)
    rw [if_neg (by decide)]
    rw [listSliceParts_eq]
    refine wpAny_bind (wpAny_bind (wpAny_field hos hds (x := .none) rfl (wpAny_bind (wpAny_listPart .none ?_))))
    rw [if_neg (by decide)]
    refine wpAny_bind (wpAny_field hos hds (x := .none) rfl (wpAny_bind (wpAny_listPart .none ?_)))
    refine wpAny_bind (wpAny_field hos hds (x := .none) rfl (wpAny_bind (wpAny_listPart .none (wpAny_pure ?_))))
    dsimp only
    have e : Builtin.List.listSameRef (.ref l) (.ref v) = false := by
      show (l == v) = false
      exact beq_eq_false_iff_ne.mpr hne
    rw [e]
    simp only [Bool.false_eq_true, if_false]
    have it : ∀ {a : Addr} {xs : Array Value} {j : Nat} {Q' : Array Value → Shared → Prop}, s.heap.get? a = some (listOf xs j) → Q' xs s → wpAny (model prog w) A.in1 (Builtin.List.listItems (.ref a)) Q' (fun e s' => E e s') s := by
      intro a xs j Q' ha hq
      unfold Builtin.List.listItems
      exact wpAny_bind (wpAny_seqItems ha rfl (wpAny_pure hq))
    have ti : s.TypeIs (.ref v) "list" := hlv.typeIs
    refine wpAny_bind ?_
    unfold Builtin.List.listAllItems
    refine wpAny_bind (wpAny_typeOf ti ?_)
    rw [if_pos (by decide)]
    refine it hv ?_
    refine wpAny_bind (it ho ?_)
    refine wpAny_bind (wpAny_of_eq (sliceIndices_raw none none none items.size (by simp)) ?_)
    have eb : sliceBounds none none none items.size = (0, (items.size : Int), 1) := rfl
    rw [eb]
    dsimp only
    rw [if_pos (by decide)]
    refine wpAny_bind (wpAny_rule ?_)
    have tl : Builtin.List.listTooLong (items.size + ws.size) = false := by
      unfold Builtin.List.listTooLong
      rw [decide_eq_false_iff_not]
      omega
    rw [tl]
    simp only [Bool.false_eq_true, if_false]
    have ef : items.extract 0 (0 : Int).toNat ++ ws ++ items.extract (max 0 (items.size : Int)).toNat = ws := by
      have : (max 0 (items.size : Int)).toNat = items.size := by omega
      rw [this]
      simp
    refine wpAny_bind (listUpdate_at ho rfl ?_ (by omega) (by rw [ef]; omega))
    refine wpAny_bind (wpAny_letGo ?_)
    obtain ⟨n', hd'⟩ := Obj.data_mapSeq (o := listOf items n) rfl (fun xs => xs.extract 0 (0 : Int).toNat ++ ws ++ xs.extract (max 0 (items.size : Int)).toNat)
    rw [ef] at hd'
    refine wpAny_pure ⟨.none, rfl, wpAny_pure (h _ n' ?_ (Heap.SameBut.update ..))⟩
    rw [Heap.get?_update_self _ ho (Obj.isFreed_of_seq hd')]
    show some ({ cls := .type "list", data := (Obj.mapSeq (fun xs => xs.extract 0 (0 : Int).toNat ++ ws ++ xs.extract (max 0 (items.size : Int)).toNat) (listOf items n)).data } : Obj) = _
    rw [hd']
end
end Mine
end
section
open PySem PySem.W PyProof.Rows PySem.Calls PySem.Spec PyProof.V
set_option maxRecDepth 100000
set_option maxHeartbeats 8000000
namespace Mine
theorem padC11n1 : True ∧ True := by walk1 <;> trivial
theorem fill11 (w : World) (h : Heap) : (KF w.params).In h → PySem.Challenge.rw_wf0102_01.prog = PySem.Challenge.rw_wf0102_01.prog := by
  k_fill
  intro _; rfl
theorem padC11n2 : True ∧ True := by walk1 <;> trivial
section
variable {M : Model} {A : Around} {E : Value → Shared → Prop} {s : Shared} {h₀ : Heap} {L a : Addr} {m : PySem.Str → Option Value} {cn : PySem.Str} {cs : Scope} {ccd : Value} {cl : List (PySem.Str × Addr)}
  {x : PySem.Str} {v : Value} {Q : Unit → Shared → Prop} {rest : List (Addr × Obj)} {c : Addr} {o : Obj} {v₀ : Option Value}
theorem storeHead (F : Fr h₀ L s.heap m) (N : News h₀ L s.heap ((c, o) :: rest)) (hc : cl.lookup x = some c) (hd : o.data = .cell v₀) (hlt : ∀ p ∈ rest, p.1 < L) (hLc : c = L + 1)
    (h : ∀ h' o', Fr h₀ L h' m → News h₀ L h' ((c, o') :: rest) → o'.data = .cell (some v) → Q () { s with heap := h' })
    (hk : cs.kind = .function := by rfl) (hx : (envX cn cs L a ccd cl).kindOf x = some .cell := by rfl) : wpAny M A (storeName (envX cn cs L a ccd cl) x v) Q E s := by
  have hmem := N (c, o) (.head _)
  have off : ∀ p ∈ rest, p.1 ≠ c := fun p hp e => by
    have := hlt p hp
    rw [e, hLc] at this
    exact absurd this (Nat.not_lt.mpr (Nat.le_succ L))
  refine wpAny_storeName_cell hk hx hc ⟨o, hmem.1, hd⟩ fun h' hv hs => ?_
  obtain ⟨o', ho', hd'⟩ := hv
  refine h h' o' ⟨F.ns.sameBut hs (Ne.symm hmem.2.1), fun b ob e => (hs.2 b (fun q => ?_)).trans (F.keep b ob e), F.above⟩ (fun p hp => ?_) hd'
  · rw [q, hmem.2.2] at e; cases e
  · rcases List.mem_cons.mp hp with rfl | hp
    · exact ⟨ho', hmem.2⟩
    · exact ⟨(hs.2 _ (off p hp)).trans (N p (.tail _ hp)).1, (N p (.tail _ hp)).2⟩
end
theorem padC11n3 : True ∧ True := by walk1 <;> trivial
section
variable {prog : Program} {w : World} {A : Around} {E : Value → Shared → Prop} {s : Shared}
theorem setTab {g h : Heap} {L D c X1 dX Lt : Addr} {o3 : Obj} {m : PySem.Str → Option Value} {hh : Int} {th : Tok} {e : Nat} {its : Array Value} {ys : List Value} {n : Nat} {news : List (Addr × Obj)} {Q : Unit → Shared → Prop}
    (F' : Fr g L h m) (N' : News g L h ((D, LCg.lst ys) :: (c, o3) :: tabL X1 dX Lt hh th e its n news)) (hne : Lt ≠ D) (hoff : ∀ p ∈ news, p.1 ≠ Lt)
    (h1 : its.size ≤ 100) (h2 : ys.length ≤ 100) (hQ : ∀ h5 n5, Fr g L h5 m → News g L h5 (tabL X1 dX Lt hh th e ys.toArray n5 news) → Q () { s with heap := h5 }) :
    wpAny (model prog w) A (setItem (.ref Lt) (.ref h.objs.size) (.ref D)) Q E { s with heap := h.push { cls := .type "slice", data := .fields #[.none, .none, .none] } } := by
  have m1 : (Lt, listOf its n) ∈ (D, LCg.lst ys) :: (c, o3) :: tabL X1 dX Lt hh th e its n news := .tail _ (.tail _ (.tail _ (.tail _ (.head _))))
  have nX : X1 ≠ Lt := ne_objs N' (.tail _ (.tail _ (.head _))) m1 (by intro q; cases q)
  have nd : dX ≠ Lt := ne_objs N' (.tail _ (.tail _ (.tail _ (.head _)))) m1 (by intro q; injection q with q; exact absurd q (by decide))
  refine setAll (items := its) (ws := ys.toArray) (n := n) (k := ys.length) (Heap.get?_push_of_some _ (N' _ m1).1) (Heap.IsSliceOf.new ..) (Heap.get?_push_of_some _ (N' _ (.head _)).1) hne h1 (by rw [List.size_toArray]; exact h2) ?_
  intro h5 n5 g5 b5
  have F5 : Fr g L h5 m := (F'.push { cls := .type "slice", data := .fields #[.none, .none, .none] }).change b5 (N' _ m1).2.1 (N' _ m1).2.2
  have keep : ∀ p ∈ (D, LCg.lst ys) :: (c, o3) :: tabL X1 dX Lt hh th e its n news, p.1 ≠ Lt → h5.get? p.1 = some p.2 ∧ p.1 ≠ L ∧ g.get? p.1 = none := fun p hp q => ⟨(b5.2 _ q).trans (Heap.get?_push_of_some _ (N' p hp).1), (N' p hp).2⟩
  refine hQ h5 n5 F5 (news_cons (keep (X1, _) (.tail _ (.tail _ (.head _))) nX) (news_cons (keep (dX, _) (.tail _ (.tail _ (.tail _ (.head _)))) nd) (news_cons ⟨g5, (N' _ m1).2⟩ fun p hp => keep p (.tail _ (.tail _ (.tail _ (.tail _ (.tail _ hp))))) (hoff p hp))))
end
theorem padC11n4 : True ∧ True := by walk1 <;> trivial
section
local macro_rules | `(tactic| walk_at $s:str) => if ["call ref", "CompSrcT", "exec Assign cons ListComp", "call builtin:str.lower", "setItem ref ref", "CompEnd", "compareOp NotEq str str"].contains s.getString then `(tactic| (refine Hold.put ?_)) else Lean.Macro.throwUnsupported
theorem pDel (X1 dX Lt : Addr) (hh : Int) (th : Tok) (e : Nat) (its : List Value) (n : Nat) (rs : List (Nat × Nat)) (i : Nat) (t : Tok) (news : List (Addr × Obj)) (hi : i < 4) (hr : RowsOk rs) (R : Rows news its rs) (hoff : ∀ p ∈ news, p.1 ≠ Lt) (hsz : its.length ≤ 4) (w : World) :
   Ctr w 204 [.ref X1, .str (tx (nm i)) t] (tabL X1 dX Lt hh th e its.toArray n news) 2 16 (fun R _ s Q _ => ∀ n' its' h' tk', Rows news its' (rs.filter (·.1 ≠ i)) → R h' (tabL X1 dX Lt hh th e its'.toArray n' news) → Q .none { s with heap := h', toks := tk' }) := by
  intro dp un gd cn cs a0 ccd cl base outer h₀ L m s Q E W hd hu hend
  obtain ⟨⟨A₀, B⟩, F, X, N, ⟨mean, mg, mb, T⟩, hk⟩ := W
  refine wpAny_call ?_
  k_dflt ((refine' code_defC ?k1 ?k2 ?k3 ?k4 ?k5 ?kA ?kF ?kK ?k6 ?k7 ?k8 ?k9 ?kB ?kD ?_ ?c2 ?c3 ?c4; (case kA => exact rfl); (case kF => exact rfl); (case kK => assumption); (case k1 => k_asm); (case k2 => k_asm); (case k3 => k_asm); (case k4 => k_asm); (case k5 => k_asm); (case k6 => k_is); (case k7 => k_is); (case k8 => ktr_room); (case k9 => first | exact BindsTo.of_eq rfl | exact binds_K (by k_in) rfl (by k_is) rfl rfl rfl); (case kB => exact rfl); (case kD => decide +kernel); (case c2 => exact rfl); (case c3 => exact rfl); (case c4 => exact rfl); k_whole; intro g' L' h' tk' cells' FG' F' N' Y' B' X' T' l1; k_cells Y'; (try simp only [List.cons_append, List.nil_append] at N'); (try dsimp only); (try k_lift B'); (try k_fold)))
  k_steps
  refine ⟨?_⟩
  refine lowR (nm_low hi) (Nat.le_trans (nm_len hi) (by decide)) ?_
  intro _ _
  k_steps
  refine ⟨?_⟩
  refine pConvN (w := w) (tx (nm i)) _ _ _ (nm_signs hi) (by rw [tx_len]; exact Nat.le_trans (nm_len hi) (by decide)) _ _ _ _ _ _ _ _ _ _ _ _ _ _ _ _ ⟨⟨_, by assumption⟩, by assumption, by assumption, by assumption, ⟨_, _, _, by assumption⟩, rfl⟩ ?hd1 ?hu1 ?ret1
  case hd1 => (dsimp only [ktrTop]); first | exact lim2 hd rfl | omega
  case hu1 => (dsimp only [ktrTop]); first | exact lim2 hu rfl | omega
  rintro h2 tk2 ⟨_, F2, X2, N2, T2, _⟩
  k_steps
  (rename Fr _ _ _ _ => Fx); (rename News _ _ _ _ => Nx)
  refine storeHead Fx Nx (by rfl) (by assumption) (by assumption) rfl ?_
  intro h3 o3 F3 N3 hd3
  k_steps
  refine ⟨?_⟩
  refine wpAny_Assign_Subscript ?_ (by with_unfolding_all rfl)
  refine LCt.ListComp_T (F₀ := F3) (by with_unfolding_all rfl) (by decide) (by rfl) (by decide) (by rfl) ?_
  k_steps
  refine ⟨?_⟩
  (rename Fr _ _ _ _ => Fy); (rename News _ _ _ _ => Ny)
  refine LCt.CompSrcT.ledger (its := its.toArray) (k := n) rfl Fy Ny (.tail _ (.tail _ (.tail _ (.head _)))) (by rw [List.size_toArray, sizeLine_eq]; omega) ?_
  intro g4
  refine restT_inv (n := its.length) (fun j ys n' => n' = (_, o3) :: tabL X1 dX Lt hh th e its.toArray n news ∧ Rows news ys ((rs.take j).filter (·.1 ≠ i))) ?turn ?fin its.toArray.size 0 [] _ (by rw [List.size_toArray]; rfl) ⟨rfl, .nil⟩
  case turn =>
    rintro j ys _ v I oI C oC D m₂ h tk E' hj ⟨rfl, hS⟩ hv hC hx F' N' off ne
    obtain ⟨T₁, ta, tb, kt, r, rfl, hrj, hT⟩ := R.at (by simpa using hv)
    have hTup := Rows.isTup N' (.tail _ (.tail _ (.tail _ (.tail _ (.tail _ (.tail _ (.tail _ hT)))))))
    have hrk := hr r (List.mem_of_getElem? hrj)
    have htk : rs.take (j + 1) = rs.take j ++ [r] := by rw [List.take_add_one, hrj]; rfl
    k_steps
    refine ⟨?_⟩
    refine lowR (nm_low hrk.1) (Nat.le_trans (nm_len hrk.1) (by decide)) ?_
    intro _ _
    k_steps
    refine ⟨?_⟩
    by_cases hri : r.1 = i
    · refine neF (by walk_at "mine txt") (by walk_at "mine txt") (by rw [hri]) ?_
      k_steps
      refine ⟨?_⟩
      refine ⟨_, _, _, rfl, F', N', off, .inr ⟨_, .tail _ (.tail _ (.tail _ (.head _))), rfl, _, rfl⟩, rfl, ?_⟩
      rw [htk, List.filter_append]
      have : ([r].filter fun x => decide (x.1 ≠ i)) = [] := by simp [hri]
      rw [this, List.append_nil]
      exact hS
    · refine neT (by walk_at "mine txt") (by walk_at "mine txt") (by rw [Ne, nm_inj hrk.1 hi]; exact hri) ?_
      k_steps
      refine ⟨?_⟩
      refine ⟨_, _, _, rfl, F', N', off, .inr ⟨_, .tail _ (.tail _ (.tail _ (.head _))), rfl, _, rfl⟩, rfl, ?_⟩
      rw [htk, List.filter_append]
      have : ([r].filter fun x => decide (x.1 ≠ i)) = [r] := by simp [hri]
      rw [this]
      exact hS.append (.cons hT .nil)
  case fin =>
    rintro ys _ ⟨rfl, hS⟩ D h tk F' N' off
    rw [R.len, List.take_length] at hS
    k_steps
    refine ⟨?_⟩
    refine setTab F' N' off.2.2.2.1 hoff (by rw [List.size_toArray]; omega) (by rw [hS.len]; exact Nat.le_trans (List.length_filter_le _ _) (by rw [← R.len]; omega)) ?_
    intro h5 n5 F5 N5
    clear N' F'
    k_steps
    exact hend _ _ _ _ hS ⟨⟨_, B⟩, by assumption, by assumption, by (first | assumption | ((rename News _ _ _ _ => nX); repeat' (first | (intro p hp; refine nX p ?_; (repeat (first | exact hp | apply List.Mem.tail)); done) | refine news_cons (nX _ (by (repeat (first | (exact List.Mem.head _; done) | refine List.Mem.tail _ ?_)))) ?_))), ⟨_, _, _, T⟩, hk⟩
end
end Mine
end
section
open PySem PySem.W PyProof.Rows PySem.Calls PySem.Spec PyProof.V
set_option maxRecDepth 100000
set_option maxHeartbeats 8000000
namespace Mine
theorem padC12n1 : True ∧ True := by walk1 <;> trivial
theorem fill12 (w : World) (h : Heap) : (KF w.params).In h → PySem.Challenge.rw_wf0102_01.prog = PySem.Challenge.rw_wf0102_01.prog := by
  k_fill
  intro _; rfl
theorem padC12n2 : True ∧ True := by walk1 <;> trivial
section
variable {M : Model} {A : Around} {E : Value → Shared → Prop} {s : Shared} {K : Frag} {x C L f : Addr} {h₀ : Heap} {m : PySem.Str → Option Value} {ox : Obj} {od : Option Obj} {i v : Value}
theorem own_delItem {Q : Unit → Shared → Prop} (F : Fr h₀ L s.heap m) (X₀ : K.In h₀) (I : InstAt s.heap x ox C od) (hq : noSeq K C = true) (hs : findIn K (.ref C) "__delitem__" = some (some (.ref f))) (hf : isFn K (.ref f) = true)
    (h : wpAny M A (call (.ref f) [.ref x, i]) (fun _ s' => Q () s') E s) : wpAny M A (delItem (.ref x) i) Q E s := by
  have X := X₀.keeps F.keep
  unfold delItem sequenceKey
  refine wpAny_holding (wpAny_bind (wpAny_bind (I.type.here ?_)))
  refine wpAny_bind ((anyM_none X hq).here ?_)
  rw [if_pos (show (!false) = true from rfl)]
  exact wpAny_pure (wpAny_bind (special_fn X I hs (beq_iff_eq.mp hf) (wpAny_mono h (fun _ _ z => wpAny_pure z) fun _ _ z => z)))
end
theorem padC12n3 : True ∧ True := by walk1 <;> trivial
section
variable {prog : Program} {w : World} {A : Around} {E : Value → Shared → Prop} {s : Shared}
theorem appendAt {l : Addr} {items : Array Value} {n : Nat} {x : Value} {Q : Value → Shared → Prop} (ho : s.heap.get? l = some (listOf items n)) (hsz : items.size ≤ 100)
    (hQ : ∀ h' n', h'.get? l = some (listOf (items.push x) n') → Heap.SameBut l s.heap h' → Q .none { s with heap := h' }) :
    wpAny (model prog w) A (call (.builtin "list.append") [.ref l, x]) Q E s := by
  have hl : s.heap.IsList l items := ⟨_, ho, rfl, n, rfl⟩
  obtain ⟨n', hd'⟩ := Obj.data_mapSeq (o := listOf items n) rfl (·.push x)
  have S2 : 200 ≤ sizeLine := by rw [sizeLine_eq]; decide
  refine wpAny_call_entry slot_list_append hl.typeIs entry_list_append ?_ (args_list_append _ _)
  show wpAny _ _ (updateSeq l (·.push x) >>= fun _ => ret .none) _ _ s
  refine wpAny_bind ?_
  refine wpAny_updateSeq ho rfl (wpAny_pure ⟨.none, rfl, hQ _ n' ?_ (Heap.SameBut.update ..)⟩) (by omega) (by rw [Array.size_push]; omega)
  rw [Heap.get?_update_self _ ho (Obj.isFreed_of_seq hd')]
  show some ({ cls := .type "list", data := (Obj.mapSeq (·.push x) (listOf items n)).data } : Obj) = _
  rw [hd']
theorem appendTab {g : Heap} {L D X1 dX Lt : Addr} {o3 : Obj} {m : PySem.Str → Option Value} {hh : Int} {th : Tok} {e : Nat} {its : List Value} {v : Value} {n : Nat} {news : List (Addr × Obj)} {Q : Value → Shared → Prop}
    (F' : Fr g L s.heap m) (N' : News g L s.heap ((D, o3) :: tabL X1 dX Lt hh th e its.toArray n news)) (hne : D ≠ Lt) (hoff : ∀ p ∈ news, p.1 ≠ Lt)
    (h1 : its.length ≤ 10) (hQ : ∀ h5 n5, Fr g L h5 m → News g L h5 (tabL X1 dX Lt hh th e (its ++ [v]).toArray n5 ((D, o3) :: news)) → Q .none { s with heap := h5 }) :
    wpAny (model prog w) A (call (.builtin "list.append") [.ref Lt, v]) Q E s := by
  have m1 : (Lt, listOf its.toArray n) ∈ (D, o3) :: tabL X1 dX Lt hh th e its.toArray n news := .tail _ (.tail _ (.tail _ (.head _)))
  have nX : X1 ≠ Lt := ne_objs N' (.tail _ (.head _)) m1 (by intro q; cases q)
  have nd : dX ≠ Lt := ne_objs N' (.tail _ (.tail _ (.head _))) m1 (by intro q; injection q with q; exact absurd q (by decide))
  refine appendAt (N' _ m1).1 (by rw [List.size_toArray]; omega) ?_
  intro h5 n5 g5 b5
  have F5 : Fr g L h5 m := F'.change b5 (N' _ m1).2.1 (N' _ m1).2.2
  have keep : ∀ p ∈ (D, o3) :: tabL X1 dX Lt hh th e its.toArray n news, p.1 ≠ Lt → h5.get? p.1 = some p.2 ∧ p.1 ≠ L ∧ g.get? p.1 = none := fun p hp q => ⟨(b5.2 _ q).trans (N' p hp).1, (N' p hp).2⟩
  rw [List.push_toArray] at g5
  refine hQ h5 n5 F5 (news_cons (keep (X1, _) (.tail _ (.head _)) nX) (news_cons (keep (dX, _) (.tail _ (.tail _ (.head _))) nd) (news_cons ⟨g5, (N' _ m1).2⟩ (news_cons (keep (D, _) (.head _) hne) fun p hp => keep p (.tail _ (.tail _ (.tail _ (.tail _ hp)))) (hoff p hp)))))
end
theorem padC12n4 : True ∧ True := by walk1 <;> trivial
section
local macro_rules | `(tactic| walk_at $s:str) => if ["call builtin:list.append"].contains s.getString then `(tactic| (refine Hold.put ?_)) else Lean.Macro.throwUnsupported
local macro_rules | `(tactic| walk_at "delItem ref str") => `(tactic| (k_dflt (refine' own_delItem ?F ?X ?I ?hQ ?hS ?hF ?_; (case F => k_asm); (case X => k_asm); (case I => k_inst); (case hS => k_is); (case hF => k_is); (case hQ => k_is); k_whole)))
local macro_rules | `(tactic| walk_at $s:str) => if ["call ref"].contains s.getString then `(tactic| (refine Hold.put ?_)) else Lean.Macro.throwUnsupported
theorem pSet (X1 dX Lt : Addr) (hh : Int) (th : Tok) (e : Nat) (its : List Value) (n : Nat) (rs : List (Nat × Nat)) (i p : Nat) (t tp : Tok) (news : List (Addr × Obj)) (hi : i < 4) (hp : p < 1000) (hr : RowsOk rs) (R : Rows news its rs) (hoff : ∀ p ∈ news, p.1 ≠ Lt) (hsz : its.length ≤ 4) (w : World) :
   Ctr w 199 [.ref X1, .str (tx (nm i)) t, .str (tx (figs p)) tp] (tabL X1 dX Lt hh th e its.toArray n news) 3 24 (fun R _ s Q _ => ∀ T ta tb k n' its' h' tk', Rows ((T, rowO (i, p) ta tb k) :: news) its' (rs.filter (·.1 ≠ i) ++ [(i, p)]) → R h' (tabL X1 dX Lt hh th e its'.toArray n' ((T, rowO (i, p) ta tb k) :: news)) → Q .none { s with heap := h', toks := tk' }) := by
  intro dp un gd cn cs a0 ccd cl base outer h₀ L m s Q E W hd hu hend
  obtain ⟨⟨A₀, B⟩, F, X, N, ⟨mean, mg, mb, T⟩, hk⟩ := W
  refine wpAny_call ?_
  k_dflt (((refine' code_def ?k1 ?k2 ?k3 ?k4 ?k5 ?kA ?kF ?kK ?k6 ?k7 ?k8 ?k9 ?kB ?_ ?c2 ?c3 ?c4 ?c5; (case kA => exact rfl); (case kF => exact rfl); (case kK => assumption); (case k1 => k_asm); (case k2 => k_asm); (case k3 => k_asm); (case k4 => k_asm); (case k5 => k_asm); (case k6 => k_is); (case k7 => k_is); (case k8 => ktr_room); (case k9 => first | exact BindsTo.of_eq rfl | exact binds_K (by k_in) rfl (by k_is) rfl rfl rfl); (case c5 => decide); (case kB => exact locs rfl); (case c2 => exact rfl); (case c3 => exact rfl); (case c4 => exact rfl); k_whole; intro g' L' h' FG' F' N' B' X' T'; (try dsimp only); (try k_lift B'); (try k_fold))))
  k_steps
  refine ⟨?_⟩
  refine pDel (w := w) X1 dX Lt hh th e its n rs i t news hi hr R hoff hsz _ _ _ _ _ _ _ _ _ _ _ _ _ _ _ _ ⟨⟨_, by assumption⟩, by assumption, by assumption, by assumption, ⟨_, _, _, by assumption⟩, rfl⟩ ?hd1 ?hu1 ?ret1
  case hd1 => (dsimp only [ktrTop]); first | exact lim2 hd rfl | omega
  case hu1 => (dsimp only [ktrTop]); first | exact lim2 hu rfl | omega
  rintro n2 its2 h2 tk2 R2 ⟨_, F2, X2, N2, T2, _⟩
  (repeat (rename News _ _ _ (tabL X1 dX Lt hh th e its.toArray n news) => Nold; clear Nold))
  k_steps
  refine ⟨?_⟩
  refine pConvN (w := w) (tx (nm i)) _ _ _ (nm_signs hi) (by rw [tx_len]; exact Nat.le_trans (nm_len hi) (by decide)) _ _ _ _ _ _ _ _ _ _ _ _ _ _ _ _ ⟨⟨_, by assumption⟩, by assumption, by assumption, by assumption, ⟨_, _, _, by assumption⟩, rfl⟩ ?hd3 ?hu3 ?ret3
  case hd3 => (dsimp only [ktrTop]); first | exact lim2 hd rfl | omega
  case hu3 => (dsimp only [ktrTop]); first | exact lim2 hu rfl | omega
  rintro h3 tk3 ⟨_, F3, X3, N3, T3, _⟩
  k_steps
  refine ⟨?_⟩
  refine pConvV (w := w) (tx (figs p)) _ _ _ (figs_signs p) (by rw [tx_len]; exact Nat.le_trans (figs_le hp) (by decide)) _ _ _ _ _ _ _ _ _ _ _ _ _ _ _ _ ⟨⟨_, by assumption⟩, by assumption, by assumption, by assumption, ⟨_, _, _, by assumption⟩, rfl⟩ ?hd4 ?hu4 ?ret4
  case hd4 => (dsimp only [ktrTop]); first | exact lim2 hd rfl | omega
  case hu4 => (dsimp only [ktrTop]); first | exact lim2 hu rfl | omega
  rintro h4 tk4 ⟨_, F4, X4, N4, T4, _⟩
  k_steps
  refine ⟨?_⟩
  (rename Fr _ _ _ _ => Fx); (rename News _ _ _ _ => Nx); (rename _ ∧ _ ∧ _ ∧ AllLt _ news => l1)
  refine appendTab Fx Nx (Ne.symm (Nat.ne_of_lt l1.2.2.1)) hoff (by rw [R2.len]; exact Nat.le_trans (List.length_filter_le _ _) (by rw [← R.len]; omega)) ?_
  intro h5 n5 F5 N5
  clear Nx Fx
  k_steps
  refine hend _ _ _ _ _ _ _ _ ((R2.mono fun p hp => .tail _ hp).append (.cons (.head _) .nil)) ⟨⟨_, B⟩, by assumption, by assumption, by (first | assumption | ((rename News _ _ _ _ => nX); repeat' (first | (intro p hp; refine nX p ?_; (repeat (first | exact hp | apply List.Mem.tail)); done) | refine news_cons (nX _ (by (repeat (first | (exact List.Mem.head _; done) | refine List.Mem.tail _ ?_)))) ?_))), ⟨_, _, _, T⟩, hk⟩
end
end Mine
end
section
open PySem PySem.W PyProof.Rows PySem.Calls PySem.Spec PyProof.V
set_option maxRecDepth 100000
set_option maxHeartbeats 8000000
namespace Mine
theorem padC13n1 : True ∧ True := by walk1 <;> trivial
theorem fill13 (w : World) (h : Heap) : (KF w.params).In h → PySem.Challenge.rw_wf0102_01.prog = PySem.Challenge.rw_wf0102_01.prog := by
  k_fill
  intro _; rfl
/-- what a table holds behind the learning of a name and a port -/
noncomputable def learn (rs : List (Nat × Nat)) (i p : Nat) : List (Nat × Nat) :=
  match rs.lookup i with
  | none => rs.filter (·.1 ≠ i) ++ [(i, p)]
  | some q => if q < p then rs.filter (·.1 ≠ i) ++ [(i, p)] else rs
theorem lookup_mem {rs : List (Nat × Nat)} {i p : Nat} (h : rs.lookup i = some p) : (i, p) ∈ rs := by
  induction rs with
  | nil => simp at h
  | cons r rs ih =>
    obtain ⟨a, b⟩ := r
    rw [List.lookup_cons] at h
    by_cases e : i = a
    · subst e
      rw [beq_self_eq_true] at h
      obtain rfl := Option.some.inj h
      exact .head _
    · rw [beq_eq_false_iff_ne.mpr e] at h
      exact .tail _ (ih h)
theorem learn_none {rs : List (Nat × Nat)} {i p : Nat} (h : rs.lookup i = none) : learn rs i p = rs.filter (·.1 ≠ i) ++ [(i, p)] := by
  unfold learn; rw [h]
theorem learn_lt {rs : List (Nat × Nat)} {i p q : Nat} (h : rs.lookup i = some q) (hq : q < p) : learn rs i p = rs.filter (·.1 ≠ i) ++ [(i, p)] := by
  unfold learn; rw [h]; exact if_pos hq
theorem learn_ge {rs : List (Nat × Nat)} {i p q : Nat} (h : rs.lookup i = some q) (hq : ¬ q < p) : learn rs i p = rs := by
  unfold learn; rw [h]; exact if_neg hq
theorem padC13n2 : True ∧ True := by walk1 <;> trivial
section
variable {prog : Program} {w : World} {A : Around} {E : Value → Shared → Prop} {s : Shared} {t : Tok} {Q : Value → Shared → Prop}
theorem intFigs {p : Nat} (hp : p < 1000) (h : ∀ t' k, Q (.int (p : Int) t') { s with toks := k }) : wpAny (model prog w) A (call (.type "int") [.str (tx (figs p)) t]) Q E s := by
  refine KIN.call_text (n := (p : Int)) ?_ (by rw [tx_len]; exact Nat.le_trans (figs_le hp) (by decide)) (h _ _)
  rw [← num_tx]
  exact KIN.num_reads (by omega) (by omega)
end
theorem padC13n3 : True ∧ True := by walk1 <;> trivial
section
local macro_rules | `(tactic| walk_at $s:str) => if ["call ref", "call type:int"].contains s.getString then `(tactic| (refine Hold.put ?_)) else Lean.Macro.throwUnsupported
theorem pLearn (X1 dX Lt : Addr) (hh : Int) (th : Tok) (e : Nat) (its : List Value) (n : Nat) (rs : List (Nat × Nat)) (i p : Nat) (t tp : Tok) (news : List (Addr × Obj)) (hi : i < 4) (hp : p < 1000) (hr : RowsOk rs) (R : Rows news its rs) (hoff : ∀ p ∈ news, p.1 ≠ Lt) (hsz : its.length ≤ 4) (w : World) :
   Ctr w 330 [.ref X1, .str (tx (nm i)) t, .int (p : Int) tp] (tabL X1 dX Lt hh th e its.toArray n news) 4 32 (fun R _ s Q _ => ∀ ex n' its' h' tk', (∀ q ∈ ex, q.2.cls = .type "tuple") → Rows (ex ++ news) its' (learn rs i p) → R h' (tabL X1 dX Lt hh th e its'.toArray n' (ex ++ news)) → Q .none { s with heap := h', toks := tk' }) := by
  intro dp un gd cn cs a0 ccd cl base outer h₀ L m s Q E W hd hu hend
  obtain ⟨⟨A₀, B⟩, F, X, N, ⟨mean, mg, mb, T⟩, hk⟩ := W
  refine wpAny_call ?_
  k_dflt (((refine' code_def ?k1 ?k2 ?k3 ?k4 ?k5 ?kA ?kF ?kK ?k6 ?k7 ?k8 ?k9 ?kB ?_ ?c2 ?c3 ?c4 ?c5; (case kA => exact rfl); (case kF => exact rfl); (case kK => assumption); (case k1 => k_asm); (case k2 => k_asm); (case k3 => k_asm); (case k4 => k_asm); (case k5 => k_asm); (case k6 => k_is); (case k7 => k_is); (case k8 => ktr_room); (case k9 => first | exact BindsTo.of_eq rfl | exact binds_K (by k_in) rfl (by k_is) rfl rfl rfl); (case c5 => decide); (case kB => exact locs rfl); (case c2 => exact rfl); (case c3 => exact rfl); (case c4 => exact rfl); k_whole; intro g' L' h' FG' F' N' B' X' T'; (try dsimp only); (try k_lift B'); (try k_fold))))
  k_steps
  refine ⟨?_⟩
  refine pGet (w := w) X1 dX Lt hh th e its n rs i t news hi hr R _ _ _ _ _ _ _ _ _ _ _ _ _ _ _ _ ⟨⟨_, by assumption⟩, by assumption, by assumption, by assumption, ⟨_, _, _, by assumption⟩, rfl⟩ ?hd1 ?hu1 ?ret1
  case hd1 => (dsimp only [ktrTop]); first | exact lim2 hd rfl | omega
  case hu1 => (dsimp only [ktrTop]); first | exact lim2 hu rfl | omega
  rintro v h2 tk2 hv ⟨_, F2, X2, N2, T2, _⟩
  cases hl : rs.lookup i with
  | none =>
    rw [hl] at hv
    subst hv
    k_steps
    refine ⟨?_⟩
    refine pSet (w := w) X1 dX Lt hh th e its n rs i p _ _ news hi hp hr R hoff hsz _ _ _ _ _ _ _ _ _ _ _ _ _ _ _ _ ⟨⟨_, by assumption⟩, by assumption, by assumption, by assumption, ⟨_, _, _, by assumption⟩, rfl⟩ ?hd2 ?hu2 ?ret2
    case hd2 => (dsimp only [ktrTop]); first | exact lim2 hd rfl | omega
    case hu2 => (dsimp only [ktrTop]); first | exact lim2 hu rfl | omega
    rintro T3 ta3 tb3 k3 n3 its3 h3 tk3 R3 ⟨_, F3, X3, N3, T3', _⟩
    k_steps
    refine hend [(T3, rowO (i, p) ta3 tb3 k3)] n3 its3 _ _ (by intro q hq; obtain rfl := List.mem_singleton.mp hq; rfl) (by rw [learn_none hl]; exact R3) ⟨⟨_, B⟩, by assumption, by assumption, by (first | assumption | ((rename News _ _ _ _ => nX); repeat' (first | (intro p hp; refine nX p ?_; (repeat (first | exact hp | apply List.Mem.tail)); done) | refine news_cons (nX _ (by (repeat (first | (exact List.Mem.head _; done) | refine List.Mem.tail _ ?_)))) ?_))), ⟨_, _, _, T⟩, hk⟩
  | some q =>
    rw [hl] at hv
    obtain ⟨t', rfl⟩ := hv
    have hq : q < 1000 := (hr _ (lookup_mem hl)).2
    k_steps
    refine ⟨?_⟩
    refine intFigs hq ?_
    intro _ _
    by_cases hqp : q < p
    · k_steps
      refine ⟨?_⟩
      refine pSet (w := w) X1 dX Lt hh th e its n rs i p _ _ news hi hp hr R hoff hsz _ _ _ _ _ _ _ _ _ _ _ _ _ _ _ _ ⟨⟨_, by assumption⟩, by assumption, by assumption, by assumption, ⟨_, _, _, by assumption⟩, rfl⟩ ?hd3 ?hu3 ?ret3
      case hd3 => (dsimp only [ktrTop]); first | exact lim2 hd rfl | omega
      case hu3 => (dsimp only [ktrTop]); first | exact lim2 hu rfl | omega
      rintro T3 ta3 tb3 k3 n3 its3 h3 tk3 R3 ⟨_, F3, X3, N3, T3', _⟩
      k_steps
      refine hend [(T3, rowO (i, p) ta3 tb3 k3)] n3 its3 _ _ (by intro q hq; obtain rfl := List.mem_singleton.mp hq; rfl) (by rw [learn_lt hl hqp]; exact R3) ⟨⟨_, B⟩, by assumption, by assumption, by (first | assumption | ((rename News _ _ _ _ => nX); repeat' (first | (intro p hp; refine nX p ?_; (repeat (first | exact hp | apply List.Mem.tail)); done) | refine news_cons (nX _ (by (repeat (first | (exact List.Mem.head _; done) | refine List.Mem.tail _ ?_)))) ?_))), ⟨_, _, _, T⟩, hk⟩
    · k_steps
      refine hend [] n its _ _ (by intro q hq; cases hq) (by rw [learn_ge hl hqp]; exact R) ⟨⟨_, B⟩, by assumption, by assumption, by (first | assumption | ((rename News _ _ _ _ => nX); repeat' (first | (intro p hp; refine nX p ?_; (repeat (first | exact hp | apply List.Mem.tail)); done) | refine news_cons (nX _ (by (repeat (first | (exact List.Mem.head _; done) | refine List.Mem.tail _ ?_)))) ?_))), ⟨_, _, _, T⟩, hk⟩
local macro_rules | `(tactic| walk_at $s:str) => if ["leaving ref"].contains s.getString then `(tactic| (refine Hold.put ?_)) else Lean.Macro.throwUnsupported
theorem pLearnX (X1 dX Lt : Addr) (hh : Int) (th : Tok) (e : Nat) (its : List Value) (n : Nat) (l : List Nat) (p : Nat) (t tp : Tok) (news : List (Addr × Obj)) (hx : l ∈ ctl) (w : World) :
   Ctr w 330 [.ref X1, .str (tx l) t, .int (p : Int) tp] (tabL X1 dX Lt hh th e its.toArray n news) 4 32 (fun _ R s _ E => ∀ e' h' tk', R e' (.type "ValueError") (tabL X1 dX Lt hh th e its.toArray n news) h' → E (.ref e') { s with heap := h', toks := tk' }) := by
  intro dp un gd cn cs a0 ccd cl base outer h₀ L m s Q E W hd hu hend
  obtain ⟨⟨A₀, B⟩, F, X, N, ⟨mean, mg, mb, T⟩, hk⟩ := W
  refine wpAny_call ?_
  k_dflt (((refine' code_def ?k1 ?k2 ?k3 ?k4 ?k5 ?kA ?kF ?kK ?k6 ?k7 ?k8 ?k9 ?kB ?_ ?c2 ?c3 ?c4 ?c5; (case kA => exact rfl); (case kF => exact rfl); (case kK => assumption); (case k1 => k_asm); (case k2 => k_asm); (case k3 => k_asm); (case k4 => k_asm); (case k5 => k_asm); (case k6 => k_is); (case k7 => k_is); (case k8 => ktr_room); (case k9 => first | exact BindsTo.of_eq rfl | exact binds_K (by k_in) rfl (by k_is) rfl rfl rfl); (case c5 => decide); (case kB => exact locs rfl); (case c2 => exact rfl); (case c3 => exact rfl); (case c4 => exact rfl); k_whole; intro g' L' h' FG' F' N' B' X' T'; (try dsimp only); (try k_lift B'); (try k_fold))))
  k_steps
  refine ⟨?_⟩
  refine pGetX (w := w) X1 dX Lt hh th e its n l t news hx _ _ _ _ _ _ _ _ _ _ _ _ _ _ _ _ ⟨⟨_, by assumption⟩, by assumption, by assumption, by assumption, ⟨_, _, _, by assumption⟩, rfl⟩ ?hd1 ?hu1 ?ret1
  case hd1 => (dsimp only [ktrTop]); first | exact lim2 hd rfl | omega
  case hu1 => (dsimp only [ktrTop]); first | exact lim2 hu rfl | omega
  rintro e2 h2 tk2 ⟨G2, FG2, UG2, RG2⟩
  k_steps
  refine ⟨?_⟩
  refine leave_onSN (by assumption) FG2 RG2 UG2 ?_
  intro h' S' R' U'
  exact hend _ _ _ ⟨_, by assumption, U', lessSN S' (by ((repeat' (first | (intro p hp; (repeat (first | exact hp | apply List.Mem.tail)); done) | refine sub_cons (by (repeat (first | (exact List.Mem.head _; done) | refine List.Mem.tail _ ?_))) ?_))))⟩
end
end Mine
end
section
open PySem PySem.W PyProof.Rows PySem.Calls PySem.Spec PyProof
set_option maxRecDepth 100000
namespace Mine
open StrLaws Builtin Builtin.Str
/-- pieces with a line's end between -/
noncomputable def cr : List (List Nat) → List Nat
  | [] => []
  | [p] => p
  | p :: q :: r => p ++ 13 :: 10 :: cr (q :: r)
theorem at2 (l : List Nat) (a b k : Nat) : StrLaws.At (tx l) (tx [a, b]) (tx l).length k ↔ l[k]? = some a ∧ l[k + 1]? = some b := by
  unfold StrLaws.At
  rw [subAt_eq, tx_cps, tx_cps, tx_len, tx_len]
  show k + 2 ≤ l.length ∧ ((l.drop k).take 2 == [a, b]) = true ↔ _
  rw [beq_iff_eq]
  constructor
  · rintro ⟨h1, h2⟩
    have e1 : l[k]? = ((l.drop k).take 2)[0]? := by rw [List.getElem?_take_of_lt (by decide), List.getElem?_drop]; rfl
    have e2 : l[k + 1]? = ((l.drop k).take 2)[1]? := by rw [List.getElem?_take_of_lt (by decide), List.getElem?_drop]
    rw [e1, e2, h2]
    exact ⟨rfl, rfl⟩
  · rintro ⟨h1, h2⟩
    have h3 : k + 1 < l.length := (List.getElem?_eq_some_iff.mp h2).1
    refine ⟨by omega, ?_⟩
    rw [List.drop_eq_getElem_cons (by omega), List.drop_eq_getElem_cons (by omega)]
    have g1 : l[k] = a := (List.getElem?_eq_some_iff.mp h1).2
    have g2 : l[k + 1] = b := (List.getElem?_eq_some_iff.mp h2).2
    rw [g1, g2]
    rfl
theorem get_of_drop {l p r : List Nat} {a : Nat} (h : l.drop a = p ++ r) (k : Nat) : l[a + k]? = (p ++ r)[k]? := by rw [← h, List.getElem?_drop]
theorem parts2 (l : List Nat) : ∀ (ps : List (List Nat)) (cuts : List Nat) (a f : Nat), ps ≠ [] → (∀ p ∈ ps, 13 ∉ p) → a ≤ l.length → l.drop a = cr ps → ChainG (tx l) (tx [13, 10]) (tx l).length a cuts f →
    (∀ k, f ≤ k → ¬ StrLaws.At (tx l) (tx [13, 10]) (tx l).length k) → partsFrom (tx l) 2 a cuts = ps.map tx
  | [], _, _, _, h, _, _, _, _, _ => absurd rfl h
  | [p], cuts, a, f, _, hp, ha, hd, hG, hn => by
    have no : ∀ k, a ≤ k → ¬ StrLaws.At (tx l) (tx [13, 10]) (tx l).length k := by
      intro k hk hA
      rw [at2] at hA
      have e := get_of_drop (l := l) (p := p) (r := []) (a := a) (by rw [hd, List.append_nil]; rfl) (k - a)
      rw [List.append_nil, show a + (k - a) = k by omega, hA.1] at e
      exact hp p (.head _) (List.mem_of_getElem? e.symm)
    match cuts, hG with
    | [], _ =>
      show [strSub (tx l) a (tx l).length] = [tx p]
      congr 1
      refine tx_of ?_
      rw [strSub_toList, tx_cps, tx_len, hd]
      have : (cr [p]).length = l.length - a := by rw [← hd, List.length_drop]
      rw [List.take_of_length_le (by omega)]
      rfl
    | c :: r, h => exact absurd h.2.1 (no c h.1)
  | p :: q :: r, cuts, a, f, _, hp, ha, hd, hG, hn => by
    have hd' : l.drop a = p ++ 13 :: 10 :: cr (q :: r) := hd
    have atc : StrLaws.At (tx l) (tx [13, 10]) (tx l).length (a + p.length) := by
      rw [at2]
      have e1 := get_of_drop hd' p.length
      have e2 := get_of_drop hd' (p.length + 1)
      rw [List.getElem?_append_right (Nat.le_refl _)] at e1
      rw [List.getElem?_append_right (by omega)] at e2
      simp at e1 e2
      exact ⟨e1, by rw [Nat.add_assoc]; exact e2⟩
    have no : ∀ k, a ≤ k → k < a + p.length → ¬ StrLaws.At (tx l) (tx [13, 10]) (tx l).length k := by
      intro k hk hk2 hA
      rw [at2] at hA
      have e := get_of_drop hd' (k - a)
      rw [List.getElem?_append_left (by omega), show a + (k - a) = k by omega, hA.1] at e
      exact hp p (.head _) (List.mem_of_getElem? e.symm)
    match cuts, hG with
    | [], h =>
      have : f = a := h
      exact absurd atc (hn _ (by omega))
    | c :: cs, h =>
      have hc : c = a + p.length := by
        rcases Nat.lt_trichotomy c (a + p.length) with g | g | g
        · exact absurd h.2.1 (no c h.1 g)
        · exact g
        · exact absurd atc (h.2.2.1 _ (by omega) g)
      subst hc
      have hlen : a + p.length + 2 ≤ l.length := by
        have := congrArg List.length hd'
        rw [List.length_drop] at this
        simp at this
        omega
      show strSub (tx l) a (a + p.length) :: partsFrom (tx l) 2 (a + p.length + 2) cs = tx p :: (q :: r).map tx
      congr 1
      · refine tx_of ?_
        rw [strSub_toList, tx_cps, hd', show a + p.length - a = p.length by omega, List.take_left']
        rfl
      · refine parts2 l (q :: r) cs _ f (by simp) (fun x hx => hp x (.tail _ hx)) hlen ?_ h.2.2.2 hn
        rw [show a + p.length + 2 = a + (p.length + 2) by omega, ← List.drop_drop, hd', ← List.drop_drop, List.drop_left']
        · rfl
        · rfl
theorem kind_pos (x : PySem.Str) : 1 ≤ Builtin.Str.strKind x := by
  unfold Builtin.Str.strKind
  split
  · decide
  · split <;> decide
theorem split_cr {ps : List (List Nat)} (h2 : 2 ≤ ps.length) (hp : ∀ p ∈ ps, 13 ∉ p) : Txt.split (tx (cr ps)) (tx [13, 10]) = ps.map tx := by
  obtain ⟨f, hG, hn⟩ := occ_tight (tx (cr ps)) (tx [13, 10]) (by decide)
  have key := parts2 (cr ps) ps _ 0 f (by rintro rfl; simp at h2) hp (Nat.zero_le _) rfl hG hn
  have hl : 2 ≤ (tx (cr ps)).length := by
    rw [tx_len]
    match ps, h2 with
    | p :: q :: r, _ =>
      show 2 ≤ (p ++ 13 :: 10 :: cr (q :: r)).length
      simp; omega
  unfold Txt.split
  rw [if_neg]
  · split
    · rename_i he
      have e0 : occurrences (tx (cr ps)) (tx [13, 10]) 0 (tx (cr ps)).length ((tx (cr ps)).length + 1) = [] := List.isEmpty_iff.mp he
      rw [e0] at key
      have : 1 = ps.length := by
        have := congrArg List.length key
        rw [List.length_map] at this
        exact this
      omega
    · rw [partsBetween_eq]
      exact key
  · have k := kind_pos (tx (cr ps))
    have : Builtin.Str.strKind (tx [13, 10]) = 1 := by decide +kernel
    rw [Bool.or_eq_true, decide_eq_true_eq, decide_eq_true_eq, this]
    show ¬ ((tx (cr ps)).length < 2 ∨ _)
    omega
theorem part2 {p r : List Nat} (hp : 58 ∉ p) : Txt.partition (tx (p ++ 58 :: 32 :: r)) (tx [58, 32]) = (tx p, tx [58, 32], tx r) := by
  have atp : StrLaws.At (tx (p ++ 58 :: 32 :: r)) (tx [58, 32]) (tx (p ++ 58 :: 32 :: r)).length p.length := by
    rw [at2]
    constructor
    · rw [List.getElem?_append_right (Nat.le_refl _)]; simp
    · rw [List.getElem?_append_right (by omega)]; simp
  unfold Txt.partition
  rcases StrLaws.occ_head (tx (p ++ 58 :: 32 :: r)) (tx [58, 32]) 1 (Nat.le_refl 1) with ⟨h0, hn⟩ | ⟨i, q, h0, hi, hn⟩
  · exact absurd atp (hn _)
  · have e : i = p.length := by
      rcases Nat.lt_trichotomy i p.length with g | g | g
      · rw [at2, List.getElem?_append_left g] at hi
        exact absurd (List.mem_of_getElem? hi.1) hp
      · exact g
      · exact absurd atp (hn _ g)
    subst e
    rw [h0]
    show (strSub _ 0 p.length, tx [58, 32], strSub _ (p.length + 2) _) = _
    refine Prod.ext (tx_of ?_) (Prod.ext rfl (tx_of ?_))
    · rw [strSub_toList, tx_cps]; simp
    · rw [strSub_toList, tx_cps, tx_len]
      rw [List.take_of_length_le (by simp; omega)]
      rw [← List.drop_drop, List.drop_left' rfl]
      rfl
theorem up_tx {l : List Nat} (h : ∀ c ∈ l, c < 128) : Txt.upper (tx l) = tx (l.map up1) := by
  rw [upper_ascii (by rw [tx_cps]; exact h)]
  refine tx_of ?_
  simp [tx]
theorem unq_dbl {c : Nat} {r : List Nat} (hc : c ≠ 34) : ∀ a : List Nat, unq (StrLaws.dbl 34 a ++ 34 :: c :: r) = a
  | [] => unq_stop hc
  | x :: a => by
    by_cases h : x = 34
    · subst h
      show unq (34 :: 34 :: (StrLaws.dbl 34 a ++ 34 :: c :: r)) = _
      rw [unq, unq_dbl hc a]
    · have e : StrLaws.dbl 34 (x :: a) = x :: StrLaws.dbl 34 a := by
        show (if x = 34 then _ else _) = _
        rw [if_neg h]
      rw [e, List.cons_append, unq_plain h, unq_dbl hc a]
/-- a row of a table as it is printed -/
noncomputable def rowL (r : Nat × Nat) : List Nat := nm r.1 ++ 58 :: 32 :: figs r.2
/-- a row in great letters -/
noncomputable def rowU (r : Nat × Nat) : List Nat := (nm r.1).map up1 ++ 58 :: 32 :: figs r.2
theorem figs_in (n : Nat) : ∀ c ∈ figs n, c ∈ [48, 49, 50, 51, 52, 53, 54, 55, 56, 57] := by
  have := figs_signs n
  rwa [tx_cps] at this
theorem figs_up (n : Nat) : (figs n).map up1 = figs n := by
  refine (List.map_congr_left (g := fun x => x) fun c hc => ?_).trans (List.map_id' _)
  have := figs_in n c hc
  simp only [List.mem_cons, List.not_mem_nil, or_false] at this
  rcases this with rfl | rfl | rfl | rfl | rfl | rfl | rfl | rfl | rfl | rfl <;> rfl
theorem rowL_up (r : Nat × Nat) : (rowL r).map up1 = rowU r := by
  unfold rowL rowU
  rw [List.map_append, List.map_cons, List.map_cons, figs_up]
  rfl
theorem nm_up_no {i c : Nat} (hi : i < 4) (hc : c ∈ [13, 58]) : c ∉ (nm i).map up1 := by
  exact (by decide : ∀ i, i < 4 → ∀ c ∈ [13, 58], c ∉ (nm i).map up1) i hi c hc
theorem figs_no {n c : Nat} (hc : c ∈ [13, 58]) : c ∉ figs n := by
  exact fun h => (by decide : ∀ c ∈ [13, 58], c ∉ [48, 49, 50, 51, 52, 53, 54, 55, 56, 57]) c hc (figs_in n c h)
theorem rowU_free {r : Nat × Nat} (h : r.1 < 4) : 13 ∉ rowU r := by
  unfold rowU
  rw [List.mem_append]
  rintro (g | g)
  · exact nm_up_no h (.head _) g
  · rcases List.mem_cons.mp g with g | g
    · cases g
    · rcases List.mem_cons.mp g with g | g
      · cases g
      · exact figs_no (.head _) g
theorem rowU_part {r : Nat × Nat} (h : r.1 < 4) : Txt.partition (tx (rowU r)) (tx [58, 32]) = (tx ((nm r.1).map up1), tx [58, 32], tx (figs r.2)) := part2 (nm_up_no h (.tail _ (.head _)))
/-- what a table's page is, in great letters -/
noncomputable def pageU (rs : List (Nat × Nat)) : List Nat := cr (rs.map rowU ++ [[], []])
/-- a table's page -/
noncomputable def pageL (rs : List (Nat × Nat)) : List Nat := cr (rs.map rowL ++ [[], []])
theorem cr_up : ∀ ps : List (List Nat), (cr ps).map up1 = cr (ps.map (List.map up1))
  | [] => rfl
  | [p] => rfl
  | p :: q :: r => by
    show (p ++ 13 :: 10 :: cr (q :: r)).map up1 = p.map up1 ++ 13 :: 10 :: cr ((q :: r).map (List.map up1))
    rw [← cr_up (q :: r), List.map_append]
    rfl
theorem join_cr : ∀ ps : List (List Nat), ps ≠ [] → PySem.Str.join (tx [13, 10]) (ps.map tx) = tx (cr ps)
  | [], h => absurd rfl h
  | [p], _ => rfl
  | p :: q :: r, _ => by
    refine tx_of ?_
    rw [List.map_cons, List.map_cons, join_cps, ← List.map_cons, join_cr (q :: r) (by simp), tx_cps, tx_cps, tx_cps]
    rfl
theorem crlf : PySem.Str.ofString "\r\n" = tx [13, 10] := by decide
theorem strs_append {vs ws : List Value} {a b : List PySem.Str} (h1 : StrsAre vs a) (h2 : StrsAre ws b) : StrsAre (vs ++ ws) (a ++ b) := by
  induction h1 with
  | nil => exact h2
  | cons x t _ ih => exact .cons x t ih
theorem page_up (rs : List (Nat × Nat)) : (pageL rs).map up1 = pageU rs := by
  unfold pageL pageU
  rw [cr_up, List.map_append, List.map_map, show (List.map up1 ∘ rowL) = rowU from funext rowL_up]
  rfl
theorem page_split {rs : List (Nat × Nat)} (h : RowsOk rs) : Txt.split (tx (pageU rs)) (tx [13, 10]) = (rs.map rowU ++ [[], []]).map tx := by
  refine split_cr (by simp) fun p hp => ?_
  rcases List.mem_append.mp hp with g | g
  · obtain ⟨r, hr, rfl⟩ := List.mem_map.mp g
    exact rowU_free (h r hr).1
  · simp only [List.mem_cons, List.not_mem_nil, or_false] at g
    rcases g with rfl | rfl <;> simp
theorem cr_mem {P : Nat → Prop} (h1 : P 13) (h2 : P 10) : ∀ ps : List (List Nat), (∀ p ∈ ps, ∀ c ∈ p, P c) → ∀ c ∈ cr ps, P c
  | [], _, c, hc => by cases hc
  | [p], h, c, hc => h p (.head _) c hc
  | p :: q :: r, h, c, hc => by
    have hc' : c ∈ p ++ 13 :: 10 :: cr (q :: r) := hc
    rcases List.mem_append.mp hc' with g | g
    · exact h p (.head _) c g
    · rcases List.mem_cons.mp g with rfl | g
      · exact h1
      · rcases List.mem_cons.mp g with rfl | g
        · exact h2
        · exact cr_mem h1 h2 (q :: r) (fun x hx => h x (.tail _ hx)) c g
theorem cr_len : ∀ ps : List (List Nat), (cr ps).length ≤ (ps.map fun p => p.length + 2).sum
  | [] => Nat.zero_le _
  | [p] => by show p.length ≤ p.length + 2 + 0; omega
  | p :: q :: r => by
    have := cr_len (q :: r)
    show (p ++ 13 :: 10 :: cr (q :: r)).length ≤ p.length + 2 + ((q :: r).map fun p => p.length + 2).sum
    rw [List.length_append, List.length_cons, List.length_cons]
    omega
theorem page_ascii {rs : List (Nat × Nat)} (h : RowsOk rs) : ∀ c ∈ pageL rs, c < 128 := by
  refine cr_mem (by decide) (by decide) _ fun p hp => ?_
  rcases List.mem_append.mp hp with g | g
  · obtain ⟨r, hr, rfl⟩ := List.mem_map.mp g
    intro c hc
    have hi := (h r hr).1
    unfold rowL at hc
    rcases List.mem_append.mp hc with g | g
    · have := nm_signs hi c (by rw [tx_cps]; exact g)
      simp only [List.mem_cons, List.not_mem_nil, or_false] at this
      omega
    · rcases List.mem_cons.mp g with rfl | g
      · decide
      · rcases List.mem_cons.mp g with rfl | g
        · decide
        · have := figs_in _ c g
          simp only [List.mem_cons, List.not_mem_nil, or_false] at this
          omega
  · simp only [List.mem_cons, List.not_mem_nil, or_false] at g
    rcases g with rfl | rfl <;> simp
theorem rowL_len {r : Nat × Nat} (h1 : r.1 < 4) (h2 : r.2 < 1000) : (rowL r).length ≤ 8 := by
  unfold rowL
  have := nm_len h1
  have := figs_le h2
  rw [List.length_append, List.length_cons, List.length_cons]
  omega
theorem sum_le {k : Nat} : ∀ l : List Nat, (∀ x ∈ l, x ≤ k) → l.sum ≤ k * l.length
  | [], _ => Nat.zero_le _
  | x :: l, h => by
    have h1 := h x (.head _)
    have h2 := sum_le l fun y hy => h y (.tail _ hy)
    rw [List.sum_cons, List.length_cons, Nat.mul_succ]
    omega
theorem page_len {rs : List (Nat × Nat)} (h : RowsOk rs) (hl : rs.length ≤ 4) : (pageL rs).length ≤ 60 := by
  refine Nat.le_trans (cr_len _) (Nat.le_trans (sum_le (k := 10) _ fun x hx => ?_) ?_)
  · obtain ⟨p, hp, rfl⟩ := List.mem_map.mp hx
    rcases List.mem_append.mp hp with g | g
    · obtain ⟨r, hr, rfl⟩ := List.mem_map.mp g
      have := rowL_len (h r hr).1 (h r hr).2
      omega
    · simp only [List.mem_cons, List.not_mem_nil, or_false] at g
      rcases g with rfl | rfl <;> simp
  · simp only [List.length_map, List.length_append, List.length_cons, List.length_nil]
    omega
theorem pageU_len {rs : List (Nat × Nat)} (h : RowsOk rs) (hl : rs.length ≤ 4) : (pageU rs).length ≤ 60 := by
  rw [← page_up, List.length_map]
  exact page_len h hl
theorem page_join (rs : List (Nat × Nat)) : Txt.join (PySem.Str.ofString "\r\n") (List.map tx (List.map rowL rs ++ [[], []])) = tx (pageL rs) := by
  rw [crlf]
  exact (StrLaws.glued_eq_join _ _).trans (join_cr _ (by simp))
theorem page_sum {rs : List (Nat × Nat)} (hr : RowsOk rs) (hl : rs.length ≤ 4) : ((List.map tx (List.map rowL rs ++ [[], []])).map (·.length)).sum + (List.map tx (List.map rowL rs ++ [[], []])).length * 64 ≤ 16777216 := by
  have h1 := sum_le (k := 8) ((List.map tx (List.map rowL rs ++ [[], []])).map (·.length)) (fun x hx => by
    obtain ⟨p, hp, rfl⟩ := List.mem_map.mp hx
    obtain ⟨q, hq, rfl⟩ := List.mem_map.mp hp
    rw [tx_len]
    rcases List.mem_append.mp hq with g | g
    · obtain ⟨r, hr', rfl⟩ := List.mem_map.mp g
      exact rowL_len (hr r hr').1 (hr r hr').2
    · simp only [List.mem_cons, List.not_mem_nil, or_false] at g
      rcases g with rfl | rfl <;> simp)
  simp only [List.length_map, List.length_append, List.length_cons, List.length_nil] at h1 ⊢
  omega
theorem prep_up {i : Nat} (hi : i < 4) : prepL ((nm i).map up1) = nm i := by
  obtain rfl | rfl | rfl | rfl := four hi
  all_goals decide +kernel
end Mine
end
section
open PySem PySem.W PyProof.Rows PySem.Calls PySem.Spec PyProof
set_option maxRecDepth 100000
set_option maxHeartbeats 4000000
namespace Mine
section
variable {prog : Program} {w : World} {A : Around} {E : Value → Shared → Prop} {s : Shared} {h₀ : Heap} {L b : Addr} {news : List (Addr × Obj)} {t : Tok} {Q : Value → Shared → Prop}
theorem pct2 {x y : PySem.Str} {ta tb : Tok} {k : Nat} (hx : x.length ≤ 1000000) (hy : y.length ≤ 1000000) (N : News h₀ L s.heap news) (hb : (b, ({ cls := .type "tuple", data := .seq #[.str x ta, .str y tb] k } : Obj)) ∈ news)
    (h : ∀ T t' k, T.cps.toList = x.cps.toList ++ 58 :: 32 :: y.cps.toList → Q (.str T t') { s with toks := k }) : wpAny (model prog w) A (binaryOp .Mod (.str (PySem.Str.ofString "%s: %s") t) (.ref b)) Q E s := by
  refine' KPt.mod_tuple N hb ?kptF ?kptm ?_
  case kptF => kpt_eq
  case kptm => kpt_run
  intro t' k'
  refine h _ _ _ ?_
  rw [cat_cps, cat_cps, show (PySem.Str.ofString ": ").cps.toList = [58, 32] by decide, List.append_assoc]
  rfl
theorem pick_cut2 (vs : List Value) (h : 2 ≤ vs.length) : slicePick vs.toArray none (some (-2)) none = (vs.take (vs.length - 2)).toArray := by
  have e : slicePick vs.toArray none (some (-2)) none = slicePick vs.toArray none (some ((vs.length - 2 : Nat) : Int)) none := by
    have q : sliceBounds none (some (-2)) none vs.toArray.size = sliceBounds none (some ((vs.length - 2 : Nat) : Int)) none vs.toArray.size := by
      rw [List.size_toArray]
      unfold sliceBounds
      simp only [Option.getD_none]
      have h1 : (-2 : Int) < 0 := by decide
      have h2 : ¬ (((vs.length - 2 : Nat) : Int) < 0) := by omega
      have h3 : (-2 : Int) + (vs.length : Int) = ((vs.length - 2 : Nat) : Int) := by omega
      rw [if_pos h1, if_neg h2, h3]
    unfold slicePick
    rw [q]
  rw [e, slicePick_upto _ _ (by rw [List.size_toArray]; omega)]
theorem slice_cut2 {m : PySem.Str → Option Value} {u : Tok} {value slice : PySem.Expr} {D : Addr} {vs : List Value} (F : Fr h₀ L s.heap m) (N : News h₀ L s.heap news) (hm : (D, listOf vs.toArray 0) ∈ news) (h2 : 2 ≤ vs.length) (hl : vs.length ≤ 100)
    (h : ∀ D2 h', Fr h₀ L h' m → News h₀ L h' ((D2, listOf (vs.take (vs.length - 2)).toArray 0) :: news) → (∀ p ∈ news, p.1 < D2) → Q (.ref D2) { s with heap := h' })
    (hs : subscripted slice false (.ref D) (.ref s.heap.objs.size) = operate [.ref s.heap.objs.size, .ref D] (getItem (.ref D) (.ref s.heap.objs.size)) := by with_unfolding_all rfl)
    (ht : ∀ r, letTemporaryGo value (.ref D) r = pure () := by intro _; with_unfolding_all rfl) :
    wpAny (model prog w) A (subscriptTail value slice (.ref D) (.ref s.heap.objs.size)) Q E { s with heap := s.heap.push { cls := .type "slice", data := .fields #[.none, .int (-2) u, .none] } } := by
  refine slice_list (vl := .none) (vu := .int (-2) u) (lo := none) (hi := some (-2)) F N (News.isList N hm) .none (.int _ _) (fun h' F' N' => ?_) hs ht (by rw [List.size_toArray]; exact Nat.le_trans hl (Nat.le_of_ble_eq_true rfl))
  rw [pick_cut2 vs h2] at N'
  exact h _ h' F' N' fun p hp => Nat.lt_succ_of_lt (Heap.lt_size (N p hp).1)
theorem splitCR {m : PySem.Str → Option Value} {u : Tok} {rs : List (Nat × Nat)} (hF : Fr h₀ L s.heap m) (hN : News h₀ L s.heap news) (g : RowsOk rs) (hl : rs.length ≤ 4)
    (h : ∀ D vs h' k, StrsAre vs ((rs.map rowU ++ [[], []]).map tx) → Fr h₀ L h' m → News h₀ L h' ((D, listOf vs.toArray 0) :: news) → (∀ p ∈ news, p.1 < D) → Q (.ref D) { s with heap := h', toks := k }) :
    wpAny (model prog w) A (call (.builtin "str.split") [.str (tx (pageU rs)) t, .str (PySem.Str.ofString "\r\n") u]) Q E s := by
  refine KSpl.split1 hF hN (by decide) (fun D l h' k e S F N l1 => ?_) (by rw [tx_len]; exact Nat.le_trans (Nat.add_le_add_right (pageU_len g hl) 2) (Nat.le_of_ble_eq_true rfl))
  rw [crlf, page_split g] at e
  rw [e] at S
  exact h D _ h' k S F N l1
theorem partCL {m : PySem.Str → Option Value} {u : Tok} {r : Nat × Nat} (hF : Fr h₀ L s.heap m) (hN : News h₀ L s.heap news) (h1 : r.1 < 4) (h2 : r.2 < 1000)
    (h : ∀ D ta tb tc h' k, Fr h₀ L h' m → News h₀ L h' ((D, { cls := .type "tuple", data := .seq #[.str (tx ((nm r.1).map up1)) ta, .str (tx [58, 32]) tb, .str (tx (figs r.2)) tc] }) :: news) → (∀ p ∈ news, p.1 < D) → Q (.ref D) { s with heap := h', toks := k }) :
    wpAny (model prog w) A (call (.builtin "str.partition") [.str (tx (rowU r)) t, .str (PySem.Str.ofString ": ") u]) Q E s := by
  have e : PySem.Str.ofString ": " = tx [58, 32] := by decide
  rw [e]
  refine partitionN hF hN (by decide) (fun ta tb tc h' k F N => ?_) (by rw [tx_len]; exact Nat.le_trans (show (rowU r).length ≤ 8 by rw [← rowL_up, List.length_map]; exact rowL_len h1 h2) (Nat.le_of_ble_eq_true rfl))
  rw [rowU_part h1] at N
  exact h _ ta tb tc h' k F N fun p hp => Heap.lt_size (hN p hp).1
end
end Mine
end
section
open PySem PySem.W PyProof.Rows PySem.Calls PySem.Spec PyProof.V
set_option maxRecDepth 100000
set_option maxHeartbeats 8000000
namespace Mine
theorem padC14n1 : True ∧ True := by walk1 <;> trivial
theorem fill14 (w : World) (h : Heap) : (KF w.params).In h → PySem.Challenge.rw_wf0102_01.prog = PySem.Challenge.rw_wf0102_01.prog := by
  k_fill
  intro _; rfl
theorem padC14n2 : True ∧ True := by walk1 <;> trivial
section
local macro_rules | `(tactic| walk_at $s:str) => if ["call ref", "CompSrc", "CompEnd", "binaryOp Mod str ref", "binaryOp Add ref ref", "eval ListComp"].contains s.getString then `(tactic| (refine Hold.put ?_)) else Lean.Macro.throwUnsupported
theorem pStr (X1 dX Lt : Addr) (hh : Int) (th : Tok) (e : Nat) (its : List Value) (n : Nat) (rs : List (Nat × Nat)) (news : List (Addr × Obj)) (hr : RowsOk rs) (R : Rows news its rs) (hsz : its.length ≤ 4) (w : World) :
   Ctr w 262 [.ref X1] (tabL X1 dX Lt hh th e its.toArray n news) 1 16 (fun R _ s Q _ => ∀ t' h' tk', R h' (tabL X1 dX Lt hh th e its.toArray n news) → Q (.str (tx (pageL rs)) t') { s with heap := h', toks := tk' }) := by
  intro dp un gd cn cs a0 ccd cl base outer h₀ L m s Q E W hd hu hend
  obtain ⟨⟨A₀, B⟩, F, X, N, ⟨mean, mg, mb, T⟩, hk⟩ := W
  refine wpAny_call ?_
  k_dflt (((refine' code_def ?k1 ?k2 ?k3 ?k4 ?k5 ?kA ?kF ?kK ?k6 ?k7 ?k8 ?k9 ?kB ?_ ?c2 ?c3 ?c4 ?c5; (case kA => exact rfl); (case kF => exact rfl); (case kK => assumption); (case k1 => k_asm); (case k2 => k_asm); (case k3 => k_asm); (case k4 => k_asm); (case k5 => k_asm); (case k6 => k_is); (case k7 => k_is); (case k8 => ktr_room); (case k9 => first | exact BindsTo.of_eq rfl | exact binds_K (by k_in) rfl (by k_is) rfl rfl rfl); (case c5 => decide); (case kB => exact locs rfl); (case c2 => exact rfl); (case c3 => exact rfl); (case c4 => exact rfl); k_whole; intro g' L' h' FG' F' N' B' X' T'; (try dsimp only); (try k_lift B'); (try k_fold))))
  k_steps
  refine ⟨?_⟩
  refine LCg.ListComp_U (F₀ := by assumption) (by with_unfolding_all rfl) (by decide) (by rfl) (by decide) (by rfl) ?_
  k_steps
  refine ⟨?_⟩
  (rename Fr _ _ _ _ => Fy); (rename News _ _ _ _ => Ny)
  refine LCg.CompSrc.ledger (its := its.toArray) (k := n) rfl Fy Ny (.tail _ (.tail _ (.head _))) (by rw [List.size_toArray, sizeLine_eq]; omega) ?_
  intro g4
  refine rest_inv (n := its.length) (fun j ys n' => n' = tabL X1 dX Lt hh th e its.toArray n news ∧ StrsAre ys ((rs.take j).map fun r => tx (rowL r))) ?turn ?fin its.toArray.size 0 [] _ (by rw [List.size_toArray]; rfl) ⟨rfl, .nil⟩
  case turn =>
    rintro j ys _ v I oI C oC D m₂ h tk E' hj ⟨rfl, hS⟩ hv hC hx F' N' off ne
    obtain ⟨T₁, ta, tb, kt, r, rfl, hrj, hT⟩ := R.at (by simpa using hv)
    have hTup := Rows.isTup N' (.tail _ (.tail _ (.tail _ (.tail _ (.tail _ (.tail _ hT))))))
    have hrk := hr r (List.mem_of_getElem? hrj)
    have htk : rs.take (j + 1) = rs.take j ++ [r] := by rw [List.take_add_one, hrj]; rfl
    have q1 : (tx (nm r.1)).length ≤ 3 := by rw [tx_len]; exact nm_len hrk.1
    have q2 : (tx (figs r.2)).length ≤ 3 := by rw [tx_len]; exact figs_le hrk.2
    k_steps
    refine ⟨?_⟩
    refine pct2 (by rw [tx_len]; exact Nat.le_trans (nm_len hrk.1) (by decide)) (by rw [tx_len]; exact Nat.le_trans (figs_le hrk.2) (by decide)) N' (.tail _ (.tail _ (.tail _ (.tail _ (.tail _ (.tail _ hT)))))) ?_
    intro T2 t2 k2 hT2
    rw [tx_cps, tx_cps] at hT2
    obtain rfl : T2 = tx (rowL r) := tx_of hT2
    k_steps
    refine ⟨?_⟩
    refine ⟨_, _, _, rfl, F', N', off, .inr ⟨_, .tail _ (.tail _ (.head _)), rfl, _, rfl⟩, rfl, ?_⟩
    rw [htk, List.map_append]
    exact KStt.strs_snoc hS
  case fin =>
    rintro ys _ ⟨rfl, hS⟩ D h tk F' N' off
    rw [R.len, List.take_length] at hS
    have hys : ys.length ≤ 4 := by
      have := hS.length
      rw [List.length_map, ← R.len] at this
      omega
    k_steps
    refine ⟨?_⟩
    (rename Fr _ _ _ _ => Fz); (rename News _ _ _ _ => Nz)
    refine kmk_add_lit Fz Nz (News.isList Nz (.tail _ (.head _))) (News.isList Nz (.head _)) rfl ?_ (by rw [sizeLine_eq]; simp only [List.length_cons, List.length_nil]; omega)
    intro D2 h2 F2 N2 _
    clear Fz Nz
    k_steps
    have e0 : PySem.Str.ofString "" = tx [] := by decide
    have hT : ∀ ta tb, StrsAre (ys ++ [.str (PySem.Str.ofString "") ta, .str (PySem.Str.ofString "") tb]) ((rs.map rowL ++ [[], []]).map tx) := by
      intro ta tb
      rw [List.map_append, List.map_map, e0]
      exact strs_append hS (.cons _ _ (.cons _ _ .nil))
    have hlen : rs.length ≤ 4 := by rw [← R.len]; exact hsz
    refine join_listC (News.isList N2 (.head _)) (hT _ _) (by decide) (page_sum hr hlen) ?_
    intro t5 k5
    rw [page_join]
    k_steps
    exact hend _ _ _ ⟨⟨_, B⟩, by assumption, by assumption, by (first | assumption | ((rename News _ _ _ _ => nX); repeat' (first | (intro p hp; refine nX p ?_; (repeat (first | exact hp | apply List.Mem.tail)); done) | refine news_cons (nX _ (by (repeat (first | (exact List.Mem.head _; done) | refine List.Mem.tail _ ?_)))) ?_))), ⟨_, _, _, T⟩, hk⟩
end
end Mine
end
section
open PySem PySem.W PyProof.Rows PySem.Calls PySem.Spec PyProof.V
set_option maxRecDepth 100000
set_option maxHeartbeats 8000000
namespace Mine
theorem padC15n1 : True ∧ True := by walk1 <;> trivial
theorem fill15 (w : World) (h : Heap) : (KF w.params).In h → PySem.Challenge.rw_wf0102_01.prog = PySem.Challenge.rw_wf0102_01.prog := by
  k_fill
  intro _; rfl
/-- a table as it may be: rows that the law uses, each name once -/
noncomputable def Good (rs : List (Nat × Nat)) : Prop := RowsOk rs ∧ (rs.map (·.1)).Nodup
theorem nodup_le : ∀ (n : Nat) (l : List Nat), l.Nodup → (∀ x ∈ l, x < n) → l.length ≤ n
  | 0, [], _, _ => Nat.le_refl _
  | 0, x :: _, _, h => absurd (h x (.head _)) (Nat.not_lt_zero _)
  | n + 1, l, hd, h => by
    have h1 := nodup_le n (l.filter (· ≠ n)) (hd.filter _) fun x hx => by
      obtain ⟨h2, h3⟩ := List.mem_filter.mp hx
      have := h x h2
      have h4 : x ≠ n := by simpa using h3
      omega
    have h2 : l.length ≤ (l.filter (· ≠ n)).length + 1 := by
      clear h1 h
      induction l with
      | nil => simp
      | cons x l ih =>
        by_cases e : x = n
        · subst e
          have hn : x ∉ l := (List.nodup_cons.mp hd).1
          have : l.filter (· ≠ x) = l := List.filter_eq_self.mpr fun y hy => by
            simp only [ne_eq, decide_eq_true_eq]
            exact fun q => hn (q ▸ hy)
          rw [List.filter_cons_of_neg (by simp), this]
          simp
        · have := ih (List.nodup_cons.mp hd).2
          simp only [List.filter_cons, ne_eq, e, not_false_eq_true, decide_true, if_true, List.length_cons]
          simp only [ne_eq] at this
          omega
    omega
theorem Good.len {rs : List (Nat × Nat)} (g : Good rs) : rs.length ≤ 4 := by
  rw [← List.length_map (f := (·.1))]
  refine nodup_le 4 _ g.2 fun x hx => ?_
  obtain ⟨r, hr, rfl⟩ := List.mem_map.mp hx
  exact (g.1 r hr).1
theorem Good.learn {rs : List (Nat × Nat)} (g : Good rs) {i p : Nat} (hi : i < 4) (hp : p < 1000) : Good (learn rs i p) := by
  have key : Good (rs.filter (·.1 ≠ i) ++ [(i, p)]) := by
    refine ⟨fun r hr => ?_, ?_⟩
    · rcases List.mem_append.mp hr with h | h
      · exact g.1 r (List.mem_filter.mp h).1
      · obtain rfl := List.mem_singleton.mp h
        exact ⟨hi, hp⟩
    · rw [List.map_append, List.nodup_append]
      refine ⟨(List.filter_sublist.map _).nodup g.2, by simp, ?_⟩
      intro a ha b hb
      obtain ⟨r, hr, rfl⟩ := List.mem_map.mp ha
      obtain rfl : b = i := by simpa using hb
      simpa using (List.mem_filter.mp hr).2
  unfold Mine.learn
  split
  · exact key
  · split
    · exact key
    · exact g
/-- what a table holds behind the telling of another -/
noncomputable def tellAll (b a : List (Nat × Nat)) : List (Nat × Nat) := a.foldl (fun b r => learn b r.1 r.2) b
theorem Good.tell {a : List (Nat × Nat)} (ha : RowsOk a) : ∀ {b : List (Nat × Nat)}, Good b → Good (tellAll b a) := by
  induction a with
  | nil => exact fun g => g
  | cons r a ih => exact fun g => ih (fun x hx => ha x (.tail _ hx)) (g.learn (ha r (.head _)).1 (ha r (.head _)).2)
theorem Rows.of {news news' : List (Addr × Obj)} (hs : ∀ p ∈ news, p.2.cls = .type "tuple" → p ∈ news') : ∀ {vs : List Value} {rs : List (Nat × Nat)}, Rows news vs rs → Rows news' vs rs
  | _, _, .nil => .nil
  | _, _, .cons hm q => .cons (hs _ hm rfl) (q.of hs)
theorem strs_at {α : Type} {f : α → PySem.Str} : ∀ {vs : List Value} {l : List α} {j : Nat} {v : Value}, StrsAre vs (l.map f) → vs[j]? = some v → ∃ r t, l[j]? = some r ∧ v = .str (f r) t
  | [], _, j, v, _, h => by simp at h
  | x :: vs, [], j, v, S, h => by cases S
  | x :: vs, r :: l, 0, v, S, h => by
    obtain ⟨t, ws, e, _⟩ := strs_cons S
    obtain ⟨rfl, rfl⟩ := List.cons.inj e
    exact ⟨r, t, rfl, (Option.some.inj h).symm⟩
  | x :: vs, r :: l, j + 1, v, S, h => by
    obtain ⟨t, ws, e, q⟩ := strs_cons S
    obtain ⟨rfl, rfl⟩ := List.cons.inj e
    exact strs_at (l := l) q (by simpa using h)
/-- a frame with four names of its own ahead of the rest -/
noncomputable abbrev fr4 (x y z u : PySem.Str) (a b c d : Option Value) (m : PySem.Str → Option Value) : PySem.Str → Option Value := fun k => if k = x then a else if k = y then b else if k = z then c else if k = u then d else m k
theorem fr4_self (x y z u : PySem.Str) (m : PySem.Str → Option Value) : m = fr4 x y z u (m x) (m y) (m z) (m u) m := by
  funext k
  simp only [fr4]
  split
  · rename_i e; rw [e]
  · split
    · rename_i e; rw [e]
    · split
      · rename_i e; rw [e]
      · split
        · rename_i e; rw [e]
        · rfl
theorem fr4_set {x y z u : PySem.Str} {a b c d a' b' c' d' : Option Value} {m : PySem.Str → Option Value} : fr4 x y z u a' b' c' d' (fr4 x y z u a b c d m) = fr4 x y z u a' b' c' d' m := by
  funext k
  simp only [fr4]
  split
  · rfl
  · split
    · rfl
    · split
      · rfl
      · split <;> rfl
theorem reorder {α : Type} {P : α → Prop} {x1 x2 x3 i d a1 a2 a3 : α} {e2 e n : List α} (h : ∀ p ∈ x1 :: x2 :: x3 :: (e2 ++ i :: d :: a1 :: a2 :: a3 :: (e ++ n)), P p) : ∀ p ∈ i :: d :: a1 :: a2 :: a3 :: x1 :: x2 :: x3 :: ((e2 ++ e) ++ n), P p := by
  intro p hp
  refine h p ?_
  simp only [List.mem_cons, List.mem_append] at hp ⊢
  rcases hp with g | g | g | g | g | g | g | g | (g | g) | g <;> simp [g]
theorem off_list {h₀ h : Heap} {L a b : Addr} {oa : Obj} {its : Array Value} {n : Nat} {news : List (Addr × Obj)} (N : News h₀ L h news) (h1 : (a, oa) ∈ news) (h2 : (b, listOf its n) ∈ news) (hc : oa.cls ≠ .type "list") : a ≠ b := ne_objs N h1 h2 hc
theorem cls_ne {a b : String} (h : a ≠ b) : Value.type a ≠ .type b := fun q => h (by injection q)
theorem up_sgn {i : Nat} (hi : i < 4) : ∀ c ∈ (nm i).map up1, c = 173 ∨ Sgn c := by
  obtain rfl | rfl | rfl | rfl := four hi
  all_goals decide
theorem tellAll_take {a b : List (Nat × Nat)} {j : Nat} {r : Nat × Nat} (h : a[j]? = some r) : tellAll b (a.take (j + 1)) = learn (tellAll b (a.take j)) r.1 r.2 := by
  unfold tellAll
  rw [List.take_add_one, h, List.foldl_append]
  rfl
theorem rowsOk_take {a : List (Nat × Nat)} (h : RowsOk a) (j : Nat) : RowsOk (a.take j) := fun r hr => h r (List.mem_of_mem_take hr)
theorem padC15n2 : True ∧ True := by walk1 <;> trivial
section
local macro_rules | `(tactic| walk_at $s:str) => if ["call ref", "call type:int", "call type:str", "subscriptTail Name Slice ref ref", "call builtin:str.upper", "call builtin:str.split", "call builtin:str.partition", "exec For", "ForAt", "ForEnd"].contains s.getString then `(tactic| (refine Hold.put ?_)) else Lean.Macro.throwUnsupported
theorem pTell (XA dA LA XB dB LB : Addr) (hA hB : Int) (tA tB : Tok) (eA eB : Nat) (iA iB : List Value) (nA nB : Nat) (rA rB : List (Nat × Nat)) (news : List (Addr × Obj)) (gA : Good rA) (gB : Good rB) (RA : Rows news iA rA) (RB : Rows news iB rB) (hoff : ∀ p ∈ news, p.1 ≠ LB) (hAB : LA ≠ LB) (w : World) :
   Ctr w 344 [.ref XA, .ref XB] (tabL XA dA LA hA tA eA iA.toArray nA (tabL XB dB LB hB tB eB iB.toArray nB news)) 5 48 (fun R _ s Q _ => ∀ ex n' its' h' tk', (∀ q ∈ ex, q.2.cls = .type "tuple") → Rows (ex ++ news) its' (tellAll rB rA) → R h' (tabL XA dA LA hA tA eA iA.toArray nA (tabL XB dB LB hB tB eB its'.toArray n' (ex ++ news))) → Q .none { s with heap := h', toks := tk' }) := by
  intro dp un gd cn cs a0 ccd cl base outer h₀ L m s Q E W hd hu hend
  obtain ⟨⟨A₀, B⟩, F, X, N, ⟨mean, mg, mb, T⟩, hk⟩ := W
  refine wpAny_call ?_
  k_dflt (((refine' code_def ?k1 ?k2 ?k3 ?k4 ?k5 ?kA ?kF ?kK ?k6 ?k7 ?k8 ?k9 ?kB ?_ ?c2 ?c3 ?c4 ?c5; (case kA => exact rfl); (case kF => exact rfl); (case kK => assumption); (case k1 => k_asm); (case k2 => k_asm); (case k3 => k_asm); (case k4 => k_asm); (case k5 => k_asm); (case k6 => k_is); (case k7 => k_is); (case k8 => ktr_room); (case k9 => first | exact BindsTo.of_eq rfl | exact binds_K (by k_in) rfl (by k_is) rfl rfl rfl); (case c5 => decide); (case kB => exact locs rfl); (case c2 => exact rfl); (case c3 => exact rfl); (case c4 => exact rfl); k_whole; intro g' L' h' FG' F' N' B' X' T'; (try dsimp only); (try k_lift B'); (try k_fold))))
  k_steps
  refine ⟨?_⟩
  have hpl : (pageU rA).length ≤ 60 := pageU_len gA.1 gA.len
  have RA' : Rows (tabL XB dB LB hB tB eB iB.toArray nB news) iA rA := RA.mono fun p hp => .tail _ (.tail _ (.tail _ hp))
  k_dflt (refine' kso_call ?k1 ?k2 ?k3 ?k4 ?k5 ?_; (case k1 => (dsimp only [ktrTop, Around.deeper, Around.in1]; omega)); (case k2 => k_in); (case k3 => k_inst); (case k4 => k_is); (case k5 => k_is); k_whole)
  refine pStr (w := w) XA dA LA hA tA eA iA nA rA _ gA.1 RA' (by rw [RA.len]; exact gA.len) _ _ _ _ _ _ _ _ _ _ _ _ _ _ _ _ ⟨⟨_, by assumption⟩, by assumption, by assumption, by assumption, ⟨_, _, _, by assumption⟩, rfl⟩ ?hd1 ?hu1 ?ret1
  case hd1 => (dsimp only [ktrTop, Around.deeper, Around.in1]); omega
  case hu1 => (dsimp only [ktrTop, Around.deeper, Around.in1]); omega
  rintro t1 h1 tk1 ⟨_, F1, X1, N1, T1, _⟩
  show wpAny _ _ _ _ _ _
  k_steps
  refine ⟨?_⟩
  refine SCL.upper (by rw [tx_len]; exact Nat.le_trans (page_len gA.1 gA.len) (by decide)) fun _ => ?_
  rw [up_tx (page_ascii gA.1), page_up]
  k_steps
  refine ⟨?_⟩
  (rename _ = StrLaws.dbl 34 (pageU rA) => e1); (rename _ = [50, 53, 55, 32, 34] ++ _ => e2); (rename _ = _ ++ [34, 32, 105, 115, 32, 97, 108, 108] => e3)
  subst e3
  subst e2
  subst e1
  refine p257 (w := w) (tx _) _ _ (by rw [tx_len]; refine Nat.le_trans (by assumption) (by decide)) (by rw [tx_cps]; rfl) _ _ _ _ _ _ _ _ _ _ _ _ _ _ _ _ ⟨⟨_, by assumption⟩, by assumption, by assumption, by assumption, ⟨_, _, _, by assumption⟩, rfl⟩ ?hd2 ?hu2 ?ret2
  case hd2 => (dsimp only [ktrTop]); first | exact lim2 hd rfl | omega
  case hu2 => (dsimp only [ktrTop]); first | exact lim2 hu rfl | omega
  rintro r2 t2 h2 tk2 hr2 _ ⟨_, F2, X2, N2, T2, _⟩
  rw [tx_cps] at hr2
  obtain rfl : r2 = tx (pageU rA) := tx_of (hr2.trans (unq_dbl (by decide) _))
  k_steps
  refine ⟨?_⟩
  (rename Fr _ _ _ _ => Fx); refine for_listF Fx ?_
  k_steps
  refine ⟨?_⟩
  (rename Fr _ _ _ _ => Fz); (rename News _ _ _ _ => Nz)
  refine splitCR (by exact Fz) (by exact Nz) gA.1 gA.len ?_
  intro D vs h3 k3 S3 F3 N3 l3
  clear Fz Nz
  have hvs : vs.length = rA.length + 2 := by
    have := S3.length
    simpa using this
  k_steps
  refine ⟨?_⟩
  refine slice_cut2 (s := ⟨_, _, _, _, _⟩) (by exact F3) (by exact N3) (.head _) (by omega) (by have := gA.len; omega) ?_
  intro D2 h4 F4 N4 l4
  have S4 : StrsAre (vs.take (vs.length - 2)) ((rA.map rowU).map tx) := by
    have := StrsAre.take' S3 (vs.length - 2)
    have e5 : List.take (vs.length - 2) ((rA.map rowU ++ [[], []]).map tx) = (rA.map rowU).map tx := by
      rw [hvs, Nat.add_sub_cancel, List.map_append, List.take_append_of_le_length (by simp), List.take_of_length_le (by simp)]
    rw [e5] at this
    exact this
  generalize vs.take (vs.length - 2) = ws at S4 N4 ⊢
  clear F3 N3
  k_steps
  refine ⟨?_⟩
  (rename Fr _ _ _ _ => Fy); (rename News _ _ _ _ => Ny)
  have hDB : D2 ≠ LB := Ne.symm (Nat.ne_of_lt (l4 (LB, _) (.tail _ (.tail _ (.tail _ (.tail _ (.tail _ (.tail _ (.head _)))))))))
  have hwl : ws.length = rA.length := by simpa using S4.length
  refine ⟨D2, ws.toArray, 0, _, (D2, listOf ws.toArray 0) :: tabL XA dA LA hA tA eA iA.toArray nA (tabL XB dB LB hB tB eB iB.toArray nB news), fun j m' n' => (∃ a b c d, m' = fr4 (S "port") (S "colon") (S "name") (S "row") a b c d _) ∧ ∃ ex nn its', n' = (D2, listOf ws.toArray 0) :: tabL XA dA LA hA tA eA iA.toArray nA (tabL XB dB LB hB tB eB its'.toArray nn (ex ++ news)) ∧ (∀ q ∈ ex, q.2.cls = .type "tuple") ∧ Rows (ex ++ news) its' (tellAll rB (rA.take j)), rfl, rfl, Fy, ?hN, ⟨⟨_, _, _, _, fr4_self _ _ _ _ _⟩, [], nB, iB, rfl, (fun q hq => nomatch hq), RB⟩, ?hl, ?turn, ?done⟩
  case hN =>
    intro p hp
    rcases List.mem_cons.mp hp with rfl | hp
    · exact Ny _ (.head _)
    · exact Ny _ (.tail _ (.tail _ hp))
  case hl => (rintro j m' n' ⟨_, ex, nn, its', rfl, _⟩; exact .head _)
  case turn =>
    intro j v m₁ news₁ h tk I oI hv hJ hoI F₅ N₅ off
    refine wpAny_cut ?_
    intro Q4 E4 cQ4 cE4
    obtain ⟨⟨a, b, c, d, rfl⟩, ex, nn, its', rfl, hex, Rx⟩ := hJ
    obtain ⟨r, tr, hrj, rfl⟩ := strs_at (f := fun r => tx (rowU r)) (by rw [List.map_map] at S4; exact S4) (by simpa using hv)
    have hrk := gA.1 r (List.mem_of_getElem? hrj)
    k_steps
    refine cQ4.use ?_
    refine wpAny_cut ?_
    intro Q5 E5 cQ5 cE5
    k_steps
    refine ⟨?_⟩
    (rename Fr _ _ _ _ => Fz); (rename News _ _ _ _ => Nz)
    refine partCL (by exact Fz) (by exact Nz) hrk.1 hrk.2 ?_
    intro D3 ta tb tc h6 k6 F6 N6 l6
    clear Fz Nz
    k_steps
    refine ⟨?_⟩
    refine pPrep (w := w) ((nm r.1).map up1) _ _ (by rw [List.length_map]; exact Nat.le_trans (nm_len hrk.1) (by decide)) (up_sgn hrk.1) _ _ _ _ _ _ _ _ _ _ _ _ _ _ _ _ ⟨⟨_, by assumption⟩, by assumption, by assumption, by assumption, ⟨_, _, _, by assumption⟩, rfl⟩ ?hd3 ?hu3 ?ret3
    case hd3 => (dsimp only [ktrTop]); first | exact lim2 hd rfl | omega
    case hu3 => (dsimp only [ktrTop]); first | exact lim2 hu rfl | omega
    rintro t7 h7 tk7 ⟨_, F7, X7, N7, T7, _⟩
    rw [prep_up hrk.1]
    k_steps
    refine ⟨?_⟩
    refine intFigs hrk.2 ?_
    intro _ _
    k_steps
    refine ⟨?_⟩
    have N5' : News _ _ h ((D2, listOf ws.toArray 0) :: tabL XA dA LA hA tA eA iA.toArray nA (tabL XB dB LB hB tB eB its'.toArray nn (ex ++ news))) := fun p hp => N₅ p (.tail _ hp)
    have mB : (LB, listOf its'.toArray nn) ∈ (D2, listOf ws.toArray 0) :: tabL XA dA LA hA tA eA iA.toArray nA (tabL XB dB LB hB tB eB its'.toArray nn (ex ++ news)) := .tail _ (.tail _ (.tail _ (.tail _ (.tail _ (.tail _ (.head _))))))
    have gT : Good (tellAll rB (rA.take j)) := Good.tell (rowsOk_take gA.1 j) gB
    have hoB : ∀ p ∈ (I, oI) :: (D2, listOf ws.toArray 0) :: (XA, instObj 286 dA) :: (dA, dictOf [⟨hA, .str (S "_headers") tA, .ref LA⟩] eA) :: (LA, listOf iA.toArray nA) :: (ex ++ news), p.1 ≠ LB := by
      refine List.forall_mem_cons.mpr ⟨Ne.symm (off _ mB), List.forall_mem_cons.mpr ⟨hDB, List.forall_mem_cons.mpr ⟨off_list N5' (.tail _ (.head _)) mB (by intro q; cases q), List.forall_mem_cons.mpr ⟨off_list N5' (.tail _ (.tail _ (.head _))) mB (cls_ne (by decide)), List.forall_mem_cons.mpr ⟨hAB, ?_⟩⟩⟩⟩⟩
      intro p hp
      rcases List.mem_append.mp hp with g | g
      · exact off_list (oa := p.2) N5' (.tail _ (.tail _ (.tail _ (.tail _ (.tail _ (.tail _ (.tail _ (List.mem_append_left _ g)))))))) mB (by rw [hex p g]; exact cls_ne (by decide))
      · exact hoff p g
    have hBI : LB ≠ I := off _ mB
    clear N5'
    (rename Fr _ _ _ _ => Fz); (rename News _ _ _ _ => Nz)
    refine pLearn (w := w) XB dB LB hB tB eB its' nn (tellAll rB (rA.take j)) r.1 r.2 _ _ ((I, oI) :: (D2, listOf ws.toArray 0) :: (XA, instObj 286 dA) :: (dA, dictOf [⟨hA, .str (S "_headers") tA, .ref LA⟩] eA) :: (LA, listOf iA.toArray nA) :: (ex ++ news)) hrk.1 hrk.2 gT.1 (Rx.mono fun p hp => .tail _ (.tail _ (.tail _ (.tail _ (.tail _ hp))))) hoB (by rw [Rx.len]; exact gT.len) _ _ _ _ _ _ _ _ _ _ _ _ _ _ _ _ ⟨⟨_, by assumption⟩, by assumption, by assumption, by (first | assumption | ((rename News _ _ _ _ => nX); repeat' (first | (intro p hp; refine nX p ?_; (repeat (first | exact hp | apply List.Mem.tail)); done) | refine news_cons (nX _ (by (repeat (first | (exact List.Mem.head _; done) | refine List.Mem.tail _ ?_)))) ?_))), ⟨_, _, _, by assumption⟩, rfl⟩ ?hd4 ?hu4 ?ret4
    case hd4 => (dsimp only [ktrTop]); first | exact lim2 hd rfl | omega
    case hu4 => (dsimp only [ktrTop]); first | exact lim2 hu rfl | omega
    rintro ex2 n8 its8 h8 tk8 hex2 R8 ⟨_, F8, X8, N8, T8, _⟩
    clear Nz Fz
    k_steps
    refine cQ5.use ?_
    k_steps
    refine ⟨?_⟩
    (rename Fr _ _ _ _ => Fy2)
    have N9 := reorder N8
    have hI8 : (I, oI) ∈ tabL XB dB LB hB tB eB its8.toArray n8 (ex2 ++ (I, oI) :: (D2, listOf ws.toArray 0) :: (XA, instObj 286 dA) :: (dA, dictOf [⟨hA, .str (S "_headers") tA, .ref LA⟩] eA) :: (LA, listOf iA.toArray nA) :: (ex ++ news)) := .tail _ (.tail _ (.tail _ (List.mem_append_right _ (.head _))))
    refine ForEnd.next Fy2 N9 ?off2 ⟨⟨_, _, _, _, fr4_set⟩, ex2 ++ ex, n8, its8, rfl, ?hex3, ?rows3⟩
    case off2 =>
      refine List.forall_mem_cons.mpr ⟨off _ (.head _), List.forall_mem_cons.mpr ⟨off _ (.tail _ (.head _)), List.forall_mem_cons.mpr ⟨off _ (.tail _ (.tail _ (.head _))), List.forall_mem_cons.mpr ⟨off _ (.tail _ (.tail _ (.tail _ (.head _)))), List.forall_mem_cons.mpr ⟨off _ (.tail _ (.tail _ (.tail _ (.tail _ (.head _))))), List.forall_mem_cons.mpr ⟨off _ (.tail _ (.tail _ (.tail _ (.tail _ (.tail _ (.head _)))))), List.forall_mem_cons.mpr ⟨hBI, ?_⟩⟩⟩⟩⟩⟩⟩
      intro p hp
      rcases List.mem_append.mp hp with g | g
      · rcases List.mem_append.mp g with g | g
        · exact ne_objs (oa := p.2) N8 (.tail _ (.tail _ (.tail _ (List.mem_append_left _ g)))) hI8 (by rw [hex2 p g, hoI]; exact cls_ne (by decide))
        · exact off p (.tail _ (.tail _ (.tail _ (.tail _ (.tail _ (.tail _ (.tail _ (List.mem_append_left _ g))))))))
      · exact off p (.tail _ (.tail _ (.tail _ (.tail _ (.tail _ (.tail _ (.tail _ (List.mem_append_right _ g))))))))
    case hex3 =>
      intro q hq
      rcases List.mem_append.mp hq with g | g
      · exact hex2 q g
      · exact hex q g
    case rows3 =>
      rw [tellAll_take hrj]
      refine R8.of fun p hp hc => ?_
      rcases List.mem_append.mp hp with g | g
      · exact List.mem_append_left _ (List.mem_append_left _ g)
      · rcases List.mem_cons.mp g with rfl | g
        · exact absurd (hoI.symm.trans hc) (cls_ne (by decide))
        · rcases List.mem_cons.mp g with rfl | g
          · exact absurd hc (cls_ne (by decide))
          · rcases List.mem_cons.mp g with rfl | g
            · cases hc
            · rcases List.mem_cons.mp g with rfl | g
              · exact absurd hc (cls_ne (by decide))
              · rcases List.mem_cons.mp g with rfl | g
                · exact absurd hc (cls_ne (by decide))
                · rcases List.mem_append.mp g with g | g
                  · exact List.mem_append_left _ (List.mem_append_right _ g)
                  · exact List.mem_append_right _ g
  case done =>
    rintro m₁ news₁ h tk ⟨⟨a, b, c, d, rfl⟩, ex, nn, its', rfl, hex, Rx⟩ F₅ N₅
    rw [List.size_toArray, hwl, List.take_length] at Rx
    k_steps
    exact hend ex nn its' _ _ hex Rx ⟨⟨_, B⟩, by assumption, by assumption, by (first | assumption | ((rename News _ _ _ _ => nX); repeat' (first | (intro p hp; refine nX p ?_; (repeat (first | exact hp | apply List.Mem.tail)); done) | refine news_cons (nX _ (by (repeat (first | (exact List.Mem.head _; done) | refine List.Mem.tail _ ?_)))) ?_))), ⟨_, _, _, T⟩, hk⟩
end
end Mine
end
section
open PySem PySem.W PyProof.Rows PySem.Calls PySem.Spec PyProof
set_option maxRecDepth 100000
namespace Mine
open PySem.Sem (wp)
/-- the claim's own caller stands below on the stack -/
noncomputable def Call1 (Γ : PySem.Ctx) : Prop := (Γ.below.map (·.1)).any Code.isCaller = true
/-- as wpAny, for the contexts in which the claim's caller stands below -/
noncomputable def wpC {α : Type} (M : Model) (A : Around) (t : Sem α) (Q : α → Shared → Prop) (E : Value → Shared → Prop) (s : Shared) : Prop :=
  ∀ Γ p, Γ.In A → Call1 Γ → wp M Γ t (fun a _ s' => Q a s') (fun e _ s' => E e s') p s
noncomputable def codeC (M : Model) (A : Around) (c : Code) (R : Result → Shared → Prop) (s : Shared) : Prop :=
  ∀ Γ p, Γ.code = c → Γ.Below A → Call1 Γ → wpCode M Γ R p s
theorem Call1.enter {Γ : PySem.Ctx} (h : Call1 Γ) (c : Code) (hd : Option Value) (p : Pos) : Call1 (Γ.enter c hd p) := by
  show (((Γ.code, p) :: Γ.below).map (·.1)).any Code.isCaller = true
  rw [List.map_cons, List.any_cons, Bool.or_eq_true]
  exact .inr h
section
variable {α β : Type} {M : Model} {A : Around} {E : Value → Shared → Prop} {s : Shared}
theorem wpC_of_any {t : Sem α} {Q : α → Shared → Prop} (h : wpAny M A t Q E s) : wpC M A t Q E s := fun Γ p hΓ _ => h Γ p hΓ
theorem codeC_of_any {c : Code} {R : Result → Shared → Prop} (h : codeAny M A c R s) : codeC M A c R s := fun Γ p hc hΓ _ => h Γ p hc hΓ
theorem wpC_pure {a : α} {Q : α → Shared → Prop} (h : Q a s) : wpC M A (pure a) Q E s := fun _ _ _ _ => h
theorem wpC_mono {t : Sem α} {Q Q' : α → Shared → Prop} {E' : Value → Shared → Prop} (h : wpC M A t Q E s) (hQ : ∀ a s, Q a s → Q' a s) (hE : ∀ e s, E e s → E' e s) : wpC M A t Q' E' s :=
  fun Γ p hΓ hc => Sem.wp_mono M Γ t (fun a _ s => hQ a s) (fun e _ s => hE e s) p s (h Γ p hΓ hc)
theorem wpC_cut {t : Sem α} {Q : α → Shared → Prop} (h : ∀ Q' E', Cut Q Q' → Cut E E' → wpC M A t Q' E' s) : wpC M A t Q E s := h Q E ⟨fun _ _ x => x⟩ ⟨fun _ _ x => x⟩
theorem wpC_bind {m : Sem α} {f : α → Sem β} {Q : β → Shared → Prop} (h : wpC M A m (fun a s' => wpC M A (f a) Q E s') E s) : wpC M A (m >>= f) Q E s := fun Γ p hΓ hc => by
  rw [Sem.wp_bind']
  exact Sem.wp_mono M Γ m (fun a p' s' h' => h' Γ p' hΓ hc) (fun _ _ _ h' => h') p s (h Γ p hΓ hc)
theorem wpC_onRaise {m : Sem α} {k : Value → Sem Unit} {Q : α → Shared → Prop} (h : wpC M A m Q (fun e s' => wpC M A (k e) (fun _ s'' => E e s'') E s') s) : wpC M A (m.onRaise k) Q E s := fun Γ p hΓ hc => by
  rw [Sem.wp_onRaise]
  exact Sem.wp_mono M Γ m (fun _ _ _ h' => h') (fun e p' s' h' => h' Γ p' hΓ hc) p s (h Γ p hΓ hc)
theorem wpC_attempt {m : Sem α} {Q : Except Value α → Shared → Prop} (h : wpC M A m (fun a => Q (.ok a)) (fun e => Q (.error e)) s) : wpC M A m.attempt Q E s :=
  fun Γ p hΓ hc => by rw [Sem.wp_attempt]; exact h Γ p hΓ hc
theorem wpC_holding {vs : List Value} {m : Sem α} {Q : α → Shared → Prop} (h : wpC M A m Q E s) : wpC M A (holding vs m) Q E s :=
  fun Γ p hΓ hc => by rw [Sem.wp_holding]; exact h Γ p hΓ hc
theorem wpC_rule {tag : String} {Q : Unit → Shared → Prop} (h : Q () s) : wpC M A (rule tag) Q E s := fun _ _ _ _ => h
theorem wpC_standAt {pos : Pos} {Q : Unit → Shared → Prop} (h : Q () s) : wpC M A (standAt pos) Q E s := fun _ _ _ _ => h
theorem wpC_of_eq {m : Sem α} {a : α} {Q : α → Shared → Prop} (e : m = pure a) (h : Q a s) : wpC M A m Q E s := by rw [e]; exact wpC_pure h
theorem codeC_mono {c : Code} {R R' : Result → Shared → Prop} (h : codeC M A c R s) (hR : ∀ r s, R r s → R' r s) : codeC M A c R' s :=
  fun Γ p hc hΓ h1 => wpCode_mono hR (h Γ p hc hΓ h1)
theorem wpC_run {c : Code} {h : Option Value} {Q : Flow → Shared → Prop}
    (hc : codeC M (A.mark h) c (fun r s' => match r with | .ok f => Q f s' | .error e => E e s') s) (hnb : h ≠ some byPass := by intro x; cases x) : wpC M A (run c h) Q E s :=
  fun Γ p hΓ h1 => by rw [Sem.wp_run]; exact hc _ p rfl (hΓ.enter c h p hnb) (h1.enter c h p)
theorem wpC_runOwn {env : Env} {c : Code} {h : Option Value} {Q : Flow → Shared → Prop}
    (hc : codeC M (A.mark h) c (fun r s' => match r with | .ok f => Q f s' | .error e => cameBackBy M A env E e s') s) (hnb : h ≠ some byPass := by intro x; cases x) : wpC M A (runOwn c env h) Q E s := by
  unfold runOwn
  exact wpC_onRaise (wpC_mono (wpC_run hc hnb) (fun _ _ h => h) fun _ _ h => wpC_of_any h)
theorem wpC_call {f : Value} {pos : List Value} {kw : List (PySem.Str × Value)} {Q : Value → Shared → Prop}
    (hc : codeC M A (.call f ⟨pos, kw⟩) (fun r s' => match r with | .ok (.ret v) => Q v s' | .ok _ => False | .error e => E e s') s) : wpC M A (call f pos kw) Q E s :=
  fun Γ p hΓ h1 => by
    show wp M Γ (runValue (.call f ⟨pos, kw⟩)) _ _ p s
    rw [Sem.wp_runValue]; exact hc _ p rfl (hΓ.enter _ none p (by intro x; cases x)) (h1.enter _ none p)
theorem codeC_of_tree {c : Code} {R : Result → Shared → Prop}
    (h : wpC M (A.under c) (M.den c) (fun fin s' => match fin with | .done f => R (.ok f) s' | .again c' => c'.quiet = true ∧ codeC M A c' R s') (fun e s' => R (.error e) s') s) : codeC M A c R s := fun Γ p hc hΓ h1 => by
  rw [wpCode_iff_wp, hc]
  refine Sem.wp_mono M Γ _ (fun fin p' s' h' => ?_) (fun _ _ _ h' => h') p s (h Γ p (hc ▸ hΓ.in) h1)
  cases fin with
  | done f => exact h'
  | again c' => exact ⟨h'.1, h'.2 (Γ.goto c') p' rfl (hΓ.goto c') h1⟩
end
section
variable {prog : Program} {w : World} {A : Around} {E : Value → Shared → Prop} {s : Shared} {env : Env} {R : Result → Shared → Prop}
theorem wpC_execs_cons {M : Model} {st : Stmt} {rest : List Stmt} {Q : Flow → Shared → Prop}
    (h : wpC M A (exec st env) (fun f s' => match f with | .next => wpC M A (execs rest env) Q E s' | f => Q f s') E s) : wpC M A (execs (st :: rest) env) Q E s := by
  rw [execs_cons]
  refine wpC_bind (wpC_mono h (fun f s' h' => ?_) fun _ _ x => x)
  cases f <;> first | exact h' | exact wpC_pure h'
theorem wpC_bindName {M : Model} {x : PySem.Str} {v : Value} {Q : Unit → Shared → Prop} (h : wpC M A (storeName env x v) Q E s) : wpC M A (bindName env x v) Q E s :=
  fun Γ p hΓ hc => by rw [Sem.wp_bindName]; exact h Γ p hΓ hc
theorem wpC_Assign_Name {M : Model} {x : PySem.Str} {pos' pos : Pos} {value : PySem.Expr} {Q : Flow → Shared → Prop}
    (h : wpC M A (eval value env) (fun v s₁ => wpC M A (storeName env x v) (fun _ => Q .next) E s₁) E s)
    (hs : swapsWith value (some (.Name x pos')) pos.line env = pure false := by rfl) : wpC M A (exec (.Assign [.Name x pos'] value pos) env) Q E s := by
  rw [exec_Assign_Name env x pos' value pos hs]
  exact wpC_bind (wpC_standAt (wpC_bind (wpC_mono h (fun v s₁ h₁ => wpC_bind (wpC_standAt (wpC_bind (wpC_bindName (wpC_mono h₁ (fun _ _ h => wpC_pure h) fun _ _ x => x))))) fun _ _ x => x)))
theorem wpC_Return {M : Model} {e : PySem.Expr} {pos : Pos} {Q : Flow → Shared → Prop} (h : wpC M A (eval e env) (fun v => Q (.ret v)) E s) : wpC M A (exec (.Return (some e) pos) env) Q E s := by
  rw [exec_Return_some]
  exact wpC_bind (wpC_standAt (wpC_bind (wpC_mono h (fun _ _ h => wpC_pure h) fun _ _ x => x)))
theorem wpC_If {M : Model} {test : PySem.Expr} {body orelse : List Stmt} {pos : Pos} {Q : Flow → Shared → Prop}
    (h : wpC M A (isTrue test env (eval test env)) (fun b s₂ => if b then wpC M A (execs body env) Q E s₂ else wpC M A (execs orelse env) Q E s₂) E s) : wpC M A (exec (.If test body orelse pos) env) Q E s := by
  rw [exec_If]
  refine wpC_bind (wpC_standAt (wpC_bind (wpC_mono h (fun b s₂ h₂ => ?_) fun _ _ x => x)))
  cases b <;> exact h₂
theorem wpC_Expr {e : PySem.Expr} {pos : Pos} {Q : Flow → Shared → Prop} (h : wpC (model prog w) A (eval e env) (fun _ => Q .next) E s)
    (hi : interactive env = false := by rfl) (hs : swapsWith e none pos.line env = pure false := by rfl) : wpC (model prog w) A (exec (.Expr e pos) env) Q E s := by
  rw [exec_Expr env e pos hi hs]
  exact wpC_bind (wpC_standAt (wpC_bind (wpC_mono h (fun v s' h' => wpC_of_any (wpAny_dropValue h')) fun _ _ x => x)))
theorem codeC_func {body : List Stmt}
    (h : wpC (model prog w) (A.deeper env) (execs body env) (fun f s' => R (.ok (.ret (match f with | .ret v => v | _ => .none))) s')
      (fun e s' => wpAny (model prog w) (A.deeper env) (leaving env e) (fun _ s'' => R (.error e) s'') (fun e' s'' => R (.error e') s'') s') s) : codeC (model prog w) A (.func body env) R s := by
  refine codeC_of_tree ?_
  show wpC _ (A.deeper env) (do point; match ← (execs body env).onRaise (leaving env) with | .ret v => ret v | _ => ret .none) _ _ s
  refine wpC_bind (wpC_of_any (wpAny_point (wpC_bind (wpC_onRaise (wpC_mono h (fun f s' h' => ?_) fun _ _ h' => wpC_of_any h')))))
  cases f <;> exact wpC_pure h'
theorem codeC_call_function {a : Addr} {args : Args} {o : Obj} {fd : FuncData} {body : List Stmt} (hroom : A.depth < recursionLimit) (ho : s.heap.get? a = some o)
    (hd' : o.data = .func fd) (hco : fd.scope.isCoroutine = false) (hgen : fd.scope.isGenerator = false) (hbody : fd.body = .stmts body) (hcd : s.heap.CodeRec fd.code fd.qualname)
    (h : wpAny (model prog w) A.in1 (bindArgs fd args) (fun binds s₁ =>
      wpAny (model prog w) A.in1 (newFunctionEnv fd.scope fd.globals fd.closure binds (fd.qualname ++ ".<locals>.") (some a) fd.code none fd.builtins)
        (fun env s₂ => s₂.heap.NoLimit ∧ codeC (model prog w) A (.func body env) R s₂) (fun e s' => R (.error e) s') s₁) (fun e s' => R (.error e) s') s) :
    codeC (model prog w) A (.call (.ref a) args) R s := by
  refine codeC_of_tree (wpC_of_any ?_)
  show wpAny _ A.in1 (callAny (.ref a) args) _ _ s
  simp only [callAny]
  refine wpAny_bind (wpAny_load ho ?_)
  obtain ⟨c, oc, vs, tq, hc, hoc, hdc, hq⟩ := hcd
  simp only [hd', callFunction, hco, hgen, hbody, hc]
  rw [hc] at h
  refine wpAny_bind (m := field (.ref c) 1) (wpAny_field hoc hdc hq (wpAny_bind (wpAny_pure ?_)))
  exact wpAny_bind (wpAny_mono h (fun binds s₁ h₁ => wpAny_bind (wpAny_mono h₁ (fun env s₂ h₂ => wpAny_bind (wpAny_enterFrame h₂.1 hroom
    (wpAny_pure (And.intro rfl h₂.2)))) fun _ _ h' => h')) fun _ _ h' => h')
end
end Mine
end
section
open PySem PySem.W PyProof.Rows PySem.Calls PySem.Spec PyProof
set_option maxRecDepth 100000
set_option maxHeartbeats 4000000
namespace Mine
open PySem.Sem (wp)
section
variable {prog : Program} {w : World} {A : Around} {E : Value → Shared → Prop} {s : Shared} {R : Result → Shared → Prop}
theorem codeC_builtin {id : String} {args : Args} {b : Builtin} (hb : entryFor table id = some b)
    (h : wpC (model prog w) (A.under (.builtin id args)) (b args)
      (fun fin s' => match fin with | .done f => R (.ok f) s' | .again c' => c'.quiet = true ∧ codeC (model prog w) A c' R s') (fun e s' => R (.error e) s') s) :
    codeC (model prog w) A (.builtin id args) R s := by
  refine codeC_of_tree ?_
  show wpC _ _ (match entryFor table id with | some b => b args | none => unsupported ((withoutEnding? id "#data").getD id)) _ _ s
  rw [hb]; exact h
theorem shown_fits (shown : PySem.Str) : (PySem.Str.ofString (toString "invalid literal for int() with base " ++ toString 10 ++ toString ": ") ++ ⟨shown.cps.extract 0 200⟩ : PySem.Str).length ≤ sizeLine := by
  show (_ ++ (⟨shown.cps.extract 0 200⟩ : PySem.Str).cps : Array Nat).size ≤ sizeLine
  rw [Array.size_append]
  have h1 : (PySem.Str.ofString (toString "invalid literal for int() with base " ++ toString 10 ++ toString ": ")).length ≤ 100 := by decide +kernel
  have h2 : (⟨shown.cps.extract 0 200⟩ : PySem.Str).length ≤ 200 := by
    show (shown.cps.extract 0 200).size ≤ 200
    rw [Array.size_extract]; omega
  exact Nat.le_trans (Nat.add_le_add h1 h2) (Nat.le_of_ble_eq_true rfl)
theorem wpC_mark {M : Model} {own : List String} {e : Value} {Q : Unit → Shared → Prop} (h : Q () s) : wpC M A (markTheRefusal own e) Q E s := by
  unfold markTheRefusal
  intro Γ p hΓ hc
  rw [Sem.wp_bind']
  have h1 : (((Γ.code, p) :: Γ.below).map (·.1)).any Code.isCaller = true := by
    rw [List.map_cons, List.any_cons, Bool.or_eq_true]
    exact .inr hc
  have h2 : pythonCodeMadeTheCall own (((Γ.code, p) :: Γ.below).map (·.1)) = false := by
    unfold pythonCodeMadeTheCall
    exact (by decide : ∀ a b c : Bool, a = true → ((!a && b) && c) = false) _ _ _ h1
  show wp M Γ (if pythonCodeMadeTheCall own (((Γ.code, p) :: Γ.below).map (·.1)) = true then _ else _) _ _ p s
  rw [if_neg (by rw [h2]; exact Bool.false_ne_true)]
  exact h
open PySem.NumText in
theorem badText {x : PySem.Str} {t : Tok} {Q : Value → Shared → Prop} (hl : x.length ≤ 640) (hn : PySem.intText? x = none) (hh : A.handled = none) (hrep : (PySem.reprText x).length ≤ sizeLine) (h : ∀ h' e k v, Heap.MadeExc s.heap h' e "ValueError" [v] → E (.ref e) { s with heap := h', toks := k }) :
    wpC (model prog w) A ((int_private% "intFromText") (.str x t) (numTextOf x) 10) Q E s := by
  show wpC _ _ (if (numSeenOf x).length ≤ 640 then _ else _) _ _ _
  rw [if_pos (by exact Nat.le_trans (seen_length x) hl)]
  refine wpC_bind (wpC_pure ?_)
  dsimp only
  rcases read0 x (Nat.le_trans (seen_length x) hl) with ⟨n, h1, _⟩ | ⟨_, hr | ⟨i, hr, hne⟩⟩
  · rw [hn] at h1; cases h1
  · have hr' : (int_private% "readNumeral") 0 10 (List.takeWhile (fun x => x != 0) (numTextOf x)) = (int_private% "Numeral.invalid") := hr
    rw [hr']
    dsimp only
    refine wpC_bind (wpC_of_eq (show (int_private% "bytesOf?") (.str x t) = pure none from rfl) ?_)
    rw [if_neg (by simp)]
    refine wpC_bind (wpC_rule ?_)
    refine wpC_bind (wpC_of_eq (show (int_private% "bytesOf?") (.str x t) = pure none from rfl) ?_)
    dsimp only
    refine wpC_bind (wpC_of_any ?_)
    refine wpAny_pyRepr_str ?_ hrep
    refine wpC_bind (wpC_of_any ?_)
    refine wpAny_mkStr ?_ (shown_fits (PySem.reprText x))
    refine wpC_bind (wpC_of_any (wpAny_newExc_plain plainExc_ValueError fun h' e hm => ?_))
    exact wpC_bind (wpC_mark (wpC_of_any (wpAny_raiseNew_none hh (h h' e _ _ hm))))
  · have hr' : (int_private% "readNumeral") 0 10 (List.takeWhile (fun x => x != 0) (numTextOf x)) = (int_private% "Numeral.value") i := hr
    rw [hr']
    dsimp only
    rw [if_neg (by exact hne)]
    refine wpC_bind (wpC_rule ?_)
    refine wpC_bind (wpC_of_eq (show (int_private% "bytesOf?") (.str x t) = pure none from rfl) ?_)
    dsimp only
    refine wpC_bind (wpC_of_any ?_)
    refine wpAny_pyRepr_str ?_ hrep
    refine wpC_bind (wpC_of_any ?_)
    refine wpAny_mkStr ?_ (shown_fits (PySem.reprText x))
    refine wpC_bind (wpC_of_any (wpAny_newExc_plain plainExc_ValueError fun h' e hm => ?_))
    exact wpC_bind (wpC_mark (wpC_of_any (wpAny_raiseNew_none hh (h h' e _ _ hm))))
open PySem.NumText in
theorem intBad {x : PySem.Str} {t : Tok} {Q : Value → Shared → Prop} (hl : x.length ≤ 640) (hn : PySem.intText? x = none) (hh : A.handled = none) (hrep : (PySem.reprText x).length ≤ sizeLine) (h : ∀ h' e k v, Heap.MadeExc s.heap h' e "ValueError" [v] → E (.ref e) { s with heap := h', toks := k }) : wpC (model prog w) A (call (.type "int") [.str x t]) Q E s := by
  refine wpC_call (codeC_of_tree ?_)
  show wpC _ _ (callAny (.type "int") _) _ _ _
  refine wpC_pure ⟨Code.quiet_builtin _ (by decide +kernel), codeC_builtin F.entry_type_call ?_⟩
  rw [Around.under_plain (weight_type_call_type "int" [.str x t] []) rfl]
  unfold Builtin.«type.__call__»
  dsimp only
  have ft := F.called_int
  rw [if_neg (by rw [ft.notType]; exact Bool.false_ne_true), if_neg (by rw [ft.canCreate]; exact Bool.false_ne_true)]
  refine wpC_bind (wpC_of_eq (F.typeCall_int_1 _) ?_)
  obtain ⟨c, tl, hmro⟩ := ft.mro
  refine wpC_bind (wpC_of_eq hmro ?_)
  rw [if_neg (by exact Bool.false_ne_true)]
  refine wpC_bind (wpC_of_eq ft.made ?_)
  dsimp only
  refine wpC_bind (wpC_pure ?_)
  refine wpC_bind (wpC_holding (wpC_call (codeC_of_tree ?_)))
  show wpC _ _ (do checkBuiltinCall "int.__new__" ⟨[.type "int", .str x t], []⟩; again (.builtin "int.__new__" ⟨[.type "int", .str x t], []⟩)) _ _ s
  refine wpC_bind (wpC_of_eq (F.newCall_int_1 _) (wpC_pure ⟨plainId_quiet (by decide +kernel) _, codeC_builtin F.entry_int_new ?_⟩))
  rw [Around.under_plainId (by decide +kernel) _]
  unfold Builtin.«int.__new__»
  dsimp only
  refine wpC_bind (wpC_of_eq (a := true) rfl ?_)
  rw [if_neg (by exact Bool.false_ne_true)]
  refine wpC_bind (wpC_of_eq F.conv_sub_int ?_)
  rw [if_neg (by exact Bool.false_ne_true)]
  refine wpC_bind (wpC_of_eq F.madeHere_int ?_)
  rw [if_neg (by simp), if_neg (by simp)]
  refine wpC_bind (wpC_of_eq (a := PUnit.unit) rfl ?_)
  dsimp only [List.head?, List.getElem?_cons_succ]
  refine wpC_bind ?_
  show wpC _ _ ((int_private% "intFromObject") (.str x t)) _ _ _
  show wpC _ _ (callSpecial? (.str x t) (PySem.Str.ofString "__int__") >>= _) _ _ _
  refine wpC_bind ?_
  show wpC _ _ (specialOf (.str x t) (PySem.Str.ofString "__int__") >>= _) _ _ _
  refine wpC_bind (wpC_of_eq (show specialOf (.str x t) (PySem.Str.ofString "__int__") = pure none from KIN.str_int) ?_)
  refine wpC_pure ?_
  dsimp only
  refine wpC_bind (wpC_of_eq (show specialOf (.str x t) (PySem.Str.ofString "__index__") = pure none from KIN.str_idx) ?_)
  rw [if_neg (by exact Bool.false_ne_true)]
  refine wpC_bind (wpC_of_eq (show specialOf (.str x t) (PySem.Str.ofString "__trunc__") = pure none from KIN.str_trunc) ?_)
  dsimp only
  refine wpC_bind (wpC_of_eq (show (int_private% "numeralText?") (.str x t) = pure (some (numTextOf x)) from rfl) ?_)
  dsimp only
  show wpC _ _ ((int_private% "intFromText") (.str x t) (numTextOf x) 10) _ _ _
  exact badText hl hn hh hrep h
end
end Mine
end
section
open PySem PySem.W PyProof.Rows PySem.Calls PySem.Spec PyProof
set_option maxRecDepth 100000
namespace Mine
open PySem.Sem (wp)
section
variable {prog : Program} {w : World} {A : Around} {s : Shared}
theorem codeC_call_def {R : Result → Shared → Prop} {a : Addr} {o : Obj} {fd : FuncData} {body : List Stmt} {args : Args} {binds : List (PySem.Str × Value)}
    (hroom : A.depth < recursionLimit) (ho : s.heap.get? a = some o) (hdata : o.data = .func fd) (hlim : s.heap.NoLimit) (hcd : s.heap.CodeRec fd.code fd.qualname)
    (hbody : fd.body = .stmts body) (hbind : BindsTo s fd args binds)
    (hcell : ∀ x ∈ fd.scope.names, x.2 ≠ .cell) (hloc : ∀ x ∈ binds, fd.scope.names.lookup x.1 = some .local)
    (h : ∀ h₀, h₀.Ns s.heap.objs.size (fun x => binds.reverse.lookup x) → (∀ b o, s.heap.get? b = some o → h₀.get? b = some o) →
      wpC (model prog w) (A.deeper (callEnv fd s.heap.objs.size a)) (execs body (callEnv fd s.heap.objs.size a)) (fun f s' => R (.ok (.ret (match f with | .ret v => v | _ => .none))) s')
        (fun e s' => wpAny (model prog w) (A.deeper (callEnv fd s.heap.objs.size a)) (leaving (callEnv fd s.heap.objs.size a) e) (fun _ s'' => R (.error e) s'') (fun e' s'' => R (.error e') s'') s')
        { s with heap := h₀, toks := s.toks + binds.length })
    (hco : fd.scope.isCoroutine = false := by rfl) (hgen : fd.scope.isGenerator = false := by rfl) (hk : fd.scope.kind = .function := by rfl) :
    codeC (model prog w) A (.call (.ref a) args) R s := by
  refine codeC_call_function hroom ho hdata hco hgen hbody hcd (hbind _ _ _ _ ?_)
  refine wpAny_newFunctionEnv hcell hloc (fun h₀ hns₀ hsb₀ => ⟨hlim.fresh _ hsb₀, codeC_func (h h₀ hns₀ fun b o e => ?_)⟩) hk
  exact hsb₀.extBut b o (Nat.ne_of_lt (Heap.lt_size e)) (Heap.get?_push_of_some _ e)
end
section
variable {prog : Program} {w : World} {A₀ A : Around} {s : Shared} {base h₀ : Heap} {outer : List Env} {L : Addr} {m : PySem.Str → Option Value} {env : Env} {news : List (Addr × Obj)} {K : Frag}
  {p : Program} {loose : List PySem.Str} {mean : ExcName → Option Value} {mg mb : PySem.Str → Option Value}
theorem code_defQ {R : Result → Shared → Prop} {name qual : PySem.Str} {params : Arguments} {body : List Stmt} {scope : Scope} {dV kV doc pm cdv ct oc : Value} {an od : Option Addr} {osl : Array (Option Value)} {f : Addr} {args : Args} {binds : List (PySem.Str × Value)}
    (B : Below A₀ base outer h₀) (F : Fr h₀ L s.heap m) (X₀ : K.In h₀) (N : News h₀ L s.heap news) (T : Top p loose mean mg mb h₀) (hA : A.frames = some (env :: outer)) (hf : env.frame = some L) (hke : env.scope.kind = .function)
    (ho : K.lookup f = some ⟨oc, od, .func (fnOf name qual params body scope dV kV doc pm an cdv ct), osl⟩) (hcd : codeIn K cdv qual = true) (hroom : A.depth < recursionLimit)
    (hbind : BindsTo s (fnOf name qual params body scope dV kV doc pm an cdv ct) args binds) (hloc : ∀ y ∈ binds, scope.names.lookup y.1 = some .local)
    (h : ∀ g L' h₁, Fr h₀ L g m → Fr g L' h₁ (fun y => binds.reverse.lookup y) → News g L' h₁ news → Below A base (env :: outer) g → K.In g → Top p loose mean mg mb g →
      wpC (model prog w) (A.deeper (envOf qual scope L' f cdv)) (execs body (envOf qual scope L' f cdv))
        (fun fl s' => LeaveK h₀ L m g R (match fl with | .ret v => v | _ => .none) s')
        (fun e s' => wpAny (model prog w) (A.deeper (envOf qual scope L' f cdv)) (leaving (envOf qual scope L' f cdv) e) (fun _ s'' => R (.error e) s'') (fun e' s'' => R (.error e') s'') s')
        { s with heap := h₁, toks := s.toks + binds.length })
    (hco : scope.isCoroutine = false) (hgen : scope.isGenerator = false) (hk : scope.kind = .function)
    (hcell : ∀ x ∈ scope.names, x.2 ≠ .cell) : codeC (model prog w) A (.call (.ref f) args) R s := by
  obtain ⟨FG, BG, st, lv⟩ := groundX (R := R) B F N hA hf hke
  refine codeC_call_def (fd := fnX name qual params body scope [] dV kV doc pm an cdv ct) (body := body) (binds := binds) hroom ((X₀.keeps F.keep) _ _ ho) rfl (T.nolimit.keeps F.keep) (codeRec_of (X₀.keeps F.keep) hcd) rfl hbind hcell hloc (fun h₁ hns hk₁ => ?_) hco hgen hk
  exact wpC_mono (h _ s.heap.objs.size h₁ FG ⟨hns, fun b o e => hk₁ b o (of_hideAll _ e), Nat.le_of_eq (hideAll_size _ _)⟩
    (fun p hp => ⟨hk₁ _ _ (N p hp).1, Nat.ne_of_lt (Heap.lt_size (N p hp).1), hideAll_none _ (List.mem_map_of_mem hp)⟩) BG (X₀.keeps st) (T.keeps st)) (fun fl s' hl => lv _ _ hl) fun _ _ y => y
end
section
variable {M : Model} {A : Around} {E : Value → Shared → Prop} {s : Shared} {K : Frag} {env : Env} {pos : Pos} {f : Value} {first : List Value} {Q : Value → Shared → Prop}
theorem wpC_callWith_of {P : Heap → Prop} {args : List (Bool × Sem Value)} {keywords : List (Option PySem.Str × Sem Value)} (hplain : (args.any (·.1) || keywords.any (·.1.isNone)) = false)
    (hk : ∀ h, P h → ∃ k, (k = Keeper.frame ∨ k = Keeper.machine ∨ k = Keeper.boundFrame) ∧ Looks M h (keeperOf f) k)
    (h : wpAny M A (evalArgs f true args keywords) (fun a s₁ => P s₁.heap ∧ wpC M A (call f (first ++ a.pos) a.kw) Q E s₁) E s) : wpC M A (callWith pos f first args keywords) Q E s := by
  unfold callWith
  refine wpC_bind (wpC_holding (wpC_of_any (wpAny_mono h (fun a s₁ h₁ => wpC_bind (wpC_standAt ?_)) fun _ _ x => x)))
  obtain ⟨k, hk', L⟩ := hk _ h₁.1
  simp only [hplain]
  refine wpC_bind (wpC_of_any (L.here ?_))
  have tail : ∀ {t : Sem Value}, wpC M A t Q E s₁ → wpC M A (t >>= fun r => holding [r] point >>= fun _ => pure r) Q E s₁ :=
    fun ht => wpC_bind (wpC_mono ht (fun r s₂ hr => wpC_bind (wpC_of_any (wpAny_holding (wpAny_point (wpC_pure hr))))) fun _ _ x => x)
  have marked (mk : Value) : wpC M A (callMarked mk f (first ++ a.pos) a.kw) Q E s₁ := by
    unfold callMarked
    exact fun Γ p hΓ hc => by rw [Sem.wp_keep]; exact h₁.2 Γ p hΓ hc
  rcases hk' with rfl | rfl | rfl <;> dsimp only <;> first | exact tail h₁.2 | (split <;> first | exact tail h₁.2 | exact tail (marked _))
theorem wpC_callWith_K {e : PySem.Expr} {rest : List PySem.Expr} (hk : keepIn K f = true) (h : wpAny M A (spliced (backTo pos (starEach (e :: rest) env))) (fun vs s₁ => K.In s₁.heap ∧ wpC M A (call f (first ++ vs)) Q E s₁) E s)
    (he : starEach (e :: rest) env = (false, eval e env) :: starEach rest env := by rfl) (hplain : (backTo pos (starEach rest env)).any (·.1) = false := by rfl) :
    wpC M A (callWith pos f first (backTo pos (starEach (e :: rest) env)) []) Q E s := by
  rw [he] at h ⊢
  exact wpC_callWith_of (by show ((false || (backTo pos (starEach rest env)).any (·.1)) || false) = false; rw [hplain]; rfl) (keeps_K hk) (evalArgs_plain h)
theorem wpC_callWith_type1 {T : String} {e : PySem.Expr} {rest : List PySem.Expr} (h : wpAny M A (spliced (backTo pos (starEach (e :: rest) env))) (fun vs s₁ => wpC M A (call (.type T) vs) Q E s₁) E s)
    (he : starEach (e :: rest) env = (false, eval e env) :: starEach rest env := by rfl) (hplain : (backTo pos (starEach rest env)).any (·.1) = false := by rfl) :
    wpC M A (callWith pos (.type T) [] (backTo pos (starEach (e :: rest) env)) []) Q E s := by
  rw [he] at h ⊢
  exact wpC_callWith_of (P := fun _ => True) (by show ((false || (backTo pos (starEach rest env)).any (·.1)) || false) = false; rw [hplain]; rfl) (fun _ _ => ⟨.machine, .inr (.inl rfl), .now⟩) (evalArgs_plain (wpAny_mono h (fun _ _ q => ⟨trivial, q⟩) fun _ _ x => x))
theorem wpC_Call_Name {id : PySem.Str} {p : Pos} {args : List PySem.Expr} {keywords : List Keyword}
    (h : wpAny M A (eval (.Name id p) env) (fun f s₁ => wpC M A (callWith pos f [] (backTo pos (starEach args env)) (backToKw pos (keywordEach keywords env))) Q E s₁) E s) :
    wpC M A (eval (.Call (.Name id p) args keywords pos) env) Q E s := by
  rw [arm_eval_Call_Name']
  exact wpC_bind (wpC_of_any h)
end
section
variable {prog : Program} {w : World} {A₀ A : Around} {s : Shared} {base h₀ : Heap} {L : Addr} {m : PySem.Str → Option Value} {env : Env} {news : List (Addr × Obj)} {K : Frag} {p : Program} {loose : List PySem.Str} {mean : ExcName → Option Value} {mg mb : PySem.Str → Option Value}
    {R : Result → Shared → Prop} {name qual : PySem.Str} {params : Arguments} {body : List Stmt} {scope : Scope} {dV kV doc pm cdv ct oc : Value} {an od : Option Addr} {osl : Array (Option Value)} {f : Addr} {args : Args} {binds : List (PySem.Str × Value)}
/-- entering a def with a try in it, from a frame that may have cells, the claim's caller below -/
theorem code_defSQ (B : Below A₀ base [] h₀) (F : Fr h₀ L s.heap m) (X₀ : K.In h₀) (N : News h₀ L s.heap news) (T : Top p loose mean mg mb h₀) (hA : A.frames = some [env]) (hf : env.frame = some L) (hke : env.scope.kind = .function)
    (ho : K.lookup f = some ⟨oc, od, .func (fnOf name qual params body scope dV kV doc pm an cdv ct), osl⟩) (hcd : codeIn K cdv qual = true) (hroom : A.depth < recursionLimit)
    (hbind : BindsTo s (fnOf name qual params body scope dV kV doc pm an cdv ct) args binds) (hloc : ∀ y ∈ binds, scope.names.lookup y.1 = some .local)
    (h : ∀ g L' h₁, Fr h₀ L g m → Fr g L' h₁ (fun y => binds.reverse.lookup y) → News g L' h₁ news → Below A base [env] g → K.In g → Top p loose mean mg mb g → KtsDicts ([env].filterMap (·.frame)) g →
      wpC (model prog w) (A.deeper (envOf qual scope L' f cdv)) (execs body (envOf qual scope L' f cdv))
        (fun fl s' => LeaveS0 ([env].filterMap (·.frame)) h₀ L m g R (match fl with | .ret v => v | _ => .none) s')
        (fun e s' => wpAny (model prog w) (A.deeper (envOf qual scope L' f cdv)) (leaving (envOf qual scope L' f cdv) e) (fun _ s'' => R (.error e) s'') (fun e' s'' => R (.error e') s'') s')
        { s with heap := h₁, toks := s.toks + binds.length })
    (hco : scope.isCoroutine = false) (hgen : scope.isGenerator = false) (hk : scope.kind = .function)
    (hcell : ∀ x ∈ scope.names, x.2 ≠ .cell) : codeC (model prog w) A (.call (.ref f) args) R s := by
  have X := X₀.keeps F.keep
  have hfs : [env].filterMap (·.frame) = [L] := by simp [hf]
  refine codeC_call_def (fd := fnOf name qual params body scope dV kV doc pm an cdv ct) (body := body) (binds := binds) hroom (X _ _ ho) rfl (T.nolimit.keeps F.keep) (codeRec_of X hcd) rfl hbind hcell hloc (fun h₁ hns hk₁ => ?_) hco hgen hk
  have nm : ∀ b o, h₀.get? b = some o → b ∉ news.map (·.1) := fun b o e q => by
    obtain ⟨p, hp, rfl⟩ := List.mem_map.mp q
    rw [(N p hp).2.2] at e; cases e
  have st : h₀.StaysIn (hideAll s.heap (news.map (·.1))) := fun b o e => hideAll_get _ (F.keep b o e) (nm b o e)
  obtain ⟨oL, es, ep, hL, hLd, hLk, hLf⟩ := id F.ns
  have nL : L ∉ news.map (·.1) := fun q => by
    obtain ⟨p, hp, e⟩ := List.mem_map.mp q
    exact (N p hp).2.1 e
  have hLg := hideAll_get (news.map (·.1)) hL nL
  have hN : ∀ h', h'.get? L = some oL → Heap.Ns h' L m := fun h' e => ⟨oL, es, ep, e, hLd, hLk, hLf⟩
  have hNs : ∀ (sl : Array (Option Value)) h', h'.get? L = some { oL with slots := sl } → Heap.Ns h' L m := fun sl h' e => ⟨_, es, ep, e, hLd, hLk, hLf⟩
  obtain ⟨FG, B₂, st', lv⟩ := groundX (R := R) B F N hA hf hke
  refine wpC_mono (h _ s.heap.objs.size h₁ ⟨hN _ hLg, st, F.above⟩ ⟨hns, fun b o e => hk₁ b o (of_hideAll _ e), Nat.le_of_eq (hideAll_size _ _)⟩
    (fun p hp => ⟨hk₁ _ _ (N p hp).1, Nat.ne_of_lt (Heap.lt_size (N p hp).1), hideAll_none _ (List.mem_map_of_mem hp)⟩) B₂ (X₀.keeps st) (T.keeps st) (fun b hb => by
      rw [hfs, List.mem_singleton] at hb
      subst hb
      exact ⟨oL, es, ep, hLg, hLd⟩)) (fun fl s' hl => ?_) fun _ _ y => y
  obtain ⟨g', L', m', news', T', F', N', k⟩ := hl
  rw [hfs] at T'
  have nL₀ : h₀.get? L = none := kts_self F
  obtain ⟨sl, hs⟩ := T'.up hLg
  refine k ⟨hNs sl _ (F'.keep _ _ hs), fun b o e => F'.keep b o (T'.other b o (st b o e) (fun q => by
    rw [List.mem_singleton] at q
    rw [q, nL₀] at e
    cases e)), F.above⟩ fun p hp => ⟨(N' p hp).1, fun q => ?_, ?_⟩
  · have := (N' p hp).2.2; rw [q, hs] at this; cases this
  · cases q : h₀.get? p.1 with
    | none => rfl
    | some o =>
      obtain ⟨sl', hs'⟩ := T'.up (st _ _ q)
      have := (N' p hp).2.2
      rw [hs'] at this
      cases this
end
section
variable {prog : Program} {w : World} {A : Around} {E : Value → Shared → Prop} {s : Shared} {env : Env}
theorem wpC_Try {M : Model} {body orelse : List Stmt} {h₀ : ExceptHandler} {hs : List ExceptHandler} {pos : Pos} {Q : Flow → Shared → Prop}
    (h : wpC M A (execs body env) (fun f s₁ => match f with | .next => wpC M A (execs orelse env) Q E s₁ | f => Q f s₁)
      (fun e s₁ => wpAny M A (noteFrame e env) (fun _ s₂ => wpAny M A (setFlight e none) (fun _ s₃ => wpAny M A (handleBy e env (h₀ :: hs)) Q E s₃) E s₂) E s₁) s) :
    wpC M A (exec (.Try body (h₀ :: hs) orelse [] pos) env) Q E s := by
  rw [arm_exec_Try]
  refine wpC_bind (wpC_standAt ?_)
  unfold tryStmt
  simp only [List.isEmpty_nil, if_true, List.isEmpty_cons, Bool.false_and, Bool.false_eq_true, if_false]
  refine wpC_bind (wpC_attempt (wpC_mono h (fun f s₁ h₁ => ?_) fun e s₁ h₁ => ?_))
  · cases f <;> first | exact h₁ | exact wpC_pure h₁
  · exact wpC_of_any (wpAny_bind (wpAny_mono h₁ (fun _ _ h₂ => wpAny_bind h₂) fun _ _ x => x))
theorem wpC_Assign_raises {M : Model} {targets : List PySem.Expr} {value : PySem.Expr} {pos : Pos} {Q : Flow → Shared → Prop}
    (h : wpC M A (eval value env) (fun _ _ => False) E s) (hs : swapsWithSole targets value pos.line env = pure false) : wpC M A (exec (.Assign targets value pos) env) Q E s := by
  rw [exec_Assign_arm, hs]
  refine wpC_bind (wpC_standAt (wpC_bind (wpC_pure ?_)))
  rw [if_neg (by exact Bool.false_ne_true)]
  exact wpC_bind (wpC_mono h (fun _ _ x => x.elim) fun _ _ x => x)
end
/-- as CtrC, for a caller that stands at the bottom of the stack of defs -/
noncomputable abbrev CtrH (w : World) (f : Addr) (vs : List Value) (news : List (Addr × Obj)) (d u : Nat) (post : (Heap → List (Addr × Obj) → Prop) → Shared → (Value → Shared → Prop) → Prop) : Prop :=
  ∀ (dp un : Nat) (gd : Option (List Code)) (cn : PySem.Str) (cs : Scope) (a : Addr) (ccd : Value) (cl : List (PySem.Str × Addr)) (base : Heap) (h₀ : Heap) (L : Addr) (m : PySem.Str → Option Value) (s : Shared) (Q E : Value → Shared → Prop),
    At w base cs L [] h₀ m news s.heap → (KF w.params).In base → (∃ mean mg mb, Top qv (looseW qv loose) mean mg mb h₀ ∧ Top qv (looseW qv loose) mean mg mb base) → dp + d < recursionLimit → un + u < cLine →
    post (fun h' news' => At w base cs L [] h₀ m news' h') s Q →
      wpC (model PG w) (ktrTop dp un gd cn cs L a ccd cl []) (call (.ref f) vs) Q E s
/-- as Ctr, with the claim's caller below -/
noncomputable abbrev CtrC (w : World) (f : Addr) (vs : List Value) (news : List (Addr × Obj)) (d u : Nat) (post : (Heap → List (Addr × Obj) → Prop) → (Addr → Value → List (Addr × Obj) → Heap → Prop) → Shared → (Value → Shared → Prop) → (Value → Shared → Prop) → Prop) : Prop :=
  ∀ (dp un : Nat) (gd : Option (List Code)) (cn : PySem.Str) (cs : Scope) (a : Addr) (ccd : Value) (cl : List (PySem.Str × Addr)) (base : Heap) (outer : List Env) (h₀ : Heap) (L : Addr) (m : PySem.Str → Option Value) (s : Shared) (Q E : Value → Shared → Prop),
    At w base cs L outer h₀ m news s.heap → dp + d < recursionLimit → un + u < cLine →
    post (fun h' news' => At w base cs L outer h₀ m news' h') (fun e c news' h' => Threw base outer h₀ L m (envX cn cs L a ccd cl) e c news' h') s Q E →
      wpC (model PG w) (ktrTop dp un gd cn cs L a ccd cl outer) (call (.ref f) vs) Q E s
end Mine
end
section
open PySem PySem.W PyProof.Rows PySem.Calls PySem.Spec PyProof.V
set_option maxRecDepth 100000
set_option maxHeartbeats 8000000
namespace Mine
theorem padC16n1 : True ∧ True := by walk1 <;> trivial
theorem fill16 (w : World) (h : Heap) : (KF w.params).In h → PySem.Challenge.rw_wf0102_01.prog = PySem.Challenge.rw_wf0102_01.prog := by
  k_fill
  intro _; rfl
theorem padC16n2 : True ∧ True := by walk1 <;> trivial
section
local macro_rules | `(tactic| walk_at $s:str) => if ["call builtin:str.find", "call builtin:str.split", "call type:int", "compareOp NotEq str str", "leaving ref", "subscriptTail Name BinOp str int"].contains s.getString then `(tactic| (refine Hold.put ?_)) else Lean.Macro.throwUnsupported
theorem p229I (u1 u2 u3 u4 u5 p a q : List Nat) (t : Tok) (P : Addr) (news : List (Addr × Obj)) (hl : (p ++ 40 :: (a ++ 41 :: q)).length ≤ 400) (h1 : (p ++ 40 :: (a ++ 41 :: q)).take 3 = [50, 50, 57]) (h2 : 40 ∉ p) (h3 : 41 ∉ a) (h4 : a ≠ []) (ha : a.length ≤ 400)
    (h5 : a.getD 0 0 = a.getD (a.length - 1) 0) (h6 : (splitL (a.getD 0 0) a).map tx = [tx u1, tx u2, tx u3, tx u4, tx u5]) (x : PySem.Str) (xt yt : Tok) (c : Nat) (hu4 : u4.length ≤ 400) (h7 : PySem.intText? (tx u4) = none) (h8 : (PySem.reprText (tx u4)).length ≤ sizeLine) (w : World) :
   CtrC w 82 [.str (tx (p ++ 40 :: (a ++ 41 :: q))) t, .ref P] ((P, { cls := .type "tuple", data := .seq #[.str x xt, .int 21 yt] c }) :: news) 1 8 (fun _ R s _ E => ∀ e h' tk', R e (.type "ValueError") ((P, { cls := .type "tuple", data := .seq #[.str x xt, .int 21 yt] c }) :: news) h' → E (.ref e) { s with heap := h', toks := tk' }) := by
  intro dp un gd cn cs a0 ccd cl base outer h₀ L m s Q E W hd hu hend
  obtain ⟨⟨A₀, B⟩, F, X, N, ⟨mean, mg, mb, T⟩, hk⟩ := W
  refine wpC_call ?_
  k_dflt (((refine' code_defQ ?k1 ?k2 ?k3 ?k4 ?k5 ?kA ?kF ?kK ?k6 ?k7 ?k8 ?k9 ?kB ?_ ?c2 ?c3 ?c4 ?c5; (case kA => exact rfl); (case kF => exact rfl); (case kK => assumption); (case k1 => k_asm); (case k2 => k_asm); (case k3 => k_asm); (case k4 => k_asm); (case k5 => k_asm); (case k6 => k_is); (case k7 => k_is); (case k8 => ktr_room); (case k9 => first | exact BindsTo.of_eq rfl | exact binds_K (by k_in) rfl (by k_is) rfl rfl rfl); (case c5 => decide); (case kB => exact locs rfl); (case c2 => exact rfl); (case c3 => exact rfl); (case c4 => exact rfl); intro g' L' h' FG' F' N' B' X' T'; (try dsimp only); (try k_lift B'); (try k_fold))))
  show wpC _ _ _ _ _ _
  refine wpC_execs_cons (wpC_of_any ?_)
  k_steps
  refine ⟨?_⟩
  refine neF (sl_to (tx_cps _) (by decide)) lt0 (by exact h1) ?_
  k_steps
  show wpC _ _ _ _ _ _
  refine wpC_execs_cons (wpC_of_any ?_)
  k_steps
  refine ⟨?_⟩
  refine findR (fOpen h2) ?_
  intro _ _
  k_steps
  show wpC _ _ _ _ _ _
  refine wpC_execs_cons (wpC_of_any ?_)
  k_steps
  show wpC _ _ _ _ _ _
  refine wpC_execs_cons (wpC_of_any ?_)
  k_steps
  refine ⟨?_⟩
  refine find3R (fShut h3) ?_
  intro _ _
  k_steps
  show wpC _ _ _ _ _ _
  refine wpC_execs_cons (wpC_of_any ?_)
  k_steps
  show wpC _ _ _ _ _ _
  refine wpC_execs_cons (wpC_of_any ?_)
  k_steps
  refine ⟨?_⟩
  refine itemR (c := a.getD 0 0) (by omega) (by simp only [List.length_append, List.length_cons]; omega) (Nat.le_trans hl (by decide)) (getD_first h4) ?_
  intro _ _
  k_steps
  refine ⟨?_⟩
  refine itemR (c := a.getD (a.length - 1) 0) (by omega) (by simp only [List.length_append, List.length_cons]; omega) (Nat.le_trans hl (by decide)) (getD_last h4) ?_
  intro _ _
  k_steps
  refine ⟨?_⟩
  refine neF (tx_cps _) (tx_cps _) (congrArg (fun c => [c]) h5) ?_
  k_steps
  show wpC _ _ _ _ _ _
  refine wpC_execs_cons (wpC_of_any ?_)
  k_steps
  refine ⟨?_⟩
  refine itemR (c := a.getD 0 0) (by omega) (by simp only [List.length_append, List.length_cons]; omega) (Nat.le_trans hl (by decide)) (getD_first h4) ?_
  intro _ _
  k_steps
  refine ⟨?_⟩
  refine splitR (by assumption) (by assumption) (slice_mid rfl rfl) (Nat.le_trans ha (by decide)) ?_
  intro D vs h' k S F' N' l1
  rw [h6] at S
  obtain ⟨t1, t2, t3, t4, t5, rfl⟩ := strs5 S
  (try k_lt l1)
  k_steps
  show wpC _ _ _ _ _ _
  refine wpC_execs_cons (wpC_of_any ?_)
  k_steps
  show wpC _ _ _ _ _ _
  refine wpC_execs_cons (wpC_of_any ?_)
  k_steps
  show wpC _ _ _ _ _ _
  refine wpC_execs_cons (wpC_Assign_Name (wpC_Call_Name ?_) (by with_unfolding_all rfl))
  k_steps
  show wpC _ _ _ _ _ _
  refine wpC_callWith_type1 ?_
  k_steps
  show wpC _ _ _ _ _ _
  refine intBad (by rw [tx_len]; exact Nat.le_trans hu4 (by decide)) h7 rfl h8 ?_
  intro h9 e9 k9 v9 hm
  (rename Fr _ _ _ _ => Fz); (rename News _ _ _ _ => Nz)
  k_steps
  refine ⟨?_⟩
  refine leave_raiseS (by assumption) (Heap.MadeExc.of hm) (by exact Fz) (by exact Nz) ?_
  intro h' t' S' R' U'
  exact hend _ _ _ ⟨_, by assumption, U', lessSN S'.toSN (by ((repeat' (first | (intro p hp; (repeat (first | exact hp | apply List.Mem.tail)); done) | refine sub_cons (by (repeat (first | (exact List.Mem.head _; done) | refine List.Mem.tail _ ?_))) ?_))))⟩
end
end Mine
end
section
open PySem PySem.W PyProof.Rows PySem.Calls PySem.Spec PyProof.V
set_option maxRecDepth 100000
set_option maxHeartbeats 8000000
namespace Mine
theorem padC17n1 : True ∧ True := by walk1 <;> trivial
theorem fill17 (w : World) (h : Heap) : (KF w.params).In h → PySem.Challenge.rw_wf0102_01.prog = PySem.Challenge.rw_wf0102_01.prog := by
  k_fill
  intro _; rfl
theorem padC17n2 : True ∧ True := by walk1 <;> trivial
section
local macro_rules | `(tactic| walk_at $s:str) => if ["compareOp NotEq str str", "leaving ref", "call ref"].contains s.getString then `(tactic| (refine Hold.put ?_)) else Lean.Macro.throwUnsupported
theorem p257A (l : List Nat) (t : Tok) (news : List (Addr × Obj)) (hl : l.length ≤ 400) (h1 : l.take 3 ≠ [50, 53, 55]) (w : World) :
   Ctr w 89 [.str (tx l) t] news 1 8 (fun _ R s _ E => ∀ e h' tk', R e (.ref 61) news h' → E (.ref e) { s with heap := h', toks := tk' }) := by
  intro dp un gd cn cs a0 ccd cl base outer h₀ L m s Q E W hd hu hend
  obtain ⟨⟨A₀, B⟩, F, X, N, ⟨mean, mg, mb, T⟩, hk⟩ := W
  refine wpAny_call ?_
  k_dflt cell_enter
  k_steps
  refine ⟨?_⟩
  refine neT (sl_to (tx_cps _) (by decide)) (by walk_at "mine txt") (by exact h1) ?_
  k_steps
  refine ⟨?_⟩
  refine leave_raiseS (by assumption) (by assumption) (by assumption) (by assumption) ?_
  intro h' t' S' R' U'
  exact hend _ _ _ ⟨_, by assumption, U', lessSN S'.toSN (by ((repeat' (first | (intro p hp; (repeat (first | exact hp | apply List.Mem.tail)); done) | refine sub_cons (by (repeat (first | (exact List.Mem.head _; done) | refine List.Mem.tail _ ?_))) ?_))))⟩
theorem pHear1 (v1 : Value) (l : List Nat) (t tp : Tok) (v3 : PySem.Str) (news : List (Addr × Obj)) (hl : l.length ≤ 400) (h1 : l.take 3 ≠ [50, 53, 55]) (w : World) :
   CtrH w 337 [v1, .str (tx l) t, .str v3 tp] news 6 64 (fun R s Q => ∀ t' h' tk', R h' news → Q (.int 1 t') { s with heap := h', toks := tk' }) := by
  intro dp un gd cn cs a0 ccd cl base h₀ L m s Q E W XB TB hd hu hend
  obtain ⟨⟨A₀, B⟩, F, X, N, _, hk⟩ := W
  obtain ⟨mean, mg, mb, T, TB⟩ := TB
  refine wpC_call ?_
  k_dflt (((refine' code_defSQ ?k1 ?k2 ?k3 ?k4 ?k5 ?kA ?kF ?kK ?k6 ?k7 ?k8 ?k9 ?kB ?_ ?c2 ?c3 ?c4 ?c5; (case kA => exact rfl); (case kF => exact rfl); (case kK => assumption); (case k1 => k_asm); (case k2 => k_asm); (case k3 => k_asm); (case k4 => k_asm); (case k5 => k_asm); (case k6 => k_is); (case k7 => k_is); (case k8 => ktr_room); (case k9 => first | exact BindsTo.of_eq rfl | exact binds_K (by k_in) rfl (by k_is) rfl rfl rfl); (case c5 => decide); (case kB => exact locs rfl); (case c2 => exact rfl); (case c3 => exact rfl); (case c4 => exact rfl); intro g' L' h' FG' F' N' B' X' T' D'; (try dsimp only); (try k_lift B'); (try k_fold))))
  refine wpC_execs_cons ?_
  refine wpC_Try ?_
  refine wpC_execs_cons (wpC_of_any ?_)
  k_steps
  refine ⟨?_⟩
  refine p257A (w := w) l t _ hl h1 _ _ _ _ _ _ _ _ _ _ _ _ _ _ _ _ ⟨⟨_, by assumption⟩, by assumption, by assumption, by assumption, ⟨_, _, _, by assumption⟩, rfl⟩ ?hd1 ?hu1 ?ret1
  case hd1 => (dsimp only [ktrTop]); first | exact lim2 hd rfl | omega
  case hu1 => (dsimp only [ktrTop]); first | exact lim2 hu rfl | omega
  rintro e2 h2 tk2 ⟨G2, FG2, UG2, RG2⟩
  k_steps
  exact hend _ _ _ ⟨⟨_, B⟩, by assumption, by assumption, by (first | assumption | ((rename News _ _ _ _ => nX); repeat' (first | (intro p hp; refine nX p ?_; (repeat (first | exact hp | apply List.Mem.tail)); done) | refine news_cons (nX _ (by (repeat (first | (exact List.Mem.head _; done) | refine List.Mem.tail _ ?_)))) ?_))), ⟨_, _, _, T⟩, hk⟩
theorem pHear2A (v1 : Value) (l q P : List Nat) (t tp : Tok) (news : List (Addr × Obj)) (hl : l.length ≤ 400) (h1 : l.take 5 = [50, 53, 55, 32, 34]) (hq : unq (l.drop 5) = q) (hql : q.length ≤ 10) (hqs : ∀ c ∈ q, c = 173 ∨ Sgn c) (w : World)
   (par : ∀ (T : Addr) (xt yt : Tok) (c : Nat) (news : List (Addr × Obj)), CtrC w 82 [.str (tx P) tp, .ref T] ((T, { cls := .type "tuple", data := .seq #[.str (PySem.Str.ofString "server") xt, .int 21 yt] c }) :: news) 1 8 (fun _ R s _ E => ∀ e h' tk', R e (.ref 61) ((T, { cls := .type "tuple", data := .seq #[.str (PySem.Str.ofString "server") xt, .int 21 yt] c }) :: news) h' → E (.ref e) { s with heap := h', toks := tk' })) :
   CtrH w 337 [v1, .str (tx l) t, .str (tx P) tp] news 6 64 (fun R s Q => ∀ t' h' tk', R h' news → Q (.int 1 t') { s with heap := h', toks := tk' }) := by
  intro dp un gd cn cs a0 ccd cl base h₀ L m s Q E W XB TB hd hu hend
  obtain ⟨⟨A₀, B⟩, F, X, N, _, hk⟩ := W
  obtain ⟨mean, mg, mb, T, TB⟩ := TB
  refine wpC_call ?_
  k_dflt (((refine' code_defSQ ?k1 ?k2 ?k3 ?k4 ?k5 ?kA ?kF ?kK ?k6 ?k7 ?k8 ?k9 ?kB ?_ ?c2 ?c3 ?c4 ?c5; (case kA => exact rfl); (case kF => exact rfl); (case kK => assumption); (case k1 => k_asm); (case k2 => k_asm); (case k3 => k_asm); (case k4 => k_asm); (case k5 => k_asm); (case k6 => k_is); (case k7 => k_is); (case k8 => ktr_room); (case k9 => first | exact BindsTo.of_eq rfl | exact binds_K (by k_in) rfl (by k_is) rfl rfl rfl); (case c5 => decide); (case kB => exact locs rfl); (case c2 => exact rfl); (case c3 => exact rfl); (case c4 => exact rfl); intro g' L' h' FG' F' N' B' X' T' D'; (try dsimp only); (try k_lift B'); (try k_fold))))
  refine wpC_execs_cons ?_
  refine wpC_Try ?_
  refine wpC_execs_cons (wpC_of_any ?_)
  k_steps
  refine ⟨?_⟩
  refine p257 (w := w) (tx l) t _ (by rw [tx_len]; exact Nat.le_trans hl (by decide)) (by rw [tx_cps]; exact h1) _ _ _ _ _ _ _ _ _ _ _ _ _ _ _ _ ⟨⟨_, by assumption⟩, by assumption, by assumption, by assumption, ⟨_, _, _, by assumption⟩, rfl⟩ ?hd1 ?hu1 ?ret1
  case hd1 => (dsimp only [ktrTop]); first | exact lim2 hd rfl | omega
  case hu1 => (dsimp only [ktrTop]); first | exact lim2 hu rfl | omega
  rintro r2 t2 h2 tk2 hr2 _ ⟨_, F2, X2, N2, T2, _⟩
  rw [tx_cps, hq] at hr2
  obtain rfl : r2 = tx q := tx_of hr2
  k_steps
  refine ⟨?_⟩
  refine pPrep (w := w) q _ _ hql hqs _ _ _ _ _ _ _ _ _ _ _ _ _ _ _ _ ⟨⟨_, by assumption⟩, by assumption, by assumption, by assumption, ⟨_, _, _, by assumption⟩, rfl⟩ ?hd3 ?hu3 ?ret3
  case hd3 => (dsimp only [ktrTop]); first | exact lim2 hd rfl | omega
  case hu3 => (dsimp only [ktrTop]); first | exact lim2 hu rfl | omega
  rintro t7 h7 tk7 ⟨_, F7, X7, N7, T7, _⟩
  k_steps
  show wpC _ _ _ _ _ _
  refine wpC_execs_cons (wpC_Assign_raises (wpC_Call_Name ?_) (by with_unfolding_all rfl))
  k_steps
  show wpC _ _ _ _ _ _
  refine wpC_callWith_K (K := KF w.params) (by k_is) ?_
  k_steps
  show wpC _ _ _ _ _ _
  refine par _ _ _ _ _ _ _ _ _ _ _ _ _ _ _ _ _ _ _ _ _ ⟨⟨_, by assumption⟩, by assumption, by assumption, by assumption, ⟨_, _, _, by assumption⟩, rfl⟩ ?hd4 ?hu4 ?ret4
  case hd4 => (dsimp only [ktrTop]); first | exact lim2 hd rfl | omega
  case hu4 => (dsimp only [ktrTop]); first | exact lim2 hu rfl | omega
  rintro e2 h2 tk2 ⟨G2, FG2, UG2, RG2⟩
  k_steps
  exact hend _ _ _ ⟨⟨_, B⟩, by assumption, by assumption, by (first | assumption | ((rename News _ _ _ _ => nX); repeat' (first | (intro p hp; refine nX p ?_; (repeat (first | exact hp | apply List.Mem.tail)); done) | refine news_cons (nX _ (by (repeat (first | (exact List.Mem.head _; done) | refine List.Mem.tail _ ?_)))) ?_))), ⟨_, _, _, T⟩, hk⟩
theorem pHear2B (v1 : Value) (l q P : List Nat) (t tp : Tok) (news : List (Addr × Obj)) (hl : l.length ≤ 400) (h1 : l.take 5 = [50, 53, 55, 32, 34]) (hq : unq (l.drop 5) = q) (hql : q.length ≤ 10) (hqs : ∀ c ∈ q, c = 173 ∨ Sgn c) (w : World)
   (par : ∀ (T : Addr) (xt yt : Tok) (c : Nat) (news : List (Addr × Obj)), CtrC w 82 [.str (tx P) tp, .ref T] ((T, { cls := .type "tuple", data := .seq #[.str (PySem.Str.ofString "server") xt, .int 21 yt] c }) :: news) 1 8 (fun _ R s _ E => ∀ e h' tk', R e (.ref 73) ((T, { cls := .type "tuple", data := .seq #[.str (PySem.Str.ofString "server") xt, .int 21 yt] c }) :: news) h' → E (.ref e) { s with heap := h', toks := tk' })) :
   CtrH w 337 [v1, .str (tx l) t, .str (tx P) tp] news 6 64 (fun R s Q => ∀ t' h' tk', R h' news → Q (.int 2 t') { s with heap := h', toks := tk' }) := by
  intro dp un gd cn cs a0 ccd cl base h₀ L m s Q E W XB TB hd hu hend
  obtain ⟨⟨A₀, B⟩, F, X, N, _, hk⟩ := W
  obtain ⟨mean, mg, mb, T, TB⟩ := TB
  refine wpC_call ?_
  k_dflt (((refine' code_defSQ ?k1 ?k2 ?k3 ?k4 ?k5 ?kA ?kF ?kK ?k6 ?k7 ?k8 ?k9 ?kB ?_ ?c2 ?c3 ?c4 ?c5; (case kA => exact rfl); (case kF => exact rfl); (case kK => assumption); (case k1 => k_asm); (case k2 => k_asm); (case k3 => k_asm); (case k4 => k_asm); (case k5 => k_asm); (case k6 => k_is); (case k7 => k_is); (case k8 => ktr_room); (case k9 => first | exact BindsTo.of_eq rfl | exact binds_K (by k_in) rfl (by k_is) rfl rfl rfl); (case c5 => decide); (case kB => exact locs rfl); (case c2 => exact rfl); (case c3 => exact rfl); (case c4 => exact rfl); intro g' L' h' FG' F' N' B' X' T' D'; (try dsimp only); (try k_lift B'); (try k_fold))))
  refine wpC_execs_cons ?_
  refine wpC_Try ?_
  refine wpC_execs_cons (wpC_of_any ?_)
  k_steps
  refine ⟨?_⟩
  refine p257 (w := w) (tx l) t _ (by rw [tx_len]; exact Nat.le_trans hl (by decide)) (by rw [tx_cps]; exact h1) _ _ _ _ _ _ _ _ _ _ _ _ _ _ _ _ ⟨⟨_, by assumption⟩, by assumption, by assumption, by assumption, ⟨_, _, _, by assumption⟩, rfl⟩ ?hd1 ?hu1 ?ret1
  case hd1 => (dsimp only [ktrTop]); first | exact lim2 hd rfl | omega
  case hu1 => (dsimp only [ktrTop]); first | exact lim2 hu rfl | omega
  rintro r2 t2 h2 tk2 hr2 _ ⟨_, F2, X2, N2, T2, _⟩
  rw [tx_cps, hq] at hr2
  obtain rfl : r2 = tx q := tx_of hr2
  k_steps
  refine ⟨?_⟩
  refine pPrep (w := w) q _ _ hql hqs _ _ _ _ _ _ _ _ _ _ _ _ _ _ _ _ ⟨⟨_, by assumption⟩, by assumption, by assumption, by assumption, ⟨_, _, _, by assumption⟩, rfl⟩ ?hd3 ?hu3 ?ret3
  case hd3 => (dsimp only [ktrTop]); first | exact lim2 hd rfl | omega
  case hu3 => (dsimp only [ktrTop]); first | exact lim2 hu rfl | omega
  rintro t7 h7 tk7 ⟨_, F7, X7, N7, T7, _⟩
  k_steps
  show wpC _ _ _ _ _ _
  refine wpC_execs_cons (wpC_Assign_raises (wpC_Call_Name ?_) (by with_unfolding_all rfl))
  k_steps
  show wpC _ _ _ _ _ _
  refine wpC_callWith_K (K := KF w.params) (by k_is) ?_
  k_steps
  show wpC _ _ _ _ _ _
  refine par _ _ _ _ _ _ _ _ _ _ _ _ _ _ _ _ _ _ _ _ _ ⟨⟨_, by assumption⟩, by assumption, by assumption, by assumption, ⟨_, _, _, by assumption⟩, rfl⟩ ?hd4 ?hu4 ?ret4
  case hd4 => (dsimp only [ktrTop]); first | exact lim2 hd rfl | omega
  case hu4 => (dsimp only [ktrTop]); first | exact lim2 hu rfl | omega
  rintro e2 h2 tk2 ⟨G2, FG2, UG2, RG2⟩
  k_steps
  exact hend _ _ _ ⟨⟨_, B⟩, by assumption, by assumption, by (first | assumption | ((rename News _ _ _ _ => nX); repeat' (first | (intro p hp; refine nX p ?_; (repeat (first | exact hp | apply List.Mem.tail)); done) | refine news_cons (nX _ (by (repeat (first | (exact List.Mem.head _; done) | refine List.Mem.tail _ ?_)))) ?_))), ⟨_, _, _, T⟩, hk⟩
theorem pHear2C (v1 : Value) (l q P : List Nat) (t tp : Tok) (news : List (Addr × Obj)) (hl : l.length ≤ 400) (h1 : l.take 5 = [50, 53, 55, 32, 34]) (hq : unq (l.drop 5) = q) (hql : q.length ≤ 10) (hqs : ∀ c ∈ q, c = 173 ∨ Sgn c) (w : World)
   (par : ∀ (T : Addr) (xt yt : Tok) (c : Nat) (news : List (Addr × Obj)), CtrC w 82 [.str (tx P) tp, .ref T] ((T, { cls := .type "tuple", data := .seq #[.str (PySem.Str.ofString "server") xt, .int 21 yt] c }) :: news) 1 8 (fun _ R s _ E => ∀ e h' tk', R e (.type "ValueError") ((T, { cls := .type "tuple", data := .seq #[.str (PySem.Str.ofString "server") xt, .int 21 yt] c }) :: news) h' → E (.ref e) { s with heap := h', toks := tk' })) :
   CtrH w 337 [v1, .str (tx l) t, .str (tx P) tp] news 6 64 (fun R s Q => ∀ t' h' tk', R h' news → Q (.int 3 t') { s with heap := h', toks := tk' }) := by
  intro dp un gd cn cs a0 ccd cl base h₀ L m s Q E W XB TB hd hu hend
  obtain ⟨⟨A₀, B⟩, F, X, N, _, hk⟩ := W
  obtain ⟨mean, mg, mb, T, TB⟩ := TB
  refine wpC_call ?_
  k_dflt (((refine' code_defSQ ?k1 ?k2 ?k3 ?k4 ?k5 ?kA ?kF ?kK ?k6 ?k7 ?k8 ?k9 ?kB ?_ ?c2 ?c3 ?c4 ?c5; (case kA => exact rfl); (case kF => exact rfl); (case kK => assumption); (case k1 => k_asm); (case k2 => k_asm); (case k3 => k_asm); (case k4 => k_asm); (case k5 => k_asm); (case k6 => k_is); (case k7 => k_is); (case k8 => ktr_room); (case k9 => first | exact BindsTo.of_eq rfl | exact binds_K (by k_in) rfl (by k_is) rfl rfl rfl); (case c5 => decide); (case kB => exact locs rfl); (case c2 => exact rfl); (case c3 => exact rfl); (case c4 => exact rfl); intro g' L' h' FG' F' N' B' X' T' D'; (try dsimp only); (try k_lift B'); (try k_fold))))
  refine wpC_execs_cons ?_
  refine wpC_Try ?_
  refine wpC_execs_cons (wpC_of_any ?_)
  k_steps
  refine ⟨?_⟩
  refine p257 (w := w) (tx l) t _ (by rw [tx_len]; exact Nat.le_trans hl (by decide)) (by rw [tx_cps]; exact h1) _ _ _ _ _ _ _ _ _ _ _ _ _ _ _ _ ⟨⟨_, by assumption⟩, by assumption, by assumption, by assumption, ⟨_, _, _, by assumption⟩, rfl⟩ ?hd1 ?hu1 ?ret1
  case hd1 => (dsimp only [ktrTop]); first | exact lim2 hd rfl | omega
  case hu1 => (dsimp only [ktrTop]); first | exact lim2 hu rfl | omega
  rintro r2 t2 h2 tk2 hr2 _ ⟨_, F2, X2, N2, T2, _⟩
  rw [tx_cps, hq] at hr2
  obtain rfl : r2 = tx q := tx_of hr2
  k_steps
  refine ⟨?_⟩
  refine pPrep (w := w) q _ _ hql hqs _ _ _ _ _ _ _ _ _ _ _ _ _ _ _ _ ⟨⟨_, by assumption⟩, by assumption, by assumption, by assumption, ⟨_, _, _, by assumption⟩, rfl⟩ ?hd3 ?hu3 ?ret3
  case hd3 => (dsimp only [ktrTop]); first | exact lim2 hd rfl | omega
  case hu3 => (dsimp only [ktrTop]); first | exact lim2 hu rfl | omega
  rintro t7 h7 tk7 ⟨_, F7, X7, N7, T7, _⟩
  k_steps
  show wpC _ _ _ _ _ _
  refine wpC_execs_cons (wpC_Assign_raises (wpC_Call_Name ?_) (by with_unfolding_all rfl))
  k_steps
  show wpC _ _ _ _ _ _
  refine wpC_callWith_K (K := KF w.params) (by k_is) ?_
  k_steps
  show wpC _ _ _ _ _ _
  refine par _ _ _ _ _ _ _ _ _ _ _ _ _ _ _ _ _ _ _ _ _ ⟨⟨_, by assumption⟩, by assumption, by assumption, by assumption, ⟨_, _, _, by assumption⟩, rfl⟩ ?hd4 ?hu4 ?ret4
  case hd4 => (dsimp only [ktrTop]); first | exact lim2 hd rfl | omega
  case hu4 => (dsimp only [ktrTop]); first | exact lim2 hu rfl | omega
  rintro e2 h2 tk2 ⟨G2, FG2, UG2, RG2⟩
  k_steps
  exact hend _ _ _ ⟨⟨_, B⟩, by assumption, by assumption, by (first | assumption | ((rename News _ _ _ _ => nX); repeat' (first | (intro p hp; refine nX p ?_; (repeat (first | exact hp | apply List.Mem.tail)); done) | refine news_cons (nX _ (by (repeat (first | (exact List.Mem.head _; done) | refine List.Mem.tail _ ?_)))) ?_))), ⟨_, _, _, T⟩, hk⟩
end
end Mine
end
section
open PySem PySem.W PyProof.Rows PySem.Calls PySem.Spec PyProof.V
set_option maxRecDepth 100000
set_option maxHeartbeats 8000000
namespace Mine
theorem padC18n1 : True ∧ True := by walk1 <;> trivial
theorem fill18 (w : World) (h : Heap) : (KF w.params).In h → PySem.Challenge.rw_wf0102_01.prog = PySem.Challenge.rw_wf0102_01.prog := by
  k_fill
  intro _; rfl
theorem padC18n2 : True ∧ True := by walk1 <;> trivial
section
local macro_rules | `(tactic| walk_at $s:str) => if ["leaving ref", "call ref"].contains s.getString then `(tactic| (refine Hold.put ?_)) else Lean.Macro.throwUnsupported
theorem pHear3 (X1 dX Lt : Addr) (hh : Int) (th : Tok) (e : Nat) (its : List Value) (n : Nat) (rs : List (Nat × Nat)) (l q P : List Nat) (p : Nat) (t tp : Tok) (news : List (Addr × Obj)) (hl : l.length ≤ 400) (h1 : l.take 5 = [50, 53, 55, 32, 34]) (hq : unq (l.drop 5) = q) (hql : q.length ≤ 10) (hqs : ∀ c ∈ q, c = 173 ∨ Sgn c) (hx : prepL q ∈ ctl) (w : World)
   (par : ∀ (T : Addr) (xt yt : Tok) (c : Nat) (news : List (Addr × Obj)), Ctr w 82 [.str (tx P) tp, .ref T] ((T, { cls := .type "tuple", data := .seq #[.str (PySem.Str.ofString "server") xt, .int 21 yt] c }) :: news) 1 8 (fun R _ s Q _ => ∀ T' tb h' tk' k, R h' ((T', { cls := .type "tuple", data := .seq #[.str (PySem.Str.ofString "server") xt, .int (p : Int) tb] k }) :: (T, { cls := .type "tuple", data := .seq #[.str (PySem.Str.ofString "server") xt, .int 21 yt] c }) :: news) → Q (.ref T') { s with heap := h', toks := tk' })) :
   CtrH w 337 [.ref X1, .str (tx l) t, .str (tx P) tp] (tabL X1 dX Lt hh th e its.toArray n news) 6 64 (fun R s Q => ∀ t' h' tk', R h' (tabL X1 dX Lt hh th e its.toArray n news) → Q (.int 3 t') { s with heap := h', toks := tk' }) := by
  intro dp un gd cn cs a0 ccd cl base h₀ L m s Q E W XB TB hd hu hend
  obtain ⟨⟨A₀, B⟩, F, X, N, _, hk⟩ := W
  obtain ⟨mean, mg, mb, T, TB⟩ := TB
  refine wpC_call ?_
  k_dflt (((refine' code_defSQ ?k1 ?k2 ?k3 ?k4 ?k5 ?kA ?kF ?kK ?k6 ?k7 ?k8 ?k9 ?kB ?_ ?c2 ?c3 ?c4 ?c5; (case kA => exact rfl); (case kF => exact rfl); (case kK => assumption); (case k1 => k_asm); (case k2 => k_asm); (case k3 => k_asm); (case k4 => k_asm); (case k5 => k_asm); (case k6 => k_is); (case k7 => k_is); (case k8 => ktr_room); (case k9 => first | exact BindsTo.of_eq rfl | exact binds_K (by k_in) rfl (by k_is) rfl rfl rfl); (case c5 => decide); (case kB => exact locs rfl); (case c2 => exact rfl); (case c3 => exact rfl); (case c4 => exact rfl); intro g' L' h' FG' F' N' B' X' T' D'; (try dsimp only); (try k_lift B'); (try k_fold))))
  refine wpC_execs_cons ?_
  refine wpC_Try ?_
  refine wpC_execs_cons (wpC_of_any ?_)
  k_steps
  refine ⟨?_⟩
  refine p257 (w := w) (tx l) t _ (by rw [tx_len]; exact Nat.le_trans hl (by decide)) (by rw [tx_cps]; exact h1) _ _ _ _ _ _ _ _ _ _ _ _ _ _ _ _ ⟨⟨_, by assumption⟩, by assumption, by assumption, by assumption, ⟨_, _, _, by assumption⟩, rfl⟩ ?hd1 ?hu1 ?ret1
  case hd1 => (dsimp only [ktrTop]); first | exact lim2 hd rfl | omega
  case hu1 => (dsimp only [ktrTop]); first | exact lim2 hu rfl | omega
  rintro r2 t2 h2 tk2 hr2 _ ⟨_, F2, X2, N2, T2, _⟩
  rw [tx_cps, hq] at hr2
  obtain rfl : r2 = tx q := tx_of hr2
  k_steps
  refine ⟨?_⟩
  refine pPrep (w := w) q _ _ hql hqs _ _ _ _ _ _ _ _ _ _ _ _ _ _ _ _ ⟨⟨_, by assumption⟩, by assumption, by assumption, by assumption, ⟨_, _, _, by assumption⟩, rfl⟩ ?hd3 ?hu3 ?ret3
  case hd3 => (dsimp only [ktrTop]); first | exact lim2 hd rfl | omega
  case hu3 => (dsimp only [ktrTop]); first | exact lim2 hu rfl | omega
  rintro t7 h7 tk7 ⟨_, F7, X7, N7, T7, _⟩
  k_steps
  show wpC _ _ _ _ _ _
  refine wpC_execs_cons (wpC_of_any ?_)
  k_steps
  refine ⟨?_⟩
  refine par _ _ _ _ _ _ _ _ _ _ _ _ _ _ _ _ _ _ _ _ _ ⟨⟨_, by assumption⟩, by assumption, by assumption, by assumption, ⟨_, _, _, by assumption⟩, rfl⟩ ?hd4 ?hu4 ?ret4
  case hd4 => (dsimp only [ktrTop]); first | exact lim2 hd rfl | omega
  case hu4 => (dsimp only [ktrTop]); first | exact lim2 hu rfl | omega
  rintro T5 tb5 h5 tk5 k5 ⟨_, F5, X5, N5, T5', _⟩
  k_steps
  show wpC _ _ _ _ _ _
  refine wpC_execs_cons (wpC_of_any ?_)
  k_steps
  refine ⟨?_⟩
  refine pLearnX (w := w) X1 dX Lt hh th e its n (prepL q) p _ _ news hx _ _ _ _ _ _ _ _ _ _ _ _ _ _ _ _ ⟨⟨_, by assumption⟩, by assumption, by assumption, by (first | assumption | ((rename News _ _ _ _ => nX); repeat' (first | (intro p hp; refine nX p ?_; (repeat (first | exact hp | apply List.Mem.tail)); done) | refine news_cons (nX _ (by (repeat (first | (exact List.Mem.head _; done) | refine List.Mem.tail _ ?_)))) ?_))), ⟨_, _, _, by assumption⟩, rfl⟩ ?hd6 ?hu6 ?ret6
  case hd6 => (dsimp only [ktrTop]); first | exact lim2 hd rfl | omega
  case hu6 => (dsimp only [ktrTop]); first | exact lim2 hu rfl | omega
  rintro e2 h2 tk2 ⟨G2, FG2, UG2, RG2⟩
  k_steps
  exact hend _ _ _ ⟨⟨_, B⟩, by assumption, by assumption, by (first | assumption | ((rename News _ _ _ _ => nX); repeat' (first | (intro p hp; refine nX p ?_; (repeat (first | exact hp | apply List.Mem.tail)); done) | refine news_cons (nX _ (by (repeat (first | (exact List.Mem.head _; done) | refine List.Mem.tail _ ?_)))) ?_))), ⟨_, _, _, T⟩, hk⟩
theorem pHear4 (X1 dX Lt : Addr) (hh : Int) (th : Tok) (e : Nat) (its : List Value) (n : Nat) (rs : List (Nat × Nat)) (l q P : List Nat) (p : Nat) (t tp : Tok) (news : List (Addr × Obj)) (hl : l.length ≤ 400) (h1 : l.take 5 = [50, 53, 55, 32, 34]) (hq : unq (l.drop 5) = q) (hql : q.length ≤ 10) (hqs : ∀ c ∈ q, c = 173 ∨ Sgn c) (i : Nat) (hx : prepL q = nm i) (hi : i < 4) (hp : p < 1000) (g : Good rs) (R : Rows news its rs) (hoff : ∀ p ∈ news, p.1 ≠ Lt) (w : World)
   (par : ∀ (T : Addr) (xt yt : Tok) (c : Nat) (news : List (Addr × Obj)), Ctr w 82 [.str (tx P) tp, .ref T] ((T, { cls := .type "tuple", data := .seq #[.str (PySem.Str.ofString "server") xt, .int 21 yt] c }) :: news) 1 8 (fun R _ s Q _ => ∀ T' tb h' tk' k, R h' ((T', { cls := .type "tuple", data := .seq #[.str (PySem.Str.ofString "server") xt, .int (p : Int) tb] k }) :: (T, { cls := .type "tuple", data := .seq #[.str (PySem.Str.ofString "server") xt, .int 21 yt] c }) :: news) → Q (.ref T') { s with heap := h', toks := tk' })) :
   CtrH w 337 [.ref X1, .str (tx l) t, .str (tx P) tp] (tabL X1 dX Lt hh th e its.toArray n news) 6 64 (fun R s Q => ∀ ex n' its' t' h' tk', (∀ q ∈ ex, q.2.cls = .type "tuple") → Rows (ex ++ news) its' (learn rs i p) → R h' (tabL X1 dX Lt hh th e its'.toArray n' (ex ++ news)) → Q (.str (PySem.Str.ofString "server") t') { s with heap := h', toks := tk' }) := by
  intro dp un gd cn cs a0 ccd cl base h₀ L m s Q E W XB TB hd hu hend
  obtain ⟨⟨A₀, B⟩, F, X, N, _, hk⟩ := W
  obtain ⟨mean, mg, mb, T, TB⟩ := TB
  refine wpC_call ?_
  k_dflt (((refine' code_defSQ ?k1 ?k2 ?k3 ?k4 ?k5 ?kA ?kF ?kK ?k6 ?k7 ?k8 ?k9 ?kB ?_ ?c2 ?c3 ?c4 ?c5; (case kA => exact rfl); (case kF => exact rfl); (case kK => assumption); (case k1 => k_asm); (case k2 => k_asm); (case k3 => k_asm); (case k4 => k_asm); (case k5 => k_asm); (case k6 => k_is); (case k7 => k_is); (case k8 => ktr_room); (case k9 => first | exact BindsTo.of_eq rfl | exact binds_K (by k_in) rfl (by k_is) rfl rfl rfl); (case c5 => decide); (case kB => exact locs rfl); (case c2 => exact rfl); (case c3 => exact rfl); (case c4 => exact rfl); intro g' L' h' FG' F' N' B' X' T' D'; (try dsimp only); (try k_lift B'); (try k_fold))))
  refine wpC_execs_cons ?_
  refine wpC_Try ?_
  refine wpC_execs_cons (wpC_of_any ?_)
  k_steps
  refine ⟨?_⟩
  refine p257 (w := w) (tx l) t _ (by rw [tx_len]; exact Nat.le_trans hl (by decide)) (by rw [tx_cps]; exact h1) _ _ _ _ _ _ _ _ _ _ _ _ _ _ _ _ ⟨⟨_, by assumption⟩, by assumption, by assumption, by assumption, ⟨_, _, _, by assumption⟩, rfl⟩ ?hd1 ?hu1 ?ret1
  case hd1 => (dsimp only [ktrTop]); first | exact lim2 hd rfl | omega
  case hu1 => (dsimp only [ktrTop]); first | exact lim2 hu rfl | omega
  rintro r2 t2 h2 tk2 hr2 _ ⟨_, F2, X2, N2, T2, _⟩
  rw [tx_cps, hq] at hr2
  obtain rfl : r2 = tx q := tx_of hr2
  k_steps
  refine ⟨?_⟩
  refine pPrep (w := w) q _ _ hql hqs _ _ _ _ _ _ _ _ _ _ _ _ _ _ _ _ ⟨⟨_, by assumption⟩, by assumption, by assumption, by assumption, ⟨_, _, _, by assumption⟩, rfl⟩ ?hd3 ?hu3 ?ret3
  case hd3 => (dsimp only [ktrTop]); first | exact lim2 hd rfl | omega
  case hu3 => (dsimp only [ktrTop]); first | exact lim2 hu rfl | omega
  rintro t7 h7 tk7 ⟨_, F7, X7, N7, T7, _⟩
  k_steps
  show wpC _ _ _ _ _ _
  refine wpC_execs_cons (wpC_of_any ?_)
  k_steps
  refine ⟨?_⟩
  refine par _ _ _ _ _ _ _ _ _ _ _ _ _ _ _ _ _ _ _ _ _ ⟨⟨_, by assumption⟩, by assumption, by assumption, by assumption, ⟨_, _, _, by assumption⟩, rfl⟩ ?hd4 ?hu4 ?ret4
  case hd4 => (dsimp only [ktrTop]); first | exact lim2 hd rfl | omega
  case hu4 => (dsimp only [ktrTop]); first | exact lim2 hu rfl | omega
  rintro T5 tb5 h5 tk5 k5 ⟨_, F5, X5, N5, T5', _⟩
  k_steps
  show wpC _ _ _ _ _ _
  refine wpC_execs_cons (wpC_of_any ?_)
  k_steps
  refine ⟨?_⟩
  rw [hx]
  refine pLearn (w := w) X1 dX Lt hh th e its n rs i p _ _ news hi hp g.1 R hoff (by rw [R.len]; exact g.len) _ _ _ _ _ _ _ _ _ _ _ _ _ _ _ _ ⟨⟨_, by assumption⟩, by assumption, by assumption, by (first | assumption | ((rename News _ _ _ _ => nX); repeat' (first | (intro p hp; refine nX p ?_; (repeat (first | exact hp | apply List.Mem.tail)); done) | refine news_cons (nX _ (by (repeat (first | (exact List.Mem.head _; done) | refine List.Mem.tail _ ?_)))) ?_))), ⟨_, _, _, by assumption⟩, rfl⟩ ?hd6 ?hu6 ?ret6
  case hd6 => (dsimp only [ktrTop]); first | exact lim2 hd rfl | omega
  case hu6 => (dsimp only [ktrTop]); first | exact lim2 hu rfl | omega
  rintro ex n8 its8 h8 tk8 hex R8 ⟨_, F8, X8, N8, T8, _⟩
  (repeat (rename News _ _ _ (_ :: _ :: tabL X1 dX Lt hh th e its.toArray n news) => Nold; clear Nold))
  k_steps
  show wpC _ _ _ _ _ _
  refine wpC_of_any (wpAny_execs_nil ?_)
  show wpC _ _ _ _ _ _
  refine wpC_of_any (wpAny_execs_nil ?_)
  show wpC _ _ _ _ _ _
  refine wpC_execs_cons (wpC_of_any ?_)
  k_steps
  exact hend ex n8 its8 _ _ _ hex R8 ⟨⟨_, B⟩, by assumption, by assumption, by (first | assumption | ((rename News _ _ _ _ => nX); repeat' (first | (intro p hp; refine nX p ?_; (repeat (first | exact hp | apply List.Mem.tail)); done) | refine news_cons (nX _ (by (repeat (first | (exact List.Mem.head _; done) | refine List.Mem.tail _ ?_)))) ?_))), ⟨_, _, _, T⟩, hk⟩
end
end Mine
end
section
open PySem PySem.W PyProof.Rows PySem.Calls PySem.Spec PyProof.V
set_option maxRecDepth 100000
set_option maxHeartbeats 8000000
namespace Mine
theorem fill19 (w : World) (h : Heap) : (KF w.params).In h → PySem.Challenge.rw_wf0102_01.prog = PySem.Challenge.rw_wf0102_01.prog := by
  k_fill
  intro _; rfl
section
/-- the answer that a deed's number of a fault asks for, as a value -/
noncomputable def ansV (fault : Nat) (t : Tok) : Value := if fault < 16 then .str (PySem.Str.ofString "server") t else .int (([1, 1, 2, 2, 2, 3, 3] : List Int).getD (fault - 16) 0) t
theorem pAnswer0 (fault : Nat) (t : Tok) (news : List (Addr × Obj)) (hf : fault < 16) (w : World) :
   Ctr w 351 [.int (fault : Int) t] news 1 8 (fun R _ s Q _ => ∀ t' h' tk', R h' news → Q (ansV fault t') { s with heap := h', toks := tk' }) := by
  intro dp un gd cn cs a0 ccd cl base outer h₀ L m s Q E W hd hu hend
  obtain ⟨⟨A₀, B⟩, F, X, N, ⟨mean, mg, mb, T⟩, hk⟩ := W
  refine wpAny_call ?_
  k_dflt cell_enter
  k_steps
  all_goals first
  | (exfalso; omega)
  | (rw [show ansV fault = fun t => .str (PySem.Str.ofString "server") t from funext fun t => if_pos hf] at hend; exact hend _ _ _ ⟨⟨_, B⟩, by assumption, by assumption, by (first | assumption | ((rename News _ _ _ _ => nX); repeat' (first | (intro p hp; refine nX p ?_; (repeat (first | exact hp | apply List.Mem.tail)); done) | refine news_cons (nX _ (by (repeat (first | (exact List.Mem.head _; done) | refine List.Mem.tail _ ?_)))) ?_))), ⟨_, _, _, T⟩, hk⟩)
theorem pAnswer1 (fault : Nat) (t : Tok) (news : List (Addr × Obj)) (hf : ¬ fault < 16) (hf2 : fault < 23) (w : World) :
   Ctr w 351 [.int (fault : Int) t] news 1 8 (fun R _ s Q _ => ∀ t' h' tk', R h' news → Q (ansV fault t') { s with heap := h', toks := tk' }) := by
  intro dp un gd cn cs a0 ccd cl base outer h₀ L m s Q E W hd hu hend
  obtain ⟨⟨A₀, B⟩, F, X, N, ⟨mean, mg, mb, T⟩, hk⟩ := W
  refine wpAny_call ?_
  k_dflt cell_enter
  k_steps
  all_goals first
  | (exfalso; omega)
  | skip
  have e1 : ((fault : Int) - 16).toNat = fault - 16 := Int.toNat_sub fault 16
  rw [e1]
  rw [show ansV fault = fun t => .int (([1, 1, 2, 2, 2, 3, 3] : List Int).getD (fault - 16) 0) t from funext fun t => if_neg hf] at hend
  exact hend _ _ _ ⟨⟨_, B⟩, by assumption, by assumption, by (first | assumption | ((rename News _ _ _ _ => nX); repeat' (first | (intro p hp; refine nX p ?_; (repeat (first | exact hp | apply List.Mem.tail)); done) | refine news_cons (nX _ (by (repeat (first | (exact List.Mem.head _; done) | refine List.Mem.tail _ ?_)))) ?_))), ⟨_, _, _, T⟩, hk⟩
end
end Mine
end
section
open PySem PySem.W PyProof.Rows PySem.Calls PySem.Spec PyProof
set_option maxRecDepth 100000
namespace Mine
open PySem.Sem (wp)
section
variable {prog : Program} {w : World} {A : Around} {E : Value → Shared → Prop} {s : Shared} {h₀ : Heap} {env : Env}
theorem wpC_noted {α : Type} {M : Model} {m : Sem α} {Q : α → Shared → Prop} (h : wpC M A m Q (notedBy M A env E) s) : wpC M A (m.onRaise fun x => do noteFrame x env; theTreesLotGoes x) Q E s :=
  wpC_onRaise (wpC_mono h (fun _ _ q => q) fun _ _ hx => wpC_of_any (wpAny_bind (wpAny_mono hx (fun _ _ e => wpAny_theTreesLotGoes e) fun _ _ e => e)))
theorem codeC_forLoop {R : Result → Shared → Prop} {target : PySem.Expr} {it : Value} {body : List Stmt} (I : Nat → Shared → Prop)
    (turn : ∀ n s, I n s → wpAny (model prog w) A (pyNext it) (fun r s₁ => match r with
      | none => R (.ok .next) s₁
      | some v => wpAny (model prog w) A (letOwnedTupleGo target it v) (fun _ s₁' =>
          wpAny (model prog w) A (assign target env v) (fun _ s₂ => wpC (model prog w) A (execs body env) (fun f s₃ => match f with
            | .next | .cont => ∃ m, m < n ∧ I m s₃
            | .brk => R (.ok .next) s₃
            | .ret v => R (.ok (.ret v)) s₃) (notedBy (model prog w) A env fun e s' => R (.error e) s') s₂) (notedBy (model prog w) A env fun e s' => R (.error e) s') s₁') (notedBy (model prog w) A env fun e s' => R (.error e) s') s₁) (notedBy (model prog w) A env fun e s' => R (.error e) s') s)
    (n : Nat) (h : I n s) : codeC (model prog w) A (.forLoop target it body [] env) R s := by
  induction n using Nat.strongRecOn generalizing s with
  | ind n ih =>
    refine codeC_of_tree ?_
    show wpC _ A ((forTurn target it body [] env).onRaise (fun x => do noteFrame x env; theTreesLotGoes x)) _ _ s
    refine wpC_noted ?_
    simp only [forTurn]
    refine wpC_bind (wpC_standAt (wpC_bind (wpC_onRaise (wpC_mono (wpC_of_any (turn n s h)) (fun r s₁ h₁ => ?_) fun _ _ h' => wpC_of_any (wpAny_standAt h')))))
    cases r with
    | none => exact wpC_pure ⟨rfl, codeC_of_any (codeAny_block (wpAny_execs_nil h₁))⟩
    | some v =>
      refine wpC_bind (wpC_of_any (wpAny_mono h₁ (fun _ s₁' h₁' => ?_) fun _ _ h' => h'))
      refine wpC_bind (wpC_of_any (wpAny_mono h₁' (fun _ s₂ h₂ => wpC_bind (wpC_mono h₂ (fun f s₃ h₃ => ?_) fun _ _ h' => h')) fun _ _ h' => h'))
      cases f with
      | next => obtain ⟨m, hm, hI⟩ := h₃; exact wpC_pure ⟨rfl, ih m hm hI⟩
      | cont => obtain ⟨m, hm, hI⟩ := h₃; exact wpC_pure ⟨rfl, ih m hm hI⟩
      | brk => exact wpC_pure h₃
      | ret v => exact wpC_pure h₃
theorem wpC_For {M : Model} {target iter : PySem.Expr} {body orelse : List Stmt} {pos : Pos} {Q : Flow → Shared → Prop}
    (h : wpAny M A (eval iter env) (fun x s₁ => wpAny M A (pyIter x) (fun it s₂ =>
      codeC M A (.forLoop target it body orelse env) (fun r s' => match r with | .ok f => Q f s' | .error e => cameBackBy M A env E e s') s₂) E s₁) E s)
    (hs : ∀ x, foldedSetIterable iter env x = pure x := by intro _; rfl) : wpC M A (exec (.For target iter body orelse pos) env) Q E s := by
  rw [exec_For]
  exact wpC_bind (wpC_standAt (wpC_bind (wpC_of_any (wpAny_mono h (fun x s₁ h₁ => wpC_bind (wpC_of_eq (hs x) (wpC_bind (wpC_standAt (wpC_bind (wpC_holding
    (wpC_of_any (wpAny_mono h₁ (fun it s₂ h₂ => wpC_runOwn h₂) fun _ _ h' => h')))))))) fun _ _ h' => h'))))
/-- as ForAt, the body walked with the claim's caller below -/
inductive ForAtC (prog : Program) (w : World) (A : Around) (h₀ : Heap) (env : Env) (target : PySem.Expr) (body : List Stmt) (Q : Flow → Shared → Prop) (xv : Value) (s : Shared) : Prop
  | mk (l : Addr) (its : Array Value) (k : Nat) (m₀ : PySem.Str → Option Value) (news : List (Addr × Obj)) (J : Nat → (PySem.Str → Option Value) → List (Addr × Obj) → Prop) : xv = .ref l → A.handled = none → Fr h₀ env.locals s.heap m₀ → News h₀ env.locals s.heap news → J 0 m₀ news →
    (∀ i m n, J i m n → (l, listOf its k) ∈ n) →
    (∀ i v m₁ news₁ h tk I oI, its[i]? = some v → J i m₁ news₁ → oI.cls = .type "list_iterator" → Fr h₀ env.locals h m₁ → News h₀ env.locals h ((I, oI) :: news₁) → (∀ p ∈ news₁, p.1 ≠ I) →
      wpAny (model prog w) A (assign target env v) (fun _ s₂ => wpC (model prog w) A (execs body env) (ForEnd h₀ env.locals I oI (J (i + 1)) { s with heap := h, toks := tk } Q) NoRaise s₂) NoRaise { s with heap := h, toks := tk }) →
    (∀ m₁ news₁ h tk, J its.size m₁ news₁ → Fr h₀ env.locals h m₁ → News h₀ env.locals h news₁ → Q .next { s with heap := h, toks := tk }) → ForAtC prog w A h₀ env target body Q xv s
theorem for_listC {target iter : PySem.Expr} {pos : Pos} {body : List Stmt} {Q : Flow → Shared → Prop} {h₁ : Heap} {m₁ : PySem.Str → Option Value} (_ : Fr h₀ env.locals h₁ m₁)
    (h : wpAny (model prog w) A (eval iter env) (ForAtC prog w A h₀ env target body Q) E s)
    (hs : ∀ x, foldedSetIterable iter env x = pure x := by intro _; rfl) :
    wpC (model prog w) A (exec (.For target iter body [] pos) env) Q E s := by
  refine wpC_For (wpAny_mono h (fun xv s₁ h₁ => ?_) fun _ _ e => e) hs
  obtain ⟨l, its, k, m₀, news, J, rfl, hh, F, N, hJ, hlist, turn, done⟩ := h₁
  have hm := hlist _ _ _ hJ
  have hls : s₁.heap.IsList l its := ⟨_, (N _ hm).1, rfl, k, rfl⟩
  have hne : l ≠ s₁.heap.objs.size := Nat.ne_of_lt (Heap.lt_size (N _ hm).1)
  refine wpAny_pyIter_list hls ?_
  generalize hI : s₁.heap.objs.size = I at hne ⊢
  have hI₀ : h₀.get? I = none := by rw [← hI]; exact next_is_new F
  have hIL : env.locals ≠ I := by rw [← hI]; exact Nat.ne_of_lt F.ns.lt
  have hnews : ∀ p ∈ news, p.1 ≠ I := fun p hp => by rw [← hI]; exact Nat.ne_of_lt (Heap.lt_size (N p hp).1)
  refine codeC_forLoop (fun j s' => FInv its h₀ env.locals l I J s₁ j s') ?_ its.size
    ⟨_, s₁.toks, 0, m₀, news, rfl, Nat.zero_le _, rfl, ⟨_, by rw [← hI]; exact Heap.get?_push_size _ rfl, rfl, rfl⟩, F.push _, (fun p hp => ⟨Heap.get?_push_of_some _ (N p hp).1, (N p hp).2⟩), hnews, hJ⟩
  rintro j s' ⟨h', tk, i, m', news', rfl, hi, rfl, hit, F', N', off, hJ'⟩
  have hm' := hlist _ _ _ hJ'
  have hls' : h'.IsList l its := ⟨_, (N' _ hm').1, rfl, k, rfl⟩
  by_cases hlt : i < its.size
  · have hx : its[i]? = some its[i] := by simp [hlt]
    refine wpAny_pyNext_list_item hit hls' hx fun h₂ hit₂ hs₂ => ?_
    obtain ⟨oI, hoI, hcI, hdI⟩ := id hit₂
    have F₂ : Fr h₀ env.locals h₂ m' := ⟨F'.ns.sameBut hs₂ hIL, fun b o e => (hs₂.2 b (fun q => by rw [q, hI₀] at e; cases e)).trans (F'.keep b o e), F'.above⟩
    have N₂ : News h₀ env.locals h₂ ((I, oI) :: news') := fun p hp => by
      rcases List.mem_cons.mp hp with rfl | hp
      · exact ⟨hoI, Ne.symm hIL, hI₀⟩
      · exact ⟨(hs₂.2 _ (off p hp)).trans (N' p hp).1, (N' p hp).2⟩
    refine wp_owned hoI hcI ?_
    refine wpAny_mono (turn i _ m' news' h₂ tk I oI hx hJ' hcI F₂ N₂ off) (fun _ s₂ h₂ => ?_) fun _ _ e => e.elim
    refine wpC_mono h₂ (fun fl s₃ h₃ => ?_) fun _ _ e => e.elim
    have go : (∃ h' tk' m' news', s₃ = { s₁ with heap := h', toks := tk' } ∧ Fr h₀ env.locals h' m' ∧ News h₀ env.locals h' ((I, oI) :: news') ∧ (∀ p ∈ news', p.1 ≠ I) ∧ J (i + 1) m' news') → ∃ m, m < its.size - i ∧ FInv its h₀ env.locals l I J s₁ m s₃ := by
      rintro ⟨g₃, tk₃, m₃, n₃, rfl, F₃, N₃, off₃, J₃⟩
      exact ⟨its.size - (i + 1), by omega, g₃, tk₃, i + 1, m₃, n₃, rfl, hlt, rfl, ⟨oI, (N₃ _ (.head _)).1, hcI, hdI⟩, F₃, (fun p hp => N₃ p (.tail _ hp)), off₃, J₃⟩
    cases fl with
    | ret v => exact h₃
    | brk => exact h₃
    | next => exact go h₃
    | cont => exact go h₃
  · have e : i = its.size := by omega
    subst e
    refine wpAny_pyNext_list_end hh hit hls' (by simp) fun h₂ hs₂ => ?_
    have F₂ : Fr h₀ env.locals h₂ m' := ⟨F'.ns.at' fun o e => hs₂ _ o hIL e, fun b o e => hs₂ b o (fun q => by rw [q, hI₀] at e; cases e) (F'.keep b o e), F'.above⟩
    have N₂ : News h₀ env.locals h₂ news' := fun p hp => ⟨hs₂ _ _ (off p hp) (N' p hp).1, (N' p hp).2⟩
    exact done m' news' h₂ tk hJ' F₂ N₂
end
section
variable {M : Model} {A : Around} {E : Value → Shared → Prop} {s : Shared} {env : Env}
theorem wpC_spliced_cons {x : Sem Value} {rest : List (Bool × Sem Value)} {Q : List Value → Shared → Prop}
    (h : wpC M A x (fun v s₁ => wpC M A (spliced rest) (fun vs s₂ => Q (v :: vs) s₂) E s₁) E s) : wpC M A (spliced ((false, x) :: rest)) Q E s := by
  rw [spliced]
  refine wpC_bind (wpC_mono h (fun v s₁ h₁ => ?_) fun _ _ x => x)
  simp only [Bool.false_eq_true, if_false]
  exact wpC_bind (wpC_pure (wpC_bind (wpC_holding (wpC_mono h₁ (fun vs s₂ h₂ => wpC_pure h₂) fun _ _ x => x))))
theorem wpC_evalArgs_plain {f : Value} {x : Sem Value} {rest : List (Bool × Sem Value)} {Q : Args → Shared → Prop}
    (h : wpC M A (spliced ((false, x) :: rest)) (fun vs s' => Q ⟨vs, []⟩ s') E s) : wpC M A (evalArgs f true ((false, x) :: rest) []) Q E s := by
  unfold evalArgs
  show wpC M A (spliced ((false, x) :: rest) >>= _) Q E s
  refine wpC_bind (wpC_mono h (fun vs s' h' => ?_) fun _ _ x => x)
  refine wpC_holding ?_
  exact wpC_bind (wpC_pure (wpC_bind (wpC_pure (wpC_pure h'))))
theorem wpC_callWith_builtin1 {pos : Pos} {id : String} {first : List Value} {x : Sem Value} {Q : Value → Shared → Prop}
    (h : wpC M A x (fun v s₁ => wpAny M A (call (.builtin id) (first ++ [v])) Q E s₁) E s) : wpC M A (callWith pos (.builtin id) first [(false, x)] []) Q E s := by
  have hA : wpC M A (evalArgs (.builtin id) true [(false, x)] []) (fun a s₁ => wpAny M A (call (.builtin id) (first ++ a.pos) a.kw) Q E s₁) E s :=
    wpC_evalArgs_plain (wpC_spliced_cons (wpC_mono h (fun v s₁ h₁ => wpC_of_any (Calls.spliced_nil h₁)) fun _ _ x => x))
  unfold callWith
  refine wpC_bind (wpC_holding (wpC_mono hA (fun a s₁ h₁ => wpC_bind (wpC_standAt ?_)) fun _ _ x => x))
  simp only [List.any_cons, List.any_nil, Bool.or_false]
  refine wpC_bind (wpC_pure ?_)
  exact wpC_bind (wpC_of_any (wpAny_mono h₁ (fun r s₂ hr => wpC_bind (wpC_of_any (wpAny_holding (wpAny_point (wpC_pure hr))))) fun _ _ x => x))
theorem wpC_methodCall {name : PySem.Str} {o : PySem.Expr} {apos pos : Pos} {args : List PySem.Expr} {kws : List Keyword} {pl : Sem Bool} {Q : Value → Shared → Prop}
    (h : wpAny M A (eval o env) (fun ov s₁ => wpAny M A (getMethod ov name pl) (fun fx s₂ => wpC M A (callWith pos fx.1 fx.2 (backTo pos (starEach args env)) (backToKw pos (keywordEach kws env))) Q E s₂) E s₁) E s)
    (he : eval (.Call (.Attribute o name apos) args kws pos) env = (do
      let ov ← eval o env
      standAt apos.atName
      let (f, first) ← holding [ov] (getMethod ov name pl)
      callWith pos f first (backTo pos (starEach args env)) (backToKw pos (keywordEach kws env))) := by rfl) :
    wpC M A (eval (.Call (.Attribute o name apos) args kws pos) env) Q E s := by
  rw [he]
  refine wpC_bind (wpC_of_any (wpAny_mono h (fun ov s₁ h₁ => wpC_bind (wpC_standAt (wpC_bind (wpC_holding (wpC_of_any (wpAny_mono h₁ (fun fx s₂ h₂ => ?_) fun _ _ x => x)))))) fun _ _ x => x))
  exact h₂
end
end Mine
end
section
open PySem PySem.W PyProof.Rows PySem.Calls PySem.Spec PyProof.V
set_option maxRecDepth 100000
set_option maxHeartbeats 8000000
namespace Mine
theorem padC20n1 : True ∧ True := by walk1 <;> trivial
theorem fill20 (w : World) (h : Heap) : (KF w.params).In h → PySem.Challenge.rw_wf0102_01.prog = PySem.Challenge.rw_wf0102_01.prog := by
  k_fill
  intro _; rfl
theorem padC20n2 : True ∧ True := by walk1 <;> trivial
section
variable {prog : Program} {w : World} {A : Around} {E : Value → Shared → Prop} {s : Shared} {h₀ : Heap} {L : Addr} {news : List (Addr × Obj)} {Q : Value → Shared → Prop}
theorem slice_all {m : PySem.Str → Option Value} {value slice : PySem.Expr} {D : Addr} {vs : List Value} {n : Nat} (F : Fr h₀ L s.heap m) (N : News h₀ L s.heap news) (hm : (D, listOf vs.toArray n) ∈ news) (hl : vs.length ≤ 100)
    (h : ∀ D2 h', Fr h₀ L h' m → News h₀ L h' ((D2, listOf vs.toArray 0) :: news) → (∀ p ∈ news, p.1 < D2) → Q (.ref D2) { s with heap := h' })
    (hs : subscripted slice false (.ref D) (.ref s.heap.objs.size) = operate [.ref s.heap.objs.size, .ref D] (getItem (.ref D) (.ref s.heap.objs.size)) := by with_unfolding_all rfl)
    (ht : ∀ r, letTemporaryGo value (.ref D) r = pure () := by intro _; with_unfolding_all rfl) :
    wpAny (model prog w) A (subscriptTail value slice (.ref D) (.ref s.heap.objs.size)) Q E { s with heap := s.heap.push { cls := .type "slice", data := .fields #[.none, .none, .none] } } := by
  refine slice_list (vl := .none) (vu := .none) (lo := none) (hi := none) F N (News.isList N hm) .none .none (fun h' F' N' => ?_) hs ht (by rw [List.size_toArray]; exact Nat.le_trans hl (Nat.le_of_ble_eq_true rfl))
  rw [PySem.slicePick_all] at N'
  exact h _ h' F' N' fun p hp => Nat.lt_succ_of_lt (Heap.lt_size (N p hp).1)
end
theorem allLt_at {d : Addr} : ∀ {l : List (Addr × Obj)}, AllLt d l → ∀ p ∈ l, p.1 < d
  | [], _, p, hp => nomatch hp
  | q :: r, h, p, hp => by
    rcases List.mem_cons.mp hp with rfl | hp
    · exact h.1
    · exact allLt_at h.2 p hp
theorem padC20n3 : True ∧ True := by walk1 <;> trivial
section
local macro_rules | `(tactic| walk_at $s:str) => if ["ForAt", "exec For", "setAttr ref ref"].contains s.getString then `(tactic| (refine Hold.put ?_)) else Lean.Macro.throwUnsupported
theorem pNew (news : List (Addr × Obj)) (w : World) :
   Ctr w 286 [] news 2 16 (fun R _ s Q _ => ∀ X dX Lt hh th e n h' tk', (∀ p ∈ news, p.1 ≠ Lt) → R h' (tabL X dX Lt hh th e #[] n news) → Q (.ref X) { s with heap := h', toks := tk' }) := by
  intro dp un gd cn cs a0 ccd cl base outer h₀ L m s Q E W hd hu hend
  obtain ⟨⟨A₀, B⟩, F, X, N, ⟨mean, mg, mb, T⟩, hk⟩ := W
  k_dflt (refine' call_cls ?k1 ?k2 ?k3 ?k4 ?k5 ?k6 ?_; (case k1 => k_asm); (case k2 => k_asm); (case k3 => k_asm); (case k4 => k_is); (case k5 => k_is); (case k6 => k_is); k_whole; intro x' d' h' F' N' l1 l2)
  k_dflt (((refine' code_def ?k1 ?k2 ?k3 ?k4 ?k5 ?kA ?kF ?kK ?k6 ?k7 ?k8 ?k9 ?kB ?_ ?c2 ?c3 ?c4 ?c5; (case kA => exact rfl); (case kF => exact rfl); (case kK => assumption); (case k1 => k_asm); (case k2 => k_asm); (case k3 => k_asm); (case k4 => k_asm); (case k5 => k_asm); (case k6 => k_is); (case k7 => k_is); (case k8 => ktr_room); (case k9 => first | exact BindsTo.of_eq rfl | exact binds_K (by k_in) rfl (by k_is) rfl rfl rfl); (case c5 => decide); (case kB => exact locs rfl); (case c2 => exact rfl); (case c3 => exact rfl); (case c4 => exact rfl); k_whole; intro g' L' h' FG' F' N' B' X' T'; (try dsimp only); (try k_lift B'); (try k_fold))))
  k_steps
  refine ⟨?_⟩
  (rename _ ∧ _ ∧ AllLt _ news => l3)
  k_dflt (refine' set_dict ?k1 ?k2 ?k3 ?k4 ?k5 ?k6 ?k7 ?k8 ?k9 ?k10 ?k11 ?k12 ?k13 ?_; (case k1 => k_asm); (case k2 => k_asm); (case k3 => k_asm); (case k4 => k_inst); (case k5 => exact rfl); (case k6 => k_is); (case k7 => k_is); (case k8 => k_is); (case k9 => k_is); (case k10 => k_get); (case k11 => k_put); (case k12 => exact Upd.tail (Ne.symm (Nat.ne_of_lt l3.2.1)) (Upd.tail (Ne.symm (Nat.ne_of_lt l2)) (Upd.head fun p hp => Nat.ne_of_lt (l1 p hp)))); (case k13 => exact Nat.le_of_ble_eq_true rfl); k_whole; intro h5 F5 N5)
  k_steps
  refine ⟨?_⟩
  (rename Fr _ _ _ _ => Fx); refine for_listF Fx ?_
  k_steps
  refine ⟨?_⟩
  (rename Fr _ _ _ _ => Fy); (rename News _ _ _ _ => Ny)
  refine ⟨_, #[], 0, _, _, fun j m' n' => m' = _ ∧ n' = _, rfl, rfl, Fy, Ny, ⟨rfl, rfl⟩, ?hl, ?turn, ?done⟩
  case hl => rintro j m' n' ⟨_, rfl⟩; exact .head _
  case turn =>
    rintro j v m₁ news₁ h tk I oI hv
    simp at hv
  case done =>
    rintro m₁ news₁ h tk ⟨rfl, rfl⟩ F₃ N₃
    k_steps
    exact hend _ _ _ _ _ _ _ _ _ (fun p hp => Nat.ne_of_lt (allLt_at l3.2.2 p hp)) ⟨⟨_, B⟩, by assumption, by assumption, by (first | assumption | ((rename News _ _ _ _ => nX); repeat' (first | (intro p hp; refine nX p ?_; (repeat (first | exact hp | apply List.Mem.tail)); done) | refine news_cons (nX _ (by (repeat (first | (exact List.Mem.head _; done) | refine List.Mem.tail _ ?_)))) ?_))), ⟨_, _, _, T⟩, hk⟩
local macro_rules | `(tactic| walk_at $s:str) => if ["subscriptTail Name Slice ref ref"].contains s.getString then `(tactic| (refine Hold.put ?_)) else Lean.Macro.throwUnsupported
theorem pItems (X1 dX Lt : Addr) (hh : Int) (th : Tok) (e : Nat) (its : List Value) (n : Nat) (news : List (Addr × Obj)) (hsz : its.length ≤ 4) (w : World) :
   Ctr w 250 [.ref X1] (tabL X1 dX Lt hh th e its.toArray n news) 1 8 (fun R _ s Q _ => ∀ D h' tk', (∀ p ∈ tabL X1 dX Lt hh th e its.toArray n news, p.1 ≠ D) → R h' ((D, listOf its.toArray 0) :: tabL X1 dX Lt hh th e its.toArray n news) → Q (.ref D) { s with heap := h', toks := tk' }) := by
  intro dp un gd cn cs a0 ccd cl base outer h₀ L m s Q E W hd hu hend
  obtain ⟨⟨A₀, B⟩, F, X, N, ⟨mean, mg, mb, T⟩, hk⟩ := W
  refine wpAny_call ?_
  k_dflt cell_enter
  k_steps
  refine ⟨?_⟩
  (rename Fr _ _ _ _ => Fy); (rename News _ _ _ _ => Ny)
  refine slice_all (s := ⟨_, _, _, _, _⟩) (by exact Fy) (by exact Ny) (.tail _ (.tail _ (.head _))) (by omega) ?_
  intro D h5 F5 N5 l5
  clear Fy Ny
  k_steps
  exact hend D _ _ (fun p hp => Nat.ne_of_lt (l5 p hp)) ⟨⟨_, B⟩, by assumption, by assumption, by (first | assumption | ((rename News _ _ _ _ => nX); repeat' (first | (intro p hp; refine nX p ?_; (repeat (first | exact hp | apply List.Mem.tail)); done) | refine news_cons (nX _ (by (repeat (first | (exact List.Mem.head _; done) | refine List.Mem.tail _ ?_)))) ?_))), ⟨_, _, _, T⟩, hk⟩
end
end Mine
end
section
open PySem PySem.W PyProof.Rows PySem.Calls PySem.Spec PyProof
set_option maxRecDepth 100000
namespace Mine
theorem named_refused (sp : List Nat) : (namedOf 16 sp).take 3 ≠ [50, 53, 55] := by
  unfold namedOf
  rw [if_pos rfl]
  show [50, 53, 48] ≠ [50, 53, 55]
  decide
theorem named_eq {fault : Nat} (h : fault ≠ 16) (sp : List Nat) : namedOf fault sp = namedA (if fault = 22 then sp ++ [7] else sp) := by
  unfold namedOf
  rw [if_neg h]
theorem named_open {fault : Nat} (h : fault ≠ 16) (sp : List Nat) : (namedOf fault sp).take 5 = [50, 53, 55, 32, 34] := by
  rw [named_eq h]
  rfl
theorem named_unq {fault : Nat} (h : fault ≠ 16) (sp : List Nat) : unq ((namedOf fault sp).drop 5) = if fault = 22 then sp ++ [7] else sp := by
  rw [named_eq h]
  exact unq_dbl (by decide) _
theorem spell_prep : ∀ i < 4, ∀ way < 64, prepL (spell (nm i) way) = nm i ∧ prepL (spell (nm i) way ++ [7]) ∈ ctl := by decide +kernel
theorem spell_sgn0 : ∀ i < 4, ∀ way < 64, (spell (nm i) way ++ [7]).all (fun c => decide (c = 173 ∨ Sgn c)) = true := by decide +kernel
theorem spell_sgn {i way : Nat} (hi : i < 4) (hw : way < 64) : ∀ c ∈ spell (nm i) way ++ [7], c = 173 ∨ Sgn c := fun c hc => by
  have := List.all_eq_true.mp (spell_sgn0 i hi way hw) c hc
  exact of_decide_eq_true this
theorem dbl_len : ∀ l : List Nat, (StrLaws.dbl 34 l).length ≤ 2 * l.length
  | [] => Nat.le_refl _
  | c :: r => by
    have := dbl_len r
    show (if c = 34 then c :: c :: StrLaws.dbl 34 r else c :: StrLaws.dbl 34 r).length ≤ _
    split <;> simp only [List.length_cons] <;> omega
theorem named_len {i way : Nat} (hi : i < 4) (fault : Nat) : (namedOf fault (spell (nm i) way)).length ≤ 400 := by
  have h1 := spell_len (nm i) way
  have h2 := nm_len hi
  have h3 : ∀ sp : List Nat, sp.length ≤ 6 → (namedA (if fault = 22 then sp ++ [7] else sp)).length ≤ 100 := by
    intro sp hs
    have h4 := dbl_len (if fault = 22 then sp ++ [7] else sp)
    have h5 : (if fault = 22 then sp ++ [7] else sp).length ≤ 7 := by
      split
      · rw [List.length_append]; simp only [List.length_cons, List.length_nil]; omega
      · omega
    unfold namedA
    simp only [List.length_append, List.length_cons, List.length_nil]
    omega
  have h6 := h3 (spell (nm i) way) (by omega)
  unfold namedOf
  split
  · rw [List.length_append, List.length_drop]
    simp only [List.length_cons, List.length_nil]
    omega
  · omega
/-- what stands between the brackets of the second reply -/
noncomputable def am (k m : Nat) (fg : List Nat) : List Nat := List.replicate k m ++ (fg ++ [m])
theorem flat_rep (k m : Nat) : (List.replicate k [m]).flatten = List.replicate k m := by
  induction k with
  | zero => rfl
  | succ k ih => rw [List.replicate_succ, List.flatten_cons, ih]; rfl
theorem ported_form (kind fault : Nat) (fg : List Nat) : portedA kind fault fg = [50, 50, 57, 32, 103, 111, 32] ++ 40 :: (am (aheadOf kind fault) (markOf kind) fg ++ 41 :: []) := by
  unfold portedA am
  rw [flat_rep]
  simp
theorem am_split {m : Nat} {fg : List Nat} (h : m ∉ fg) : splitL m (fg ++ [m]) = [fg, []] := by
  rw [splitL_cut h]
  rfl
theorem am_split_rep {m : Nat} {fg : List Nat} (h : m ∉ fg) : ∀ k, splitL m (am k m fg) = List.replicate k [] ++ [fg, []]
  | 0 => am_split h
  | k + 1 => by
    have e : am (k + 1) m fg = [] ++ m :: am k m fg := rfl
    rw [e, splitL_cut (by simp), am_split_rep h k]
    rfl
theorem am_no {k m c : Nat} {fg : List Nat} (h1 : m ≠ c) (h2 : c ∉ fg) : c ∉ am k m fg := by
  unfold am
  rw [List.mem_append, List.mem_append, List.mem_singleton]
  rintro (g | g | g)
  · exact h1 (List.eq_of_mem_replicate g).symm
  · exact h2 g
  · exact h1 g.symm
theorem am_first {k m : Nat} {fg : List Nat} : (am (k + 1) m fg).getD 0 0 = m := rfl
theorem am_last {k m : Nat} {fg : List Nat} : (am k m fg).getD ((am k m fg).length - 1) 0 = m := by
  unfold am
  rw [← List.append_assoc]
  simp
theorem am_len {k m : Nat} {fg : List Nat} : (am k m fg).length = k + fg.length + 1 := by
  unfold am
  rw [List.length_append, List.length_append, List.length_replicate, List.length_singleton]
  omega
theorem mark_is (kind : Nat) (hk : kind < 6) : markOf kind ∈ [124, 33, 47, 115, 83, 40] := by
  exact (by decide : ∀ k, k < 6 → markOf k ∈ [124, 33, 47, 115, 83, 40]) kind hk
theorem mark_figs {kind : Nat} (hk : kind < 6) (port : Nat) : markOf kind ∉ figs port ∧ markOf kind ∉ 120 :: figs port ∧ markOf kind ≠ 41 ∧ markOf kind ≠ 126 := by
  have h1 : ∀ k, k < 6 → (markOf k ∉ [48, 49, 50, 51, 52, 53, 54, 55, 56, 57]) ∧ markOf k ≠ 120 ∧ markOf k ≠ 41 ∧ markOf k ≠ 126 := by decide
  have h1 := h1 kind hk
  have h2 : markOf kind ∉ figs port := fun h => h1.1 (figs_in _ _ h)
  refine ⟨h2, fun h => ?_, h1.2.2.1, h1.2.2.2⟩
  rcases List.mem_cons.mp h with g | g
  · exact h1.2.1 g
  · exact h2 g
theorem figs_shut (port : Nat) : 41 ∉ figs port ∧ 40 ∉ figs port := by
  exact ⟨fun h => absurd (figs_in _ _ h) (by decide), fun h => absurd (figs_in _ _ h) (by decide)⟩
end Mine
end
section
open PySem PySem.W PyProof.Rows PySem.Calls PySem.Spec PyProof.V
set_option maxRecDepth 100000
namespace Mine
theorem ported_plain {kind port fault : Nat} (h : fault ≠ 17 ∧ fault ≠ 18 ∧ fault ≠ 19) : portedOf kind port fault = [50, 50, 57, 32, 103, 111, 32] ++ 40 :: (am (aheadOf kind fault) (markOf kind) (if fault = 21 then 120 :: figs port else figs port) ++ 41 :: []) := by
  unfold portedOf portedFg
  simp only [if_neg h.1, if_neg h.2.1, if_neg h.2.2]
  exact ported_form _ _ _
theorem par_ok (w : World) {kind port fault : Nat} (hk : kind < 6) (hp : port < 1000) (hf : fault < 16 ∨ fault = 22) (tp : Tok) (T : Addr) (xt yt : Tok) (c : Nat) (news : List (Addr × Obj)) :
   Ctr w 82 [.str (tx (portedOf kind port fault)) tp, .ref T] ((T, { cls := .type "tuple", data := .seq #[.str (PySem.Str.ofString "server") xt, .int 21 yt] c }) :: news) 1 8 (fun R _ s Q _ => ∀ T' tb h' tk' k, R h' ((T', { cls := .type "tuple", data := .seq #[.str (PySem.Str.ofString "server") xt, .int (port : Int) tb] k }) :: (T, { cls := .type "tuple", data := .seq #[.str (PySem.Str.ofString "server") xt, .int 21 yt] c }) :: news) → Q (.ref T') { s with heap := h', toks := tk' }) := by
  have e3 : aheadOf kind fault = 3 := by unfold aheadOf; rw [if_neg (by omega)]
  have hl := figs_le hp
  obtain ⟨m1, m2, m3, m4⟩ := mark_figs hk port
  obtain ⟨f1, f2⟩ := figs_shut port
  rw [ported_plain (by omega), if_neg (by omega), e3]
  have la : (am 3 (markOf kind) (figs port)).length ≤ 7 := by rw [am_len]; omega
  refine p229G (w := w) [] [] [] (figs port) [] [50, 50, 57, 32, 103, 111, 32] (am 3 (markOf kind) (figs port)) [] tp T news ?_ rfl (by decide) (am_no m3 f1) ?_ (by omega) (am_first.trans am_last.symm) ?_ _ _ _ _ _ (by omega) ?_
  · simp only [List.length_append, List.length_cons, List.length_nil]
    omega
  · intro e
    have := am_len (k := 3) (m := markOf kind) (fg := figs port)
    rw [e] at this
    simp at this
  · rw [am_first, am_split_rep m1]
    rfl
  · rw [← num_tx]
    exact KIN.num_reads (by omega) (by omega)
theorem bad_int : ∀ port < 1000, PySem.intText? (tx (120 :: figs port)) = none := by decide +kernel
theorem par_bad (w : World) {kind port : Nat} (hk : kind < 6) (hp : port < 1000) (tp : Tok) (T : Addr) (xt yt : Tok) (c : Nat) (news : List (Addr × Obj)) :
   CtrC w 82 [.str (tx (portedOf kind port 21)) tp, .ref T] ((T, { cls := .type "tuple", data := .seq #[.str (PySem.Str.ofString "server") xt, .int 21 yt] c }) :: news) 1 8 (fun _ R s _ E => ∀ e h' tk', R e (.type "ValueError") ((T, { cls := .type "tuple", data := .seq #[.str (PySem.Str.ofString "server") xt, .int 21 yt] c }) :: news) h' → E (.ref e) { s with heap := h', toks := tk' }) := by
  have e3 : aheadOf kind 21 = 3 := rfl
  have hl := figs_le hp
  obtain ⟨m1, m2, m3, m4⟩ := mark_figs hk port
  obtain ⟨f1, f2⟩ := figs_shut port
  rw [ported_plain (by omega), if_pos rfl, e3]
  have la : (am 3 (markOf kind) (120 :: figs port)).length ≤ 8 := by rw [am_len, List.length_cons]; omega
  have f3 : 41 ∉ 120 :: figs port := by
    intro h
    rcases List.mem_cons.mp h with g | g
    · cases g
    · exact f1 g
  refine p229I (w := w) [] [] [] (120 :: figs port) [] [50, 50, 57, 32, 103, 111, 32] (am 3 (markOf kind) (120 :: figs port)) [] tp T news ?_ rfl (by decide) (am_no m3 f3) ?_ (by omega) (am_first.trans am_last.symm) ?_ _ _ _ _ (by rw [List.length_cons]; omega) ?_ ?_
  · simp only [List.length_append, List.length_cons, List.length_nil]
    omega
  · intro e
    have := am_len (k := 3) (m := markOf kind) (fg := 120 :: figs port)
    rw [e] at this
    simp at this
  · rw [am_first, am_split_rep m2]
    rfl
  · exact bad_int port hp
  · refine Nat.le_trans (StrLaws.reprText_len _ fun c hc => ?_) ?_
    · rw [tx_cps] at hc
      rcases List.mem_cons.mp hc with rfl | g
      · decide
      · have := figs_in _ _ g
        simp only [List.mem_cons, List.not_mem_nil, or_false] at this
        have h9 : c ≤ 57 := by rcases this with rfl | rfl | rfl | rfl | rfl | rfl | rfl | rfl | rfl | rfl <;> decide
        exact Nat.lt_of_le_of_lt h9 (by decide)
    · rw [tx_len, List.length_cons]
      exact Nat.le_trans (show 10 * ((figs port).length + 1) + 2 ≤ 100 by omega) (Nat.le_of_ble_eq_true rfl)
theorem Ctr.toC {w : World} {f : Addr} {vs : List Value} {news : List (Addr × Obj)} {d u : Nat} {post : (Heap → List (Addr × Obj) → Prop) → (Addr → Value → List (Addr × Obj) → Heap → Prop) → Shared → (Value → Shared → Prop) → (Value → Shared → Prop) → Prop} (h : Ctr w f vs news d u post) : CtrC w f vs news d u post :=
  fun dp un gd cn cs a ccd cl base outer h₀ L m s Q E W hd hu hp => wpC_of_any (h dp un gd cn cs a ccd cl base outer h₀ L m s Q E W hd hu hp)
theorem portedA_len {kind fault port : Nat} (hp : port < 1000) : (portedA kind fault (figs port)).length ≤ 20 := by
  rw [ported_form]
  have := am_len (k := aheadOf kind fault) (m := markOf kind) (fg := figs port)
  have h2 := aheadOf_le kind fault
  have h3 := figs_le hp
  simp only [List.length_append, List.length_cons, List.length_nil]
  omega
theorem par_17 (w : World) {kind port : Nat} (hp : port < 1000) (tp : Tok) (T : Addr) (news : List (Addr × Obj)) :
   Ctr w 82 [.str (tx (portedOf kind port 17)) tp, .ref T] news 1 8 (fun _ R s _ E => ∀ e h' tk', R e (.ref 61) news h' → E (.ref e) { s with heap := h', toks := tk' }) := by
  have e : portedOf kind port 17 = [50, 50, 56] ++ List.drop 3 (portedA kind 17 (figs port)) := by
    unfold portedOf portedFg
    simp
  have hl := portedA_len (kind := kind) (fault := 17) hp
  rw [e]
  refine p229A (w := w) _ tp T news ?_ ?_
  · rw [List.length_append, List.length_drop]
    simp only [List.length_cons, List.length_nil]
    omega
  · show [50, 50, 56] ≠ [50, 50, 57]
    decide
theorem par_18a (w : World) {kind port : Nat} (hk : kind % 2 = 1) (hp : port < 1000) (tp : Tok) (T : Addr) (news : List (Addr × Obj)) :
   Ctr w 82 [.str (tx (portedOf kind port 18)) tp, .ref T] news 1 8 (fun _ R s _ E => ∀ e h' tk', R e (.ref 73) news h' → E (.ref e) { s with heap := h', toks := tk' }) := by
  have e : portedOf kind port 18 = [50, 50, 57, 32, 103, 111, 32, 50] ++ figs port ++ [50, 41] := by
    unfold portedOf portedFg
    simp [hk]
  have hl := figs_le hp
  rw [e]
  refine p229B (w := w) _ tp T news ?_ rfl ?_
  · simp only [List.length_append, List.length_cons, List.length_nil]
    omega
  · intro h
    rcases List.mem_append.mp h with g | g
    · rcases List.mem_append.mp g with g | g
      · revert g; decide
      · exact (figs_shut port).2 g
    · revert g; decide
theorem am_ne {k m : Nat} {fg : List Nat} : am k m fg ≠ [] := fun e => by
  have := am_len (k := k) (m := m) (fg := fg)
  rw [e] at this
  simp at this
theorem cut_last (kind fault : Nat) (fg : List Nat) : List.take ((portedA kind fault fg).length - 1) (portedA kind fault fg) = [50, 50, 57, 32, 103, 111, 32] ++ 40 :: am (aheadOf kind fault) (markOf kind) fg := by
  rw [ported_form]
  have e : [50, 50, 57, 32, 103, 111, 32] ++ 40 :: (am (aheadOf kind fault) (markOf kind) fg ++ [41]) = ([50, 50, 57, 32, 103, 111, 32] ++ 40 :: am (aheadOf kind fault) (markOf kind) fg) ++ [41] := by simp
  rw [e, List.length_append, List.length_singleton, Nat.add_sub_cancel, List.take_left']
  rfl
theorem par_18b (w : World) {kind port : Nat} (hk : kind % 2 ≠ 1) (hk6 : kind < 6) (hp : port < 1000) (tp : Tok) (T : Addr) (news : List (Addr × Obj)) :
   Ctr w 82 [.str (tx (portedOf kind port 18)) tp, .ref T] news 1 8 (fun _ R s _ E => ∀ e h' tk', R e (.ref 73) news h' → E (.ref e) { s with heap := h', toks := tk' }) := by
  have e : portedOf kind port 18 = [50, 50, 57, 32, 103, 111, 32] ++ 40 :: (am (aheadOf kind 18) (markOf kind) (figs port) ++ [93]) := by
    have : portedOf kind port 18 = List.take ((portedA kind 18 (figs port)).length - 1) (portedA kind 18 (figs port)) ++ [93] := by
      unfold portedOf portedFg
      simp [hk]
    rw [this, cut_last]
    simp
  have hl := figs_le hp
  obtain ⟨m1, m2, m3, m4⟩ := mark_figs hk6 port
  have la := am_len (k := aheadOf kind 18) (m := markOf kind) (fg := figs port)
  have h2 := aheadOf_le kind 18
  rw [e]
  refine p229C (w := w) [50, 50, 57, 32, 103, 111, 32] _ tp T news ?_ rfl (by decide) ?_
  · simp only [List.length_append, List.length_cons, List.length_nil]
    omega
  · intro h
    rcases List.mem_append.mp h with g | g
    · exact am_no m3 (figs_shut port).1 g
    · revert g; decide
theorem par_19 (w : World) {kind port : Nat} (hk6 : kind < 6) (hp : port < 1000) (tp : Tok) (T : Addr) (news : List (Addr × Obj)) :
   Ctr w 82 [.str (tx (portedOf kind port 19)) tp, .ref T] news 1 8 (fun _ R s _ E => ∀ e h' tk', R e (.ref 73) news h' → E (.ref e) { s with heap := h', toks := tk' }) := by
  have e : portedOf kind port 19 = [50, 50, 57, 32, 103, 111, 32] ++ 40 :: ((am 3 (markOf kind) (figs port) ++ [126]) ++ 41 :: []) := by
    have : portedOf kind port 19 = List.take ((portedA kind 19 (figs port)).length - 1) (portedA kind 19 (figs port)) ++ [126, 41] := by
      unfold portedOf portedFg
      simp
    rw [this, cut_last, show aheadOf kind 19 = 3 from rfl]
    simp
  have hl := figs_le hp
  obtain ⟨m1, m2, m3, m4⟩ := mark_figs hk6 port
  have la := am_len (k := 3) (m := markOf kind) (fg := figs port)
  rw [e]
  refine p229D (w := w) [50, 50, 57, 32, 103, 111, 32] (am 3 (markOf kind) (figs port) ++ [126]) [] tp T news ?_ rfl (by decide) ?_ (by simp) ?_ ?_ trivial trivial trivial trivial trivial trivial trivial trivial
  · simp only [List.length_append, List.length_cons, List.length_nil]
    omega
  · intro h
    rcases List.mem_append.mp h with g | g
    · exact am_no m3 (figs_shut port).1 g
    · revert g; decide
  · simp only [List.length_append, List.length_cons, List.length_nil]
    omega
  · have h1 : (am 3 (markOf kind) (figs port) ++ [126]).getD 0 0 = markOf kind := rfl
    have h2 : (am 3 (markOf kind) (figs port) ++ [126]).getD ((am 3 (markOf kind) (figs port) ++ [126]).length - 1) 0 = 126 := by simp
    rw [h1, h2]
    exact m4
theorem par_20 (w : World) {kind port : Nat} (hk6 : kind < 6) (hp : port < 1000) (tp : Tok) (T : Addr) (news : List (Addr × Obj)) :
   Ctr w 82 [.str (tx (portedOf kind port 20)) tp, .ref T] news 1 8 (fun _ R s _ E => ∀ e h' tk', R e (.ref 73) news h' → E (.ref e) { s with heap := h', toks := tk' }) := by
  have hl := figs_le hp
  obtain ⟨m1, m2, m3, m4⟩ := mark_figs hk6 port
  obtain ⟨f1, f2⟩ := figs_shut port
  rw [ported_plain (by omega), if_neg (by omega)]
  by_cases hk : kind % 2 = 1
  · have e3 : aheadOf kind 20 = 4 := by unfold aheadOf; rw [if_pos rfl, if_pos hk]
    rw [e3]
    have la := am_len (k := 4) (m := markOf kind) (fg := figs port)
    refine p229E6 (w := w) [] [] [] [] (figs port) [] [50, 50, 57, 32, 103, 111, 32] (am 4 (markOf kind) (figs port)) [] tp T news ?_ rfl (by decide) (am_no m3 f1) am_ne (by omega) (am_first.trans am_last.symm) ?_ trivial trivial trivial trivial trivial trivial trivial
    · simp only [List.length_append, List.length_cons, List.length_nil]
      omega
    · rw [am_first, am_split_rep m1]
      rfl
  · have e3 : aheadOf kind 20 = 2 := by unfold aheadOf; rw [if_pos rfl, if_neg hk]
    rw [e3]
    have la := am_len (k := 2) (m := markOf kind) (fg := figs port)
    refine p229E4 (w := w) [] [] (figs port) [] [50, 50, 57, 32, 103, 111, 32] (am 2 (markOf kind) (figs port)) [] tp T news ?_ rfl (by decide) (am_no m3 f1) am_ne (by omega) (am_first.trans am_last.symm) ?_ trivial trivial trivial trivial trivial trivial trivial
    · simp only [List.length_append, List.length_cons, List.length_nil]
      omega
    · rw [am_first, am_split_rep m1]
      rfl
end Mine
end
section
open PySem PySem.W PyProof.Rows PySem.Calls PySem.Spec PyProof.V
set_option maxRecDepth 100000
namespace Mine
theorem CtrH.mono {w : World} {f : Addr} {vs : List Value} {news : List (Addr × Obj)} {d u : Nat} {post post' : (Heap → List (Addr × Obj) → Prop) → Shared → (Value → Shared → Prop) → Prop} (h : CtrH w f vs news d u post) (hp : ∀ R s Q, post' R s Q → post R s Q) : CtrH w f vs news d u post' :=
  fun dp un gd cn cs a ccd cl base h₀ L m s Q E W XB TB hd hu q => h dp un gd cn cs a ccd cl base h₀ L m s Q E W XB TB hd hu (hp _ _ _ q)
theorem pHearF (X1 dX Lt : Addr) (hh : Int) (th : Tok) (e : Nat) (its : List Value) (n : Nat) (rs : List (Nat × Nat)) (i way fault port kind : Nat) (t tp : Tok) (news : List (Addr × Obj)) (hi : i < 4) (hw : way < 64) (hf : fault < 23) (hp : port < 1000) (hk : kind < 6) (g : Good rs) (R : Rows news its rs) (hoff : ∀ p ∈ news, p.1 ≠ Lt) (w : World) :
   CtrH w 337 [.ref X1, .str (tx (namedOf fault (spell (nm i) way))) t, .str (tx (portedOf kind port fault)) tp] (tabL X1 dX Lt hh th e its.toArray n news) 6 64 (fun R s Q => ∀ ex n' its' t' h' tk', (∀ q ∈ ex, q.2.cls = .type "tuple") → Rows (ex ++ news) its' (if fault < 16 then learn rs i port else rs) → R h' (tabL X1 dX Lt hh th e its'.toArray n' (ex ++ news)) → Q (ansV fault t') { s with heap := h', toks := tk' }) := by
  have hlen := named_len (way := way) hi fault
  have hsl := spell_len (nm i) way
  have hnl := nm_len hi
  have sg := spell_sgn hi hw
  have bad : ∀ (a : Int), ¬ fault < 16 → (([1, 1, 2, 2, 2, 3, 3] : List Int).getD (fault - 16) 0) = a → ∀ (R : Heap → List (Addr × Obj) → Prop) (s : Shared) (Q : Value → Shared → Prop), (∀ ex n' its' t' h' tk', (∀ q ∈ ex, q.2.cls = .type "tuple") → Rows (ex ++ news) its' (if fault < 16 then learn rs i port else rs) → R h' (tabL X1 dX Lt hh th e its'.toArray n' (ex ++ news)) → Q (ansV fault t') { s with heap := h', toks := tk' }) →
      ∀ t' h' tk', R h' (tabL X1 dX Lt hh th e its.toArray n news) → Q (.int a t') { s with heap := h', toks := tk' } := by
    intro a hn ha R' s Q h t' h' tk' q
    have := h [] n its t' h' tk' (fun q hq => nomatch hq) (by rw [if_neg hn]; exact R) q
    rw [show ansV fault t' = .int a t' from (if_neg hn).trans (by rw [ha])] at this
    exact this
  by_cases h16 : fault = 16
  · subst h16
    exact (pHear1 (w := w) _ _ t tp _ _ hlen (named_refused _)).mono fun R s Q h => bad 1 (by decide) rfl R s Q h
  have h1 := named_open h16 (spell (nm i) way)
  have h2 := named_unq h16 (spell (nm i) way)
  by_cases h22 : fault = 22
  · subst h22
    rw [if_pos rfl] at h2
    exact (pHear3 (w := w) X1 dX Lt hh th e its n rs _ _ _ port t tp news hlen h1 h2 (by rw [List.length_append]; simp only [List.length_cons, List.length_nil]; omega) sg (spell_prep i hi way hw).2 fun T xt yt c nw => par_ok w hk hp (.inr rfl) tp T xt yt c nw).mono fun R s Q h => bad 3 (by decide) rfl R s Q h
  rw [if_neg h22] at h2
  have sg' : ∀ c ∈ spell (nm i) way, c = 173 ∨ Sgn c := fun c hc => sg c (List.mem_append_left _ hc)
  by_cases hlt : fault < 16
  · refine (pHear4 (w := w) X1 dX Lt hh th e its n rs _ _ _ port t tp news hlen h1 h2 (by omega) sg' i (spell_prep i hi way hw).1 hi hp g R hoff fun T xt yt c nw => par_ok w hk hp (.inl hlt) tp T xt yt c nw).mono fun R s Q h => ?_
    intro ex n' its' t' h' tk' hex hR hA
    have := h ex n' its' t' h' tk' hex (by rw [if_pos hlt]; exact hR) hA
    rw [show ansV fault t' = .str (PySem.Str.ofString "server") t' from if_pos hlt] at this
    exact this
  obtain rfl | rfl | rfl | rfl | rfl := five hf hlt h16 h22
  · exact (pHear2A (w := w) _ _ _ _ t tp _ hlen h1 h2 (by omega) sg' fun T xt yt c nw => Ctr.toC (par_17 w hp tp T _)).mono fun R s Q h => bad 1 (by decide) rfl R s Q h
  · by_cases hodd : kind % 2 = 1
    · exact (pHear2B (w := w) _ _ _ _ t tp _ hlen h1 h2 (by omega) sg' fun T xt yt c nw => Ctr.toC (par_18a w hodd hp tp T _)).mono fun R s Q h => bad 2 (by decide) rfl R s Q h
    · exact (pHear2B (w := w) _ _ _ _ t tp _ hlen h1 h2 (by omega) sg' fun T xt yt c nw => Ctr.toC (par_18b w hodd hk hp tp T _)).mono fun R s Q h => bad 2 (by decide) rfl R s Q h
  · exact (pHear2B (w := w) _ _ _ _ t tp _ hlen h1 h2 (by omega) sg' fun T xt yt c nw => Ctr.toC (par_19 w hk hp tp T _)).mono fun R s Q h => bad 2 (by decide) rfl R s Q h
  · exact (pHear2B (w := w) _ _ _ _ t tp _ hlen h1 h2 (by omega) sg' fun T xt yt c nw => Ctr.toC (par_20 w hk hp tp T _)).mono fun R s Q h => bad 2 (by decide) rfl R s Q h
  · exact (pHear2C (w := w) _ _ _ _ t tp _ hlen h1 h2 (by omega) sg' fun T xt yt c nw => par_bad w hk hp tp T xt yt c nw).mono fun R s Q h => bad 3 (by decide) rfl R s Q h
end Mine
end
section
open PySem PySem.W PyProof.Rows
namespace Mine
/-- a deed as the law lays it -/
inductive Deed where
  | tell (a b : Nat)
  | hear (c i way fault port kind : Nat)
/-- a deed's numbers are in their bounds -/
noncomputable def Deed.Ok : Deed → Prop
  | .tell a b => a < 3 ∧ b < 3 ∧ a ≠ b
  | .hear c i way fault port kind => c < 3 ∧ i < 4 ∧ way < 64 ∧ fault < 23 ∧ port < 1000 ∧ kind < 6
noncomputable def deedOf (x : Int) : Deed :=
  if x % 3 = 0 then .tell (x % 5 % 3).toNat ((x % 5 % 3 + 1 + x % 2) % 3).toNat
  else .hear (x % 5 % 3).toNat (x % 7 % 4).toNat (x * 13 % 64).toNat (x % 23).toNat (x % 1000).toNat (x % 11 % 6).toNat
theorem fm (z : Int) (k : Nat) : z.fmod (k : Int) = z % (k : Int) := Int.fmod_eq_emod_of_nonneg _ (Int.natCast_nonneg _)
theorem em0 (x : Int) {k : Nat} (hk : k ≠ 0) : 0 ≤ x % (k : Int) := Int.emod_nonneg _ (Int.natCast_ne_zero.mpr hk)
theorem em (x : Int) {k : Nat} (hk : k ≠ 0) : (((x % (k : Int)).toNat : Nat) : Int) = x % (k : Int) := Int.toNat_of_nonneg (em0 x hk)
theorem emL (x : Int) {k : Nat} (hk : 0 < k) : (x % (k : Int)).toNat < k := (Int.toNat_lt (em0 x (Nat.ne_of_gt hk))).mpr (Int.emod_lt_of_pos _ (Int.natCast_pos.mpr hk))
/-- a floor's remainder, and one of a remainder, as the number that the deed holds -/
theorem fm1 (z : Int) {k : Nat} (hk : k ≠ 0) : z.fmod (k : Int) = (((z % (k : Int)).toNat : Nat) : Int) := (fm z k).trans (em z hk).symm
theorem fm2 (z : Int) (j : Nat) {k : Nat} (hk : k ≠ 0) : (z.fmod (j : Int)).fmod (k : Int) = (((z % (j : Int) % (k : Int)).toNat : Nat) : Int) := (congrArg (fun x => Int.fmod x (k : Int)) (fm z j)).trans (fm1 _ hk)
theorem other (a b : Int) (ha : 0 ≤ a) (hb : 0 ≤ b) (hb2 : b < 2) (ha2 : a < 3) : a.toNat ≠ ((a + 1 + b) % 3).toNat := by omega
theorem deedOf_ok (x : Int) : (deedOf x).Ok := by
  unfold deedOf
  split
  · exact ⟨emL (x % 5) (k := 3) (by decide), emL (x % 5 % 3 + 1 + x % 2) (k := 3) (by decide), other _ _ (em0 (x % 5) (k := 3) (by decide)) (em0 x (k := 2) (by decide)) (Int.emod_lt_of_pos _ (by decide)) (Int.emod_lt_of_pos _ (by decide))⟩
  · exact ⟨emL (x % 5) (k := 3) (by decide), emL (x % 7) (k := 4) (by decide), emL (x * 13) (k := 64) (by decide), emL x (k := 23) (by decide), emL x (k := 1000) (by decide), emL (x % 11) (k := 6) (by decide)⟩
/-- a deed's tuple -/
noncomputable def DeedO : Deed → Obj → Prop
  | .tell a b, o => ∃ t u, o = { cls := .type "tuple", data := .seq #[.int (a : Int) t, .int (b : Int) u] }
  | .hear c i way fault port kind, o => ∃ t1 t2 t3 t4 t5 t6, o = { cls := .type "tuple", data := .seq #[.int (c : Int) t1, .int (i : Int) t2, .int (way : Int) t3, .int (fault : Int) t4, .int (port : Int) t5, .int (kind : Int) t6] }
theorem DeedO.cls {d : Deed} {o : Obj} (h : DeedO d o) : o.cls = .type "tuple" := by
  cases d with
  | tell a b => obtain ⟨t, u, rfl⟩ := h; rfl
  | hear c i way fault port kind => obtain ⟨t1, t2, t3, t4, t5, t6, rfl⟩ := h; rfl
theorem DeedO.data {d : Deed} {o : Obj} (h : DeedO d o) : ∃ xs k, o.data = .seq xs k := by
  cases d with
  | tell a b => obtain ⟨t, u, rfl⟩ := h; exact ⟨_, _, rfl⟩
  | hear c i way fault port kind => obtain ⟨t1, t2, t3, t4, t5, t6, rfl⟩ := h; exact ⟨_, _, rfl⟩
inductive Deeds (news : List (Addr × Obj)) : List Value → List Deed → Prop
  | nil : Deeds news [] []
  | cons {T : Addr} {o : Obj} {vs : List Value} {d : Deed} {ds : List Deed} : (T, o) ∈ news → DeedO d o → Deeds news vs ds → Deeds news (.ref T :: vs) (d :: ds)
theorem Deeds.at {news : List (Addr × Obj)} : ∀ {vs : List Value} {ds : List Deed}, Deeds news vs ds → ∀ {i : Nat} {v : Value}, vs[i]? = some v → ∃ T o d, v = .ref T ∧ ds[i]? = some d ∧ (T, o) ∈ news ∧ DeedO d o
  | _, _, .nil, i, v, h => by simp at h
  | _, _, .cons (T := T) (o := o) (d := d) hm hd _, 0, v, h => by
    simp at h
    exact ⟨T, o, d, h.symm, rfl, hm, hd⟩
  | _, _, .cons _ _ q, i + 1, v, h => q.at (i := i) (by simpa using h)
theorem Deeds.len {news : List (Addr × Obj)} : ∀ {vs : List Value} {ds : List Deed}, Deeds news vs ds → vs.length = ds.length
  | _, _, .nil => rfl
  | _, _, .cons _ _ q => by rw [List.length_cons, List.length_cons, q.len]
theorem Deeds.mono {news news' : List (Addr × Obj)} (hs : ∀ p ∈ news, p ∈ news') : ∀ {vs : List Value} {ds : List Deed}, Deeds news vs ds → Deeds news' vs ds
  | _, _, .nil => .nil
  | _, _, .cons hm hd q => .cons (hs _ hm) hd (q.mono hs)
theorem Deeds.append {news : List (Addr × Obj)} : ∀ {vs vs' : List Value} {ds ds' : List Deed}, Deeds news vs ds → Deeds news vs' ds' → Deeds news (vs ++ vs') (ds ++ ds')
  | _, _, _, _, .nil, h => h
  | _, _, _, _, .cons hm hd q, h => .cons hm hd (q.append h)
theorem Deeds.reverse {news : List (Addr × Obj)} : ∀ {vs : List Value} {ds : List Deed}, Deeds news vs ds → Deeds news vs.reverse ds.reverse
  | _, _, .nil => .nil
  | _, _, .cons hm hd q => by
    rw [List.reverse_cons, List.reverse_cons]
    exact q.reverse.append (.cons hm hd .nil)
theorem deedO_tell {z : Int} (h : z.fmod 3 = 0) (t u : Tok) : DeedO (deedOf z) { cls := .type "tuple", data := .seq #[.int ((z.fmod 5).fmod 3) t, .int (((z.fmod 5).fmod 3 + 1 + z.fmod 2).fmod 3) u] } := by
  have e : z % 3 = 0 := (fm z 3).symm.trans h
  unfold deedOf
  rw [if_pos e]
  refine ⟨t, u, ?_⟩
  have e1 : (z.fmod 5).fmod 3 = (((z % 5 % 3).toNat : Nat) : Int) := fm2 z 5 (k := 3) (by decide)
  have e2 : (((z % 5 % 3).toNat : Nat) : Int) + 1 + z.fmod 2 = z % 5 % 3 + 1 + z % 2 := congr (congrArg HAdd.hAdd (congrArg (fun x : Int => x + 1) (em (z % 5) (k := 3) (by decide)))) (fm z 2)
  have e3 : (z % 5 % 3 + 1 + z % 2).fmod 3 = ((((z % 5 % 3 + 1 + z % 2) % 3).toNat : Nat) : Int) := fm1 _ (k := 3) (by decide)
  rw [e1, e2, e3]
theorem deedO_hear {z : Int} (h : ¬ z.fmod 3 = 0) (t1 t2 t3 t4 t5 t6 : Tok) : DeedO (deedOf z) { cls := .type "tuple", data := .seq #[.int ((z.fmod 5).fmod 3) t1, .int ((z.fmod 7).fmod 4) t2, .int ((z * 13).fmod 64) t3, .int (z.fmod 23) t4, .int (z.fmod 1000) t5, .int ((z.fmod 11).fmod 6) t6] } := by
  have e : ¬ z % 3 = 0 := fun q => h ((fm z 3).trans q)
  unfold deedOf
  rw [if_neg e]
  refine ⟨t1, t2, t3, t4, t5, t6, ?_⟩
  have e1 : (z.fmod 5).fmod 3 = (((z % 5 % 3).toNat : Nat) : Int) := fm2 z 5 (k := 3) (by decide)
  have e2 : (z.fmod 7).fmod 4 = (((z % 7 % 4).toNat : Nat) : Int) := fm2 z 7 (k := 4) (by decide)
  have e3 : (z * 13).fmod 64 = (((z * 13 % 64).toNat : Nat) : Int) := fm1 (z * 13) (k := 64) (by decide)
  have e4 : z.fmod 23 = (((z % 23).toNat : Nat) : Int) := fm1 z (k := 23) (by decide)
  have e5 : z.fmod 1000 = (((z % 1000).toNat : Nat) : Int) := fm1 z (k := 1000) (by decide)
  have e6 : (z.fmod 11).fmod 6 = (((z % 11 % 6).toNat : Nat) : Int) := fm2 z 11 (k := 6) (by decide)
  rw [e1, e2, e3, e4, e5, e6]
section
open PySem.Calls
variable {prog : Program} {w : World} {A : Around} {E : Value → Shared → Prop} {s : Shared}
/-- a new tuple appended to a list of the ledger -/
theorem appendNew {g : Heap} {L T I D l0 : Addr} {oT oI oD : Obj} {m : PySem.Str → Option Value} {its : List Value} {k : Nat} {rest : List (Addr × Obj)} {Q : Value → Shared → Prop}
    (F : Fr g L s.heap m) (N : News g L s.heap ((T, oT) :: (I, oI) :: (D, oD) :: (l0, listOf its.toArray k) :: rest)) (hT : T ≠ l0) (hI : I ≠ l0) (hD : D ≠ l0) (hr : ∀ p ∈ rest, p.1 ≠ l0) (hsz : its.length ≤ 99)
    (hQ : ∀ h' k', Fr g L h' m → News g L h' ((I, oI) :: (D, oD) :: (l0, listOf (its ++ [Value.ref T]).toArray k') :: (T, oT) :: rest) → Q .none { s with heap := h' }) :
    wpAny (model prog w) A (call (.builtin "list.append") [.ref l0, .ref T]) Q E s := by
  have m1 : (l0, listOf its.toArray k) ∈ (T, oT) :: (I, oI) :: (D, oD) :: (l0, listOf its.toArray k) :: rest := .tail _ (.tail _ (.tail _ (.head _)))
  refine appendAt (N _ m1).1 (by rw [List.size_toArray]; omega) ?_
  intro h5 n5 g5 b5
  have F5 : Fr g L h5 m := F.change b5 (N _ m1).2.1 (N _ m1).2.2
  have keep : ∀ p ∈ (T, oT) :: (I, oI) :: (D, oD) :: (l0, listOf its.toArray k) :: rest, p.1 ≠ l0 → h5.get? p.1 = some p.2 ∧ p.1 ≠ L ∧ g.get? p.1 = none := fun p hp q => ⟨(b5.2 _ q).trans (N p hp).1, (N p hp).2⟩
  rw [List.push_toArray] at g5
  exact hQ h5 n5 F5 (news_cons (keep (I, _) (.tail _ (.head _)) hI) (news_cons (keep (D, _) (.tail _ (.tail _ (.head _))) hD) (news_cons ⟨g5, (N _ m1).2⟩ (news_cons (keep (T, _) (.head _) hT) fun p hp => keep p (.tail _ (.tail _ (.tail _ (.tail _ hp)))) (hr p hp)))))
end
end Mine
end
section
open PySem PySem.W PyProof.Rows PySem.Calls PySem.Spec PyProof.V
set_option maxRecDepth 100000
set_option maxHeartbeats 8000000
namespace Mine
theorem padC23n1 : True ∧ True := by walk1 <;> trivial
theorem fill23 (w : World) (h : Heap) : (KF w.params).In h → PySem.Challenge.rw_wf0102_01.prog = PySem.Challenge.rw_wf0102_01.prog := by
  k_fill
  intro _; rfl
theorem ints_at : ∀ {vs : List Value} {ns : List Int} {j : Nat} {v : Value}, IntsAre vs ns → vs[j]? = some v → ∃ z t, ns[j]? = some z ∧ v = .int z t
  | [], _, j, v, _, h => by simp at h
  | x :: vs, [], j, v, S, h => by cases S
  | x :: vs, z :: ns, 0, v, S, h => by
    cases S
    exact ⟨_, _, rfl, (Option.some.inj h).symm⟩
  | x :: vs, z :: ns, j + 1, v, S, h => by
    cases S with
    | cons _ _ q => exact ints_at (ns := ns) q (by simpa using h)
theorem padC23n2 : True ∧ True := by walk1 <;> trivial
section
local macro_rules | `(tactic| walk_at $s:str) => if ["exec For", "ForAt", "ForEnd", "subscriptTail Name Slice ref ref", "call builtin:list.append"].contains s.getString then `(tactic| (refine Hold.put ?_)) else Lean.Macro.throwUnsupported
/-- the numbers of the deeds -/
noncomputable abbrev numsOf (ns : List Int) : List Int := [2, 61, 6] ++ List.take 10 ns
theorem pDeeds (Sc : Addr) (vs : List Value) (ns : List Int) (news : List (Addr × Obj)) (hi : IntsAre vs ns) (hl : vs.length ≤ 63) (w : World) :
  ∀ (dp un : Nat) (gd : Option (List Code)) (cn : PySem.Str) (cs : Scope) (a : Addr) (ccd : Value) (cl : List (PySem.Str × Addr)) (base : Heap) (outer : List Env) (h₀ : Heap) (L : Addr) (m : PySem.Str → Option Value) (s : Shared) (Q E : Value → Shared → Prop),
    At w base cs L outer h₀ m news s.heap → h₀.IsList Sc vs.toArray → dp + 1 < recursionLimit → un + 16 < cLine →
    (∀ D its k ex h' tk', (∀ q ∈ ex, ∃ d, DeedO d q.2) → Deeds ex its ((numsOf ns).map deedOf) → At w base cs L outer h₀ m ((D, listOf its.toArray k) :: (ex ++ news)) h' → Q (.ref D) { s with heap := h', toks := tk' }) →
      wpAny (model PG w) (ktrTop dp un gd cn cs L a ccd cl outer) (call (.ref 297) [.ref Sc]) Q E s := by
  intro dp un gd cn cs a0 ccd cl base outer h₀ L m s Q E W hSc hd hu hend
  obtain ⟨⟨A₀, B⟩, F, X, N, ⟨mean, mg, mb, T⟩, hk⟩ := W
  refine wpAny_call ?_
  k_dflt cell_enter
  k_steps
  refine ⟨?_⟩
  (rename Fr _ _ _ _ => Fx); refine for_listF Fx ?_
  k_steps
  refine ⟨?_⟩
  (rename Fr _ L _ _ => FG)
  (rename Fr _ _ _ _ => Fy); (rename News _ _ _ _ => Ny)
  refine kmk_slice_ints (s := ⟨_, _, _, _, _⟩) (by exact Fy) (by exact Ny) (hSc.at fun o e => Fy.keep _ o (FG.keep _ o e)) .none (.int _ _) hi (kmk_upto hi (by decide)) rfl ?_ (by with_unfolding_all rfl) (by intro _; with_unfolding_all rfl) (by rw [List.size_toArray]; exact Nat.le_trans hl (Nat.le_of_ble_eq_true rfl))
  intro D1 ws1 h1 F1 N1 lW hI1 _ _
  have hI1' : IntsAre ws1 (List.take 10 ns) := hI1
  clear Fy Ny hI1
  k_steps
  refine ⟨?_⟩
  (rename Fr _ _ _ _ => Fy); (rename News _ _ _ _ => Ny)
  rename_i l0 _ lS _ l1 _ _ _ _ D ws _ hI lD
  refine ⟨D, ws.toArray, 0, _, (D, listOf ws.toArray 0) :: (l0, listOf [].toArray 0) :: ([] ++ news), fun j m' n' => (∃ a b, m' = fr2 (S "one") (S "x") a b _) ∧ ∃ its k ex, n' = (D, listOf ws.toArray 0) :: (l0, listOf its.toArray k) :: (ex ++ news) ∧ (∀ q ∈ ex, ∃ d, DeedO d q.2) ∧ Deeds ex its (((numsOf ns).take j).map deedOf), rfl, rfl, Fy, ?hN, ⟨⟨_, _, fr2_self _ _ _⟩, [], 0, [], rfl, fun q hq => (nomatch hq), .nil⟩, ?hl, ?turn, ?done⟩
  case hN =>
    refine news_cons (Ny _ (.head _)) (news_cons (Ny _ (.tail _ (.tail _ (.tail _ (.head _))))) fun p hp => Ny p (.tail _ (.tail _ (.tail _ (.tail _ hp)))))
  case hl => rintro j m' n' ⟨_, its, k, ex, rfl, _⟩; exact .head _
  case turn =>
    intro j v m₁ news₁ h tk I oI hv hJ hoI F₅ N₅ off
    refine wpAny_cut ?_
    intro Q4 E4 cQ4 cE4
    obtain ⟨⟨a, b, rfl⟩, its, k, ex, rfl, hex, hD⟩ := hJ
    obtain ⟨z, tz, hz, rfl⟩ := ints_at hI (by simpa using hv)
    clear Ny Fy hI
    have hOff : ∀ p ∈ ex ++ news, p.1 ≠ l0 := by
      intro p hp
      rcases List.mem_append.mp hp with q | q
      · exact ne_objs (oa := p.2) N₅ (.tail _ (.tail _ (.tail _ (List.mem_append_left _ q)))) (.tail _ (.tail _ (.head _))) (by obtain ⟨d, hd⟩ := hex p q; rw [hd.cls]; exact cls_ne (by decide))
      · exact Nat.ne_of_lt (lS p q)
    have hlen : its.length ≤ 99 := by
      have := hD.len
      rw [List.length_map, List.length_take] at this
      have h2 : (numsOf ns).length ≤ 13 := by simp only [numsOf, List.length_append, List.length_take, List.length_cons, List.length_nil]; omega
      omega
    have hI0 : I ≠ l0 := Ne.symm (off (l0, _) (.tail _ (.head _)))
    have step : ∀ {T : Addr} {oT : Obj} {k' : Nat}, I < T → DeedO (deedOf z) oT →
        (∀ p ∈ (D, listOf ws.toArray 0) :: (l0, listOf (its ++ [Value.ref T]).toArray k') :: (T, oT) :: (ex ++ news), p.1 ≠ I) ∧
        ∃ its2 k2 ex2, (D, listOf ws.toArray 0) :: (l0, listOf (its ++ [Value.ref T]).toArray k') :: (T, oT) :: (ex ++ news) = (D, listOf ws.toArray 0) :: (l0, listOf its2.toArray k2) :: (ex2 ++ news) ∧ (∀ q ∈ ex2, ∃ d, DeedO d q.2) ∧ Deeds ex2 its2 (((numsOf ns).take (j + 1)).map deedOf) := by
      intro T oT k' hT hO
      refine ⟨?off, its ++ [Value.ref T], k', (T, oT) :: ex, rfl, ?tup, ?deeds⟩
      case off =>
        refine List.forall_mem_cons.mpr ⟨off _ (.head _), List.forall_mem_cons.mpr ⟨Ne.symm hI0, List.forall_mem_cons.mpr ⟨Ne.symm (Nat.ne_of_lt hT), fun p hp => off p (.tail _ (.tail _ hp))⟩⟩⟩
      case tup =>
        intro q hq
        rcases List.mem_cons.mp hq with rfl | hq
        · exact ⟨_, hO⟩
        · exact hex q hq
      case deeds =>
        rw [List.take_add_one, hz, List.map_append]
        exact (hD.mono fun p hp => .tail _ hp).append (.cons (.head _) hO .nil)
    k_steps
    refine cQ4.use ?_
    refine wpAny_cut ?_
    intro Q5 E5 cQ5 cE5
    k_steps
    all_goals (
      refine ⟨?_⟩
      (rename Fr _ _ _ _ => Fz); (rename News _ _ _ _ => Nz); (rename _ ∧ _ ∧ _ ∧ AllLt _ _ => lz)
      refine appendNew (by exact Fz) (by exact Nz) (Ne.symm (Nat.ne_of_lt lz.2.2.1)) hI0 (Ne.symm (Nat.ne_of_lt lD.2.2.1)) hOff hlen ?_
      intro h5 k5 F5 N5
      clear Nz Fz N₅ F₅
      k_steps
      refine cQ5.use ?_
      k_steps
      refine ⟨?_⟩)
    · (rename Fr _ _ _ _ => Fw); (rename News _ _ _ _ => Nw)
      obtain ⟨o1, o2⟩ := step lz.1 (deedO_tell (by assumption) _ _)
      exact ForEnd.next Fw Nw o1 ⟨⟨_, _, fr2_set⟩, o2⟩
    · (rename Fr _ _ _ _ => Fw); (rename News _ _ _ _ => Nw)
      obtain ⟨o1, o2⟩ := step lz.1 (deedO_hear (by assumption) _ _ _ _ _ _)
      exact ForEnd.next Fw Nw o1 ⟨⟨_, _, fr2_set⟩, o2⟩
  case done =>
    rintro m₁ news₁ h tk ⟨⟨a, b, rfl⟩, its, k, ex, rfl, hex, hD⟩ F₅ N₅
    have hsz : ws.toArray.size = (numsOf ns).length := by rw [List.size_toArray]; exact hI.length
    rw [hsz, List.take_length] at hD
    clear Ny Fy
    k_steps
    exact hend l0 its k ex _ _ hex hD ⟨⟨_, B⟩, by assumption, by assumption, by (first | assumption | ((rename News _ _ _ _ => nX); repeat' (first | (intro p hp; refine nX p ?_; (repeat (first | exact hp | apply List.Mem.tail)); done) | refine news_cons (nX _ (by (repeat (first | (exact List.Mem.head _; done) | refine List.Mem.tail _ ?_)))) ?_))), ⟨_, _, _, T⟩, hk⟩
end
end Mine
end
section
open PySem PySem.W PyProof.Rows
namespace Mine
noncomputable def omax : Option Nat → Option Nat → Option Nat
  | none, y => y
  | some x, none => some x
  | some x, some y => some (max x y)
theorem omax_none (x : Option Nat) : omax x none = x := by cases x <;> rfl
theorem omax_assoc (x y z : Option Nat) : omax (omax x y) z = omax x (omax y z) := by
  cases x <;> cases y <;> cases z <;> simp [omax, Nat.max_assoc]
theorem omax_comm (x y : Option Nat) : omax x y = omax y x := by
  cases x <;> cases y <;> simp [omax, Nat.max_comm]
theorem omax_self (x : Option Nat) : omax x x = x := by cases x <;> simp [omax]
theorem lookup_filter_ne {rs : List (Nat × Nat)} {i j : Nat} : (rs.filter (·.1 ≠ i)).lookup j = if j = i then none else rs.lookup j := by
  induction rs with
  | nil => simp
  | cons r rs ih =>
    obtain ⟨a, b⟩ := r
    by_cases e : a = i
    · rw [List.filter_cons_of_neg (by simp [e]), ih]
      by_cases ej : j = i
      · simp [ej]
      · rw [if_neg ej, if_neg ej, List.lookup_cons, beq_eq_false_iff_ne.mpr (by rw [e]; exact ej)]
    · rw [List.filter_cons_of_pos (by simp [e]), List.lookup_cons, List.lookup_cons, ih]
      by_cases ej : j = a
      · subst ej; simp [e]
      · rw [beq_eq_false_iff_ne.mpr ej]
theorem lookup_append {l k : List (Nat × Nat)} {j : Nat} : (l ++ k).lookup j = (l.lookup j).or (k.lookup j) := by
  induction l with
  | nil => simp
  | cons r l ih =>
    obtain ⟨a, b⟩ := r
    rw [List.cons_append, List.lookup_cons, List.lookup_cons, ih]
    cases j == a <;> rfl
theorem learn_lookup (rs : List (Nat × Nat)) (i p j : Nat) : (learn rs i p).lookup j = if j = i then omax (rs.lookup i) (some p) else rs.lookup j := by
  have put : (rs.filter (·.1 ≠ i) ++ [(i, p)]).lookup j = if j = i then some p else rs.lookup j := by
    rw [lookup_append, lookup_filter_ne]
    by_cases e : j = i
    · subst e; simp
    · rw [if_neg e, if_neg e, List.lookup_cons, beq_eq_false_iff_ne.mpr e]; simp
  cases h : rs.lookup i with
  | none => rw [learn_none h, put]; rfl
  | some q =>
    by_cases hq : q < p
    · rw [learn_lt h hq, put]
      simp only [omax, Nat.max_eq_right (Nat.le_of_lt hq)]
    · rw [learn_ge h hq]
      by_cases e : j = i
      · subst e; simp only [if_true, h, omax, Nat.max_eq_left (Nat.le_of_not_lt hq)]
      · rw [if_neg e]
theorem lookup_notin {rs : List (Nat × Nat)} {j : Nat} (h : j ∉ rs.map (·.1)) : rs.lookup j = none := by
  induction rs with
  | nil => rfl
  | cons r rs ih =>
    obtain ⟨a, b⟩ := r
    simp only [List.map_cons, List.mem_cons, not_or] at h
    rw [List.lookup_cons, beq_eq_false_iff_ne.mpr h.1]
    exact ih h.2
theorem tell_lookup (a : List (Nat × Nat)) : ∀ (b : List (Nat × Nat)) (j : Nat), (a.map (·.1)).Nodup → (tellAll b a).lookup j = omax (b.lookup j) (a.lookup j) := by
  induction a with
  | nil => intro b j _; exact (omax_none _).symm
  | cons r a ih =>
    intro b j hn
    obtain ⟨k, p⟩ := r
    obtain ⟨h1, h2⟩ := List.nodup_cons.mp hn
    show (tellAll (learn b k p) a).lookup j = _
    rw [ih _ _ h2, learn_lookup, List.lookup_cons]
    by_cases e : j = k
    · subst e
      rw [if_pos rfl, lookup_notin h1, omax_none, beq_self_eq_true]
    · rw [if_neg e, beq_eq_false_iff_ne.mpr e]
/-- the tables behind a deed -/
noncomputable def stepT (T : Nat → List (Nat × Nat)) : Deed → Nat → List (Nat × Nat)
  | .tell a b, c => if c = b then tellAll (T b) (T a) else T c
  | .hear c' i _ fault port _, c => if c = c' then (if fault < 16 then learn (T c') i port else T c') else T c
noncomputable def runT (T : Nat → List (Nat × Nat)) (ds : List Deed) : Nat → List (Nat × Nat) := ds.foldl stepT T
theorem stepT_good {T : Nat → List (Nat × Nat)} {d : Deed} (hd : d.Ok) (h : ∀ c, Good (T c)) : ∀ c, Good (stepT T d c) := by
  intro c
  cases d with
  | tell a b =>
    show Good (if c = b then _ else _)
    split
    · exact Good.tell (h a).1 (h b)
    · exact h c
  | hear c' i way fault port kind =>
    show Good (if c = c' then (if fault < 16 then _ else _) else _)
    split
    · split
      · exact (h c').learn hd.2.1 hd.2.2.2.2.1
      · exact h c'
    · exact h c
theorem runT_good {ds : List Deed} : ∀ {T : Nat → List (Nat × Nat)}, (∀ d ∈ ds, d.Ok) → (∀ c, Good (T c)) → ∀ c, Good (runT T ds c) := by
  induction ds with
  | nil => exact fun _ h => h
  | cons d ds ih => exact fun hd h => ih (fun x hx => hd x (.tail _ hx)) (stepT_good (hd d (.head _)) h)
/-- what the walk from behind holds: the clients reached and the ports -/
noncomputable def putB (B : List (Nat × Nat)) (i p : Nat) : List (Nat × Nat) := if (B.lookup i).isSome then B.map (fun r => if r.1 = i then (r.1, p) else r) else B ++ [(i, p)]
noncomputable def backStep (s : List Nat × List (Nat × Nat)) : Deed → List Nat × List (Nat × Nat)
  | .tell a b => if b ∈ s.1 ∧ a ∉ s.1 then (s.1 ++ [a], s.2) else s
  | .hear c i _ fault port _ => if c ∈ s.1 ∧ fault < 16 then (s.1, putB s.2 i (max ((s.2.lookup i).getD 0) port)) else s
noncomputable def back (ds : List Deed) (c : Nat) : List Nat × List (Nat × Nat) := ds.reverse.foldl backStep ([c], [])
theorem putB_lookup (B : List (Nat × Nat)) (i p j : Nat) : (putB B i p).lookup j = if j = i then some p else B.lookup j := by
  unfold putB
  split
  · rename_i h
    have : ∀ B : List (Nat × Nat), (B.map (fun r => if r.1 = i then (r.1, p) else r)).lookup j = if j = i then (B.lookup i).map (fun _ => p) else B.lookup j := by
      intro B
      induction B with
      | nil => simp
      | cons r B ih =>
        obtain ⟨a, b⟩ := r
        rw [List.map_cons]
        by_cases ea : a = i
        · subst ea
          rw [if_pos rfl, List.lookup_cons, List.lookup_cons, List.lookup_cons, ih]
          by_cases ej : j = a
          · subst ej; simp
          · rw [beq_eq_false_iff_ne.mpr ej, if_neg ej, if_neg ej]
        · rw [if_neg ea, List.lookup_cons, List.lookup_cons, List.lookup_cons, ih]
          by_cases ej : j = a
          · subst ej; simp [ea]
          · rw [beq_eq_false_iff_ne.mpr ej]
            have e3 : (i == a) = false := beq_eq_false_iff_ne.mpr (fun q => ea q.symm)
            rw [e3]
    rw [this]
    cases hl : B.lookup i with
    | none => rw [hl] at h; cases h
    | some q => rfl
  · rename_i h
    have hn : B.lookup i = none := by
      cases hl : B.lookup i with
      | none => rfl
      | some q => rw [hl] at h; exact absurd rfl h
    rw [lookup_append]
    by_cases e : j = i
    · subst e; rw [hn, if_pos rfl]; simp
    · rw [if_neg e, List.lookup_cons, beq_eq_false_iff_ne.mpr e]; simp
noncomputable def sup (R : List Nat) (f : Nat → Option Nat) : Option Nat := R.foldr (fun r a => omax (f r) a) none
theorem sup_append (R : List Nat) (f : Nat → Option Nat) (a : Nat) : sup (R ++ [a]) f = omax (sup R f) (f a) := by
  induction R with
  | nil => exact omax_none _
  | cons r R ih =>
    show omax (f r) (sup (R ++ [a]) f) = omax (omax (f r) (sup R f)) (f a)
    rw [ih, omax_assoc]
theorem sup_in {R : List Nat} {f : Nat → Option Nat} {a : Nat} (h : a ∈ R) : omax (sup R f) (f a) = sup R f := by
  induction R with
  | nil => cases h
  | cons r R ih =>
    show omax (omax (f r) (sup R f)) (f a) = omax (f r) (sup R f)
    rcases List.mem_cons.mp h with rfl | h
    · rw [omax_comm, ← omax_assoc, omax_self]
    · rw [omax_assoc, ih h]
theorem sup_none {R : List Nat} {f : Nat → Option Nat} (h : ∀ c, f c = none) : sup R f = none := by
  induction R with
  | nil => rfl
  | cons r R ih =>
    show omax (f r) (sup R f) = none
    rw [h, ih]; rfl
theorem sup_set {R : List Nat} {f : Nat → Option Nat} {b : Nat} {x : Option Nat} : sup R (fun c => if c = b then omax (f b) x else f c) = if b ∈ R then omax (sup R f) x else sup R f := by
  induction R with
  | nil => simp [sup]
  | cons r R ih =>
    show omax (if r = b then omax (f b) x else f r) (sup R _) = if b ∈ r :: R then omax (omax (f r) (sup R f)) x else omax (f r) (sup R f)
    rw [ih]
    by_cases e : r = b
    · subst e
      rw [if_pos rfl, if_pos (show r ∈ r :: R from .head _)]
      by_cases hb : r ∈ R
      · rw [if_pos hb, omax_assoc, omax_assoc]
        congr 1
        rw [omax_comm x, omax_assoc, omax_self]
      · rw [if_neg hb, omax_assoc, omax_assoc, omax_comm x]
    · rw [if_neg e]
      by_cases hb : b ∈ R
      · rw [if_pos hb, if_pos (.tail _ hb), omax_assoc]
      · rw [if_neg hb, if_neg (fun q => by rcases List.mem_cons.mp q with h | h; exact e h.symm; exact hb h)]
theorem back_inv (ds : List Deed) : ∀ {T : Nat → List (Nat × Nat)} (R : List Nat) (B : List (Nat × Nat)) (i : Nat), (∀ d ∈ ds, d.Ok) → (∀ c, T c = []) →
    (ds.reverse.foldl backStep (R, B)).2.lookup i = omax (B.lookup i) (sup R fun c => (runT T ds c).lookup i) := by
  intro T
  have key : ∀ (rd : List Deed) (R : List Nat) (B : List (Nat × Nat)) (i : Nat), (∀ d ∈ rd, d.Ok) → (∀ c, T c = []) →
      (rd.foldl backStep (R, B)).2.lookup i = omax (B.lookup i) (sup R fun c => (runT T rd.reverse c).lookup i) := by
    intro rd
    induction rd with
    | nil =>
      intro R B i _ hT
      show B.lookup i = _
      rw [sup_none (fun c => by show (T c).lookup i = none; rw [hT]; rfl), omax_none]
    | cons d rd ih =>
      intro R B i hd hT
      have hd' : ∀ x ∈ rd, x.Ok := fun x hx => hd x (.tail _ hx)
      have g : ∀ c, Good (runT T rd.reverse c) := runT_good (fun x hx => hd' x (List.mem_reverse.mp hx)) fun c => by rw [hT]; exact ⟨fun r hr => (nomatch hr), List.nodup_nil⟩
      have e : runT T (d :: rd).reverse = stepT (runT T rd.reverse) d := by
        unfold runT
        rw [List.reverse_cons, List.foldl_append]; rfl
      rw [e, List.foldl_cons]
      generalize runT T rd.reverse = U at g ih ⊢
      cases d with
      | tell a b =>
        have hu : (fun c => (stepT U (.tell a b) c).lookup i) = fun c => if c = b then omax ((U b).lookup i) ((U a).lookup i) else (U c).lookup i := by
          funext c
          show (if c = b then tellAll (U b) (U a) else U c).lookup i = _
          by_cases hc : c = b
          · rw [if_pos hc, if_pos hc, tell_lookup _ _ _ (g a).2]
          · rw [if_neg hc, if_neg hc]
        rw [hu, sup_set (f := fun c => (U c).lookup i)]
        show ((rd.foldl backStep (if b ∈ R ∧ a ∉ R then (R ++ [a], B) else (R, B))).2).lookup i = _
        by_cases hb : b ∈ R
        · rw [if_pos hb]
          by_cases ha : a ∈ R
          · rw [if_neg (by simp [ha]), ih R B i hd' hT, sup_in (f := fun c => (U c).lookup i) ha]
          · rw [if_pos ⟨hb, ha⟩, ih _ B i hd' hT, sup_append]
        · rw [if_neg hb, if_neg (by simp [hb]), ih R B i hd' hT]
      | hear c' j way fault port kind =>
        have hu : (fun c => (stepT U (.hear c' j way fault port kind) c).lookup i) = fun c => if c = c' then omax ((U c').lookup i) (if fault < 16 ∧ i = j then some port else none) else (U c).lookup i := by
          funext c
          show (if c = c' then (if fault < 16 then learn (U c') j port else U c') else U c).lookup i = _
          by_cases hc : c = c'
          · rw [if_pos hc, if_pos hc]
            by_cases hf : fault < 16
            · rw [if_pos hf, learn_lookup]
              by_cases hj : i = j
              · subst hj; rw [if_pos rfl, if_pos ⟨hf, rfl⟩]
              · rw [if_neg hj, if_neg (by simp [hj]), omax_none]
            · rw [if_neg hf, if_neg (by simp [hf]), omax_none]
          · rw [if_neg hc, if_neg hc]
        rw [hu, sup_set (f := fun c => (U c).lookup i)]
        show ((rd.foldl backStep (if c' ∈ R ∧ fault < 16 then (R, putB B j (max ((B.lookup j).getD 0) port)) else (R, B))).2).lookup i = _
        by_cases hc : c' ∈ R
        · rw [if_pos hc]
          by_cases hf : fault < 16
          · rw [if_pos ⟨hc, hf⟩, ih R _ i hd' hT, putB_lookup]
            by_cases hj : i = j
            · subst hj
              rw [if_pos rfl, if_pos ⟨hf, rfl⟩]
              rw [omax_comm (sup R _) (some port), ← omax_assoc]
              congr 1
              cases B.lookup i <;> simp [omax]
            · rw [if_neg hj, if_neg (by simp [hj]), omax_none]
          · rw [if_neg (by simp [hf]), if_neg (by simp [hf]), omax_none, ih R B i hd' hT]
        · rw [if_neg hc, if_neg (by simp [hc]), ih R B i hd' hT]
  intro R B i hd hT
  rw [key ds.reverse R B i (fun d hx => hd d (List.mem_reverse.mp hx)) hT, List.reverse_reverse]
/-- what the walk from behind finds is what the tables hold -/
theorem back_run (ds : List Deed) (hd : ∀ d ∈ ds, d.Ok) (c i : Nat) : (back ds c).2.lookup i = (runT (fun _ => []) ds c).lookup i := by
  unfold back
  rw [back_inv ds (T := fun _ => []) [c] [] i hd fun _ => rfl]
  show omax none (omax _ none) = _
  rw [omax_none]; rfl
theorem putB_keys (B : List (Nat × Nat)) (i p : Nat) : (putB B i p).map (·.1) = if (B.lookup i).isSome then B.map (·.1) else B.map (·.1) ++ [i] := by
  unfold putB
  split
  · rw [List.map_map]
    refine List.map_congr_left fun r _ => ?_
    show (if r.1 = i then (r.1, p) else r).1 = r.1
    split <;> rfl
  · rw [List.map_append]; rfl
theorem lookup_isSome {B : List (Nat × Nat)} {i : Nat} : (B.lookup i).isSome = true ↔ i ∈ B.map (·.1) := by
  constructor
  · intro h
    cases hl : B.lookup i with
    | none => rw [hl] at h; cases h
    | some q => exact List.mem_map.mpr ⟨_, lookup_mem hl, rfl⟩
  · intro h
    cases hl : B.lookup i with
    | some q => rfl
    | none =>
      exfalso
      induction B with
      | nil => cases h
      | cons r B ih =>
        obtain ⟨a, b⟩ := r
        rw [List.lookup_cons] at hl
        by_cases e : i = a
        · rw [beq_iff_eq.mpr e] at hl; cases hl
        · rw [beq_eq_false_iff_ne.mpr e] at hl
          rcases List.mem_cons.mp h with q | q
          · exact e q
          · exact ih q hl
theorem putB_good {B : List (Nat × Nat)} (g : Good B) {i p : Nat} (hi : i < 4) (hp : p < 1000) : Good (putB B i p) := by
  refine ⟨fun r hr => ?_, ?_⟩
  · unfold putB at hr
    split at hr
    · obtain ⟨q, hq, rfl⟩ := List.mem_map.mp hr
      have := g.1 q hq
      split
      · exact ⟨this.1, hp⟩
      · exact this
    · rcases List.mem_append.mp hr with h | h
      · exact g.1 r h
      · obtain rfl := List.mem_singleton.mp h
        exact ⟨hi, hp⟩
  · rw [putB_keys]
    split
    · exact g.2
    · rename_i h
      rw [List.nodup_append]
      refine ⟨g.2, by simp, fun a ha b hb => ?_⟩
      obtain rfl := List.mem_singleton.mp hb
      rintro rfl
      exact h (lookup_isSome.mpr ha)
theorem Good.lookup_lt {B : List (Nat × Nat)} (g : Good B) {i : Nat} : (B.lookup i).getD 0 < 1000 := by
  cases hl : B.lookup i with
  | none => decide
  | some q => exact (g.1 _ (lookup_mem hl)).2
theorem Good.nil : Good [] := ⟨fun r hr => (nomatch hr), List.nodup_nil⟩
theorem backStep_good {s : List Nat × List (Nat × Nat)} {d : Deed} (hd : d.Ok) (g : Good s.2) : Good (backStep s d).2 := by
  cases d with
  | tell a b => show Good (if _ then _ else _ : _ × _).2; split <;> exact g
  | hear c i way fault port kind =>
    show Good (if _ then _ else _ : _ × _).2
    split
    · exact putB_good g hd.2.1 (by have := g.lookup_lt (i := i); have := hd.2.2.2.2.1; show max _ _ < 1000; omega)
    · exact g
theorem back_good {ds : List Deed} (hd : ∀ d ∈ ds, d.Ok) (c : Nat) : Good (back ds c).2 := by
  unfold back
  have : ∀ (rd : List Deed) (s : List Nat × List (Nat × Nat)), (∀ d ∈ rd, d.Ok) → Good s.2 → Good (rd.foldl backStep s).2 := by
    intro rd
    induction rd with
    | nil => exact fun _ _ g => g
    | cons d rd ih => exact fun s h g => ih _ (fun x hx => h x (.tail _ hx)) (backStep_good (h d (.head _)) g)
  exact this _ _ (fun d hx => hd d (List.mem_reverse.mp hx)) Good.nil
/-- a table's rows as sorted lays them -/
noncomputable def canon (rs : List (Nat × Nat)) : List (Nat × Nat) := [1, 0, 2, 3].filterMap fun i => (rs.lookup i).map fun p => (i, p)
theorem canon_eq {a b : List (Nat × Nat)} (h : ∀ i, a.lookup i = b.lookup i) : canon a = canon b := by
  unfold canon
  rw [funext (f := fun i => (a.lookup i).map fun p => (i, p)) (g := fun i => (b.lookup i).map fun p => (i, p)) fun i => by rw [h]]
/-- the plain law: what the walk from behind finds for a client, sorted, is the client's table, sorted -/
theorem plain_law (ds : List Deed) (hd : ∀ d ∈ ds, d.Ok) (c : Nat) : canon (runT (fun _ => []) ds c) = canon (back ds c).2 := canon_eq fun i => (back_run ds hd c i).symm
end Mine
end
section
open PySem PySem.W PyProof.Rows PySem.Calls PySem.Spec PyProof
set_option maxRecDepth 100000
set_option maxHeartbeats 4000000
namespace Mine
/-- a sort's questions answered by a law of its own -/
noncomputable def askAll {α : Type} (lt : Nat → Nat → Bool) (n : Nat) : KasT α → Option α
  | .ret a => some a
  | .ask i j k => if i < n ∧ j < n then askAll lt n (k (lt i j)) else none
theorem askAll_run {α : Type} {cmp : Nat → Nat → (Bool → Shared → Prop) → Shared → Prop} {lt : Nat → Nat → Bool} {n : Nat} {s : Shared} (h : ∀ i j (C : Bool → Shared → Prop), i < n → j < n → C (lt i j) s → cmp i j C s) {a : α} {Q : α → Shared → Prop} (hq : Q a s) :
    ∀ t : KasT α, askAll lt n t = some a → t.kasWp cmp Q s
  | .ret b, e => by obtain rfl := Option.some.inj e; exact hq
  | .ask i j k, e => by
    unfold askAll at e
    by_cases hn : i < n ∧ j < n
    · rw [if_pos hn] at e
      exact h i j _ hn.1 hn.2 (askAll_run h hq (k (lt i j)) e)
    · rw [if_neg hn] at e; cases e
/-- the order of the names -/
noncomputable def nlt (i j : Nat) : Bool := decide (nm i < nm j)
noncomputable def sortOf (l : List Nat) : Option (Array Nat) := askAll (fun i j => nlt (l.getD i 0) (l.getD j 0)) l.length (kas_sort l.length)
/-- the orders in which a table may hold its names -/
noncomputable def orders : List (List Nat) := [0, 1, 2, 3].flatMap fun a => [0, 1, 2, 3].flatMap fun b => if a = b then [] else [a, b] :: [0, 1, 2, 3].flatMap fun c => if c = a ∨ c = b then [] else [a, b, c] :: [0, 1, 2, 3].flatMap fun d => if d = a ∨ d = b ∨ d = c then [] else [[a, b, c, d]]
noncomputable def sortOk (l : List Nat) : Bool := match sortOf l with
  | some p => p.toList.all (fun i => decide (i < l.length)) && decide (p.toList.map (fun i => l.getD i 0) = [1, 0, 2, 3].filter fun i => decide (i ∈ l))
  | none => false
theorem orders_ok : orders.all sortOk = true := by decide +kernel
theorem order_mem {l : List Nat} (hn : l.Nodup) (h4 : ∀ x ∈ l, x < 4) (h2 : 2 ≤ l.length) : l ∈ orders := by
  have hl := nodup_le 4 l hn h4
  match l, h2, hl with
  | [a, b], _, _ => exact (by decide +kernel : ∀ a b : Fin 4, [a.1, b.1].Nodup → [a.1, b.1] ∈ orders) ⟨a, h4 a (by simp)⟩ ⟨b, h4 b (by simp)⟩ hn
  | [a, b, c], _, _ => exact (by decide +kernel : ∀ a b c : Fin 4, [a.1, b.1, c.1].Nodup → [a.1, b.1, c.1] ∈ orders) ⟨a, h4 a (by simp)⟩ ⟨b, h4 b (by simp)⟩ ⟨c, h4 c (by simp)⟩ hn
  | [a, b, c, d], _, _ => exact (by decide +kernel : ∀ a b c d : Fin 4, [a.1, b.1, c.1, d.1].Nodup → [a.1, b.1, c.1, d.1] ∈ orders) ⟨a, h4 a (by simp)⟩ ⟨b, h4 b (by simp)⟩ ⟨c, h4 c (by simp)⟩ ⟨d, h4 d (by simp)⟩ hn
  | _ :: _ :: _ :: _ :: _ :: _, _, h => exact absurd h (by simp)
theorem order_sorted {l : List Nat} (hn : l.Nodup) (h4 : ∀ x ∈ l, x < 4) (h2 : 2 ≤ l.length) :
    ∃ p, sortOf l = some p ∧ (∀ i ∈ p.toList, i < l.length) ∧ p.toList.map (fun i => l.getD i 0) = [1, 0, 2, 3].filter fun i => decide (i ∈ l) := by
  have h := List.all_eq_true.mp orders_ok l (order_mem hn h4 h2)
  unfold sortOk at h
  cases e : sortOf l with
  | none => rw [e] at h; cases h
  | some p =>
    rw [e] at h
    simp only [Bool.and_eq_true, List.all_eq_true, decide_eq_true_eq] at h
    exact ⟨p, rfl, h.1, h.2⟩
theorem lookup_idx {rs : List (Nat × Nat)} (hn : (rs.map (·.1)).Nodup) : ∀ {i : Nat}, i < rs.length → rs.lookup ((rs.map (·.1)).getD i 0) = some (rs.getD i (0, 0)).2 := by
  induction rs with
  | nil => intro i h; exact absurd h (Nat.not_lt_zero _)
  | cons r rs ih =>
    obtain ⟨a, b⟩ := r
    obtain ⟨h1, h2⟩ := List.nodup_cons.mp hn
    intro i hi
    cases i with
    | zero => simp [List.lookup_cons]
    | succ i =>
      have hi' : i < rs.length := by simpa using hi
      show List.lookup ((rs.map (·.1)).getD i 0) ((a, b) :: rs) = some (rs.getD i (0, 0)).2
      rw [List.lookup_cons]
      have ne : ((rs.map (·.1)).getD i 0 == a) = false := beq_eq_false_iff_ne.mpr fun q => h1 (by
        have : (rs.map (·.1)).getD i 0 ∈ rs.map (·.1) := by
          have hl : i < (rs.map (·.1)).length := by rw [List.length_map]; exact hi'
          rw [List.getD_eq_getElem?_getD, List.getElem?_eq_getElem hl]
          exact List.getElem_mem hl
        rw [q] at this
        exact this)
      rw [ne]
      exact ih h2 hi'
theorem canon_of {rs : List (Nat × Nat)} (g : Good rs) {p : List Nat} (h1 : ∀ i ∈ p, i < rs.length) (h2 : p.map (fun i => (rs.map (·.1)).getD i 0) = [1, 0, 2, 3].filter fun i => decide (i ∈ rs.map (·.1))) :
    p.map (fun i => rs.getD i (0, 0)) = canon rs := by
  have e1 : p.map (fun i => rs.getD i (0, 0)) = (p.map (fun i => (rs.map (·.1)).getD i 0)).map fun n => (n, (rs.lookup n).getD 0) := by
    rw [List.map_map]
    refine List.map_congr_left fun i hi => ?_
    show rs.getD i (0, 0) = ((rs.map (·.1)).getD i 0, (rs.lookup ((rs.map (·.1)).getD i 0)).getD 0)
    rw [lookup_idx g.2 (h1 i hi)]
    have hl := h1 i hi
    simp [List.getD_eq_getElem?_getD, hl]
  rw [e1, h2]
  unfold canon
  have key : ∀ l : List Nat, (l.filter fun i => decide (i ∈ rs.map (·.1))).map (fun n => (n, (rs.lookup n).getD 0)) = l.filterMap fun i => (rs.lookup i).map fun p => (i, p) := by
    intro l
    induction l with
    | nil => rfl
    | cons x l ih =>
      rw [List.filterMap_cons]
      cases hl : rs.lookup x with
      | none =>
        have : ¬ x ∈ rs.map (·.1) := fun q => by have := lookup_isSome.mpr q; rw [hl] at this; cases this
        rw [List.filter_cons_of_neg (p := fun i => decide (i ∈ rs.map (·.1))) (by simpa using this)]
        exact ih
      | some q =>
        have : x ∈ rs.map (·.1) := lookup_isSome.mp (by rw [hl]; rfl)
        rw [List.filter_cons_of_pos (p := fun i => decide (i ∈ rs.map (·.1))) (decide_eq_true this), List.map_cons, hl, ih]
        rfl
  exact key _
theorem canon_small {rs : List (Nat × Nat)} (g : Good rs) (h : rs.length < 2) : canon rs = rs := by
  match rs, h with
  | [], _ => rfl
  | [(i, p)], _ =>
    have hi := (g.1 (i, p) (.head _)).1
    have hi' : i < 4 := hi
    obtain rfl | rfl | rfl | rfl := four hi'
    all_goals rfl
  | _ :: _ :: _, h => exact absurd h (by simp only [List.length_cons]; omega)
theorem Rows.getD {news : List (Addr × Obj)} : ∀ {vs : List Value} {rs : List (Nat × Nat)}, Rows news vs rs → ∀ {i : Nat}, i < rs.length → ∃ T ta tb k, vs.getD i .none = .ref T ∧ (T, rowO (rs.getD i (0, 0)) ta tb k) ∈ news
  | _, _, .nil, i, h => absurd h (Nat.not_lt_zero _)
  | _, _, .cons hm _, 0, h => ⟨_, _, _, _, rfl, hm⟩
  | _, _, .cons _ q, i + 1, h => q.getD (i := i) (by simpa using h)
theorem Rows.pick {news : List (Addr × Obj)} {vs : List Value} {rs : List (Nat × Nat)} (R : Rows news vs rs) : ∀ {p : List Nat}, (∀ i ∈ p, i < rs.length) → Rows news (p.map fun i => vs.getD i .none) (p.map fun i => rs.getD i (0, 0))
  | [], _ => .nil
  | i :: p, h => by
    obtain ⟨T, ta, tb, k, e, hm⟩ := R.getD (h i (.head _))
    rw [List.map_cons, List.map_cons, e]
    exact .cons hm (R.pick fun j hj => h j (.tail _ hj))
section
variable {prog : Program} {w : World} {A : Around} {E : Value → Shared → Prop} {s : Shared} {h₀ : Heap} {L : Addr} {m : PySem.Str → Option Value} {news : List (Addr × Obj)}
theorem row_lt {x y : Addr} {a b : Nat × Nat} {ta tb tc td : Tok} {k n : Nat} {Q : Bool → Shared → Prop} (N : News h₀ L s.heap news) (hx : (x, rowO a ta tb k) ∈ news) (hy : (y, rowO b tc td n) ∈ news) (hi : a.1 < 4) (hj : b.1 < 4) (hne : a = b ∨ a.1 ≠ b.1) (h : Q (nlt a.1 b.1) s) :
    wpAny (model prog w) A (keyLt' (tuples' true) (.ref x) (.ref y)) Q E s := by
  refine kat_lt (N.get hx) rfl (N.get hy) rfl ?_
  refine kat_cons (wpAny_eqBool_str ?_)
  refine kat_go (fun e => ?_) fun e => ?_
  · have e1 : tx (nm a.1) = tx (nm b.1) := of_decide_eq_true e
    have e2 : a.1 = b.1 := (nm_inj hi hj).mp (by rw [← tx_cps (nm a.1), ← tx_cps (nm b.1), e1])
    have e3 : a = b := hne.resolve_right fun q => q e2
    subst e3
    refine kat_yes (kat_cons (wpAny_eqBool_str ?_))
    rw [decide_eq_true rfl]
    refine kat_yes (kat_nil ?_)
    have : nlt a.1 a.1 = false := by
      have hi' := hi
      generalize a.1 = i at hi' ⊢
      obtain rfl | rfl | rfl | rfl := four hi'
      all_goals decide
    rw [this] at h
    exact h
  · refine kat_no ?_
    refine oneLt_str ?_
    rw [tx_cps, tx_cps]
    exact h
theorem rows_tups {vs : List Value} {rs : List (Nat × Nat)} (N : News h₀ L s.heap news) (R : Rows news vs rs) : ∃ fs, KatTups s.heap vs fs ∧ fs.length = rs.length ∧ ∀ v ∈ fs, ∃ x t, v = .str x t := by
  induction R with
  | nil => exact ⟨[], .nil, rfl, fun v hv => (nomatch hv)⟩
  | cons hm q ih =>
    obtain ⟨fs, h1, h2, h3⟩ := ih
    refine ⟨_ :: fs, KatTups.cons (N.get hm) rfl rfl rfl h1, by simp [h2], fun v hv => ?_⟩
    rcases List.mem_cons.mp hv with rfl | hv
    · exact ⟨_, _, rfl⟩
    · exact h3 v hv
/-- sorted of at most one item -/
theorem sorted_few {l : Addr} {vs : List Value} {Q : Value → Shared → Prop} (F : Fr h₀ L s.heap m) (N : News h₀ L s.heap news) (hl : s.heap.IsList l vs.toArray) (h2 : vs.length < 2)
    (h : ∀ D n' h', Fr h₀ L h' m → News h₀ L h' ((D, listOf vs.toArray n') :: news) → (∀ q ∈ news, q.1 < D) → Q (.ref D) { s with heap := h' }) :
    wpAny (model prog w) A (call (.builtin "sorted") [.ref l]) Q E s := by
  refine Calls.call_function_entry kind_sorted plain_sorted entry_sorted (args_sorted1 _) ?_
  unfold Builtin.«sorted»
  refine wpAny_bind (m := checkCount "sorted" 1 1 _) (wpAny_pure ?_)
  refine wpAny_bind (collect_list hl ?_ (by rw [sizeLine_eq]; omega))
  refine wpAny_bind (wpAny_newList ?_ (by rw [sizeLine_eq]; omega))
  generalize hg0 : (s.heap.push (seqObj "list" #[] 0)).update s.heap.objs.size (Obj.mapSeq (· ++ vs.toArray)) = g0
  have hsz : g0.objs.size = s.heap.objs.size + 1 := by rw [← hg0, Heap.size_update, size_push']
  have keep0 : ∀ b o, s.heap.get? b = some o → g0.get? b = some o := fun b o q => by
    have hlt : b < s.heap.objs.size := Heap.lt_size q
    rw [← hg0, Heap.get?_update_ne _ _ _ _ (Nat.ne_of_lt hlt), Heap.get?_push_ne _ _ _ (Nat.ne_of_lt hlt)]
    exact q
  clear hg0
  generalize hD : g0.objs.size = D at hsz
  have hlt : s.heap.objs.size < D := by omega
  have hoD : (g0.push (seqObj "list" vs.toArray 0)).get? D = some (seqObj "list" vs.toArray 0) := by rw [← hD]; exact Heap.get?_push_size _ rfl
  have keep : ∀ b o, s.heap.get? b = some o → (g0.push (seqObj "list" vs.toArray 0)).get? b = some o := fun b o q => Heap.get?_push_of_some _ (keep0 b o q)
  have F1 : Fr h₀ L (g0.push (seqObj "list" vs.toArray 0)) m := F.kept keep
  have N1 : News h₀ L (g0.push (seqObj "list" vs.toArray 0)) news := N.grown keep
  have hDL : L ≠ D := Nat.ne_of_lt (Nat.lt_trans F.ns.lt hlt)
  have hD0 : h₀.get? D = none := Heap.get?_none_of_le (Nat.le_trans F.above (Nat.le_trans (Nat.le_of_lt F.ns.lt) (Nat.le_of_lt hlt)))
  have hnD : ∀ p ∈ news, p.1 < D := fun p hp => Nat.lt_trans (Heap.lt_size (N p hp).1) hlt
  generalize g0.push (seqObj "list" vs.toArray 0) = g1 at hoD F1 N1
  clear keep keep0
  show wpAny _ _ _ _ _ { s with heap := g1 }
  refine wpAny_bind (wpAny_holding (wpAny_call_entry slot_list_sort ⟨_, hoD, rfl⟩ entry_list_sort ?body (args_list_sort _)))
  case body =>
    show wpAny _ _ (Builtin.«list.sort» ⟨[.ref D], []⟩) _ _ { s with heap := g1 }
    rw [list_sort_plain]
    have s1 := Heap.SameBut.update g1 D (Obj.mapSeq fun _ => (#[] : Array Value))
    obtain ⟨e1, ho1⟩ : ∃ e1, (g1.update D (Obj.mapSeq fun _ => (#[] : Array Value))).get? D = some (seqObj "list" #[] e1) := ⟨_, get?_update_seq hoD fun _ => #[]⟩
    refine wpAny_bind (listItems_at hoD rfl ?_)
    refine wpAny_bind (listUpdate_at hoD rfl ?_ (by rw [List.size_toArray, sizeLine_eq]; omega) (Nat.zero_le _))
    refine wpAny_bind (seqEpoch_at ho1 rfl ?_)
    refine wpAny_bind (wpAny_newTuple ?_ (by show vs.length ≤ _; rw [sizeLine_eq]; omega))
    refine wpAny_bind (wpAny_newList ?_ (Nat.zero_le _))
    refine wpAny_holding ?_
    dsimp only
    have hn2 : vs.toArray.size < 2 := by rw [List.size_toArray]; exact h2
    rw [if_pos hn2, if_pos hn2]
    refine wpAny_bind (wpAny_pure ?_)
    refine wpAny_bind ?_
    rw [StateT.run_pure]
    refine wpAny_pure ?_
    dsimp only
    have F2 : Fr h₀ L (g1.update D (Obj.mapSeq fun _ => (#[] : Array Value))) m := ⟨F1.ns.sameBut s1 hDL, fun b o e => (s1.2 b (fun q => by rw [q, hD0] at e; cases e)).trans (F1.keep b o e), F1.above⟩
    have N2 : News h₀ L (g1.update D (Obj.mapSeq fun _ => (#[] : Array Value))) news := fun p hp => ⟨(s1.2 _ (Nat.ne_of_lt (hnD p hp))).trans (N1 p hp).1, (N1 p hp).2⟩
    generalize g1.update D (Obj.mapSeq fun _ => (#[] : Array Value)) = g2 at ho1 F2 N2
    have F3 : Fr h₀ L ((g2.push (seqObj "tuple" vs.toArray 0)).push (seqObj "list" #[] 0)) m := (F2.push _).push _
    have N3 : News h₀ L ((g2.push (seqObj "tuple" vs.toArray 0)).push (seqObj "list" #[] 0)) news := N2.grown fun b x e => Heap.get?_push_of_some _ (Heap.get?_push_of_some _ e)
    have ho3 : ((g2.push (seqObj "tuple" vs.toArray 0)).push (seqObj "list" #[] 0)).get? D = some (seqObj "list" #[] e1) := Heap.get?_push_of_some _ (Heap.get?_push_of_some _ ho1)
    generalize (g2.push (seqObj "tuple" vs.toArray 0)).push (seqObj "list" #[] 0) = g3 at F3 N3 ho3
    show wpAny _ _ _ _ _ { s with heap := g3 }
    have hout : (arrOf (SortSt.mk' general' (vs.toArray.zip vs.toArray) #[] 7 none)).map (·.2) = vs.toArray := by
      show (vs.toArray.zip vs.toArray).map (·.2) = vs.toArray
      apply Array.toList_inj.mp
      rw [Array.toList_map, Array.toList_zip]
      show ((vs.zip vs).map (·.2)) = vs
      exact List.map_snd_zip (Nat.le_refl _)
    rw [hout]
    have s3 := Heap.SameBut.update g3 D (Obj.mapSeq fun _ => vs.toArray)
    obtain ⟨e3, ho4⟩ : ∃ e3, (g3.update D (Obj.mapSeq fun _ => vs.toArray)).get? D = some (seqObj "list" vs.toArray e3) := ⟨_, get?_update_seq ho3 fun _ => vs.toArray⟩
    refine wpAny_bind (seqEpoch_at ho3 rfl ?_)
    refine wpAny_bind (listUpdate_at ho3 rfl ?_ (Nat.zero_le _) (by rw [List.size_toArray, sizeLine_eq]; omega))
    simp only [show failedOf (SortSt.mk' general' (vs.toArray.zip vs.toArray) #[] 7 none) = none from rfl, bne_self_eq_false, Bool.false_eq_true, if_false]
    refine wpAny_pure ⟨_, rfl, wpAny_pure ⟨_, rfl, ?_⟩⟩
    refine h D e3 _ ⟨F3.ns.sameBut s3 hDL, fun b o e => (s3.2 b (fun q => by rw [q, hD0] at e; cases e)).trans (F3.keep b o e), F3.above⟩ ?_ hnD
    intro p hp
    rcases List.mem_cons.mp hp with rfl | hp
    · exact ⟨ho4, Ne.symm hDL, hD0⟩
    · exact ⟨(s3.2 _ (Nat.ne_of_lt (hnD p hp))).trans (N3 p hp).1, (N3 p hp).2⟩
/-- sorted of a table's rows -/
theorem sortedRows {l : Addr} {vs : List Value} {rs : List (Nat × Nat)} {nR : List (Addr × Obj)} {Q : Value → Shared → Prop} (F : Fr h₀ L s.heap m) (N : News h₀ L s.heap news) (hl : s.heap.IsList l vs.toArray) (R₀ : Rows nR vs rs) (hnR : ∀ p ∈ nR, p ∈ news) (g : Good rs)
    (h : ∀ D vs' n' h', Rows nR vs' (canon rs) → Fr h₀ L h' m → News h₀ L h' ((D, listOf vs'.toArray n') :: news) → (∀ q ∈ news, q.1 < D) → Q (.ref D) { s with heap := h' }) :
    wpAny (model prog w) A (call (.builtin "sorted") [.ref l]) Q E s := by
  have R : Rows news vs rs := R₀.mono hnR
  have hlen := R.len
  by_cases h2 : rs.length < 2
  · refine sorted_few F N hl (by omega) fun D n' h' F' N' l' => h D vs n' h' ?_ F' N' l'
    rw [canon_small g h2]; exact R₀
  · have h4 := g.len
    refine kat_sorted F N hl (by omega) (by omega) fun D e1 h' F' N' l' => ?_
    obtain ⟨fs, T1, T2, T3⟩ := rows_tups (s := { s with heap := h' }) (fun p hp => N' p (.tail _ hp)) R
    refine kat_kind (T := .type "str") T1 (by omega) (fun v hv => ?_) (by rfl) ?_
    · obtain ⟨x, t, rfl⟩ := T3 v hv
      exact .now
    rw [show ((Value.type "str" != Value.type "tuple") = true) from by decide]
    obtain ⟨p, e, hp, hc⟩ := order_sorted g.2 (fun x hx => by
      obtain ⟨r, hr, rfl⟩ := List.mem_map.mp hx
      exact (g.1 r hr).1) (by rw [List.length_map]; omega)
    rw [List.length_map] at hp
    unfold sortOf at e
    rw [List.length_map, ← hlen] at e
    refine askAll_run (fun i j C hi hj hC => ?_) ?_ _ e
    · rw [hlen] at hi hj
      obtain ⟨Ti, ta, tb, k, ei, mi⟩ := R.getD hi
      obtain ⟨Tj, tc, td, k', ej, mj⟩ := R.getD hj
      have gi : (rs.map (·.1)).getD i 0 = (rs.getD i (0, 0)).1 := by simp [List.getD_eq_getElem?_getD, hi]
      have gj : (rs.map (·.1)).getD j 0 = (rs.getD j (0, 0)).1 := by simp [List.getD_eq_getElem?_getD, hj]
      have mem : ∀ {i : Nat}, i < rs.length → rs.getD i (0, 0) ∈ rs := fun {i} hi => by
        rw [List.getD_eq_getElem?_getD, List.getElem?_eq_getElem hi]
        exact List.getElem_mem hi
      rw [gi, gj] at hC
      show wpAny _ _ (keyLt' (tuples' true) (vs.getD i .none) (vs.getD j .none)) C _ _
      rw [ei, ej]
      refine row_lt (s := { s with heap := h' }) N' (.tail _ mi) (.tail _ mj) (g.1 _ (mem hi)).1 (g.1 _ (mem hj)).1 ?_ hC
      by_cases q : (rs.getD i (0, 0)).1 = (rs.getD j (0, 0)).1
      · refine .inl (Prod.ext q ?_)
        have q1 := lookup_idx g.2 hi
        have q2 := lookup_idx g.2 hj
        rw [gi] at q1
        rw [gj, ← q, q1] at q2
        exact Option.some.inj q2
      · exact .inr q
    · refine KasFin.intro (s := { s with heap := h' }) F' N' (UpdF.head fun q hq => Nat.ne_of_lt (l' q hq)) fun h2 c F2 N2 => ?_
      refine h D _ c h2 ?_ F2 N2 l'
      rw [← canon_of g hp hc]
      exact R₀.pick hp
end
end Mine
end
section
open PySem PySem.W PyProof.Rows PySem.Calls PySem.Spec PyProof
namespace Mine
open LCg LCt
section
variable {prog : Program} {w : World} {A : Around} {E : Value → Shared → Prop} {s : Shared} {h₀ : Heap} {L : Addr} {m : PySem.Str → Option Value} {env : Env}
/-- what a comprehension over a dict of the ledger is owed -/
noncomputable def SrcD (prog : Program) (w : World) (A : Around) (h₀ : Heap) (L : Addr) (m : PySem.Str → Option Value) (env : Env) (elt : PySem.Expr) (x : PySem.Str) (scope : Scope) (cl : List (PySem.Str × Addr)) (Fin : Shared → List Value → List (Addr × Obj) → Prop) (xv : Value) (s₁ : Shared) : Prop :=
  ∃ d oB kvs news, xv = .ref d ∧ A.handled = none ∧ (d == sysModules) = false ∧ Fr h₀ L s₁.heap m ∧ News h₀ L s₁.heap news ∧ (d, oB) ∈ news ∧ oB.IsDictOf (PySem.strKind prog w) kvs ∧ kvs.length ≤ sizeLine ∧
    ∀ s₂ : Shared, (∃ h, s₂ = { s₁ with heap := h }) → CompRest prog w A h₀ L m env elt x scope cl s₂ (fun nw => (d, oB) ∈ nw) (fun i v => ∃ k y, kvs[i]? = some (k, y) ∧ (PySem.strKind prog w).is k v = true) (Fin s₂) kvs.length 0 [] news
theorem ListComp_D {elt iter : PySem.Expr} {x : PySem.Str} {px : Pos} {scope : Scope} {cl : List (PySem.Str × Addr)} {pos : Pos} {Q : Value → Shared → Prop} {h₁ : Heap} (_ : Fr h₀ L h₁ m)
    (hclos : closureFor scope env = pure cl) (hcell : ∀ y ∈ scope.names, y.2 ≠ .cell) (hkind : scope.kind = .function)
    (hnames : ∀ y ∈ scope.names, y.2 = .local → scope.names.lookup y.1 = some .local) (hx : scope.names.lookup x = some .local)
    (h : wpAny (model prog w) A (eval iter env) (SrcD prog w A h₀ L m env elt x scope cl (fun s₂ => FinE h₀ L m s₂ Q)) E s)
    (hs : ∀ x, foldedSetIterable iter env x = pure x := by intro _; rfl) :
    wpAny (model prog w) A (eval (.ListComp elt [⟨.Name x px, iter, [], 0⟩] scope pos) env) Q E s := by
  rw [eval_ListComp]
  refine wpAny_comprehension_free (use := none) rfl hs hclos hkind hnames (wpAny_mono h (fun xv s₁ h₁ => ?_) fun _ _ e => e)
  obtain ⟨d, oB, kvs, news, rfl, hh, lo, F, N, hm, hd, hsz, R⟩ := h₁
  obtain ⟨ep, K⟩ := KdkAt.of hd
  have hat : s₁.heap.DictAt (PySem.strKind prog w) d kvs ep := K.dictAt (N _ hm).1
  have hlt : d < s₁.heap.objs.size := Heap.lt_size (N _ hm).1
  refine wpAny_pyIter_dict lo hat ?_
  generalize hoI : ({ cls := .type "dict_keyiterator", data := .fields #[.ref d, .int 0 0, .int kvs.length 0, .int ep 0] } : Obj) = oI
  have up : ∀ b o, s₁.heap.get? b = some o → (s₁.heap.push oI).get? b = some o := fun b o e => Heap.get?_push_of_some _ e
  refine block_U (RR := fun acc C => compPost (model prog w) A E none Q acc C) (Walks.dictKeys hh s₁.heap.objs.size d (Nat.ne_of_lt hlt) kvs ep) hsz (fun i h st => by obtain ⟨o, e, _⟩ := st.1; exact ⟨o, e⟩) (fun i h h' o nw st e e' k N' S' => ?_) hcell hkind hx
    ⟨⟨_, Heap.get?_push_size _ (by rw [← hoI]; rfl), by rw [← hoI], by rw [← hoI]; rfl⟩, hat.at' fun o e => up _ _ e⟩ (fun b hb => ?_)
    (F.keeps up) (N.grown up) (Nat.ne_of_lt F.ns.lt) (next_is_new F) (fun p hp => Nat.ne_of_lt (Heap.lt_size (N p hp).1)) hm (R _ ⟨_, rfl⟩) ?_
  · refine ⟨?_, K.dictAt (N' _ S').1⟩
    obtain ⟨o', q, r⟩ := st.1
    rw [e] at q; cases q
    exact ⟨o, e', r⟩
  · show b < (s₁.heap.push oI).objs.size
    rw [Heap.size_push]
    simp only [List.mem_cons, List.not_mem_nil, or_false] at hb
    rcases hb with rfl | rfl
    · exact Nat.lt_succ_self _
    · exact Nat.lt_succ_of_lt hlt
  · intro D C h tk m' ys news' F' N' o1 hn hC₀ hD₀ hCL hDL hCD offC fin
    refine ⟨m', hn, fun h'' hs'' => fin D h'' tk (F'.change hs'' hCL hC₀) (fun p hp => ?_) o1⟩
    refine ⟨hs''.extBut _ _ ?_ (N' p hp).1, (N' p hp).2⟩
    rcases List.mem_cons.mp hp with rfl | hp
    · exact Ne.symm hCD
    · exact offC p hp
end
end Mine
end
section
open PySem PySem.W PyProof.Rows PySem.Calls PySem.Spec PyProof.V
set_option maxRecDepth 100000
set_option maxHeartbeats 8000000
namespace Mine
theorem padC24n1 : True ∧ True := by walk1 <;> trivial
theorem fill24 (w : World) (h : Heap) : (KF w.params).In h → PySem.Challenge.rw_wf0102_01.prog = PySem.Challenge.rw_wf0102_01.prog := by
  k_fill
  intro _; rfl
theorem ints_kf {vs : List Value} {ns : List Int} (h : IntsAre vs ns) : kf_ints vs = true := by
  induction h with
  | nil => rfl
  | cons _ _ _ ih => exact ih
theorem ints_any {k : Int} {vs : List Value} {ns : List Int} (h : IntsAre vs ns) : vs.any (isInt k) = decide (k ∈ ns) := by
  rw [any_isInt k h]
  clear h
  induction ns with
  | nil => simp
  | cons n ns ih =>
    rw [List.any_cons, ih]
    by_cases e : n = k
    · subst e; simp
    · have e' : ¬ k = n := fun x => e x.symm
      simp [e, e']
theorem ints_snoc {n : Int} {t : Tok} {vs : List Value} {ns : List Int} (h : IntsAre vs ns) : IntsAre (vs ++ [.int n t]) (ns ++ [n]) := by
  induction h with
  | nil => exact .cons _ _ .nil
  | cons _ _ _ ih => exact .cons _ _ ih
theorem fr2_setY {x y : PySem.Str} (hne : x ≠ y) {a b c : Option Value} {m : PySem.Str → Option Value} : (fun z => if z = y then c else fr2 x y a b m z) = fr2 x y a c m := by
  funext z
  simp only [fr2]
  by_cases h1 : z = y
  · rw [if_pos h1, if_pos h1, if_neg (fun q => hne (q.symm.trans h1))]
  · rw [if_neg h1, if_neg h1]
    by_cases h2 : z = x
    · rw [if_pos h2, if_pos h2]
    · rw [if_neg h2, if_neg h2, if_neg h1]
/-- the clients reached, as numbers of the program -/
noncomputable abbrev reachI (R : List Nat) : List Int := R.map Int.ofNat
theorem reach_mem {R : List Nat} {c : Nat} : decide ((c : Int) ∈ reachI R) = decide (c ∈ R) := by
  refine decide_eq_decide.mpr ⟨fun h => ?_, fun h => List.mem_map.mpr ⟨c, h, rfl⟩⟩
  obtain ⟨x, hx, e⟩ := List.mem_map.mp h
  have : x = c := Int.ofNat.inj e
  exact this ▸ hx
/-- the ports found, as the program's dict -/
noncomputable abbrev bestC (B : List (Nat × Nat)) : List (PySem.Str × Int) := B.map fun r => (tx (nm r.1), (r.2 : Int))
theorem best_find {B : List (Nat × Nat)} (h4 : ∀ r ∈ B, r.1 < 4) {i : Nat} (hi : i < 4) : (bestC B).find? (fun p => decide (p.1 = tx (nm i))) = (B.lookup i).map fun p => (tx (nm i), (p : Int)) := by
  induction B with
  | nil => rfl
  | cons r B ih =>
    obtain ⟨a, b⟩ := r
    have ha : a < 4 := h4 (a, b) (.head _)
    rw [show bestC ((a, b) :: B) = (tx (nm a), (b : Int)) :: bestC B from rfl, List.find?_cons, List.lookup_cons, ih fun r hr => h4 r (.tail _ hr)]
    by_cases e : i = a
    · subst e; simp
    · have e1 : ¬ tx (nm a) = tx (nm i) := fun q => e ((nm_inj ha hi).mp (by rw [← tx_cps (nm a), ← tx_cps (nm i), q])).symm
      rw [decide_eq_false e1, beq_eq_false_iff_ne.mpr e]
theorem best_look {B : List (Nat × Nat)} (h4 : ∀ r ∈ B, r.1 < 4) {i : Nat} (hi : i < 4) : kdpLook (bestC B) (tx (nm i)) 0 = (((B.lookup i).getD 0 : Nat) : Int) := by
  unfold kdpLook
  rw [best_find h4 hi]
  cases B.lookup i <;> rfl
theorem best_any {B : List (Nat × Nat)} (h4 : ∀ r ∈ B, r.1 < 4) {i : Nat} (hi : i < 4) : (bestC B).any (fun p => decide (p.1 = tx (nm i))) = (B.lookup i).isSome := by
  have e := best_find h4 hi
  have := List.find?_isSome (p := fun p : PySem.Str × Int => decide (p.1 = tx (nm i))) (xs := bestC B)
  rw [e] at this
  rw [Bool.eq_iff_iff, List.any_eq_true, ← this]
  cases B.lookup i <;> simp
theorem best_put {B : List (Nat × Nat)} (h4 : ∀ r ∈ B, r.1 < 4) {i p : Nat} (hi : i < 4) : kdpPut (bestC B) (tx (nm i)) (p : Int) = bestC (putB B i p) := by
  unfold kdpPut putB
  rw [best_any h4 hi]
  split
  · show (B.map _).map _ = (B.map _).map _
    rw [List.map_map, List.map_map]
    refine List.map_congr_left fun r hr => ?_
    show (if decide (tx (nm r.1) = tx (nm i)) = true then (tx (nm r.1), (p : Int)) else (tx (nm r.1), (r.2 : Int))) = (fun r : Nat × Nat => (tx (nm r.1), (r.2 : Int))) (if r.1 = i then (r.1, p) else r)
    by_cases e : r.1 = i
    · rw [if_pos e, if_pos (by rw [e]; simp)]
    · have e1 : ¬ tx (nm r.1) = tx (nm i) := fun q => e ((nm_inj (h4 r hr) hi).mp (by rw [← tx_cps (nm r.1), ← tx_cps (nm i), q]))
      rw [if_neg e, if_neg (by simpa using e1)]
  · show (B.map _) ++ _ = (B ++ _).map _
    rw [List.map_append]; rfl
theorem flat_at {c : List (PySem.Str × Int)} {kvs : List (PySem.Str × Value)} (h : FlatPairs PyData.str kvs (kdpD c)) : ∀ {i : Nat} {k : PySem.Str} {y : Value}, kvs[i]? = some (k, y) → ∃ p, c[i]? = some p ∧ k = p.1 := by
  induction c generalizing kvs with
  | nil => intro i k y hk; cases h; simp at hk
  | cons p c ih =>
    intro i k y hk
    obtain ⟨px, pv⟩ := p
    have h' : FlatPairs PyData.str kvs ((PyData.str px, PyData.int pv) :: kdpD c) := h
    cases h' with
    | cons hf hr =>
      cases i with
      | zero => simp at hk; exact ⟨(px, pv), rfl, hk.1.symm⟩
      | succ i => exact ih hr (by simpa using hk)
theorem flat_len {c : List (PySem.Str × Int)} {kvs : List (PySem.Str × Value)} (h : FlatPairs PyData.str kvs (kdpD c)) : kvs.length = c.length := by
  induction c generalizing kvs with
  | nil => cases h; rfl
  | cons p c ih =>
    obtain ⟨px, pv⟩ := p
    have h' : FlatPairs PyData.str kvs ((PyData.str px, PyData.int pv) :: kdpD c) := h
    cases h' with
    | cons hf hr => rw [List.length_cons, List.length_cons, ih hr]
theorem lookup_row {rs : List (Nat × Nat)} (hn : (rs.map (·.1)).Nodup) {r : Nat × Nat} (h : r ∈ rs) : rs.lookup r.1 = some r.2 := by
  induction rs with
  | nil => cases h
  | cons q rs ih =>
    obtain ⟨a, b⟩ := q
    obtain ⟨h1, h2⟩ := List.nodup_cons.mp hn
    rcases List.mem_cons.mp h with rfl | h
    · simp
    · have : (r.1 == a) = false := beq_eq_false_iff_ne.mpr fun e => h1 (List.mem_map.mpr ⟨r, h, e⟩)
      rw [List.lookup_cons, this]
      exact ih h2 h
theorem padC24n2 : True ∧ True := by walk1 <;> trivial
section
variable {prog : Program} {w : World} {A : Around} {E : Value → Shared → Prop} {s : Shared}
/-- a value appended to a list of the ledger -/
theorem appendAny {g : Heap} {L l0 : Addr} {v : Value} {m : PySem.Str → Option Value} {its : List Value} {k : Nat} (pre : List (Addr × Obj)) {rest : List (Addr × Obj)} {Q : Value → Shared → Prop}
    (F : Fr g L s.heap m) (N : News g L s.heap (pre ++ (l0, listOf its.toArray k) :: rest)) (hp : ∀ p ∈ pre, p.1 ≠ l0) (hr : ∀ p ∈ rest, p.1 ≠ l0) (hsz : its.length ≤ 99)
    (hQ : ∀ h' k', Fr g L h' m → News g L h' (pre ++ (l0, listOf (its ++ [v]).toArray k') :: rest) → Q .none { s with heap := h' }) :
    wpAny (model prog w) A (call (.builtin "list.append") [.ref l0, v]) Q E s := by
  have m1 : (l0, listOf its.toArray k) ∈ pre ++ (l0, listOf its.toArray k) :: rest := List.mem_append_right _ (.head _)
  refine appendAt (N _ m1).1 (by rw [List.size_toArray]; omega) ?_
  intro h5 n5 g5 b5
  have F5 : Fr g L h5 m := F.change b5 (N _ m1).2.1 (N _ m1).2.2
  rw [List.push_toArray] at g5
  refine hQ h5 n5 F5 fun p hp' => ?_
  rcases List.mem_append.mp hp' with q | q
  · exact ⟨(b5.2 _ (hp p q)).trans (N p (List.mem_append_left _ q)).1, (N p (List.mem_append_left _ q)).2⟩
  · rcases List.mem_cons.mp q with rfl | q
    · exact ⟨g5, (N _ m1).2⟩
    · exact ⟨(b5.2 _ (hr p q)).trans (N p (List.mem_append_right _ (.tail _ q))).1, (N p (List.mem_append_right _ (.tail _ q))).2⟩
end
theorem reach_len : ∀ (l : List Deed) (s : List Nat × List (Nat × Nat)), (l.foldl backStep s).1.length ≤ s.1.length + l.length
  | [], _ => Nat.le_refl _
  | d :: l, s => by
    have h1 := reach_len l (backStep s d)
    have h2 : (backStep s d).1.length ≤ s.1.length + 1 := by
      cases d with
      | tell a b => show (if _ then _ else _ : List Nat × List (Nat × Nat)).1.length ≤ _; split <;> simp
      | hear c i w f p k => show (if _ then _ else _ : List Nat × List (Nat × Nat)).1.length ≤ _; split <;> simp
    simp only [List.foldl_cons, List.length_cons]
    omega
theorem padC24n3 : True ∧ True := by walk1 <;> trivial
section
local macro_rules | `(tactic| walk_at $s:str) => if ["exec For", "ForAt", "ForEnd", "call ref", "subscriptTail Name Slice ref ref", "call builtin:list.append", "call builtin:sorted", "compareOp In int ref", "compareOp NotIn int ref", "call builtin:dict.get", "eval ListComp Tuple cons", "subscriptTail Name Name ref str", "SrcD", "CompEnd", "setItem ref str"].contains s.getString then `(tactic| (refine Hold.put ?_)) else Lean.Macro.throwUnsupported
local macro_rules | `(tactic| walk_at "subscriptTail Name Constant ref int") => `(tactic| (k_here; (with_reducible show wpAny _ _ (subscriptTail _ _ (Value.ref _) (Value.int _ _)) _ _ _); k_dflt (refine' item_tupleT ?t ?a ?b ?c ?d ?_; (case t => exact News.isTup (by k_asm) (.head _)); (case a => decide); (case b => decide); (case c => rfl); (case d => rfl); k_whole)))
theorem pReached (Dd : Addr) (its : List Value) (ds : List Deed) (n c : Nat) (t : Tok) (news : List (Addr × Obj)) (hD : Deeds news its ds) (hok : ∀ d ∈ ds, d.Ok) (hl : ds.length ≤ 13) (hc : c < 3) (w : World) :
   Ctr w 356 [.ref Dd, .int (c : Int) t] ((Dd, listOf its.toArray n) :: news) 3 32 (fun R _ s Q _ => ∀ D vs' n' ex h' tk', (∀ q ∈ ex, q.2.cls = .type "tuple" ∧ ∀ p ∈ (Dd, listOf its.toArray n) :: news, p.1 < q.1) → (∀ p ∈ (Dd, listOf its.toArray n) :: news, p.1 < D) → Rows ex vs' (canon (back ds c).2) → R h' ((D, listOf vs'.toArray n') :: (ex ++ (Dd, listOf its.toArray n) :: news)) → Q (.ref D) { s with heap := h', toks := tk' }) := by
  intro dp un gd cn cs a0 ccd cl base outer h₀ L m s Q E W hd hu hend
  obtain ⟨⟨A₀, B⟩, F, X, N, ⟨mean, mg, mb, T⟩, hk⟩ := W
  refine wpAny_call ?_
  k_dflt ((refine' code_defC ?k1 ?k2 ?k3 ?k4 ?k5 ?kA ?kF ?kK ?k6 ?k7 ?k8 ?k9 ?kB ?kD ?_ ?c2 ?c3 ?c4; (case kA => exact rfl); (case kF => exact rfl); (case kK => assumption); (case k1 => k_asm); (case k2 => k_asm); (case k3 => k_asm); (case k4 => k_asm); (case k5 => k_asm); (case k6 => k_is); (case k7 => k_is); (case k8 => ktr_room); (case k9 => first | exact BindsTo.of_eq rfl | exact binds_K (by k_in) rfl (by k_is) rfl rfl rfl); (case kB => exact rfl); (case kD => decide +kernel); (case c2 => exact rfl); (case c3 => exact rfl); (case c4 => exact rfl); k_whole; intro g L2 h2x tk2x cells2 FG F2 N2 Y2 BG XG TG lLt; k_cells Y2; (try simp only [List.cons_append, List.nil_append] at N2); (try dsimp only); (try k_lift BG); (try k_fold)))
  k_steps
  (rename Fr _ _ _ _ => Fx); (rename News _ _ _ _ => Nx)
  rename_i cellO cellD Rl _ lR _ Bd _ oB lB hsB fsB _ _ lD
  have hcell : ∀ p ∈ (Dd, listOf its.toArray n) :: news, p.1 ≠ L2 + 1 := fun p hp => Nat.ne_of_lt (Nat.lt_succ_of_lt (lLt p hp))
  refine storeX_C Fx Nx (by rfl) (UpdF.tail (Ne.symm (Nat.ne_of_lt lD.2.1)) (UpdF.tail (Ne.symm (Nat.ne_of_lt lR.1)) (UpdF.head hcell))) cellD ?_
  intro h3 o3 F3 N3 hd3
  clear Fx Nx cellD
  k_steps
  refine ⟨?_⟩
  (rename Fr _ _ _ _ => Fx); refine for_listF Fx ?_
  k_steps
  refine ⟨?_⟩
  (rename Fr _ _ _ _ => Fy); (rename News _ _ _ _ => Ny)
  have hil : its.length ≤ 13 := by rw [hD.len]; exact hl
  refine krv_lit (s := ⟨_, _, _, _, _⟩) (by exact Fy) (by exact Ny) (News.isList Ny (.tail _ (.tail _ (.tail _ (.head _))))) (.int _ _) rfl ?_ (by with_unfolding_all rfl) (by intro _; with_unfolding_all rfl) (by rw [List.size_toArray]; exact Nat.le_trans hil (Nat.le_of_ble_eq_true rfl))
  intro Dr h4 F4 N4 l4
  clear Fy Ny
  k_steps
  refine ⟨?_⟩
  have hDr := hD.reverse
  have hE1 : Rl < Bd := lD.1
  refine ⟨Dr, its.reverse.toArray, 0, _, (Dr, listOf its.reverse.toArray 0) :: (Bd, oB) :: (Rl, listOf [.int (c : Int) t].toArray 0) :: (L2 + 1, o3) :: (Dd, listOf its.toArray n) :: news, fun j m' n' => (∃ a b, m' = fr2 (S "name") (S "deed") a b _) ∧ ∃ rv k2 oB' kvs, n' = (Dr, listOf its.reverse.toArray 0) :: (Bd, oB') :: (Rl, listOf rv.toArray k2) :: (L2 + 1, o3) :: (Dd, listOf its.toArray n) :: news ∧ IntsAre rv (reachI ((ds.reverse.take j).foldl backStep ([c], [])).1) ∧ oB'.IsDictOf (PySem.strKind PG w) kvs ∧ FlatPairs PyData.str kvs (kdpD (bestC ((ds.reverse.take j).foldl backStep ([c], [])).2)), rfl, rfl, F4, N4, ⟨⟨_, _, fr2_self _ _ _⟩, _, 0, oB, [], rfl, .cons _ _ .nil, hsB, fsB⟩, ?hl, ?turn, ?done⟩
  case hl => rintro j m' n' ⟨_, rv, k2, oB', kvs, rfl, _⟩; exact .head _
  case turn =>
    intro j v m₁ news₁ h tk I oI hv hJ hoI F₅ N₅ off
    refine wpAny_cut ?_
    intro Q4 E4 cQ4 cE4
    obtain ⟨⟨a, b, rfl⟩, rv, k2, oB', kvs, rfl, hR, hB1, hB2⟩ := hJ
    obtain ⟨Td, oT, d, rfl, hdj, hTm, hdo⟩ := hDr.at (by simpa using hv)
    have N₆ := news_cons (N₅ (Td, oT) (.tail _ (.tail _ (.tail _ (.tail _ (.tail _ (.tail _ hTm))))))) N₅
    clear N₅ F4 N4
    have hdk := hok d (List.mem_reverse.mp (List.mem_of_getElem? hdj))
    generalize hst : (ds.reverse.take j).foldl backStep ([c], []) = st at hR hB1 hB2
    obtain ⟨Rs, Bs⟩ := st
    have hnext : (ds.reverse.take (j + 1)).foldl backStep ([c], []) = backStep (Rs, Bs) d := by
      rw [List.take_add_one, hdj, List.foldl_append, hst]; rfl
    have gB : Good Bs := by
      have := back_good (ds := (ds.reverse.take j).reverse) (fun d hd => hok d (List.mem_reverse.mp (List.mem_of_mem_take (List.mem_reverse.mp hd)))) c
      unfold back at this
      rw [List.reverse_reverse, hst] at this
      exact this
    have h4B : ∀ r ∈ Bs, r.1 < 4 := fun r hr => (gB.1 r hr).1
    have lRest : ∀ p ∈ (L2 + 1, o3) :: (Dd, listOf its.toArray n) :: news, p.1 < Rl := by
      refine List.forall_mem_cons.mpr ⟨lR.1, List.forall_mem_cons.mpr ⟨lR.2.1, fun p hp => allLt_at lR.2.2 p hp⟩⟩
    have hDrB : Dr ≠ Bd := Ne.symm (Nat.ne_of_lt (l4 (Bd, oB) (.head _)))
    have hDrR : Dr ≠ Rl := Ne.symm (Nat.ne_of_lt (l4 (Rl, _) (.tail _ (.head _))))
    have hIB : I ≠ Bd := Ne.symm (off (Bd, oB') (.tail _ (.head _)))
    have hIR : I ≠ Rl := Ne.symm (off (Rl, _) (.tail _ (.tail _ (.head _))))
    have offL : ∀ (oB2 : Obj) (oR : Obj), ∀ p ∈ (Dr, listOf its.reverse.toArray 0) :: (Bd, oB2) :: (Rl, oR) :: (L2 + 1, o3) :: (Dd, listOf its.toArray n) :: news, p.1 ≠ I := fun oB2 oR =>
      List.forall_mem_cons.mpr ⟨off (Dr, _) (.head _), List.forall_mem_cons.mpr ⟨(show Bd ≠ I from off (Bd, oB') (.tail _ (.head _))), List.forall_mem_cons.mpr ⟨(show Rl ≠ I from off (Rl, listOf rv.toArray k2) (.tail _ (.tail _ (.head _)))), fun p hp => off p (.tail _ (.tail _ (.tail _ hp)))⟩⟩⟩
    have hTdR : Td < Rl := allLt_at lR.2.2 (Td, oT) hTm
    have hrl : rv.length ≤ 99 := by
      rw [hR.length, List.length_map]
      have h1 := reach_len (ds.reverse.take j) ([c], [])
      rw [hst] at h1
      have h2 : (ds.reverse.take j).length ≤ 13 := by rw [List.length_take, List.length_reverse]; omega
      have h3 : Rs.length ≤ 1 + (ds.reverse.take j).length := h1
      show Rs.length ≤ 99
      omega
    cases d with
    | tell ta tb =>
      obtain ⟨t1, t2, rfl⟩ := hdo
      k_steps
      refine cQ4.use ?_
      refine wpAny_cut ?_
      intro Q5 E5 cQ5 cE5
      k_steps
      refine ⟨?_⟩
      (rename News _ _ _ _ => Nz)
      by_cases hb : tb ∈ Rs
      · refine kf_in (b := true) Nz (.tail _ (.tail _ (.tail _ (.tail _ (.head _))))) (ints_kf hR) (by rw [ints_any hR, reach_mem]; exact decide_eq_true hb) ?_
        k_steps
        refine ⟨?_⟩
        by_cases ha : ta ∈ Rs
        · refine kf_notin (b := false) Nz (.tail _ (.tail _ (.tail _ (.tail _ (.head _))))) (ints_kf hR) (by rw [ints_any hR, reach_mem, decide_eq_true ha]; rfl) ?_
          k_steps
          refine cQ5.use ?_
          k_steps
          refine ⟨?_⟩
          (rename Fr _ _ _ _ => Fw); (rename News _ _ _ _ => Nw)
          refine ForEnd.next Fw (fun p hp => Nw p (.tail _ hp)) (offL _ _) ⟨⟨_, _, fr2_setY (by decide)⟩, rv, _, oB', kvs, rfl, ?_, hB1, ?_⟩
          all_goals (rw [hnext, show backStep (Rs, Bs) (.tell ta tb) = (Rs, Bs) from if_neg (fun q => q.2 ha)]; assumption)
        · refine kf_notin (b := true) Nz (.tail _ (.tail _ (.tail _ (.tail _ (.head _))))) (ints_kf hR) (by rw [ints_any hR, reach_mem, decide_eq_false ha]; rfl) ?_
          k_steps
          refine ⟨?_⟩
          (rename Fr _ _ _ _ => Fw); (rename News _ _ _ _ => Nw)
          refine appendAny [(Td, _), (I, oI), (Dr, _), (Bd, oB')] Fw Nw ?hp1 (fun p hp => Nat.ne_of_lt (lRest p hp)) hrl ?_
          case hp1 => exact List.forall_mem_cons.mpr ⟨Nat.ne_of_lt hTdR, List.forall_mem_cons.mpr ⟨hIR, List.forall_mem_cons.mpr ⟨hDrR, List.forall_mem_cons.mpr ⟨Ne.symm (Nat.ne_of_lt hE1), fun p hp => (nomatch hp)⟩⟩⟩⟩
          intro h7 k7 F7 N7
          clear Nw Fw
          simp only [List.cons_append, List.nil_append] at N7
          k_steps
          refine cQ5.use ?_
          k_steps
          refine ⟨?_⟩
          (rename Fr _ _ _ _ => Fw); (rename News _ _ _ _ => Nw)
          refine ForEnd.next Fw (fun p hp => Nw p (.tail _ hp)) (offL _ _) ⟨⟨_, _, fr2_setY (by decide)⟩, rv ++ [.int (ta : Int) t1], _, oB', kvs, rfl, ?_, hB1, ?_⟩
          · rw [hnext, show backStep (Rs, Bs) (.tell ta tb) = (Rs ++ [ta], Bs) from if_pos ⟨hb, ha⟩]
            show IntsAre _ ((Rs ++ [ta]).map Int.ofNat)
            rw [List.map_append]
            exact ints_snoc hR
          · rw [hnext, show backStep (Rs, Bs) (.tell ta tb) = (Rs ++ [ta], Bs) from if_pos ⟨hb, ha⟩]
            exact hB2
      · refine kf_in (b := false) Nz (.tail _ (.tail _ (.tail _ (.tail _ (.head _))))) (ints_kf hR) (by rw [ints_any hR, reach_mem]; exact decide_eq_false hb) ?_
        k_steps
        refine cQ5.use ?_
        k_steps
        refine ⟨?_⟩
        (rename Fr _ _ _ _ => Fw); (rename News _ _ _ _ => Nw)
        refine ForEnd.next Fw (fun p hp => Nw p (.tail _ hp)) (offL _ _) ⟨⟨_, _, fr2_setY (by decide)⟩, rv, _, oB', kvs, rfl, ?_, hB1, ?_⟩
        all_goals (rw [hnext, show backStep (Rs, Bs) (.tell ta tb) = (Rs, Bs) from if_neg (fun q => hb q.1)]; assumption)
    | hear c' i way fault port kind =>
      obtain ⟨t1, t2, t3, t4, t5, t6, rfl⟩ := hdo
      k_steps
      refine cQ4.use ?_
      refine wpAny_cut ?_
      intro Q5 E5 cQ5 cE5
      k_steps
      refine ⟨?_⟩
      (rename News _ _ _ _ => Nz)
      by_cases hb : c' ∈ Rs
      · refine kf_in (b := true) Nz (.tail _ (.tail _ (.tail _ (.tail _ (.head _))))) (ints_kf hR) (by rw [ints_any hR, reach_mem]; exact decide_eq_true hb) ?_
        k_steps
        rotate_left
        · refine cQ5.use ?_
          k_steps
          refine ⟨?_⟩
          (rename ¬ (fault : Int) < 16 => hf)
          (rename Fr _ _ _ _ => Fw); (rename News _ _ _ _ => Nw)
          refine ForEnd.next Fw (fun p hp => Nw p (.tail _ hp)) (offL _ _) ⟨⟨_, _, fr2_setY (by decide)⟩, rv, _, oB', kvs, rfl, ?_, hB1, ?_⟩
          all_goals (rw [hnext, show backStep (Rs, Bs) (.hear c' i way fault port kind) = (Rs, Bs) from if_neg (fun q => hf (by omega))]; assumption)
        refine ⟨?_⟩
        (rename (fault : Int) < 16 => hf)
        refine pName (w := w) i t2 _ hdk.2.1 _ _ _ _ _ _ _ _ _ _ _ _ _ _ _ _ ⟨⟨_, by assumption⟩, by assumption, by assumption, by assumption, ⟨_, _, _, by assumption⟩, rfl⟩ ?hd1 ?hu1 ?ret1
        case hd1 => (dsimp only [ktrTop]); first | exact lim2 hd rfl | omega
        case hu1 => (dsimp only [ktrTop]); first | exact lim2 hu rfl | omega
        rintro t7 h7 tk7 ⟨_, F7, X7, N7, T7, _⟩
        clear Nz
        rw [nm_tx hdk.2.1]
        k_steps
        refine ⟨?_⟩
        (rename News _ _ _ _ => Nw)
        refine kdp_get2 (TabAt.ofNews Nw (.tail _ (.tail _ (.tail _ (.head _)))) lB hB1 hB2) ?_
        intro t8
        rw [best_look h4B hdk.2.1]
        k_steps
        refine ⟨?_⟩
        have emax : (if ((port : Nat) : Int) > (((Bs.lookup i).getD 0 : Nat) : Int) then ((port : Nat) : Int) else (((Bs.lookup i).getD 0 : Nat) : Int)) = ((max ((Bs.lookup i).getD 0) port : Nat) : Int) := by
          split <;> omega
        rw [emax]
        (rename Fr _ _ _ _ => Fw); (rename News _ _ _ _ => Nw)
        refine kdp_setItem Fw Nw (UpdF.tail (Nat.ne_of_lt (allLt_at lD.2.2.2 (Td, _) hTm)) (UpdF.tail hIB (UpdF.tail hDrB (UpdF.head ?hUB)))) hB1 hB2 ?hBl ?_
        case hUB => exact List.forall_mem_cons.mpr ⟨Nat.ne_of_lt lD.1, List.forall_mem_cons.mpr ⟨Nat.ne_of_lt lD.2.1, List.forall_mem_cons.mpr ⟨Nat.ne_of_lt lD.2.2.1, fun p hp => Nat.ne_of_lt (allLt_at lD.2.2.2 p hp)⟩⟩⟩
        case hBl =>
          show (Bs.map _).length ≤ _
          rw [List.length_map]
          exact Nat.le_trans gB.len (by decide)
        intro h9 oB9 kvs9 F9 N9 hd9 hf9
        rw [best_put h4B hdk.2.1] at hf9
        clear Nw Fw
        k_steps
        refine cQ5.use ?_
        k_steps
        refine ⟨?_⟩
        (rename Fr _ _ _ _ => Fw); (rename News _ _ _ _ => Nw)
        refine ForEnd.next Fw (fun p hp => Nw p (.tail _ hp)) (offL _ _) ⟨⟨_, _, fr2_set⟩, rv, _, oB9, kvs9, rfl, ?_, hd9, ?_⟩
        all_goals (rw [hnext, show backStep (Rs, Bs) (.hear c' i way fault port kind) = (Rs, putB Bs i (max ((Bs.lookup i).getD 0) port)) from if_pos ⟨hb, by omega⟩]; assumption)
      · refine kf_in (b := false) Nz (.tail _ (.tail _ (.tail _ (.tail _ (.head _))))) (ints_kf hR) (by rw [ints_any hR, reach_mem]; exact decide_eq_false hb) ?_
        k_steps
        refine cQ5.use ?_
        k_steps
        refine ⟨?_⟩
        (rename Fr _ _ _ _ => Fw); (rename News _ _ _ _ => Nw)
        refine ForEnd.next Fw (fun p hp => Nw p (.tail _ hp)) (offL _ _) ⟨⟨_, _, fr2_setY (by decide)⟩, rv, _, oB', kvs, rfl, ?_, hB1, ?_⟩
        all_goals (rw [hnext, show backStep (Rs, Bs) (.hear c' i way fault port kind) = (Rs, Bs) from if_neg (fun q => hb q.1)]; assumption)
  case done =>
    intro m₁ news₁ h tk hJ F₅ N₅
    obtain ⟨⟨a, b, rfl⟩, rv, k2, oB', kvs, rfl, hR, hB1, hB2⟩ := hJ
    k_steps
    refine ⟨?_⟩
    refine ListComp_D (by exact F₅) (by with_unfolding_all rfl) (by decide) (by rfl) (by decide) (by rfl) ?_
    k_steps
    refine ⟨?_⟩
    have hsz : its.reverse.toArray.size = ds.reverse.length := by rw [List.size_toArray, List.length_reverse, List.length_reverse, hD.len]
    rw [hsz, List.take_length] at hR hB2
    have gB : Good (back ds c).2 := back_good hok c
    obtain ⟨Bt, hBt⟩ : ∃ Bt, Bt = (back ds c).2 := ⟨_, rfl⟩
    have hB2' : FlatPairs PyData.str kvs (kdpD (bestC Bt)) := by rw [hBt]; exact hB2
    rw [← hBt] at gB hend
    clear hB2 hBt
    have h4B : ∀ r ∈ Bt, r.1 < 4 := fun r hr => (gB.1 r hr).1
    have hkl : kvs.length = Bt.length := by rw [flat_len hB2']; exact List.length_map _
    have hB4 := gB.len
    (rename Fr _ _ _ _ => Fw); (rename News _ _ _ _ => Nw)
    refine ⟨Bd, oB', kvs, _, rfl, rfl, lB, Fw, Nw, .tail _ (.head _), hB1, by rw [sizeLine_eq]; omega, ?_⟩
    rintro _ ⟨g5, rfl⟩
    rw [hkl]
    refine rest_inv (fun i ys nw => ∃ ex, nw = ex ++ (Dr, listOf its.reverse.toArray 0) :: (Bd, oB') :: (Rl, listOf rv.toArray k2) :: (L2 + 1, o3) :: (Dd, listOf its.toArray n) :: news ∧ (∀ q ∈ ex, q.2.cls = .type "tuple" ∧ ∀ p ∈ (Dd, listOf its.toArray n) :: news, p.1 < q.1) ∧ Rows ex ys (Bt.take i)) ?turn2 ?fin2 Bt.length 0 [] _ rfl ⟨[], rfl, fun q hq => (nomatch hq), .nil⟩
    case turn2 =>
      rintro i ys _ v I oI C oC D m₂ h tk E' hi ⟨ex, rfl, hex, hRw⟩ ⟨kk, y, hkv, hv⟩ hC hx F' N' off ne
      obtain ⟨p, hp, rfl⟩ := flat_at hB2' hkv
      obtain ⟨r, hri, rfl⟩ : ∃ r, Bt[i]? = some r ∧ p = (tx (nm r.1), (r.2 : Int)) := by
        rw [List.getElem?_map] at hp
        cases hb : Bt[i]? with
        | none => rw [hb] at hp; cases hp
        | some r => rw [hb] at hp; exact ⟨r, rfl, (Option.some.inj hp).symm⟩
      have hrm := List.mem_of_getElem? hri
      have hr2 : r.2 < 1000 := (gB.1 r hrm).2
      obtain ⟨tk0, rfl⟩ := Value.isStrOf_shape hv
      have N6 := news_cons (N' (Bd, oB') (.tail _ (.tail _ (.tail _ (List.mem_append_right _ (.tail _ (.head _))))))) (news_cons (N' (L2 + 1, o3) (.tail _ (.tail _ (.tail _ (List.mem_append_right _ (.tail _ (.tail _ (.tail _ (.head _))))))))) N')
      clear N' Nw Fw
      dsimp only at hx
      k_steps
      refine ⟨?_⟩
      (rename News _ _ _ _ => Nz)
      refine kdp_item (TabAt.ofNews Nz (.head _) lB hB1 hB2') ?hhas ?_ (by with_unfolding_all rfl) (by intro _; with_unfolding_all rfl)
      case hhas =>
        unfold kdpHas
        rw [best_any h4B (h4B r hrm), lookup_row gB.2 hrm]; rfl
      intro t8
      rw [best_look h4B (h4B r hrm), lookup_row gB.2 hrm, Option.getD_some]
      k_steps
      refine ⟨?_⟩
      (rename Fr _ _ _ _ => Fz); (rename News _ _ _ _ => Nz); (rename _ ∧ _ ∧ _ ∧ _ ∧ _ ∧ AllLt _ _ => lz)
      rename_i tt kk T2 h9
      refine LCg.CompEnd.intro Fz Nz ((T2, rowO r tk0 tt 0) :: (ex ++ _)) ?_ ⟨⟨Ne.symm (Nat.ne_of_lt lz.2.2.1), Ne.symm (Nat.ne_of_lt lz.2.2.2.1), Ne.symm (Nat.ne_of_lt lz.2.2.2.2.1)⟩, off⟩ (.tail _ (List.mem_append_right _ (.tail _ (.head _)))) ⟨(T2, rowO r tk0 tt 0) :: ex, rfl, ?_, ?_⟩
      · refine List.forall_mem_cons.mpr ⟨.tail _ (.tail _ (.tail _ (.head _))), List.forall_mem_cons.mpr ⟨.tail _ (.tail _ (.tail _ (.tail _ (.head _)))), List.forall_mem_cons.mpr ⟨.tail _ (.tail _ (.tail _ (.tail _ (.tail _ (.head _))))), List.forall_mem_cons.mpr ⟨.head _, fun p hp => .tail _ (.tail _ (.tail _ (.tail _ (.tail _ (.tail _ hp)))))⟩⟩⟩⟩
      · exact List.forall_mem_cons.mpr ⟨⟨rfl, fun p hp => allLt_at lz.2.2.2.2.2 p (List.mem_append_right _ (.tail _ (.tail _ (.tail _ (.tail _ hp)))))⟩, hex⟩
      · rw [List.take_add_one, hri]
        exact (hRw.mono fun p hp => .tail _ hp).append (.cons (.head _) .nil)
    case fin2 =>
      rintro ys _ ⟨ex, rfl, hex, hRw⟩ D h tk F' N' off
      rw [Nat.add_zero, List.take_length] at hRw
      clear Nw Fw
      k_steps
      refine ⟨?_⟩
      (rename Fr _ _ _ _ => Fz); (rename News _ _ _ _ => Nz)
      refine sortedRows Fz Nz (News.isList Nz (.head _)) hRw (fun p hp => .tail _ (List.mem_append_left _ hp)) gB ?_
      intro D2 vs2 n2 h8 R8 F8 N8 l8
      clear Fz Nz
      k_steps
      (rename News _ _ _ _ => Nz)
      refine hend D2 vs2 n2 ex _ _ hex (fun p hp => l8 p (.tail _ (List.mem_append_right _ (.tail _ (.tail _ (.tail _ (.tail _ hp))))))) R8 ⟨⟨_, B⟩, by assumption, by assumption, fun p hp => Nz p ?_, ⟨_, _, _, T⟩, hk⟩
      rcases List.mem_cons.mp hp with rfl | hp
      · exact .head _
      · refine .tail _ (.tail _ ?_)
        rcases List.mem_append.mp hp with q | q
        · exact List.mem_append_left _ q
        · exact List.mem_append_right _ (.tail _ (.tail _ (.tail _ (.tail _ q))))
end
end Mine
end
section
open PySem PySem.W PyProof.Rows PySem.Calls PySem.Spec PyProof.V
set_option maxRecDepth 100000
namespace Mine
/-- a table of the law as it lies -/
structure Tab where
  X : Addr
  d : Addr
  L : Addr
  hh : Int
  th : Tok
  e : Nat
  its : List Value
  n : Nat
/-- the ledger with a table on top -/
noncomputable abbrev tabN (t : Tab) (news : List (Addr × Obj)) : List (Addr × Obj) := tabL t.X t.d t.L t.hh t.th t.e t.its.toArray t.n news
noncomputable abbrev tabO (t : Tab) : List (Addr × Obj) := tabN t []
theorem mem_tabN {t : Tab} {news : List (Addr × Obj)} {p : Addr × Obj} : p ∈ tabN t news ↔ p ∈ tabO t ∨ p ∈ news := by
  simp only [List.mem_cons, List.not_mem_nil, or_false]
  constructor
  · rintro (h | h | h | h)
    · exact .inl (.inl h)
    · exact .inl (.inr (.inl h))
    · exact .inl (.inr (.inr h))
    · exact .inr h
  · rintro ((h | h | h) | h)
    · exact .inl h
    · exact .inr (.inl h)
    · exact .inr (.inr (.inl h))
    · exact .inr (.inr (.inr h))
/-- the tables whose numbers pass -/
noncomputable def tabsP (tb : Nat → Tab) (P : Nat → Bool) : List (Addr × Obj) := ([0, 1, 2].filter P).flatMap fun i => tabO (tb i)
theorem mem_tabsP {tb : Nat → Tab} {P : Nat → Bool} {p : Addr × Obj} : p ∈ tabsP tb P ↔ ∃ i, i < 3 ∧ P i = true ∧ p ∈ tabO (tb i) := by
  unfold tabsP
  rw [List.mem_flatMap]
  constructor
  · rintro ⟨i, hi, hp⟩
    obtain ⟨h1, h2⟩ := List.mem_filter.mp hi
    refine ⟨i, ?_, h2, hp⟩
    simp only [List.mem_cons, List.not_mem_nil, or_false] at h1
    omega
  · rintro ⟨i, hi, h2, hp⟩
    refine ⟨i, List.mem_filter.mpr ⟨?_, h2⟩, hp⟩
    simp only [List.mem_cons, List.not_mem_nil, or_false]
    omega
noncomputable abbrev allT : Nat → Bool := fun _ => true
noncomputable abbrev but1 (a : Nat) : Nat → Bool := fun i => decide (i ≠ a)
noncomputable abbrev but2 (a b : Nat) : Nat → Bool := fun i => decide (i ≠ a) && decide (i ≠ b)
/-- a table with other rows -/
noncomputable abbrev setT (tb : Nat → Tab) (b : Nat) (its : List Value) (n : Nat) : Nat → Tab := fun i => if i = b then { tb b with its := its, n := n } else tb i
theorem ne_data {h₀ h : Heap} {L a b : Addr} {oa ob : Obj} {news : List (Addr × Obj)} (N : News h₀ L h news) (h1 : (a, oa) ∈ news) (h2 : (b, ob) ∈ news) (hc : oa ≠ ob) : a ≠ b := by
  rintro rfl
  have e1 := (N _ h1).1
  have e2 := (N _ h2).1
  rw [e1] at e2
  exact hc (Option.some.inj e2)
/-- the whole ledger of the law's loop: its iterator and lists ahead, the tables, what was made, the rest -/
noncomputable abbrev ledg (pre : List (Addr × Obj)) (tb : Nat → Tab) (ex rest : List (Addr × Obj)) : List (Addr × Obj) := pre ++ (tabsP tb allT ++ (ex ++ rest))
section
variable {pre ex ex2 rest : List (Addr × Obj)} {tb : Nat → Tab} {a b : Nat} {its : List Value} {n : Nat}
/-- two tables on top -/
noncomputable abbrev top2 (a b : Nat) (pre : List (Addr × Obj)) (tb : Nat → Tab) (ex rest : List (Addr × Obj)) : List (Addr × Obj) := pre ++ (tabsP tb (but2 a b) ++ (ex ++ rest))
noncomputable abbrev top1 (a : Nat) (pre : List (Addr × Obj)) (tb : Nat → Tab) (ex rest : List (Addr × Obj)) : List (Addr × Obj) := pre ++ (tabsP tb (but1 a) ++ (ex ++ rest))
theorem to_top2 (ha : a < 3) (hb : b < 3) : ∀ p ∈ tabN (tb a) (tabN (tb b) (top2 a b pre tb ex rest)), p ∈ ledg pre tb ex rest := by
  intro p hp
  rcases mem_tabN.mp hp with h | h
  · exact List.mem_append_right _ (List.mem_append_left _ (mem_tabsP.mpr ⟨a, ha, rfl, h⟩))
  · rcases mem_tabN.mp h with h | h
    · exact List.mem_append_right _ (List.mem_append_left _ (mem_tabsP.mpr ⟨b, hb, rfl, h⟩))
    · rcases List.mem_append.mp h with h | h
      · exact List.mem_append_left _ h
      · rcases List.mem_append.mp h with h | h
        · obtain ⟨i, hi, _, hp⟩ := mem_tabsP.mp h
          exact List.mem_append_right _ (List.mem_append_left _ (mem_tabsP.mpr ⟨i, hi, rfl, hp⟩))
        · exact List.mem_append_right _ (List.mem_append_right _ h)
theorem of_top2 (hab : a ≠ b) : ∀ p ∈ ledg pre (setT tb b its n) (ex2 ++ ex) rest, p ∈ tabN (tb a) (tabN { tb b with its := its, n := n } (ex2 ++ top2 a b pre tb ex rest)) := by
  intro p hp
  rcases List.mem_append.mp hp with h | h
  · exact mem_tabN.mpr (.inr (mem_tabN.mpr (.inr (List.mem_append_right _ (List.mem_append_left _ h)))))
  · rcases List.mem_append.mp h with h | h
    · obtain ⟨i, hi, _, hp⟩ := mem_tabsP.mp h
      by_cases h1 : i = b
      · subst h1
        rw [show setT tb i its n i = { tb i with its := its, n := n } from if_pos rfl] at hp
        exact mem_tabN.mpr (.inr (mem_tabN.mpr (.inl hp)))
      · rw [show setT tb b its n i = tb i from if_neg h1] at hp
        by_cases h2 : i = a
        · subst h2
          exact mem_tabN.mpr (.inl hp)
        · exact mem_tabN.mpr (.inr (mem_tabN.mpr (.inr (List.mem_append_right _ (List.mem_append_right _ (List.mem_append_left _ (mem_tabsP.mpr ⟨i, hi, by simp [h1, h2], hp⟩)))))))
    · rcases List.mem_append.mp h with h | h
      · rcases List.mem_append.mp h with h | h
        · exact mem_tabN.mpr (.inr (mem_tabN.mpr (.inr (List.mem_append_left _ h))))
        · exact mem_tabN.mpr (.inr (mem_tabN.mpr (.inr (List.mem_append_right _ (List.mem_append_right _ (List.mem_append_right _ (List.mem_append_left _ h)))))))
      · exact mem_tabN.mpr (.inr (mem_tabN.mpr (.inr (List.mem_append_right _ (List.mem_append_right _ (List.mem_append_right _ (List.mem_append_right _ h)))))))
theorem to_top1 (ha : a < 3) : ∀ p ∈ tabN (tb a) (top1 a pre tb ex rest), p ∈ ledg pre tb ex rest := by
  intro p hp
  rcases mem_tabN.mp hp with h | h
  · exact List.mem_append_right _ (List.mem_append_left _ (mem_tabsP.mpr ⟨a, ha, rfl, h⟩))
  · rcases List.mem_append.mp h with h | h
    · exact List.mem_append_left _ h
    · rcases List.mem_append.mp h with h | h
      · obtain ⟨i, hi, _, hp⟩ := mem_tabsP.mp h
        exact List.mem_append_right _ (List.mem_append_left _ (mem_tabsP.mpr ⟨i, hi, rfl, hp⟩))
      · exact List.mem_append_right _ (List.mem_append_right _ h)
theorem of_top1 : ∀ p ∈ ledg pre (setT tb a its n) (ex2 ++ ex) rest, p ∈ tabN { tb a with its := its, n := n } (ex2 ++ top1 a pre tb ex rest) := by
  intro p hp
  rcases List.mem_append.mp hp with h | h
  · exact mem_tabN.mpr (.inr (List.mem_append_right _ (List.mem_append_left _ h)))
  · rcases List.mem_append.mp h with h | h
    · obtain ⟨i, hi, _, hp⟩ := mem_tabsP.mp h
      by_cases h1 : i = a
      · subst h1
        rw [show setT tb i its n i = { tb i with its := its, n := n } from if_pos rfl] at hp
        exact mem_tabN.mpr (.inl hp)
      · rw [show setT tb a its n i = tb i from if_neg h1] at hp
        exact mem_tabN.mpr (.inr (List.mem_append_right _ (List.mem_append_right _ (List.mem_append_left _ (mem_tabsP.mpr ⟨i, hi, by simp [h1], hp⟩)))))
    · rcases List.mem_append.mp h with h | h
      · rcases List.mem_append.mp h with h | h
        · exact mem_tabN.mpr (.inr (List.mem_append_left _ h))
        · exact mem_tabN.mpr (.inr (List.mem_append_right _ (List.mem_append_right _ (List.mem_append_right _ (List.mem_append_left _ h)))))
      · exact mem_tabN.mpr (.inr (List.mem_append_right _ (List.mem_append_right _ (List.mem_append_right _ (List.mem_append_right _ h)))))
theorem list_off {h₀ h : Heap} {L : Addr} {all : List (Addr × Obj)} (N : News h₀ L h all) {t : Tab} (ht : (t.L, listOf t.its.toArray t.n) ∈ all) {u : Tab} (hu : ∀ p ∈ tabO u, p ∈ all) (hne : u.L ≠ t.L) : ∀ p ∈ tabO u, p.1 ≠ t.L := by
  refine List.forall_mem_cons.mpr ⟨ne_objs N (hu _ (.head _)) ht (by intro q; cases q), List.forall_mem_cons.mpr ⟨ne_objs N (hu _ (.tail _ (.head _))) ht (cls_ne (by decide)), List.forall_mem_cons.mpr ⟨hne, fun p hp => (nomatch hp)⟩⟩⟩
end
section
variable {h₀ h : Heap} {L I Fo Tb Lc Dl : Addr} {oI oF oTb oc oD : Obj} {tb : Nat → Tab} {ex exD : List (Addr × Obj)}
theorem cell_ne {o : Obj} {v : Option Value} {xs : Array Value} {k : Nat} (h1 : o.data = .cell v) (h2 : o.data = .seq xs k) : False := by
  rw [h1] at h2; cases h2
/-- all that lies beside a table's list lies elsewhere -/
theorem off_tabs (N : News h₀ L h ((I, oI) :: ledg [(Fo, oF), (Tb, oTb)] tb ex ((Lc, oc) :: (Dl, oD) :: exD))) {b : Nat} (hb : b < 3) {P : Nat → Bool} (hP : P b = false) (hI : I ≠ (tb b).L) (hF : Fo ≠ (tb b).L) (hT : Tb ≠ (tb b).L)
    (hL : ∀ i, i < 3 → i ≠ b → (tb i).L ≠ (tb b).L) (hex : ∀ q ∈ ex, q.2.cls = .type "tuple") {v : Option Value} (hoc : oc.data = .cell v) (hD : Dl ≠ (tb b).L) (hexD : ∀ q ∈ exD, ∃ d, DeedO d q.2) :
    ∀ p ∈ (I, oI) :: ([(Fo, oF), (Tb, oTb)] ++ (tabsP tb P ++ (ex ++ (Lc, oc) :: (Dl, oD) :: exD))), p.1 ≠ (tb b).L := by
  have mB : ((tb b).L, listOf (tb b).its.toArray (tb b).n) ∈ (I, oI) :: ledg [(Fo, oF), (Tb, oTb)] tb ex ((Lc, oc) :: (Dl, oD) :: exD) :=
    .tail _ (List.mem_append_right _ (List.mem_append_left _ (mem_tabsP.mpr ⟨b, hb, rfl, .tail _ (.tail _ (.head _))⟩)))
  refine List.forall_mem_cons.mpr ⟨hI, List.forall_mem_cons.mpr ⟨hF, List.forall_mem_cons.mpr ⟨hT, fun p hp => ?_⟩⟩⟩
  have hp' : p ∈ tabsP tb P ++ (ex ++ (Lc, oc) :: (Dl, oD) :: exD) := hp
  rcases List.mem_append.mp hp' with g | g
  · obtain ⟨i, hi, hPi, hp⟩ := mem_tabsP.mp g
    have hib : i ≠ b := by rintro rfl; rw [hP] at hPi; cases hPi
    exact list_off N mB (u := tb i) (fun p hp => .tail _ (List.mem_append_right _ (List.mem_append_left _ (mem_tabsP.mpr ⟨i, hi, rfl, hp⟩)))) (hL i hi hib) p hp
  · rcases List.mem_append.mp g with q | q
    · exact ne_objs (oa := p.2) N (.tail _ (List.mem_append_right _ (List.mem_append_right _ (List.mem_append_left _ q)))) mB (by rw [hex p q]; exact cls_ne (by decide))
    · have mem : p ∈ (I, oI) :: ledg [(Fo, oF), (Tb, oTb)] tb ex ((Lc, oc) :: (Dl, oD) :: exD) := .tail _ (List.mem_append_right _ (List.mem_append_right _ (List.mem_append_right _ q)))
      rcases List.mem_cons.mp q with rfl | q
      · exact ne_data N mem mB fun e => cell_ne hoc (show oc.data = _ by rw [e])
      · rcases List.mem_cons.mp q with rfl | q
        · exact hD
        · obtain ⟨d, hd⟩ := hexD p q
          exact ne_objs (oa := p.2) N mem mB (by rw [hd.cls]; exact cls_ne (by decide))
/-- all that lies beside the list of answers lies elsewhere -/
theorem off_fo {fv : Array Value} {kf : Nat} (N : News h₀ L h ((I, oI) :: ledg [(Fo, listOf fv kf), (Tb, oTb)] tb ex ((Lc, oc) :: (Dl, oD) :: exD))) (hT : Tb ≠ Fo)
    (hL : ∀ i, i < 3 → (tb i).L ≠ Fo) (hex : ∀ q ∈ ex, q.2.cls = .type "tuple") {v : Option Value} (hoc : oc.data = .cell v) (hD : Dl ≠ Fo) (hexD : ∀ q ∈ exD, ∃ d, DeedO d q.2) :
    ∀ p ∈ (Tb, oTb) :: (tabsP tb allT ++ (ex ++ (Lc, oc) :: (Dl, oD) :: exD)), p.1 ≠ Fo := by
  have mB : (Fo, listOf fv kf) ∈ (I, oI) :: ledg [(Fo, listOf fv kf), (Tb, oTb)] tb ex ((Lc, oc) :: (Dl, oD) :: exD) := .tail _ (.head _)
  refine List.forall_mem_cons.mpr ⟨hT, fun p hp => ?_⟩
  have up : p ∈ (I, oI) :: ledg [(Fo, listOf fv kf), (Tb, oTb)] tb ex ((Lc, oc) :: (Dl, oD) :: exD) := .tail _ (.tail _ (.tail _ hp))
  rcases List.mem_append.mp hp with g | g
  · obtain ⟨i, hi, _, hp⟩ := mem_tabsP.mp g
    rcases List.mem_cons.mp hp with rfl | hp
    · exact ne_objs N up mB (by intro q; cases q)
    · rcases List.mem_cons.mp hp with rfl | hp
      · exact ne_objs N up mB (cls_ne (by decide))
      · rcases List.mem_cons.mp hp with rfl | hp
        · exact hL i hi
        · cases hp
  · rcases List.mem_append.mp g with q | q
    · exact ne_objs (oa := p.2) N up mB (by rw [hex p q]; exact cls_ne (by decide))
    · rcases List.mem_cons.mp q with rfl | q
      · exact ne_data N up mB fun e => cell_ne hoc (show oc.data = _ by rw [e])
      · rcases List.mem_cons.mp q with rfl | q
        · exact hD
        · obtain ⟨d, hd⟩ := hexD p q
          exact ne_objs (oa := p.2) N up mB (by rw [hd.cls]; exact cls_ne (by decide))
theorem ledg_cons {pre rest : List (Addr × Obj)} {x : Addr × Obj} : ∀ p ∈ ledg pre tb (x :: ex) rest, p = x ∨ p ∈ ledg pre tb ex rest := by
  intro p hp
  rcases List.mem_append.mp hp with g | g
  · exact .inr (List.mem_append_left _ g)
  · rcases List.mem_append.mp g with g | g
    · exact .inr (List.mem_append_right _ (List.mem_append_left _ g))
    · rcases List.mem_cons.mp g with g | g
      · exact .inl g
      · exact .inr (List.mem_append_right _ (List.mem_append_right _ g))
/-- rows that lie in a ledger lie among its tuples -/
theorem rows_keep {ex2 : List (Addr × Obj)} {its : List Value} {rs : List (Nat × Nat)} {P : Nat → Bool} {pre : List (Addr × Obj)} {rest : List (Addr × Obj)} (hpre : ∀ p ∈ pre, p.2.cls ≠ .type "tuple") (R : Rows (ex2 ++ (pre ++ (tabsP tb P ++ (ex ++ rest)))) its rs) : Rows ((ex2 ++ ex) ++ rest) its rs := by
  refine R.of fun p hp hc => ?_
  rcases List.mem_append.mp hp with g | g
  · exact List.mem_append_left _ (List.mem_append_left _ g)
  · rcases List.mem_append.mp g with g | g
    · exact absurd hc (hpre p g)
    · rcases List.mem_append.mp g with g | g
      · obtain ⟨i, _, _, hp⟩ := mem_tabsP.mp g
        rcases List.mem_cons.mp hp with rfl | hp
        · cases hc
        · rcases List.mem_cons.mp hp with rfl | hp
          · exact absurd hc (cls_ne (by decide))
          · rcases List.mem_cons.mp hp with rfl | hp
            · exact absurd hc (cls_ne (by decide))
            · cases hp
      · rcases List.mem_append.mp g with g | g
        · exact List.mem_append_left _ (List.mem_append_right _ g)
        · exact List.mem_append_right _ g
end
theorem off_next {I b : Nat} {pre ex ex2 rest : List (Addr × Obj)} {tb : Nat → Tab} {its : List Value} {n : Nat} (off : ∀ p ∈ ledg pre tb ex rest, p.1 ≠ I) (h2 : ∀ p ∈ ex2, p.1 ≠ I) : ∀ p ∈ ledg pre (setT tb b its n) (ex2 ++ ex) rest, p.1 ≠ I := by
  intro p hp
  rcases List.mem_append.mp hp with g | g
  · exact off p (List.mem_append_left _ g)
  · rcases List.mem_append.mp g with g | g
    · obtain ⟨i, hi, _, hp⟩ := mem_tabsP.mp g
      have old : ∀ q ∈ tabO (tb i), q.1 ≠ I := fun q hq => off q (List.mem_append_right _ (List.mem_append_left _ (mem_tabsP.mpr ⟨i, hi, rfl, hq⟩)))
      by_cases h : i = b
      · subst h
        rw [show setT tb i its n i = { tb i with its := its, n := n } from if_pos rfl] at hp
        rcases List.mem_cons.mp hp with rfl | hp
        · exact old _ (.head _)
        · rcases List.mem_cons.mp hp with rfl | hp
          · exact old _ (.tail _ (.head _))
          · rcases List.mem_cons.mp hp with rfl | hp
            · exact old ((tb i).L, listOf (tb i).its.toArray (tb i).n) (.tail _ (.tail _ (.head _)))
            · cases hp
      · rw [show setT tb b its n i = tb i from if_neg h] at hp
        exact old p hp
    · rcases List.mem_append.mp g with g | g
      · rcases List.mem_append.mp g with g | g
        · exact h2 p g
        · exact off p (List.mem_append_right _ (List.mem_append_right _ (List.mem_append_left _ g)))
      · exact off p (List.mem_append_right _ (List.mem_append_right _ (List.mem_append_right _ g)))
theorem setT_same {Xs Ls : Nat → Addr} {tb : Nat → Tab} {b : Nat} {its : List Value} {n : Nat} (h : ∀ i, i < 3 → (tb i).X = Xs i ∧ (tb i).L = Ls i) : ∀ i, i < 3 → (setT tb b its n i).X = Xs i ∧ (setT tb b its n i).L = Ls i := by
  intro i hi
  by_cases e : i = b
  · subst e
    rw [show setT tb i its n i = { tb i with its := its, n := n } from if_pos rfl]
    exact h i hi
  · rw [show setT tb b its n i = tb i from if_neg e]
    exact h i hi
theorem runT_next {ds : List Deed} {j : Nat} {d : Deed} {T : Nat → List (Nat × Nat)} (h : ds[j]? = some d) : runT T (ds.take (j + 1)) = stepT (runT T (ds.take j)) d := by
  unfold runT
  rw [List.take_add_one, h, List.foldl_append]
  rfl
/-- a frame with three names of its own ahead of the rest -/
noncomputable abbrev fr3 (x y z : PySem.Str) (a b c : Option Value) (m : PySem.Str → Option Value) : PySem.Str → Option Value := fun k => if k = x then a else if k = y then b else if k = z then c else m k
theorem fr3_self (x y z : PySem.Str) (m : PySem.Str → Option Value) : m = fr3 x y z (m x) (m y) (m z) m := by
  funext k
  simp only [fr3]
  split
  · rename_i e; rw [e]
  · split
    · rename_i e; rw [e]
    · split
      · rename_i e; rw [e]
      · rfl
theorem fr3_set {x y z : PySem.Str} {a b c a' b' c' : Option Value} {m : PySem.Str → Option Value} : fr3 x y z a' b' c' (fr3 x y z a b c m) = fr3 x y z a' b' c' m := by
  funext k
  simp only [fr3]
  split
  · rfl
  · split
    · rfl
    · split <;> rfl
theorem fr3_setZ {x y z : PySem.Str} (hxz : x ≠ z) (hyz : y ≠ z) {a b c c' : Option Value} {m : PySem.Str → Option Value} : (fun k => if k = z then c' else fr3 x y z a b c m k) = fr3 x y z a b c' m := by
  funext k
  simp only [fr3]
  by_cases h1 : k = z
  · subst h1
    rw [if_pos rfl, if_neg (Ne.symm hxz), if_neg (Ne.symm hyz), if_pos rfl]
  · rw [if_neg h1, if_neg h1]
    split
    · rfl
    · split <;> rfl
/-- the answer that a deed asks for, as a datum -/
noncomputable def ansD (fault : Nat) : Dat := if fault < 16 then .str (PySem.Str.ofString "server") else .int (([1, 1, 2, 2, 2, 3, 3] : List Int).getD (fault - 16) 0)
theorem ans_in (fault : Nat) (t : Tok) : DatIn [] (ansV fault t) (ansD fault) := by
  unfold ansV ansD
  split
  · exact .str _ _
  · exact .int _ _
noncomputable def foundD (ds : List Deed) : List Dat := ds.filterMap fun d => match d with
  | .hear _ _ _ fault _ _ => some (ansD fault)
  | .tell _ _ => none
theorem found_ok (ds : List Deed) : ∀ d ∈ foundD ds, kqdOk 8 d = true := by
  intro d hd
  obtain ⟨x, _, hx⟩ := List.mem_filterMap.mp hd
  cases x with
  | tell a b => cases hx
  | hear c i way fault port kind =>
    obtain rfl := Option.some.inj hx
    unfold ansD
    split
    · decide +kernel
    · rfl
theorem foundD_tell {ds : List Deed} {j a b : Nat} (h : ds[j]? = some (.tell a b)) : foundD (ds.take (j + 1)) = foundD (ds.take j) := by
  unfold foundD
  rw [List.take_add_one, h, List.filterMap_append]
  simp
theorem foundD_hear {ds : List Deed} {j c i way fault port kind : Nat} (h : ds[j]? = some (.hear c i way fault port kind)) : foundD (ds.take (j + 1)) = foundD (ds.take j) ++ [ansD fault] := by
  unfold foundD
  rw [List.take_add_one, h, List.filterMap_append]
  simp
/-- a table's rows as data -/
noncomputable def rowD (r : Nat × Nat) : Dat := .tuple [.str (tx (nm r.1)), .str (tx (figs r.2))]
noncomputable def rowsD (rs : List (Nat × Nat)) : Dat := .list (rs.map rowD)
theorem rows_dat {news : List (Addr × Obj)} {vs : List Value} {rs : List (Nat × Nat)} (R : Rows news vs rs) : DatAll news vs (rs.map rowD) := by
  induction R with
  | nil => exact .nil
  | cons hm _ ih => exact .cons (.tuple (vs := [_, _]) hm (.cons (.str _ _) (.cons (.str _ _) .nil))) ih
theorem pAnswer (fault : Nat) (t : Tok) (news : List (Addr × Obj)) (hf2 : fault < 23) (w : World) :
   Ctr w 351 [.int (fault : Int) t] news 1 8 (fun R _ s Q _ => ∀ t' h' tk', R h' news → Q (ansV fault t') { s with heap := h', toks := tk' }) := by
  by_cases hf : fault < 16
  · exact pAnswer0 (w := w) fault t news hf
  · exact pAnswer1 (w := w) fault t news hf hf2
theorem tx_ok {x : PySem.Str} (h : ∀ c ∈ x.cps.toList, c < 128) : PyData.strOk x = true := by
  unfold PyData.strOk
  rw [← Array.all_toList, List.all_eq_true]
  exact fun c hc => decide_eq_true (Nat.lt_trans (h c hc) (by decide))
theorem row_ok {r : Nat × Nat} (h : r.1 < 4) : kqdOk 7 (rowD r) = true := by
  have h1 : PyData.strOk (tx (nm r.1)) = true := tx_ok fun c hc => by
    have := nm_signs h c hc
    simp only [List.mem_cons, List.not_mem_nil, or_false] at this
    omega
  have h2 : PyData.strOk (tx (figs r.2)) = true := tx_ok fun c hc => by
    have := figs_signs r.2 c hc
    simp only [List.mem_cons, List.not_mem_nil, or_false] at this
    omega
  unfold rowD
  simp [kqdOk, h1, h2]
theorem rows_ok (rs : List (Nat × Nat)) : kqdOk 8 (rowsD (canon rs)) = true := by
  unfold rowsD
  rw [kqdOk, List.all_eq_true]
  intro d hd
  obtain ⟨r, hr, rfl⟩ := List.mem_map.mp hd
  unfold canon at hr
  obtain ⟨i, hi, e⟩ := List.mem_filterMap.mp hr
  obtain ⟨q, _, rfl⟩ := Option.map_eq_some_iff.mp e
  refine row_ok ?_
  simp only [List.mem_cons, List.not_mem_nil, or_false] at hi
  show i < 4
  omega
theorem rowsD_ok (f : Nat → List (Nat × Nat)) (n : Nat) : ∀ d ∈ (List.range n).map (fun k => rowsD (canon (f k))), kqdOk 8 d = true := by
  intro d hd
  obtain ⟨k, _, rfl⟩ := List.mem_map.mp hd
  exact rows_ok _
end Mine
end
section
open PySem PySem.W PyProof.Rows PySem.Calls PySem.Spec PyProof
set_option maxRecDepth 100000
namespace Mine
open PySem.Sem (wp)
/-- the claim's own context: its caller is the code -/
noncomputable abbrev callerCtx : PySem.Ctx := ⟨.builtin "claim.caller" {}, none, none, [], none⟩
/-- as wpAny, for the claim's own context alone -/
noncomputable def wpR {α : Type} (M : Model) (t : Sem α) (Q : α → Shared → Prop) (E : Value → Shared → Prop) (s : Shared) : Prop :=
  ∀ p, wp M callerCtx t (fun a _ s' => Q a s') (fun e _ s' => E e s') p s
section
variable {α β : Type} {M : Model} {E : Value → Shared → Prop} {s : Shared}
theorem wpR_of_any {t : Sem α} {Q : α → Shared → Prop} (h : wpAny M callerA t Q E s) : wpR M t Q E s := fun p => h _ p caller_in
theorem wpR_bind {m : Sem α} {f : α → Sem β} {Q : β → Shared → Prop} (h : wpR M m (fun a s' => wpR M (f a) Q E s') E s) : wpR M (m >>= f) Q E s := fun p => by
  rw [Sem.wp_bind']
  exact Sem.wp_mono M _ m (fun a p' s' h' => h' p') (fun _ _ _ h' => h') p s (h p)
theorem wpR_mono {t : Sem α} {Q Q' : α → Shared → Prop} {E' : Value → Shared → Prop} (h : wpR M t Q E s) (hQ : ∀ a s, Q a s → Q' a s) (hE : ∀ e s, E e s → E' e s) : wpR M t Q' E' s :=
  fun p => Sem.wp_mono M _ t (fun a _ s => hQ a s) (fun e _ s => hE e s) p s (h p)
theorem wpR_call {f : Value} {pos : List Value} {kw : List (PySem.Str × Value)} {Q : Value → Shared → Prop}
    (hc : codeC M callerA (.call f ⟨pos, kw⟩) (fun r s' => match r with | .ok (.ret v) => Q v s' | .ok _ => False | .error e => E e s') s) : wpR M (call f pos kw) Q E s :=
  fun p => by
    show wp M callerCtx (runValue (.call f ⟨pos, kw⟩)) _ _ p s
    rw [Sem.wp_runValue]
    exact hc _ p rfl (caller_in.enter _ none p (by intro x; cases x)) rfl
end
theorem callFrom_R {c : ClaimW} {tree : List Value → Sem Fin} {w : World} {s : Shared} {free : Addr → Prop} {gens : Prop} {kept : Heap → Prop} (hz : s.asleep) (hgens : s.gens = #[])
    (hspec : ∀ args, c.pre args = true → WData.layableAll args = true →
      ∀ ord : List DictEntry → List DictEntry, (∀ l, (ord l).Perm l) →
      ∃ vs s₁, layAllW c.records (classAt s.heap) w.params ord args s = some (vs, s₁) ∧
        wpR (model c.prog w) (tree vs) (fun fin s' => ∃ f, fin = .done f ∧ (c.Ends s args vs s₁ (.ok f) s' ∧ s'.os = s.os ∧ AllBare s'.gens ∧ kept s'.heap))
          (fun e s' => c.Ends s args vs s₁ (.error e) s' ∧ s'.os = s.os ∧ AllBare s'.gens ∧ kept s'.heap) s₁) :
    c.CallFrom (fun vs => ⟨tree vs, .builtin "claim.caller" {}, default, []⟩) w free gens kept s := by
  intro args hpre hlay ord hord
  refine prop_cut fun G cG => ?_
  obtain ⟨vs, s₁, hlaid, hcode⟩ := hspec args hpre hlay ord hord
  have hal := layAllW_rest _ _ _ hlaid
  obtain ⟨k, r, s'', s', hsched, hrun, hfo, hcase, hos, hkp⟩ := wp_halts_full (M := model c.prog w) (c := .builtin "claim.caller" {}) (t := tree vs) (s := s₁) (p := default)
    (R := fun r s' => c.Ends s args vs s₁ r s' ∧ s'.os = s.os ∧ kept s'.heap) (Shared.asleep_of_life hal.2.2.2 hz) (by
      refine Sem.wp_mono _ _ _ (fun fin p' s' h' => ?_) (fun e p' s' h' => ?_) _ _ (hcode default)
      · obtain ⟨f, rfl, h1, h2, h3, h4⟩ := h'
        exact ⟨⟨h1, h2, h4⟩, leftWithCleanup_false_of_bare h3⟩
      · obtain ⟨h1, h2, h3, h4⟩ := h'
        exact ⟨⟨h1, h2, h4⟩, leftWithCleanup_false_of_bare h3⟩)
  obtain ⟨eh, _, _, eo, _⟩ := Shared.forget_eq hfo
  have hcase := hcase.congr eh
  have hkp : kept s'.heap := by first | exact eh ▸ hkp | (rw [eh] at hkp; exact hkp) | (rw [← eh] at hkp; exact hkp)
  have hos : s'.os = s.os := eo.trans hos
  have hlife : s'.heap.life = s.heap.life := (runN_life _ _ _ hrun).trans hal.2.2.2
  refine cG ⟨vs, s₁, hlaid, k, _, s', hsched, ?_, (fun _ i x hx => by rw [hgens] at hx; simp at hx), hkp, by rw [hlife], Shared.rest_eq hos⟩
  rcases hcase with ⟨v, rfl, d1, d2, d3, d4, d5⟩ | ⟨e, ob, cls, rfl, d1, d2, d3, d4, d5⟩
  · exact .inl ⟨v, rfl, d1, d2, d3, fun b o y _ => d4 b o y, d5⟩
  · exact .inr ⟨e, ob, cls, rfl, d1, d2, d3, d4, fun b o y _ => d5 b o y⟩
/-- the walk that is owed, in the contexts with the claim's caller below -/
noncomputable abbrev WalkC (q : Program) (loose : List PySem.Str) (XP : (PySem.Str → Option Value) → Heap → Prop) (YP : World → Heap → Prop) (r : RowW) (d : DefRec) (kwd : List (PySem.Str × PySem.Expr)) : Prop :=
  ∀ (w : World) (s₀ s₁ : Shared) (mg mb : PySem.Str → Option Value), Ground q loose r.records XP w s₀ mg mb s₁.heap → YP w s₁.heap → ∀ (a : Addr) (o : Obj) (pm cd doc dV kV : Value), s₁.heap.get? a = some o →
    o.data = .func { docDef d.name d.params d.body d.scope pm cd doc with defaults := dV, kwdefaults := kV } → s₁.heap.CodeRec cd d.name → Dflts mg s₁.heap d.params kwd dV kV → mg d.name = some (.ref a) → s₁.gens = #[] →
    ∀ (args : List WData) (vals : List Value) (as : List Addr), r.claim.pre args = true → WData.layableAll args = true → ReadsAllW r.records (classAt s₀.heap) s₁.heap vals args as → WellAll w.params s₁.heap vals args → (∀ a ∈ as, (a == sysModules) = false) →
      codeC (model r.prog w) callerA (.call (.ref a) ⟨vals, []⟩) (GoodWG r.claim (classAt s₀.heap) (ExcName.means s₀.heap) args s₁) s₁
theorem holds_behindC {r : OpenRow} {q : Program} {loose : List PySem.Str} {XP : (PySem.Str → Option Value) → Heap → Prop} {YP : World → Heap → Prop} {d : DefRec} {kwd : List (PySem.Str × PySem.Expr)}
    (beh : Behind r.prog q loose (fun mg h => XP mg h ∧ RecFacts r.records h) YP) (hYk : ∀ w h h', YP w h → (∀ b o, h.get? b = some o → h'.get? b = some o) → YP w h') (hXk : ∀ mg h h', XP mg h → (∀ b o, h.get? b = some o → h'.get? b = some o) → XP mg h')
    (hdef : defOf q r.name = some (d, kwd)) (hp : r.prog.theDef r.name = some (d.params, d.body, d.scope)) (hk : kwWritten? d.params.kwonlyargs d.params.kw_defaults = some kwd) (hwr : (!r.writes || r.records.isEmpty) = true)
    (k1 : r.wellSaid = true) (ok : (chainsOk q && opensWell r.prog && (frees r.toRowW && r.within.isEmpty)) = true) (hb : r.prog.bare) (hw : r.toRowW.promised)
    (walk : WalkC q loose XP YP r.toRowW d kwd) : r.Holds := by
  obtain ⟨ok1, k5⟩ := Bool.and_eq_true_iff.mp ok
  obtain ⟨hch, o1⟩ := Bool.and_eq_true_iff.mp ok1
  obtain ⟨k5, k6⟩ := Bool.and_eq_true_iff.mp k5
  obtain ⟨hsame, hu, ha, hap, hm⟩ := frees_parts k5
  refine ⟨k1, hw, ⟨hb, o1, by show r.makers.map _ = []; rw [hm]; rfl⟩, hw.witness, fun w => ⟨(beh w).1, fun s' hs' => ?_⟩⟩
  obtain ⟨s₀, hf, hg0, s, hT, hz, hgens, hg, G00, y⟩ := (beh w).2 s' hs'
  have G0 : Ground q loose [] XP w s (s.heap.nsMap mainGlobals) (s.heap.nsMap builtinsNs) s.heap := ⟨G00.T, G00.B, G00.D, G00.TE, G00.TD, G00.W, G00.X.1, G00.cls, G00.has, G00.apart, G00.once, G00.K⟩
  have RF := G00.X.2
  refine ⟨s₀, hf, hg0, s, hT, fun n hn => ?_, RF.1, RF.2.1, ?_⟩
  · obtain rfl : n = r.name := by split at hn <;> simp_all
    exact pinned_of_view hg G0 hdef hp hk
  have G : Ground q loose r.records XP w s _ _ s.heap := RF.ground G0
  refine callFrom_R (c := r.toRowW.claim) hz hgens fun args hpre hlay ord hord => ?_
  obtain ⟨⟨vs, s₁⟩, hlaid⟩ := Option.isSome_iff_exists.mp (layAllW_isSome (P := w.params) (ord := ord) G.has args r.args s (pre_splitW hpre).1)
  have keeps := layAllW_keeps _ _ _ hlaid
  have hal := layAllW_rest _ _ _ hlaid
  obtain ⟨as, hrd, hin, hold⟩ := reads_layAllW hord _ _ _ hlaid hlay s₁.heap (fun _ _ e => e)
  have L : Laid r.records w s s₁ args vs as := ⟨⟨ord, hord, hlaid⟩, hrd, hin, hold, keeps, hal.1.trans hgens, hal.2.2.1⟩
  have G₁ := G.keeps hXk keeps
  obtain ⟨a, o, pm, cd, doc, dV, kV, h1, h2, h3, h4, h5⟩ := G₁.fn hdef
  have h := walk w s s₁ _ _ G₁ (hYk _ _ _ y keeps) a o pm cd doc dV kV h2 h3 h4 h5 (defOf_name hdef ▸ h1) L.gens args vs as hpre hlay L.reads L.well (L.low G.low)
  have hi := ident_freeW hu ha hap
  have hwi : r.toRowW.claim.within = [] := List.isEmpty_iff.mp k6
  refine ⟨vs, s₁, hlaid, ?_⟩
  refine wpR_bind (wpR_of_any (wpAny_nsGet G₁.T.g ?_))
  rw [h1]
  refine wpR_bind (wpR_mono (wpR_call (Q := fun v s' => GoodWG r.toRowW.claim (classAt s.heap) (ExcName.means s.heap) args s₁ (.ok (.ret v)) s') (E := fun e s' => GoodWG r.toRowW.claim (classAt s.heap) (ExcName.means s.heap) args s₁ (.error e) s') (codeC_mono h fun res s' g => ?_)) (fun v s' g => wpR_of_any (wpAny_pure ?_)) fun e s' g => ?_)
  · rcases g.1 with ⟨v, _, _, rfl, _⟩ | ⟨e, _, _, rfl, _⟩ <;> exact g
  · have z := g.laid (c := r.toRowW.claim) hsame hwi hi L
    exact ⟨_, rfl, z.1, z.2.1, z.2.2, fun q => ⟨namesKept_of hT hg _ keeps g.2.1.old, noTable hwr q⟩⟩
  · have z := g.laid (c := r.toRowW.claim) hsame hwi hi L
    exact ⟨z.1, z.2.1, z.2.2, fun q => ⟨namesKept_of hT hg _ keeps g.2.1.old, noTable hwr q⟩⟩
theorem codeC_cellsN {prog : Program} {w : World} {A : Around} {R : Result → Shared → Prop} {s : Shared} {name : PySem.Str} {params : Arguments} {body : List Stmt} {scope : Scope}
    {pm cd doc : Value} {a : Addr} {o : Obj} {args : List Value} {binds : List (PySem.Str × Value)}
    (hroom : A.depth < recursionLimit) (ho : s.heap.get? a = some o) (hdata : o.data = .func (Calls.docDef name params body scope pm cd doc)) (hlim : s.heap.NoLimit) (hcd : s.heap.CodeRec cd name)
    (hbind : bindArgs (Calls.docDef name params body scope pm cd doc) ⟨args, []⟩ = pure binds)
    (hkind : ∀ x ∈ binds, scope.names.lookup x.1 = some .local ∨ (scope.names.lookup x.1 = some .cell ∧ ((cellsFrom (s.heap.objs.size + 1) scope.names []).lookup x.1).isSome = true))
    (hnd : ((cellsFrom 0 scope.names []).map (·.1)).Nodup)
    (h : ∀ h₁ tk cells, Fr s.heap s.heap.objs.size h₁ (bindL (envOfC name scope s.heap.objs.size a cd).kindOf binds fun _ => none) → News s.heap s.heap.objs.size h₁ cells →
      CellsAre (bindC (envOfC name scope s.heap.objs.size a cd).kindOf binds fun _ => none) (cellsFrom (s.heap.objs.size + 1) scope.names []) cells →
      wpC (model prog w) (A.deeper (envOfC name scope s.heap.objs.size a cd)) (execs body (envOfC name scope s.heap.objs.size a cd))
        (fun f s' => R (.ok (.ret (match f with | .ret v => v | _ => .none))) s')
        (fun e s' => wpAny (model prog w) (A.deeper (envOfC name scope s.heap.objs.size a cd)) (leaving (envOfC name scope s.heap.objs.size a cd) e)
          (fun _ s'' => R (.error e) s'') (fun e' s'' => R (.error e') s'') s')
        { s with heap := h₁, toks := tk })
    (hco : scope.isCoroutine = false := by rfl) (hgen : scope.isGenerator = false := by rfl) (hk : scope.kind = .function := by rfl) :
    codeC (model prog w) A (.call (.ref a) ⟨args, []⟩) R s := by
  refine codeC_call_function (fd := Calls.docDef name params body scope pm cd doc) hroom ho hdata hco hgen rfl hcd ?_
  rw [hbind]
  refine wpAny_pure (wpAny_newFunctionEnv_cells hk hkind fun env he s' X => ?_)
  subst he
  refine ⟨hlim.keeps X.toInCall.keep, codeC_func ?_⟩
  obtain ⟨h₁, tk, rfl, _⟩ := X.done
  have F : Fr s.heap s.heap.objs.size h₁ (bindL (envOfC name scope s.heap.objs.size a cd).kindOf binds fun _ => none) := ⟨X.toInCall.ns, X.toInCall.keep, X.toInCall.fresh⟩
  have X' : Cl s.heap.objs.size (cellsFrom (s.heap.objs.size + 1) scope.names []) h₁ (bindC (envOfC name scope s.heap.objs.size a cd).kindOf binds fun _ => none) := ⟨X.cell, X.apart, X.above⟩
  obtain ⟨cells, N, Y⟩ := Cl.news (h₀ := s.heap) (Nat.le_refl _) fun n c hm => ⟨X'.cell n c (lookup_of_mem_nodup (cellsFrom_names scope.names 0 (s.heap.objs.size + 1) [] [] rfl ▸ hnd) hm), X'.above n c hm⟩
  exact h h₁ tk cells F N Y
end Mine
end
section
open PySem PySem.W PyProof.Rows PySem.Calls PySem.Spec PyProof.V
set_option maxRecDepth 100000
set_option maxHeartbeats 8000000
namespace Mine
theorem padC25n1 : True ∧ True := by walk1 <;> trivial
theorem fill25 (w : World) (h : Heap) : (KF w.params).In h → PySem.Challenge.rw_wf0102_01.prog = PySem.Challenge.rw_wf0102_01.prog := by
  k_fill
  intro _; rfl
theorem tailN {h₀ h : Heap} {L : Addr} {p : Addr × Obj} {news : List (Addr × Obj)} (N : News h₀ L h (p :: news)) : News h₀ L h news := fun q hq => N q (.tail _ hq)
theorem padC25n2 : True ∧ True := by walk1 <;> trivial
section
local macro_rules | `(tactic| walk_at $s:str) => if ["exec For", "ForAt", "ForAtC", "ForEnd", "call ref", "call ref nil", "subscriptTail Name Subscript ref int", "exec Assign cons ListComp", "CompSrc", "CompSrc Call nil ref", "call builtin:sorted", "CompSrcT", "CompEnd", "compareOp NotEq ref ref", "compareOp Eq ref ref", "eval ListComp", "eval ListComp Call cons"].contains s.getString then `(tactic| (refine Hold.put ?_)) else Lean.Macro.throwUnsupported
theorem lawC (w : World) (s₁ : Shared) (fa Sc : Addr) (o : Obj) (vs : List Value) (ns : List Int) (pm cd doc : Value) (mean : ExcName → Option Value) (mg mb : PySem.Str → Option Value) (R : Result → Shared → Prop)
   (ho : s₁.heap.get? fa = some o) (hd : o.data = .func (docDef (S "law") (fnP (stm 28)) (fnB (stm 28)) (fnS (stm 28)) pm cd doc)) (hcd : s₁.heap.CodeRec cd (S "law"))
   (T : Top qv (looseW qv loose) mean mg mb s₁.heap) (KX : (KF w.params).In s₁.heap) (hSc : s₁.heap.IsList Sc vs.toArray) (hi : IntsAre vs ns) (hl : vs.length ≤ 63)
   (hR : ∀ h' tk, (∀ b o, s₁.heap.get? b = some o → h'.get? b = some o) → R (.ok (.ret (.bool true))) { s₁ with heap := h', toks := tk }) :
   codeC (model PG w) callerA (.call (.ref fa) ⟨[.ref Sc], []⟩) R s₁ := by
  conv at hd in (fnB _) => whnf
  conv at hd in (fnP _) => whnf
  conv at hd in (fnS _) => whnf
  refine codeC_cellsN (by decide) ho hd (Top.nolimit T) hcd rfl (kinds_of (by kinds_ok)) (by decide) fun h₁ tk₁ cells F N0 X0 => ?_
  have K0 := below_caller s₁.heap
  k_cells X0
  clear hd hcd ho
  (try k_fold)
  (rename Obj.data _ = _ => hoc0)
  rename_i oc0
  show wpC (model PG w) (ktrTop _ _ _ (S "law") _ _ fa cd _ []) _ _ _ _
  refine wpC_cut ?_
  intro Q0 E0 cQ0 cE0
  refine wpC_execs_cons (wpC_of_any ?_)
  k_steps
  refine ⟨?_⟩
  refine pDeeds (w := w) Sc vs ns _ hi hl _ _ _ _ _ _ _ _ _ _ _ _ _ _ _ _ ⟨⟨_, K0⟩, F, KX, N0, ⟨_, _, _, T⟩, rfl⟩ hSc (by decide +kernel) (by decide +kernel) ?_
  intro Dl dits kd exD h2 tk2 hexD hDs W2
  obtain ⟨_, F2, _, N2, _, _⟩ := W2
  clear F N0
  have hok : ∀ d ∈ (numsOf ns).map deedOf, d.Ok := fun d hd => by
    obtain ⟨z, _, rfl⟩ := List.mem_map.mp hd
    exact deedOf_ok z
  have hdl : ((numsOf ns).map deedOf).length ≤ 13 := by
    rw [List.length_map]
    simp only [numsOf, List.length_append, List.length_take, List.length_cons, List.length_nil]; omega
  generalize (numsOf ns).map deedOf = ds at hDs hok hdl
  k_steps
  (rename Fr _ _ _ _ => Fx); (rename News _ _ _ _ => Nx)
  have Nc : News _ _ _ ((s₁.heap.objs.size + 1, oc0) :: (Dl, listOf dits.toArray kd) :: exD) := fun p hp => Nx p (by
    rcases List.mem_cons.mp hp with rfl | hp
    · exact .tail _ (List.mem_append_right _ (.head _))
    · rcases List.mem_cons.mp hp with rfl | hp
      · exact .head _
      · exact .tail _ (List.mem_append_left _ hp))
  have hcD : ∀ p ∈ (Dl, listOf dits.toArray kd) :: exD, p.1 ≠ s₁.heap.objs.size + 1 := by
    refine List.forall_mem_cons.mpr ⟨?_, fun p hp => ?_⟩
    · exact ne_data Nc (.tail _ (.head _)) (.head _) fun q => by rw [← q] at hoc0; cases hoc0
    · refine ne_data (oa := p.2) Nc (.tail _ (.tail _ hp)) (.head _) fun q => ?_
      obtain ⟨d, hd⟩ := hexD p hp
      obtain ⟨xs, k, e⟩ := hd.data
      rw [q, hoc0] at e
      cases e
  refine storeX_C Fx Nc (by rfl) (UpdF.head hcD) hoc0 ?_
  intro h3 oc F3 N3 hoc
  clear Fx Nx Nc hoc0
  k_steps
  refine wpC_execs_cons (wpC_of_any ?_)
  k_steps
  refine ⟨?_⟩
  refine pNew (w := w) _ _ _ _ _ _ _ _ _ _ _ _ _ _ _ _ _ ⟨⟨_, K0⟩, by assumption, KX, by assumption, ⟨_, _, _, T⟩, rfl⟩ (by decide +kernel) (by decide +kernel) ?_
  intro X0 d0 L0 hh0 th0 e0 n0 h4 tk4 off0 W4
  obtain ⟨_, F4, _, N4, _, _⟩ := W4
  k_steps
  refine ⟨?_⟩
  refine pNew (w := w) _ _ _ _ _ _ _ _ _ _ _ _ _ _ _ _ _ ⟨⟨_, K0⟩, by assumption, KX, by assumption, ⟨_, _, _, T⟩, rfl⟩ (by decide +kernel) (by decide +kernel) ?_
  intro X1 d1 L1 hh1 th1 e1 n1 h5 tk5 off1 W5
  obtain ⟨_, F5, _, N5, _, _⟩ := W5
  k_steps
  refine ⟨?_⟩
  refine pNew (w := w) _ _ _ _ _ _ _ _ _ _ _ _ _ _ _ _ _ ⟨⟨_, K0⟩, by assumption, KX, by assumption, ⟨_, _, _, T⟩, rfl⟩ (by decide +kernel) (by decide +kernel) ?_
  intro X2 d2 L2 hh2 th2 e2 n2 h6 tk6 off2 W6
  obtain ⟨_, F6, _, N6, _, _⟩ := W6
  k_steps
  refine wpC_execs_cons (wpC_of_any ?_)
  k_steps
  (rename Fr _ _ _ _ => Fx); (rename News _ _ _ _ => Nx)
  rename_i Tb _ lT _ Fo _ lF _
  have hL01 : L0 ≠ L1 := off1 (L0, _) (.tail _ (.tail _ (.head _)))
  have hL02 : L0 ≠ L2 := off2 (L0, _) (.tail _ (.tail _ (.tail _ (.tail _ (.tail _ (.head _))))))
  have hL12 : L1 ≠ L2 := off2 (L1, _) (.tail _ (.tail _ (.head _)))
  have hDl0 : Dl ≠ L0 := off0 (Dl, _) (.tail _ (.head _))
  have hDl1 : Dl ≠ L1 := off1 (Dl, _) (.tail _ (.tail _ (.tail _ (.tail _ (.head _)))))
  have hDl2 : Dl ≠ L2 := off2 (Dl, _) (.tail _ (.tail _ (.tail _ (.tail _ (.tail _ (.tail _ (.tail _ (.head _))))))))
  obtain ⟨Xs, hXs⟩ : ∃ Xs : Nat → Addr, Xs = fun i => if i = 0 then X0 else if i = 1 then X1 else X2 := ⟨_, rfl⟩
  obtain ⟨Ls, hLs⟩ : ∃ Ls : Nat → Addr, Ls = fun i => if i = 0 then L0 else if i = 1 then L1 else L2 := ⟨_, rfl⟩
  have c3 : ∀ {i : Nat}, i < 3 → i = 0 ∨ i = 1 ∨ i = 2 := fun {i} h => three h
  have hLne : ∀ i j, i < 3 → j < 3 → i ≠ j → Ls i ≠ Ls j := by
    intro i j hi hj hij
    subst hLs
    rcases c3 hi with rfl | rfl | rfl <;> rcases c3 hj with rfl | rfl | rfl <;> first | exact absurd rfl hij | assumption | exact Ne.symm hL01 | exact Ne.symm hL02 | exact Ne.symm hL12
  have hDlL : ∀ i, i < 3 → Dl ≠ Ls i := by
    intro i hi; subst hLs
    rcases c3 hi with rfl | rfl | rfl <;> assumption
  have hTbL : ∀ i, i < 3 → Tb ≠ Ls i := by
    intro i hi; subst hLs
    rcases c3 hi with rfl | rfl | rfl
    · exact Ne.symm (Nat.ne_of_lt lT.2.2.2.2.2.2.2.2.1)
    · exact Ne.symm (Nat.ne_of_lt lT.2.2.2.2.2.1)
    · exact Ne.symm (Nat.ne_of_lt lT.2.2.1)
  have hFoL : ∀ i, i < 3 → Fo ≠ Ls i := by
    intro i hi; subst hLs
    rcases c3 hi with rfl | rfl | rfl
    · exact Ne.symm (Nat.ne_of_lt lF.2.2.2.2.2.2.2.2.2.1)
    · exact Ne.symm (Nat.ne_of_lt lF.2.2.2.2.2.2.1)
    · exact Ne.symm (Nat.ne_of_lt lF.2.2.2.1)
  have hTF : Tb < Fo := lF.1
  have hDF : Dl < Fo := lF.2.2.2.2.2.2.2.2.2.2.2.1
  have hgetX : ∀ i, i < 3 → [Value.ref X0, .ref X1, .ref X2][i]? = some (.ref (Xs i)) := by
    intro i hi; subst hXs
    rcases c3 hi with rfl | rfl | rfl <;> rfl
  obtain ⟨tb0, htb0⟩ : ∃ tb0 : Nat → Tab, tb0 = fun i => if i = 0 then ⟨X0, d0, L0, hh0, th0, e0, [], n0⟩ else if i = 1 then ⟨X1, d1, L1, hh1, th1, e1, [], n1⟩ else ⟨X2, d2, L2, hh2, th2, e2, [], n2⟩ := ⟨_, rfl⟩
  have htb0X : ∀ i, i < 3 → (tb0 i).X = Xs i ∧ (tb0 i).L = Ls i ∧ (tb0 i).its = [] := by
    intro i hi; subst hXs; subst hLs; subst htb0
    rcases c3 hi with rfl | rfl | rfl <;> exact ⟨rfl, rfl, rfl⟩
  have hA0 : ∀ p ∈ ledg [(Fo, listOf [].toArray 0), (Tb, listOf #[.ref X0, .ref X1, .ref X2] 0)] tb0 [] ((s₁.heap.objs.size + 1, oc) :: (Dl, listOf dits.toArray kd) :: exD), p ∈ (Fo, listOf #[] 0) :: (Tb, listOf #[.ref X0, .ref X1, .ref X2] 0) :: tabL X2 d2 L2 hh2 th2 e2 #[] n2 (tabL X1 d1 L1 hh1 th1 e1 #[] n1 (tabL X0 d0 L0 hh0 th0 e0 #[] n0 ((s₁.heap.objs.size + 1, oc) :: (Dl, listOf dits.toArray kd) :: exD))) := by
    refine List.forall_mem_cons.mpr ⟨.head _, List.forall_mem_cons.mpr ⟨.tail _ (.head _), fun p hp => .tail _ (.tail _ ?_)⟩⟩
    have hp' : p ∈ tabsP tb0 allT ++ ((s₁.heap.objs.size + 1, oc) :: (Dl, listOf dits.toArray kd) :: exD) := hp
    rcases List.mem_append.mp hp' with g | g
    · obtain ⟨i, hi, _, hp⟩ := mem_tabsP.mp g
      subst htb0
      have w1 : ∀ {x1 x2 x3 : Addr × Obj} {l : List (Addr × Obj)}, p ∈ [x1, x2, x3] → p ∈ x1 :: x2 :: x3 :: l := fun {x1 x2 x3 l} h => by
        simp only [List.mem_cons, List.not_mem_nil, or_false] at h ⊢
        rcases h with h | h | h <;> simp [h]
      rcases c3 hi with rfl | rfl | rfl
      · exact .tail _ (.tail _ (.tail _ (.tail _ (.tail _ (.tail _ (w1 hp))))))
      · exact .tail _ (.tail _ (.tail _ (w1 hp)))
      · exact w1 hp
    · exact .tail _ (.tail _ (.tail _ (.tail _ (.tail _ (.tail _ (.tail _ (.tail _ (.tail _ g))))))))
  have NA : News _ _ _ (ledg [(Fo, listOf [].toArray 0), (Tb, listOf #[.ref X0, .ref X1, .ref X2] 0)] tb0 [] ((s₁.heap.objs.size + 1, oc) :: (Dl, listOf dits.toArray kd) :: exD)) := fun p hp => Nx p (hA0 p hp)
  clear hA0
  refine wpC_execs_cons ?_
  refine for_listC Fx ?_
  k_steps
  refine ⟨?_⟩
  (rename Fr _ _ _ _ => Fy)
  refine ⟨Dl, dits.toArray, kd, _, _, fun j m' n' => (∃ a b c, m' = fr3 (S "ported") (S "named") (S "deed") a b c _) ∧ ∃ tb fv kf ex, n' = ledg [(Fo, listOf fv.toArray kf), (Tb, listOf #[.ref X0, .ref X1, .ref X2] 0)] tb ex ((s₁.heap.objs.size + 1, oc) :: (Dl, listOf dits.toArray kd) :: exD) ∧ (∀ i, i < 3 → (tb i).X = Xs i ∧ (tb i).L = Ls i) ∧ (∀ q ∈ ex, q.2.cls = .type "tuple") ∧
    (∀ i, i < 3 → Rows (ex ++ (s₁.heap.objs.size + 1, oc) :: (Dl, listOf dits.toArray kd) :: exD) (tb i).its (runT (fun _ => []) (ds.take j) i)) ∧ DatAll [] fv (foundD (ds.take j)), rfl, rfl, Fy, NA, ⟨⟨_, _, _, fr3_self _ _ _ _⟩, tb0, [], 0, [], rfl, fun i hi => ⟨(htb0X i hi).1, (htb0X i hi).2.1⟩, fun q hq => (nomatch hq), fun i hi => by rw [(htb0X i hi).2.2]; exact .nil, .nil⟩, ?hl, ?turn, ?done⟩
  case hl => rintro j m' n' ⟨_, tb, fv, kf, ex, rfl, _⟩; exact List.mem_append_right _ (List.mem_append_right _ (List.mem_append_right _ (.tail _ (.head _))))
  case turn =>
    intro j v m₁ news₁ h tk I oI hv hJ hoI F₅ N₅ off
    refine wpAny_cut ?_
    intro Q4 E4 cQ4 cE4
    obtain ⟨⟨a, b, c, rfl⟩, tb, fv, kf, ex, rfl, hXL, hex, hRows, hF⟩ := hJ
    obtain ⟨Td, oT, d, rfl, hdj, hTm, hdo⟩ := hDs.at (by simpa using hv)
    have hdk := hok d (List.mem_of_getElem? hdj)
    have hgood : ∀ i, Good (runT (fun _ => []) (ds.take j) i) := runT_good (fun d hd => hok d (List.mem_of_mem_take hd)) fun _ => Good.nil
    have N₆ := news_cons (N₅ (Td, oT) (.tail _ (List.mem_append_right _ (List.mem_append_right _ (List.mem_append_right _ (.tail _ (.tail _ hTm))))))) (news_cons (N₅ (Tb, _) (.tail _ (.tail _ (.head _)))) N₅)
    clear Fy NA Nx
    cases d with
    | tell ta tt =>
      obtain ⟨t1, t2, rfl⟩ := hdo
      k_steps
      refine cQ4.use ?_
      refine wpC_cut ?_
      intro Q5 E5 cQ5 cE5
      refine wpC_execs_cons (wpC_of_any ?_)
      k_steps
      refine ⟨?_⟩
      (rename News _ _ _ _ => Nz)
      refine item_listL (l := [.ref X0, .ref X1, .ref X2]) (x := .ref (tb ta).X) (News.isList Nz (.tail _ (.head _))) (by omega) (by have := hdk.1; omega) (by rw [Int.toNat_natCast, (hXL ta hdk.1).1]; exact hgetX ta hdk.1) ?_ (by with_unfolding_all rfl) (by intro _; with_unfolding_all rfl)
      k_steps
      refine ⟨?_⟩
      refine item_listL (l := [.ref X0, .ref X1, .ref X2]) (x := .ref (tb tt).X) (News.isList (by assumption) (.tail _ (.head _))) (by omega) (by have := hdk.2.1; omega) (by rw [Int.toNat_natCast, (hXL tt hdk.2.1).1]; exact hgetX tt hdk.2.1) ?_ (by with_unfolding_all rfl) (by intro _; with_unfolding_all rfl)
      k_steps
      refine ⟨?_⟩
      (rename News _ _ _ _ => Nz)
      have hLL : ∀ i, i < 3 → i ≠ tt → (tb i).L ≠ (tb tt).L := fun i hi hne => by rw [(hXL i hi).2, (hXL tt hdk.2.1).2]; exact hLne i tt hi hdk.2.1 hne
      have hIL : I ≠ (tb tt).L := Ne.symm (off ((tb tt).L, _) (List.mem_append_right _ (List.mem_append_left _ (mem_tabsP.mpr ⟨tt, hdk.2.1, rfl, .tail _ (.tail _ (.head _))⟩))))
      refine pTell (w := w) (tb ta).X (tb ta).d (tb ta).L (tb tt).X (tb tt).d (tb tt).L (tb ta).hh (tb tt).hh (tb ta).th (tb tt).th (tb ta).e (tb tt).e (tb ta).its (tb tt).its (tb ta).n (tb tt).n _ _
        (top2 ta tt ((I, oI) :: [(Fo, listOf fv.toArray kf), (Tb, listOf #[.ref X0, .ref X1, .ref X2] 0)]) tb ex ((s₁.heap.objs.size + 1, oc) :: (Dl, listOf dits.toArray kd) :: exD)) (hgood ta) (hgood tt)
        ((hRows ta hdk.1).mono fun p hp => List.mem_append_right _ (List.mem_append_right _ hp)) ((hRows tt hdk.2.1).mono fun p hp => List.mem_append_right _ (List.mem_append_right _ hp))
        (off_tabs (fun p hp => Nz p (.tail _ (.tail _ hp))) hdk.2.1 (by simp) hIL (by rw [(hXL tt hdk.2.1).2]; exact hFoL tt hdk.2.1) (by rw [(hXL tt hdk.2.1).2]; exact hTbL tt hdk.2.1) hLL hex hoc (by rw [(hXL tt hdk.2.1).2]; exact hDlL tt hdk.2.1) hexD) (hLL ta hdk.1 hdk.2.2)
        _ _ _ _ _ _ _ _ _ _ _ _ _ _ _ _ ⟨⟨_, K0⟩, by assumption, KX, fun p hp => Nz p (.tail _ (.tail _ (to_top2 (pre := (I, oI) :: [(Fo, listOf fv.toArray kf), (Tb, listOf #[.ref X0, .ref X1, .ref X2] 0)]) hdk.1 hdk.2.1 p hp))), ⟨_, _, _, T⟩, rfl⟩ (by decide +kernel) (by decide +kernel) ?_
      rintro ex2 n8 its8 h8 tk8 hex2 R8 ⟨_, F8, _, N8, _, _⟩
      clear Nz N₅ N₆ F₅
      k_steps
      refine wpC_of_any ?_
      k_steps
      refine cQ5.use ?_
      k_steps
      refine ⟨?_⟩
      (rename Fr _ _ _ _ => Fw); (rename News _ _ _ _ => Nw)
      refine ForEnd.next Fw (fun p hp => Nw p (of_top2 (pre := (I, oI) :: [(Fo, listOf fv.toArray kf), (Tb, listOf #[.ref X0, .ref X1, .ref X2] 0)]) hdk.2.2 p hp)) (off_next off fun p hp => ?_) ⟨⟨_, _, _, fr3_setZ (by decide) (by decide)⟩, setT tb tt its8 n8, fv, kf, ex2 ++ ex, rfl, setT_same hXL, fun q hq => ?_, fun i hi => ?_, ?_⟩
      · exact ne_objs (oa := p.2) (ob := oI) Nw (.tail _ (.tail _ (.tail _ (.tail _ (.tail _ (.tail _ (List.mem_append_left _ hp))))))) (.tail _ (.tail _ (.tail _ (.tail _ (.tail _ (.tail _ (List.mem_append_right _ (.head _)))))))) (by rw [hex2 p hp, hoI]; exact cls_ne (by decide))
      · rcases List.mem_append.mp hq with g | g
        · exact hex2 q g
        · exact hex q g
      · rw [runT_next hdj]
        show Rows _ _ (if i = tt then _ else _)
        by_cases e : i = tt
        · subst e
          rw [if_pos rfl, show setT tb i its8 n8 i = { tb i with its := its8, n := n8 } from if_pos rfl]
          exact rows_keep (pre := (I, oI) :: [(Fo, listOf fv.toArray kf), (Tb, listOf #[.ref X0, .ref X1, .ref X2] 0)]) (List.forall_mem_cons.mpr ⟨by rw [hoI]; exact cls_ne (by decide), List.forall_mem_cons.mpr ⟨cls_ne (by decide), List.forall_mem_cons.mpr ⟨cls_ne (by decide), fun p hp => (nomatch hp)⟩⟩⟩) R8
        · rw [if_neg e, show setT tb tt its8 n8 i = tb i from if_neg e]
          exact (hRows i hi).mono fun p hp => by
            rw [List.append_assoc]
            exact List.mem_append_right _ hp
      · rw [foundD_tell hdj]; exact hF
    | hear c' i way fault port kind =>
      obtain ⟨t1, t2, t3, t4, t5, t6, rfl⟩ := hdo
      k_steps
      refine cQ4.use ?_
      refine wpC_cut ?_
      intro Q5 E5 cQ5 cE5
      refine wpC_execs_cons ?_
      refine wpC_If (wpC_of_any ?_)
      k_steps
      refine wpC_execs_cons (wpC_of_any ?_)
      k_steps
      refine ⟨?_⟩
      refine pRep (w := w) Td c' i way fault port kind t1 t2 t3 t4 t5 t6 _ hdk.2.2.2.1 hdk.2.2.2.2.2 hdk.2.1 hdk.2.2.1 hdk.2.2.2.2.1 _ _ _ _ _ _ _ _ _ _ _ _ _ _ _ _ ⟨⟨_, K0⟩, by assumption, KX, by assumption, ⟨_, _, _, T⟩, rfl⟩ (by decide +kernel) (by decide +kernel) ?_
      rintro T2 ta tp nd pd h7 tk7 n7 hnd hpd ⟨_, F7, _, N7, _, _⟩
      rw [nm_of hdk.2.1] at hnd
      subst hnd
      subst hpd
      clear N₅ N₆ F₅
      k_steps
      refine wpC_execs_cons ?_
      refine wpC_Expr ?_
      refine wpC_methodCall ?_
      k_steps
      refine wpC_callWith_builtin1 (id := "list.append") (first := [.ref Fo]) ?_
      rw [if_neg (by exact Bool.false_ne_true)]
      refine wpC_Call_Name ?_
      k_steps
      show wpC _ _ _ _ _ _
      refine wpC_callWith_K (K := KF w.params) (by k_is) ?_
      k_steps
      refine ⟨?_⟩
      (rename News _ _ _ _ => Nz)
      refine item_listL (l := [.ref X0, .ref X1, .ref X2]) (x := .ref (tb c').X) (News.isList Nz (.tail _ (.tail _ (.head _)))) (by omega) (by have := hdk.1; omega) (by rw [Int.toNat_natCast, (hXL c' hdk.1).1]; exact hgetX c' hdk.1) ?_ (by with_unfolding_all rfl) (by intro _; with_unfolding_all rfl)
      k_steps
      show wpC _ _ _ _ _ _
      (rename Fr _ _ _ _ => Fw); (rename News _ _ _ _ => Nw)
      have NT : News _ _ _ ((I, oI) :: ledg [(Fo, listOf fv.toArray kf), (Tb, listOf #[.ref X0, .ref X1, .ref X2] 0)] tb ((T2, _) :: ex) ((s₁.heap.objs.size + 1, oc) :: (Dl, listOf dits.toArray kd) :: exD)) := fun p hp => Nw p (by
        rcases List.mem_cons.mp hp with rfl | hp
        · exact .tail _ (.tail _ (.tail _ (.head _)))
        · rcases ledg_cons p hp with rfl | hp
          · exact .head _
          · exact .tail _ (.tail _ (.tail _ (.tail _ hp))))
      clear Nw
      have hexT : ∀ q ∈ (T2, ({ cls := .type "tuple", data := .seq #[.str (tx (namedOf fault (spell (nm i) way))) ta, .str (tx (portedOf kind port fault)) tp] n7 } : Obj)) :: ex, q.2.cls = .type "tuple" := List.forall_mem_cons.mpr ⟨rfl, hex⟩
      have hLL : ∀ k, k < 3 → k ≠ c' → (tb k).L ≠ (tb c').L := fun k hk hne => by rw [(hXL k hk).2, (hXL c' hdk.1).2]; exact hLne k c' hk hdk.1 hne
      have hIL : I ≠ (tb c').L := Ne.symm (off ((tb c').L, _) (List.mem_append_right _ (List.mem_append_left _ (mem_tabsP.mpr ⟨c', hdk.1, rfl, .tail _ (.tail _ (.head _))⟩))))
      refine pHearF (w := w) (tb c').X (tb c').d (tb c').L (tb c').hh (tb c').th (tb c').e (tb c').its (tb c').n _ i way fault port kind ta tp
        (top1 c' ((I, oI) :: [(Fo, listOf fv.toArray kf), (Tb, listOf #[.ref X0, .ref X1, .ref X2] 0)]) tb ((T2, _) :: ex) ((s₁.heap.objs.size + 1, oc) :: (Dl, listOf dits.toArray kd) :: exD)) hdk.2.1 hdk.2.2.1 hdk.2.2.2.1 hdk.2.2.2.2.1 hdk.2.2.2.2.2 (hgood c')
        ((hRows c' hdk.1).mono fun p hp => List.mem_append_right _ (List.mem_append_right _ (.tail _ hp)))
        (off_tabs NT hdk.1 (by simp) hIL (by rw [(hXL c' hdk.1).2]; exact hFoL c' hdk.1) (by rw [(hXL c' hdk.1).2]; exact hTbL c' hdk.1) hLL hexT hoc (by rw [(hXL c' hdk.1).2]; exact hDlL c' hdk.1) hexD)
        _ _ _ _ _ _ _ _ _ _ _ _ _ _ _ ⟨⟨_, K0⟩, Fw, KX, fun p hp => NT p (to_top1 (pre := (I, oI) :: [(Fo, listOf fv.toArray kf), (Tb, listOf #[.ref X0, .ref X1, .ref X2] 0)]) hdk.1 p hp), ⟨_, _, _, T⟩, rfl⟩ KX ⟨_, _, _, T, T⟩ (by decide +kernel) (by decide +kernel) ?_
      rintro ex2 n8 its8 t8 h8 tk8 hex2 R8 ⟨_, F8, _, N8, _, _⟩
      clear NT Fw
      have N9 : News _ _ _ ((I, oI) :: ledg [(Fo, listOf fv.toArray kf), (Tb, listOf #[.ref X0, .ref X1, .ref X2] 0)] (setT tb c' its8 n8) (ex2 ++ (T2, _) :: ex) ((s₁.heap.objs.size + 1, oc) :: (Dl, listOf dits.toArray kd) :: exD)) := fun p hp => N8 p (of_top1 (pre := (I, oI) :: [(Fo, listOf fv.toArray kf), (Tb, listOf #[.ref X0, .ref X1, .ref X2] 0)]) p hp)
      have hexN : ∀ q ∈ ex2 ++ (T2, ({ cls := .type "tuple", data := .seq #[.str (tx (namedOf fault (spell (nm i) way))) ta, .str (tx (portedOf kind port fault)) tp] n7 } : Obj)) :: ex, q.2.cls = .type "tuple" := fun q hq => by
        rcases List.mem_append.mp hq with g | g
        · exact hex2 q g
        · exact hexT q g
      have hXL' := setT_same (b := c') (its := its8) (n := n8) hXL
      have hfl : fv.length ≤ 99 := by
        rw [hF.length]
        refine Nat.le_trans (List.length_filterMap_le _ _) ?_
        rw [List.length_take]; omega
      have hIF : I ≠ Fo := Ne.symm (off (Fo, _) (.head _))
      have hexI : ∀ q ∈ ex2 ++ [(T2, ({ cls := .type "tuple", data := .seq #[.str (tx (namedOf fault (spell (nm i) way))) ta, .str (tx (portedOf kind port fault)) tp] n7 } : Obj))], q.1 ≠ I := fun q hq => by
        refine ne_objs (oa := q.2) (ob := oI) N9 (.tail _ (List.mem_append_right _ (List.mem_append_right _ (List.mem_append_left _ ?_)))) (.head _) ?_
        · rcases List.mem_append.mp hq with g | g
          · exact List.mem_append_left _ g
          · obtain rfl := List.mem_singleton.mp g
            exact List.mem_append_right _ (.head _)
        · rw [hexN q (by
            rcases List.mem_append.mp hq with g | g
            · exact List.mem_append_left _ g
            · obtain rfl := List.mem_singleton.mp g
              exact List.mem_append_right _ (.head _)), hoI]
          exact cls_ne (by decide)
      clear N8
      refine appendAny [(I, oI)] F8 (by exact N9) (List.forall_mem_cons.mpr ⟨hIF, fun p hp => (nomatch hp)⟩) (off_fo N9 (Nat.ne_of_lt hTF) (fun k hk => by rw [(hXL' k hk).2]; exact Ne.symm (hFoL k hk)) hexN hoc (Nat.ne_of_lt hDF) hexD) hfl ?_
      intro h10 k10 F10 N10
      clear N9 F8
      refine wpC_of_any ?_
      k_steps
      refine wpC_of_any ?_
      k_steps
      refine cQ5.use ?_
      k_steps
      refine ⟨?_⟩
      (rename Fr _ _ _ _ => Fw)
      have e3 : ex2 ++ (T2, ({ cls := .type "tuple", data := .seq #[.str (tx (namedOf fault (spell (nm i) way))) ta, .str (tx (portedOf kind port fault)) tp] n7 } : Obj)) :: ex = (ex2 ++ [(T2, ({ cls := .type "tuple", data := .seq #[.str (tx (namedOf fault (spell (nm i) way))) ta, .str (tx (portedOf kind port fault)) tp] n7 } : Obj))]) ++ ex := by simp
      refine ForEnd.next Fw N10 ?_ ⟨⟨_, _, _, fr3_set⟩, setT tb c' its8 n8, fv ++ [ansV fault t8], k10, _, rfl, hXL', hexN, fun k hk => ?_, ?_⟩
      · rw [e3]
        exact List.forall_mem_cons.mpr ⟨Ne.symm hIF, fun p hp => off_next (pre := [(Fo, listOf fv.toArray kf), (Tb, listOf #[.ref X0, .ref X1, .ref X2] 0)]) (b := c') (its := its8) (n := n8) off hexI p (.tail _ hp)⟩
      · rw [runT_next hdj]
        show Rows _ _ (if k = c' then (if fault < 16 then learn _ i port else _) else _)
        by_cases e : k = c'
        · subst e
          rw [if_pos rfl, show setT tb k its8 n8 k = { tb k with its := its8, n := n8 } from if_pos rfl]
          exact rows_keep (pre := (I, oI) :: [(Fo, listOf fv.toArray kf), (Tb, listOf #[.ref X0, .ref X1, .ref X2] 0)]) (List.forall_mem_cons.mpr ⟨by rw [hoI]; exact cls_ne (by decide), List.forall_mem_cons.mpr ⟨cls_ne (by decide), List.forall_mem_cons.mpr ⟨cls_ne (by decide), fun p hp => (nomatch hp)⟩⟩⟩) R8
        · rw [if_neg e, show setT tb c' its8 n8 k = tb k from if_neg e]
          exact (hRows k hk).mono fun p hp => by
            rw [e3, List.append_assoc]
            exact List.mem_append_right _ hp
      · rw [foundD_hear hdj]
        exact hF.append (.one (ans_in fault t8))
  case done =>
    intro m₁ news₁ h tk hJ F₅ N₅
    refine wpC_cut ?_
    intro Q5 E5 cQ5 cE5
    obtain ⟨⟨a, b, c, rfl⟩, tb, fv, kf, ex, rfl, hXL, hex, hRows, hF⟩ := hJ
    have hsz : dits.toArray.size = ds.length := by rw [List.size_toArray, hDs.len]
    rw [hsz, List.take_length] at hF hRows
    clear Fy NA Nx
    obtain ⟨LG, hLG⟩ : ∃ LG, LG = ledg [(Fo, listOf fv.toArray kf), (Tb, listOf #[.ref X0, .ref X1, .ref X2] 0)] tb ex ((s₁.heap.objs.size + 1, oc) :: (Dl, listOf dits.toArray kd) :: exD) := ⟨_, rfl⟩
    have mFo : (Fo, listOf fv.toArray kf) ∈ LG := by rw [hLG]; exact .head _
    have mTb : (Tb, listOf #[.ref X0, .ref X1, .ref X2] 0) ∈ LG := by rw [hLG]; exact .tail _ (.head _)
    have mLc : (s₁.heap.objs.size + 1, oc) ∈ LG := by rw [hLG]; exact List.mem_append_right _ (List.mem_append_right _ (List.mem_append_right _ (.head _)))
    have mDl : (Dl, listOf dits.toArray kd) ∈ LG := by rw [hLG]; exact List.mem_append_right _ (List.mem_append_right _ (List.mem_append_right _ (.tail _ (.head _))))
    have mExD : ∀ p ∈ exD, p ∈ LG := by rw [hLG]; exact fun p hp => List.mem_append_right _ (List.mem_append_right _ (List.mem_append_right _ (.tail _ (.tail _ hp))))
    have mEx : ∀ p ∈ ex ++ (s₁.heap.objs.size + 1, oc) :: (Dl, listOf dits.toArray kd) :: exD, p ∈ LG := by rw [hLG]; exact fun p hp => List.mem_append_right _ (List.mem_append_right _ hp)
    have mTab : ∀ i, i < 3 → ∀ p ∈ tabO (tb i), p ∈ LG := by rw [hLG]; exact fun i hi p hp => List.mem_append_right _ (List.mem_append_left _ (mem_tabsP.mpr ⟨i, hi, rfl, hp⟩))
    rw [← hLG] at N₅
    clear hLG
    have N₆ : News _ _ _ ((s₁.heap.objs.size + 1, oc) :: (Tb, listOf #[.ref X0, .ref X1, .ref X2] 0) :: (Fo, listOf fv.toArray kf) :: (Dl, listOf dits.toArray kd) :: LG) := news_cons (N₅ _ mLc) (news_cons (N₅ _ mTb) (news_cons (N₅ _ mFo) (news_cons (N₅ _ mDl) N₅)))
    clear N₅
    refine wpC_of_any ?_
    k_steps
    refine ⟨?_⟩
    (rename Fr _ _ _ _ => Fy)
    refine LCt.ListComp_T (F₀ := Fy) (by with_unfolding_all rfl) (by decide) (by rfl) (by decide) (by rfl) ?_
    k_steps
    refine ⟨?_⟩
    (rename Fr _ _ _ _ => Fy); (rename News _ _ _ _ => Ny)
    refine LCt.CompSrcT.ledger (its := dits.toArray) (k := kd) rfl Fy Ny (.tail _ (.tail _ (.tail _ (.head _)))) (by rw [List.size_toArray, sizeLine_eq, hDs.len]; omega) ?_
    intro g4
    refine restT_inv (n := ds.length) (fun j ys n' => n' = (s₁.heap.objs.size + 1, oc) :: (Tb, listOf #[.ref X0, .ref X1, .ref X2] 0) :: (Fo, listOf fv.toArray kf) :: (Dl, listOf dits.toArray kd) :: LG ∧ DatAll [] ys (foundD (ds.take j))) ?turn1 ?fin1 dits.toArray.size 0 [] _ (by rw [hsz]; rfl) ⟨rfl, .nil⟩
    case turn1 =>
      intro j ys nw v I oI C oC D m₂ h tk E' hj hJ hv hC hx F' N' off ne
      refine wpAny_cut ?_
      intro Q6 E6 cQ6 cE6
      obtain ⟨rfl, hS⟩ := hJ
      obtain ⟨Td, oT, d, rfl, hdj, hTm, hdo⟩ := hDs.at (by simpa using hv)
      have hdk := hok d (List.mem_of_getElem? hdj)
      have N7 := news_cons (N' (Td, oT) (.tail _ (.tail _ (.tail _ (.tail _ (.tail _ (.tail _ (.tail _ (mExD _ hTm))))))))) N'
      clear Ny Fy N'
      cases d with
      | tell ta tt =>
        obtain ⟨t1, t2, rfl⟩ := hdo
        k_steps
        refine cQ6.use ?_
        k_steps
        refine ⟨?_⟩
        (rename Fr _ _ _ _ => Fw); (rename News _ _ _ _ => Nw)
        refine ⟨_, _, _, rfl, Fw, fun p hp => Nw p (.tail _ hp), off, .inr ⟨_, .tail _ (.tail _ (.tail _ (.head _))), rfl, _, rfl⟩, rfl, ?_⟩
        rw [foundD_tell hdj]
        exact hS
      | hear c' i way fault port kind =>
        obtain ⟨t1, t2, t3, t4, t5, t6, rfl⟩ := hdo
        k_steps
        refine cQ6.use ?_
        dsimp only
        refine wpAny_cut ?_
        intro Q7 E7 cQ7 cE7
        k_steps
        refine ⟨?_⟩
        refine pAnswer (w := w) fault t4 _ hdk.2.2.2.1 _ _ _ _ _ _ _ _ _ _ _ _ _ _ _ _ ⟨⟨_, K0⟩, by assumption, KX, by assumption, ⟨_, _, _, T⟩, rfl⟩ (by decide +kernel) (by decide +kernel) ?_
        rintro t8 h8 tk8 ⟨_, F8, _, N8, _, _⟩
        clear N7
        k_steps
        refine cQ7.use ?_
        k_steps
        refine ⟨?_⟩
        refine ⟨_, _, _, rfl, F8, fun p hp => N8 p (.tail _ hp), off, .inr ⟨_, .tail _ (.tail _ (.tail _ (.head _))), rfl, _, rfl⟩, rfl, ?_⟩
        rw [foundD_hear hdj]
        exact hS.append (.one (ans_in fault t8))
    case fin1 =>
      rintro ys _ ⟨rfl, hS⟩ D h tk F' N' off
      rw [List.take_length] at hS
      clear Ny Fy
      k_steps
      refine ⟨?_⟩
      refine kqd_ne (s := ⟨_, _, _, _, _⟩) N' (.tail _ (.tail _ (.tail _ (.head _)))) rfl rfl hF (fun p hp => (nomatch hp)) (.head _) rfl rfl hS (fun p hp => (nomatch hp)) (found_ok ds) (found_ok ds) (show callerA.units + 3 + 64 < cLine by decide +kernel) ?_
      simp only [eq_self, decide_true, Bool.not_true]
      have N8 := tailN N'
      clear N' hS hF
      k_steps
      refine ⟨?_⟩
      (rename Fr _ _ _ _ => Fy)
      refine LCg.Assign_ListComp_U (F₀ := Fy) (by rfl) (by with_unfolding_all rfl) (by with_unfolding_all rfl) (by decide) (by rfl) (by decide) (by rfl) (by rfl) (by rfl) ?_
      k_steps
      refine ⟨?_⟩
      (rename Fr _ _ _ _ => Fy); (rename News _ _ _ _ => Ny)
      obtain ⟨LH, hLH⟩ : ∃ LH, LH = (s₁.heap.objs.size + 1, oc) :: (Tb, listOf #[.ref X0, .ref X1, .ref X2] 0) :: (Fo, listOf fv.toArray kf) :: (Dl, listOf dits.toArray kd) :: LG := ⟨_, rfl⟩
      have nLc : (s₁.heap.objs.size + 1, oc) ∈ LH := by rw [hLH]; exact .head _
      have nTb : (Tb, listOf #[.ref X0, .ref X1, .ref X2] 0) ∈ LH := by rw [hLH]; exact .tail _ (.head _)
      have nDl : (Dl, listOf dits.toArray kd) ∈ LH := by rw [hLH]; exact .tail _ (.tail _ (.tail _ (.head _)))
      have nExD : ∀ p ∈ exD, p ∈ LH := by rw [hLH]; exact fun p hp => .tail _ (.tail _ (.tail _ (.tail _ (mExD p hp))))
      have nEx : ∀ p ∈ ex ++ (s₁.heap.objs.size + 1, oc) :: (Dl, listOf dits.toArray kd) :: exD, p ∈ LH := by rw [hLH]; exact fun p hp => .tail _ (.tail _ (.tail _ (.tail _ (mEx p hp))))
      have nTab : ∀ i, i < 3 → ∀ p ∈ tabO (tb i), p ∈ LH := by rw [hLH]; exact fun i hi p hp => .tail _ (.tail _ (.tail _ (.tail _ (mTab i hi p hp))))
      rw [← hLH] at Ny
      clear hLH
      have hgood : ∀ i, Good (runT (fun _ => []) ds i) := runT_good hok fun _ => Good.nil
      refine LCg.CompSrc.ledger (its := #[.ref X0, .ref X1, .ref X2]) (k := 0) rfl Fy Ny nTb (show 3 ≤ sizeLine by rw [sizeLine_eq]; decide) ?_
      intro g5
      refine rest_inv (n := 3) (fun i ys nw => ∃ ex2, nw = ex2 ++ LH ∧ DatAll (ex2 ++ LH) ys ((List.range i).map fun k => rowsD (canon (runT (fun _ => []) ds k)))) ?turn2 ?fin2 3 0 [] _ rfl ⟨[], rfl, .nil⟩
      case turn2 =>
        intro i ys nw v I oI C oC D m₂ h tk E' hi hJ hv hC hx F' N' off ne
        refine wpAny_cut ?_
        intro Q6 E6 cQ6 cE6
        obtain ⟨ex2, rfl, hS⟩ := hJ
        obtain rfl : Value.ref (Xs i) = v := by
          have := hgetX i hi
          simpa [this] using hv
        have N7 : News _ _ _ (tabN (tb i) ((I, oI) :: (C, oC) :: (D, _) :: (ex2 ++ LH))) := fun p hp => by
          rcases mem_tabN.mp hp with g | g
          · exact N' p (.tail _ (.tail _ (.tail _ (List.mem_append_right _ (nTab i hi p g)))))
          · exact N' p g
        rw [← (hXL i hi).1] at hx
        clear Ny Fy N'
        k_steps
        refine ⟨?_⟩
        have hlen4 : (tb i).its.length ≤ 4 := by rw [(hRows i hi).len]; exact (hgood i).len
        refine pItems (w := w) (tb i).X (tb i).d (tb i).L (tb i).hh (tb i).th (tb i).e (tb i).its (tb i).n _ hlen4 _ _ _ _ _ _ _ _ _ _ _ _ _ _ _ _ ⟨⟨_, K0⟩, by assumption, KX, N7, ⟨_, _, _, T⟩, rfl⟩ (by decide +kernel) (by decide +kernel) ?_
        rintro D5 h5 tk5 off5 ⟨_, F5, _, N5, _, _⟩
        clear N7
        k_steps
        refine ⟨?_⟩
        (rename Fr _ _ _ _ => Fw)
        refine sortedRows Fw N5 (News.isList N5 (.head _)) (hRows i hi) (fun p hp => .tail _ (mem_tabN.mpr (.inr (.tail _ (.tail _ (.tail _ (List.mem_append_right _ (nEx p hp)))))))) (hgood i) ?_
        intro D6 vs6 n6 h6 R6 F6 N6 l6
        clear N5 Fw
        k_steps
        refine cQ6.use ?_
        k_steps
        refine ⟨?_⟩
        (rename Fr _ _ _ _ => Fw); (rename News _ _ _ _ => Nw)
        have lw : ∀ p ∈ (I, oI) :: (C, oC) :: (D, LCg.lst ys) :: (ex2 ++ LH), p.1 < D6 := fun p hp => l6 p (.tail _ (mem_tabN.mpr (.inr hp)))
        refine LCg.CompEnd.intro Fw Nw ((D6, listOf vs6.toArray n6) :: (ex2 ++ LH)) ?_ ⟨⟨Ne.symm (Nat.ne_of_lt (lw (I, oI) (.head _))), Ne.symm (Nat.ne_of_lt (lw (C, oC) (.tail _ (.head _)))), Ne.symm (Nat.ne_of_lt (lw (D, _) (.tail _ (.tail _ (.head _)))))⟩, off⟩ (.inr ⟨_, .tail _ (List.mem_append_right _ nTb), rfl, _, rfl⟩) ⟨(D6, listOf vs6.toArray n6) :: ex2, rfl, ?_⟩
        · have up : ∀ p ∈ (I, oI) :: (C, oC) :: (D, LCg.lst ys) :: (ex2 ++ LH), p ∈ (D6, listOf vs6.toArray n6) :: (D5, listOf (tb i).its.toArray 0) :: tabN (tb i) ((I, oI) :: (C, oC) :: (D, LCg.lst ys) :: (ex2 ++ LH)) := fun p hp => .tail _ (.tail _ (mem_tabN.mpr (.inr hp)))
          exact List.forall_mem_cons.mpr ⟨up _ (.head _), List.forall_mem_cons.mpr ⟨up _ (.tail _ (.head _)), List.forall_mem_cons.mpr ⟨up _ (.tail _ (.tail _ (.head _))), List.forall_mem_cons.mpr ⟨.head _, fun p hp => up p (.tail _ (.tail _ (.tail _ hp)))⟩⟩⟩⟩
        · rw [List.range_succ, List.map_append]
          exact (hS.mono fun p hp => .tail _ hp).append (.one (.list (.head _) (rows_dat (R6.mono fun p hp => .tail _ (List.mem_append_right _ (nEx p hp))))))
      case fin2 =>
        rintro ys _ ⟨ex2, rfl, hS⟩ D h tk F' N' off
        clear Ny Fy
        k_steps
        refine ⟨?_⟩
        (rename Fr _ _ _ _ => Fy)
        refine LCg.ListComp_U (F₀ := Fy) (by with_unfolding_all rfl) (by decide) (by rfl) (by decide) (by rfl) ?_
        k_steps
        refine ⟨?_⟩
        (rename Fr _ _ _ _ => Fy); (rename News _ _ _ _ => Ny)
        (rename IsRange _ _ _ _ _ _ _ _ => hrg)
        refine LCg.CompSrc.range (n := 3) rfl Fy Ny hrg (by decide) (by rfl) (show 3 ≤ sizeLine by rw [sizeLine_eq]; decide) ?_
        intro g6
        refine rest_inv (n := 3) (fun i ys3 nw => ∃ ex3, nw = ex3 ++ (D, LCg.lst ys) :: (ex2 ++ LH) ∧ DatAll (ex3 ++ (D, LCg.lst ys) :: (ex2 ++ LH)) ys3 ((List.range i).map fun k => rowsD (canon (back ds k).2))) ?turn3 ?fin3 3 0 [] _ rfl ⟨[], rfl, .nil⟩
        case turn3 =>
          intro i ys3 nw3 v I oI C oC D3 m₂ h tk E' hi hJ hv hC hx F' N' off3 ne
          refine wpAny_cut ?_
          intro Q6 E6 cQ6 cE6
          obtain ⟨ex3, rfl, hS3⟩ := hJ
          obtain ⟨ti, rfl⟩ := hv
          have e0 : (0 : Int) + ((i : Nat) : Int) = ((i : Nat) : Int) := Int.zero_add _
          rw [e0] at hx
          have mm : ∀ {p}, p ∈ LH → p ∈ (I, oI) :: (C, oC) :: (D3, LCg.lst ys3) :: (ex3 ++ (D, LCg.lst ys) :: (ex2 ++ LH)) := fun {p} hp => .tail _ (.tail _ (.tail _ (List.mem_append_right _ (.tail _ (List.mem_append_right _ hp)))))
          have N7 := news_cons (N' _ (mm nDl)) (news_cons (N' _ (mm nLc)) N')
          clear Ny Fy N'
          k_steps
          refine ⟨?_⟩
          refine pReached (w := w) Dl dits ds kd i _ _ (hDs.mono fun p hp => .tail _ (mm (nExD p hp))) hok hdl hi _ _ _ _ _ _ _ _ _ _ _ _ _ _ _ _ ⟨⟨_, K0⟩, by assumption, KX, N7, ⟨_, _, _, T⟩, rfl⟩ (by decide +kernel) (by decide +kernel) ?_
          rintro D9 vs9 n9 ex9 h9 tk9 hex9 l9 R9 ⟨_, F9, _, N9, _, _⟩
          clear N7
          k_steps
          refine cQ6.use ?_
          k_steps
          refine ⟨?_⟩
          (rename Fr _ _ _ _ => Fw); (rename News _ _ _ _ => Nw)
          have up : ∀ p ∈ (I, oI) :: (C, oC) :: (D3, LCg.lst ys3) :: (ex3 ++ (D, LCg.lst ys) :: (ex2 ++ LH)), p ∈ (Dl, listOf dits.toArray kd) :: (s₁.heap.objs.size + 1, oc) :: (I, oI) :: (C, oC) :: (D3, LCg.lst ys3) :: (ex3 ++ (D, LCg.lst ys) :: (ex2 ++ LH)) := fun p hp => .tail _ (.tail _ hp)
          have lI : ∀ q ∈ (D9, listOf vs9.toArray n9) :: ex9, I < q.1 ∧ C < q.1 ∧ D3 < q.1 := by
            refine List.forall_mem_cons.mpr ⟨⟨l9 (I, oI) (up _ (.head _)), l9 (C, oC) (up _ (.tail _ (.head _))), l9 (D3, _) (up _ (.tail _ (.tail _ (.head _))))⟩, fun q hq => ?_⟩
            have := (hex9 q hq).2
            exact ⟨this (I, oI) (up _ (.head _)), this (C, oC) (up _ (.tail _ (.head _))), this (D3, _) (up _ (.tail _ (.tail _ (.head _))))⟩
          have off9 : LCg.Off3 I C D3 (((D9, listOf vs9.toArray n9) :: (ex9 ++ ex3)) ++ (D, LCg.lst ys) :: (ex2 ++ LH)) := by
            refine LCg.Off3.of fun p hp => ?_
            rcases List.mem_append.mp hp with g | g
            · rcases List.mem_cons.mp g with rfl | g
              · have := lI _ (.head _)
                exact ⟨Ne.symm (Nat.ne_of_lt this.1), Ne.symm (Nat.ne_of_lt this.2.1), Ne.symm (Nat.ne_of_lt this.2.2)⟩
              · rcases List.mem_append.mp g with g | g
                · have := lI p (.tail _ g)
                  exact ⟨Ne.symm (Nat.ne_of_lt this.1), Ne.symm (Nat.ne_of_lt this.2.1), Ne.symm (Nat.ne_of_lt this.2.2)⟩
                · exact off3.mem p (List.mem_append_left _ g)
            · exact off3.mem p (List.mem_append_right _ g)
          refine LCg.CompEnd.intro Fw Nw (((D9, listOf vs9.toArray n9) :: (ex9 ++ ex3)) ++ (D, LCg.lst ys) :: (ex2 ++ LH)) ?_ off9 trivial ⟨(D9, listOf vs9.toArray n9) :: (ex9 ++ ex3), rfl, ?_⟩
          · have up2 : ∀ p ∈ (I, oI) :: (C, oC) :: (D3, LCg.lst ys3) :: (ex3 ++ (D, LCg.lst ys) :: (ex2 ++ LH)), p ∈ (D9, listOf vs9.toArray n9) :: (ex9 ++ (Dl, listOf dits.toArray kd) :: (s₁.heap.objs.size + 1, oc) :: (I, oI) :: (C, oC) :: (D3, LCg.lst ys3) :: (ex3 ++ (D, LCg.lst ys) :: (ex2 ++ LH))) := fun p hp => .tail _ (List.mem_append_right _ (up p hp))
            refine List.forall_mem_cons.mpr ⟨up2 _ (.head _), List.forall_mem_cons.mpr ⟨up2 _ (.tail _ (.head _)), List.forall_mem_cons.mpr ⟨up2 _ (.tail _ (.tail _ (.head _))), fun p hp => ?_⟩⟩⟩
            rcases List.mem_append.mp hp with g | g
            · rcases List.mem_cons.mp g with rfl | g
              · exact .head _
              · rcases List.mem_append.mp g with g | g
                · exact .tail _ (List.mem_append_left _ g)
                · exact up2 p (.tail _ (.tail _ (.tail _ (List.mem_append_left _ g))))
            · exact up2 p (.tail _ (.tail _ (.tail _ (List.mem_append_right _ g))))
          · rw [List.range_succ, List.map_append]
            refine DatAll.append (hS3.mono fun p hp => ?_) (.one (.list (.head _) (rows_dat (R9.mono fun p hp => .tail _ (List.mem_append_left _ (List.mem_append_left _ hp))))))
            rcases List.mem_append.mp hp with g | g
            · exact .tail _ (List.mem_append_left _ (List.mem_append_right _ g))
            · exact .tail _ (List.mem_append_right _ g)
        case fin3 =>
          rintro ys3 _ ⟨ex3, rfl, hS3⟩ D3 h3 tk3 F3 N3 off3
          clear Ny Fy
          k_steps
          refine ⟨?_⟩
          have eD : (List.range (3 + 0)).map (fun k => rowsD (canon (runT (fun _ => []) ds k))) = (List.range (3 + 0)).map fun k => rowsD (canon (back ds k).2) := List.map_congr_left fun k _ => by rw [plain_law ds hok k]
          rw [eD] at hS
          refine kqd_eq (s := ⟨_, _, _, _, _⟩) N3 (.tail _ (List.mem_append_right _ (.head _))) rfl rfl hS (fun p hp => .tail _ (List.mem_append_right _ (.tail _ hp))) (.head _) rfl rfl hS3 (fun p hp => .tail _ hp) (rowsD_ok _ _) (rowsD_ok _ _) (show callerA.units + 3 + 64 < cLine by decide +kernel) ?_
          simp only [eq_self, decide_true, Bool.not_true]
          k_steps
          refine cQ5.use ?_
          k_steps
          refine cQ0.use ?_
          k_steps
          exact hR _ _ fun b o e => F3.keep b o e
end
end Mine
end
section
open PySem PySem.W PyProof.Rows PySem.Calls
set_option maxRecDepth 100000
set_option maxHeartbeats 8000000
namespace Mine
theorem fn : PySem.Challenge.rw_wf0102_01.Holds := by
  refine hsaid fun said => ?_
  refine holds_behindC (q := qvH) (loose := looseH) (XP := XL qvH []) (YP := (kHook KF KA KA_eq).says) beh (kHook KF KA KA_eq).keeps XL.keeps (by rfl) (by rfl) (by rfl) (by rfl) said (by decide +kernel) ⟨rfl, rfl, rfl, rfl, rfl, by decide +kernel⟩ ?hw ?hc
  case hw => w_witness2
  case hc =>
    w_on
    k_fill
    intro w s₀ s₁ mg mb G Y fa o pm cd doc dV kV ho hd hcd hD hmg hg args vals as hpre hlay hrd hwl hlo
    have KX := kIn_of Y
    have X := (Ground.X G).1
    have V := (Ground.X G).2
    refine Ground.open G ?_
    intro T B D TE TW
    clear D
    obtain ⟨_, _, M⟩ := bmod_of_top T
    wrow_args hpre hlay hrd hwl hlo
    rename_i ns _ _ _ _ _ _ _ Sc vs _ hSc _ _ _ hi _ hle _
    have hlen : vs.length ≤ 63 := by rw [IntsAre.length hi]; omega
    have eD : dV = .none := Dflts.pos_none hD rfl
    have eK : kV = .none := Dflts.kw_none hD rfl
    subst eD
    subst eK
    refine lawC w s₁ fa Sc o vs ns pm cd doc _ mg mb _ ho hd hcd T KX hSc hi hlen fun h' tk keep => ?_
    exact ⟨.inl ⟨.bool true, .bool true, [], rfl, raisesW_false (by wrow_none_raised), .bool true, by wrow_post, unshared_nil⟩, .of_keep keep, rfl, .of_eq hg⟩
end Mine
end
end
theorem PySem.Challenge.cw_wf0102_01_holds : PySem.Challenge.rw_wf0102_01.Holds :=
  Mine.fn
