import PyProof.Rows.All
import Wide.All
import OpenK.AllK
import Wide.FinOn
import Open.Tops
import PyProof.Rows.StrCut
import PyProof.Rows.SeqSliceW
import PyProof.Rows.ChunkLeaf
import PyProof.IsiH_list
import Lean
import PySem.Challenge.RW_tr0061_01
section
open PySem PySem.W PyProof.Rows
set_option Elab.async false
set_option maxRecDepth 100000
set_option linter.unusedVariables false
namespace Mine
noncomputable abbrev prog : Program := PySem.Challenge.pw_tr0061_01
noncomputable def defBody : Option Stmt → List Stmt
  | some (.FunctionDef _ _ b _ _ _ _ _ _ _) => b
  | some (.ClassDef _ _ _ b _ _ _ _ _ _ _) => b
  | _ => []
noncomputable def bodyAt (i : Nat) : List Stmt := defBody (prog.main.body[i]?)
noncomputable def bodyIn (i j : Nat) : List Stmt := defBody ((bodyAt i)[j]?)
noncomputable def o_0 (P : Params) : Obj := { cls := Value.type "dict", data := Data.dict #[{ hash := PyData.keyHash P (Str.ofString "__name__"), key := Value.str (Str.ofString "__name__") 1, val := Value.str (Str.ofString "builtins") 160 }, { hash := PyData.keyHash P (Str.ofString "__doc__"), key := Value.str (Str.ofString "__doc__") 2, val := Value.builtin "builtins.__doc__:str#opaque" }, { hash := PyData.keyHash P (Str.ofString "__package__"), key := Value.str (Str.ofString "__package__") 3, val := Value.builtin "builtins.__package__:str#opaque" }, { hash := PyData.keyHash P (Str.ofString "__loader__"), key := Value.str (Str.ofString "__loader__") 4, val := Value.builtin "builtins.__loader__:shared#opaque" }, { hash := PyData.keyHash P (Str.ofString "__spec__"), key := Value.str (Str.ofString "__spec__") 5, val := Value.builtin "builtins.__spec__#opaque" }, { hash := PyData.keyHash P (Str.ofString "__build_class__"), key := Value.str (Str.ofString "__build_class__") 6, val := Value.builtin "__build_class__" }, { hash := PyData.keyHash P (Str.ofString "__import__"), key := Value.str (Str.ofString "__import__") 7, val := Value.builtin "__import__" }, { hash := PyData.keyHash P (Str.ofString "abs"), key := Value.str (Str.ofString "abs") 8, val := Value.builtin "abs" }, { hash := PyData.keyHash P (Str.ofString "all"), key := Value.str (Str.ofString "all") 9, val := Value.builtin "all" }, { hash := PyData.keyHash P (Str.ofString "any"), key := Value.str (Str.ofString "any") 10, val := Value.builtin "any" }, { hash := PyData.keyHash P (Str.ofString "ascii"), key := Value.str (Str.ofString "ascii") 11, val := Value.builtin "ascii" }, { hash := PyData.keyHash P (Str.ofString "bin"), key := Value.str (Str.ofString "bin") 12, val := Value.builtin "bin" }, { hash := PyData.keyHash P (Str.ofString "breakpoint"), key := Value.str (Str.ofString "breakpoint") 13, val := Value.builtin "breakpoint" }, { hash := PyData.keyHash P (Str.ofString "callable"), key := Value.str (Str.ofString "callable") 14, val := Value.builtin "callable" }, { hash := PyData.keyHash P (Str.ofString "chr"), key := Value.str (Str.ofString "chr") 15, val := Value.builtin "chr" }, { hash := PyData.keyHash P (Str.ofString "compile"), key := Value.str (Str.ofString "compile") 16, val := Value.builtin "compile" }, { hash := PyData.keyHash P (Str.ofString "delattr"), key := Value.str (Str.ofString "delattr") 17, val := Value.builtin "delattr" }, { hash := PyData.keyHash P (Str.ofString "dir"), key := Value.str (Str.ofString "dir") 18, val := Value.builtin "dir" }, { hash := PyData.keyHash P (Str.ofString "divmod"), key := Value.str (Str.ofString "divmod") 19, val := Value.builtin "divmod" }, { hash := PyData.keyHash P (Str.ofString "eval"), key := Value.str (Str.ofString "eval") 20, val := Value.builtin "eval" }, { hash := PyData.keyHash P (Str.ofString "exec"), key := Value.str (Str.ofString "exec") 21, val := Value.builtin "exec" }, { hash := PyData.keyHash P (Str.ofString "format"), key := Value.str (Str.ofString "format") 22, val := Value.builtin "format" }, { hash := PyData.keyHash P (Str.ofString "getattr"), key := Value.str (Str.ofString "getattr") 23, val := Value.builtin "getattr" }, { hash := PyData.keyHash P (Str.ofString "globals"), key := Value.str (Str.ofString "globals") 24, val := Value.builtin "globals" }, { hash := PyData.keyHash P (Str.ofString "hasattr"), key := Value.str (Str.ofString "hasattr") 25, val := Value.builtin "hasattr" }, { hash := PyData.keyHash P (Str.ofString "hash"), key := Value.str (Str.ofString "hash") 26, val := Value.builtin "hash" }, { hash := PyData.keyHash P (Str.ofString "hex"), key := Value.str (Str.ofString "hex") 27, val := Value.builtin "hex" }, { hash := PyData.keyHash P (Str.ofString "id"), key := Value.str (Str.ofString "id") 28, val := Value.builtin "id" }, { hash := PyData.keyHash P (Str.ofString "input"), key := Value.str (Str.ofString "input") 29, val := Value.builtin "input" }, { hash := PyData.keyHash P (Str.ofString "isinstance"), key := Value.str (Str.ofString "isinstance") 30, val := Value.builtin "isinstance" }, { hash := PyData.keyHash P (Str.ofString "issubclass"), key := Value.str (Str.ofString "issubclass") 31, val := Value.builtin "issubclass" }, { hash := PyData.keyHash P (Str.ofString "iter"), key := Value.str (Str.ofString "iter") 32, val := Value.builtin "iter" }, { hash := PyData.keyHash P (Str.ofString "aiter"), key := Value.str (Str.ofString "aiter") 33, val := Value.builtin "aiter" }, { hash := PyData.keyHash P (Str.ofString "len"), key := Value.str (Str.ofString "len") 34, val := Value.builtin "len" }, { hash := PyData.keyHash P (Str.ofString "locals"), key := Value.str (Str.ofString "locals") 35, val := Value.builtin "locals" }, { hash := PyData.keyHash P (Str.ofString "max"), key := Value.str (Str.ofString "max") 36, val := Value.builtin "max" }, { hash := PyData.keyHash P (Str.ofString "min"), key := Value.str (Str.ofString "min") 37, val := Value.builtin "min" }, { hash := PyData.keyHash P (Str.ofString "next"), key := Value.str (Str.ofString "next") 38, val := Value.builtin "next" }, { hash := PyData.keyHash P (Str.ofString "anext"), key := Value.str (Str.ofString "anext") 39, val := Value.builtin "anext" }, { hash := PyData.keyHash P (Str.ofString "oct"), key := Value.str (Str.ofString "oct") 40, val := Value.builtin "oct" }, { hash := PyData.keyHash P (Str.ofString "ord"), key := Value.str (Str.ofString "ord") 41, val := Value.builtin "ord" }, { hash := PyData.keyHash P (Str.ofString "pow"), key := Value.str (Str.ofString "pow") 42, val := Value.builtin "pow" }, { hash := PyData.keyHash P (Str.ofString "print"), key := Value.str (Str.ofString "print") 43, val := Value.builtin "print" }, { hash := PyData.keyHash P (Str.ofString "repr"), key := Value.str (Str.ofString "repr") 44, val := Value.builtin "repr" }, { hash := PyData.keyHash P (Str.ofString "round"), key := Value.str (Str.ofString "round") 45, val := Value.builtin "round" }, { hash := PyData.keyHash P (Str.ofString "setattr"), key := Value.str (Str.ofString "setattr") 46, val := Value.builtin "setattr" }, { hash := PyData.keyHash P (Str.ofString "sorted"), key := Value.str (Str.ofString "sorted") 47, val := Value.builtin "sorted" }, { hash := PyData.keyHash P (Str.ofString "sum"), key := Value.str (Str.ofString "sum") 48, val := Value.builtin "sum" }, { hash := PyData.keyHash P (Str.ofString "vars"), key := Value.str (Str.ofString "vars") 49, val := Value.builtin "vars" }, { hash := PyData.keyHash P (Str.ofString "None"), key := Value.str (Str.ofString "None") 50, val := Value.none }, { hash := PyData.keyHash P (Str.ofString "Ellipsis"), key := Value.str (Str.ofString "Ellipsis") 51, val := Value.ellipsis }, { hash := PyData.keyHash P (Str.ofString "NotImplemented"), key := Value.str (Str.ofString "NotImplemented") 52, val := Value.notImplemented }, { hash := PyData.keyHash P (Str.ofString "False"), key := Value.str (Str.ofString "False") 53, val := Value.bool false }, { hash := PyData.keyHash P (Str.ofString "True"), key := Value.str (Str.ofString "True") 54, val := Value.bool true }, { hash := PyData.keyHash P (Str.ofString "bool"), key := Value.str (Str.ofString "bool") 55, val := Value.type "bool" }, { hash := PyData.keyHash P (Str.ofString "memoryview"), key := Value.str (Str.ofString "memoryview") 56, val := Value.type "memoryview" }, { hash := PyData.keyHash P (Str.ofString "bytearray"), key := Value.str (Str.ofString "bytearray") 57, val := Value.type "bytearray" }, { hash := PyData.keyHash P (Str.ofString "bytes"), key := Value.str (Str.ofString "bytes") 58, val := Value.type "bytes" }, { hash := PyData.keyHash P (Str.ofString "classmethod"), key := Value.str (Str.ofString "classmethod") 59, val := Value.type "classmethod" }, { hash := PyData.keyHash P (Str.ofString "complex"), key := Value.str (Str.ofString "complex") 60, val := Value.type "complex" }, { hash := PyData.keyHash P (Str.ofString "dict"), key := Value.str (Str.ofString "dict") 61, val := Value.type "dict" }, { hash := PyData.keyHash P (Str.ofString "enumerate"), key := Value.str (Str.ofString "enumerate") 62, val := Value.type "enumerate" }, { hash := PyData.keyHash P (Str.ofString "filter"), key := Value.str (Str.ofString "filter") 63, val := Value.type "filter" }, { hash := PyData.keyHash P (Str.ofString "float"), key := Value.str (Str.ofString "float") 64, val := Value.type "float" }, { hash := PyData.keyHash P (Str.ofString "frozenset"), key := Value.str (Str.ofString "frozenset") 65, val := Value.type "frozenset" }, { hash := PyData.keyHash P (Str.ofString "property"), key := Value.str (Str.ofString "property") 66, val := Value.type "property" }, { hash := PyData.keyHash P (Str.ofString "int"), key := Value.str (Str.ofString "int") 67, val := Value.type "int" }, { hash := PyData.keyHash P (Str.ofString "list"), key := Value.str (Str.ofString "list") 68, val := Value.type "list" }, { hash := PyData.keyHash P (Str.ofString "map"), key := Value.str (Str.ofString "map") 69, val := Value.type "map" }, { hash := PyData.keyHash P (Str.ofString "object"), key := Value.str (Str.ofString "object") 70, val := Value.type "object" }, { hash := PyData.keyHash P (Str.ofString "range"), key := Value.str (Str.ofString "range") 71, val := Value.type "range" }, { hash := PyData.keyHash P (Str.ofString "reversed"), key := Value.str (Str.ofString "reversed") 72, val := Value.type "reversed" }, { hash := PyData.keyHash P (Str.ofString "set"), key := Value.str (Str.ofString "set") 73, val := Value.type "set" }, { hash := PyData.keyHash P (Str.ofString "slice"), key := Value.str (Str.ofString "slice") 74, val := Value.type "slice" }, { hash := PyData.keyHash P (Str.ofString "staticmethod"), key := Value.str (Str.ofString "staticmethod") 75, val := Value.type "staticmethod" }, { hash := PyData.keyHash P (Str.ofString "str"), key := Value.str (Str.ofString "str") 76, val := Value.type "str" }, { hash := PyData.keyHash P (Str.ofString "super"), key := Value.str (Str.ofString "super") 77, val := Value.type "super" }, { hash := PyData.keyHash P (Str.ofString "tuple"), key := Value.str (Str.ofString "tuple") 78, val := Value.type "tuple" }, { hash := PyData.keyHash P (Str.ofString "type"), key := Value.str (Str.ofString "type") 79, val := Value.type "type" }, { hash := PyData.keyHash P (Str.ofString "zip"), key := Value.str (Str.ofString "zip") 80, val := Value.type "zip" }, { hash := PyData.keyHash P (Str.ofString "__debug__"), key := Value.str (Str.ofString "__debug__") 81, val := Value.bool true }, { hash := PyData.keyHash P (Str.ofString "BaseException"), key := Value.str (Str.ofString "BaseException") 82, val := Value.type "BaseException" }, { hash := PyData.keyHash P (Str.ofString "BaseExceptionGroup"), key := Value.str (Str.ofString "BaseExceptionGroup") 83, val := Value.type "BaseExceptionGroup" }, { hash := PyData.keyHash P (Str.ofString "Exception"), key := Value.str (Str.ofString "Exception") 84, val := Value.type "Exception" }, { hash := PyData.keyHash P (Str.ofString "GeneratorExit"), key := Value.str (Str.ofString "GeneratorExit") 85, val := Value.type "GeneratorExit" }, { hash := PyData.keyHash P (Str.ofString "KeyboardInterrupt"), key := Value.str (Str.ofString "KeyboardInterrupt") 86, val := Value.type "KeyboardInterrupt" }, { hash := PyData.keyHash P (Str.ofString "SystemExit"), key := Value.str (Str.ofString "SystemExit") 87, val := Value.type "SystemExit" }, { hash := PyData.keyHash P (Str.ofString "ArithmeticError"), key := Value.str (Str.ofString "ArithmeticError") 88, val := Value.type "ArithmeticError" }, { hash := PyData.keyHash P (Str.ofString "AssertionError"), key := Value.str (Str.ofString "AssertionError") 89, val := Value.type "AssertionError" }, { hash := PyData.keyHash P (Str.ofString "AttributeError"), key := Value.str (Str.ofString "AttributeError") 90, val := Value.type "AttributeError" }, { hash := PyData.keyHash P (Str.ofString "BufferError"), key := Value.str (Str.ofString "BufferError") 91, val := Value.type "BufferError" }, { hash := PyData.keyHash P (Str.ofString "EOFError"), key := Value.str (Str.ofString "EOFError") 92, val := Value.type "EOFError" }, { hash := PyData.keyHash P (Str.ofString "ImportError"), key := Value.str (Str.ofString "ImportError") 93, val := Value.type "ImportError" }, { hash := PyData.keyHash P (Str.ofString "LookupError"), key := Value.str (Str.ofString "LookupError") 94, val := Value.type "LookupError" }, { hash := PyData.keyHash P (Str.ofString "MemoryError"), key := Value.str (Str.ofString "MemoryError") 95, val := Value.type "MemoryError" }, { hash := PyData.keyHash P (Str.ofString "NameError"), key := Value.str (Str.ofString "NameError") 96, val := Value.type "NameError" }, { hash := PyData.keyHash P (Str.ofString "OSError"), key := Value.str (Str.ofString "OSError") 97, val := Value.type "OSError" }, { hash := PyData.keyHash P (Str.ofString "ReferenceError"), key := Value.str (Str.ofString "ReferenceError") 98, val := Value.type "ReferenceError" }, { hash := PyData.keyHash P (Str.ofString "RuntimeError"), key := Value.str (Str.ofString "RuntimeError") 99, val := Value.type "RuntimeError" }, { hash := PyData.keyHash P (Str.ofString "StopAsyncIteration"), key := Value.str (Str.ofString "StopAsyncIteration") 100, val := Value.type "StopAsyncIteration" }, { hash := PyData.keyHash P (Str.ofString "StopIteration"), key := Value.str (Str.ofString "StopIteration") 101, val := Value.type "StopIteration" }, { hash := PyData.keyHash P (Str.ofString "SyntaxError"), key := Value.str (Str.ofString "SyntaxError") 102, val := Value.type "SyntaxError" }, { hash := PyData.keyHash P (Str.ofString "SystemError"), key := Value.str (Str.ofString "SystemError") 103, val := Value.type "SystemError" }, { hash := PyData.keyHash P (Str.ofString "TypeError"), key := Value.str (Str.ofString "TypeError") 104, val := Value.type "TypeError" }, { hash := PyData.keyHash P (Str.ofString "ValueError"), key := Value.str (Str.ofString "ValueError") 105, val := Value.type "ValueError" }, { hash := PyData.keyHash P (Str.ofString "Warning"), key := Value.str (Str.ofString "Warning") 106, val := Value.type "Warning" }, { hash := PyData.keyHash P (Str.ofString "FloatingPointError"), key := Value.str (Str.ofString "FloatingPointError") 107, val := Value.type "FloatingPointError" }, { hash := PyData.keyHash P (Str.ofString "OverflowError"), key := Value.str (Str.ofString "OverflowError") 108, val := Value.type "OverflowError" }, { hash := PyData.keyHash P (Str.ofString "ZeroDivisionError"), key := Value.str (Str.ofString "ZeroDivisionError") 109, val := Value.type "ZeroDivisionError" }, { hash := PyData.keyHash P (Str.ofString "BytesWarning"), key := Value.str (Str.ofString "BytesWarning") 110, val := Value.type "BytesWarning" }, { hash := PyData.keyHash P (Str.ofString "DeprecationWarning"), key := Value.str (Str.ofString "DeprecationWarning") 111, val := Value.type "DeprecationWarning" }, { hash := PyData.keyHash P (Str.ofString "EncodingWarning"), key := Value.str (Str.ofString "EncodingWarning") 112, val := Value.type "EncodingWarning" }, { hash := PyData.keyHash P (Str.ofString "FutureWarning"), key := Value.str (Str.ofString "FutureWarning") 113, val := Value.type "FutureWarning" }, { hash := PyData.keyHash P (Str.ofString "ImportWarning"), key := Value.str (Str.ofString "ImportWarning") 114, val := Value.type "ImportWarning" }, { hash := PyData.keyHash P (Str.ofString "PendingDeprecationWarning"), key := Value.str (Str.ofString "PendingDeprecationWarning") 115, val := Value.type "PendingDeprecationWarning" }, { hash := PyData.keyHash P (Str.ofString "ResourceWarning"), key := Value.str (Str.ofString "ResourceWarning") 116, val := Value.type "ResourceWarning" }, { hash := PyData.keyHash P (Str.ofString "RuntimeWarning"), key := Value.str (Str.ofString "RuntimeWarning") 117, val := Value.type "RuntimeWarning" }, { hash := PyData.keyHash P (Str.ofString "SyntaxWarning"), key := Value.str (Str.ofString "SyntaxWarning") 118, val := Value.type "SyntaxWarning" }, { hash := PyData.keyHash P (Str.ofString "UnicodeWarning"), key := Value.str (Str.ofString "UnicodeWarning") 119, val := Value.type "UnicodeWarning" }, { hash := PyData.keyHash P (Str.ofString "UserWarning"), key := Value.str (Str.ofString "UserWarning") 120, val := Value.type "UserWarning" }, { hash := PyData.keyHash P (Str.ofString "BlockingIOError"), key := Value.str (Str.ofString "BlockingIOError") 121, val := Value.type "BlockingIOError" }, { hash := PyData.keyHash P (Str.ofString "ChildProcessError"), key := Value.str (Str.ofString "ChildProcessError") 122, val := Value.type "ChildProcessError" }, { hash := PyData.keyHash P (Str.ofString "ConnectionError"), key := Value.str (Str.ofString "ConnectionError") 123, val := Value.type "ConnectionError" }, { hash := PyData.keyHash P (Str.ofString "FileExistsError"), key := Value.str (Str.ofString "FileExistsError") 124, val := Value.type "FileExistsError" }, { hash := PyData.keyHash P (Str.ofString "FileNotFoundError"), key := Value.str (Str.ofString "FileNotFoundError") 125, val := Value.type "FileNotFoundError" }, { hash := PyData.keyHash P (Str.ofString "InterruptedError"), key := Value.str (Str.ofString "InterruptedError") 126, val := Value.type "InterruptedError" }, { hash := PyData.keyHash P (Str.ofString "IsADirectoryError"), key := Value.str (Str.ofString "IsADirectoryError") 127, val := Value.type "IsADirectoryError" }, { hash := PyData.keyHash P (Str.ofString "NotADirectoryError"), key := Value.str (Str.ofString "NotADirectoryError") 128, val := Value.type "NotADirectoryError" }, { hash := PyData.keyHash P (Str.ofString "PermissionError"), key := Value.str (Str.ofString "PermissionError") 129, val := Value.type "PermissionError" }, { hash := PyData.keyHash P (Str.ofString "ProcessLookupError"), key := Value.str (Str.ofString "ProcessLookupError") 130, val := Value.type "ProcessLookupError" }, { hash := PyData.keyHash P (Str.ofString "TimeoutError"), key := Value.str (Str.ofString "TimeoutError") 131, val := Value.type "TimeoutError" }, { hash := PyData.keyHash P (Str.ofString "IndentationError"), key := Value.str (Str.ofString "IndentationError") 132, val := Value.type "IndentationError" }, { hash := PyData.keyHash P (Str.ofString "_IncompleteInputError"), key := Value.str (Str.ofString "_IncompleteInputError") 133, val := Value.type "_IncompleteInputError" }, { hash := PyData.keyHash P (Str.ofString "IndexError"), key := Value.str (Str.ofString "IndexError") 134, val := Value.type "IndexError" }, { hash := PyData.keyHash P (Str.ofString "KeyError"), key := Value.str (Str.ofString "KeyError") 135, val := Value.type "KeyError" }, { hash := PyData.keyHash P (Str.ofString "ModuleNotFoundError"), key := Value.str (Str.ofString "ModuleNotFoundError") 136, val := Value.type "ModuleNotFoundError" }, { hash := PyData.keyHash P (Str.ofString "NotImplementedError"), key := Value.str (Str.ofString "NotImplementedError") 137, val := Value.type "NotImplementedError" }, { hash := PyData.keyHash P (Str.ofString "PythonFinalizationError"), key := Value.str (Str.ofString "PythonFinalizationError") 138, val := Value.type "PythonFinalizationError" }, { hash := PyData.keyHash P (Str.ofString "RecursionError"), key := Value.str (Str.ofString "RecursionError") 139, val := Value.type "RecursionError" }, { hash := PyData.keyHash P (Str.ofString "UnboundLocalError"), key := Value.str (Str.ofString "UnboundLocalError") 140, val := Value.type "UnboundLocalError" }, { hash := PyData.keyHash P (Str.ofString "UnicodeError"), key := Value.str (Str.ofString "UnicodeError") 141, val := Value.type "UnicodeError" }, { hash := PyData.keyHash P (Str.ofString "BrokenPipeError"), key := Value.str (Str.ofString "BrokenPipeError") 142, val := Value.type "BrokenPipeError" }, { hash := PyData.keyHash P (Str.ofString "ConnectionAbortedError"), key := Value.str (Str.ofString "ConnectionAbortedError") 143, val := Value.type "ConnectionAbortedError" }, { hash := PyData.keyHash P (Str.ofString "ConnectionRefusedError"), key := Value.str (Str.ofString "ConnectionRefusedError") 144, val := Value.type "ConnectionRefusedError" }, { hash := PyData.keyHash P (Str.ofString "ConnectionResetError"), key := Value.str (Str.ofString "ConnectionResetError") 145, val := Value.type "ConnectionResetError" }, { hash := PyData.keyHash P (Str.ofString "TabError"), key := Value.str (Str.ofString "TabError") 146, val := Value.type "TabError" }, { hash := PyData.keyHash P (Str.ofString "UnicodeDecodeError"), key := Value.str (Str.ofString "UnicodeDecodeError") 147, val := Value.type "UnicodeDecodeError" }, { hash := PyData.keyHash P (Str.ofString "UnicodeEncodeError"), key := Value.str (Str.ofString "UnicodeEncodeError") 148, val := Value.type "UnicodeEncodeError" }, { hash := PyData.keyHash P (Str.ofString "UnicodeTranslateError"), key := Value.str (Str.ofString "UnicodeTranslateError") 149, val := Value.type "UnicodeTranslateError" }, { hash := PyData.keyHash P (Str.ofString "ExceptionGroup"), key := Value.str (Str.ofString "ExceptionGroup") 150, val := Value.type "ExceptionGroup" }, { hash := PyData.keyHash P (Str.ofString "EnvironmentError"), key := Value.str (Str.ofString "EnvironmentError") 151, val := Value.type "OSError" }, { hash := PyData.keyHash P (Str.ofString "IOError"), key := Value.str (Str.ofString "IOError") 152, val := Value.type "OSError" }, { hash := PyData.keyHash P (Str.ofString "open"), key := Value.str (Str.ofString "open") 153, val := Value.builtin "open" }, { hash := PyData.keyHash P (Str.ofString "quit"), key := Value.str (Str.ofString "quit") 154, val := Value.builtin "builtins.quit#opaque" }, { hash := PyData.keyHash P (Str.ofString "exit"), key := Value.str (Str.ofString "exit") 155, val := Value.builtin "builtins.exit#opaque" }, { hash := PyData.keyHash P (Str.ofString "copyright"), key := Value.str (Str.ofString "copyright") 156, val := Value.builtin "builtins.copyright#opaque" }, { hash := PyData.keyHash P (Str.ofString "credits"), key := Value.str (Str.ofString "credits") 157, val := Value.builtin "builtins.credits#opaque" }, { hash := PyData.keyHash P (Str.ofString "license"), key := Value.str (Str.ofString "license") 158, val := Value.builtin "builtins.license#opaque" }, { hash := PyData.keyHash P (Str.ofString "help"), key := Value.str (Str.ofString "help") 159, val := Value.builtin "builtins.help#opaque" }] 159 }
noncomputable def o_2 (P : Params) : Obj := { cls := Value.none, data := Data.dict #[] }
noncomputable def o_3 (P : Params) : Obj := { cls := Value.type "dict", data := Data.dict #[{ hash := PyData.keyHash P (Str.ofString "__name__"), key := Value.str (Str.ofString "__name__") 165, val := Value.str (Str.ofString "law_tr0061_01") 2356 }, { hash := PyData.keyHash P (Str.ofString "__doc__"), key := Value.str (Str.ofString "__doc__") 166, val := Value.none }, { hash := PyData.keyHash P (Str.ofString "__package__"), key := Value.str (Str.ofString "__package__") 167, val := Value.none }, { hash := PyData.keyHash P (Str.ofString "__loader__"), key := Value.str (Str.ofString "__loader__") 168, val := Value.builtin "__main__.__loader__#opaque" }, { hash := PyData.keyHash P (Str.ofString "__spec__"), key := Value.str (Str.ofString "__spec__") 169, val := Value.none }, { hash := PyData.keyHash P (Str.ofString "__annotations__"), key := Value.str (Str.ofString "__annotations__") 170, val := Value.ref 6 }, { hash := PyData.keyHash P (Str.ofString "__builtins__"), key := Value.str (Str.ofString "__builtins__") 171, val := Value.ref 4 }, { hash := PyData.keyHash P (Str.ofString "__file__"), key := Value.str (Str.ofString "__file__") 173, val := Value.str (Str.ofString "/claim/cut.py") 172 }, { hash := PyData.keyHash P (Str.ofString "__cached__"), key := Value.str (Str.ofString "__cached__") 174, val := Value.none }, { hash := PyData.keyHash P (Str.ofString "_wall"), key := Value.str (Str.ofString "_wall") 193, val := Value.ref 21 }, { hash := PyData.keyHash P (Str.ofString "EMPTYSTRING"), key := Value.str (Str.ofString "EMPTYSTRING") 197, val := Value.str (Str.ofString "") 196 }, { hash := PyData.keyHash P (Str.ofString "_Accumulator"), key := Value.str (Str.ofString "_Accumulator") 292, val := Value.ref 101 }, { hash := PyData.keyHash P (Str.ofString "rgb_to_hls"), key := Value.str (Str.ofString "rgb_to_hls") 313, val := Value.ref 112 }, { hash := PyData.keyHash P (Str.ofString "hsv_to_rgb"), key := Value.str (Str.ofString "hsv_to_rgb") 327, val := Value.ref 119 }, { hash := PyData.keyHash P (Str.ofString "b1_set"), key := Value.str (Str.ofString "b1_set") 389, val := Value.ref 127 }, { hash := PyData.keyHash P (Str.ofString "in_table_b1"), key := Value.str (Str.ofString "in_table_b1") 396, val := Value.ref 137 }, { hash := PyData.keyHash P (Str.ofString "b3_exceptions"), key := Value.str (Str.ofString "b3_exceptions") 2347, val := Value.ref 138 }, { hash := PyData.keyHash P (Str.ofString "map_table_b3"), key := Value.str (Str.ofString "map_table_b3") 2355, val := Value.ref 183 }, { hash := PyData.keyHash P (Str.ofString "_law_spelled"), key := Value.str (Str.ofString "_law_spelled") 2369, val := Value.ref 190 }, { hash := PyData.keyHash P (Str.ofString "_law_row"), key := Value.str (Str.ofString "_law_row") 2375, val := Value.ref 195 }, { hash := PyData.keyHash P (Str.ofString "_law_low"), key := Value.str (Str.ofString "_law_low") 2382, val := Value.ref 202 }, { hash := PyData.keyHash P (Str.ofString "_law_is_grey"), key := Value.str (Str.ofString "_law_is_grey") 2388, val := Value.ref 207 }, { hash := PyData.keyHash P (Str.ofString "_law_determinant"), key := Value.str (Str.ofString "_law_determinant") 2397, val := Value.ref 214 }, { hash := PyData.keyHash P (Str.ofString "law"), key := Value.str (Str.ofString "law") 2403, val := Value.ref 219 }] 24 }
noncomputable def o_4 (P : Params) : Obj := { cls := Value.type "module", dict := some 0 }
noncomputable def o_15 (P : Params) : Obj := { cls := Value.type "tuple", data := Data.seq #[] }
noncomputable def o_16 (P : Params) : Obj := { cls := Value.none, data := Data.fields #[] }
noncomputable def o_17 (P : Params) : Obj := { cls := Value.type "tuple", data := Data.seq #[Value.str (Str.ofString "k") 190] }
noncomputable def o_18 (P : Params) : Obj := { cls := Value.type "tuple", data := Data.seq #[] }
noncomputable def o_19 (P : Params) : Obj := { cls := Value.none, data := Data.func { name := Str.ofString "_wall", qualname := Str.ofString "_wall", params := { posonlyargs := [], args := [{ arg := Str.ofString "k", annotation := none, pos := { line := 1, col := 10, endLine := 1, endCol := 11 } }], vararg := none, kwonlyargs := [], kw_defaults := [], kwarg := none, defaults := [] }, body := FuncBody.stmts (bodyAt 0), scope := { kind := ScopeKind.function, names := [(Str.ofString "k", NameKind.local)], isGenerator := false, isCoroutine := false }, globals := 0, closure := [], defaults := Value.none, kwdefaults := Value.none } }
noncomputable def o_20 (P : Params) : Obj := { cls := Value.type "code", data := Data.fields #[Value.str (Str.ofString "_wall") 187, Value.str (Str.ofString "_wall") 188, Value.str (Str.ofString "/claim/cut.py") 189, Value.int 1 0, Value.int 1 0, Value.int 0 0, Value.int 0 0, Value.int 3 0, Value.ref 15, Value.bool true, Value.int 181 0, Value.ref 16, Value.none, Value.ref 17, Value.ref 18, Value.ref 19, Value.int 191 0, Value.int 1 0, Value.str (Str.ofString "/claim/cut.py") 192] }
noncomputable def o_21 (P : Params) : Obj := { cls := Value.type "function", data := Data.func { name := Str.ofString "_wall", qualname := Str.ofString "_wall", params := { posonlyargs := [], args := [{ arg := Str.ofString "k", annotation := none, pos := { line := 1, col := 10, endLine := 1, endCol := 11 } }], vararg := none, kwonlyargs := [], kw_defaults := [], kwarg := none, defaults := [] }, body := FuncBody.stmts (bodyAt 0), scope := { kind := ScopeKind.function, names := [(Str.ofString "k", NameKind.local)], isGenerator := false, isCoroutine := false }, globals := 3, closure := [], defaults := Value.none, kwdefaults := Value.none, pyModule := Value.str (Str.ofString "__main__") 164, code := Value.ref 20 } }
noncomputable def o_22 (P : Params) : Obj := { cls := Value.type "tuple", data := Data.seq #[Value.type "list"] }
noncomputable def o_25 (P : Params) : Obj := { cls := Value.type "cell", data := Data.cell (some (Value.ref 101)) }
noncomputable def o_30 (P : Params) : Obj := { cls := Value.type "tuple", data := Data.seq #[Value.int 0 210] }
noncomputable def o_31 (P : Params) : Obj := { cls := Value.type "tuple", data := Data.seq #[Value.ref 25] }
noncomputable def o_32 (P : Params) : Obj := { cls := Value.type "tuple", data := Data.seq #[Value.str (Str.ofString "__class__") 214] }
noncomputable def o_33 (P : Params) : Obj := { cls := Value.none, data := Data.fields #[] }
noncomputable def o_34 (P : Params) : Obj := { cls := Value.type "tuple", data := Data.seq #[Value.str (Str.ofString "self") 215, Value.str (Str.ofString "initial_size") 216] }
noncomputable def o_35 (P : Params) : Obj := { cls := Value.type "tuple", data := Data.seq #[] }
noncomputable def o_36 (P : Params) : Obj := { cls := Value.none, data := Data.func { name := Str.ofString "__init__", qualname := Str.ofString "_Accumulator.__init__", params := { posonlyargs := [], args := [{ arg := Str.ofString "self", annotation := none, pos := { line := 8, col := 17, endLine := 8, endCol := 21 } }, { arg := Str.ofString "initial_size", annotation := none, pos := { line := 8, col := 23, endLine := 8, endCol := 35 } }], vararg := none, kwonlyargs := [], kw_defaults := [], kwarg := none, defaults := [Expr.Constant (Const.int 0) 0 { line := 8, col := 36, endLine := 8, endCol := 37 }] }, body := FuncBody.stmts (bodyIn 3 0), scope := { kind := ScopeKind.function, names := [(Str.ofString "self", NameKind.local), (Str.ofString "initial_size", NameKind.local), (Str.ofString "__class__", NameKind.free), (Str.ofString "super", NameKind.globalImplicit)], isGenerator := false, isCoroutine := false }, globals := 0, closure := [], defaults := Value.none, kwdefaults := Value.none } }
noncomputable def o_37 (P : Params) : Obj := { cls := Value.type "code", data := Data.fields #[Value.str (Str.ofString "__init__") 211, Value.str (Str.ofString "_Accumulator.__init__") 212, Value.str (Str.ofString "/claim/cut.py") 213, Value.int 8 0, Value.int 2 0, Value.int 0 0, Value.int 0 0, Value.int 3 0, Value.ref 32, Value.bool true, Value.int 181 0, Value.ref 33, Value.none, Value.ref 34, Value.ref 35, Value.ref 36, Value.int 217 0, Value.int 8 0, Value.str (Str.ofString "/claim/cut.py") 218] }
noncomputable def o_38 (P : Params) : Obj := { cls := Value.type "function", data := Data.func { name := Str.ofString "__init__", qualname := Str.ofString "_Accumulator.__init__", params := { posonlyargs := [], args := [{ arg := Str.ofString "self", annotation := none, pos := { line := 8, col := 17, endLine := 8, endCol := 21 } }, { arg := Str.ofString "initial_size", annotation := none, pos := { line := 8, col := 23, endLine := 8, endCol := 35 } }], vararg := none, kwonlyargs := [], kw_defaults := [], kwarg := none, defaults := [Expr.Constant (Const.int 0) 0 { line := 8, col := 36, endLine := 8, endCol := 37 }] }, body := FuncBody.stmts (bodyIn 3 0), scope := { kind := ScopeKind.function, names := [(Str.ofString "self", NameKind.local), (Str.ofString "initial_size", NameKind.local), (Str.ofString "__class__", NameKind.free), (Str.ofString "super", NameKind.globalImplicit)], isGenerator := false, isCoroutine := false }, globals := 3, closure := [(Str.ofString "__class__", 25)], defaults := Value.ref 30, kwdefaults := Value.none, pyModule := Value.str (Str.ofString "cpy313.email.header") 194, code := Value.ref 37, closureTuple := Value.ref 31 } }
noncomputable def o_39 (P : Params) : Obj := { cls := Value.type "tuple", data := Data.seq #[] }
noncomputable def o_40 (P : Params) : Obj := { cls := Value.none, data := Data.fields #[] }
noncomputable def o_41 (P : Params) : Obj := { cls := Value.type "tuple", data := Data.seq #[Value.str (Str.ofString "self") 223, Value.str (Str.ofString "fws") 224, Value.str (Str.ofString "string") 225] }
noncomputable def o_42 (P : Params) : Obj := { cls := Value.type "tuple", data := Data.seq #[] }
noncomputable def o_43 (P : Params) : Obj := { cls := Value.none, data := Data.func { name := Str.ofString "push", qualname := Str.ofString "_Accumulator.push", params := { posonlyargs := [], args := [{ arg := Str.ofString "self", annotation := none, pos := { line := 12, col := 13, endLine := 12, endCol := 17 } }, { arg := Str.ofString "fws", annotation := none, pos := { line := 12, col := 19, endLine := 12, endCol := 22 } }, { arg := Str.ofString "string", annotation := none, pos := { line := 12, col := 24, endLine := 12, endCol := 30 } }], vararg := none, kwonlyargs := [], kw_defaults := [], kwarg := none, defaults := [] }, body := FuncBody.stmts (bodyIn 3 1), scope := { kind := ScopeKind.function, names := [(Str.ofString "self", NameKind.local), (Str.ofString "fws", NameKind.local), (Str.ofString "string", NameKind.local)], isGenerator := false, isCoroutine := false }, globals := 0, closure := [], defaults := Value.none, kwdefaults := Value.none } }
noncomputable def o_44 (P : Params) : Obj := { cls := Value.type "code", data := Data.fields #[Value.str (Str.ofString "push") 220, Value.str (Str.ofString "_Accumulator.push") 221, Value.str (Str.ofString "/claim/cut.py") 222, Value.int 12 0, Value.int 3 0, Value.int 0 0, Value.int 0 0, Value.int 3 0, Value.ref 39, Value.bool true, Value.int 181 0, Value.ref 40, Value.none, Value.ref 41, Value.ref 42, Value.ref 43, Value.int 226 0, Value.int 12 0, Value.str (Str.ofString "/claim/cut.py") 227] }
noncomputable def o_45 (P : Params) : Obj := { cls := Value.type "function", data := Data.func { name := Str.ofString "push", qualname := Str.ofString "_Accumulator.push", params := { posonlyargs := [], args := [{ arg := Str.ofString "self", annotation := none, pos := { line := 12, col := 13, endLine := 12, endCol := 17 } }, { arg := Str.ofString "fws", annotation := none, pos := { line := 12, col := 19, endLine := 12, endCol := 22 } }, { arg := Str.ofString "string", annotation := none, pos := { line := 12, col := 24, endLine := 12, endCol := 30 } }], vararg := none, kwonlyargs := [], kw_defaults := [], kwarg := none, defaults := [] }, body := FuncBody.stmts (bodyIn 3 1), scope := { kind := ScopeKind.function, names := [(Str.ofString "self", NameKind.local), (Str.ofString "fws", NameKind.local), (Str.ofString "string", NameKind.local)], isGenerator := false, isCoroutine := false }, globals := 3, closure := [], defaults := Value.none, kwdefaults := Value.none, pyModule := Value.str (Str.ofString "cpy313.email.header") 194, code := Value.ref 44 } }
noncomputable def o_46 (P : Params) : Obj := { cls := Value.type "tuple", data := Data.seq #[Value.int 0 229] }
noncomputable def o_47 (P : Params) : Obj := { cls := Value.type "tuple", data := Data.seq #[] }
noncomputable def o_48 (P : Params) : Obj := { cls := Value.none, data := Data.fields #[] }
noncomputable def o_49 (P : Params) : Obj := { cls := Value.type "tuple", data := Data.seq #[Value.str (Str.ofString "self") 233, Value.str (Str.ofString "i") 234] }
noncomputable def o_50 (P : Params) : Obj := { cls := Value.type "tuple", data := Data.seq #[] }
noncomputable def o_51 (P : Params) : Obj := { cls := Value.none, data := Data.func { name := Str.ofString "pop_from", qualname := Str.ofString "_Accumulator.pop_from", params := { posonlyargs := [], args := [{ arg := Str.ofString "self", annotation := none, pos := { line := 15, col := 17, endLine := 15, endCol := 21 } }, { arg := Str.ofString "i", annotation := none, pos := { line := 15, col := 23, endLine := 15, endCol := 24 } }], vararg := none, kwonlyargs := [], kw_defaults := [], kwarg := none, defaults := [Expr.Constant (Const.int 0) 0 { line := 15, col := 25, endLine := 15, endCol := 26 }] }, body := FuncBody.stmts (bodyIn 3 2), scope := { kind := ScopeKind.function, names := [(Str.ofString "self", NameKind.local), (Str.ofString "i", NameKind.local), (Str.ofString "_wall", NameKind.globalImplicit)], isGenerator := false, isCoroutine := false }, globals := 0, closure := [], defaults := Value.none, kwdefaults := Value.none } }
noncomputable def o_52 (P : Params) : Obj := { cls := Value.type "code", data := Data.fields #[Value.str (Str.ofString "pop_from") 230, Value.str (Str.ofString "_Accumulator.pop_from") 231, Value.str (Str.ofString "/claim/cut.py") 232, Value.int 15 0, Value.int 2 0, Value.int 0 0, Value.int 0 0, Value.int 3 0, Value.ref 47, Value.bool true, Value.int 181 0, Value.ref 48, Value.none, Value.ref 49, Value.ref 50, Value.ref 51, Value.int 235 0, Value.int 15 0, Value.str (Str.ofString "/claim/cut.py") 236] }
noncomputable def o_53 (P : Params) : Obj := { cls := Value.type "function", data := Data.func { name := Str.ofString "pop_from", qualname := Str.ofString "_Accumulator.pop_from", params := { posonlyargs := [], args := [{ arg := Str.ofString "self", annotation := none, pos := { line := 15, col := 17, endLine := 15, endCol := 21 } }, { arg := Str.ofString "i", annotation := none, pos := { line := 15, col := 23, endLine := 15, endCol := 24 } }], vararg := none, kwonlyargs := [], kw_defaults := [], kwarg := none, defaults := [Expr.Constant (Const.int 0) 0 { line := 15, col := 25, endLine := 15, endCol := 26 }] }, body := FuncBody.stmts (bodyIn 3 2), scope := { kind := ScopeKind.function, names := [(Str.ofString "self", NameKind.local), (Str.ofString "i", NameKind.local), (Str.ofString "_wall", NameKind.globalImplicit)], isGenerator := false, isCoroutine := false }, globals := 3, closure := [], defaults := Value.ref 46, kwdefaults := Value.none, pyModule := Value.str (Str.ofString "cpy313.email.header") 194, code := Value.ref 52 } }
noncomputable def o_54 (P : Params) : Obj := { cls := Value.type "tuple", data := Data.seq #[Value.ref 25] }
noncomputable def o_55 (P : Params) : Obj := { cls := Value.type "tuple", data := Data.seq #[Value.str (Str.ofString "__class__") 241] }
noncomputable def o_56 (P : Params) : Obj := { cls := Value.none, data := Data.fields #[] }
noncomputable def o_57 (P : Params) : Obj := { cls := Value.type "tuple", data := Data.seq #[Value.str (Str.ofString "self") 242] }
noncomputable def o_58 (P : Params) : Obj := { cls := Value.type "tuple", data := Data.seq #[] }
noncomputable def o_59 (P : Params) : Obj := { cls := Value.none, data := Data.func { name := Str.ofString "pop", qualname := Str.ofString "_Accumulator.pop", params := { posonlyargs := [], args := [{ arg := Str.ofString "self", annotation := none, pos := { line := 18, col := 12, endLine := 18, endCol := 16 } }], vararg := none, kwonlyargs := [], kw_defaults := [], kwarg := none, defaults := [] }, body := FuncBody.stmts (bodyIn 3 3), scope := { kind := ScopeKind.function, names := [(Str.ofString "self", NameKind.local), (Str.ofString "__class__", NameKind.free), (Str.ofString "super", NameKind.globalImplicit)], isGenerator := false, isCoroutine := false }, globals := 0, closure := [], defaults := Value.none, kwdefaults := Value.none } }
noncomputable def o_60 (P : Params) : Obj := { cls := Value.type "code", data := Data.fields #[Value.str (Str.ofString "pop") 238, Value.str (Str.ofString "_Accumulator.pop") 239, Value.str (Str.ofString "/claim/cut.py") 240, Value.int 18 0, Value.int 1 0, Value.int 0 0, Value.int 0 0, Value.int 3 0, Value.ref 55, Value.bool true, Value.int 181 0, Value.ref 56, Value.none, Value.ref 57, Value.ref 58, Value.ref 59, Value.int 243 0, Value.int 18 0, Value.str (Str.ofString "/claim/cut.py") 244] }
noncomputable def o_61 (P : Params) : Obj := { cls := Value.type "function", data := Data.func { name := Str.ofString "pop", qualname := Str.ofString "_Accumulator.pop", params := { posonlyargs := [], args := [{ arg := Str.ofString "self", annotation := none, pos := { line := 18, col := 12, endLine := 18, endCol := 16 } }], vararg := none, kwonlyargs := [], kw_defaults := [], kwarg := none, defaults := [] }, body := FuncBody.stmts (bodyIn 3 3), scope := { kind := ScopeKind.function, names := [(Str.ofString "self", NameKind.local), (Str.ofString "__class__", NameKind.free), (Str.ofString "super", NameKind.globalImplicit)], isGenerator := false, isCoroutine := false }, globals := 3, closure := [(Str.ofString "__class__", 25)], defaults := Value.none, kwdefaults := Value.none, pyModule := Value.str (Str.ofString "cpy313.email.header") 194, code := Value.ref 60, closureTuple := Value.ref 54 } }
noncomputable def o_62 (P : Params) : Obj := { cls := Value.type "tuple", data := Data.seq #[] }
noncomputable def o_64 (P : Params) : Obj := { cls := Value.type "tuple", data := Data.seq #[Value.str (Str.ofString "self") 249] }
noncomputable def o_65 (P : Params) : Obj := { cls := Value.type "tuple", data := Data.seq #[] }
noncomputable def o_66 (P : Params) : Obj := { cls := Value.none, data := Data.func { name := Str.ofString "__len__", qualname := Str.ofString "_Accumulator.__len__", params := { posonlyargs := [], args := [{ arg := Str.ofString "self", annotation := none, pos := { line := 23, col := 16, endLine := 23, endCol := 20 } }], vararg := none, kwonlyargs := [], kw_defaults := [], kwarg := none, defaults := [] }, body := FuncBody.stmts (bodyIn 3 4), scope := { kind := ScopeKind.function, names := [(Str.ofString "self", NameKind.local), (Str.ofString "sum", NameKind.globalImplicit)], isGenerator := false, isCoroutine := false }, globals := 0, closure := [], defaults := Value.none, kwdefaults := Value.none } }
noncomputable def o_67 (P : Params) : Obj := { cls := Value.type "code", data := Data.fields #[Value.str (Str.ofString "__len__") 246, Value.str (Str.ofString "_Accumulator.__len__") 247, Value.str (Str.ofString "/claim/cut.py") 248, Value.int 23 0, Value.int 1 0, Value.int 0 0, Value.int 0 0, Value.int 3 0, Value.ref 62, Value.bool true, Value.int 181 0, Value.ref 63, Value.none, Value.ref 64, Value.ref 65, Value.ref 66, Value.int 250 0, Value.int 23 0, Value.str (Str.ofString "/claim/cut.py") 251] }
noncomputable def o_68 (P : Params) : Obj := { cls := Value.type "function", data := Data.func { name := Str.ofString "__len__", qualname := Str.ofString "_Accumulator.__len__", params := { posonlyargs := [], args := [{ arg := Str.ofString "self", annotation := none, pos := { line := 23, col := 16, endLine := 23, endCol := 20 } }], vararg := none, kwonlyargs := [], kw_defaults := [], kwarg := none, defaults := [] }, body := FuncBody.stmts (bodyIn 3 4), scope := { kind := ScopeKind.function, names := [(Str.ofString "self", NameKind.local), (Str.ofString "sum", NameKind.globalImplicit)], isGenerator := false, isCoroutine := false }, globals := 3, closure := [], defaults := Value.none, kwdefaults := Value.none, pyModule := Value.str (Str.ofString "cpy313.email.header") 194, code := Value.ref 67 } }
noncomputable def o_69 (P : Params) : Obj := { cls := Value.type "tuple", data := Data.seq #[] }
noncomputable def o_71 (P : Params) : Obj := { cls := Value.type "tuple", data := Data.seq #[Value.str (Str.ofString "self") 256] }
noncomputable def o_72 (P : Params) : Obj := { cls := Value.type "tuple", data := Data.seq #[] }
noncomputable def o_73 (P : Params) : Obj := { cls := Value.none, data := Data.func { name := Str.ofString "__str__", qualname := Str.ofString "_Accumulator.__str__", params := { posonlyargs := [], args := [{ arg := Str.ofString "self", annotation := none, pos := { line := 26, col := 16, endLine := 26, endCol := 20 } }], vararg := none, kwonlyargs := [], kw_defaults := [], kwarg := none, defaults := [] }, body := FuncBody.stmts (bodyIn 3 5), scope := { kind := ScopeKind.function, names := [(Str.ofString "self", NameKind.local), (Str.ofString "EMPTYSTRING", NameKind.globalImplicit)], isGenerator := false, isCoroutine := false }, globals := 0, closure := [], defaults := Value.none, kwdefaults := Value.none } }
noncomputable def o_74 (P : Params) : Obj := { cls := Value.type "code", data := Data.fields #[Value.str (Str.ofString "__str__") 253, Value.str (Str.ofString "_Accumulator.__str__") 254, Value.str (Str.ofString "/claim/cut.py") 255, Value.int 26 0, Value.int 1 0, Value.int 0 0, Value.int 0 0, Value.int 3 0, Value.ref 69, Value.bool true, Value.int 181 0, Value.ref 70, Value.none, Value.ref 71, Value.ref 72, Value.ref 73, Value.int 257 0, Value.int 26 0, Value.str (Str.ofString "/claim/cut.py") 258] }
noncomputable def o_75 (P : Params) : Obj := { cls := Value.type "function", data := Data.func { name := Str.ofString "__str__", qualname := Str.ofString "_Accumulator.__str__", params := { posonlyargs := [], args := [{ arg := Str.ofString "self", annotation := none, pos := { line := 26, col := 16, endLine := 26, endCol := 20 } }], vararg := none, kwonlyargs := [], kw_defaults := [], kwarg := none, defaults := [] }, body := FuncBody.stmts (bodyIn 3 5), scope := { kind := ScopeKind.function, names := [(Str.ofString "self", NameKind.local), (Str.ofString "EMPTYSTRING", NameKind.globalImplicit)], isGenerator := false, isCoroutine := false }, globals := 3, closure := [], defaults := Value.none, kwdefaults := Value.none, pyModule := Value.str (Str.ofString "cpy313.email.header") 194, code := Value.ref 74 } }
noncomputable def o_76 (P : Params) : Obj := { cls := Value.type "tuple", data := Data.seq #[Value.none] }
noncomputable def o_77 (P : Params) : Obj := { cls := Value.type "tuple", data := Data.seq #[] }
noncomputable def o_78 (P : Params) : Obj := { cls := Value.none, data := Data.fields #[] }
noncomputable def o_79 (P : Params) : Obj := { cls := Value.type "tuple", data := Data.seq #[Value.str (Str.ofString "self") 263, Value.str (Str.ofString "startval") 264] }
noncomputable def o_80 (P : Params) : Obj := { cls := Value.type "tuple", data := Data.seq #[] }
noncomputable def o_81 (P : Params) : Obj := { cls := Value.none, data := Data.func { name := Str.ofString "reset", qualname := Str.ofString "_Accumulator.reset", params := { posonlyargs := [], args := [{ arg := Str.ofString "self", annotation := none, pos := { line := 29, col := 14, endLine := 29, endCol := 18 } }, { arg := Str.ofString "startval", annotation := none, pos := { line := 29, col := 20, endLine := 29, endCol := 28 } }], vararg := none, kwonlyargs := [], kw_defaults := [], kwarg := none, defaults := [Expr.Constant Const.none 0 { line := 29, col := 29, endLine := 29, endCol := 33 }] }, body := FuncBody.stmts (bodyIn 3 6), scope := { kind := ScopeKind.function, names := [(Str.ofString "self", NameKind.local), (Str.ofString "startval", NameKind.local), (Str.ofString "_wall", NameKind.globalImplicit)], isGenerator := false, isCoroutine := false }, globals := 0, closure := [], defaults := Value.none, kwdefaults := Value.none } }
noncomputable def o_82 (P : Params) : Obj := { cls := Value.type "code", data := Data.fields #[Value.str (Str.ofString "reset") 260, Value.str (Str.ofString "_Accumulator.reset") 261, Value.str (Str.ofString "/claim/cut.py") 262, Value.int 29 0, Value.int 2 0, Value.int 0 0, Value.int 0 0, Value.int 3 0, Value.ref 77, Value.bool true, Value.int 181 0, Value.ref 78, Value.none, Value.ref 79, Value.ref 80, Value.ref 81, Value.int 265 0, Value.int 29 0, Value.str (Str.ofString "/claim/cut.py") 266] }
noncomputable def o_83 (P : Params) : Obj := { cls := Value.type "function", data := Data.func { name := Str.ofString "reset", qualname := Str.ofString "_Accumulator.reset", params := { posonlyargs := [], args := [{ arg := Str.ofString "self", annotation := none, pos := { line := 29, col := 14, endLine := 29, endCol := 18 } }, { arg := Str.ofString "startval", annotation := none, pos := { line := 29, col := 20, endLine := 29, endCol := 28 } }], vararg := none, kwonlyargs := [], kw_defaults := [], kwarg := none, defaults := [Expr.Constant Const.none 0 { line := 29, col := 29, endLine := 29, endCol := 33 }] }, body := FuncBody.stmts (bodyIn 3 6), scope := { kind := ScopeKind.function, names := [(Str.ofString "self", NameKind.local), (Str.ofString "startval", NameKind.local), (Str.ofString "_wall", NameKind.globalImplicit)], isGenerator := false, isCoroutine := false }, globals := 3, closure := [], defaults := Value.ref 76, kwdefaults := Value.none, pyModule := Value.str (Str.ofString "cpy313.email.header") 194, code := Value.ref 82 } }
noncomputable def o_84 (P : Params) : Obj := { cls := Value.type "tuple", data := Data.seq #[] }
noncomputable def o_85 (P : Params) : Obj := { cls := Value.none, data := Data.fields #[] }
noncomputable def o_86 (P : Params) : Obj := { cls := Value.type "tuple", data := Data.seq #[Value.str (Str.ofString "self") 271] }
noncomputable def o_87 (P : Params) : Obj := { cls := Value.type "tuple", data := Data.seq #[] }
noncomputable def o_88 (P : Params) : Obj := { cls := Value.none, data := Data.func { name := Str.ofString "is_onlyws", qualname := Str.ofString "_Accumulator.is_onlyws", params := { posonlyargs := [], args := [{ arg := Str.ofString "self", annotation := none, pos := { line := 32, col := 18, endLine := 32, endCol := 22 } }], vararg := none, kwonlyargs := [], kw_defaults := [], kwarg := none, defaults := [] }, body := FuncBody.stmts (bodyIn 3 7), scope := { kind := ScopeKind.function, names := [(Str.ofString "self", NameKind.local), (Str.ofString "str", NameKind.globalImplicit)], isGenerator := false, isCoroutine := false }, globals := 0, closure := [], defaults := Value.none, kwdefaults := Value.none } }
noncomputable def o_89 (P : Params) : Obj := { cls := Value.type "code", data := Data.fields #[Value.str (Str.ofString "is_onlyws") 268, Value.str (Str.ofString "_Accumulator.is_onlyws") 269, Value.str (Str.ofString "/claim/cut.py") 270, Value.int 32 0, Value.int 1 0, Value.int 0 0, Value.int 0 0, Value.int 3 0, Value.ref 84, Value.bool true, Value.int 181 0, Value.ref 85, Value.none, Value.ref 86, Value.ref 87, Value.ref 88, Value.int 272 0, Value.int 32 0, Value.str (Str.ofString "/claim/cut.py") 273] }
noncomputable def o_90 (P : Params) : Obj := { cls := Value.type "function", data := Data.func { name := Str.ofString "is_onlyws", qualname := Str.ofString "_Accumulator.is_onlyws", params := { posonlyargs := [], args := [{ arg := Str.ofString "self", annotation := none, pos := { line := 32, col := 18, endLine := 32, endCol := 22 } }], vararg := none, kwonlyargs := [], kw_defaults := [], kwarg := none, defaults := [] }, body := FuncBody.stmts (bodyIn 3 7), scope := { kind := ScopeKind.function, names := [(Str.ofString "self", NameKind.local), (Str.ofString "str", NameKind.globalImplicit)], isGenerator := false, isCoroutine := false }, globals := 3, closure := [], defaults := Value.none, kwdefaults := Value.none, pyModule := Value.str (Str.ofString "cpy313.email.header") 194, code := Value.ref 89 } }
noncomputable def o_91 (P : Params) : Obj := { cls := Value.type "tuple", data := Data.seq #[Value.ref 25] }
noncomputable def o_92 (P : Params) : Obj := { cls := Value.type "tuple", data := Data.seq #[Value.str (Str.ofString "__class__") 278] }
noncomputable def o_93 (P : Params) : Obj := { cls := Value.none, data := Data.fields #[] }
noncomputable def o_94 (P : Params) : Obj := { cls := Value.type "tuple", data := Data.seq #[Value.str (Str.ofString "self") 279] }
noncomputable def o_95 (P : Params) : Obj := { cls := Value.type "tuple", data := Data.seq #[] }
noncomputable def o_96 (P : Params) : Obj := { cls := Value.none, data := Data.func { name := Str.ofString "part_count", qualname := Str.ofString "_Accumulator.part_count", params := { posonlyargs := [], args := [{ arg := Str.ofString "self", annotation := none, pos := { line := 35, col := 19, endLine := 35, endCol := 23 } }], vararg := none, kwonlyargs := [], kw_defaults := [], kwarg := none, defaults := [] }, body := FuncBody.stmts (bodyIn 3 8), scope := { kind := ScopeKind.function, names := [(Str.ofString "self", NameKind.local), (Str.ofString "__class__", NameKind.free), (Str.ofString "super", NameKind.globalImplicit)], isGenerator := false, isCoroutine := false }, globals := 0, closure := [], defaults := Value.none, kwdefaults := Value.none } }
noncomputable def o_97 (P : Params) : Obj := { cls := Value.type "code", data := Data.fields #[Value.str (Str.ofString "part_count") 275, Value.str (Str.ofString "_Accumulator.part_count") 276, Value.str (Str.ofString "/claim/cut.py") 277, Value.int 35 0, Value.int 1 0, Value.int 0 0, Value.int 0 0, Value.int 3 0, Value.ref 92, Value.bool true, Value.int 181 0, Value.ref 93, Value.none, Value.ref 94, Value.ref 95, Value.ref 96, Value.int 280 0, Value.int 35 0, Value.str (Str.ofString "/claim/cut.py") 281] }
noncomputable def o_98 (P : Params) : Obj := { cls := Value.type "function", data := Data.func { name := Str.ofString "part_count", qualname := Str.ofString "_Accumulator.part_count", params := { posonlyargs := [], args := [{ arg := Str.ofString "self", annotation := none, pos := { line := 35, col := 19, endLine := 35, endCol := 23 } }], vararg := none, kwonlyargs := [], kw_defaults := [], kwarg := none, defaults := [] }, body := FuncBody.stmts (bodyIn 3 8), scope := { kind := ScopeKind.function, names := [(Str.ofString "self", NameKind.local), (Str.ofString "__class__", NameKind.free), (Str.ofString "super", NameKind.globalImplicit)], isGenerator := false, isCoroutine := false }, globals := 3, closure := [(Str.ofString "__class__", 25)], defaults := Value.none, kwdefaults := Value.none, pyModule := Value.str (Str.ofString "cpy313.email.header") 194, code := Value.ref 97, closureTuple := Value.ref 91 } }
noncomputable def o_99 (P : Params) : Obj := { cls := Value.type "tuple", data := Data.seq #[Value.str (Str.ofString "_initial_size") 283] }
noncomputable def o_100 (P : Params) : Obj := { cls := Value.type "dict", data := Data.dict #[{ hash := PyData.keyHash P (Str.ofString "__module__"), key := Value.str (Str.ofString "__module__") 205, val := Value.str (Str.ofString "cpy313.email.header") 194 }, { hash := PyData.keyHash P (Str.ofString "__firstlineno__"), key := Value.str (Str.ofString "__firstlineno__") 209, val := Value.int 6 208 }, { hash := PyData.keyHash P (Str.ofString "__init__"), key := Value.str (Str.ofString "__init__") 219, val := Value.ref 38 }, { hash := PyData.keyHash P (Str.ofString "push"), key := Value.str (Str.ofString "push") 228, val := Value.ref 45 }, { hash := PyData.keyHash P (Str.ofString "pop_from"), key := Value.str (Str.ofString "pop_from") 237, val := Value.ref 53 }, { hash := PyData.keyHash P (Str.ofString "pop"), key := Value.str (Str.ofString "pop") 245, val := Value.ref 61 }, { hash := PyData.keyHash P (Str.ofString "__len__"), key := Value.str (Str.ofString "__len__") 252, val := Value.ref 68 }, { hash := PyData.keyHash P (Str.ofString "__str__"), key := Value.str (Str.ofString "__str__") 259, val := Value.ref 75 }, { hash := PyData.keyHash P (Str.ofString "reset"), key := Value.str (Str.ofString "reset") 267, val := Value.ref 83 }, { hash := PyData.keyHash P (Str.ofString "is_onlyws"), key := Value.str (Str.ofString "is_onlyws") 274, val := Value.ref 90 }, { hash := PyData.keyHash P (Str.ofString "part_count"), key := Value.str (Str.ofString "part_count") 282, val := Value.ref 98 }, { hash := PyData.keyHash P (Str.ofString "__static_attributes__"), key := Value.str (Str.ofString "__static_attributes__") 284, val := Value.ref 99 }, { hash := PyData.keyHash P (Str.ofString "__dict__"), key := Value.str (Str.ofString "__dict__") 287, val := Value.ref 102 }, { hash := PyData.keyHash P (Str.ofString "__weakref__"), key := Value.str (Str.ofString "__weakref__") 289, val := Value.ref 103 }, { hash := PyData.keyHash P (Str.ofString "__doc__"), key := Value.str (Str.ofString "__doc__") 290, val := Value.none }] 5 }
noncomputable def o_101 (P : Params) : Obj := { cls := Value.type "type", data := Data.cls { name := Str.ofString "_Accumulator", bases := [Value.type "list"], mro := [Value.ref 101, Value.type "list", Value.type "object"], ns := 100, qualname := Str.ofString "_Accumulator" }, slots := #[some (Value.ref 22), none, some (Value.str (Str.ofString "_Accumulator") 198), some (Value.str (Str.ofString "_Accumulator") 206), some (Value.builtin "list.__new__"), some (Value.bool true)] }
noncomputable def o_102 (P : Params) : Obj := { cls := Value.type "getset_descriptor", data := Data.fields #[Value.str (Str.ofString "__dict__") 286, Value.ref 101, Value.builtin "function.__dict__", Value.builtin "function.__dict__#set"] }
noncomputable def o_103 (P : Params) : Obj := { cls := Value.type "getset_descriptor", data := Data.fields #[Value.str (Str.ofString "__weakref__") 288, Value.ref 101, Value.builtin "ExceptionGroup.__weakref__", Value.none] }
noncomputable def o_106 (P : Params) : Obj := { cls := Value.type "tuple", data := Data.seq #[] }
noncomputable def o_107 (P : Params) : Obj := { cls := Value.none, data := Data.fields #[] }
noncomputable def o_108 (P : Params) : Obj := { cls := Value.type "tuple", data := Data.seq #[Value.str (Str.ofString "r") 298, Value.str (Str.ofString "g") 299, Value.str (Str.ofString "b") 300, Value.str (Str.ofString "maxc") 301, Value.str (Str.ofString "minc") 302, Value.str (Str.ofString "sumc") 303, Value.str (Str.ofString "rangec") 304, Value.str (Str.ofString "l") 305, Value.str (Str.ofString "s") 306, Value.str (Str.ofString "rc") 307, Value.str (Str.ofString "gc") 308, Value.str (Str.ofString "bc") 309, Value.str (Str.ofString "h") 310] }
noncomputable def o_109 (P : Params) : Obj := { cls := Value.type "tuple", data := Data.seq #[] }
noncomputable def o_110 (P : Params) : Obj := { cls := Value.none, data := Data.func { name := Str.ofString "rgb_to_hls", qualname := Str.ofString "rgb_to_hls", params := { posonlyargs := [], args := [{ arg := Str.ofString "r", annotation := none, pos := { line := 38, col := 15, endLine := 38, endCol := 16 } }, { arg := Str.ofString "g", annotation := none, pos := { line := 38, col := 18, endLine := 38, endCol := 19 } }, { arg := Str.ofString "b", annotation := none, pos := { line := 38, col := 21, endLine := 38, endCol := 22 } }], vararg := none, kwonlyargs := [], kw_defaults := [], kwarg := none, defaults := [] }, body := FuncBody.stmts (bodyAt 5), scope := { kind := ScopeKind.function, names := [(Str.ofString "r", NameKind.local), (Str.ofString "g", NameKind.local), (Str.ofString "b", NameKind.local), (Str.ofString "maxc", NameKind.local), (Str.ofString "minc", NameKind.local), (Str.ofString "sumc", NameKind.local), (Str.ofString "rangec", NameKind.local), (Str.ofString "l", NameKind.local), (Str.ofString "s", NameKind.local), (Str.ofString "rc", NameKind.local), (Str.ofString "gc", NameKind.local), (Str.ofString "bc", NameKind.local), (Str.ofString "h", NameKind.local), (Str.ofString "max", NameKind.globalImplicit), (Str.ofString "min", NameKind.globalImplicit)], isGenerator := false, isCoroutine := false }, globals := 0, closure := [], defaults := Value.none, kwdefaults := Value.none } }
noncomputable def o_111 (P : Params) : Obj := { cls := Value.type "code", data := Data.fields #[Value.str (Str.ofString "rgb_to_hls") 295, Value.str (Str.ofString "rgb_to_hls") 296, Value.str (Str.ofString "/claim/cut.py") 297, Value.int 38 0, Value.int 3 0, Value.int 0 0, Value.int 0 0, Value.int 3 0, Value.ref 106, Value.bool true, Value.int 181 0, Value.ref 107, Value.none, Value.ref 108, Value.ref 109, Value.ref 110, Value.int 311 0, Value.int 38 0, Value.str (Str.ofString "/claim/cut.py") 312] }
noncomputable def o_112 (P : Params) : Obj := { cls := Value.type "function", data := Data.func { name := Str.ofString "rgb_to_hls", qualname := Str.ofString "rgb_to_hls", params := { posonlyargs := [], args := [{ arg := Str.ofString "r", annotation := none, pos := { line := 38, col := 15, endLine := 38, endCol := 16 } }, { arg := Str.ofString "g", annotation := none, pos := { line := 38, col := 18, endLine := 38, endCol := 19 } }, { arg := Str.ofString "b", annotation := none, pos := { line := 38, col := 21, endLine := 38, endCol := 22 } }], vararg := none, kwonlyargs := [], kw_defaults := [], kwarg := none, defaults := [] }, body := FuncBody.stmts (bodyAt 5), scope := { kind := ScopeKind.function, names := [(Str.ofString "r", NameKind.local), (Str.ofString "g", NameKind.local), (Str.ofString "b", NameKind.local), (Str.ofString "maxc", NameKind.local), (Str.ofString "minc", NameKind.local), (Str.ofString "sumc", NameKind.local), (Str.ofString "rangec", NameKind.local), (Str.ofString "l", NameKind.local), (Str.ofString "s", NameKind.local), (Str.ofString "rc", NameKind.local), (Str.ofString "gc", NameKind.local), (Str.ofString "bc", NameKind.local), (Str.ofString "h", NameKind.local), (Str.ofString "max", NameKind.globalImplicit), (Str.ofString "min", NameKind.globalImplicit)], isGenerator := false, isCoroutine := false }, globals := 3, closure := [], defaults := Value.none, kwdefaults := Value.none, pyModule := Value.str (Str.ofString "cpy313.colorsys") 293, code := Value.ref 111 } }
noncomputable def o_113 (P : Params) : Obj := { cls := Value.type "tuple", data := Data.seq #[] }
noncomputable def o_114 (P : Params) : Obj := { cls := Value.none, data := Data.fields #[] }
noncomputable def o_115 (P : Params) : Obj := { cls := Value.type "tuple", data := Data.seq #[Value.str (Str.ofString "h") 317, Value.str (Str.ofString "s") 318, Value.str (Str.ofString "v") 319, Value.str (Str.ofString "i") 320, Value.str (Str.ofString "f") 321, Value.str (Str.ofString "p") 322, Value.str (Str.ofString "q") 323, Value.str (Str.ofString "t") 324] }
noncomputable def o_116 (P : Params) : Obj := { cls := Value.type "tuple", data := Data.seq #[] }
noncomputable def o_117 (P : Params) : Obj := { cls := Value.none, data := Data.func { name := Str.ofString "hsv_to_rgb", qualname := Str.ofString "hsv_to_rgb", params := { posonlyargs := [], args := [{ arg := Str.ofString "h", annotation := none, pos := { line := 61, col := 15, endLine := 61, endCol := 16 } }, { arg := Str.ofString "s", annotation := none, pos := { line := 61, col := 18, endLine := 61, endCol := 19 } }, { arg := Str.ofString "v", annotation := none, pos := { line := 61, col := 21, endLine := 61, endCol := 22 } }], vararg := none, kwonlyargs := [], kw_defaults := [], kwarg := none, defaults := [] }, body := FuncBody.stmts (bodyAt 6), scope := { kind := ScopeKind.function, names := [(Str.ofString "h", NameKind.local), (Str.ofString "s", NameKind.local), (Str.ofString "v", NameKind.local), (Str.ofString "i", NameKind.local), (Str.ofString "f", NameKind.local), (Str.ofString "p", NameKind.local), (Str.ofString "q", NameKind.local), (Str.ofString "t", NameKind.local), (Str.ofString "int", NameKind.globalImplicit)], isGenerator := false, isCoroutine := false }, globals := 0, closure := [], defaults := Value.none, kwdefaults := Value.none } }
noncomputable def o_118 (P : Params) : Obj := { cls := Value.type "code", data := Data.fields #[Value.str (Str.ofString "hsv_to_rgb") 314, Value.str (Str.ofString "hsv_to_rgb") 315, Value.str (Str.ofString "/claim/cut.py") 316, Value.int 61 0, Value.int 3 0, Value.int 0 0, Value.int 0 0, Value.int 3 0, Value.ref 113, Value.bool true, Value.int 181 0, Value.ref 114, Value.none, Value.ref 115, Value.ref 116, Value.ref 117, Value.int 325 0, Value.int 61 0, Value.str (Str.ofString "/claim/cut.py") 326] }
noncomputable def o_119 (P : Params) : Obj := { cls := Value.type "function", data := Data.func { name := Str.ofString "hsv_to_rgb", qualname := Str.ofString "hsv_to_rgb", params := { posonlyargs := [], args := [{ arg := Str.ofString "h", annotation := none, pos := { line := 61, col := 15, endLine := 61, endCol := 16 } }, { arg := Str.ofString "s", annotation := none, pos := { line := 61, col := 18, endLine := 61, endCol := 19 } }, { arg := Str.ofString "v", annotation := none, pos := { line := 61, col := 21, endLine := 61, endCol := 22 } }], vararg := none, kwonlyargs := [], kw_defaults := [], kwarg := none, defaults := [] }, body := FuncBody.stmts (bodyAt 6), scope := { kind := ScopeKind.function, names := [(Str.ofString "h", NameKind.local), (Str.ofString "s", NameKind.local), (Str.ofString "v", NameKind.local), (Str.ofString "i", NameKind.local), (Str.ofString "f", NameKind.local), (Str.ofString "p", NameKind.local), (Str.ofString "q", NameKind.local), (Str.ofString "t", NameKind.local), (Str.ofString "int", NameKind.globalImplicit)], isGenerator := false, isCoroutine := false }, globals := 3, closure := [], defaults := Value.none, kwdefaults := Value.none, pyModule := Value.str (Str.ofString "cpy313.colorsys") 293, code := Value.ref 118 } }
noncomputable def o_131 (P : Params) : Obj := { cls := Value.type "tuple", data := Data.seq #[] }
noncomputable def o_132 (P : Params) : Obj := { cls := Value.none, data := Data.fields #[] }
noncomputable def o_133 (P : Params) : Obj := { cls := Value.type "tuple", data := Data.seq #[Value.str (Str.ofString "code") 393] }
noncomputable def o_134 (P : Params) : Obj := { cls := Value.type "tuple", data := Data.seq #[] }
noncomputable def o_135 (P : Params) : Obj := { cls := Value.none, data := Data.func { name := Str.ofString "in_table_b1", qualname := Str.ofString "in_table_b1", params := { posonlyargs := [], args := [{ arg := Str.ofString "code", annotation := none, pos := { line := 84, col := 16, endLine := 84, endCol := 20 } }], vararg := none, kwonlyargs := [], kw_defaults := [], kwarg := none, defaults := [] }, body := FuncBody.stmts (bodyAt 9), scope := { kind := ScopeKind.function, names := [(Str.ofString "code", NameKind.local), (Str.ofString "ord", NameKind.globalImplicit), (Str.ofString "b1_set", NameKind.globalImplicit)], isGenerator := false, isCoroutine := false }, globals := 0, closure := [], defaults := Value.none, kwdefaults := Value.none } }
noncomputable def o_136 (P : Params) : Obj := { cls := Value.type "code", data := Data.fields #[Value.str (Str.ofString "in_table_b1") 390, Value.str (Str.ofString "in_table_b1") 391, Value.str (Str.ofString "/claim/cut.py") 392, Value.int 84 0, Value.int 1 0, Value.int 0 0, Value.int 0 0, Value.int 3 0, Value.ref 131, Value.bool true, Value.int 181 0, Value.ref 132, Value.none, Value.ref 133, Value.ref 134, Value.ref 135, Value.int 394 0, Value.int 84 0, Value.str (Str.ofString "/claim/cut.py") 395] }
noncomputable def o_137 (P : Params) : Obj := { cls := Value.type "function", data := Data.func { name := Str.ofString "in_table_b1", qualname := Str.ofString "in_table_b1", params := { posonlyargs := [], args := [{ arg := Str.ofString "code", annotation := none, pos := { line := 84, col := 16, endLine := 84, endCol := 20 } }], vararg := none, kwonlyargs := [], kw_defaults := [], kwarg := none, defaults := [] }, body := FuncBody.stmts (bodyAt 9), scope := { kind := ScopeKind.function, names := [(Str.ofString "code", NameKind.local), (Str.ofString "ord", NameKind.globalImplicit), (Str.ofString "b1_set", NameKind.globalImplicit)], isGenerator := false, isCoroutine := false }, globals := 3, closure := [], defaults := Value.none, kwdefaults := Value.none, pyModule := Value.str (Str.ofString "cpy313.stringprep") 328, code := Value.ref 136 } }
noncomputable def o_177 (P : Params) : Obj := { cls := Value.type "tuple", data := Data.seq #[] }
noncomputable def o_178 (P : Params) : Obj := { cls := Value.none, data := Data.fields #[] }
noncomputable def o_179 (P : Params) : Obj := { cls := Value.type "tuple", data := Data.seq #[Value.str (Str.ofString "code") 2351, Value.str (Str.ofString "r") 2352] }
noncomputable def o_180 (P : Params) : Obj := { cls := Value.type "tuple", data := Data.seq #[] }
noncomputable def o_181 (P : Params) : Obj := { cls := Value.none, data := Data.func { name := Str.ofString "map_table_b3", qualname := Str.ofString "map_table_b3", params := { posonlyargs := [], args := [{ arg := Str.ofString "code", annotation := none, pos := { line := 87, col := 17, endLine := 87, endCol := 21 } }], vararg := none, kwonlyargs := [], kw_defaults := [], kwarg := none, defaults := [] }, body := FuncBody.stmts (bodyAt 11), scope := { kind := ScopeKind.function, names := [(Str.ofString "code", NameKind.local), (Str.ofString "r", NameKind.local), (Str.ofString "b3_exceptions", NameKind.globalImplicit), (Str.ofString "ord", NameKind.globalImplicit)], isGenerator := false, isCoroutine := false }, globals := 0, closure := [], defaults := Value.none, kwdefaults := Value.none } }
noncomputable def o_182 (P : Params) : Obj := { cls := Value.type "code", data := Data.fields #[Value.str (Str.ofString "map_table_b3") 2348, Value.str (Str.ofString "map_table_b3") 2349, Value.str (Str.ofString "/claim/cut.py") 2350, Value.int 87 0, Value.int 1 0, Value.int 0 0, Value.int 0 0, Value.int 3 0, Value.ref 177, Value.bool true, Value.int 181 0, Value.ref 178, Value.none, Value.ref 179, Value.ref 180, Value.ref 181, Value.int 2353 0, Value.int 87 0, Value.str (Str.ofString "/claim/cut.py") 2354] }
noncomputable def o_183 (P : Params) : Obj := { cls := Value.type "function", data := Data.func { name := Str.ofString "map_table_b3", qualname := Str.ofString "map_table_b3", params := { posonlyargs := [], args := [{ arg := Str.ofString "code", annotation := none, pos := { line := 87, col := 17, endLine := 87, endCol := 21 } }], vararg := none, kwonlyargs := [], kw_defaults := [], kwarg := none, defaults := [] }, body := FuncBody.stmts (bodyAt 11), scope := { kind := ScopeKind.function, names := [(Str.ofString "code", NameKind.local), (Str.ofString "r", NameKind.local), (Str.ofString "b3_exceptions", NameKind.globalImplicit), (Str.ofString "ord", NameKind.globalImplicit)], isGenerator := false, isCoroutine := false }, globals := 3, closure := [], defaults := Value.none, kwdefaults := Value.none, pyModule := Value.str (Str.ofString "cpy313.stringprep") 328, code := Value.ref 182 } }
noncomputable def o_184 (P : Params) : Obj := { cls := Value.type "tuple", data := Data.seq #[] }
noncomputable def o_185 (P : Params) : Obj := { cls := Value.none, data := Data.fields #[] }
noncomputable def o_186 (P : Params) : Obj := { cls := Value.type "tuple", data := Data.seq #[Value.str (Str.ofString "spot") 2361, Value.str (Str.ofString "k") 2362, Value.str (Str.ofString "form") 2363, Value.str (Str.ofString "bases") 2364, Value.str (Str.ofString "signs") 2365, Value.str (Str.ofString "place") 2366] }
noncomputable def o_187 (P : Params) : Obj := { cls := Value.type "tuple", data := Data.seq #[] }
noncomputable def o_188 (P : Params) : Obj := { cls := Value.none, data := Data.func { name := Str.ofString "_law_spelled", qualname := Str.ofString "_law_spelled", params := { posonlyargs := [], args := [{ arg := Str.ofString "spot", annotation := none, pos := { line := 93, col := 17, endLine := 93, endCol := 21 } }, { arg := Str.ofString "k", annotation := none, pos := { line := 93, col := 23, endLine := 93, endCol := 24 } }, { arg := Str.ofString "form", annotation := none, pos := { line := 93, col := 26, endLine := 93, endCol := 30 } }], vararg := none, kwonlyargs := [], kw_defaults := [], kwarg := none, defaults := [] }, body := FuncBody.stmts (bodyAt 13), scope := { kind := ScopeKind.function, names := [(Str.ofString "spot", NameKind.local), (Str.ofString "k", NameKind.local), (Str.ofString "form", NameKind.local), (Str.ofString "bases", NameKind.local), (Str.ofString "signs", NameKind.local), (Str.ofString "place", NameKind.local), (Str.ofString "chr", NameKind.globalImplicit), (Str.ofString "range", NameKind.globalImplicit)], isGenerator := false, isCoroutine := false }, globals := 0, closure := [], defaults := Value.none, kwdefaults := Value.none } }
noncomputable def o_189 (P : Params) : Obj := { cls := Value.type "code", data := Data.fields #[Value.str (Str.ofString "_law_spelled") 2358, Value.str (Str.ofString "_law_spelled") 2359, Value.str (Str.ofString "/claim/cut.py") 2360, Value.int 93 0, Value.int 3 0, Value.int 0 0, Value.int 0 0, Value.int 3 0, Value.ref 184, Value.bool true, Value.int 181 0, Value.ref 185, Value.none, Value.ref 186, Value.ref 187, Value.ref 188, Value.int 2367 0, Value.int 93 0, Value.str (Str.ofString "/claim/cut.py") 2368] }
noncomputable def o_190 (P : Params) : Obj := { cls := Value.type "function", data := Data.func { name := Str.ofString "_law_spelled", qualname := Str.ofString "_law_spelled", params := { posonlyargs := [], args := [{ arg := Str.ofString "spot", annotation := none, pos := { line := 93, col := 17, endLine := 93, endCol := 21 } }, { arg := Str.ofString "k", annotation := none, pos := { line := 93, col := 23, endLine := 93, endCol := 24 } }, { arg := Str.ofString "form", annotation := none, pos := { line := 93, col := 26, endLine := 93, endCol := 30 } }], vararg := none, kwonlyargs := [], kw_defaults := [], kwarg := none, defaults := [] }, body := FuncBody.stmts (bodyAt 13), scope := { kind := ScopeKind.function, names := [(Str.ofString "spot", NameKind.local), (Str.ofString "k", NameKind.local), (Str.ofString "form", NameKind.local), (Str.ofString "bases", NameKind.local), (Str.ofString "signs", NameKind.local), (Str.ofString "place", NameKind.local), (Str.ofString "chr", NameKind.globalImplicit), (Str.ofString "range", NameKind.globalImplicit)], isGenerator := false, isCoroutine := false }, globals := 3, closure := [], defaults := Value.none, kwdefaults := Value.none, pyModule := Value.str (Str.ofString "law_tr0061_01") 2356, code := Value.ref 189 } }
noncomputable def o_191 (P : Params) : Obj := { cls := Value.type "tuple", data := Data.seq #[] }
noncomputable def o_192 (P : Params) : Obj := { cls := Value.none, data := Data.fields #[] }
noncomputable def o_193 (P : Params) : Obj := { cls := Value.none, data := Data.func { name := Str.ofString "_law_row", qualname := Str.ofString "_law_row", params := { posonlyargs := [], args := [{ arg := Str.ofString "spot", annotation := none, pos := { line := 102, col := 13, endLine := 102, endCol := 17 } }, { arg := Str.ofString "form", annotation := none, pos := { line := 102, col := 19, endLine := 102, endCol := 23 } }], vararg := none, kwonlyargs := [], kw_defaults := [], kwarg := none, defaults := [] }, body := FuncBody.stmts (bodyAt 14), scope := { kind := ScopeKind.function, names := [(Str.ofString "spot", NameKind.local), (Str.ofString "form", NameKind.local), (Str.ofString "row", NameKind.local), (Str.ofString "signs", NameKind.local), (Str.ofString "_Accumulator", NameKind.globalImplicit), (Str.ofString "_law_spelled", NameKind.globalImplicit)], isGenerator := false, isCoroutine := false, more := [(Str.ofString "fast", Const.str (Str.ofString "spot")), (Str.ofString "fast", Const.str (Str.ofString "form")), (Str.ofString "fast", Const.str (Str.ofString "row")), (Str.ofString "fast", Const.str (Str.ofString "signs")), (Str.ofString "fast", Const.str (Str.ofString "sign"))] }, globals := 0, closure := [], defaults := Value.none, kwdefaults := Value.none } }
noncomputable def o_194 (P : Params) : Obj := { cls := Value.type "code", data := Data.fields #[Value.str (Str.ofString "_law_row") 2370, Value.str (Str.ofString "_law_row") 2371, Value.str (Str.ofString "/claim/cut.py") 2372, Value.int 102 0, Value.int 2 0, Value.int 0 0, Value.int 0 0, Value.int 3 0, Value.ref 191, Value.bool true, Value.int 181 0, Value.ref 192, Value.none, Value.none, Value.none, Value.ref 193, Value.int 2373 0, Value.int 102 0, Value.str (Str.ofString "/claim/cut.py") 2374] }
noncomputable def o_195 (P : Params) : Obj := { cls := Value.type "function", data := Data.func { name := Str.ofString "_law_row", qualname := Str.ofString "_law_row", params := { posonlyargs := [], args := [{ arg := Str.ofString "spot", annotation := none, pos := { line := 102, col := 13, endLine := 102, endCol := 17 } }, { arg := Str.ofString "form", annotation := none, pos := { line := 102, col := 19, endLine := 102, endCol := 23 } }], vararg := none, kwonlyargs := [], kw_defaults := [], kwarg := none, defaults := [] }, body := FuncBody.stmts (bodyAt 14), scope := { kind := ScopeKind.function, names := [(Str.ofString "spot", NameKind.local), (Str.ofString "form", NameKind.local), (Str.ofString "row", NameKind.local), (Str.ofString "signs", NameKind.local), (Str.ofString "_Accumulator", NameKind.globalImplicit), (Str.ofString "_law_spelled", NameKind.globalImplicit)], isGenerator := false, isCoroutine := false, more := [(Str.ofString "fast", Const.str (Str.ofString "spot")), (Str.ofString "fast", Const.str (Str.ofString "form")), (Str.ofString "fast", Const.str (Str.ofString "row")), (Str.ofString "fast", Const.str (Str.ofString "signs")), (Str.ofString "fast", Const.str (Str.ofString "sign"))] }, globals := 3, closure := [], defaults := Value.none, kwdefaults := Value.none, pyModule := Value.str (Str.ofString "law_tr0061_01") 2356, code := Value.ref 194 } }
noncomputable def o_196 (P : Params) : Obj := { cls := Value.type "tuple", data := Data.seq #[] }
noncomputable def o_197 (P : Params) : Obj := { cls := Value.none, data := Data.fields #[] }
noncomputable def o_198 (P : Params) : Obj := { cls := Value.type "tuple", data := Data.seq #[Value.str (Str.ofString "n") 2379] }
noncomputable def o_199 (P : Params) : Obj := { cls := Value.type "tuple", data := Data.seq #[] }
noncomputable def o_200 (P : Params) : Obj := { cls := Value.none, data := Data.func { name := Str.ofString "_law_low", qualname := Str.ofString "_law_low", params := { posonlyargs := [], args := [{ arg := Str.ofString "n", annotation := none, pos := { line := 108, col := 13, endLine := 108, endCol := 14 } }], vararg := none, kwonlyargs := [], kw_defaults := [], kwarg := none, defaults := [] }, body := FuncBody.stmts (bodyAt 15), scope := { kind := ScopeKind.function, names := [(Str.ofString "n", NameKind.local)], isGenerator := false, isCoroutine := false }, globals := 0, closure := [], defaults := Value.none, kwdefaults := Value.none } }
noncomputable def o_201 (P : Params) : Obj := { cls := Value.type "code", data := Data.fields #[Value.str (Str.ofString "_law_low") 2376, Value.str (Str.ofString "_law_low") 2377, Value.str (Str.ofString "/claim/cut.py") 2378, Value.int 108 0, Value.int 1 0, Value.int 0 0, Value.int 0 0, Value.int 3 0, Value.ref 196, Value.bool true, Value.int 181 0, Value.ref 197, Value.none, Value.ref 198, Value.ref 199, Value.ref 200, Value.int 2380 0, Value.int 108 0, Value.str (Str.ofString "/claim/cut.py") 2381] }
noncomputable def o_202 (P : Params) : Obj := { cls := Value.type "function", data := Data.func { name := Str.ofString "_law_low", qualname := Str.ofString "_law_low", params := { posonlyargs := [], args := [{ arg := Str.ofString "n", annotation := none, pos := { line := 108, col := 13, endLine := 108, endCol := 14 } }], vararg := none, kwonlyargs := [], kw_defaults := [], kwarg := none, defaults := [] }, body := FuncBody.stmts (bodyAt 15), scope := { kind := ScopeKind.function, names := [(Str.ofString "n", NameKind.local)], isGenerator := false, isCoroutine := false }, globals := 3, closure := [], defaults := Value.none, kwdefaults := Value.none, pyModule := Value.str (Str.ofString "law_tr0061_01") 2356, code := Value.ref 201 } }
noncomputable def o_203 (P : Params) : Obj := { cls := Value.type "tuple", data := Data.seq #[] }
noncomputable def o_204 (P : Params) : Obj := { cls := Value.none, data := Data.fields #[] }
noncomputable def o_205 (P : Params) : Obj := { cls := Value.none, data := Data.func { name := Str.ofString "_law_is_grey", qualname := Str.ofString "_law_is_grey", params := { posonlyargs := [], args := [{ arg := Str.ofString "paints", annotation := none, pos := { line := 110, col := 17, endLine := 110, endCol := 23 } }, { arg := Str.ofString "face", annotation := none, pos := { line := 110, col := 25, endLine := 110, endCol := 29 } }], vararg := none, kwonlyargs := [], kw_defaults := [], kwarg := none, defaults := [] }, body := FuncBody.stmts (bodyAt 16), scope := { kind := ScopeKind.function, names := [(Str.ofString "paints", NameKind.cell), (Str.ofString "face", NameKind.cell), (Str.ofString "lights", NameKind.local), (Str.ofString "range", NameKind.globalImplicit), (Str.ofString "rgb_to_hls", NameKind.globalImplicit)], isGenerator := false, isCoroutine := false, more := [(Str.ofString "fast", Const.str (Str.ofString "paints")), (Str.ofString "fast", Const.str (Str.ofString "face")), (Str.ofString "fast", Const.str (Str.ofString "c")), (Str.ofString "fast", Const.str (Str.ofString "i")), (Str.ofString "fast", Const.str (Str.ofString "lights"))] }, globals := 0, closure := [], defaults := Value.none, kwdefaults := Value.none } }
noncomputable def o_206 (P : Params) : Obj := { cls := Value.type "code", data := Data.fields #[Value.str (Str.ofString "_law_is_grey") 2383, Value.str (Str.ofString "_law_is_grey") 2384, Value.str (Str.ofString "/claim/cut.py") 2385, Value.int 110 0, Value.int 2 0, Value.int 0 0, Value.int 0 0, Value.int 3 0, Value.ref 203, Value.bool true, Value.int 181 0, Value.ref 204, Value.none, Value.none, Value.none, Value.ref 205, Value.int 2386 0, Value.int 110 0, Value.str (Str.ofString "/claim/cut.py") 2387] }
noncomputable def o_207 (P : Params) : Obj := { cls := Value.type "function", data := Data.func { name := Str.ofString "_law_is_grey", qualname := Str.ofString "_law_is_grey", params := { posonlyargs := [], args := [{ arg := Str.ofString "paints", annotation := none, pos := { line := 110, col := 17, endLine := 110, endCol := 23 } }, { arg := Str.ofString "face", annotation := none, pos := { line := 110, col := 25, endLine := 110, endCol := 29 } }], vararg := none, kwonlyargs := [], kw_defaults := [], kwarg := none, defaults := [] }, body := FuncBody.stmts (bodyAt 16), scope := { kind := ScopeKind.function, names := [(Str.ofString "paints", NameKind.cell), (Str.ofString "face", NameKind.cell), (Str.ofString "lights", NameKind.local), (Str.ofString "range", NameKind.globalImplicit), (Str.ofString "rgb_to_hls", NameKind.globalImplicit)], isGenerator := false, isCoroutine := false, more := [(Str.ofString "fast", Const.str (Str.ofString "paints")), (Str.ofString "fast", Const.str (Str.ofString "face")), (Str.ofString "fast", Const.str (Str.ofString "c")), (Str.ofString "fast", Const.str (Str.ofString "i")), (Str.ofString "fast", Const.str (Str.ofString "lights"))] }, globals := 3, closure := [], defaults := Value.none, kwdefaults := Value.none, pyModule := Value.str (Str.ofString "law_tr0061_01") 2356, code := Value.ref 206 } }
noncomputable def o_208 (P : Params) : Obj := { cls := Value.type "tuple", data := Data.seq #[] }
noncomputable def o_209 (P : Params) : Obj := { cls := Value.none, data := Data.fields #[] }
noncomputable def o_210 (P : Params) : Obj := { cls := Value.type "tuple", data := Data.seq #[Value.str (Str.ofString "a") 2392, Value.str (Str.ofString "b") 2393, Value.str (Str.ofString "c") 2394] }
noncomputable def o_211 (P : Params) : Obj := { cls := Value.type "tuple", data := Data.seq #[] }
noncomputable def o_212 (P : Params) : Obj := { cls := Value.none, data := Data.func { name := Str.ofString "_law_determinant", qualname := Str.ofString "_law_determinant", params := { posonlyargs := [], args := [{ arg := Str.ofString "a", annotation := none, pos := { line := 113, col := 21, endLine := 113, endCol := 22 } }, { arg := Str.ofString "b", annotation := none, pos := { line := 113, col := 24, endLine := 113, endCol := 25 } }, { arg := Str.ofString "c", annotation := none, pos := { line := 113, col := 27, endLine := 113, endCol := 28 } }], vararg := none, kwonlyargs := [], kw_defaults := [], kwarg := none, defaults := [] }, body := FuncBody.stmts (bodyAt 17), scope := { kind := ScopeKind.function, names := [(Str.ofString "a", NameKind.local), (Str.ofString "b", NameKind.local), (Str.ofString "c", NameKind.local)], isGenerator := false, isCoroutine := false }, globals := 0, closure := [], defaults := Value.none, kwdefaults := Value.none } }
noncomputable def o_213 (P : Params) : Obj := { cls := Value.type "code", data := Data.fields #[Value.str (Str.ofString "_law_determinant") 2389, Value.str (Str.ofString "_law_determinant") 2390, Value.str (Str.ofString "/claim/cut.py") 2391, Value.int 113 0, Value.int 3 0, Value.int 0 0, Value.int 0 0, Value.int 3 0, Value.ref 208, Value.bool true, Value.int 181 0, Value.ref 209, Value.none, Value.ref 210, Value.ref 211, Value.ref 212, Value.int 2395 0, Value.int 113 0, Value.str (Str.ofString "/claim/cut.py") 2396] }
noncomputable def o_214 (P : Params) : Obj := { cls := Value.type "function", data := Data.func { name := Str.ofString "_law_determinant", qualname := Str.ofString "_law_determinant", params := { posonlyargs := [], args := [{ arg := Str.ofString "a", annotation := none, pos := { line := 113, col := 21, endLine := 113, endCol := 22 } }, { arg := Str.ofString "b", annotation := none, pos := { line := 113, col := 24, endLine := 113, endCol := 25 } }, { arg := Str.ofString "c", annotation := none, pos := { line := 113, col := 27, endLine := 113, endCol := 28 } }], vararg := none, kwonlyargs := [], kw_defaults := [], kwarg := none, defaults := [] }, body := FuncBody.stmts (bodyAt 17), scope := { kind := ScopeKind.function, names := [(Str.ofString "a", NameKind.local), (Str.ofString "b", NameKind.local), (Str.ofString "c", NameKind.local)], isGenerator := false, isCoroutine := false }, globals := 3, closure := [], defaults := Value.none, kwdefaults := Value.none, pyModule := Value.str (Str.ofString "law_tr0061_01") 2356, code := Value.ref 213 } }
noncomputable def o_215 (P : Params) : Obj := { cls := Value.type "tuple", data := Data.seq #[] }
noncomputable def o_216 (P : Params) : Obj := { cls := Value.none, data := Data.fields #[] }
noncomputable def o_217 (P : Params) : Obj := { cls := Value.none, data := Data.func { name := Str.ofString "law", qualname := Str.ofString "law", params := { posonlyargs := [], args := [{ arg := Str.ofString "script", annotation := none, pos := { line := 115, col := 8, endLine := 115, endCol := 14 } }], vararg := none, kwonlyargs := [], kw_defaults := [], kwarg := none, defaults := [] }, body := FuncBody.stmts (bodyAt 18), scope := { kind := ScopeKind.function, names := [(Str.ofString "script", NameKind.local), (Str.ofString "given", NameKind.local), (Str.ofString "drawn", NameKind.local), (Str.ofString "spots", NameKind.cell), (Str.ofString "faces", NameKind.local), (Str.ofString "lines", NameKind.local), (Str.ofString "q", NameKind.local), (Str.ofString "face", NameKind.cell), (Str.ofString "kind", NameKind.local), (Str.ofString "shares", NameKind.cell), (Str.ofString "i", NameKind.cell), (Str.ofString "new", NameKind.local), (Str.ofString "pieces", NameKind.local), (Str.ofString "marks", NameKind.cell), (Str.ofString "paints", NameKind.local), (Str.ofString "row", NameKind.local), (Str.ofString "least", NameKind.cell), (Str.ofString "due", NameKind.local), (Str.ofString "blanks", NameKind.local), (Str.ofString "greys", NameKind.local), (Str.ofString "told", NameKind.local), (Str.ofString "area", NameKind.local), (Str.ofString "worth", NameKind.local), (Str.ofString "len", NameKind.globalImplicit), (Str.ofString "tuple", NameKind.globalImplicit), (Str.ofString "range", NameKind.globalImplicit), (Str.ofString "_law_row", NameKind.globalImplicit), (Str.ofString "min", NameKind.globalImplicit), (Str.ofString "str", NameKind.globalImplicit), (Str.ofString "hsv_to_rgb", NameKind.globalImplicit), (Str.ofString "_law_is_grey", NameKind.globalImplicit), (Str.ofString "sorted", NameKind.globalImplicit), (Str.ofString "abs", NameKind.globalImplicit), (Str.ofString "_law_determinant", NameKind.globalImplicit), (Str.ofString "_law_low", NameKind.globalImplicit)], isGenerator := false, isCoroutine := false, more := [(Str.ofString "fast", Const.str (Str.ofString "script")), (Str.ofString "fast", Const.str (Str.ofString "given")), (Str.ofString "fast", Const.str (Str.ofString "x")), (Str.ofString "fast", Const.str (Str.ofString "drawn")), (Str.ofString "fast", Const.str (Str.ofString "spots")), (Str.ofString "fast", Const.str (Str.ofString "faces")), (Str.ofString "fast", Const.str (Str.ofString "lines")), (Str.ofString "fast", Const.str (Str.ofString "q")), (Str.ofString "fast", Const.str (Str.ofString "face")), (Str.ofString "fast", Const.str (Str.ofString "kind")), (Str.ofString "fast", Const.str (Str.ofString "shares")), (Str.ofString "fast", Const.str (Str.ofString "c")), (Str.ofString "fast", Const.str (Str.ofString "i")), (Str.ofString "fast", Const.str (Str.ofString "new")), (Str.ofString "fast", Const.str (Str.ofString "pieces")), (Str.ofString "fast", Const.str (Str.ofString "marks")), (Str.ofString "fast", Const.str (Str.ofString "paints")), (Str.ofString "fast", Const.str (Str.ofString "row")), (Str.ofString "fast", Const.str (Str.ofString "n")), (Str.ofString "fast", Const.str (Str.ofString "least")), (Str.ofString "fast", Const.str (Str.ofString "due")), (Str.ofString "fast", Const.str (Str.ofString "blanks")), (Str.ofString "fast", Const.str (Str.ofString "greys")), (Str.ofString "fast", Const.str (Str.ofString "told")), (Str.ofString "fast", Const.str (Str.ofString "area")), (Str.ofString "fast", Const.str (Str.ofString "worth"))] }, globals := 0, closure := [], defaults := Value.none, kwdefaults := Value.none } }
noncomputable def o_218 (P : Params) : Obj := { cls := Value.type "code", data := Data.fields #[Value.str (Str.ofString "law") 2398, Value.str (Str.ofString "law") 2399, Value.str (Str.ofString "/claim/cut.py") 2400, Value.int 115 0, Value.int 1 0, Value.int 0 0, Value.int 0 0, Value.int 3 0, Value.ref 215, Value.bool true, Value.int 181 0, Value.ref 216, Value.none, Value.none, Value.none, Value.ref 217, Value.int 2401 0, Value.int 115 0, Value.str (Str.ofString "/claim/cut.py") 2402] }
noncomputable def o_219 (P : Params) : Obj := { cls := Value.type "function", data := Data.func { name := Str.ofString "law", qualname := Str.ofString "law", params := { posonlyargs := [], args := [{ arg := Str.ofString "script", annotation := none, pos := { line := 115, col := 8, endLine := 115, endCol := 14 } }], vararg := none, kwonlyargs := [], kw_defaults := [], kwarg := none, defaults := [] }, body := FuncBody.stmts (bodyAt 18), scope := { kind := ScopeKind.function, names := [(Str.ofString "script", NameKind.local), (Str.ofString "given", NameKind.local), (Str.ofString "drawn", NameKind.local), (Str.ofString "spots", NameKind.cell), (Str.ofString "faces", NameKind.local), (Str.ofString "lines", NameKind.local), (Str.ofString "q", NameKind.local), (Str.ofString "face", NameKind.cell), (Str.ofString "kind", NameKind.local), (Str.ofString "shares", NameKind.cell), (Str.ofString "i", NameKind.cell), (Str.ofString "new", NameKind.local), (Str.ofString "pieces", NameKind.local), (Str.ofString "marks", NameKind.cell), (Str.ofString "paints", NameKind.local), (Str.ofString "row", NameKind.local), (Str.ofString "least", NameKind.cell), (Str.ofString "due", NameKind.local), (Str.ofString "blanks", NameKind.local), (Str.ofString "greys", NameKind.local), (Str.ofString "told", NameKind.local), (Str.ofString "area", NameKind.local), (Str.ofString "worth", NameKind.local), (Str.ofString "len", NameKind.globalImplicit), (Str.ofString "tuple", NameKind.globalImplicit), (Str.ofString "range", NameKind.globalImplicit), (Str.ofString "_law_row", NameKind.globalImplicit), (Str.ofString "min", NameKind.globalImplicit), (Str.ofString "str", NameKind.globalImplicit), (Str.ofString "hsv_to_rgb", NameKind.globalImplicit), (Str.ofString "_law_is_grey", NameKind.globalImplicit), (Str.ofString "sorted", NameKind.globalImplicit), (Str.ofString "abs", NameKind.globalImplicit), (Str.ofString "_law_determinant", NameKind.globalImplicit), (Str.ofString "_law_low", NameKind.globalImplicit)], isGenerator := false, isCoroutine := false, more := [(Str.ofString "fast", Const.str (Str.ofString "script")), (Str.ofString "fast", Const.str (Str.ofString "given")), (Str.ofString "fast", Const.str (Str.ofString "x")), (Str.ofString "fast", Const.str (Str.ofString "drawn")), (Str.ofString "fast", Const.str (Str.ofString "spots")), (Str.ofString "fast", Const.str (Str.ofString "faces")), (Str.ofString "fast", Const.str (Str.ofString "lines")), (Str.ofString "fast", Const.str (Str.ofString "q")), (Str.ofString "fast", Const.str (Str.ofString "face")), (Str.ofString "fast", Const.str (Str.ofString "kind")), (Str.ofString "fast", Const.str (Str.ofString "shares")), (Str.ofString "fast", Const.str (Str.ofString "c")), (Str.ofString "fast", Const.str (Str.ofString "i")), (Str.ofString "fast", Const.str (Str.ofString "new")), (Str.ofString "fast", Const.str (Str.ofString "pieces")), (Str.ofString "fast", Const.str (Str.ofString "marks")), (Str.ofString "fast", Const.str (Str.ofString "paints")), (Str.ofString "fast", Const.str (Str.ofString "row")), (Str.ofString "fast", Const.str (Str.ofString "n")), (Str.ofString "fast", Const.str (Str.ofString "least")), (Str.ofString "fast", Const.str (Str.ofString "due")), (Str.ofString "fast", Const.str (Str.ofString "blanks")), (Str.ofString "fast", Const.str (Str.ofString "greys")), (Str.ofString "fast", Const.str (Str.ofString "told")), (Str.ofString "fast", Const.str (Str.ofString "area")), (Str.ofString "fast", Const.str (Str.ofString "worth"))] }, globals := 3, closure := [], defaults := Value.none, kwdefaults := Value.none, pyModule := Value.str (Str.ofString "law_tr0061_01") 2356, code := Value.ref 218 } }
noncomputable def K (P : Params) : Frag := (nat_lit 0, o_0 P) :: (nat_lit 4, o_4 P) :: (nat_lit 2, o_2 P) :: (nat_lit 3, o_3 P) :: (nat_lit 15, o_15 P) :: (nat_lit 16, o_16 P) :: (nat_lit 17, o_17 P) :: (nat_lit 18, o_18 P) :: (nat_lit 19, o_19 P) :: (nat_lit 20, o_20 P) :: (nat_lit 21, o_21 P) :: (nat_lit 22, o_22 P) :: (nat_lit 25, o_25 P) :: (nat_lit 30, o_30 P) :: (nat_lit 31, o_31 P) :: (nat_lit 32, o_32 P) :: (nat_lit 33, o_33 P) :: (nat_lit 34, o_34 P) :: (nat_lit 35, o_35 P) :: (nat_lit 36, o_36 P) :: (nat_lit 37, o_37 P) :: (nat_lit 38, o_38 P) :: (nat_lit 39, o_39 P) :: (nat_lit 40, o_40 P) :: (nat_lit 41, o_41 P) :: (nat_lit 42, o_42 P) :: (nat_lit 43, o_43 P) :: (nat_lit 44, o_44 P) :: (nat_lit 45, o_45 P) :: (nat_lit 46, o_46 P) :: (nat_lit 47, o_47 P) :: (nat_lit 48, o_48 P) :: (nat_lit 49, o_49 P) :: (nat_lit 50, o_50 P) :: (nat_lit 51, o_51 P) :: (nat_lit 52, o_52 P) :: (nat_lit 53, o_53 P) :: (nat_lit 54, o_54 P) :: (nat_lit 55, o_55 P) :: (nat_lit 56, o_56 P) :: (nat_lit 57, o_57 P) :: (nat_lit 58, o_58 P) :: (nat_lit 59, o_59 P) :: (nat_lit 60, o_60 P) :: (nat_lit 61, o_61 P) :: (nat_lit 62, o_62 P) :: (nat_lit 64, o_64 P) :: (nat_lit 65, o_65 P) :: (nat_lit 66, o_66 P) :: (nat_lit 67, o_67 P) :: (nat_lit 68, o_68 P) :: (nat_lit 69, o_69 P) :: (nat_lit 71, o_71 P) :: (nat_lit 72, o_72 P) :: (nat_lit 73, o_73 P) :: (nat_lit 74, o_74 P) :: (nat_lit 75, o_75 P) :: (nat_lit 76, o_76 P) :: (nat_lit 77, o_77 P) :: (nat_lit 78, o_78 P) :: (nat_lit 79, o_79 P) :: (nat_lit 80, o_80 P) :: (nat_lit 81, o_81 P) :: (nat_lit 82, o_82 P) :: (nat_lit 83, o_83 P) :: (nat_lit 84, o_84 P) :: (nat_lit 85, o_85 P) :: (nat_lit 86, o_86 P) :: (nat_lit 87, o_87 P) :: (nat_lit 88, o_88 P) :: (nat_lit 89, o_89 P) :: (nat_lit 90, o_90 P) :: (nat_lit 91, o_91 P) :: (nat_lit 92, o_92 P) :: (nat_lit 93, o_93 P) :: (nat_lit 94, o_94 P) :: (nat_lit 95, o_95 P) :: (nat_lit 96, o_96 P) :: (nat_lit 97, o_97 P) :: (nat_lit 98, o_98 P) :: (nat_lit 99, o_99 P) :: (nat_lit 100, o_100 P) :: (nat_lit 101, o_101 P) :: (nat_lit 102, o_102 P) :: (nat_lit 103, o_103 P) :: (nat_lit 106, o_106 P) :: (nat_lit 107, o_107 P) :: (nat_lit 108, o_108 P) :: (nat_lit 109, o_109 P) :: (nat_lit 110, o_110 P) :: (nat_lit 111, o_111 P) :: (nat_lit 112, o_112 P) :: (nat_lit 113, o_113 P) :: (nat_lit 114, o_114 P) :: (nat_lit 115, o_115 P) :: (nat_lit 116, o_116 P) :: (nat_lit 117, o_117 P) :: (nat_lit 118, o_118 P) :: (nat_lit 119, o_119 P) :: (nat_lit 131, o_131 P) :: (nat_lit 132, o_132 P) :: (nat_lit 133, o_133 P) :: (nat_lit 134, o_134 P) :: (nat_lit 135, o_135 P) :: (nat_lit 136, o_136 P) :: (nat_lit 137, o_137 P) :: (nat_lit 177, o_177 P) :: (nat_lit 178, o_178 P) :: (nat_lit 179, o_179 P) :: (nat_lit 180, o_180 P) :: (nat_lit 181, o_181 P) :: (nat_lit 182, o_182 P) :: (nat_lit 183, o_183 P) :: (nat_lit 184, o_184 P) :: (nat_lit 185, o_185 P) :: (nat_lit 186, o_186 P) :: (nat_lit 187, o_187 P) :: (nat_lit 188, o_188 P) :: (nat_lit 189, o_189 P) :: (nat_lit 190, o_190 P) :: (nat_lit 191, o_191 P) :: (nat_lit 192, o_192 P) :: (nat_lit 193, o_193 P) :: (nat_lit 194, o_194 P) :: (nat_lit 195, o_195 P) :: (nat_lit 196, o_196 P) :: (nat_lit 197, o_197 P) :: (nat_lit 198, o_198 P) :: (nat_lit 199, o_199 P) :: (nat_lit 200, o_200 P) :: (nat_lit 201, o_201 P) :: (nat_lit 202, o_202 P) :: (nat_lit 203, o_203 P) :: (nat_lit 204, o_204 P) :: (nat_lit 205, o_205 P) :: (nat_lit 206, o_206 P) :: (nat_lit 207, o_207 P) :: (nat_lit 208, o_208 P) :: (nat_lit 209, o_209 P) :: (nat_lit 210, o_210 P) :: (nat_lit 211, o_211 P) :: (nat_lit 212, o_212 P) :: (nat_lit 213, o_213 P) :: (nat_lit 214, o_214 P) :: (nat_lit 215, o_215 P) :: (nat_lit 216, o_216 P) :: (nat_lit 217, o_217 P) :: (nat_lit 218, o_218 P) :: (nat_lit 219, o_219 P) :: []
end Mine
end
section
open PySem PySem.W PyProof.Rows
set_option Elab.async false
set_option maxRecDepth 100000
set_option maxHeartbeats 4000000
namespace Mine
noncomputable abbrev rwp : Program := PySem.Challenge.rw_tr0061_01.prog
/-- how a call of the text's own ends: a value, the heap grown, nothing else turned -/
noncomputable def Ret (s : Shared) (Q : Value → Heap → Prop) (r : Result) (s' : Shared) : Prop :=
  ∃ v h' tk, r = .ok (.ret v) ∧ s' = { s with heap := h', toks := tk } ∧ (∀ b o, s.heap.get? b = some o → h'.get? b = some o) ∧ Q v h'
theorem Ret.of {s : Shared} {Q : Value → Heap → Prop} {L : Addr} {h' : Heap} {m : Str → Option Value} {tk : Nat} {v : Value} (F : Fr s.heap L h' m) (q : Q v h') :
    Ret s Q (.ok (.ret v)) { s with heap := h', toks := tk } := ⟨v, h', tk, rfl, rfl, F.keep, q⟩
theorem Ret.mono {s : Shared} {Q Q' : Value → Heap → Prop} {r : Result} {s' : Shared} (h : Ret s Q r s') (hq : ∀ v h', Q v h' → Q' v h') : Ret s Q' r s' := by
  obtain ⟨v, h', tk, a, b, c, d⟩ := h
  exact ⟨v, h', tk, a, b, c, hq _ _ d⟩
/-- a call by a spec -/
theorem call_ret {M : Model} {A : Around} {f : Value} {args : List Value} {s : Shared} {Q : Value → Shared → Prop} {E : Value → Shared → Prop} {P : Value → Heap → Prop}
    (h : codeAny M A (.call f ⟨args, []⟩) (Ret s P) s)
    (k : ∀ v h' tk, (∀ b o, s.heap.get? b = some o → h'.get? b = some o) → P v h' → Q v { s with heap := h', toks := tk }) : wpAny M A (call f args) Q E s := by
  refine wpAny_call (codeAny_mono h fun r s' hr => ?_)
  obtain ⟨v, h', tk, rfl, rfl, c, d⟩ := hr
  exact k v h' tk c d
theorem room {A : Around} (h : A.depth < 800) : A.depth < recursionLimit := Nat.lt_of_lt_of_le h (by decide)
end Mine
end
section
open PySem PySem.W PyProof.Rows
set_option Elab.async false
set_option maxRecDepth 100000
set_option maxHeartbeats 4000000
set_option linter.unusedVariables false
namespace Mine
noncomputable abbrev Up (h h' : Heap) : Prop := ∀ b o, h.get? b = some o → h'.get? b = some o
section
variable {prog : Program} {w : World} {A : Around} {E : Value → Shared → Prop} {s : Shared} {env : Env}
theorem up_push (h : Heap) (o : Obj) : Up h (h.push o) := fun _ _ e => Heap.get?_push_of_some _ e
theorem up_but {h h₂ h₃ : Heap} {o : Obj} (k : ∀ b ob, b ∉ [h.objs.size] → (h.push o).get? b = some ob → h₃.get? b = some ob) : Up h h₃ := fun b ob e =>
  k b ob (fun hm => Nat.lt_irrefl _ (List.mem_singleton.mp hm ▸ Heap.lt_size e)) (Heap.get?_push_of_some _ e)
theorem none_of_push {h : Heap} {o : Obj} {D : Addr} (e : (h.push o).get? D = none) : h.get? D = none := by
  cases z : h.get? D with
  | none => rfl
  | some ob => rw [Heap.get?_push_of_some _ z] at e; cases e
theorem filter_tt {α : Type} (l : List α) : l.filter (fun _ => true) = l := List.filter_eq_self.mpr fun _ _ => rfl
/-- a range of n has been made -/
structure GotRange (s : Shared) (n : Nat) (xv : Value) (s₁ : Shared) : Prop where
  ex : ∃ r t u v h tk, xv = .ref r ∧ s₁ = { s with heap := h, toks := tk } ∧ Up s.heap h ∧ IsRange h r 0 (n : Int) 1 t u v
/-- a value has been made, all that lay there lies there -/
structure Got (P : Value → Prop) (s₃ : Shared) (y : Value) (s₄ : Shared) : Prop where
  val : P y
  kept : Keeps s₃ s₄
theorem Got.of {P : Value → Prop} {s₃ : Shared} {y : Value} {h' : Heap} {tk : Nat} (p : P y) (up : Up s₃.heap h') : Got P s₃ y { s₃ with heap := h', toks := tk } := ⟨p, _, _, rfl, up⟩
theorem GotRange.of {s : Shared} {n : Nat} {r : Addr} {t u v : Tok} {h : Heap} {tk : Nat} (up : Up s.heap h) (hr : IsRange h r 0 (n : Int) 1 t u v) : GotRange s n (.ref r) { s with heap := h, toks := tk } := ⟨_, _, _, _, _, _, rfl, rfl, up, hr⟩
theorem comp_tuple {elt iter : Expr} {x : Str} {px : Pos} {scope : Scope} {cl : List (Str × Addr)} {pos : Pos} {Q : Value → Shared → Prop} {ax : Addr} {its : Array Value} (F : Value → Value → Prop) (hh : A.handled = none)
    (hclos : closureFor scope env = pure cl) (hcell : ∀ y ∈ scope.names, y.2 ≠ .cell) (hkind : scope.kind = .function)
    (hnames : ∀ y ∈ scope.names, y.2 = .local → scope.names.lookup y.1 = some .local) (hx : scope.names.lookup x = some .local)
    (hi : ∀ Q' : Value → Shared → Prop, Q' (.ref ax) s → wpAny (model prog w) A (eval iter env) Q' E s) (ht : s.heap.IsTuple ax its) (hsz : its.size ≤ sizeLine)
    (helt : ∀ C v s₃ m₃ E', s.heap.get? C = none → (∃ i : Nat, its[i]? = some v) → s₃.heap.Ns C m₃ → m₃ x = some v → Up s.heap s₃.heap →
      wpAny (model prog w) A (eval elt (compEnvC scope cl C env)) (Got (F v) s₃) E' s₃)
    (hQ : ∀ D h' tk ys, Up s.heap h' → s.heap.get? D = none → h'.PlainList D ys → Paired F its.toList ys.toList → Q (.ref D) { s with heap := h', toks := tk })
    (hs : ∀ x, foldedSetIterable iter env x = pure x := by intro _; rfl) :
    wpAny (model prog w) A (eval (.ListComp elt [⟨.Name x px, iter, [], 0⟩] scope pos) env) Q E s := by
  refine wpAny_ListComp_free (fun _ => true) F hclos hcell hkind hnames hx (hi _ ?_) hs
  refine wpAny_pyIter_tuple ht ?_
  have hlt : ax < s.heap.objs.size := by obtain ⟨_, e, _⟩ := ht; exact Heap.lt_size e
  refine ⟨_, _, _, _, _, _, rfl, Walks.tuple hh s.heap.objs.size ax (Nat.ne_of_lt hlt) its, hsz, ⟨⟨_, Heap.get?_push_size _ rfl, rfl, rfl⟩, ht.push _⟩, ?_, ⟨?_, ?_⟩, ?_⟩
  · intro b hb
    show b < (s.heap.push _).objs.size
    rw [Heap.size_push]
    simp only [List.mem_cons, List.not_mem_nil, or_false] at hb
    rcases hb with rfl | rfl
    · exact Nat.lt_succ_self _
    · exact Nat.lt_succ_of_lt hlt
  · intro C i v s₃ m₃ E' hC hP hn hm hk htk
    exact wpAny_tests_nil ⟨rfl, _, _, rfl, fun _ _ e => e⟩
  · intro C i v s₃ m₃ E' hC hP _ hn hm hk htk
    exact wpAny_mono (helt C v s₃ m₃ E' (none_of_push (Heap.get?_none_of_le hC)) ⟨i, hP⟩ hn hm (up_but (h₂ := s.heap) hk)) (fun _ _ z => ⟨z.val, z.kept⟩) fun _ _ e => e
  · intro D h' tk ys vs hD hl hpl hlen hP hF hk
    rw [filter_tt] at hF
    rw [list_of_places hlen hP] at hF
    exact hQ D h' tk ys (up_but (h₂ := s.heap) hk) (none_of_push hD) hpl hF
theorem comp_range {elt iter : Expr} {x : Str} {px : Pos} {scope : Scope} {cl : List (Str × Addr)} {pos : Pos} {Q : Value → Shared → Prop} {n : Nat} (F : Nat → Value → Prop) (hh : A.handled = none)
    (hclos : closureFor scope env = pure cl) (hcell : ∀ y ∈ scope.names, y.2 ≠ .cell) (hkind : scope.kind = .function)
    (hnames : ∀ y ∈ scope.names, y.2 = .local → scope.names.lookup y.1 = some .local) (hx : scope.names.lookup x = some .local)
    (hsm : Builtin.Range.small 0 n 1 = true) (hrs : Builtin.Range.rangeSize 0 n 1 = (n : Int)) (hsz : n ≤ sizeLine)
    (hi : wpAny (model prog w) A (eval iter env) (GotRange s n) E s)
    (helt : ∀ C i t s₃ m₃ E', s.heap.get? C = none → i < n → s₃.heap.Ns C m₃ → m₃ x = some (.int (i : Nat) t) → Up s.heap s₃.heap →
      wpAny (model prog w) A (eval elt (compEnvC scope cl C env)) (Got (F i) s₃) E' s₃)
    (hQ : ∀ D h' tk ys, Up s.heap h' → s.heap.get? D = none → h'.PlainList D ys → Paired F (List.range n) ys.toList → Q (.ref D) { s with heap := h', toks := tk })
    (hs : ∀ x, foldedSetIterable iter env x = pure x := by intro _; rfl) :
    wpAny (model prog w) A (eval (.ListComp elt [⟨.Name x px, iter, [], 0⟩] scope pos) env) Q E s := by
  refine wpAny_ListComp_free (fun _ => true) (fun v y => ∃ i : Nat, (∃ t, v = .int i t) ∧ F i y) hclos hcell hkind hnames hx (wpAny_mono hi (fun xv s₁ h₁ => ?_) fun _ _ e => e) hs
  obtain ⟨r, t, u, v, h, tk, rfl, rfl, up, hr⟩ := h₁.ex
  refine wpAny_pyIter_range hr hsm ?_
  have W : Walks prog w A h.objs.size [h.objs.size] [h.objs.size] n (fun i v => i < n ∧ ∃ t, v = .int (0 + (i : Nat) * 1) t) (fun i h' => IsRangeIter h' h.objs.size (0 + (i : Nat) * 1) ((n : Int) - (i : Nat)) 1) := (Walks.range hh h.objs.size 0 1 n).bound
  refine ⟨_, _, _, _, _, _, rfl, W, hsz, ?_, ?_, ⟨?_, ?_⟩, ?_⟩
  · show IsRangeIter _ _ _ _ _
    rw [hrs]; simpa using Heap.get?_push_size _ rfl
  · intro b hb
    rw [List.mem_singleton.mp hb]
    show h.objs.size < (h.push _).objs.size
    rw [Heap.size_push]; exact Nat.lt_succ_self _
  · intro C i v s₃ m₃ E' hC hP hn hm hk htk
    exact wpAny_tests_nil ⟨rfl, _, _, rfl, fun _ _ e => e⟩
  · intro C i v s₃ m₃ E' hC hP _ hn hm hk htk
    obtain ⟨hlt, t', rfl⟩ := hP
    rw [show (0 + (i : Int) * 1) = (i : Int) by omega] at hm
    have k2 : Up h s₃.heap := up_but (h₂ := h) hk
    refine wpAny_mono (helt C i t' s₃ m₃ E' ?_ hlt hn hm fun b o e => k2 b o (up b o e)) (fun y s₄ z => ⟨⟨i, ⟨t', by rw [show (0 + (i : Int) * 1) = (i : Int) by omega]⟩, z.val⟩, z.kept⟩) fun _ _ e => e
    have z := none_of_push (Heap.get?_none_of_le hC)
    cases q : s.heap.get? C with
    | none => rfl
    | some ob => have z2 := up _ _ q; rw [show h.get? _ = _ from z] at z2; cases z2
  · intro D h' tk' ys vs hD hl hpl hlen hP hF hk
    rw [filter_tt] at hF
    have k2 : Up h h' := up_but (h₂ := h) hk
    refine hQ D h' tk' ys (fun b o e => k2 b o (up b o e)) ?_ hpl ?_
    · have z := none_of_push hD
      cases q : s.heap.get? D with
      | none => rfl
      | some ob => have z2 := up _ _ q; rw [show h.get? _ = _ from z] at z2; cases z2
    · have key : ∀ (l : List Value) (k : Nat) (zs : List Value), (∀ (j : Nat) v, l[j]? = some v → ∃ t, v = Value.int ((k + j : Nat) : Int) t) → Paired (fun v y => ∃ i : Nat, (∃ t, v = Value.int i t) ∧ F i y) l zs → Paired F (List.range' k l.length) zs := by
        intro l
        induction l with
        | nil => intro k zs _ hp; cases hp; exact .nil
        | cons a l ih =>
          intro k zs hv hp
          cases hp with
          | cons hF hr =>
            obtain ⟨i, ⟨t, rfl⟩, hF⟩ := hF
            obtain ⟨t', e⟩ := hv 0 _ rfl
            injection e with e1 e2
            have : i = k := by omega
            subst this
            exact .cons hF (ih _ _ (fun j v hj => by
              obtain ⟨t', e⟩ := hv (j + 1) v hj
              have q : i + (j + 1) = i + 1 + j := by omega
              exact ⟨t', q ▸ e⟩) hr)
      have z := key vs 0 ys.toList (fun j v hj => by obtain ⟨_, t, e⟩ := hP j v hj; have q : (0 : Int) + (j : Int) * 1 = ((0 + j : Nat) : Int) := (by omega); exact ⟨t, q ▸ e⟩) hF
      rw [hlen] at z
      rw [List.range_eq_range']
      exact z
end
end Mine
end
section
open PySem PySem.W PyProof.Rows
set_option Elab.async false
set_option maxRecDepth 100000
set_option maxHeartbeats 400000
set_option linter.unusedVariables false
namespace Mine
section
variable {prog : Program} {w : World} {A : Around} {s : Shared} {R : Result → Shared → Prop} {name qual : Str} {params : Arguments} {body : List Stmt} {scope : Scope} {dV kV doc pm cdv ct : Value} {an : Option Addr} {fo : Obj} {f : Addr} {args : Args} {binds : List (Str × Value)}
theorem call_cells_ret (hroom : A.depth < recursionLimit) (hlim : s.heap.NoLimit) (ho : s.heap.get? f = some fo) (hd : fo.data = .func (fnX name qual params body scope [] dV kV doc pm an cdv ct)) (hcd : s.heap.CodeRec cdv qual)
    (hbind : BindsTo s (fnX name qual params body scope [] dV kV doc pm an cdv ct) args binds)
    (hkind : ∀ n, ∀ x ∈ binds, scope.names.lookup x.1 = some .local ∨ (scope.names.lookup x.1 = some .cell ∧ ((cellsFrom n scope.names []).lookup x.1).isSome = true))
    (hnd : ((cellsFrom 0 scope.names []).map (·.1)).Nodup)
    (h : ∀ h₁ tk cells, s.toks ≤ tk → Fr s.heap s.heap.objs.size h₁ (bindL (envOfC qual scope s.heap.objs.size f cdv).kindOf binds fun _ => none) → News s.heap s.heap.objs.size h₁ cells →
      CellsAre (bindC (envOfC qual scope s.heap.objs.size f cdv).kindOf binds fun _ => none) (cellsFrom (s.heap.objs.size + 1) scope.names []) cells →
      wpAny (model prog w) (A.deeper (envOfC qual scope s.heap.objs.size f cdv)) (execs body (envOfC qual scope s.heap.objs.size f cdv))
        (fun fl s' => R (.ok (.ret (match fl with | .ret v => v | _ => .none))) s') (fun _ _ => False)
        { s with heap := h₁, toks := tk })
    (hco : scope.isCoroutine = false := by rfl) (hgen : scope.isGenerator = false := by rfl) (hk : scope.kind = .function := by rfl) : codeAny (model prog w) A (.call (.ref f) args) R s := by
  refine codeAny_call_function hroom ho hd hco hgen rfl hcd (hbind _ _ _ _ ?_)
  refine wpAny_with_toks (Nat.le_refl _) (wpAny_newFunctionEnv_cells hk (hkind _) fun env' he s' x htk => ?_)
  subst he
  refine ⟨hlim.keeps x.toInCall.keep, codeAny_func ?_⟩
  obtain ⟨h₁, tk, rfl, _⟩ := x.done
  have hk₁ := x.toInCall.keep
  obtain ⟨cells, NC, Y⟩ := Cl.news (h₀ := s.heap) (Nat.le_refl _) fun n c hm => ⟨x.cell n c (lookup_of_mem_nodup (cellsFrom_names scope.names 0 (s.heap.objs.size + 1) [] [] rfl ▸ hnd) hm), x.above n c hm⟩
  exact wpAny_mono (h h₁ tk cells htk ⟨x.toInCall.ns, fun b o e => hk₁ b o e, Nat.le_refl _⟩ NC Y) (fun fl s' hl => hl) fun _ _ y => y.elim
end
section
variable {prog : Program} {w : World} {M : Model} {A : Around} {E : Value → Shared → Prop} {s : Shared} {env : Env}
theorem nfe_cell {scope : Scope} {globals : Addr} {cl : List (Str × Addr)} {qual : Str} {x : Str} {Q : Env → Shared → Prop}
    (hpc : ∀ h : Heap, pushCells h scope.names = h.push { cls := .type "cell", data := .cell none }) (hcf : ∀ n, cellsFrom n scope.names cl = (x, n) :: cl)
    (hQ : Q { scope, locals := s.heap.objs.size, globals, cells := (x, s.heap.objs.size + 1) :: cl, qual, func := none, code := env.code, frame := env.frame, builtins := env.builtins }
      { s with heap := (s.heap.push { cls := .type "dict", data := .dict #[] }).push { cls := .type "cell", data := .cell none } }) :
    wpAny M A (newFunctionEnv scope globals cl [] qual none .none (some env)) Q E s := by
  simp only [newFunctionEnv, Option.isSome_some, if_true]
  refine wpAny_bind (wpAny_alloc ?_)
  refine wpAny_bind (wpAny_layCells _ (fun name kind cells => by cases hkc : kind == NameKind.cell <;> simp [hkc]) _ _ _ _ ?_)
  simp only [List.forIn_nil]
  refine wpAny_bind (wpAny_pure (wpAny_pure ?_))
  rw [hpc, hcf, Heap.size_push]
  exact hQ
theorem comp_rangeC_core {pos' : Pos} {use : Option (Value → Sem Unit)} {elt iter : Expr} {x : Str} {px : Pos} {scope : Scope} {cl : List (Str × Addr)} {pos : Pos} {Q : Value → Shared → Prop} {n : Nat} (F : Nat → Value → Prop) (hh : A.handled = none)
    (hclos : closureFor scope env = pure cl) (hkind : scope.kind = .function)
    (hpc : ∀ h : Heap, pushCells h scope.names = h.push { cls := .type "cell", data := .cell none }) (hcf : ∀ n, cellsFrom n scope.names cl = (x, n) :: cl)
    (hnames : ∀ y ∈ scope.names, y.2 = .local → scope.names.lookup y.1 = some .local) (hx : ∀ C c, (compEnvC scope ((x, c) :: cl) C env).kindOf x = some .cell)
    (hsm : Builtin.Range.small 0 n 1 = true) (hrs : Builtin.Range.rangeSize 0 n 1 = (n : Int)) (hsz : n ≤ sizeLine)
    (hi : wpAny (model prog w) A (eval iter env) (GotRange s n) E s)
    (helt : ∀ C c i t s₃ E', i < n → s₃.heap.IsCell c (some (.int (i : Nat) t)) → Up s.heap s₃.heap →
      wpAny (model prog w) A (eval elt (compEnvC scope ((x, c) :: cl) C env)) (Got (F i) s₃) E' s₃)
    (hQ : ∀ D C h' tk ys m', Up s.heap h' → h'.PlainList D ys → h'.Ns C m' → s.heap.get? C = none → s.heap.get? D = none → C ≠ D → Paired F (List.range n) ys.toList → compPost (model prog w) A E use Q (.ref D) C (.ok .next) { s with heap := h', toks := tk })
    (hs : ∀ x, foldedSetIterable iter env x = pure x := by intro _; rfl) :
    wpAny (model prog w) A (comprehension (.ListComp elt [⟨.Name x px, iter, [], 0⟩] scope pos) scope env pos' (newList []) false (eval iter env) use) Q E s := by
  refine wpAny_comprehension_free rfl hs hclos hkind hnames (wpAny_mono hi (fun xv s₁ h₁ => ?_) fun _ _ e => e)
  obtain ⟨r, t, u, v, h, tk, rfl, rfl, up, hr⟩ := h₁.ex
  refine wpAny_pyIter_range hr hsm ?_
  dsimp only
  have W : Walks prog w A h.objs.size [h.objs.size] [h.objs.size] n (fun i v => i < n ∧ ∃ t, v = .int (0 + (i : Nat) * 1) t) (fun i h' => IsRangeIter h' h.objs.size (0 + (i : Nat) * 1) ((n : Int) - (i : Nat)) 1) := (Walks.range hh h.objs.size 0 1 n).bound
  have hst : IsRangeIter (h.push { cls := .type "range_iterator", data := .fields #[rawInt 0, rawInt (Builtin.Range.rangeSize 0 n 1), rawInt 1] }) h.objs.size (0 + ((0 : Nat) : Int) * 1) ((n : Int) - ((0 : Nat) : Int)) 1 := by
    show IsRangeIter _ _ _ _ _
    rw [hrs]; simpa using Heap.get?_push_size _ rfl
  generalize hH2 : h.push { cls := .type "range_iterator", data := .fields #[rawInt 0, rawInt (Builtin.Range.rangeSize 0 n 1), rawInt 1] } = h₂ at hst ⊢
  have z2 : h₂.objs.size = h.objs.size + 1 := by rw [← hH2, Heap.size_push]
  have up2 : Up s.heap h₂ := fun b o e => hH2 ▸ Heap.get?_push_of_some _ (up b o e)
  refine wpAny_newObj_type (nfe_cell hpc hcf ?_)
  dsimp only
  have hD : (h₂.push { cls := .type "list", dict := none, data := .seq ([] : List Value).toArray }).get? h₂.objs.size = some { cls := .type "list", dict := none, data := .seq ([] : List Value).toArray } := Heap.get?_push_size _ rfl
  generalize hH3 : h₂.push { cls := .type "list", dict := none, data := .seq ([] : List Value).toArray } = h₃ at hD ⊢
  have z3 : h₃.objs.size = h₂.objs.size + 1 := by rw [← hH3, Heap.size_push]
  have up3 : Up h₂ h₃ := fun b o e => hH3 ▸ Heap.get?_push_of_some _ e
  have hC : ((h₃.push { cls := .type "dict", data := .dict #[] }).push { cls := .type "cell", data := .cell none }).Ns h₃.objs.size (fun _ => none) := (Heap.Ns.new h₃ (.type "dict")).push _
  have hc : ((h₃.push { cls := .type "dict", data := .dict #[] }).push { cls := .type "cell", data := .cell none }).IsCell (h₃.objs.size + 1) none := by
    have q := Heap.get?_push_size (h₃.push { cls := .type "dict", data := .dict #[] }) (o := { cls := .type "cell", data := .cell none }) rfl
    rw [Heap.size_push] at q
    exact ⟨_, q, rfl⟩
  have up4 : Up h₃ ((h₃.push { cls := .type "dict", data := .dict #[] }).push { cls := .type "cell", data := .cell none }) := fun b o e => Heap.get?_push_of_some _ (Heap.get?_push_of_some _ e)
  generalize (h₃.push { cls := .type "dict", data := .dict #[] }).push { cls := .type "cell", data := .cell none } = h₄ at hC hc up4 ⊢
  have up5 : Up s.heap h₄ := fun b o e => up4 _ _ (up3 _ _ (up2 _ _ e))
  have hn0 : ∀ a, h.objs.size ≤ a → s.heap.get? a = none := fun a ha => by
    cases q : s.heap.get? a with
    | none => rfl
    | some o => exact absurd (Heap.lt_size (up a o q)) (Nat.not_lt.mpr ha)
  have loop : codeAny (model prog w) A (.compLoop (.ListComp elt [⟨.Name x px, iter, [], 0⟩] scope pos) 0 (.ref h.objs.size) (.ref h₂.objs.size) (compEnvC scope ((x, h₃.objs.size + 1) :: cl) h₃.objs.size env))
      (compPost (model prog w) A E use Q (.ref h₂.objs.size) h₃.objs.size) { s with heap := h₄, toks := tk } := by
    refine codeAny_compLoop_tests (fun k s' => ∃ h' tk' i ys v₀, s' = { s with heap := h', toks := tk' } ∧ i ≤ n ∧ k = n + 1 - i ∧ ys.size = i ∧ IsRangeIter h' h.objs.size (0 + (i : Nat) * 1) ((n : Int) - (i : Nat)) 1 ∧ h'.Ns h₃.objs.size (fun _ => none) ∧
        h'.IsCell (h₃.objs.size + 1) v₀ ∧ h'.get? h₂.objs.size = some { cls := .type "list", data := .seq ys i } ∧ Up s.heap h' ∧ Paired F (List.range i) ys.toList) ?_ (n + 1)
      ⟨h₄, tk, 0, #[], none, rfl, Nat.zero_le _, rfl, rfl, ?_, hC, hc, up4 _ _ hD, up5, .nil⟩
    · rintro k s' ⟨h', tk', i, ys, v₀, rfl, hi', rfl, hys, hst', hns, hcell, hlist, hup, hP⟩
      by_cases hlt : i < n
      · refine W.item i _ _ _ hlt hst' fun v h₅ tk₅ hv hst₅ hk₅ => ?_
        obtain ⟨_, t', rfl⟩ := hv
        rw [show (0 + (i : Int) * 1) = (i : Int) by omega]
        have k5 : ∀ b o, b ≠ h.objs.size → h'.get? b = some o → h₅.get? b = some o := fun b o hb e => hk₅ b o (fun hm => hb (List.mem_singleton.mp hm)) e
        have hcell5 : h₅.IsCell (h₃.objs.size + 1) v₀ := by obtain ⟨o, ho, hd⟩ := hcell; exact ⟨o, k5 _ _ (by omega) ho, hd⟩
        refine wpAny_assign_Name (wpAny_storeName_cell (by show (relabel scope env).kind = _; simp [relabel, hkind]) (hx _ _) (by show List.lookup x ((x, _) :: cl) = _; simp) hcell5 fun h₆ hcell6 hs6 => ?_)
        refine wpAny_tests_nil ?_
        simp only [if_true]
        have k6 : ∀ b o, b ≠ h₃.objs.size + 1 → h₅.get? b = some o → h₆.get? b = some o := fun b o hb e => hs6.extBut b o hb e
        have up6 : Up s.heap h₆ := fun b o e => k6 b o (fun q => by rw [q, hn0 _ (by omega)] at e; cases e) (k5 b o (fun q => by rw [q, hn0 _ (Nat.le_refl _)] at e; cases e) (hup b o e))
        refine wpAny_mono (helt h₃.objs.size (h₃.objs.size + 1) i t' _ _ hlt hcell6 up6) (fun y s₇ h₇ => ?_) fun _ _ e => e
        obtain ⟨hF, h₇, tk₇, rfl, k7⟩ := h₇
        have hl7 : h₇.get? h₂.objs.size = some { cls := .type "list", data := .seq ys i } := k7 _ _ (k6 _ _ (by omega) (k5 _ _ (by omega) hlist))
        refine append_at (hsz := by rw [hys]; exact Nat.le_trans hi' hsz) hl7 fun h₈ hs8 hl8 => ?_
        have k8 : ∀ b o, b ≠ h₂.objs.size → h₇.get? b = some o → h₈.get? b = some o := fun b o hb e => hs8.extBut b o hb e
        refine ⟨n + 1 - (i + 1), by omega, h₈, tk₇, i + 1, ys.push y, some (.int (i : Nat) t'), rfl, hlt, rfl, by rw [Array.size_push, hys], ?_, ?_, ?_, hl8, ?_, ?_⟩
        · exact W.frame _ _ _ hst₅ fun b hb o e => k8 b o (by rw [List.mem_singleton.mp hb]; omega) (k7 _ _ (k6 _ _ (by rw [List.mem_singleton.mp hb]; omega) e))
        · exact hns.at' fun o e => k8 _ o (by omega) (k7 _ _ (k6 _ _ (by omega) (k5 _ _ (by omega) e)))
        · obtain ⟨o, ho, hd⟩ := hcell6; exact ⟨o, k8 _ _ (by omega) (k7 _ _ ho), hd⟩
        · exact fun b o e => k8 b o (fun q => by rw [q, hn0 _ (by omega)] at e; cases e) (k7 _ _ (up6 _ _ e))
        · rw [List.range_succ, Array.toList_push]; exact hP.snoc hF
      · obtain rfl : i = n := Nat.le_antisymm hi' (Nat.not_lt.mp hlt)
        refine W.done _ _ _ hst' fun h₅ tk₅ hk₅ => ?_
        have k5 : ∀ b o, b ≠ h.objs.size → h'.get? b = some o → h₅.get? b = some o := fun b o hb e => hk₅ b o (fun hm => hb (List.mem_singleton.mp hm)) e
        exact hQ h₂.objs.size h₃.objs.size h₅ tk₅ ys _ (fun b o e => k5 b o (fun q => by rw [q, hn0 _ (Nat.le_refl _)] at e; cases e) (hup b o e)) ⟨_, k5 _ _ (by omega) hlist⟩ (hns.at' fun o e => k5 _ o (by omega) e) (hn0 _ (by omega)) (hn0 _ (by omega)) (fun q => by have q' : (h₃.objs.size : Nat) = h₂.objs.size := q; omega) hP
    · exact W.frame _ _ _ hst fun b hb o e => up4 _ _ (up3 _ _ e)
  refine codeAny_compStart_list loop (W.self 0 _ _ _ ?_ loop)
  exact W.frame _ _ _ hst fun b hb o e => up4 _ _ (up3 _ _ e)
theorem comp_rangeC {Q : Value → Shared → Prop} {elt iter : Expr} {x : Str} {px : Pos} {scope : Scope} {cl : List (Str × Addr)} {pos : Pos} {n : Nat} (F : Nat → Value → Prop) (hh : A.handled = none)
    (hclos : closureFor scope env = pure cl) (hkind : scope.kind = .function)
    (hpc : ∀ h : Heap, pushCells h scope.names = h.push { cls := .type "cell", data := .cell none }) (hcf : ∀ n, cellsFrom n scope.names cl = (x, n) :: cl)
    (hnames : ∀ y ∈ scope.names, y.2 = .local → scope.names.lookup y.1 = some .local) (hx : ∀ C c, (compEnvC scope ((x, c) :: cl) C env).kindOf x = some .cell)
    (hsm : Builtin.Range.small 0 n 1 = true) (hrs : Builtin.Range.rangeSize 0 n 1 = (n : Int)) (hsz : n ≤ sizeLine)
    (hi : wpAny (model prog w) A (eval iter env) (GotRange s n) E s)
    (helt : ∀ C c i t s₃ E', i < n → s₃.heap.IsCell c (some (.int (i : Nat) t)) → Up s.heap s₃.heap →
      wpAny (model prog w) A (eval elt (compEnvC scope ((x, c) :: cl) C env)) (Got (F i) s₃) E' s₃)
    (hQ : ∀ D h' tk ys, Up s.heap h' → s.heap.get? D = none → h'.PlainList D ys → Paired F (List.range n) ys.toList → Q (.ref D) { s with heap := h', toks := tk })
    (hs : ∀ x, foldedSetIterable iter env x = pure x := by intro _; rfl) :
    wpAny (model prog w) A (eval (.ListComp elt [⟨.Name x px, iter, [], 0⟩] scope pos) env) Q E s := by
  rw [eval_ListComp]
  refine comp_rangeC_core (use := none) F hh hclos hkind hpc hcf hnames hx hsm hrs hsz hi helt (fun D C h' tk ys m' up pl ns hC hD hne hP => ⟨m', ns, fun h'' hs'' => ?_⟩) hs
  exact hQ D h'' tk ys (fun b o e => hs''.extBut b o (fun q => by rw [q, hC] at e; cases e) (up b o e)) hD (pl.at fun o e => hs''.extBut _ o (Ne.symm hne) e) hP
theorem assign_comp_rangeC {Q : Flow → Shared → Prop} {y : Str} {py spos : Pos} {h₀ : Heap} {L : Addr} {m : Str → Option Value} (F₀ : Fr h₀ L s.heap m) (hLe : env.locals = L)
    {elt iter : Expr} {x : Str} {px : Pos} {scope : Scope} {cl : List (Str × Addr)} {pos : Pos} {n : Nat} (F : Nat → Value → Prop) (hh : A.handled = none)
    (hclos : closureFor scope env = pure cl) (hkind : scope.kind = .function)
    (hpc : ∀ h : Heap, pushCells h scope.names = h.push { cls := .type "cell", data := .cell none }) (hcf : ∀ n, cellsFrom n scope.names cl = (x, n) :: cl)
    (hnames : ∀ y ∈ scope.names, y.2 = .local → scope.names.lookup y.1 = some .local) (hx : ∀ C c, (compEnvC scope ((x, c) :: cl) C env).kindOf x = some .cell)
    (hsm : Builtin.Range.small 0 n 1 = true) (hrs : Builtin.Range.rangeSize 0 n 1 = (n : Int)) (hsz : n ≤ sizeLine)
    (hi : wpAny (model prog w) A (eval iter env) (GotRange s n) E s)
    (helt : ∀ C c i t s₃ E', i < n → s₃.heap.IsCell c (some (.int (i : Nat) t)) → Up s.heap s₃.heap →
      wpAny (model prog w) A (eval elt (compEnvC scope ((x, c) :: cl) C env)) (Got (F i) s₃) E' s₃)
    (hsw : swapsWith (.ListComp elt [⟨.Name x px, iter, [], 0⟩] scope pos) (some (.Name y py)) spos.line env = pure true)
    (hy : env.kindOf y = some .local) (hp : (env.scope.kind == .class || (env.scope.kind == .module && env.locals != env.globals)) = false)
    (hQ : ∀ D h' tk ys, Fr h₀ L h' (fun z => if z = y then some (.ref D) else m z) → (∀ b o, b ≠ L → s.heap.get? b = some o → h'.get? b = some o) → s.heap.get? D = none → D ≠ L → h₀.get? D = none → h'.PlainList D ys → Paired F (List.range n) ys.toList → Q .next { s with heap := h', toks := tk })
    (hs : ∀ x, foldedSetIterable iter env x = pure x := by intro _; rfl) :
    wpAny (model prog w) A (exec (.Assign [.Name y py] (.ListComp elt [⟨.Name x px, iter, [], 0⟩] scope pos) spos) env) Q E s := by
  subst hLe
  rw [exec_Assign_Name_used _ _ _ _ hsw]
  refine wpAny_bind (wpAny_standAt (wpAny_bind ?_))
  show wpAny _ A (do let _ ← comprehension (.ListComp elt [⟨.Name x px, iter, [], 0⟩] scope pos) scope env _ (newList []) false (eval iter env) (some (assign (.Name y py) env))) _ _ s
  refine wpAny_bind (wpAny_mono (comp_rangeC_core (use := some (assign (.Name y py) env)) (Q := fun _ s' => Q .next s') F hh hclos hkind hpc hcf hnames hx hsm hrs hsz hi helt (fun D C h' tk ys m' up pl ns hC hD hne hP => ?_) hs)
    (fun _ s' hq => wpAny_pure (wpAny_pure hq)) fun _ _ e => e)
  have F' : Fr h₀ env.locals h' m := F₀.keeps up
  have hCL : C ≠ env.locals := fun q => by obtain ⟨o, _, _, ho, _⟩ := F₀.ns; rw [← q, hC] at ho; cases ho
  have hDL : D ≠ env.locals := fun q => by obtain ⟨o, _, _, ho, _⟩ := F₀.ns; rw [← q, hD] at ho; cases ho
  have hL₀ : h₀.get? env.locals = none := Heap.get?_none_of_le F'.above
  have h0n : ∀ b, s.heap.get? b = none → h₀.get? b = none := fun b e => by
    cases q : h₀.get? b with
    | none => rfl
    | some o => rw [F₀.keep b o q] at e; cases e
  show wpAny _ A (assign (.Name y py) env (.ref D)) _ _ _
  refine wpAny_assign_Name (wpAny_storeName_local hy F'.ns (fun h₂ hn₂ hs₂ => ?_) hp)
  have F₂ : Fr h₀ env.locals h₂ (fun z => if z = y then some (.ref D) else m z) := ⟨hn₂, fun b o e => hs₂.extBut b o (fun q => by rw [q, hL₀] at e; cases e) (F'.keep b o e), F'.above⟩
  refine ⟨m', ns.sameBut hs₂ hCL, fun h'' hs'' => hQ D h'' _ ys (F₂.change hs'' hCL (h0n C hC)) (fun b o hb e => ?_) hD hDL (h0n D hD) ?_ hP⟩
  · exact hs''.extBut b o (fun q => by rw [q, hC] at e; cases e) (hs₂.extBut b o hb (up b o e))
  · exact pl.at fun o e => hs''.extBut _ o (Ne.symm hne) (hs₂.extBut _ o hDL e)
end
section
variable {M : Model} {A : Around} {E : Value → Shared → Prop} {s : Shared} {env : Env} {K : Frag} {p : Program} {loose : List Str} {mg mb : Str → Option Value} {x : Str} {pos : Pos} {v : Value} {Q : Value → Shared → Prop} {h₀ : Heap}
theorem nm_built (k : Up h₀ s.heap) (X : K.In h₀) (T : TopRead p loose mg mb h₀) (e : nsIn K mainGlobals x = some none) (hv : bootBuiltins x = some v) (hn : x ≠ "__name__") (h : Q v s) (hg : env.globals = mainGlobals := by rfl) (hb : env.builtins = builtinsNs := by rfl)
    (hk : env.scope.kind = .function := by rfl) (hx : env.kindOf x = some .globalImplicit := by rfl) (hd : (x == ("__debug__" : Str)) = false := by decide) : wpAny M A (eval (.Name x pos) env) Q E s :=
  PySem.Calls.Name_function_global hk hx (PySem.Calls.loadGlobal_builtin (show s.heap.Ns env.globals mg from hg ▸ T.g.keeps k) (mg_none_of X T.g e) (show s.heap.Ns env.builtins mb from hb ▸ T.b.keeps k) ((T.builtins x hn).trans hv) h) hd
theorem nm_global (k : Up h₀ s.heap) (X : K.In h₀) (T : TopRead p loose mg mb h₀) (e : nsIn K mainGlobals x = some (some v)) (h : Q v s) (hg : env.globals = mainGlobals := by rfl)
    (hk : env.scope.kind = .function := by rfl) (hx : env.kindOf x = some .globalImplicit := by rfl) (hd : (x == ("__debug__" : Str)) = false := by decide) : wpAny M A (eval (.Name x pos) env) Q E s :=
  PySem.Calls.Name_function_global hk hx (PySem.Calls.loadGlobal_global (show s.heap.Ns env.globals mg from hg ▸ T.g.keeps k) (mg_of X T.g e) h) hd
theorem nm_cell {c : Addr} (hc : s.heap.IsCell c (some v)) (h : Q v s) (hl : env.cells.lookup x = some c := by rfl) (hk : env.scope.kind = .function := by rfl) (hx : env.kindOf x = some .cell := by rfl) (hd : (x == ("__debug__" : Str)) = false := by decide) :
    wpAny M A (eval (.Name x pos) env) Q E s := wpAny_Name (wpAny_loadName_cell hk hx hl hc h) hd
theorem nm_own {C : Addr} {m : Str → Option Value} (hn : s.heap.Ns C m) (hv : m x = some v) (h : Q v s) (hC : env.locals = C := by rfl) (hk : env.scope.kind = .function := by rfl) (hx : env.kindOf x = some .local := by rfl) (hd : (x == ("__debug__" : Str)) = false := by decide) :
    wpAny M A (eval (.Name x pos) env) Q E s := wpAny_Name (wpAny_loadName_local hk hx (hC ▸ hn) hv h) hd
end
section
variable {prog : Program} {w : World} {A : Around} {E : Value → Shared → Prop} {s : Shared} {value slice : Expr} {a : Addr} {k : Int} {u : Tok} {x : Value} {Q : Value → Shared → Prop}
theorem tail_list {l : List Value} (hl : s.heap.IsList a l.toArray) (h0 : 0 ≤ k) (hfit : k < 2 ^ 63) (hx : l[k.toNat]? = some x) (h : Q x s)
    (hs : subscripted slice false (.ref a) (.int k u) = operate [.ref a, .int k u] (getItem (.ref a) (.int k u)) := by with_unfolding_all rfl) :
    wpAny (model prog w) A (subscriptTail value slice (.ref a) (.int k u)) Q E s := tail_any hl.typeIs slot_list_getitem.lookup (wpAny_getItem_list hl h0 hfit (by simpa using hx) h) hs
theorem tail_tup {l : List Value} (ht : s.heap.IsTuple a l.toArray) (h0 : 0 ≤ k) (hfit : k < 2 ^ 63) (hx : l[k.toNat]? = some x) (h : Q x s)
    (hs : subscripted slice false (.ref a) (.int k u) = operate [.ref a, .int k u] (getItem (.ref a) (.int k u)) := by with_unfolding_all rfl) :
    wpAny (model prog w) A (subscriptTail value slice (.ref a) (.int k u)) Q E s := by
  have hlt : k.toNat < l.length := by
    rcases Nat.lt_or_ge k.toNat l.length with q | q
    · exact q
    · rw [List.getElem?_eq_none q] at hx; cases hx
  refine item_tupleT (j := k.toNat) ht (by omega) hfit ?_ hx h hs
  have e : (if k < 0 then k + (l.length : Int) else k) = k := if_neg (by omega)
  unfold seqIndex?
  simp only [e]
  rw [if_pos]
  simp only [Bool.and_eq_true, decide_eq_true_eq]
  omega
end
end Mine
end
section
open PySem PySem.W PyProof.Rows
set_option Elab.async false
set_option maxRecDepth 100000
set_option maxHeartbeats 400000
set_option linter.unusedVariables false
namespace Mine
section
variable {w : World} {A : Around} {E : Value → Shared → Prop} {h : Heap} {g : Array GenState} {d : Drawn} {t : Nat} {os : OsState}
theorem slot_wd_get : Slot "wrapper_descriptor" "__get__" "wrapper_descriptor.__get__" := .of (owner := "wrapper_descriptor") (n := "__get__") (by rw [typeLookup_type, builtinLookup_eq_fast]; kernel_rfl) (by decide +kernel) (by decide +kernel) (by decide +kernel)
  (.inl (by decide +kernel)) (by rw [isSubtype_type]; kernel_rfl)
theorem entry_wd_get : entryFor table "wrapper_descriptor.__get__" = some Builtin.«wrapper_descriptor.__get__» := entryFor_of_tree (by kernel_rfl)
theorem args_wd_get (a b c : Value) : argsOk "wrapper_descriptor.__get__" ⟨[a, b, c], []⟩ := by unfold argsOk; kernel_rfl
theorem type_len : typeOf (.builtin "list.__len__") = pure (.type "wrapper_descriptor") := by show builtinType _ = _; rw [builtinType_eq_fast]; kernel_rfl
theorem acc_sub (X : (K w.params).In h) : Looks (model rwp w) h (isSubtype (.ref 101) (.type "list")) true := Looks.of_peek X (by kernel_rfl)
theorem own_len : ".".intercalate ("list.__len__".cutAt '.').dropLast = "list" := by kernel_rfl
theorem own_init : ".".intercalate ("list.__init__".cutAt '.').dropLast = "list" := by kernel_rfl
theorem type_init : typeOf (.builtin "list.__init__") = pure (.type "wrapper_descriptor") := by show builtinType _ = _; rw [builtinType_eq_fast]; kernel_rfl
theorem wd_len {id : String} (hown : ".".intercalate (id.cutAt '.').dropLast = "list") {x C : Addr} {ox : Obj} {Q : PySem.Fin → Shared → Prop} (X : (K w.params).In h) (hx : h.get? x = some ox) (hc : ox.cls = .ref 101)
    (hq : Q (.done (.ret (.ref h.objs.size))) ⟨h.push { cls := .type "method-wrapper", data := .fields #[.builtin id, .ref x] }, g, d, t, os⟩) :
    wpAny (model rwp w) A (Builtin.«wrapper_descriptor.__get__» ⟨[.builtin id, .ref x, .ref C], []⟩) Q E ⟨h, g, d, t, os⟩ := by
  have hs := acc_sub X
  unfold Builtin.«wrapper_descriptor.__get__»
  repeat (first | wp_step | dsimp only)
  rw [hc, hown]
  refine hs.here ?_
  repeat (first | wp_step | dsimp only)
  exact hq
theorem super_ga_len {id : String} {nm : Str} (hty : typeOf (.builtin id) = pure (.type "wrapper_descriptor")) (hown : ".".intercalate (id.cutAt '.').dropLast = "list") (hn : (nm == ("__class__" : Str)) = false) {so D x C : Addr} {ox : Obj} {l₀ l : List Value} {tk : Tok} {Q : PySem.Fin → Shared → Prop}
    (hso : h.get? so = some { cls := .type "super", dict := none, data := .fields #[.ref D, .ref x, .ref C], slots := #[] }) (hno : Looks (model rwp w) h (opaqueClassAbove (.ref C)) none)
    (hC : Looks (model rwp w) h (mroOf (.ref C)) l₀) (hl : (l₀.dropWhile (· != .ref D)).drop 1 = l) (X : (K w.params).In h)
    (hf : alongIn (K w.params) nm l = some (some (.builtin id))) (hx : h.get? x = some ox) (hc : ox.cls = .ref 101) (hxC : x ≠ C)
    (hq : Q (.done (.ret (.ref h.objs.size))) ⟨h.push { cls := .type "method-wrapper", data := .fields #[.builtin id, .ref x] }, g, d, t, os⟩) :
    wpAny (model rwp w) A (Builtin.«super.__getattribute__» ⟨[.ref so, .str nm tk], []⟩) Q E ⟨h, g, d, t, os⟩ := by
  have hlk := slot_wd_get.lookup
  have hne : (Value.ref x == Value.ref C) = false := by simp [hxC]
  have hTf : ∀ s : Shared, s.TypeIs (.builtin id) "wrapper_descriptor" := fun s => by
    show typeOf _ = _ ; exact hty
  have hdt : ({ cls := .type "super", dict := none, data := .fields #[.ref D, .ref x, .ref C], slots := #[] } : Obj).data = .fields #[.ref D, .ref x, .ref C] := rfl
  have f0 : (#[.ref D, .ref x, .ref C] : Array Value)[0]? = some (.ref D) := rfl
  have f1 : (#[.ref D, .ref x, .ref C] : Array Value)[1]? = some (.ref x) := rfl
  have f2 : (#[.ref D, .ref x, .ref C] : Array Value)[2]? = some (.ref C) := rfl
  unfold Builtin.«super.__getattribute__»
  repeat (first
    | (with_reducible refine wpAny_field hso hdt f0 ?_) | (with_reducible refine wpAny_field hso hdt f1 ?_) | (with_reducible refine wpAny_field hso hdt f2 ?_)
    | (with_reducible refine ks_wpAny_notOpaque hno ?_)
    | (with_reducible refine Looks.at hC ?_; rw [hl])
    | (refine ks_forIn_along X (fun _ _ => rfl) rfl ?_ hf)
    | (with_reducible refine wpAny_typeOf (hTf _) ?_)
    | (with_reducible refine wpAny_call_entry slot_wd_get (hTf _) entry_wd_get ?_ (args_wd_get _ _ _))
    | (simp only [hn, hne, Bool.or_false, Bool.false_eq_true, if_false])
    | wp_step
    | dsimp only)
  rw [hc, hown]
  refine (acc_sub X).here ?_
  repeat (first | wp_step | dsimp only)
  refine ⟨_, rfl, ?_⟩
  repeat (first | wp_step | dsimp only)
  exact hq
theorem meth_super_len {id : String} {nm : Str} (hty : typeOf (.builtin id) = pure (.type "wrapper_descriptor")) (hown : ".".intercalate (id.cutAt '.').dropLast = "list") (hn : (nm == ("__class__" : Str)) = false) {so D x C : Addr} {ox : Obj} {l₀ l : List Value} {pl : Sem Bool} {Q : Value × List Value → Shared → Prop}
    (hso : h.get? so = some { cls := .type "super", dict := none, data := .fields #[.ref D, .ref x, .ref C], slots := #[] }) (hno : Looks (model rwp w) h (opaqueClassAbove (.ref C)) none)
    (hC : Looks (model rwp w) h (mroOf (.ref C)) l₀) (hl : (l₀.dropWhile (· != .ref D)).drop 1 = l) (X : (K w.params).In h)
    (hf : alongIn (K w.params) nm l = some (some (.builtin id))) (hx : h.get? x = some ox) (hc : ox.cls = .ref 101) (hxC : x ≠ C)
    (hq : Q (.ref h.objs.size, []) ⟨h.push { cls := .type "method-wrapper", data := .fields #[.builtin id, .ref x] }, g, d, t + 1, os⟩) :
    wpAny (model rwp w) A (getMethod (.ref so) nm pl) Q E ⟨h, g, d, t, os⟩ := by
  have hlk := F.ks_slot_super_ga.lookup
  have hcan := F.ks_canon_super_ga
  have hT : ∀ t', (⟨h, g, d, t', os⟩ : Shared).TypeIs (.ref so) "super" := fun _ => ⟨_, hso, rfl⟩
  unfold getMethod
  refine wpAny_bind (wpAny_specialOf (hT _) hlk ?_)
  show wpAny _ _ (if (Manifest.canonical "super.__getattribute__" != "object.__getattribute__") = true then _ else _) _ _ _
  rw [if_pos hcan]
  unfold getAttr getAttrBy
  refine wpAny_bind (wpAny_bind (wpAny_mkText (wpAny_holding (wpAny_bind (wpAny_typeOf (hT _) (wpAny_bind (wpAny_of_eq hlk ?_)))))))
  show wpAny _ _ (getAttrByItsOwn (.ref so) (.str nm t) (.type "super") (.builtin "super.__getattribute__") true false) _ _ _
  unfold getAttrByItsOwn hookBefore callGetattribute boundAndCalled
  refine wpAny_bind (wpAny_of_eq (show (if onTheHeap (.type "super") then typeLookup (.type "super") "__getattr__" else pure none) = pure none from rfl) ?_)
  refine wpAny_bind (wpAny_attempt (wpAny_holding ?_))
  show wpAny _ _ (bindSpecial (.builtin "super.__getattribute__") (.ref so) >>= _) _ _ _
  refine wpAny_bind (wpAny_of_eq (F.ks_slot_super_ga.bind _) ?_)
  refine wpAny_mono (Q := fun v s' => v = .ref h.objs.size ∧ s' = ⟨h.push { cls := .type "method-wrapper", data := .fields #[.builtin id, .ref x] }, g, d, t + 1, os⟩) (E := fun _ _ => False)
    (wpAny_call_entry F.ks_slot_super_ga (hT _) F.ks_entry_super_ga (super_ga_len hty hown hn hso hno hC hl X hf hx hc hxC ⟨_, rfl, rfl, rfl⟩) (F.ks_gaArgs_super _ _)) (fun v s' hv => ?_) fun _ _ z => z.elim
  obtain ⟨rfl, rfl⟩ := hv
  exact wpAny_pure (wpAny_pure hq)
theorem code_mw_len {q x : Addr} {ox : Obj} {its : Array Value} {n : Nat} {R : Result → Shared → Prop} (hq : h.get? q = some { cls := .type "method-wrapper", data := .fields #[.builtin "list.__len__", .ref x] }) (hx : h.get? x = some ox) (hd : ox.data = .seq its n)
    (k : R (.ok (.ret (.int its.size t))) ⟨h, g, d, t + 1, os⟩) : codeAny (model rwp w) A (.call (.ref q) ⟨[], []⟩) R ⟨h, g, d, t, os⟩ := by
  refine codeAny_of_tree ?_
  show wpAny _ _ (callAny (.ref q) _) _ _ _
  unfold callAny
  repeat (first | wp_step | dsimp only)
  refine ⟨Code.quiet_builtin _ (by decide +kernel), codeAny_builtin entry_list_len ?_⟩
  show wpAny _ _ (Builtin.«list.__len__» ⟨[.ref x], []⟩) _ _ _
  unfold Builtin.«list.__len__»
  repeat (first | wp_step | dsimp only)
  rw [hd]
  dsimp only
  repeat (first | wp_step | dsimp only)
  exact k
theorem callWith_mw_len {pos : Pos} {env : Env} {q x : Addr} {ox : Obj} {its : Array Value} {n : Nat} {Q : Value → Shared → Prop} (hq : h.get? q = some { cls := .type "method-wrapper", data := .fields #[.builtin "list.__len__", .ref x] }) (hx : h.get? x = some ox) (hd : ox.data = .seq its n)
    (k : Q (.int its.size t) ⟨h, g, d, t + 1, os⟩) : wpAny (model rwp w) A (callWith pos (.ref q) [] (backTo pos (starEach [] env)) []) Q E ⟨h, g, d, t, os⟩ := by
  unfold callWith
  repeat (first | wp_step | dsimp only)
  refine code_mw_len hq hx hd ?_
  dsimp only
  repeat (first | wp_step | dsimp only)
  exact k
end
/-- an accumulator lies here -/
structure AccAt (h : Heap) (x : Addr) (its : Array Value) : Prop where
  ex : ∃ ox n, h.get? x = some ox ∧ ox.cls = .ref 101 ∧ ox.data = .seq its n
theorem spec_pc {w : World} {A : Around} {s : Shared} {p : Program} {loose : List Str} {mg mb : Str → Option Value} {x : Addr} {its : Array Value} (X : (K w.params).In s.heap) (T : TopRead p loose mg mb s.heap) (hroom : A.depth < 700) (hu : A.units < 50) (hh : A.handled = none)
    (I : AccAt s.heap x its) :
   codeAny (model rwp w) A (.call (.ref 98) ⟨[.ref x], []⟩) (Ret s fun v h' => ∃ t, v = .int its.size t) s := by
  obtain ⟨ox, n, hx, hc, hd⟩ := I.ex
  refine ks_codeAny_call_defAt (body := bodyIn 3 8) (binds := [(Str.ofString "self", .ref x)]) (room (Nat.lt_trans hroom (by decide))) (X 98 (o_98 w.params) rfl) rfl T.nolimit (codeRec_of X (K := K w.params) (by rfl)) rfl (BindsTo.of_eq (by rfl)) (by decide) (locs (by rfl)) (fun h₁ hns k₁ => ?_)
  have X₁ : (K w.params).In h₁ := fun a o e => k₁ _ _ (X a o e)
  have hx₁ := k₁ _ _ hx
  show PySem.wpAt _ _ _ (execs (_ :: _) _) _ _ _
  refine ks_wpAt_execs_cons (ks_wpAt_Return_some (ks_wpAt_MethodCall (pl := pure false) ?_ (by rfl)))
  have T₁ := T.keeps k₁
  have hne : x ≠ 101 := fun e => by rw [e, X 101 (o_101 w.params) rfl] at hx; cases hx; cases hc
  refine ks_wpAt_super_base (ar := _) (by rfl) (by rfl) (by decide) rfl (X₁ 98 (o_98 w.params) rfl) rfl rfl rfl (X₁ 97 (o_97 w.params) rfl) rfl rfl (by kernel_rfl) (by kernel_rfl) ?_
  refine ks_loadName_global (by rfl) (by rfl) (PySem.Calls.loadGlobal_builtin T₁.g (mg_none_of X₁ T₁.g (by kernel_rfl)) T₁.b ((T₁.builtins _ (by decide +kernel)).trans (by boot_by_name)) ⟨rfl, ?_⟩)
  refine wpAny_loadName_free (by rfl) (by rfl) rfl ⟨_, X₁ 25 (o_25 w.params) rfl, rfl⟩ ?_
  refine wpAny_loadName_local (by rfl) (by rfl) hns (by rfl) ?_
  refine ks_wpAny_isType_cls (X₁ 101 (o_101 w.params) rfl) rfl ⟨rfl, ?_⟩
  refine ks_wpAny_call_super (X₁ 101 (o_101 w.params) rfl) rfl hx₁ hc (fun c e => by rw [hd] at e; cases e) (Looks.of_peek X₁ (by kernel_rfl)) (fun h₂ e₂ k₂ => ?_)
  have X₂ : (K w.params).In h₂ := fun a o e => k₂ _ _ (X₁ a o e)
  refine meth_super_len type_len own_len (by decide) e₂ (looks_opaque X₂ (by kernel_rfl)) (l₀ := [.ref 101, .type "list", .type "object"]) (Looks.of_peek X₂ (by kernel_rfl)) (l := [.type "list", .type "object"]) (by decide) X₂ (by kernel_rfl) (k₂ _ _ hx₁) hc hne ?_
  have hq : (h₂.push { cls := Value.type "method-wrapper", data := Data.fields #[Value.builtin "list.__len__", Value.ref x] }).get? h₂.objs.size = some { cls := Value.type "method-wrapper", data := Data.fields #[Value.builtin "list.__len__", Value.ref x] } := Heap.get?_push_size _ rfl
  refine callWith_mw_len hq (Heap.get?_push_of_some _ (k₂ _ _ hx₁)) hd ?_
  exact ⟨_, _, _, rfl, rfl, fun b o e => Heap.get?_push_of_some _ (k₂ _ _ (k₁ _ _ e)), ⟨_, rfl⟩⟩
end Mine
end
section
open PySem PySem.W PyProof.Rows
set_option Elab.async false
set_option maxRecDepth 100000
set_option maxHeartbeats 400000
set_option linter.unusedVariables false
namespace Mine
noncomputable abbrev accObj (dx : Addr) : Obj := { cls := .ref 101, dict := some dx, data := .seq #[] }
section
variable {w : World} {A : Around} {E : Value → Shared → Prop} {h : Heap} {g : Array GenState} {d : Drawn} {t : Nat} {os : OsState} {R : Result → Shared → Prop}
theorem new_acc (X : (K w.params).In h) (hq : R (.ok (.ret (.ref (h.objs.size + 1)))) ⟨(h.push emptyDict).push (accObj h.objs.size), g, d, t, os⟩) :
    codeAny (model rwp w) A (.call (.builtin "list.__new__") ⟨[.ref 101], []⟩) R ⟨h, g, d, t, os⟩ := by
  have c1 : Looks (model rwp w) h (checkBuiltinCall "list.__new__" ⟨[.ref 101], []⟩) () := Looks.of_peek X (by kernel_rfl)
  have c2 : Looks (model rwp w) h (isType (.ref 101)) true := Looks.of_peek X (by kernel_rfl)
  have c3 : Looks (model rwp w) h (isSubtype (.ref 101) (.type "list")) true := Looks.of_peek X (by kernel_rfl)
  have hC := X 101 (o_101 w.params) rfl
  refine codeAny_call_builtin_code (Code.quiet_builtin _ (by decide +kernel)) ?_
  refine c1.here ?_
  refine codeAny_builtin_stack F.entry_list_new rfl fun p st => ?_
  have hown := owner_list_new
  simp only [hown]
  repeat (first | lk | wp_step | dsimp only)
  refine wpAny_load (Heap.get?_push_of_some _ (Heap.get?_push_of_some _ hC)) ?_
  show wpAny _ _ (pure false) _ _ _
  repeat (first | lk | wp_step | dsimp only)
  rw [Heap.size_push]
  exact hq
theorem acc_make (X : (K w.params).In h) (hq : codeAny (model rwp w) (A.under (.builtin "type.__call__" ⟨[.ref 101], []⟩)) (.call (.ref 38) ⟨[.ref (h.objs.size + 1)], []⟩) (InitBack (h.objs.size + 1) R) ⟨(h.push emptyDict).push (accObj h.objs.size), g, d, t, os⟩) :
    codeAny (model rwp w) A (.call (.ref 101) ⟨[], []⟩) R ⟨h, g, d, t, os⟩ := by
  have hC := X 101 (o_101 w.params) rfl
  have call : Looks (model rwp w) h (specialOf (.ref 101) "__call__") (some (.builtin "type.__call__")) := Looks.of_peek X (by kernel_rfl)
  have typ : Looks (model rwp w) h (isInstance (.ref 101) (.type "type")) true := Looks.of_peek X (by kernel_rfl)
  have hm : Looks (model rwp w) h (mroOf (.ref 101)) [.ref 101, .type "list", .type "object"] := Looks.of_peek X (by kernel_rfl)
  refine codeAny_of_tree ?_
  show wpAny _ _ (callAny (.ref 101) _) _ _ _
  refine nd_load hC ?_
  show wpAny _ _ (callAny.viaDunder (.ref 101) _) _ _ _
  unfold callAny.viaDunder
  refine wpAny_bind (call.here ?_)
  dsimp only
  rw [tc_bind]
  refine wpAny_bind (wpAny_pure (wpAny_bind (wpAny_pure ?_)))
  refine wpAny_pure (a := Fin.again (.call (.builtin "type.__call__") ⟨[.ref 101], []⟩)) (And.intro rfl ?_)
  refine codeAny_call_builtin_at (Code.quiet_builtin _ (by decide +kernel)) entry_typeCall (check_slot tc_kind tc_split typ (tc_args _ _ _) ?_)
  unfold Builtin.«type.__call__»
  repeat (first | with_reducible refine wpAny_call ?_ | lk | wp_step | dsimp only)
  refine new_acc X ?_
  dsimp only
  have k : ∀ b o, h.get? b = some o → ((h.push emptyDict).push (accObj h.objs.size)).get? b = some o := fun b o e => Heap.get?_push_of_some _ (Heap.get?_push_of_some _ e)
  have hx : ((h.push emptyDict).push (accObj h.objs.size)).get? (h.objs.size + 1) = some (accObj h.objs.size) := by heap_get
  have X2 : (K w.params).In ((h.push emptyDict).push (accObj h.objs.size)) := fun a o e => k _ _ (X a o e)
  have t1 : Looks (model rwp w) ((h.push emptyDict).push (accObj h.objs.size)) (typeOf (.ref (h.objs.size + 1))) (.ref 101) := (Looks.ld hx).andThen .now
  have s1 : Looks (model rwp w) ((h.push emptyDict).push (accObj h.objs.size)) (isSubtype (.ref 101) (.ref 101)) true := Looks.of_peek X2 (by kernel_rfl)
  have i1 : Looks (model rwp w) ((h.push emptyDict).push (accObj h.objs.size)) (typeLookup (.ref 101) "__init__") (some (.ref 38)) := Looks.of_peek X2 (by kernel_rfl)
  have b1 : Looks (model rwp w) ((h.push emptyDict).push (accObj h.objs.size)) (bindSpecial (.ref 38) (.ref (h.objs.size + 1))) (.ref 38, [.ref (h.objs.size + 1)]) := bind_fn X2 _ (by kernel_rfl)
  unfold isInstance callSpecial? specialOf
  repeat (first | with_reducible refine wpAny_call ?_ | lk)
  refine codeAny_mono hq fun r s' z => ?_
  rcases r with e | (v | _ | _ | _) <;> first | exact z | exact z.elim | skip
  obtain ⟨rfl, z⟩ := z
  exact wpAny_pure (wpAny_pure z)
end
end Mine
end
section
open PySem PySem.W PyProof.Rows
set_option Elab.async false
set_option maxRecDepth 100000
set_option maxHeartbeats 400000
set_option linter.unusedVariables false
namespace Mine
section
variable {w : World} {A : Around} {E : Value → Shared → Prop} {h : Heap} {g : Array GenState} {d : Drawn} {t : Nat} {os : OsState} {R : Result → Shared → Prop}
noncomputable abbrev sizeDict (hh : Int) (tk : Tok) (v : Value) : Obj := { cls := .type "dict", data := .dict #[{ hash := hh, key := .str (Str.ofString "_initial_size") tk, val := v }] 1 }
theorem refuse_acc (x : Addr) : refuseLoop (.ref x) "__setattr__" [.ref 101, .type "list", .type "object"] = pure () := by kernel_rfl
theorem set_size {x dx : Addr} {v : Value} {Q : Unit → Shared → Prop} (X : (K w.params).In h) (hx : h.get? x = some (accObj dx)) (hdx : h.get? dx = some emptyDict)
    (hq : ∀ h' tk hh tk', h'.get? dx = some (sizeDict hh tk' v) → (∀ b o, b ≠ dx → h.get? b = some o → h'.get? b = some o) → Q () ⟨h', g, d, tk, os⟩) : wpAny (model rwp w) A (setAttr (.ref x) (Str.ofString "_initial_size") v) Q E ⟨h, g, d, t, os⟩ := by
  have hm : Looks (model rwp w) h (mroOf (.ref 101)) [.ref 101, .type "list", .type "object"] := Looks.of_peek X (by kernel_rfl)
  have t1 : Looks (model rwp w) h (typeOf (.ref x)) (.ref 101) := (Looks.ld hx).andThen .now
  have i1 : Looks (model rwp w) h (typeLookup (.ref 101) "__setattr__") (some (.builtin "object.__setattr__")) := Looks.of_peek X (by kernel_rfl)
  have i2 : Looks (model rwp w) h (typeLookup (.ref 101) (Str.ofString "_initial_size")) none := Looks.of_peek X (by kernel_rfl)
  have s1 : Looks (model rwp w) h (isSubtype (.ref 101) (.type "object")) true := Looks.of_peek X (by kernel_rfl)
  have sub : Looks (model rwp w) h (isInstance (.ref x) (.type "object")) true := t1.andThen s1
  have SF := PySem.F.store_object
  refine wpAny_bind (wpAny_mkText (wpAny_bind (wpAny_bind (wpAny_bind (t1 _ _ _ _ (fun _ _ e => e) (i1 _ _ _ _ (fun _ _ e => e) (wpAny_holding ?_)))))))
  rw [PySem.F.store_object.slot.bind]
  refine wpAny_bind (wpAny_pure (wpAny_bind (wpAny_call ?_)))
  refine codeAny_call_builtin SF.slot.plain SF.entry (@check_slot (model rwp w) _ _ _ "object.__setattr__" "object" "__setattr__" (.ref x) [.str _ _, v] [] _ SF.kind SF.split sub (SF.args (.ref x) (.str _ _) v) ?_)
  show wpAny _ _ (Builtin.«object.__setattr__» ⟨[.ref x, .str (Str.ofString "_initial_size") t, v], []⟩) _ _ _
  rw [osa_eq, refuse_eq]
  refine wpAny_bind (wpAny_bind (t1 _ _ _ _ (fun _ _ e => e) (wpAny_bind (hm _ _ _ _ (fun _ _ e => e) ?_))))
  rw [refuse_acc]
  refine wpAny_pure (wpAny_bind (t1 _ _ _ _ (fun _ _ e => e) (wpAny_bind (i2 _ _ _ _ (fun _ _ e => e) (wpAny_bind ?_)))))
  show wpAny _ _ (pure none) _ _ _
  refine wpAny_pure ?_
  dsimp only
  repeat (first | lk | wp_step | dsimp only)
  refine wpAny_load (X 101 (o_101 w.params) rfl) ?_
  show wpAny _ _ (pure _) _ _ _
  repeat (first | lk | wp_step | dsimp only)
  have D : h.get? dx = some emptyDict := hdx
  refine wpAny_updatePart D ?_
  have D' := Heap.get?_update_self (f := Obj.putName (Str.ofString "_initial_size") (if (Str.ofString "_initial_size").cps.isEmpty = true then 0 else reduceHash ((model rwp w).w.params.strHash (Str.ofString "_initial_size").cps)) (.str (Str.ofString "_initial_size") (t + 1)) v) D (by rfl)
  refine wpAny_bind (wpAny_lookBehind D' (by exact pastItsLine_dict (by show 1 ≤ _; rw [sizeLine_eq]; decide)) ?_)
  repeat (first | lk | wp_step | dsimp only)
  exact hq _ _ _ _ D' fun b o hb e => (Heap.get?_update_other _ _ (Ne.symm hb)).trans e
end
end Mine
end
section
open PySem PySem.W PyProof.Rows
set_option Elab.async false
set_option maxRecDepth 100000
set_option maxHeartbeats 400000
set_option linter.unusedVariables false
namespace Mine
section
variable {w : World} {A : Around} {E : Value → Shared → Prop} {h : Heap} {g : Array GenState} {d : Drawn} {t : Nat} {os : OsState}
noncomputable abbrev accO (dx : Addr) (its : Array Value) (n : Nat) : Obj := { cls := .ref 101, dict := some dx, data := .seq its n }
theorem code_mw_init {q x dx : Addr} {n : Nat} {R : Result → Shared → Prop} (hq : h.get? q = some { cls := .type "method-wrapper", data := .fields #[.builtin "list.__init__", .ref x] }) (hx : h.get? x = some (accO dx #[] n))
    (k : ∀ h' n', h'.get? x = some (accO dx #[] n') → (∀ b o, b ≠ x → h.get? b = some o → h'.get? b = some o) → R (.ok (.ret .none)) ⟨h', g, d, t, os⟩) : codeAny (model rwp w) A (.call (.ref q) ⟨[], []⟩) R ⟨h, g, d, t, os⟩ := by
  refine codeAny_of_tree ?_
  show wpAny _ _ (callAny (.ref q) _) _ _ _
  unfold callAny
  repeat (first | wp_step | dsimp only)
  refine ⟨Code.quiet_builtin _ (by decide +kernel), codeAny_builtin (b := Builtin.«list.__init__») (entryFor_of_tree (by kernel_rfl)) ?_⟩
  show wpAny _ _ (Builtin.«list.__init__» ⟨[.ref x], []⟩) _ _ _
  unfold Builtin.«list.__init__»
  repeat (first | wp_step | dsimp only)
  exact k _ _ (Heap.get?_update_self (f := Obj.mapSeq fun x => #[]) hx (by rfl)) fun b o hb e => (Heap.get?_update_other _ _ (Ne.symm hb)).trans e
theorem callWith_mw_init {pos : Pos} {env : Env} {q x dx : Addr} {n : Nat} {Q : Value → Shared → Prop} (hq : h.get? q = some { cls := .type "method-wrapper", data := .fields #[.builtin "list.__init__", .ref x] }) (hx : h.get? x = some (accO dx #[] n))
    (k : ∀ h' n', h'.get? x = some (accO dx #[] n') → (∀ b o, b ≠ x → h.get? b = some o → h'.get? b = some o) → Q .none ⟨h', g, d, t, os⟩) : wpAny (model rwp w) A (callWith pos (.ref q) [] (backTo pos (starEach [] env)) []) Q E ⟨h, g, d, t, os⟩ := by
  unfold callWith
  repeat (first | wp_step | dsimp only)
  refine code_mw_init hq hx fun h' n' e k' => ?_
  dsimp only
  repeat (first | wp_step | dsimp only)
  exact k h' n' e k'
end
theorem topread_but {p : Program} {loose : List Str} {mg mb : Str → Option Value} {h h' : Heap} {P : Addr → Prop} (T : TopRead p loose mg mb h) (k : ∀ b o, ¬ P b → h.get? b = some o → h'.get? b = some o) (h0 : ¬ P builtinsNs) (h2 : ¬ P cStatics) (h3 : ¬ P mainGlobals) : TopRead p loose mg mb h' := by
  obtain ⟨mc, hc, r⟩ := T.nolimit
  exact ⟨T.g.at' fun o e => k _ o h3 e, T.b.at' fun o e => k _ o h0 e, ⟨mc, hc.at' fun o e => k _ o h2 e, r⟩, T.builtins, T.free⟩
theorem spec_init {w : World} {A : Around} {s : Shared} {p : Program} {loose : List Str} {mg mb : Str → Option Value} {x dx : Addr} {R : Result → Shared → Prop} (X : (K w.params).In s.heap) (T : TopRead p loose mg mb s.heap) (hroom : A.depth < 750)
    (hx : s.heap.get? x = some (accObj dx)) (hdx : s.heap.get? dx = some emptyDict) (hne : x ≠ dx) (nd : ∀ a o, (K w.params).lookup a = some o → a ≠ dx)
    (k : ∀ h' tk hh tk' n', h'.get? x = some (accO dx #[] n') → h'.get? dx = some (sizeDict hh tk' (.int 0 210)) → (∀ b o, b ≠ x → b ≠ dx → s.heap.get? b = some o → h'.get? b = some o) → R (.ok (.ret .none)) { s with heap := h', toks := tk }) :
   codeAny (model rwp w) A (.call (.ref 38) ⟨[.ref x], []⟩) R s := by
  refine ks_codeAny_call_defAt (body := bodyIn 3 0) (binds := [(Str.ofString "self", .ref x), (Str.ofString "initial_size", .int 0 210)]) (room (Nat.lt_trans hroom (by decide))) (X 38 (o_38 w.params) rfl) rfl T.nolimit (codeRec_of X (K := K w.params) (by rfl)) rfl
    (fun M A E Q hq => (Looks.of_peek (K := K w.params) (M := M) X (by kernel_rfl)).here hq) (by decide) (locs (by rfl)) (fun h₁ hns k₁ => ?_)
  have X₁ : (K w.params).In h₁ := fun a o e => k₁ _ _ (X a o e)
  have hx₁ := k₁ _ _ hx
  have hdx₁ := k₁ _ _ hdx
  have T₁ := T.keeps k₁
  show PySem.wpAt _ _ _ (execs (_ :: _) _) _ _ _
  refine ks_wpAt_execs_cons (ks_wpAt_Assign_Attr ?_)
  refine PySem.wpAt_of_wpAny (nm_own hns (by rfl) ?_)
  refine nm_own hns (by rfl) ?_
  refine set_size (dx := dx) X₁ hx₁ hdx₁ (fun h₂ tk₂ hh tkk e₂ k₂ => ?_)
  have X₂ : (K w.params).In h₂ := fun a o e => k₂ _ _ (nd a o e) (X₁ a o e)
  have hx₂ := k₂ _ _ hne hx₁
  have hns₂ := hns.at' fun o e => k₂ _ o (Nat.ne_of_gt (Heap.lt_size hdx)) e
  have T₂ : TopRead p loose mg mb h₂ := topread_but (P := fun b => b = dx) T₁ k₂ (nd 0 (o_0 w.params) rfl) (nd 2 (o_2 w.params) rfl) (nd 3 (o_3 w.params) rfl)
  have hn1 : x ≠ 101 := fun e => by rw [e, X 101 (o_101 w.params) rfl] at hx; cases hx
  show PySem.wpAt _ _ _ (execs (_ :: _) _) _ _ _
  refine ks_wpAt_execs_cons (ks_wpAt_Expr_any (ks_wpAt_MethodCall (pl := pure false) ?_ (by rfl)))
  refine ks_wpAt_super_base (ar := _) (by rfl) (by rfl) (by decide) rfl (X₂ 38 (o_38 w.params) rfl) rfl rfl rfl (X₂ 37 (o_37 w.params) rfl) rfl rfl (by kernel_rfl) (by kernel_rfl) ?_
  refine ks_loadName_global (by rfl) (by rfl) (PySem.Calls.loadGlobal_builtin T₂.g (mg_none_of X₂ T₂.g (by kernel_rfl)) T₂.b ((T₂.builtins _ (by decide +kernel)).trans (by boot_by_name)) ⟨rfl, ?_⟩)
  refine wpAny_loadName_free (by rfl) (by rfl) rfl ⟨_, X₂ 25 (o_25 w.params) rfl, rfl⟩ ?_
  refine wpAny_loadName_local (by rfl) (by rfl) hns₂ (by rfl) ?_
  refine ks_wpAny_isType_cls (X₂ 101 (o_101 w.params) rfl) rfl ⟨rfl, ?_⟩
  refine ks_wpAny_call_super (X₂ 101 (o_101 w.params) rfl) rfl hx₂ rfl (fun c e => by cases e) (Looks.of_peek X₂ (by kernel_rfl)) (fun h₃ e₃ k₃ => ?_)
  have X₃ : (K w.params).In h₃ := fun a o e => k₃ _ _ (X₂ a o e)
  refine meth_super_len type_init own_init (by decide) e₃ (looks_opaque X₃ (by kernel_rfl)) (l₀ := [.ref 101, .type "list", .type "object"]) (Looks.of_peek X₃ (by kernel_rfl)) (l := [.type "list", .type "object"]) (by decide) X₃ (by kernel_rfl) (k₃ _ _ hx₂) rfl hn1 ?_
  have hq : (h₃.push { cls := Value.type "method-wrapper", data := Data.fields #[Value.builtin "list.__init__", Value.ref x] }).get? h₃.objs.size = some { cls := Value.type "method-wrapper", data := Data.fields #[Value.builtin "list.__init__", Value.ref x] } := Heap.get?_push_size _ rfl
  refine callWith_mw_init hq (Heap.get?_push_of_some _ (k₃ _ _ hx₂)) fun h₄ n₄ e₄ k₄ => ?_
  refine PySem.wpAt_of_wpAny (wpAny_execs_nil ?_)
  refine k h₄ _ hh tkk n₄ e₄ (k₄ _ _ (Ne.symm hne) (Heap.get?_push_of_some _ (k₃ _ _ e₂))) fun b o b1 b2 e => k₄ _ _ b1 (Heap.get?_push_of_some _ (k₃ _ _ (k₂ _ _ b2 (k₁ _ _ e))))
end Mine
end
section
open PySem PySem.W PyProof.Rows
set_option Elab.async false
set_option maxRecDepth 100000
set_option maxHeartbeats 400000
set_option linter.unusedVariables false
namespace Mine
/-- an accumulator, its field and its items -/
structure Row (h : Heap) (x dx : Addr) (its : Array Value) : Prop where
  at_ : ∃ n, h.get? x = some (accO dx its n)
  size : ∃ hh tk tk0, h.get? dx = some (sizeDict hh tk (.int 0 tk0))
  ne : x ≠ dx
theorem Row.keeps {h h' : Heap} {x dx : Addr} {its : Array Value} (r : Row h x dx its) (k : Up h h') : Row h' x dx its := by
  obtain ⟨⟨n, e⟩, ⟨hh, tk, tk0, e'⟩, ne⟩ := r
  exact ⟨⟨n, k _ _ e⟩, ⟨hh, tk, tk0, k _ _ e'⟩, ne⟩
theorem Row.acc {h : Heap} {x dx : Addr} {its : Array Value} (r : Row h x dx its) : AccAt h x its := by
  obtain ⟨⟨n, e⟩, _, _⟩ := r
  exact ⟨_, n, e, rfl, rfl⟩
theorem spec_new {w : World} {A : Around} {s : Shared} {p : Program} {loose : List Str} {mg mb : Str → Option Value} (X : (K w.params).In s.heap) (T : TopRead p loose mg mb s.heap) (hroom : A.depth < 740) :
   codeAny (model rwp w) A (.call (.ref 101) ⟨[], []⟩) (Ret s fun v h' => ∃ x dx, v = .ref x ∧ Row h' x dx #[] ∧ s.heap.get? x = none ∧ s.heap.get? dx = none) s := by
  obtain ⟨h, g, d, t, os⟩ := s
  have k : Up h ((h.push emptyDict).push (accObj h.objs.size)) := fun b o e => Heap.get?_push_of_some _ (Heap.get?_push_of_some _ e)
  have hx : ((h.push emptyDict).push (accObj h.objs.size)).get? (h.objs.size + 1) = some (accObj h.objs.size) := by heap_get
  have hdx : ((h.push emptyDict).push (accObj h.objs.size)).get? h.objs.size = some emptyDict := by heap_get
  refine acc_make X (spec_init (dx := h.objs.size) (fun a o e => k _ _ (X a o e)) (T.keeps k) (by have q : (Code.builtin "type.__call__" ⟨[.ref 101], []⟩).weight ≤ 4 := (by decide +kernel); show A.depth + _ < 750; omega) hx hdx (Nat.succ_ne_self _) (fun a o e q => Nat.lt_irrefl _ (q ▸ Heap.lt_size (X a o e))) fun h' tk hh tk' n' e1 e2 e3 => ⟨rfl, ?_⟩)
  refine ⟨_, h', tk, rfl, rfl, fun b o e => e3 b o (fun q => ?_) (fun q => ?_) (k _ _ e), _, _, rfl, ⟨⟨_, e1⟩, ⟨_, _, _, e2⟩, Nat.succ_ne_self _⟩, Heap.get?_none_of_le (Nat.le_succ _), Heap.get?_none_of_le (Nat.le_refl _)⟩
  · have := Heap.lt_size e; rw [q] at this; exact Nat.lt_irrefl _ (Nat.lt_of_succ_lt this)
  · have := Heap.lt_size e; rw [q] at this; exact Nat.lt_irrefl _ this
section
variable {w : World} {A : Around} {E : Value → Shared → Prop} {h : Heap} {g : Array GenState} {d : Drawn} {t : Nat} {os : OsState}
theorem meth_acc {x dx : Addr} {its : Array Value} {nm : Str} {f : Value} {tf : String} {pl : Sem Bool} {Q : Value × List Value → Shared → Prop} (X : (K w.params).In h) (r : Row h x dx its)
    (i1 : Looks (model rwp w) h (typeLookup (.ref 101) nm) (some f)) (t2 : Looks (model rwp w) h (typeOf f) (.type tf)) (htf : tf = "function" ∨ tf = "method_descriptor")
    (hn : ∀ hh tk v, nsNameIn nm.cps.size nm.cps.toList [{ hash := hh, key := Value.str (Str.ofString "_initial_size") tk, val := v }] false = (none, false)) (hq : Q (f, [.ref x]) ⟨h, g, d, t, os⟩) : wpAny (model rwp w) A (getMethod (.ref x) nm pl) Q E ⟨h, g, d, t, os⟩ := by
  obtain ⟨⟨n, hx⟩, ⟨hh, tk, tk0, hdx⟩, ne⟩ := r
  have t1 : Looks (model rwp w) h (typeOf (.ref x)) (.ref 101) := (Looks.ld hx).andThen .now
  have i2 : Looks (model rwp w) h (typeLookup (.ref 101) "__getattribute__") (some (.builtin "list.__getattribute__")) := Looks.of_peek X (by kernel_rfl)
  have i3 : Looks (model rwp w) h (typeLookup (.ref 101) "__getattr__") none := Looks.of_peek X (by kernel_rfl)
  have hcan : (Manifest.canonical "list.__getattribute__" != "object.__getattribute__") = false := by decide +kernel
  unfold getMethod
  repeat (first | lk | wp_step | dsimp only)
  rw [if_neg (by rcases htf with rfl | rfl <;> decide)]
  repeat (first | lk | wp_step | dsimp only)
  rw [hn]
  repeat (first | lk | wp_step | dsimp only)
  exact hq
theorem nn_append (hh : Int) (tk : Tok) (v : Value) : nsNameIn (Str.ofString "append").cps.size (Str.ofString "append").cps.toList [{ hash := hh, key := Value.str (Str.ofString "_initial_size") tk, val := v }] false = (none, false) := by kernel_rfl
theorem type_append : typeOf (.builtin "list.append") = pure (.type "method_descriptor") := by show builtinType _ = _; rw [builtinType_eq_fast]; kernel_rfl
theorem meth_append {x dx : Addr} {its : Array Value} {pl : Sem Bool} {Q : Value × List Value → Shared → Prop} (X : (K w.params).In h) (r : Row h x dx its)
    (hq : Q (.builtin "list.append", [.ref x]) ⟨h, g, d, t, os⟩) : wpAny (model rwp w) A (getMethod (.ref x) (Str.ofString "append") pl) Q E ⟨h, g, d, t, os⟩ :=
  meth_acc X r (Looks.of_peek X (by kernel_rfl)) (Looks.of_pure type_append) (.inr rfl) nn_append hq
theorem check_method {i owner n : String} {self : Value} {rest : List Value} {s : Shared} {M : Model} {Q : Unit → Shared → Prop} (hk : builtinKind i = some .method) (hs : splitId i = some (owner, n)) (hi : Looks M s.heap (isInstance self (.type owner)) true) (ha : argsOk i ⟨self :: rest, []⟩) (q : Q () s) :
    wpAny M A (checkBuiltinCall i ⟨self :: rest, []⟩) Q E s := by
  simp only [checkBuiltinCall, hk, hs]
  refine wpAny_bind (hi.here ?_)
  simp only [Bool.not_true, Bool.false_eq_true, if_false]
  cases hsig : Manifest.signature? i with
  | none => exact wpAny_pure q
  | some sig =>
    simp only [argsOk, hsig] at ha
    show wpAny M A (Bind.checkArgs i sig ⟨self :: rest, []⟩) Q E s
    rw [show Bind.checkArgs i sig ⟨self :: rest, []⟩ = pure () from ha]; exact wpAny_pure q
theorem call_append {x dx : Addr} {its : Array Value} {v : Value} {Q : Value → Shared → Prop} (X : (K w.params).In h) (r : Row h x dx its) (hsz : its.size ≤ 30)
    (hq : ∀ h', Row h' x dx (its.push v) → (∀ b o, b ≠ x → h.get? b = some o → h'.get? b = some o) → Q .none ⟨h', g, d, t, os⟩) : wpAny (model rwp w) A (call (.builtin "list.append") [.ref x, v]) Q E ⟨h, g, d, t, os⟩ := by
  obtain ⟨⟨n, hx⟩, ⟨hh, tk, tk0, hdx⟩, ne⟩ := r
  have t1 : Looks (model rwp w) h (typeOf (.ref x)) (.ref 101) := (Looks.ld hx).andThen .now
  have s1 : Looks (model rwp w) h (isSubtype (.ref 101) (.type "list")) true := Looks.of_peek X (by kernel_rfl)
  refine wpAny_call (codeAny_call_builtin_code (Code.quiet_builtin _ (by decide +kernel)) ?_)
  refine check_method (owner := "list") (n := "append") (by decide +kernel) (by decide +kernel) (t1.andThen s1) (args_list_append _ _) ?_
  refine codeAny_builtin entry_list_append ?_
  unfold Builtin.«list.append»
  repeat (first | lk | wp_step | dsimp only)
  refine wpAny_updatePart (part := none) hx ?_
  have D' := Heap.get?_update_self (f := Obj.mapSeq fun y => y.push v) hx (by rfl)
  refine wpAny_lookBehind D' ?_ ?_
  · show Data.pastItsLine (.seq (its.push v) _) = none
    exact pastItsLine_seq (by rw [Array.size_push, sizeLine_eq]; omega)
  repeat (first | lk | wp_step | dsimp only)
  exact hq _ ⟨⟨_, D'⟩, ⟨hh, tk, tk0, (Heap.get?_update_other _ _ ne).trans hdx⟩, ne⟩ fun b o hb e => (Heap.get?_update_other _ _ (Ne.symm hb)).trans e
end
theorem spec_push {w : World} {A : Around} {s : Shared} {p : Program} {loose : List Str} {mg mb : Str → Option Value} {x dx : Addr} {its : Array Value} {a b : Str} {ta tb : Tok} {R : Result → Shared → Prop} (X : (K w.params).In s.heap) (T : TopRead p loose mg mb s.heap) (hroom : A.depth < 700)
    (r : Row s.heap x dx its) (hsz : its.size ≤ 30)
    (k : ∀ h' tk q, Row h' x dx (its.push (.ref q)) → h'.IsTuple q #[.str a ta, .str b tb] → s.heap.get? q = none → (∀ b o, b ≠ x → s.heap.get? b = some o → h'.get? b = some o) → R (.ok (.ret .none)) { s with heap := h', toks := tk }) :
   codeAny (model rwp w) A (.call (.ref 45) ⟨[.ref x, .str a ta, .str b tb], []⟩) R s := by
  refine ks_codeAny_call_defAt (body := bodyIn 3 1) (binds := [(Str.ofString "self", .ref x), (Str.ofString "fws", .str a ta), (Str.ofString "string", .str b tb)]) (room (Nat.lt_trans hroom (by decide))) (X 45 (o_45 w.params) rfl) rfl T.nolimit (codeRec_of X (K := K w.params) (by rfl)) rfl (BindsTo.of_eq (by rfl)) (by decide) (locs (by rfl)) (fun h₁ hns k₁ => ?_)
  have X₁ : (K w.params).In h₁ := fun a o e => k₁ _ _ (X a o e)
  have r₁ := r.keeps k₁
  show PySem.wpAt _ _ _ (execs (_ :: _) _) _ _ _
  refine ks_wpAt_execs_cons (ks_wpAt_Expr_any (PySem.wpAt_of_wpAny (MethodCall_ (nm_own hns (by rfl) ?_))))
  refine meth_append X₁ r₁ ?_
  refine callWith_method1 ?_
  refine spliced_more (Tuple_ (spliced_more (nm_own hns (by rfl) (spliced_more (nm_own hns (by rfl) (spliced_none ?_))))))
  refine wpAny_newObj_type ?_
  refine spliced_none ?_
  have k₂ : Up h₁ (h₁.push { cls := .type "tuple", data := .seq [Value.str a ta, .str b tb].toArray }) := up_push _ _
  refine call_append (fun a o e => k₂ _ _ (X₁ a o e)) (r₁.keeps k₂) hsz fun h₃ r₃ k₃ => ?_
  refine PySem.wpAt_of_wpAny (wpAny_execs_nil ?_)
  have hT : (h₁.push { cls := .type "tuple", data := .seq [Value.str a ta, .str b tb].toArray }).get? h₁.objs.size = some { cls := .type "tuple", data := .seq [Value.str a ta, .str b tb].toArray } := Heap.get?_push_size _ rfl
  have hne : h₁.objs.size ≠ x := fun q => by
    obtain ⟨⟨n, e⟩, _, _⟩ := r₁
    have := Heap.lt_size e; rw [← q] at this; exact Nat.lt_irrefl _ this
  refine k h₃ _ h₁.objs.size r₃ ⟨_, k₃ _ _ hne hT, rfl, _, rfl⟩ ?_ fun b o hb e => k₃ _ _ hb (k₂ _ _ (k₁ _ _ e))
  cases q : s.heap.get? h₁.objs.size with
  | none => rfl
  | some o => exact absurd (Heap.lt_size (k₁ _ _ q)) (Nat.lt_irrefl _)
end Mine
end
section
open PySem PySem.W PyProof.Rows
set_option Elab.async false
set_option maxRecDepth 100000
set_option maxHeartbeats 400000
set_option linter.unusedVariables false
namespace Mine
section
variable {w : World} {A : Around} {E : Value → Shared → Prop} {h : Heap} {g : Array GenState} {d : Drawn} {t : Nat} {os : OsState}
theorem acc_iter {x dx : Addr} {its : Array Value} {Q : Value → Shared → Prop} (X : (K w.params).In h) (r : Row h x dx its)
    (hq : Q (.ref h.objs.size) ⟨h.push { cls := .type "list_iterator", data := .fields #[.ref x, .int 0 0] }, g, d, t, os⟩) : wpAny (model rwp w) A (pyIter (.ref x)) Q E ⟨h, g, d, t, os⟩ := by
  obtain ⟨⟨n, hx⟩, _, _⟩ := r
  have t1 : Looks (model rwp w) h (typeOf (.ref x)) (.ref 101) := (Looks.ld hx).andThen .now
  have i1 : Looks (model rwp w) h (typeLookup (.ref 101) "__iter__") (some (.builtin "list.__iter__")) := Looks.of_peek X (by kernel_rfl)
  have s1 : Looks (model rwp w) h (isSubtype (.ref 101) (.type "list")) true := Looks.of_peek X (by kernel_rfl)
  have sub : Looks (model rwp w) h (isInstance (.ref x) (.type "list")) true := t1.andThen s1
  have bi : bindSpecial (.builtin "list.__iter__") (.ref x) = pure (.builtin "list.__iter__", [.ref x]) := slot_list_iter.bind _
  unfold pyIter
  repeat (first | lk | (with_reducible refine wpAny_of_eq bi ?_) | wp_step | dsimp only)
  rw [bi]
  have key : ∀ {Q' : Option (Value × List Value) → Shared → Prop} {c : Prop} [Decidable c] {E' : Value → Shared → Prop}, Q' (some (.builtin "list.__iter__", [.ref x])) ⟨h, g, d, t, os⟩ →
      wpAny (model rwp w) A (if c then (do let r ← (pure (.builtin "list.__iter__", [.ref x]) : Sem (Value × List Value)); pure (some r)) else ((do let r ← (pure (.builtin "list.__iter__", [.ref x]) : Sem (Value × List Value)); pure (some r)).tryCatch fun _ => do rule "special.get-raises-dropped"; pure none)) Q' E' ⟨h, g, d, t, os⟩ := by
    intro Q' c _ E' hq'
    split
    · exact wpAny_pure hq'
    · exact wpAny_pure hq'
  refine key ?_
  dsimp only
  rw [if_neg (by decide)]
  refine wpAny_bind (wpAny_call (codeAny_call_builtin slot_list_iter.plain entry_list_iter (check_slot (owner := "list") (n := "__iter__") (by decide +kernel) (by decide +kernel) sub (args_list_iter _) ?_)))
  show wpAny _ _ (do ret (← newFields "list_iterator" [.ref x, rawInt 0])) _ _ _
  refine wpAny_bind (wpAny_newObj_type (wpAny_pure ?_))
  dsimp only
  have hlk := slot_listiter_next.lookup
  have ti : (⟨h.push { cls := .type "list_iterator", data := .fields #[.ref x, .int 0 0] }, g, d, t, os⟩ : Shared).TypeIs (.ref h.objs.size) "list_iterator" := ⟨_, Heap.get?_push_size _ rfl, rfl⟩
  refine wpAny_pure ?_
  dsimp only
  refine wpAny_bind (wpAny_specialOf ti hlk ?_)
  dsimp only
  exact wpAny_pure hq
theorem acc_next {x dx it : Addr} {i : Nat} {its : Array Value} {v : Value} {Q : Option Value → Shared → Prop} (r : Row h x dx its) (hit : h.IsListIter it x i) (hx : its[i]? = some v)
    (hQ : ∀ h', h'.IsListIter it x (i + 1) → Heap.SameBut it h h' → Q (some v) ⟨h', g, d, t, os⟩) : wpAny (model rwp w) A (pyNext (.ref it)) Q E ⟨h, g, d, t, os⟩ := by
  obtain ⟨⟨n, hxx⟩, _, _⟩ := r
  obtain ⟨⟨oc, odc, oda, osl⟩, ho, hc, hd⟩ := id hit
  dsimp only at hc hd
  subst hc hd
  have hlk := slot_listiter_next.lookup
  unfold pyNext
  refine wpAny_bind (wpAny_attempt (wpAny_callSpecial?_slot (name := Str.ofString "__next__") hit.typeIs slot_listiter_next
    (wpAny_call_entry slot_listiter_next hit.typeIs entry_listiter_next ?_ (args_listiter_next _))))
  unfold Builtin.«list_iterator.__next__»
  repeat (first | wp_step | dsimp only)
  simp only [Int.toNat_natCast, hx]
  repeat (first | wp_step | dsimp only)
  exact ⟨v, rfl, wpAny_pure (hQ _ ⟨_, Heap.get?_update_self _ ho (by rfl), rfl, rfl⟩ (Heap.SameBut.update ..))⟩
theorem acc_end {x dx it : Addr} {i : Nat} {its : Array Value} {Q : Option Value → Shared → Prop} (hh : A.handled = none) (r : Row h x dx its) (hit : h.IsListIter it x i) (hx : its[i]? = none)
    (hQ : ∀ h', Heap.ExtBut it h h' → Q none ⟨h', g, d, t, os⟩) : wpAny (model rwp w) A (pyNext (.ref it)) Q E ⟨h, g, d, t, os⟩ := by
  obtain ⟨⟨n, hxx⟩, _, _⟩ := r
  obtain ⟨⟨oc, odc, oda, osl⟩, ho, hc, hd⟩ := id hit
  dsimp only at hc hd
  subst hc hd
  have hlk := slot_listiter_next.lookup
  unfold pyNext
  refine wpAny_bind (wpAny_attempt (wpAny_callSpecial?_slot (name := Str.ofString "__next__") hit.typeIs slot_listiter_next
    (wpAny_call_entry slot_listiter_next hit.typeIs entry_listiter_next ?_ (args_listiter_next _))))
  unfold Builtin.«list_iterator.__next__»
  repeat (first | wp_step | dsimp only)
  simp only [Int.toNat_natCast, hx]
  repeat (first | wp_step | dsimp only)
  simp only [raiseNew]
  refine wpAny_bind (wpAny_handled ?_)
  rw [show A.in1.handled = none from hh]
  refine wpAny_bind (wpAny_pure (wpAny_throw ?_))
  refine wpAny_bind (wpAny_isInstance (T := "StopIteration") (b := true) ⟨_, Heap.get?_push_size _ rfl, rfl⟩ isSubtype_stop ?_)
  refine wpAny_pure (hQ _ fun b o hb e => ?_)
  exact Heap.get?_push_of_some _ (Heap.get?_push_of_some _ ((Heap.get?_update_other _ _ (Ne.symm hb)).trans e))
end
end Mine
end
section
open PySem PySem.W PyProof.Rows
set_option Elab.async false
set_option maxRecDepth 100000
set_option maxHeartbeats 400000
set_option linter.unusedVariables false
namespace Mine
/-- the pairs of an accumulator: no white space of its own, and a text each -/
structure Parts (h : Heap) (its : Array Value) (ps : List Str) : Prop where
  len : its.size = ps.length
  tup : ∀ k (_ : k < ps.length), ∃ T ta tb, its[k]? = some (.ref T) ∧ h.IsTuple T #[.str (Str.ofString "") ta, .str (ps.getD k (Str.ofString "")) tb]
theorem Parts.keeps {h h' : Heap} {its : Array Value} {ps : List Str} (r : Parts h its ps) (k : ∀ (j : Nat) (T : Addr), its[j]? = some (Value.ref T) → ∀ o, h.get? T = some o → h'.get? T = some o) : Parts h' its ps := by
  refine ⟨r.len, fun j hj => ?_⟩
  obtain ⟨T, ta, tb, e, o, ho, r'⟩ := r.tup j hj
  exact ⟨T, ta, tb, e, o, k j T e o ho, r'⟩
theorem Row.at {h h' : Heap} {x dx : Addr} {its : Array Value} (r : Row h x dx its) (k1 : ∀ o, h.get? x = some o → h'.get? x = some o) (k2 : ∀ o, h.get? dx = some o → h'.get? dx = some o) : Row h' x dx its := by
  obtain ⟨⟨n, e⟩, ⟨hh, tk, tk0, e'⟩, ne⟩ := r
  exact ⟨⟨n, k1 _ e⟩, ⟨hh, tk, tk0, k2 _ e'⟩, ne⟩
theorem acc_walks {w : World} {A : Around} (hh : A.handled = none) {I x dx : Addr} {its : Array Value} {ps : List Str} {fp : List Addr} (hI : I ∈ fp) (hx : x ∈ fp) (hd : dx ∈ fp) (hT : ∀ (j : Nat) (T : Addr), its[j]? = some (Value.ref T) → T ∈ fp) (n1 : x ≠ I) (n2 : dx ≠ I) (n3 : ∀ (j : Nat) (T : Addr), its[j]? = some (Value.ref T) → T ≠ I) :
    WalksU rwp w A I fp [I] ps.length (fun j v => j < ps.length ∧ ∃ ta tb, v = #[.str (Str.ofString "") ta, .str (ps.getD j (Str.ofString "")) tb]) (fun j h => h.IsListIter I x j ∧ Row h x dx its ∧ Parts h its ps)
      (fun j T h => its[j]? = some (.ref T) ∧ h.IsListIter I x (j + 1) ∧ Row h x dx its ∧ Parts h its ps) where
  sub := fun b hb => by rw [List.mem_singleton.mp hb]; exact hI
  frame := fun i h h' st hk => ⟨st.1.at fun o e => hk I hI o e, st.2.1.at (fun o e => hk x hx o e) (fun o e => hk dx hd o e), st.2.2.keeps fun j T e o ho => hk T (hT j T e) o ho⟩
  item := fun i s Q E hi st hQ => by
    obtain ⟨hp, g, d, tk, os⟩ := s
    obtain ⟨T, ta, tb, e, ht⟩ := st.2.2.tup i hi
    refine acc_next st.2.1 st.1 e fun h' hit' hs' => ?_
    have P' : Parts h' its ps := st.2.2.keeps fun j T' e' o ho => hs'.extBut _ o (n3 j T' e') ho
    have R' : Row h' x dx its := st.2.1.at (fun o ho => hs'.extBut _ o n1 ho) (fun o ho => hs'.extBut _ o n2 ho)
    exact hQ T _ h' tk ⟨hi, ta, tb, rfl⟩ (ht.extBut hs'.extBut (n3 i T e)) ⟨e, hit', R', P'⟩ fun b o hb e => hs'.extBut b o (fun q => hb (by simp [q])) e
  go := fun _ _ _ _ _ s Q _ hm hQ => wpAny_letOwnedTupleGo_listiter hm.2.1 (hQ s.heap hm.2 fun _ _ _ e => e)
  apart := fun j T _ hm hmem => n3 j T hm.1 (List.mem_singleton.mp hmem)
  done := fun s Q E st hQ => by
    obtain ⟨hp, g, d, tk, os⟩ := s
    refine acc_end hh st.2.1 st.1 (by rw [Array.getElem?_eq_none (by rw [st.2.2.len]; exact Nat.le_refl _)]) fun h' he' => hQ h' tk fun b o hb e => he' b o (fun q => hb (by simp [q])) e
  self := fun _ _ _ _ st hQ => wpAny_pyIter_listiter st.1 hQ
end Mine
namespace Mine
/-- a code's table of what was made in it -/
noncomputable def Tab (h : Heap) (c P : Addr) : Prop := ∃ ps, h.IsCode c P ps ∧ h.TableAt c P ps
theorem Tab.keeps {h h' : Heap} {c P : Addr} (t : Tab h c P) (k : Up h h') : Tab h' c P := by
  obtain ⟨ps, a, b⟩ := t
  exact ⟨ps, a.keeps k, b.keeps k⟩
theorem genexpr_tab {M : Model} {A : Around} {E : Value → Shared → Prop} {s : Shared} {env : Env} {c P : Addr} {pos : Pos} {qn : Str} {scope : Scope} {Q : Value → Shared → Prop} (hc : env.code = .ref c) (t : Tab s.heap c P)
    (hQ : ∀ code h' tk, Heap.ExtBut P s.heap h' → Tab h' c P → Q code { s with heap := h', toks := tk }) : wpAny M A (genexprCode env pos qn scope) Q E s := by
  obtain ⟨ps, a, b⟩ := t
  cases hnf : codeAmong pos ps.toList with
  | some cv => exact wpAny_genexprCode_hit hc a hnf (hQ cv s.heap s.toks (Heap.ExtBut.refl _ _) ⟨ps, a, b⟩)
  | none => exact wpAny_genexprCodeX hc a b hnf fun c' h' tk e _ _ ic _ ta _ => hQ _ h' tk e ⟨_, ic, ta⟩
theorem pass_tt (n : Nat) : passing (fun _ => true) n 0 = List.range n := by
  unfold passing
  rw [List.drop_zero, List.filter_eq_self.mpr fun _ _ => rfl]
theorem gen_acc {w : World} {A : Around} {E : Value → Shared → Prop} {s : Shared} {p : Program} {loose : List Str} {mg mb : Str → Option Value} {env : Env} {elt iter : Expr} {pa pb pt : Pos} {kt : Nat} {scope : Scope} {pos : Pos} {Q : Value → Shared → Prop} {c P x dx : Addr} {its : Array Value} {ps : List Str} {F : Nat → Value → Prop}
    (hh : A.handled = none) (hroom : A.depth < recursionLimit) (X : (K w.params).In s.heap) (T : TopRead p loose mg mb s.heap) (hP : ∀ a o, (K w.params).lookup a = some o → a ≠ P)
    (hcode : env.code = .ref c) (hg : env.globals = mainGlobals) (hb : env.builtins = builtinsNs) (tab : Tab s.heap c P) (r : Row s.heap x dx its) (pr : Parts s.heap its ps)
    (hPr : x ≠ P ∧ dx ≠ P ∧ ∀ (j : Nat) T, its[j]? = some (Value.ref T) → T ≠ P)
    (hi : ∀ Q' : Value → Shared → Prop, Q' (.ref x) s → wpAny (model rwp w) A (eval iter env) Q' E s)
    (hclos : closureFor scope env = pure []) (hcell : ∀ y ∈ scope.names, y.2 ≠ .cell) (h0 : scope.names.lookup (".0" : Str) = some NameKind.local) (hxa : scope.names.lookup (Str.ofString "fws") = some .local) (hxb : scope.names.lookup (Str.ofString "part") = some .local) (hkind : scope.kind = .function) (hco : scope.isCoroutine = false)
    (helt : ∀ (A' : Around) E' (C : Addr) (code : Value) i (s₂ : Shared) m₂ ta tb, A'.handled = none → A'.depth ≤ A.depth + 1 → A'.units ≤ A.units + 8 → i < ps.length → s₂.heap.Ns C m₂ → m₂ (Str.ofString "fws") = some (.str (Str.ofString "") ta) → m₂ (Str.ofString "part") = some (.str (ps.getD i (Str.ofString "")) tb) → (∀ b o, b ≠ P → s.heap.get? b = some o → s₂.heap.get? b = some o) →
      wpAny (model rwp w) A' (eval elt (genEnv scope [] C code builtinsNs env)) (fun y s₃ => F i y ∧ Keeps s₂ s₃) E' s₂)
    (hQ : ∀ a h' tk gs (fp wr : List Addr) (St : Nat → Shared → Prop), gs.bare = true → (∀ b o, b ≠ P → s.heap.get? b = some o → h'.get? b = some o) → Tab h' c P → (∀ b ∈ wr, s.heap.get? b = none) → (∀ b ∈ fp, b < h'.objs.size) → a ∈ fp → s.heap.get? a = none → h'.IsGen a s.gens.size →
      WalksS rwp w A.in4 a fp wr (GenOnlyQ s.gens.size) ps.length (fun j y => F j y) St → (∀ i s', St i s' → s'.TypeIs (.ref a) "generator") → St 0 { s with gens := s.gens.push gs, toks := tk, heap := h' } → Q (.ref a) { s with gens := s.gens.push gs, toks := tk, heap := h' })
    (hs : ∀ x, genFold iter env x = pure x := by intro _; rfl) :
    wpAny (model rwp w) A (eval (.GeneratorExp elt [⟨.Tuple [.Name (Str.ofString "fws") pa, .Name (Str.ofString "part") pb] kt pt, iter, [], 0⟩] scope pos) env) Q E s := by
  obtain ⟨h, g, d, t, os⟩ := s
  refine wpAny_GeneratorExp_walksQTD hh hco hclos hcell h0 hxa hxb (by decide) hkind hroom (hi _ (acc_iter X r ?_)) hs
  have k1 : Up h (h.push { cls := .type "list_iterator", data := .fields #[.ref x, .int 0 0] }) := up_push _ _
  refine ⟨T.nolimit.keeps k1, genexpr_tab hcode (tab.keeps k1) fun code h₂ tk₂ e₂ t₂ => ?_⟩
  have k2 : ∀ b o, b ≠ P → h.get? b = some o → h₂.get? b = some o := fun b o hb e => e₂ b o hb (k1 b o e)
  have T2 : TopRead p loose mg mb h₂ := topread_but (P := fun b => b = P) T k2 (hP 0 (o_0 w.params) rfl) (hP 2 (o_2 w.params) rfl) (hP 3 (o_3 w.params) rfl)
  have X2 : (K w.params).In h₂ := fun a o e => k2 a o (hP a o e) (X a o e)
  rw [hg, hb]
  refine wpAny_builtinsFor T2.g (bm := 4) (mg_of X2 T2.g (by kernel_rfl)) (by decide) (X2 4 (o_4 w.params) rfl) rfl rfl rfl ?_
  have hit1 : (h.push { cls := .type "list_iterator", data := .fields #[.ref x, .int 0 0] }).IsListIter h.objs.size x 0 := ⟨_, Heap.get?_push_size _ rfl, rfl, rfl⟩
  have hPlt : P < h.objs.size := by obtain ⟨_, _, _, tt⟩ := tab; exact Heap.lt_size tt
  have hit2 : h₂.IsListIter h.objs.size x 0 := by obtain ⟨o, ho, q⟩ := hit1; exact ⟨o, e₂ _ o (Nat.ne_of_gt hPlt) ho, q⟩
  have r2 : Row h₂ x dx its := r.at (fun o e => k2 _ o hPr.1 e) (fun o e => k2 _ o hPr.2.1 e)
  have p2 : Parts h₂ its ps := pr.keeps fun j T e o ho => k2 _ o (hPr.2.2 j T e) ho
  have old : ∀ b o, h.get? b = some o → b ≠ h.objs.size := fun b o e => Nat.ne_of_lt (Heap.lt_size e)
  have ex : ∀ (j : Nat) (T : Addr), its[j]? = some (Value.ref T) → ∃ o, h.get? T = some o := fun j T e => by
    have hj : j < ps.length := by
      rw [← pr.len]
      rcases Nat.lt_or_ge j its.size with q | q
      · exact q
      · rw [Array.getElem?_eq_none q] at e; cases e
    obtain ⟨T', ta, tb, e', o, ho, _⟩ := pr.tup j hj
    rw [e] at e'; cases e'; exact ⟨o, ho⟩
  obtain ⟨⟨nx, hx⟩, ⟨_, _, _, hdx⟩, _⟩ := id r
  have lt2 : ∀ b o, b ≠ P → h.get? b = some o → b < h₂.objs.size := fun b o hb e => Heap.lt_size (k2 b o hb e)
  have hI2 : h.objs.size < h₂.objs.size := by obtain ⟨o, ho, _⟩ := hit2; exact Heap.lt_size ho
  refine ⟨h.objs.size, List.range h₂.objs.size, [h.objs.size], ps.length, _, _, _, (fun _ => true), F, rfl,
    fun A' hA => acc_walks hA (List.mem_range.mpr hI2) (List.mem_range.mpr (lt2 _ _ hPr.1 hx)) (List.mem_range.mpr (lt2 _ _ hPr.2.1 hdx))
      (fun j T e => by obtain ⟨o, ho⟩ := ex j T e; exact List.mem_range.mpr (lt2 _ _ (hPr.2.2 j T e) ho)) (old _ _ hx) (old _ _ hdx) (fun j T e => by obtain ⟨o, ho⟩ := ex j T e; exact old _ _ ho),
    fun i vals hv => by obtain ⟨_, ta, tb, e⟩ := hv; exact ⟨_, _, e⟩, ⟨hit2, r2, p2⟩, fun b hb => List.mem_range.mp hb, T2.nolimit, ?_, fun href up => ⟨?_, ?_⟩, ?_⟩
  · intro hm
    have q := List.mem_singleton.mp hm
    exact old _ _ (X 2 (o_2 w.params) rfl) q
  · intro A' E' i va vb s₂ m₂ _ _ _ _ _ _ _ _
    exact wpAny_tests_nil ⟨rfl, _, _, rfl, fun _ _ e => e⟩
  · intro A' E' i va vb s₂ m₂ hA hD hU hv _ hns ha hb' hk
    obtain ⟨hlt, ta, tb, e⟩ := hv
    obtain ⟨e1, e2⟩ : va = .str (Str.ofString "") ta ∧ vb = .str (ps.getD i (Str.ofString "")) tb := by simpa using congrArg Array.toList e
    subst e1 e2
    have z := helt A' E' _ code i s₂ m₂ ta tb hA hD hU hlt hns ha hb' fun b o hb e => hk b (List.mem_range.mpr (lt2 b o hb e)) (fun hm => old b o e (List.mem_singleton.mp hm)) o (up b o (k2 b o hb e))
    rw [show genEnv scope [] h₂.objs.size code builtinsNs env = genEnv scope [] h₂.objs.size code builtinsNs env from rfl] at z
    exact z
  · intro a h₅ tk gs hbare ha hsz up W G
    have hPf : ∀ j y, (∃ i, (passing (fun _ => true) ps.length 0)[j]? = some i ∧ F i y) → F j y := fun j y ⟨i, e, hf⟩ => by
      rw [pass_tt] at e
      have : j = i := by
        have := List.getElem?_eq_some_iff.mp e
        obtain ⟨q, e'⟩ := this
        simpa using e'
      exact this ▸ hf
    rw [show (passing (fun _ => true) ps.length 0).length = ps.length by rw [pass_tt]; simp] at W
    refine hQ a h₅ tk gs _ _ _ hbare (fun b o hb e => up b o (k2 b o hb e)) (t₂.keeps up) (fun b hb => ?_) (fun b hb => ?_) List.mem_cons_self ?_ G.1
      { sub := W.sub, grefl := W.grefl, gtrans := W.gtrans, frame := W.frame, done := W.done, self := W.self, item := fun i s Q E hi st hq => W.item i s Q E hi st fun v s' hp => hq v s' (hPf i v hp) } (fun i s' st => ?_) G
    · rcases List.mem_cons.mp hb with rfl | hb
      · exact Heap.get?_none_of_le (Nat.le_of_lt hI2)
      · rw [List.mem_singleton.mp hb]; exact Heap.get?_none_of_le (Nat.le_refl _)
    · rw [hsz]
      rcases List.mem_cons.mp hb with rfl | hb
      · exact Nat.lt_succ_self _
      · rcases List.mem_cons.mp hb with rfl | hb
        · exact Nat.lt_succ_of_lt ha
        · exact Nat.lt_succ_of_lt (Nat.lt_trans (List.mem_range.mp hb) ha)
    · exact Heap.get?_none_of_le (Nat.le_of_lt (Nat.lt_trans hI2 ha))
    · exact st.1.typeIs
end Mine
end
section
open PySem PySem.W PyProof.Rows
set_option Elab.async false
set_option maxRecDepth 100000
set_option maxHeartbeats 400000
set_option linter.unusedVariables false
namespace Mine
section
variable {w : World} {A : Around} {E : Value → Shared → Prop} {s : Shared}
theorem args_sum2 (a b : Value) : argsOk "sum" ⟨[a, b], []⟩ := by unfold argsOk; kernel_rfl
theorem sum_start {x : Value} {t0 : Tok} {Q : Value → Shared → Prop}
    (h : wpAny (model rwp w) A.in1 (pyIter x) (fun it s₂ => ∃ I fp wr G n P St val, it = .ref I ∧ WalksS rwp w A.in1 I fp wr G n P St ∧ St 0 s₂ ∧ (∀ b ∈ fp, b < s₂.heap.objs.size) ∧
      (∀ i v, P i v → ∃ t, v = .int (val i) t) ∧ (∀ j, j < n → InLong (val j) ∧ InLong (preSum val (j + 1))) ∧
      ∀ s' t', Moved wr G s₂ s' → Q (.int (preSum val n) t') s') E s) :
    wpAny (model rwp w) A (call (.builtin "sum") [x, .int 0 t0]) Q E s := by
  refine call_function_tree F.kind_sum F.plain_sum F.entry_sum (args_sum2 _ _) ?_
  unfold Builtin.«sum»
  simp only [List.length_cons, List.length_nil]
  rw [if_neg (by decide)]
  refine wpAny_bind (wpAny_of_eq (show Builtin.Builtins.bindParams "sum" ["start"] 0 ⟨[.int 0 t0], []⟩ = pure [some (.int 0 t0)] from rfl) ?_)
  refine wpAny_bind (wpAny_mono h (fun it s₂ h₂ => ?_) fun _ _ e => e)
  obtain ⟨I, fp, wr, G, n, P, St, val, rfl, W, hst, hfp, hval, hfit, hQ⟩ := h₂
  dsimp only
  rw [if_pos (by decide)]
  refine wpAny_bind (wpAny_rule ?_)
  refine wpAny_bind (wpAny_mkInt ?_)
  refine wpAny_bind (wpAny_pure ?_)
  simp only [List.forIn_cons, List.forIn_nil]
  refine wpAny_bind (wpAny_bind (wpAny_bind (wpAny_isInstance (T := "int") (b := false) (typeIs_int _ _ _) (PySem.sub_int_str) ?_)))
  simp only [Bool.false_eq_true, if_false]
  refine wpAny_pure (wpAny_bind (wpAny_bind (wpAny_isInstance (T := "int") (b := false) (typeIs_int _ _ _) (PySem.sub_int_bytes) ?_)))
  simp only [Bool.false_eq_true, if_false]
  refine wpAny_pure (wpAny_bind (wpAny_bind (wpAny_isInstance (T := "int") (b := false) (typeIs_int _ _ _) (PySem.sub_int_bytearray) ?_)))
  simp only [Bool.false_eq_true, if_false]
  refine wpAny_pure (wpAny_pure ?_)
  refine wpAny_bind (wpAny_newObj_type ?_)
  have hSf : s₂.heap.objs.size ∉ fp := fun hm => Nat.lt_irrefl _ (hfp _ hm)
  refine wpAny_pure ⟨plainId_quiet F.plain_sum_loop _, codeAny_sum_loopS W val hval hfit s₂.heap.objs.size hSf n 0 _ s₂.toks 0 rfl (Nat.zero_le _)
    (W.frame 0 s₂ _ _ hst (by first | exact Nat.le_refl _ | exact Nat.le_succ _ | omega) fun b _ o e => Heap.get?_push_of_some _ e) (Heap.get?_push_size _ rfl) fun s' t' hm => ?_⟩
  exact hQ s' t' (hm.drop_new (by first | exact Nat.le_refl _ | exact Nat.le_succ _ | omega))
end
section
variable {w : World} {A : Around} {E : Value → Shared → Prop} {h : Heap} {g : Array GenState} {d : Drawn} {t : Nat} {os : OsState}
theorem args_lga (a b : Value) : argsOk "list.__getattribute__" ⟨[a, b], []⟩ := by unfold argsOk; kernel_rfl
theorem find_size {x dx : Addr} {its : Array Value} {Q : Builtin.ObjectAttr.Found → Shared → Prop} (X : (K w.params).In h) (r : Row h x dx its)
    (hq : ∀ tk0, Q (.value (.int 0 tk0)) ⟨h, g, d, t, os⟩) : wpAny (model rwp w) A (Builtin.ObjectAttr.find (.ref x) (.ref 101) (Str.ofString "_initial_size")) Q E ⟨h, g, d, t, os⟩ := by
  obtain ⟨⟨n, hx⟩, ⟨hh, tk, tk0, hdx⟩, ne⟩ := r
  have i4 : Looks (model rwp w) h (typeLookup (.ref 101) (Str.ofString "_initial_size")) none := Looks.of_peek X (by kernel_rfl)
  unfold Builtin.ObjectAttr.find
  refine wpAny_bind (i4 _ _ _ _ (fun _ _ e => e) (wpAny_bind ?_))
  show wpAny _ _ (pure none) _ _ _
  refine wpAny_pure (wpAny_bind ?_)
  show wpAny _ _ (pure none) _ _ _
  refine wpAny_pure ?_
  show wpAny _ _ (Builtin.ObjectAttr.ownThenClass _ _ _ _) _ _ _
  unfold Builtin.ObjectAttr.ownThenClass Builtin.ObjectAttr.inOwnDict Builtin.ObjectAttr.ownDict Builtin.ObjectAttr.inDict
  dsimp only
  repeat (first | lk | wp_step | dsimp only)
  refine wpAny_load (X 101 (o_101 w.params) rfl) ?_
  show wpAny _ _ (pure _) _ _ _
  repeat (first | lk | wp_step | dsimp only)
  exact hq _
theorem gga {x dx : Addr} {its : Array Value} {tk1 : Tok} {Q : Fin → Shared → Prop} (X : (K w.params).In h) (r : Row h x dx its)
    (hq : ∀ tk0, Q (.done (.ret (.int 0 tk0))) ⟨h, g, d, t, os⟩) : wpAny (model rwp w) A (Builtin.«object.__getattribute__» ⟨[.ref x, .str (Str.ofString "_initial_size") tk1], []⟩) Q E ⟨h, g, d, t, os⟩ := by
  have t1 : Looks (model rwp w) h (typeOf (.ref x)) (.ref 101) := by
    obtain ⟨⟨n, hx⟩, _, ne⟩ := r
    exact (Looks.ld hx).andThen .now
  unfold Builtin.«object.__getattribute__»
  refine wpAny_bind ?_
  show wpAny _ _ (pure _) _ _ _
  refine wpAny_pure ?_
  dsimp only
  refine wpAny_bind ?_
  show wpAny _ _ (pure _) _ _ _
  refine wpAny_pure ?_
  refine wpAny_bind (t1 _ _ _ _ (fun _ _ e => e) ?_)
  refine wpAny_bind (find_size X r fun tk0 => ?_)
  exact wpAny_pure (hq tk0)
theorem call_lga {x dx : Addr} {its : Array Value} {tk1 : Tok} {Q : Value → Shared → Prop} (X : (K w.params).In h) (r : Row h x dx its)
    (hq : ∀ tk0, Q (.int 0 tk0) ⟨h, g, d, t, os⟩) : wpAny (model rwp w) A (call (.builtin "list.__getattribute__") [.ref x, .str (Str.ofString "_initial_size") tk1]) Q E ⟨h, g, d, t, os⟩ := by
  have t1 : Looks (model rwp w) h (typeOf (.ref x)) (.ref 101) := by
    obtain ⟨⟨n, hx⟩, _, ne⟩ := r
    exact (Looks.ld hx).andThen .now
  have s1 : Looks (model rwp w) h (isSubtype (.ref 101) (.type "list")) true := Looks.of_peek X (by kernel_rfl)
  have sub : Looks (model rwp w) h (isInstance (.ref x) (.type "list")) true := t1.andThen s1
  refine wpAny_call ?_
  refine codeAny_call_builtin F.slot_list_getattribute.plain F.entry_list_ga ?_
  refine @check_slot (model rwp w) _ _ _ "list.__getattribute__" "list" "__getattribute__" (.ref x) [.str _ _] [] _ (by decide +kernel) (by decide +kernel) sub (F.args_list_getattribute_2 (.ref x) (.str _ _)) ?_
  exact gga X r fun tk0 => hq tk0
theorem attr_size {x dx : Addr} {its : Array Value} {Q : Value → Shared → Prop} (X : (K w.params).In h) (r : Row h x dx its)
    (hq : ∀ tk0, Q (.int 0 tk0) ⟨h, g, d, t + 1, os⟩) : wpAny (model rwp w) A (getAttr (.ref x) (Str.ofString "_initial_size") true) Q E ⟨h, g, d, t, os⟩ := by
  have t1 : Looks (model rwp w) h (typeOf (.ref x)) (.ref 101) := by
    obtain ⟨⟨n, hx⟩, _, ne⟩ := r
    exact (Looks.ld hx).andThen .now
  have i2 : Looks (model rwp w) h (typeLookup (.ref 101) "__getattribute__") (some (.builtin "list.__getattribute__")) := Looks.of_peek X (by kernel_rfl)
  have i3 : Looks (model rwp w) h (typeLookup (.ref 101) "__getattr__") none := Looks.of_peek X (by kernel_rfl)
  have s1 : Looks (model rwp w) h (isSubtype (.ref 101) (.type "list")) true := Looks.of_peek X (by kernel_rfl)
  have sub : Looks (model rwp w) h (isInstance (.ref x) (.type "list")) true := t1.andThen s1
  unfold getAttr getAttrBy
  refine wpAny_bind (wpAny_mkText (wpAny_holding (wpAny_bind (t1 _ _ _ _ (fun _ _ e => e) (wpAny_bind (i2 _ _ _ _ (fun _ _ e => e) ?_))))))
  dsimp only
  rw [if_neg (by decide)]
  unfold getAttrByItsOwn hookBefore callGetattribute boundAndCalled
  refine wpAny_bind (i3 _ _ _ _ (fun _ _ e => e) ?_)
  refine wpAny_bind (wpAny_attempt ?_)
  dsimp only
  refine wpAny_holding ?_
  rw [if_neg (by decide)]
  refine wpAny_bind (wpAny_of_eq (F.slot_list_getattribute.bind _) ?_)
  refine call_lga X r fun tk0 => ?_
  show wpAny _ _ (pure _) _ _ _
  exact wpAny_pure (hq _)
end
end Mine
end
section
open PySem PySem.W PyProof.Rows
set_option Elab.async false
set_option maxRecDepth 100000
set_option maxHeartbeats 400000
set_option linter.unusedVariables false
namespace Mine
/-- a call that may make its code's tables longer and leave generators behind -/
noncomputable def RetG (s : Shared) (Q : Value → Heap → Prop) : Result → Shared → Prop := fun r s' => ∃ v h' tk gs, r = .ok (.ret v) ∧ s' = { s with heap := h', toks := tk, gens := gs } ∧
  (∀ b o, b ≠ 63 → b ≠ 70 → s.heap.get? b = some o → h'.get? b = some o) ∧ Tab h' 67 63 ∧ Tab h' 74 70 ∧ (AllBare s.gens → AllBare gs) ∧ Q v h'
noncomputable def lens (ps : List Str) (j : Nat) : Int := preSum (fun i => ((ps.getD i (Str.ofString "")).length : Int)) j
theorem k_not63 (P : Params) (a : Addr) (o : Obj) (e : (K P).lookup a = some o) : a ≠ 63 := fun q => by
  subst q; rw [show (K P).lookup 63 = none from by rfl] at e; cases e
theorem k_not70 (P : Params) (a : Addr) (o : Obj) (e : (K P).lookup a = some o) : a ≠ 70 := fun q => by
  subst q; rw [show (K P).lookup 70 = none from by rfl] at e; cases e
theorem len_fit {t : Str} (h : t.length ≤ 10) : ¬ (t.length : Int) ≥ 2 ^ 63 := by omega
theorem Tab.at {h h' : Heap} {c P : Addr} (t : Tab h c P) (kc : ∀ o, h.get? c = some o → h'.get? c = some o) (kP : ∀ o, h.get? P = some o → h'.get? P = some o) : Tab h' c P := by
  obtain ⟨ps, ⟨o, vs, file, tf, flags, tg, inF, text, tt, op, a, r1, r2, r3, r4, r5, r6, b, r⟩, ⟨o', vs', a', r'⟩, b'⟩ := t
  exact ⟨ps, ⟨o, vs, file, tf, flags, tg, inF, text, tt, op, kc _ a, r1, r2, r3, r4, r5, r6, kP _ b, r⟩, ⟨o', vs', kc _ a', r'⟩, kP _ b'⟩
noncomputable def tabO (ps : Array Value) : Obj := { cls := .none, data := .fields ps }
theorem Tab.obj {h : Heap} {c P : Addr} (t : Tab h c P) : ∃ ps, TriplesOk ps.toList ∧ h.get? P = some (tabO ps) := by
  obtain ⟨ps, ⟨o, vs, file, tf, flags, tg, inF, text, tt, op, a, r1, r2, r3, r4, r5, r6, b, r7, r8, r9⟩, ⟨o', vs', a', r'⟩, b'⟩ := t
  exact ⟨ps, r8, b'⟩
theorem tab67 {P : Params} {h : Heap} {ps : Array Value} (X : (K P).In h) (ok : TriplesOk ps.toList) (e : h.get? 63 = some (tabO ps)) : Tab h 67 63 :=
  ⟨ps, ⟨_, _, _, _, _, _, _, _, _, _, X 67 (o_67 P) rfl, rfl, rfl, rfl, rfl, rfl, rfl, e, rfl, ok, by decide⟩, ⟨_, _, X 67 (o_67 P) rfl, rfl, rfl, rfl⟩, e⟩
theorem tab74 {P : Params} {h : Heap} {ps : Array Value} (X : (K P).In h) (ok : TriplesOk ps.toList) (e : h.get? 70 = some (tabO ps)) : Tab h 74 70 :=
  ⟨ps, ⟨_, _, _, _, _, _, _, _, _, _, X 74 (o_74 P) rfl, rfl, rfl, rfl, rfl, rfl, rfl, e, rfl, ok, by decide⟩, ⟨_, _, X 74 (o_74 P) rfl, rfl, rfl, rfl⟩, e⟩
theorem lens_fit {ps : List Str} (hn : ps.length ≤ 30) (hl : ∀ t ∈ ps, t.length ≤ 10) {j : Nat} (hj : j < ps.length) :
    InLong (((ps.getD j (Str.ofString "")).length : Int)) ∧ InLong (preSum (fun i => ((ps.getD i (Str.ofString "")).length : Int)) (j + 1)) := by
  have b1 : ∀ i, (ps.getD i (Str.ofString "")).length ≤ 10 := fun i => by
    rw [List.getD_eq_getElem?_getD]
    cases e : ps[i]? with
    | none => decide
    | some t => exact hl t (List.mem_of_getElem? e)
  have b2 : ∀ i, 0 ≤ preSum (fun i => ((ps.getD i (Str.ofString "")).length : Int)) i ∧ preSum (fun i => ((ps.getD i (Str.ofString "")).length : Int)) i ≤ 10 * i := fun i => by
    induction i with
    | zero => exact ⟨Int.le_refl _, Int.le_refl _⟩
    | succ i ih => have := b1 i; simp only [preSum]; omega
  have := b1 j
  have := b2 (j + 1)
  unfold InLong
  omega
theorem spec_len {w : World} {A : Around} {s : Shared} {p : Program} {loose : List Str} {mg mb : Str → Option Value} {x dx : Addr} {its : Array Value} {ps : List Str} (X : (K w.params).In s.heap) (T : TopRead p loose mg mb s.heap) (hroom : A.depth < 700) (hu : A.units < 50) (hh : A.handled = none)
    (r : Row s.heap x dx its) (pr : Parts s.heap its ps) (hn : ps.length ≤ 30) (hl : ∀ t ∈ ps, t.length ≤ 10) (t1 : Tab s.heap 67 63) (t2 : Tab s.heap 74 70)
    (hP : x ≠ 63 ∧ dx ≠ 63 ∧ ∀ (j : Nat) T, its[j]? = some (Value.ref T) → T ≠ 63) :
   codeAny (model rwp w) A (.call (.ref 68) ⟨[.ref x], []⟩) (RetG s fun v h' => ∃ t, v = .int (lens ps ps.length) t) s := by
  refine ks_codeAny_call_defAt (body := bodyIn 3 4) (binds := [(Str.ofString "self", .ref x)]) (room (Nat.lt_trans hroom (by decide))) (X 68 (o_68 w.params) rfl) rfl T.nolimit (codeRec_of X (K := K w.params) (by rfl)) rfl (BindsTo.of_eq (by rfl)) (by decide) (locs (by rfl)) (fun h₁ hns k₁ => ?_)
  have X₁ : (K w.params).In h₁ := fun a o e => k₁ _ _ (X a o e)
  have T₁ := T.keeps k₁
  show PySem.wpAt _ _ _ (execs (_ :: _) _) _ _ _
  refine ks_wpAt_execs_cons (ks_wpAt_Return_some (PySem.wpAt_of_wpAny (Call_ ?_)))
  refine nm_built (fun _ _ e => e) X₁ T₁ (by kernel_rfl) (by boot_by_name) (by decide) ?_
  refine callWith_builtin1 ?_ (by rfl) (by rfl)
  refine spliced_more ?_ (by rfl)
  refine gen_acc (c := 67) (P := 63) (F := fun i y => ∃ t, y = .int ((ps.getD i (Str.ofString "")).length : Int) t) (by exact hh) (by show A.depth + 1 < 1000; omega) X₁ T₁ (k_not63 _) rfl rfl rfl (t1.keeps k₁) (r.keeps k₁) (pr.keeps fun j T _ o e => k₁ _ _ e) hP (fun Q' q => nm_own hns (by rfl) q) (by rfl) (by decide) (by rfl) (by rfl) (by rfl) rfl rfl ?_ ?_
  · intro A' E' C code i s₂ m₂ ta tb hA hD hU hi hns₂ ha hb hk
    have X₂ : (K w.params).In s₂.heap := fun a o e => hk a o (k_not63 _ a o e) (X₁ a o e)
    have T₂ : TopRead p loose mg mb s₂.heap := topread_but (P := fun b => b = 63) T₁ hk (by decide) (by decide) (by decide)
    have hL : (ps.getD i (Str.ofString "")).length ≤ 10 := hl _ (by rw [List.getD_eq_getElem?_getD, List.getElem?_eq_getElem hi]; exact List.getElem_mem hi)
    refine wpAny_BinOp (Call_ ?_)
    refine nm_built (fun _ _ e => e) X₂ T₂ (by kernel_rfl) (by boot_by_name) (by decide) (callWith_builtin1 ?_ (by rfl) (by rfl))
    refine spliced_more (nm_own hns₂ ha (spliced_none ?_)) (by rfl)
    refine len_str (by decide) ?_
    refine Call_ (nm_built (fun _ _ e => e) X₂ T₂ (by kernel_rfl) (by boot_by_name) (by decide) (callWith_builtin1 ?_ (by rfl) (by rfl)))
    refine spliced_more (nm_own hns₂ hb (spliced_none ?_)) (by rfl)
    refine len_str (len_fit hL) ?_
    refine add_int ?_
    refine ⟨⟨_, by rw [show ((Str.ofString "").length : Int) = 0 from rfl, Int.zero_add]⟩, ?_⟩
    exact ⟨_, _, rfl, fun _ _ e => e⟩
  · intro a h' tk gs fp wr St hbare k' tab' hwr hfp haf hanew hgen W hT0 hst
    have X₃ : (K w.params).In h' := fun a o e => k' a o (k_not63 _ a o e) (X₁ a o e)
    have nL : s.heap.objs.size ≠ 63 := fun q => by
      obtain ⟨_, _, _, tt⟩ := t1
      exact absurd (Heap.lt_size tt) (by rw [q]; exact Nat.lt_irrefl _)
    have hns₃ : h'.Ns s.heap.objs.size _ := hns.at fun o e => k' _ o nL e
    have r₃ : Row h' x dx its := (r.keeps k₁).at (fun o e => k' _ o hP.1 e) fun o e => k' _ o hP.2.1 e
    refine spliced_more (Attribute_any_ (nm_own hns₃ (by rfl) ?_) (by with_unfolding_all rfl)) (by rfl)
    refine attr_size X₃ r₃ fun tk0 => spliced_none ?_
    refine sum_start ?_
    have st1 := W.frame 0 _ h' (tk + 1) hst (Nat.le_succ _) fun b _ o e => e
    have W1 := W.of_in1.of_in1.of_in1
    refine W1.self 0 _ _ _ st1 ?_
    have old : ∀ b o, h₁.get? b = some o → b ∉ wr := fun b o e hm => by
      have q : h₁.get? b = none := hwr b hm
      rw [q] at e; cases e
    refine ⟨a, fp, wr, _, ps.length, _, St, (fun i => ((ps.getD i (Str.ofString "")).length : Int)), rfl, W1, st1, hfp, fun i v hv => hv, fun j hj => ?_, fun s' t' hm => ?_⟩
    · exact lens_fit hn hl hj
    · obtain ⟨h₅, g₅, d₅, tk₅, os₅⟩ := s'
      have e2 : d₅ = s.drawn := hm.drawn
      have e3 : os₅ = s.os := hm.os
      subst e2 e3
      have keep : ∀ b o, b ≠ 63 → b ≠ 70 → s.heap.get? b = some o → h₅.get? b = some o := fun b o n1 n2 e => hm.heap b o (old b o (k₁ _ _ e)) (k' b o n1 (k₁ _ _ e))
      refine ⟨_, h₅, tk₅, g₅, rfl, rfl, keep, ?_, ?_, fun bb => (AllBare.push bb hbare).moved hm.gens, _, rfl⟩
      · refine tab'.at (fun o e => hm.heap _ o (old _ _ (X₁ 67 (o_67 w.params) rfl)) e) fun o e => ?_
        obtain ⟨q, _, e1⟩ := t1.obj
        exact hm.heap _ o (old _ _ (k₁ _ _ e1)) e
      · refine t2.at (fun o e => keep _ _ (by decide) (by decide) e) fun o e => ?_
        exact hm.heap _ o (old _ _ (k₁ _ _ e)) (k' _ o (by decide) (k₁ _ _ e))
end Mine
end
section
open PySem PySem.W PyProof.Rows
set_option Elab.async false
set_option maxRecDepth 100000
set_option maxHeartbeats 400000
set_option linter.unusedVariables false
namespace Mine
theorem glue2 (p : Str) : Txt.join (Str.ofString "") [Str.ofString "", p] = p := by
  show (⟨#[] ++ #[] ++ p.cps⟩ : Str) = p
  simp
theorem all_fit {ps : List Str} (hn : ps.length ≤ 30) (hl : ∀ t ∈ ps, t.length ≤ 10) : (ps.map (·.length)).sum ≤ 10 * ps.length := by
  clear hn
  induction ps with
  | nil => exact Nat.le_refl _
  | cons a l ih =>
    have := hl a List.mem_cons_self
    have := ih fun t ht => hl t (List.mem_cons_of_mem _ ht)
    simp only [List.map_cons, List.sum_cons, List.length_cons]
    omega
theorem items_str {ps : List Str} {l : List (Str × Tok)} (h : ItemsOf (fun i y => ∃ t, y = Value.str (ps.getD i (Str.ofString "")) t) (strValues l).toArray ps.length) : l.map (·.1) = ps := by
  obtain ⟨h1, h2⟩ := h
  have hlen : l.length = ps.length := by simpa [strValues] using h1
  refine List.ext_getElem (by simpa using hlen) fun i q1 q2 => ?_
  have q3 : i < l.length := by simpa using q1
  obtain ⟨t, e⟩ := h2 i (.str l[i].1 l[i].2) (by simp [strValues, q3])
  injection e with e1 _
  rw [List.getElem_map, e1, List.getD_eq_getElem?_getD, List.getElem?_eq_getElem q2]; rfl
theorem spec_str {w : World} {A : Around} {s : Shared} {p : Program} {loose : List Str} {mg mb : Str → Option Value} {x dx : Addr} {its : Array Value} {ps : List Str} (X : (K w.params).In s.heap) (T : TopRead p loose mg mb s.heap) (hroom : A.depth < 700) (hu : A.units < 50) (hh : A.handled = none)
    (r : Row s.heap x dx its) (pr : Parts s.heap its ps) (hn : ps.length ≤ 30) (hl : ∀ t ∈ ps, t.length ≤ 10) (t1 : Tab s.heap 67 63) (t2 : Tab s.heap 74 70)
    (hP : x ≠ 70 ∧ dx ≠ 70 ∧ ∀ (j : Nat) T, its[j]? = some (Value.ref T) → T ≠ 70) :
   codeAny (model rwp w) A (.call (.ref 75) ⟨[.ref x], []⟩) (RetG s fun v h' => ∃ t, v = .str (Txt.join (Str.ofString "") ps) t) s := by
  refine ks_codeAny_call_defAt (body := bodyIn 3 5) (binds := [(Str.ofString "self", .ref x)]) (room (Nat.lt_trans hroom (by decide))) (X 75 (o_75 w.params) rfl) rfl T.nolimit (codeRec_of X (K := K w.params) (by rfl)) rfl (BindsTo.of_eq (by rfl)) (by decide) (locs (by rfl)) (fun h₁ hns k₁ => ?_)
  have X₁ : (K w.params).In h₁ := fun a o e => k₁ _ _ (X a o e)
  have T₁ := T.keeps k₁
  show PySem.wpAt _ _ _ (execs (_ :: _) _) _ _ _
  refine ks_wpAt_execs_cons (ks_wpAt_Return_some (PySem.wpAt_of_wpAny (MethodCall_ (nm_global (v := .str (Str.ofString "") 196) (fun _ _ e => e) X₁ T₁ (by kernel_rfl) (GM.join ?_)))))
  refine callWith_method1 ?_ (by rfl) (by rfl)
  refine spliced_more ?_ (by rfl)
  refine gen_acc (c := 74) (P := 70) (F := fun i y => ∃ t, y = .str (ps.getD i (Str.ofString "")) t) (by exact hh) (by show A.depth + 1 < 1000; omega) X₁ T₁ (k_not70 _) rfl rfl rfl (t2.keeps k₁) (r.keeps k₁) (pr.keeps fun j T _ o e => k₁ _ _ e) hP (fun Q' q => nm_own hns (by rfl) q) (by rfl) (by decide) (by rfl) (by rfl) (by rfl) rfl rfl ?_ ?_
  · intro A' E' C code i s₂ m₂ ta tb hA hD hU hi hns₂ ha hb hk
    have X₂ : (K w.params).In s₂.heap := fun a o e => hk a o (k_not70 _ a o e) (X₁ a o e)
    have T₂ : TopRead p loose mg mb s₂.heap := topread_but (P := fun b => b = 70) T₁ hk (by decide) (by decide) (by decide)
    have hL : (ps.getD i (Str.ofString "")).length ≤ 10 := hl _ (by rw [List.getD_eq_getElem?_getD, List.getElem?_eq_getElem hi]; exact List.getElem_mem hi)
    refine MethodCall_ (nm_global (v := .str (Str.ofString "") 196) (fun _ _ e => e) X₂ T₂ (by kernel_rfl) (GM.join ?_))
    refine callWith_method1 ?_ (by rfl) (by rfl)
    refine spliced_more (Tuple_ (spliced_more (nm_own hns₂ ha (spliced_more (nm_own hns₂ hb (spliced_none ?_)) (by rfl))) (by rfl))) (by rfl)
    refine wpAny_newObj_type ?_
    refine spliced_none ?_
    refine join_tuple (ys := [Str.ofString "", ps.getD i (Str.ofString "")]) ⟨_, Heap.get?_push_size _ rfl, rfl, _, rfl⟩ (.cons _ _ (.cons _ _ .nil)) (by simp only [List.map_cons, List.map_nil, List.sum_cons, List.sum_nil, List.length_cons, List.length_nil]; rw [show (Str.ofString "").length = 0 from rfl]; omega) fun t' k => ?_
    rw [glue2]
    exact ⟨⟨_, rfl⟩, _, _, rfl, fun b o e => Heap.get?_push_of_some _ e⟩
  · intro a h' tk gs fp wr St hbare k' tab' hwr hfp haf hanew hgen W hT0 hst
    refine spliced_none ?_
    have old : ∀ b o, h₁.get? b = some o → b ∉ wr := fun b o e hm => by
      have q : h₁.get? b = none := hwr b hm
      rw [q] at e; cases e
    refine SC.joinGen W.of_in1.of_in1 hT0 hst hfp haf (fun i v hv => ⟨_, hv.choose, hv.choose_spec⟩) (fun s' l hm hi => ?_) (Nat.le_trans hn (by decide))
    rw [items_str hi]
    refine ⟨joinOk_of ?_, fun t' k => ?_⟩
    · have := all_fit hn hl
      rw [show (Str.ofString "").length = 0 from rfl]
      omega
    · obtain ⟨h₅, g₅, d₅, tk₅, os₅⟩ := s'
      have e2 : d₅ = s.drawn := hm.drawn
      have e3 : os₅ = s.os := hm.os
      subst e2 e3
      have keep : ∀ b o, b ≠ 63 → b ≠ 70 → s.heap.get? b = some o → h₅.get? b = some o := fun b o n1 n2 e => hm.heap b o (old b o (k₁ _ _ e)) (k' b o n2 (k₁ _ _ e))
      refine ⟨_, h₅, k, g₅, rfl, rfl, keep, ?_, ?_, fun bb => (AllBare.push bb hbare).moved hm.gens, _, rfl⟩
      · refine t1.at (fun o e => keep _ _ (by decide) (by decide) e) fun o e => ?_
        exact hm.heap _ o (old _ _ (k₁ _ _ e)) (k' _ o (by decide) (k₁ _ _ e))
      · refine tab'.at (fun o e => hm.heap _ o (old _ _ (X₁ 74 (o_74 w.params) rfl)) e) fun o e => ?_
        obtain ⟨q, _, e1⟩ := t2.obj
        exact hm.heap _ o (old _ _ (k₁ _ _ e1)) e
end Mine
end
section
open PySem PySem.W PyProof.Rows
set_option Elab.async false
set_option maxRecDepth 100000
set_option maxHeartbeats 400000
set_option linter.unusedVariables false
namespace Mine
section
variable {w : World} {A : Around} {E : Value → Shared → Prop} {s : Shared} {x dx : Addr} {its : Array Value}
theorem Row.inst {h : Heap} (r : Row h x dx its) : ∃ ox od, PySem.W.InstAt h x ox 101 od := by
  obtain ⟨⟨n, e⟩, ⟨hh, tk, tk0, e'⟩, ne⟩ := r
  exact ⟨_, some _, e, rfl, rfl, e'⟩
theorem len_acc {Q : Value → Shared → Prop} (X : (K w.params).In s.heap) (r : Row s.heap x dx its)
    (h : wpAny (model rwp w) A (call (.ref 68) [.ref x]) (PySem.W.LenBack Q) E s) : wpAny (model rwp w) A (Builtin.«len» ⟨[.ref x], []⟩) (fun f s' => ∃ v, f = .done (.ret v) ∧ Q v s') E s := by
  obtain ⟨ox, od, I⟩ := r.inst
  unfold Builtin.«len»
  refine wpAny_bind (m := oneArg "len" _) (wpAny_pure ?_)
  refine wpAny_bind (m := callSpecial? (.ref x) (Str.ofString "__len__")) (special_fn X I (by kernel_rfl : findIn (K w.params) (.ref 101) "__len__" = some (some (.ref 68))) (by kernel_rfl) (wpAny_mono h (fun r s' hr => ?_) fun _ _ y => y))
  cases r <;> first | exact hr.elim | skip
  rename_i n u
  obtain ⟨⟨h0, h1⟩, hq⟩ := hr
  refine wpAny_bind (wpAny_holding (wpAny_pure ?_))
  refine wpAny_bind (wpAny_letGo ?_)
  show wpAny _ _ (if n < 0 then _ else _) _ _ _
  rw [if_neg (by omega)]
  show wpAny _ _ (if n ≥ 2 ^ 63 then _ else _) _ _ _
  rw [if_neg (by omega)]
  exact wpAny_bind (wpAny_mkInt (wpAny_pure ⟨_, rfl, hq⟩))
theorem truthy_acc {Q : Bool → Shared → Prop} (X : (K w.params).In s.heap) (r : Row s.heap x dx its)
    (h : wpAny (model rwp w) A.in1 (call (.ref 68) [.ref x]) (PySem.W.LenBack fun v s' => ∃ n t, v = .int n t ∧ Q (n != 0) s') E s) : wpAny (model rwp w) A (truthy (.ref x)) Q E s := by
  obtain ⟨ox, od, I⟩ := r.inst
  unfold truthy
  refine wpAny_bind (m := callSpecial? (.ref x) (Str.ofString "__bool__")) (wpAny_bind (wpAny_bind (I.type.here ((looks_findIn X (by kernel_rfl : findIn (K w.params) (.ref 101) "__bool__" = some none)).here (wpAny_pure ?_)))))
  refine wpAny_bind (wpAny_bind (I.type.here ((looks_findIn X (by kernel_rfl : findIn (K w.params) (.ref 101) "__len__" = some (some (.ref 68)))).here ?_)))
  have key : wpAny (model rwp w) A (runValue (.builtin "len" ⟨[.ref x], []⟩)) (fun v s' => ∃ n t, v = .int n t ∧ Q (n != 0) s') E s := by
    refine wpAny_runValue (codeAny_builtin entry_len ?_)
    rw [Around.under_plainId plain_len _]
    refine wpAny_mono (len_acc X r h) (fun f s' hf => ?_) fun _ _ e => e
    obtain ⟨v, rfl, hq⟩ := hf
    exact hq
  exact wpAny_bind (wpAny_mono key (fun r s' h' => by obtain ⟨n, t, rfl, hq⟩ := h'; exact wpAny_pure hq) fun _ _ e => e)
end
/-- everything about an accumulator -/
structure Acc (h : Heap) (x dx : Addr) (its : Array Value) (ps : List Str) : Prop where
  row : Row h x dx its
  parts : Parts h its ps
  t1 : Tab h 67 63
  t2 : Tab h 74 70
noncomputable def Kp (h h' : Heap) : Prop := ∀ b o, b ≠ 63 → b ≠ 70 → h.get? b = some o → h'.get? b = some o
theorem Kp.inK {P : Params} {h h' : Heap} (k : Kp h h') (X : (K P).In h) : (K P).In h' := fun a o e => k a o (k_not63 _ a o e) (k_not70 _ a o e) (X a o e)
theorem Kp.top {p : Program} {loose : List Str} {mg mb : Str → Option Value} {h h' : Heap} (k : Kp h h') (T : TopRead p loose mg mb h) : TopRead p loose mg mb h' :=
  topread_but (P := fun b => b = 63 ∨ b = 70) T (fun b o hb e => k b o (fun q => hb (.inl q)) (fun q => hb (.inr q)) e) (by decide) (by decide) (by decide)
theorem Kp.of {h h' : Heap} (u : Up h h') : Kp h h' := fun b o _ _ e => u b o e
theorem Kp.trans {h h' h'' : Heap} (k : Kp h h') (k' : Kp h' h'') : Kp h h'' := fun b o n1 n2 e => k' b o n1 n2 (k b o n1 n2 e)
theorem Parts.at_some {h : Heap} {its : Array Value} {ps : List Str} (r : Parts h its ps) {j : Nat} {T : Addr} (e : its[j]? = some (.ref T)) : ∃ o, h.get? T = some o ∧ o.cls = .type "tuple" := by
  have hj : j < ps.length := by
    rw [← r.len]
    rcases Nat.lt_or_ge j its.size with q | q
    · exact q
    · rw [Array.getElem?_eq_none q] at e; cases e
  obtain ⟨T', ta, tb, e', o, ho, hc, _⟩ := r.tup j hj
  rw [e] at e'; cases e'; exact ⟨o, ho, hc⟩
theorem not_tab {h : Heap} {c P x : Addr} {o : Obj} (t : Tab h c P) (e : h.get? x = some o) (hc : o.cls ≠ .none) : x ≠ P := fun q => by
  obtain ⟨ps, _, e'⟩ := t.obj
  rw [q, e'] at e; cases e; exact hc rfl
theorem acc_nP {h : Heap} {x dx : Addr} {its : Array Value} {ps : List Str} {c P : Addr} (r : Row h x dx its) (pr : Parts h its ps) (t : Tab h c P) : x ≠ P ∧ dx ≠ P ∧ ∀ (j : Nat) T, its[j]? = some (Value.ref T) → T ≠ P := by
  obtain ⟨⟨n, e⟩, ⟨hh, tk, tk0, e'⟩, ne⟩ := r
  refine ⟨not_tab t e (by simp), not_tab t e' (by simp), fun j T q => ?_⟩
  obtain ⟨o, ho, hc⟩ := pr.at_some q
  exact not_tab t ho (by rw [hc]; simp)
theorem Acc.move {h h' : Heap} {x dx : Addr} {its : Array Value} {ps : List Str} (a : Acc h x dx its ps) (k : Kp h h') (t1 : Tab h' 67 63) (t2 : Tab h' 74 70) : Acc h' x dx its ps := by
  obtain ⟨n1, n2, n3⟩ := acc_nP a.row a.parts a.t1
  obtain ⟨m1, m2, m3⟩ := acc_nP a.row a.parts a.t2
  exact ⟨a.row.at (fun o e => k _ o n1 m1 e) (fun o e => k _ o n2 m2 e), a.parts.keeps fun j T e o ho => k _ o (n3 j T e) (m3 j T e) ho, t1, t2⟩
theorem Acc.keeps {h h' : Heap} {x dx : Addr} {its : Array Value} {ps : List Str} (a : Acc h x dx its ps) (u : Up h h') : Acc h' x dx its ps :=
  a.move (.of u) (a.t1.keeps u) (a.t2.keeps u)
theorem call_retG {M : Model} {A : Around} {f : Value} {args : List Value} {s : Shared} {Q : Value → Shared → Prop} {E : Value → Shared → Prop} {P : Value → Heap → Prop}
    (h : codeAny M A (.call f ⟨args, []⟩) (RetG s P) s)
    (k : ∀ v h' tk gs, Kp s.heap h' → Tab h' 67 63 → Tab h' 74 70 → (AllBare s.gens → AllBare gs) → P v h' → Q v { s with heap := h', toks := tk, gens := gs }) : wpAny M A (call f args) Q E s := by
  refine wpAny_call (codeAny_mono h fun r s' hr => ?_)
  obtain ⟨v, h', tk, gs, rfl, rfl, c, t1, t2, bb, d⟩ := hr
  exact k v h' tk gs c t1 t2 bb d
noncomputable def onlyws (ps : List Str) : Bool := !(lens ps ps.length != 0) || Txt.isspace (Txt.join (Str.ofString "") ps)
theorem lens_in {ps : List Str} (hn : ps.length ≤ 30) (hl : ∀ t ∈ ps, t.length ≤ 10) : 0 ≤ lens ps ps.length ∧ lens ps ps.length < 2 ^ 63 := by
  have b1 : ∀ i, (ps.getD i (Str.ofString "")).length ≤ 10 := fun i => by
    rw [List.getD_eq_getElem?_getD]
    cases e : ps[i]? with
    | none => decide
    | some t => exact hl t (List.mem_of_getElem? e)
  have b2 : ∀ i, 0 ≤ lens ps i ∧ lens ps i ≤ 10 * i := fun i => by
    unfold lens
    induction i with
    | zero => exact ⟨Int.le_refl _, Int.le_refl _⟩
    | succ i ih => have := b1 i; simp only [preSum]; omega
  have := b2 ps.length
  omega
theorem spec_onlyws {w : World} {A : Around} {s : Shared} {p : Program} {loose : List Str} {mg mb : Str → Option Value} {x dx : Addr} {its : Array Value} {ps : List Str} (X : (K w.params).In s.heap) (T : TopRead p loose mg mb s.heap) (hroom : A.depth < 600) (hu : A.units < 40) (hh : A.handled = none)
    (r : Acc s.heap x dx its ps) (hn : ps.length ≤ 30) (hl : ∀ t ∈ ps, t.length ≤ 10) :
   codeAny (model rwp w) A (.call (.ref 90) ⟨[.ref x], []⟩) (RetG s fun v h' => v = .bool (onlyws ps)) s := by
  refine ks_codeAny_call_defAt (body := bodyIn 3 7) (binds := [(Str.ofString "self", .ref x)]) (room (Nat.lt_trans hroom (by decide))) (X 90 (o_90 w.params) rfl) rfl T.nolimit (codeRec_of X (K := K w.params) (by rfl)) rfl (BindsTo.of_eq (by rfl)) (by decide) (locs (by rfl)) (fun h₁ hns k₁ => ?_)
  have X₁ : (K w.params).In h₁ := fun a o e => k₁ _ _ (X a o e)
  have T₁ := T.keeps k₁
  have r₁ := r.keeps k₁
  show PySem.wpAt _ _ _ (execs (_ :: _) _) _ _ _
  refine ks_wpAt_execs_cons (ks_wpAt_Return_some (PySem.wpAt_of_wpAny (BoolOp_and ?_)))
  refine wpAny_Compare1 (Attribute_any_ (nm_own hns (by rfl) (attr_size X₁ r₁.row fun tk0 => ?_)) (by with_unfolding_all rfl)) (by with_unfolding_all rfl)
  refine wpAny_Constant_int ?_
  refine eq_int (wpAny_truthy_bool ?_)
  rw [if_pos (by decide)]
  refine BoolOp_one (BoolOp_or (UnaryOp_ ?_))
  refine nm_own hns (by rfl) (not_of (truthy_acc X₁ r₁.row ?_))
  obtain ⟨n1, n2, n3⟩ := acc_nP r₁.row r₁.parts r₁.t1
  refine call_retG (spec_len X₁ T₁ (by show A.depth + 1 < 700; omega) (by show A.units + 3 + 1 < 50; omega) (by exact hh) r₁.row r₁.parts hn hl r₁.t1 r₁.t2 ⟨n1, n2, n3⟩) fun v h₂ tk₂ gs₂ k₂ t1 t2 bb₂ hv => ?_
  obtain ⟨tv, rfl⟩ := hv
  refine ⟨lens_in hn hl, _, _, rfl, wpAny_truthy_bool ?_⟩
  have K₂ : Kp s.heap h₂ := (Kp.of k₁).trans k₂
  cases hz : (!(lens ps ps.length != 0)) with
  | true =>
    rw [if_pos rfl]
    exact ⟨_, h₂, _, gs₂, rfl, rfl, K₂, t1, t2, bb₂, by unfold onlyws; rw [hz]; rfl⟩
  | false =>
    rw [if_neg (by decide)]
    have X₂ := k₂.inK X₁
    have T₂ := k₂.top T₁
    have r₂ := r₁.move k₂ t1 t2
    obtain ⟨m1, m2, m3⟩ := acc_nP r₂.row r₂.parts r₂.t2
    have nL : s.heap.objs.size ≠ 63 ∧ s.heap.objs.size ≠ 70 := by
      obtain ⟨_, _, q1⟩ := r.t1.obj
      obtain ⟨_, _, q2⟩ := r.t2.obj
      exact ⟨fun q => absurd (Heap.lt_size q1) (by rw [q]; exact Nat.lt_irrefl _), fun q => absurd (Heap.lt_size q2) (by rw [q]; exact Nat.lt_irrefl _)⟩
    have hns₂ : h₂.Ns s.heap.objs.size _ := hns.at fun o e => k₂ _ o nL.1 nL.2 e
    obtain ⟨ox, od, I⟩ := r₂.row.inst
    refine BoolOp_one (MethodCall_ (Call_ (nm_built (fun _ _ e => e) X₂ T₂ (by kernel_rfl) (by boot_by_name) (by decide) ?_)))
    refine callWith_type1 (spliced_more (nm_own hns₂ (by rfl) (spliced_none ?_)) (by rfl)) (by rfl) (by rfl)
    refine kso_call (by show A.units + 3 + 1 + 1 < cLine; have : (100 : Nat) ≤ cLine := by decide
                        omega) X₂ I (by kernel_rfl : findIn (K w.params) (.ref 101) "__str__" = some (some (.ref 75))) (by kernel_rfl) ?_
    refine call_retG (spec_str X₂ T₂ (by show A.depth + 1 < 700; omega) (by show A.units + 3 + 1 + 1 < 50; omega) (by exact hh) r₂.row r₂.parts hn hl r₂.t1 r₂.t2 ⟨m1, m2, m3⟩) fun v h₃ tk₃ gs₃ k₃ u1 u2 bb₃ hv => ?_
    obtain ⟨tv, rfl⟩ := hv
    show wpAny _ _ (getMethod _ _ _) _ _ _
    refine GM.isspace ?_
    refine callWith_method0 (SC.isspace ?_)
    exact ⟨_, h₃, _, gs₃, rfl, rfl, K₂.trans k₃, u1, u2, fun bb => bb₃ (bb₂ bb), by unfold onlyws; rw [hz]; rfl⟩
end Mine
end
section
open PySem PySem.W PyProof.Rows
set_option Elab.async false
set_option compiler.extract_closed false
set_option maxRecDepth 100000
set_option maxHeartbeats 4000000
namespace Mine
theorem warm (P : Params) : PySem.Challenge.rw_tr0061_01 = PySem.Challenge.rw_tr0061_01 ∧ K P = K P := by k_fill; exact ⟨rfl, rfl⟩
theorem setOf_keep {prog : Program} {w : World} {knd : KeyKind prog w Int} {h h' : Heap} {a : Addr} {S : Int → Bool} {n : Nat} (hS : h.SetOf knd a S n) (hk : ∀ b o, h.get? b = some o → h'.get? b = some o) : h'.SetOf knd a S n := by
  obtain ⟨o, es, ep, t, ho, r⟩ := hS
  exact ⟨o, es, ep, t, hk _ _ ho, r⟩
noncomputable def b1codes : List Int := [173, 847, 6150, 6155, 6156, 6157, 8203, 8204, 8205, 8288, 65279, 65024, 65025, 65026, 65027, 65028, 65029, 65030, 65031, 65032, 65033, 65034, 65035, 65036, 65037, 65038, 65039]
noncomputable def b1S (c : Int) : Bool := b1codes.contains c
local macro_rules | `(tactic| walk_at "compareOp In int ref") => `(tactic| (k_here; (with_reducible rename Heap.SetOf _ _ _ _ _ => hS); (with_reducible rename Fr _ _ _ _ => hF); refine wpAny_inSet_of (intKind_is _ _ _ _) rfl (setOf_keep hS hF.keep) ?_))
theorem spec_b1 {w : World} {A : Around} {s : Shared} {p : Program} {loose : List Str} {mg mb : Str → Option Value} {t0 : Tok} {c : Nat} (X : (K w.params).In s.heap) (T : TopRead p loose mg mb s.heap) (hroom : A.depth < 800) (hu : A.units < 100) (hh : A.handled = none)
   (hS : s.heap.SetOf (PySem.intKind rwp w) 127 b1S 27) (hc : c < 1114112) :
   codeAny (model rwp w) A (.call (.ref 137) ⟨[.str ⟨#[c]⟩ t0], []⟩) (Ret s fun v _ => v = .bool (b1S c)) s := by
  have ho := X 137 (o_137 w.params) rfl
  refine call_plain_ret (name := Str.ofString "in_table_b1") (room hroom) ho rfl T.nolimit (codeRec_of X (K := K w.params) (by rfl)) (binds := [(Str.ofString "code", .str ⟨#[c]⟩ t0)]) (by rfl) (locs (by rfl)) ?_
  intro h₁ F
  have N : News s.heap s.heap.objs.size h₁ [] := News.nil
  show wpAny _ _ (execs (_ :: _) _) _ _ _
  k_steps
  exact Ret.of (by assumption) rfl
end Mine
end
section
open PySem PySem.W PyProof.Rows
set_option Elab.async false
set_option compiler.extract_closed false
set_option maxRecDepth 100000
set_option maxHeartbeats 4000000
namespace Mine
theorem warm2 (P : Params) : PySem.Challenge.rw_tr0061_01 = PySem.Challenge.rw_tr0061_01 ∧ K P = K P := by k_fill; exact ⟨rfl, rfl⟩
theorem get_hit {prog : Program} {w : World} {A : Around} {E : Value → Shared → Prop} {s : Shared} {d : Addr} {D : List (PyData × PyData)} {i : Int} {t : Tok} {x : Str} {Q : Value → Shared → Prop}
    (T : IntTab prog w s.heap d D) (hl : PySem.Spec.lookup (.int i) D = some (.str x)) (h : ∀ t', Q (.str x t') { s with toks := s.toks + 1 }) : wpAny (model prog w) A (call (.builtin "dict.get") [.ref d, .int i t]) Q E s :=
  call_get1_intTab T fun v hv => by
    rw [hl] at hv
    obtain ⟨t', rfl, -⟩ := reads_str_inv (hv s.heap)
    exact h _
theorem get_miss {prog : Program} {w : World} {A : Around} {E : Value → Shared → Prop} {s : Shared} {d : Addr} {D : List (PyData × PyData)} {i : Int} {t : Tok} {Q : Value → Shared → Prop}
    (T : IntTab prog w s.heap d D) (hl : PySem.Spec.lookup (.int i) D = none) (h : Q .none { s with toks := s.toks + 1 }) : wpAny (model prog w) A (call (.builtin "dict.get") [.ref d, .int i t]) Q E s :=
  call_get1_intTab T fun v hv => by
    rw [hl] at hv
    have := hv s.heap
    cases this
    exact h
local macro_rules | `(tactic| walk_at "call builtin:dict.get") => `(tactic| (k_here; refine get_hit (TabAt.ofFr (by assumption) (by assumption)) (by assumption) ?_; intro _))
local macro_rules | `(tactic| walk_at "call builtin:dict.get") => `(tactic| (k_here; refine get_miss (TabAt.ofFr (by assumption) (by assumption)) (by assumption) ?_))
theorem isNot_nn {M : Model} {A : Around} {E : Value → Shared → Prop} {s : Shared} {Q : Value → Shared → Prop} (h : Q (.bool false) s) : wpAny M A (compareOp .IsNot .none .none) Q E s := PySem.isNot_none h
theorem isNot_sn {M : Model} {A : Around} {E : Value → Shared → Prop} {s : Shared} {Q : Value → Shared → Prop} {x : Str} {t : Tok} (h : Q (.bool true) s) : wpAny M A (compareOp .IsNot (.str x t) .none) Q E s := PySem.isNot_none h
local macro_rules | `(tactic| walk_at "compareOp IsNot none none") => `(tactic| (k_here; refine isNot_nn ?_))
local macro_rules | `(tactic| walk_at "compareOp IsNot str none") => `(tactic| (k_here; refine isNot_sn ?_))
local macro_rules | `(tactic| walk_at "call builtin:str.lower") => `(tactic| (k_here; (with_reducible show wpAny _ _ (call (Value.builtin "str.lower") [Value.str _ _]) _ _ _); refine SCL.lower (by show (1 : Nat) ≤ 5592405; decide) ?_; intro _))
theorem spec_b3a {w : World} {A : Around} {s : Shared} {p : Program} {loose : List Str} {mg mb : Str → Option Value} {t0 : Tok} {c : Nat} {x : Str} (X : (K w.params).In s.heap) (T : TopRead p loose mg mb s.heap) (hroom : A.depth < 800) (hu : A.units < 100) (hh : A.handled = none)
   (D : List (PyData × PyData)) (hT : IntTab rwp w s.heap 138 D) (hl : PySem.Spec.lookup (.int c) D = some (.str x)) :
   codeAny (model rwp w) A (.call (.ref 183) ⟨[.str ⟨#[c]⟩ t0], []⟩) (Ret s fun v _ => ∃ t, v = .str x t) s := by
  have ho := X 183 (o_183 w.params) rfl
  refine call_plain_ret (name := Str.ofString "map_table_b3") (room hroom) ho rfl T.nolimit (codeRec_of X (K := K w.params) (by rfl)) (binds := [(Str.ofString "code", .str ⟨#[c]⟩ t0)]) (by rfl) (locs (by rfl)) ?_
  intro h₁ F
  have N : News s.heap s.heap.objs.size h₁ [] := News.nil
  show wpAny _ _ (execs (_ :: _) _) _ _ _
  k_steps
  exact Ret.of (by assumption) ⟨_, rfl⟩
theorem spec_b3b {w : World} {A : Around} {s : Shared} {p : Program} {loose : List Str} {mg mb : Str → Option Value} {t0 : Tok} {c : Nat} (X : (K w.params).In s.heap) (T : TopRead p loose mg mb s.heap) (hroom : A.depth < 800) (hu : A.units < 100) (hh : A.handled = none)
   (D : List (PyData × PyData)) (hT : IntTab rwp w s.heap 138 D) (hl : PySem.Spec.lookup (.int c) D = none) :
   codeAny (model rwp w) A (.call (.ref 183) ⟨[.str ⟨#[c]⟩ t0], []⟩) (Ret s fun v _ => ∃ t, v = .str (Txt.lower ⟨#[c]⟩) t) s := by
  have ho := X 183 (o_183 w.params) rfl
  refine call_plain_ret (name := Str.ofString "map_table_b3") (room hroom) ho rfl T.nolimit (codeRec_of X (K := K w.params) (by rfl)) (binds := [(Str.ofString "code", .str ⟨#[c]⟩ t0)]) (by rfl) (locs (by rfl)) ?_
  intro h₁ F
  have N : News s.heap s.heap.objs.size h₁ [] := News.nil
  show wpAny _ _ (execs (_ :: _) _) _ _ _
  k_steps
  exact Ret.of (by assumption) ⟨_, rfl⟩
end Mine
end
section
open PySem PySem.W PyProof.Rows
set_option Elab.async false
set_option maxRecDepth 100000
set_option maxHeartbeats 4000000
namespace Mine
theorem warm3 (P : Params) : PySem.Challenge.rw_tr0061_01 = PySem.Challenge.rw_tr0061_01 ∧ K P = K P := by k_fill; exact ⟨rfl, rfl⟩
theorem spec_low {w : World} {A : Around} {s : Shared} {p : Program} {loose : List Str} {mg mb : Str → Option Value} {t0 : Tok} {n : Int} (X : (K w.params).In s.heap) (T : TopRead p loose mg mb s.heap) (hroom : A.depth < 800) (hu : A.units < 100) (hh : A.handled = none)
   (h0 : 0 ≤ n) :
   codeAny (model rwp w) A (.call (.ref 202) ⟨[.int n t0], []⟩) (Ret s fun v _ => ∃ t, v = .int (if 0 < n then n - Builtin.bitAnd n (n - 1) else 16777216) t) s := by
  have ho := X 202 (o_202 w.params) rfl
  refine call_plain_ret (name := Str.ofString "_law_low") (room hroom) ho rfl T.nolimit (codeRec_of X (K := K w.params) (by rfl)) (binds := [(Str.ofString "n", .int n t0)]) (by rfl) (locs (by rfl)) ?_
  intro h₁ F
  have N : News s.heap s.heap.objs.size h₁ [] := News.nil
  show wpAny _ _ (execs (_ :: _) _) _ _ _
  k_steps
  · exact Ret.of (by assumption) ⟨_, congrArg (fun z => Value.int z _) (if_pos (by assumption)).symm⟩
  · exact Ret.of (by assumption) ⟨_, congrArg (fun z => Value.int z _) (if_neg (by assumption)).symm⟩
end Mine
end
section
open PySem PySem.W PyProof.Rows
set_option Elab.async false
set_option maxRecDepth 100000
set_option maxHeartbeats 4000000
set_option linter.unusedVariables false
namespace Mine
theorem warm4 (P : Params) : PySem.Challenge.rw_tr0061_01 = PySem.Challenge.rw_tr0061_01 ∧ K P = K P := by k_fill; exact ⟨rfl, rfl⟩
theorem spec_det {w : World} {A : Around} {s : Shared} {p : Program} {loose : List Str} {mg mb : Str → Option Value} {a b c : Addr} {a0 a1 a2 b0 b1 b2 c0 c1 c2 : Int} {t0 t1 t2 t3 t4 t5 t6 t7 t8 : Tok} (X : (K w.params).In s.heap) (T : TopRead p loose mg mb s.heap) (hroom : A.depth < 800) (hu : A.units < 100) (hh : A.handled = none)
   (ha : s.heap.IsTuple a #[.int a0 t0, .int a1 t1, .int a2 t2]) (hb : s.heap.IsTuple b #[.int b0 t3, .int b1 t4, .int b2 t5]) (hc : s.heap.IsTuple c #[.int c0 t6, .int c1 t7, .int c2 t8])
   (l1 : 0 ≤ a0 ∧ a0 < 2 ^ 20) (l2 : 0 ≤ a1 ∧ a1 < 2 ^ 20) (l3 : 0 ≤ a2 ∧ a2 < 2 ^ 20)
   (l4 : 0 ≤ b0 ∧ b0 < 2 ^ 20) (l5 : 0 ≤ b1 ∧ b1 < 2 ^ 20) (l6 : 0 ≤ b2 ∧ b2 < 2 ^ 20)
   (l7 : 0 ≤ c0 ∧ c0 < 2 ^ 20) (l8 : 0 ≤ c1 ∧ c1 < 2 ^ 20) (l9 : 0 ≤ c2 ∧ c2 < 2 ^ 20) :
   codeAny (model rwp w) A (.call (.ref 214) ⟨[.ref a, .ref b, .ref c], []⟩) (Ret s fun v _ => ∃ t, v = .int (a0 * (b1 * c2 - b2 * c1) - a1 * (b0 * c2 - b2 * c0) + a2 * (b0 * c1 - b1 * c0)) t) s := by
  have ho := X 214 (o_214 w.params) rfl
  refine call_plain_ret (name := Str.ofString "_law_determinant") (room hroom) ho rfl T.nolimit (codeRec_of X (K := K w.params) (by rfl)) (binds := [(Str.ofString "a", .ref a), (Str.ofString "b", .ref b), (Str.ofString "c", .ref c)]) (by rfl) (locs (by rfl)) ?_
  intro h₁ F
  have N : News s.heap s.heap.objs.size h₁ [] := News.nil
  show wpAny _ _ (execs (_ :: _) _) _ _ _
  k_steps
  exact Ret.of (by assumption) ⟨_, rfl⟩
end Mine
end
section
open PySem PySem.W PyProof.Rows
set_option Elab.async false
set_option compiler.extract_closed false
set_option maxRecDepth 100000
set_option maxHeartbeats 4000000
set_option linter.unusedVariables false
namespace Mine
noncomputable def truncF (x : UInt64) : Option Int := match Float64.decode x with
  | .fin sg m e => some (Float64.truncOf sg m e)
  | _ => none
section
variable {prog : Program} {w : World} {A : Around} {E : Value → Shared → Prop} {s : Shared} {x a b : UInt64} {t u : Tok} {Q : Value → Shared → Prop}
theorem f_int {i : Int} (h : truncF x = some i) (hq : Q (.int i s.toks) { s with toks := s.toks + 1 }) : wpAny (model prog w) A (call (.type "int") [.float x t]) Q E s := by
  unfold truncF at h
  split at h
  · rename_i sg m e hd
    cases h
    exact call_int_float hd hq
  · cases h
theorem f_eq {r : Bool} (h : (Float64.cmp a b == some Ordering.eq) = r) (hq : Q (.bool r) s) : wpAny (model prog w) A (compareOp .Eq (.float a t) (.float b u)) Q E s := AutoFloatOps.eq_0 (by rw [h]; exact hq)
end
theorem warm5 (P : Params) : PySem.Challenge.rw_tr0061_01 = PySem.Challenge.rw_tr0061_01 ∧ K P = K P := by k_fill; exact ⟨rfl, rfl⟩
local macro_rules | `(tactic| walk_at "compareOp Eq float float") => `(tactic| first | with_reducible refine f_eq (r := true) (by decide +kernel) ?_ | with_reducible refine f_eq (r := false) (by decide +kernel) ?_)
local macro_rules | `(tactic| walk_at "call type:int") => `(tactic| first | with_reducible refine f_int (i := 0) (by decide +kernel) ?_ | with_reducible refine f_int (i := 2) (by decide +kernel) ?_ | with_reducible refine f_int (i := 4) (by decide +kernel) ?_)
noncomputable def Paint (h : Heap) (v : Value) (a b c : UInt64) : Prop := ∃ d t0 t1 t2, v = .ref d ∧ h.IsTuple d #[.float a t0, .float b t1, .float c t2]
theorem Paint.of {h : Heap} {d : Addr} {x y z a b c : UInt64} {t0 t1 t2 : Tok} (ho : h.get? d = some { cls := .type "tuple", data := .seq #[.float x t0, .float y t1, .float z t2] }) (hx : x = a) (hy : y = b) (hz : z = c) : Paint h (.ref d) a b c := by
  subst hx hy hz
  exact ⟨d, t0, t1, t2, rfl, _, ho, rfl, _, rfl⟩
theorem Paint.keeps {h h' : Heap} {v : Value} {a b c : UInt64} (p : Paint h v a b c) (k : ∀ b o, h.get? b = some o → h'.get? b = some o) : Paint h' v a b c := by
  obtain ⟨d, t0, t1, t2, e, o, ho, r⟩ := p
  exact ⟨d, t0, t1, t2, e, o, k _ _ ho, r⟩
theorem spec_hsv0 {w : World} {A : Around} {s : Shared} {p : Program} {loose : List Str} {mg mb : Str → Option Value} {t0 t1 t2 : Tok} (X : (K w.params).In s.heap) (T : TopRead p loose mg mb s.heap) (hroom : A.depth < 800) (hu : A.units < 100) (hh : A.handled = none) :
   codeAny (model rwp w) A (.call (.ref 119) ⟨[.float 0 t0, .float 4607182418800017408 t1, .float 4607182418800017408 t2], []⟩) (Ret s fun v h' => Paint h' v 4607182418800017408 0 0) s := by
  have ho := X 119 (o_119 w.params) rfl
  refine call_plain_ret (name := Str.ofString "hsv_to_rgb") (room hroom) ho rfl T.nolimit (codeRec_of X (K := K w.params) (by rfl)) (binds := [(Str.ofString "h", .float 0 t0), (Str.ofString "s", .float 4607182418800017408 t1), (Str.ofString "v", .float 4607182418800017408 t2)]) (by rfl) (locs (by rfl)) ?_
  intro h₁ F
  have N : News s.heap s.heap.objs.size h₁ [] := News.nil
  show wpAny _ _ (execs (_ :: _) _) _ _ _
  k_steps
  next D h' F' N' l => exact Ret.of F' (Paint.of (N' _ List.mem_cons_self).1 (by decide +kernel) (by decide +kernel) (by decide +kernel))
theorem spec_hsv1 {w : World} {A : Around} {s : Shared} {p : Program} {loose : List Str} {mg mb : Str → Option Value} {t0 t1 t2 : Tok} (X : (K w.params).In s.heap) (T : TopRead p loose mg mb s.heap) (hroom : A.depth < 800) (hu : A.units < 100) (hh : A.handled = none) :
   codeAny (model rwp w) A (.call (.ref 119) ⟨[.float 4599676419421066581 t0, .float 4607182418800017408 t1, .float 4607182418800017408 t2], []⟩) (Ret s fun v h' => Paint h' v 0 4607182418800017408 0) s := by
  have ho := X 119 (o_119 w.params) rfl
  refine call_plain_ret (name := Str.ofString "hsv_to_rgb") (room hroom) ho rfl T.nolimit (codeRec_of X (K := K w.params) (by rfl)) (binds := [(Str.ofString "h", .float 4599676419421066581 t0), (Str.ofString "s", .float 4607182418800017408 t1), (Str.ofString "v", .float 4607182418800017408 t2)]) (by rfl) (locs (by rfl)) ?_
  intro h₁ F
  have N : News s.heap s.heap.objs.size h₁ [] := News.nil
  show wpAny _ _ (execs (_ :: _) _) _ _ _
  k_steps
  next D h' F' N' l => exact Ret.of F' (Paint.of (N' _ List.mem_cons_self).1 (by decide +kernel) (by decide +kernel) (by decide +kernel))
theorem spec_hsv2 {w : World} {A : Around} {s : Shared} {p : Program} {loose : List Str} {mg mb : Str → Option Value} {t0 t1 t2 : Tok} (X : (K w.params).In s.heap) (T : TopRead p loose mg mb s.heap) (hroom : A.depth < 800) (hu : A.units < 100) (hh : A.handled = none) :
   codeAny (model rwp w) A (.call (.ref 119) ⟨[.float 4604180019048437077 t0, .float 4607182418800017408 t1, .float 4607182418800017408 t2], []⟩) (Ret s fun v h' => Paint h' v 0 0 4607182418800017408) s := by
  have ho := X 119 (o_119 w.params) rfl
  refine call_plain_ret (name := Str.ofString "hsv_to_rgb") (room hroom) ho rfl T.nolimit (codeRec_of X (K := K w.params) (by rfl)) (binds := [(Str.ofString "h", .float 4604180019048437077 t0), (Str.ofString "s", .float 4607182418800017408 t1), (Str.ofString "v", .float 4607182418800017408 t2)]) (by rfl) (locs (by rfl)) ?_
  intro h₁ F
  have N : News s.heap s.heap.objs.size h₁ [] := News.nil
  show wpAny _ _ (execs (_ :: _) _) _ _ _
  k_steps
  next D h' F' N' l => exact Ret.of F' (Paint.of (N' _ List.mem_cons_self).1 (by decide +kernel) (by decide +kernel) (by decide +kernel))
end Mine
end
section
open PySem PySem.W PyProof.Rows
set_option Elab.async false
set_option compiler.extract_closed false
set_option maxRecDepth 100000
set_option maxHeartbeats 4000000
set_option linter.unusedVariables false
namespace Mine
section
variable {prog : Program} {w : World} {A : Around} {E : Value → Shared → Prop} {s : Shared} {x y z a b : UInt64} {t u t0 t1 t2 : Tok} {Q : Value → Shared → Prop}
noncomputable def fAt (vs : Array (UInt64 × Tok)) (i : Nat) : UInt64 := (vs.getD i (0, 0)).1
noncomputable def fVals (vs : Array (UInt64 × Tok)) : Array Value := vs.map fun x => .float x.1 x.2
theorem fVals_at {vs : Array (UInt64 × Tok)} {i : Nat} {v : Value} (h : (fVals vs)[i]? = some v) : ∃ t, v = .float (fAt vs i) t := by
  unfold fVals at h
  rw [Array.getElem?_map] at h
  unfold fAt
  cases e : vs[i]? with
  | none => rw [e] at h; cases h
  | some p => rw [e] at h; cases h; exact ⟨p.2, by simp [Array.getD_eq_getD_getElem?, e]⟩
theorem cmpLt (vs : Array (UInt64 × Tok)) : CmpOf prog w A .Lt (fun i v => (fVals vs)[i]? = some v) (fun i j => Float64.cmp (fAt vs i) (fAt vs j) == some .lt) := by
  intro i j vi vj s Q E hi hj h
  obtain ⟨t, rfl⟩ := fVals_at hi
  obtain ⟨u, rfl⟩ := fVals_at hj
  exact PySem.Flt.lt_num (.float _ t) (.float _ u) h
theorem cmpGt (vs : Array (UInt64 × Tok)) : CmpOf prog w A .Gt (fun i v => (fVals vs)[i]? = some v) (fun i j => Float64.cmp (fAt vs j) (fAt vs i) == some .lt) := by
  intro i j vi vj s Q E hi hj h
  obtain ⟨t, rfl⟩ := fVals_at hi
  obtain ⟨u, rfl⟩ := fVals_at hj
  exact PySem.Flt.gt_num (.float _ t) (.float _ u) h
theorem max3_f0 {c1 c2 : Bool} (hh : A.handled = none) (h1 : (Float64.cmp x y == some Ordering.lt) = c1) (h2 : (Float64.cmp (bif c1 then y else x) z == some Ordering.lt) = c2)
    (h : ∀ h' tk, (∀ d o, s.heap.get? d = some o → h'.get? d = some o) → Q (bif c2 then .float z t2 else bif c1 then .float y t1 else .float x t0) { s with heap := h', toks := tk }) :
    wpAny (model prog w) A (call (.builtin "max") [.float x t0, .float y t1, .float z t2]) Q E s := by
  have hsz : (s.heap.push { cls := .type "tuple", data := .seq #[.float x t0, .float y t1, .float z t2] }).objs.size = s.heap.objs.size + 1 := Heap.size_push ..
  have hT : (s.heap.push { cls := .type "tuple", data := .seq #[.float x t0, .float y t1, .float z t2] }).IsTuple s.heap.objs.size (fVals #[(x, t0), (y, t1), (z, t2)]) := ⟨_, Heap.get?_push_size _ rfl, rfl, 0, by simp [fVals]⟩
  have eV : fVals #[(x, t0), (y, t1), (z, t2)] = #[.float x t0, .float y t1, .float z t2] := by simp [fVals]
  refine call_max_three (wpAny_pyIter_tuple hT ?_)
  refine ⟨_, [_, s.heap.objs.size], [_], _, _, _, _, rfl, Walks.tuple (A := A.in1) hh _ s.heap.objs.size (by rw [hsz]; exact Nat.ne_of_lt (Nat.lt_succ_self _)) (fVals #[(x, t0), (y, t1), (z, t2)]),
    ⟨⟨_, Heap.get?_push_size _ rfl, rfl, rfl⟩, hT.push _⟩, fun d hd => ?_, by rw [eV]; exact Nat.zero_lt_succ 2, cmpGt _, fun v h' tk hP hk => ?_⟩
  · show d < ((s.heap.push _).push _).objs.size
    rw [Heap.size_push, hsz]
    simp only [List.mem_cons, List.not_mem_nil, or_false] at hd
    rcases hd with rfl | rfl
    · rw [hsz]; exact Nat.lt_succ_self _
    · exact Nat.lt_succ_of_lt (Nat.lt_succ_self _)
  · have q := h h' tk fun d o e => hk d o (fun hm => by
      simp only [List.mem_cons, List.not_mem_nil, or_false] at hm
      have := Heap.lt_size e
      rw [hm, hsz] at this
      exact Nat.lt_irrefl _ (Nat.lt_of_succ_lt this)) (Heap.get?_push_of_some _ (Heap.get?_push_of_some _ e))
    have hP' : (fVals #[(x, t0), (y, t1), (z, t2)])[argBest (fun i j => Float64.cmp (fAt #[(x, t0), (y, t1), (z, t2)] j) (fAt #[(x, t0), (y, t1), (z, t2)] i) == some Ordering.lt) 2]? = some v := by rw [eV] at hP; rw [eV]; exact hP
    have a0 : argBest (fun i j => Float64.cmp (fAt #[(x, t0), (y, t1), (z, t2)] j) (fAt #[(x, t0), (y, t1), (z, t2)] i) == some Ordering.lt) 1 = bif c1 then 1 else 0 := by
      show (if (Float64.cmp x y == some Ordering.lt) = true then 1 else 0) = _
      rw [h1]; cases c1 <;> rfl
    have a1 : argBest (fun i j => Float64.cmp (fAt #[(x, t0), (y, t1), (z, t2)] j) (fAt #[(x, t0), (y, t1), (z, t2)] i) == some Ordering.lt) 2 = bif c2 then 2 else bif c1 then 1 else 0 := by
      rw [argBest, a0]
      cases c1
      · have h2' : (Float64.cmp (fAt #[(x, t0), (y, t1), (z, t2)] 0) (fAt #[(x, t0), (y, t1), (z, t2)] (1 + 1)) == some Ordering.lt) = c2 := h2
        simp only [cond_false]
        rw [h2']; cases c2 <;> rfl
      · have h2' : (Float64.cmp (fAt #[(x, t0), (y, t1), (z, t2)] 1) (fAt #[(x, t0), (y, t1), (z, t2)] (1 + 1)) == some Ordering.lt) = c2 := h2
        simp only [cond_true]
        rw [h2']; cases c2 <;> rfl
    rw [a1, eV] at hP'
    cases c1 <;> cases c2 <;> (simp at hP' q; subst hP'; exact q)
theorem max3_f {c1 c2 : Bool} (hh : A.handled = none) (h1 : (Float64.cmp x y == some Ordering.lt) = c1) (h2 : (Float64.cmp (bif c1 then y else x) z == some Ordering.lt) = c2)
    (h : ∀ h' tk, s.toks ≤ tk → (∀ d o, s.heap.get? d = some o → h'.get? d = some o) → Q (bif c2 then .float z t2 else bif c1 then .float y t1 else .float x t0) { s with heap := h', toks := tk }) :
    wpAny (model prog w) A (call (.builtin "max") [.float x t0, .float y t1, .float z t2]) Q E s :=
  wpAny_with_toks (Nat.le_refl _) (max3_f0 hh h1 h2 fun h' tk k ht => h h' tk ht k)
theorem min3_f0 {c1 c2 : Bool} (hh : A.handled = none) (h1 : (Float64.cmp y x == some Ordering.lt) = c1) (h2 : (Float64.cmp z (bif c1 then y else x) == some Ordering.lt) = c2)
    (h : ∀ h' tk, (∀ d o, s.heap.get? d = some o → h'.get? d = some o) → Q (bif c2 then .float z t2 else bif c1 then .float y t1 else .float x t0) { s with heap := h', toks := tk }) :
    wpAny (model prog w) A (call (.builtin "min") [.float x t0, .float y t1, .float z t2]) Q E s := by
  have hsz : (s.heap.push { cls := .type "tuple", data := .seq #[.float x t0, .float y t1, .float z t2] }).objs.size = s.heap.objs.size + 1 := Heap.size_push ..
  have hT : (s.heap.push { cls := .type "tuple", data := .seq #[.float x t0, .float y t1, .float z t2] }).IsTuple s.heap.objs.size (fVals #[(x, t0), (y, t1), (z, t2)]) := ⟨_, Heap.get?_push_size _ rfl, rfl, 0, by simp [fVals]⟩
  have eV : fVals #[(x, t0), (y, t1), (z, t2)] = #[.float x t0, .float y t1, .float z t2] := by simp [fVals]
  refine call_min_three (wpAny_pyIter_tuple hT ?_)
  refine ⟨_, [_, s.heap.objs.size], [_], _, _, _, _, rfl, Walks.tuple (A := A.in1) hh _ s.heap.objs.size (by rw [hsz]; exact Nat.ne_of_lt (Nat.lt_succ_self _)) (fVals #[(x, t0), (y, t1), (z, t2)]),
    ⟨⟨_, Heap.get?_push_size _ rfl, rfl, rfl⟩, hT.push _⟩, fun d hd => ?_, by rw [eV]; exact Nat.zero_lt_succ 2, cmpLt _, fun v h' tk hP hk => ?_⟩
  · show d < ((s.heap.push _).push _).objs.size
    rw [Heap.size_push, hsz]
    simp only [List.mem_cons, List.not_mem_nil, or_false] at hd
    rcases hd with rfl | rfl
    · rw [hsz]; exact Nat.lt_succ_self _
    · exact Nat.lt_succ_of_lt (Nat.lt_succ_self _)
  · have q := h h' tk fun d o e => hk d o (fun hm => by
      simp only [List.mem_cons, List.not_mem_nil, or_false] at hm
      have := Heap.lt_size e
      rw [hm, hsz] at this
      exact Nat.lt_irrefl _ (Nat.lt_of_succ_lt this)) (Heap.get?_push_of_some _ (Heap.get?_push_of_some _ e))
    have hP' : (fVals #[(x, t0), (y, t1), (z, t2)])[argBest (fun i j => Float64.cmp (fAt #[(x, t0), (y, t1), (z, t2)] i) (fAt #[(x, t0), (y, t1), (z, t2)] j) == some Ordering.lt) 2]? = some v := by rw [eV] at hP; rw [eV]; exact hP
    have a0 : argBest (fun i j => Float64.cmp (fAt #[(x, t0), (y, t1), (z, t2)] i) (fAt #[(x, t0), (y, t1), (z, t2)] j) == some Ordering.lt) 1 = bif c1 then 1 else 0 := by
      show (if (Float64.cmp y x == some Ordering.lt) = true then 1 else 0) = _
      rw [h1]; cases c1 <;> rfl
    have a1 : argBest (fun i j => Float64.cmp (fAt #[(x, t0), (y, t1), (z, t2)] i) (fAt #[(x, t0), (y, t1), (z, t2)] j) == some Ordering.lt) 2 = bif c2 then 2 else bif c1 then 1 else 0 := by
      rw [argBest, a0]
      cases c1
      · have h2' : (Float64.cmp (fAt #[(x, t0), (y, t1), (z, t2)] (1 + 1)) (fAt #[(x, t0), (y, t1), (z, t2)] 0) == some Ordering.lt) = c2 := h2
        simp only [cond_false]
        rw [h2']; cases c2 <;> rfl
      · have h2' : (Float64.cmp (fAt #[(x, t0), (y, t1), (z, t2)] (1 + 1)) (fAt #[(x, t0), (y, t1), (z, t2)] 1) == some Ordering.lt) = c2 := h2
        simp only [cond_true]
        rw [h2']; cases c2 <;> rfl
    rw [a1, eV] at hP'
    cases c1 <;> cases c2 <;> (simp at hP' q; subst hP'; exact q)
theorem min3_f {c1 c2 : Bool} (hh : A.handled = none) (h1 : (Float64.cmp y x == some Ordering.lt) = c1) (h2 : (Float64.cmp z (bif c1 then y else x) == some Ordering.lt) = c2)
    (h : ∀ h' tk, s.toks ≤ tk → (∀ d o, s.heap.get? d = some o → h'.get? d = some o) → Q (bif c2 then .float z t2 else bif c1 then .float y t1 else .float x t0) { s with heap := h', toks := tk }) :
    wpAny (model prog w) A (call (.builtin "min") [.float x t0, .float y t1, .float z t2]) Q E s :=
  wpAny_with_toks (Nat.le_refl _) (min3_f0 hh h1 h2 fun h' tk k ht => h h' tk ht k)
end
section
variable {prog : Program} {w : World} {A : Around} {E : Value → Shared → Prop} {s : Shared} {a b : UInt64} {t u : Tok} {Q : Value → Shared → Prop}
theorem f_le {r : Bool} (h : (Float64.cmp a b == some Ordering.lt || Float64.cmp a b == some Ordering.eq) = r) (hq : Q (.bool r) s) : wpAny (model prog w) A (compareOp .LtE (.float a t) (.float b u)) Q E s := AutoFloatOps.le_0 (by rw [h]; exact hq)
theorem f_div (h : Float64.isZero b = false) (hq : Q (.float (Float64.div a b) s.toks) { s with toks := s.toks + 1 }) : wpAny (model prog w) A (binaryOp .Div (.float a t) (.float b u)) Q E s := AutoFloatOps.truediv_1 (by rw [h]; decide) hq
theorem f_mod (h : Float64.isZero b = false) (hq : Q (.float (Float64.divmod a b).2 s.toks) { s with toks := s.toks + 1 }) : wpAny (model prog w) A (binaryOp .Mod (.float a t) (.float b u)) Q E s := AutoFloatOps.mod_1 (by rw [h]; decide) hq
end
theorem warm6 (P : Params) : PySem.Challenge.rw_tr0061_01 = PySem.Challenge.rw_tr0061_01 ∧ K P = K P := by k_fill; exact ⟨rfl, rfl⟩
local macro_rules | `(tactic| walk_at "cmp") => `(tactic| first | (show _ = true; decide +kernel) | (show _ = false; decide +kernel))
local macro_rules | `(tactic| walk_at "compareOp Eq float float") => `(tactic| refine f_eq (by walk_at "cmp") ?_)
local macro_rules | `(tactic| walk_at "compareOp LtE float float") => `(tactic| refine f_le (by walk_at "cmp") ?_)
local macro_rules | `(tactic| walk_at "binaryOp Div float float") => `(tactic| with_reducible refine f_div (by decide +kernel) ?_)
local macro_rules | `(tactic| walk_at "binaryOp Mod float float") => `(tactic| with_reducible refine f_mod (by decide +kernel) ?_)
local macro_rules | `(tactic| walk_at "grow") => `(tactic| (intro _ _ _ k'; simp only [cond_true, cond_false]; rename News _ _ _ _ => N'; rename Fr _ _ _ _ => F'; replace F' := F'.grownK k'; replace N' := N'.grown k'))
local macro_rules | `(tactic| walk_at "call builtin:max") => `(tactic| (refine max3_f (by with_unfolding_all assumption) (by walk_at "cmp") (by walk_at "cmp") ?_; walk_at "grow"))
local macro_rules | `(tactic| walk_at "call builtin:min") => `(tactic| (refine min3_f (by with_unfolding_all assumption) (by walk_at "cmp") (by walk_at "cmp") ?_; walk_at "grow"))
/-- the colour of three floats is a grey of lightness a quarter -/
noncomputable def greyB (x y z : UInt64) : Bool := (Float64.cmp x 0 == some .eq) && ((Float64.cmp y 4598175219545276416 == some .eq) && (Float64.cmp z 0 == some .eq))
structure Grey (h₀ h : Heap) (v : Value) (tk : Nat) (r : Bool) : Prop where
  ex : ∃ (d : Addr) (x y z : UInt64) (t0 t1 t2 : Nat), v = .ref d ∧ h₀.get? d = none ∧ h.IsTuple d #[.float x t0, .float y t1, .float z t2] ∧ (0 < t0 ∧ t0 < tk) ∧ (0 < t1 ∧ t1 < tk) ∧ (0 < t2 ∧ t2 < tk) ∧ greyB x y z = r
theorem Grey.of {h₀ h : Heap} {d : Addr} {x y z : UInt64} {t0 t1 t2 : Nat} {tk : Nat} {r : Bool} (ho : h.get? d = some { cls := .type "tuple", data := .seq #[.float x t0, .float y t1, .float z t2] }) (h0 : 0 < t0 ∧ t0 < tk) (h1 : 0 < t1 ∧ t1 < tk) (h2 : 0 < t2 ∧ t2 < tk) (hr : greyB x y z = r) (hn : h₀.get? d = none) : Grey h₀ h (.ref d) tk r :=
  ⟨d, x, y, z, t0, t1, t2, rfl, hn, ⟨_, ho, rfl, _, rfl⟩, h0, h1, h2, hr⟩
/-- as Ret, with the last token -/
noncomputable def RetT (s : Shared) (Q : Value → Heap → Nat → Prop) (r : Result) (s' : Shared) : Prop :=
  ∃ v h' tk, r = .ok (.ret v) ∧ s' = { s with heap := h', toks := tk } ∧ (∀ b o, s.heap.get? b = some o → h'.get? b = some o) ∧ Q v h' tk
theorem RetT.of {s : Shared} {Q : Value → Heap → Nat → Prop} {L : Addr} {h' : Heap} {m : Str → Option Value} {tk : Nat} {v : Value} (F : Fr s.heap L h' m) (q : Q v h' tk) :
    RetT s Q (.ok (.ret v)) { s with heap := h', toks := tk } := ⟨v, h', tk, rfl, rfl, F.keep, q⟩
theorem call_retT {M : Model} {A : Around} {f : Value} {args : List Value} {s : Shared} {Q : Value → Shared → Prop} {E : Value → Shared → Prop} {P : Value → Heap → Nat → Prop}
    (h : codeAny M A (.call f ⟨args, []⟩) (RetT s P) s)
    (k : ∀ v h' tk, (∀ b o, s.heap.get? b = some o → h'.get? b = some o) → P v h' tk → Q v { s with heap := h', toks := tk }) : wpAny M A (call f args) Q E s := by
  refine wpAny_call (codeAny_mono h fun r s' hr => ?_)
  obtain ⟨v, h', tk, rfl, rfl, c, d⟩ := hr
  exact k v h' tk c d
local macro_rules | `(tactic| walk_at "execs cons") => `(tactic| ((with_reducible refine wpAny_execs_cons ?_); try dsimp only))
local macro_rules | `(tactic| walk_at "execs nil") => `(tactic| refine wpAny_execs_nil ?_)
theorem spec_hls111 {w : World} {A : Around} {s : Shared} {p : Program} {loose : List Str} {mg mb : Str → Option Value} {t0 t1 t2 : Tok} (X : (K w.params).In s.heap) (T : TopRead p loose mg mb s.heap) (hroom : A.depth < 800) (hu : A.units < 100) (hh : A.handled = none) (ht : 0 < s.toks) :
   codeAny (model rwp w) A (.call (.ref 112) ⟨[.float 4598175219545276416 t0, .float 4598175219545276416 t1, .float 4598175219545276416 t2], []⟩) (RetT s fun v h' tk => Grey s.heap h' v tk true) s := by
  have ho := X 112 (o_112 w.params) rfl
  refine call_plain_ret (name := Str.ofString "rgb_to_hls") (room hroom) ho rfl T.nolimit (codeRec_of X (K := K w.params) (by rfl)) (binds := [(Str.ofString "r", .float 4598175219545276416 t0), (Str.ofString "g", .float 4598175219545276416 t1), (Str.ofString "b", .float 4598175219545276416 t2)]) (by rfl) (locs (by rfl)) ?_
  intro h₁ F
  have N : News s.heap s.heap.objs.size h₁ [] := News.nil
  show wpAny _ _ (execs (_ :: _) _) _ _ _
  k_steps
  next D h' F' N' l => exact RetT.of F' (Grey.of (N' _ List.mem_cons_self).1 (by (try dsimp only at *); omega) (by (try dsimp only at *); omega) (by (try dsimp only at *); omega) (by decide +kernel) (N' _ List.mem_cons_self).2.2)
theorem spec_hls003 {w : World} {A : Around} {s : Shared} {p : Program} {loose : List Str} {mg mb : Str → Option Value} {t0 t1 t2 : Tok} (X : (K w.params).In s.heap) (T : TopRead p loose mg mb s.heap) (hroom : A.depth < 800) (hu : A.units < 100) (hh : A.handled = none) (ht : 0 < s.toks) :
   codeAny (model rwp w) A (.call (.ref 112) ⟨[.float 0 t0, .float 0 t1, .float 4604930618986332160 t2], []⟩) (RetT s fun v h' tk => Grey s.heap h' v tk false) s := by
  have ho := X 112 (o_112 w.params) rfl
  refine call_plain_ret (name := Str.ofString "rgb_to_hls") (room hroom) ho rfl T.nolimit (codeRec_of X (K := K w.params) (by rfl)) (binds := [(Str.ofString "r", .float 0 t0), (Str.ofString "g", .float 0 t1), (Str.ofString "b", .float 4604930618986332160 t2)]) (by rfl) (locs (by rfl)) ?_
  intro h₁ F
  have N : News s.heap s.heap.objs.size h₁ [] := News.nil
  show wpAny _ _ (execs (_ :: _) _) _ _ _
  k_steps
  next D h' F' N' l => exact RetT.of F' (Grey.of (N' _ List.mem_cons_self).1 (by (try dsimp only at *); omega) (by (try dsimp only at *); omega) (by (try dsimp only at *); omega) (by decide +kernel) (N' _ List.mem_cons_self).2.2)
theorem spec_hls012 {w : World} {A : Around} {s : Shared} {p : Program} {loose : List Str} {mg mb : Str → Option Value} {t0 t1 t2 : Tok} (X : (K w.params).In s.heap) (T : TopRead p loose mg mb s.heap) (hroom : A.depth < 800) (hu : A.units < 100) (hh : A.handled = none) (ht : 0 < s.toks) :
   codeAny (model rwp w) A (.call (.ref 112) ⟨[.float 0 t0, .float 4598175219545276416 t1, .float 4602678819172646912 t2], []⟩) (RetT s fun v h' tk => Grey s.heap h' v tk false) s := by
  have ho := X 112 (o_112 w.params) rfl
  refine call_plain_ret (name := Str.ofString "rgb_to_hls") (room hroom) ho rfl T.nolimit (codeRec_of X (K := K w.params) (by rfl)) (binds := [(Str.ofString "r", .float 0 t0), (Str.ofString "g", .float 4598175219545276416 t1), (Str.ofString "b", .float 4602678819172646912 t2)]) (by rfl) (locs (by rfl)) ?_
  intro h₁ F
  have N : News s.heap s.heap.objs.size h₁ [] := News.nil
  show wpAny _ _ (execs (_ :: _) _) _ _ _
  k_steps
  next D h' F' N' l => exact RetT.of F' (Grey.of (N' _ List.mem_cons_self).1 (by (try dsimp only at *); omega) (by (try dsimp only at *); omega) (by (try dsimp only at *); omega) (by decide +kernel) (N' _ List.mem_cons_self).2.2)
theorem spec_hls021 {w : World} {A : Around} {s : Shared} {p : Program} {loose : List Str} {mg mb : Str → Option Value} {t0 t1 t2 : Tok} (X : (K w.params).In s.heap) (T : TopRead p loose mg mb s.heap) (hroom : A.depth < 800) (hu : A.units < 100) (hh : A.handled = none) (ht : 0 < s.toks) :
   codeAny (model rwp w) A (.call (.ref 112) ⟨[.float 0 t0, .float 4602678819172646912 t1, .float 4598175219545276416 t2], []⟩) (RetT s fun v h' tk => Grey s.heap h' v tk false) s := by
  have ho := X 112 (o_112 w.params) rfl
  refine call_plain_ret (name := Str.ofString "rgb_to_hls") (room hroom) ho rfl T.nolimit (codeRec_of X (K := K w.params) (by rfl)) (binds := [(Str.ofString "r", .float 0 t0), (Str.ofString "g", .float 4602678819172646912 t1), (Str.ofString "b", .float 4598175219545276416 t2)]) (by rfl) (locs (by rfl)) ?_
  intro h₁ F
  have N : News s.heap s.heap.objs.size h₁ [] := News.nil
  show wpAny _ _ (execs (_ :: _) _) _ _ _
  k_steps
  next D h' F' N' l => exact RetT.of F' (Grey.of (N' _ List.mem_cons_self).1 (by (try dsimp only at *); omega) (by (try dsimp only at *); omega) (by (try dsimp only at *); omega) (by decide +kernel) (N' _ List.mem_cons_self).2.2)
theorem spec_hls030 {w : World} {A : Around} {s : Shared} {p : Program} {loose : List Str} {mg mb : Str → Option Value} {t0 t1 t2 : Tok} (X : (K w.params).In s.heap) (T : TopRead p loose mg mb s.heap) (hroom : A.depth < 800) (hu : A.units < 100) (hh : A.handled = none) (ht : 0 < s.toks) :
   codeAny (model rwp w) A (.call (.ref 112) ⟨[.float 0 t0, .float 4604930618986332160 t1, .float 0 t2], []⟩) (RetT s fun v h' tk => Grey s.heap h' v tk false) s := by
  have ho := X 112 (o_112 w.params) rfl
  refine call_plain_ret (name := Str.ofString "rgb_to_hls") (room hroom) ho rfl T.nolimit (codeRec_of X (K := K w.params) (by rfl)) (binds := [(Str.ofString "r", .float 0 t0), (Str.ofString "g", .float 4604930618986332160 t1), (Str.ofString "b", .float 0 t2)]) (by rfl) (locs (by rfl)) ?_
  intro h₁ F
  have N : News s.heap s.heap.objs.size h₁ [] := News.nil
  show wpAny _ _ (execs (_ :: _) _) _ _ _
  k_steps
  next D h' F' N' l => exact RetT.of F' (Grey.of (N' _ List.mem_cons_self).1 (by (try dsimp only at *); omega) (by (try dsimp only at *); omega) (by (try dsimp only at *); omega) (by decide +kernel) (N' _ List.mem_cons_self).2.2)
theorem spec_hls102 {w : World} {A : Around} {s : Shared} {p : Program} {loose : List Str} {mg mb : Str → Option Value} {t0 t1 t2 : Tok} (X : (K w.params).In s.heap) (T : TopRead p loose mg mb s.heap) (hroom : A.depth < 800) (hu : A.units < 100) (hh : A.handled = none) (ht : 0 < s.toks) :
   codeAny (model rwp w) A (.call (.ref 112) ⟨[.float 4598175219545276416 t0, .float 0 t1, .float 4602678819172646912 t2], []⟩) (RetT s fun v h' tk => Grey s.heap h' v tk false) s := by
  have ho := X 112 (o_112 w.params) rfl
  refine call_plain_ret (name := Str.ofString "rgb_to_hls") (room hroom) ho rfl T.nolimit (codeRec_of X (K := K w.params) (by rfl)) (binds := [(Str.ofString "r", .float 4598175219545276416 t0), (Str.ofString "g", .float 0 t1), (Str.ofString "b", .float 4602678819172646912 t2)]) (by rfl) (locs (by rfl)) ?_
  intro h₁ F
  have N : News s.heap s.heap.objs.size h₁ [] := News.nil
  show wpAny _ _ (execs (_ :: _) _) _ _ _
  k_steps
  next D h' F' N' l => exact RetT.of F' (Grey.of (N' _ List.mem_cons_self).1 (by (try dsimp only at *); omega) (by (try dsimp only at *); omega) (by (try dsimp only at *); omega) (by decide +kernel) (N' _ List.mem_cons_self).2.2)
theorem spec_hls120 {w : World} {A : Around} {s : Shared} {p : Program} {loose : List Str} {mg mb : Str → Option Value} {t0 t1 t2 : Tok} (X : (K w.params).In s.heap) (T : TopRead p loose mg mb s.heap) (hroom : A.depth < 800) (hu : A.units < 100) (hh : A.handled = none) (ht : 0 < s.toks) :
   codeAny (model rwp w) A (.call (.ref 112) ⟨[.float 4598175219545276416 t0, .float 4602678819172646912 t1, .float 0 t2], []⟩) (RetT s fun v h' tk => Grey s.heap h' v tk false) s := by
  have ho := X 112 (o_112 w.params) rfl
  refine call_plain_ret (name := Str.ofString "rgb_to_hls") (room hroom) ho rfl T.nolimit (codeRec_of X (K := K w.params) (by rfl)) (binds := [(Str.ofString "r", .float 4598175219545276416 t0), (Str.ofString "g", .float 4602678819172646912 t1), (Str.ofString "b", .float 0 t2)]) (by rfl) (locs (by rfl)) ?_
  intro h₁ F
  have N : News s.heap s.heap.objs.size h₁ [] := News.nil
  show wpAny _ _ (execs (_ :: _) _) _ _ _
  k_steps
  next D h' F' N' l => exact RetT.of F' (Grey.of (N' _ List.mem_cons_self).1 (by (try dsimp only at *); omega) (by (try dsimp only at *); omega) (by (try dsimp only at *); omega) (by decide +kernel) (N' _ List.mem_cons_self).2.2)
theorem spec_hls201 {w : World} {A : Around} {s : Shared} {p : Program} {loose : List Str} {mg mb : Str → Option Value} {t0 t1 t2 : Tok} (X : (K w.params).In s.heap) (T : TopRead p loose mg mb s.heap) (hroom : A.depth < 800) (hu : A.units < 100) (hh : A.handled = none) (ht : 0 < s.toks) :
   codeAny (model rwp w) A (.call (.ref 112) ⟨[.float 4602678819172646912 t0, .float 0 t1, .float 4598175219545276416 t2], []⟩) (RetT s fun v h' tk => Grey s.heap h' v tk false) s := by
  have ho := X 112 (o_112 w.params) rfl
  refine call_plain_ret (name := Str.ofString "rgb_to_hls") (room hroom) ho rfl T.nolimit (codeRec_of X (K := K w.params) (by rfl)) (binds := [(Str.ofString "r", .float 4602678819172646912 t0), (Str.ofString "g", .float 0 t1), (Str.ofString "b", .float 4598175219545276416 t2)]) (by rfl) (locs (by rfl)) ?_
  intro h₁ F
  have N : News s.heap s.heap.objs.size h₁ [] := News.nil
  show wpAny _ _ (execs (_ :: _) _) _ _ _
  k_steps
  next D h' F' N' l => exact RetT.of F' (Grey.of (N' _ List.mem_cons_self).1 (by (try dsimp only at *); omega) (by (try dsimp only at *); omega) (by (try dsimp only at *); omega) (by decide +kernel) (N' _ List.mem_cons_self).2.2)
theorem spec_hls210 {w : World} {A : Around} {s : Shared} {p : Program} {loose : List Str} {mg mb : Str → Option Value} {t0 t1 t2 : Tok} (X : (K w.params).In s.heap) (T : TopRead p loose mg mb s.heap) (hroom : A.depth < 800) (hu : A.units < 100) (hh : A.handled = none) (ht : 0 < s.toks) :
   codeAny (model rwp w) A (.call (.ref 112) ⟨[.float 4602678819172646912 t0, .float 4598175219545276416 t1, .float 0 t2], []⟩) (RetT s fun v h' tk => Grey s.heap h' v tk false) s := by
  have ho := X 112 (o_112 w.params) rfl
  refine call_plain_ret (name := Str.ofString "rgb_to_hls") (room hroom) ho rfl T.nolimit (codeRec_of X (K := K w.params) (by rfl)) (binds := [(Str.ofString "r", .float 4602678819172646912 t0), (Str.ofString "g", .float 4598175219545276416 t1), (Str.ofString "b", .float 0 t2)]) (by rfl) (locs (by rfl)) ?_
  intro h₁ F
  have N : News s.heap s.heap.objs.size h₁ [] := News.nil
  show wpAny _ _ (execs (_ :: _) _) _ _ _
  k_steps
  next D h' F' N' l => exact RetT.of F' (Grey.of (N' _ List.mem_cons_self).1 (by (try dsimp only at *); omega) (by (try dsimp only at *); omega) (by (try dsimp only at *); omega) (by decide +kernel) (N' _ List.mem_cons_self).2.2)
theorem spec_hls300 {w : World} {A : Around} {s : Shared} {p : Program} {loose : List Str} {mg mb : Str → Option Value} {t0 t1 t2 : Tok} (X : (K w.params).In s.heap) (T : TopRead p loose mg mb s.heap) (hroom : A.depth < 800) (hu : A.units < 100) (hh : A.handled = none) (ht : 0 < s.toks) :
   codeAny (model rwp w) A (.call (.ref 112) ⟨[.float 4604930618986332160 t0, .float 0 t1, .float 0 t2], []⟩) (RetT s fun v h' tk => Grey s.heap h' v tk false) s := by
  have ho := X 112 (o_112 w.params) rfl
  refine call_plain_ret (name := Str.ofString "rgb_to_hls") (room hroom) ho rfl T.nolimit (codeRec_of X (K := K w.params) (by rfl)) (binds := [(Str.ofString "r", .float 4604930618986332160 t0), (Str.ofString "g", .float 0 t1), (Str.ofString "b", .float 0 t2)]) (by rfl) (locs (by rfl)) ?_
  intro h₁ F
  have N : News s.heap s.heap.objs.size h₁ [] := News.nil
  show wpAny _ _ (execs (_ :: _) _) _ _ _
  k_steps
  next D h' F' N' l => exact RetT.of F' (Grey.of (N' _ List.mem_cons_self).1 (by (try dsimp only at *); omega) (by (try dsimp only at *); omega) (by (try dsimp only at *); omega) (by decide +kernel) (N' _ List.mem_cons_self).2.2)
end Mine
end
section
open PySem PySem.W PyProof.Rows
set_option Elab.async false
set_option compiler.extract_closed false
set_option maxRecDepth 100000
set_option maxHeartbeats 1000000
set_option linter.unusedVariables false
namespace Mine
noncomputable def chan (m c : Nat) : UInt64 := if m = c then 4607182418800017408 else 0
noncomputable def hits (a b d c : Nat) : Nat := (if a = c then 1 else 0) + (if b = c then 1 else 0) + (if d = c then 1 else 0)
noncomputable def quart : Nat → UInt64
  | 0 => 0
  | 1 => 4598175219545276416
  | 2 => 4602678819172646912
  | _ => 4604930618986332160
theorem light_of (a b d c : Nat) : Float64.div (Flt.sumOf [chan a c, chan b c, chan d c]) (Float64.ofInt 4) = quart (hits a b d c) := by
  unfold chan hits
  by_cases h1 : a = c <;> by_cases h2 : b = c <;> by_cases h3 : d = c <;> simp only [h1, h2, h3, if_true, if_false] <;> decide +kernel
section
variable {prog : Program} {w : World} {A : Around} {E : Value → Shared → Prop} {s : Shared} {Q : Value → Shared → Prop}
theorem sum_fl {l : Addr} {vs : List Value} {bs : List UInt64} (hh : A.handled = none) (hl : s.heap.IsList l vs.toArray) (hf : Flt.FloatsAre vs bs) (hne : bs.length ≠ 0)
    (h : ∀ h' tk t, Up s.heap h' → Q (.float (Flt.sumOf bs) t) { s with heap := h', toks := tk }) : wpAny (model prog w) A (call (.builtin "sum") [.ref l]) Q E s := by
  refine Flt.call_sum_walkF (Flt.sumInts_map hne) (Flt.iter_list_ hl fun s₂ e st hfp hlI => ?_)
  subst e
  have W := (Walks.list (prog := prog) (w := w) (A := A.in1) hh _ l hlI vs.toArray).toS
  have hlen : vs.toArray.size = (bs.map WData.float).length := by simpa using hf.length
  rw [hlen] at W
  refine ⟨_, _, _, _, _, _, rfl, W, st, hfp, fun i v hP => ?_, fun s' v hv hm => ?_⟩
  · obtain ⟨b, t, rfl, e⟩ := hf.at i v (by simpa using hP)
    exact ⟨.float b, by simp [e], .float b t⟩
  · cases hv
    obtain ⟨hp, g, d, tk, os⟩ := s'
    have kp := Flt.kept_iter hm.heap
    have e1 : g = s.gens := hm.gens
    have e2 : d = s.drawn := hm.drawn
    have e3 : os = s.os := hm.os
    subst e1 e2 e3
    exact h hp tk _ kp
end
section
variable {prog : Program} {w : World} {A : Around} {E : Value → Shared → Prop} {s : Shared} {a : UInt64} {b : Int} {t u : Tok} {Q : Value → Shared → Prop}
theorem f_divi (h1 : Float64.isInf (Float64.ofInt b) = false) (h2 : Float64.isZero (Float64.ofInt b) = false) (hq : Q (.float (Float64.div a (Float64.ofInt b)) s.toks) { s with toks := s.toks + 1 }) : wpAny (model prog w) A (binaryOp .Div (.float a t) (.int b u)) Q E s :=
  AutoFloatOps.truediv_fi_2 (by rw [h1]; decide) (by rw [h2]; decide) hq
end
theorem warm7 (P : Params) : PySem.Challenge.rw_tr0061_01 = PySem.Challenge.rw_tr0061_01 ∧ K P = K P := by k_fill; exact ⟨rfl, rfl⟩
local macro_rules | `(tactic| walk_at "eval Name") => `(tactic| ((with_reducible show wpAny _ _ (eval (Expr.Name _ _) (compEnvC _ _ _ _)) _ _ _); (refine nm_built (Fr.keep (by k_asm)) (by k_asm) (by k_asm) (by k_is) (by boot_by_name) (by decide) ?_)))
theorem four_cases : ∀ a, a < 4 → a = 0 ∨ a = 1 ∨ a = 2 ∨ a = 3 := by decide
theorem three_cases7 : ∀ a, a < 3 → a = 0 ∨ a = 1 ∨ a = 2 := by decide
theorem sum_a {a b c : Nat} (h : a + b + c = 3) : a < 4 := by omega
theorem sum_b {b c : Nat} (h : 0 + b + c = 3) : b < 4 := by omega
theorem sum_c {b c : Nat} (h : 1 + b + c = 3) : b < 3 := by omega
theorem spec_hls {w : World} {A : Around} {s : Shared} {p : Program} {loose : List Str} {mg mb : Str → Option Value} {t0 t1 t2 : Tok} (X : (K w.params).In s.heap) (T : TopRead p loose mg mb s.heap) (hroom : A.depth < 800) (hu : A.units < 100) (hh : A.handled = none) (ht : 0 < s.toks)
   {a b c : Nat} (h3 : a + b + c = 3) :
   codeAny (model rwp w) A (.call (.ref 112) ⟨[.float (quart a) t0, .float (quart b) t1, .float (quart c) t2], []⟩) (RetT s fun v h' tk => Grey s.heap h' v tk (decide (a = 1 ∧ b = 1 ∧ c = 1))) s := by
  rcases four_cases a (sum_a h3) with rfl | rfl | rfl | rfl
  · rcases four_cases b (sum_b h3) with rfl | rfl | rfl | rfl
    · obtain rfl : c = 3 := by omega
      exact spec_hls003 X T hroom hu hh ht
    · obtain rfl : c = 2 := by omega
      exact spec_hls012 X T hroom hu hh ht
    · obtain rfl : c = 1 := by omega
      exact spec_hls021 X T hroom hu hh ht
    · obtain rfl : c = 0 := by omega
      exact spec_hls030 X T hroom hu hh ht
  · rcases three_cases7 b (sum_c h3) with rfl | rfl | rfl
    · obtain rfl : c = 2 := by omega
      exact spec_hls102 X T hroom hu hh ht
    · obtain rfl : c = 1 := by omega
      exact spec_hls111 X T hroom hu hh ht
    · obtain rfl : c = 0 := by omega
      exact spec_hls120 X T hroom hu hh ht
  · rcases (by omega : b = 0 ∨ b = 1) with rfl | rfl
    · obtain rfl : c = 1 := by omega
      exact spec_hls201 X T hroom hu hh ht
    · obtain rfl : c = 0 := by omega
      exact spec_hls210 X T hroom hu hh ht
  · rcases (by omega : b = 0) with rfl
    · obtain rfl : c = 0 := by omega
      exact spec_hls300 X T hroom hu hh ht
theorem booked {P : Params} {h : Heap} (X : (K P).In h) : NoneBooked h := ⟨fun _ => none, ⟨_, _, _, X 2 (o_2 P) rfl, rfl, (fun e he => by simp at he), fun _ => rfl⟩, rfl⟩
theorem same_float {M : Model} {A : Around} {E : Value → Shared → Prop} {s : Shared} {a b : UInt64} {t u : Nat} {Q : Bool → Shared → Prop} (ht : t ≠ 0) (hu : u ≠ 0) (hne : t ≠ u) (hb : NoneBooked s.heap)
    (h0 : Q false s) (h1 : a = b → Q true s) : wpAny M A (isSame (.float a t) (.float b u)) Q E s := by
  show wpAny M A (isSame.created (a == b && !Float64.isNaN a) t u) Q E s
  unfold isSame.created
  refine wpAny_ite ?_
  split
  · rename_i h
    rw [show (t == 0) = false from by simpa using ht, show (u == 0) = false from by simpa using hu] at h
    exact absurd h (by decide)
  refine wpAny_ite ?_
  split
  · rename_i h; simp at h; exact absurd h hne
  refine wpAny_ite ?_
  split
  · exact wpAny_pure h0
  rename_i hc
  have hab : a = b := by
    cases q : (a == b) with
    | true => exact eq_of_beq q
    | false => rw [q] at hc; simp at hc
  have key : ∀ z : Bool, Q z s := fun z => by cases z; exact h0; exact h1 hab
  refine wpAny_bind (wpAny_sharingNotTold_none hb ?_)
  first | rw [if_neg Bool.false_ne_true] | simp only [Bool.false_eq_true, if_false]
  refine wpAny_bind (wpAny_sharingNotTold_none hb ?_)
  first | rw [if_neg Bool.false_ne_true] | simp only [Bool.false_eq_true, if_false]
  refine wpAny_bind (wpAny_rule (wpAny_bind (wpAny_askSetting (wpAny_pure (key _)))))
theorem EqAt_float {A : Around} {s : Shared} {a b : UInt64} {t u : Nat} (ht : t ≠ 0) (hu : u ≠ 0) (hne : t ≠ u) (hn : a = b → (Float64.cmp a b == some Ordering.eq) = true) (hb : NoneBooked s.heap) : SeqAt.EqAt A s (.float a t) (.float b u) (Float64.cmp a b == some Ordering.eq) := by
  intro prog w E Q hq
  unfold eqBool
  show wpAny _ _ (if (Value.float a t == Value.float b u) = true then _ else _) Q E s
  rw [if_neg (by intro e; have := eq_of_beq e; injection this with _ e2; exact hne e2)]
  refine wpAny_bind (same_float ht hu hne hb ?_ fun e => ?_)
  · simp only [Bool.false_eq_true, if_false]
    exact wpAny_bind (AutoFloatOps.eq_0 (wpAny_truthy_bool hq))
  · simp only [if_true]
    rw [hn e] at hq
    exact wpAny_pure hq
theorem hits_three {a b c : Nat} (h1 : a < 3) (h2 : b < 3) (h3 : c < 3) : hits a b c 0 + hits a b c 1 + hits a b c 2 = 3 := by
  have key : ∀ a, a < 3 → ∀ b, b < 3 → ∀ c, c < 3 → hits a b c 0 + hits a b c 1 + hits a b c 2 = 3 := by decide +kernel
  exact key a h1 b h2 c h3
theorem spec_grey {w : World} {A : Around} {s : Shared} {p : Program} {loose : List Str} {mg mb : Str → Option Value} (X : (K w.params).In s.heap) (T : TopRead p loose mg mb s.heap) (hroom : A.depth < 700) (hu : A.units < 50) (hh : A.handled = none) (ht : 0 < s.toks)
   {P f : Addr} {ps : List Value} {mk : Nat → Nat} {i j k : Nat} {t0 t1 t2 : Tok} (hP : s.heap.IsList P ps.toArray) (hm : ∀ n v, ps[n]? = some v → Paint s.heap v (chan (mk n) 0) (chan (mk n) 1) (chan (mk n) 2))
   (hf : s.heap.IsTuple f #[.int i t0, .int j t1, .int k t2]) (hi : i < ps.length) (hj : j < ps.length) (hk : k < ps.length) (hps : ps.length < 1000) (m1 : mk i < 3) (m2 : mk j < 3) (m3 : mk k < 3) :
   codeAny (model rwp w) A (.call (.ref 207) ⟨[.ref P, .ref f], []⟩) (Ret s fun v h' => v = .bool (decide (hits (mk i) (mk j) (mk k) 0 = 1 ∧ hits (mk i) (mk j) (mk k) 1 = 1 ∧ hits (mk i) (mk j) (mk k) 2 = 1))) s := by
  have hsum : hits (mk i) (mk j) (mk k) 0 + hits (mk i) (mk j) (mk k) 1 + hits (mk i) (mk j) (mk k) 2 = 3 := hits_three m1 m2 m3
  have hlight : ∀ n, Float64.div (Flt.sumOf [chan (mk i) n, chan (mk j) n, chan (mk k) n]) (Float64.ofInt 4) = quart (hits (mk i) (mk j) (mk k) n) := light_of _ _ _
  generalize hits (mk i) (mk j) (mk k) = g at hsum hlight ⊢
  have ho := X 207 (o_207 w.params) rfl
  refine call_cells_ret (name := Str.ofString "_law_is_grey") (qual := Str.ofString "_law_is_grey") (room (Nat.lt_trans hroom (by decide))) T.nolimit ho rfl (codeRec_of X (K := K w.params) (by rfl)) (binds := [(Str.ofString "paints", .ref P), (Str.ofString "face", .ref f)]) (BindsTo.of_eq (by rfl))
    (kindsX (by rfl)) (by decide) ?_
  intro h₁ tk₁ cells htk₁ F N Y
  obtain ⟨o1, o2, rfl, d1, d2⟩ := Y.two
  show wpAny _ _ (execs (_ :: _) _) _ _ _
  replace d1 : o1.data = .cell (some (.ref f)) := d1
  replace d2 : o2.data = .cell (some (.ref P)) := d2
  clear Y
  have c1 : h₁.IsCell (s.heap.objs.size + 1 + 1) (some (.ref f)) := ⟨o1, (N _ (.head _)).1, d1⟩
  have c2 : h₁.IsCell (s.heap.objs.size + 1) (some (.ref P)) := ⟨o2, (N _ (.tail _ (.head _))).1, d2⟩
  have hP1 : h₁.IsList P ps.toArray := hP.at fun o e => F.keep _ o e
  have hf1 : h₁.IsTuple f #[.int i t0, .int j t1, .int k t2] := by obtain ⟨o, e, r⟩ := hf; exact ⟨o, F.keep _ _ e, r⟩
  have hm1 : ∀ n v, ps[n]? = some v → Paint h₁ v (chan (mk n) 0) (chan (mk n) 1) (chan (mk n) 2) := fun n v e => (hm n v e).keeps F.keep
  k_steps
  refine wpAny_with_toks (n := 1) (Nat.le_trans ht htk₁) ?_
  refine assign_comp_rangeC (n := 3) (F := fun c y => ∃ u, y = .float (quart (g c)) u) F (by rfl) hh (by with_unfolding_all rfl) (by rfl) (fun _ => by rfl) (fun _ => by rfl) (by decide) (fun _ _ => by rfl) (by decide) (by decide) (by decide) ?_ ?_ (by with_unfolding_all rfl) (by rfl) (by rfl) ?_
  · k_steps
    next r h' tk' tt uu vv hr F' N' up => exact .of up hr
  · intro C c n t s₃ E' hn hc up
    have F3 := F.grownK up
    have N3 := N.grown up
    have c1' := c1.keeps up
    have c2' := c2.keeps up
    iterate 5 (first | walk1 | (dsimp only; walk1))
    refine comp_tuple (F := fun v y => ∀ (n' : Nat) t', v = .int n' t' → n' < ps.length → ∃ u, y = .float (chan (mk n') n) u) (by exact hh) (by with_unfolding_all rfl) (by decide) (by rfl) (by decide) (by rfl)
      (fun Q' q => nm_cell c1' q) (hf1.at fun o e => up _ _ e) (by show 3 ≤ sizeLine; decide) ?_ ?_
    · intro C2 v s₅ m₅ E5 hC2 hv hn5 hm5 up5
      have hvv : ∃ (n' : Nat) (t' : Tok), v = .int n' t' ∧ n' < ps.length := by
        obtain ⟨q, hq⟩ := hv
        match q, hq with
        | 0, hq => cases hq; exact ⟨i, t0, rfl, hi⟩
        | 1, hq => cases hq; exact ⟨j, t1, rfl, hj⟩
        | 2, hq => cases hq; exact ⟨k, t2, rfl, hk⟩
        | q + 3, hq => simp at hq
      obtain ⟨n', t', rfl, hlt⟩ := hvv
      have hP5 : s₅.heap.IsList P ps.toArray := hP1.at fun o e => up5 _ _ (up _ _ e)
      obtain ⟨d, u0, u1, u2, ex, ht5⟩ := ((hm1 n' _ (List.getElem?_eq_getElem hlt)).keeps up).keeps up5
      refine Subscript_ (Subscript_ (nm_cell (c2'.keeps up5) (nm_own hn5 hm5 (tail_list hP5 (by omega) (by omega) (x := .ref d) (by rw [← ex]; simp [hlt]) ?_))))
      have hx : ∃ u, [Value.float (chan (mk n') 0) u0, Value.float (chan (mk n') 1) u1, Value.float (chan (mk n') 2) u2][(n : Int).toNat]? = some (.float (chan (mk n') n) u) := by
        rcases three_cases7 n hn with rfl | rfl | rfl <;> exact ⟨_, rfl⟩
      obtain ⟨u, hx⟩ := hx
      refine nm_cell (hc.keeps up5) (tail_tup ht5 (by omega) (by omega) hx ?_)
      exact ⟨fun n'' t'' e _ => by injection e with e1 e2; have : n' = n'' := by omega
                                   subst this; exact ⟨u, rfl⟩, _, _, rfl, fun _ _ e => e⟩
    · intro D h5 tk5 ys up5 hD pl hp
      obtain ⟨l, el⟩ : ∃ l, l = ys.toList := ⟨_, rfl⟩
      rw [← el] at hp
      cases hp with | cons p1 r1 => cases r1 with | cons p2 r2 => cases r2 with | cons p3 r3 =>
      cases r3
      obtain ⟨u1, rfl⟩ := p1 i t0 rfl hi
      obtain ⟨u2, rfl⟩ := p2 j t1 rfl hj
      obtain ⟨u3, rfl⟩ := p3 k t2 rfl hk
      have hl5 : h5.IsList D [Value.float (chan (mk i) n) u1, .float (chan (mk j) n) u2, .float (chan (mk k) n) u3].toArray := by
        rw [el, Array.toArray_toList]; exact pl.isList
      walk1
      refine sum_fl (bs := [chan (mk i) n, chan (mk j) n, chan (mk k) n]) (by exact hh) hl5 (.cons _ _ (.cons _ _ (.cons _ _ .nil))) (by simp) fun h7 tk7 t7 up7 => ?_
      walk1
      refine f_divi (by decide +kernel) (by decide +kernel) ?_
      exact Got.of ⟨_, by rw [hlight]⟩ fun b o e => up7 _ _ (up5 _ _ e)
  · intro D h3 tk3 ys F3 k3 hD hDL hD0 pl hp htk3
    replace htk3 : 1 ≤ tk3 := htk3
    obtain ⟨l, el⟩ : ∃ l, l = ys.toList := ⟨_, rfl⟩
    rw [← el] at hp
    cases hp with | cons p1 r1 => cases r1 with | cons p2 r2 => cases r2 with | cons p3 r3 =>
    cases r3
    obtain ⟨u1, rfl⟩ := p1
    obtain ⟨u2, rfl⟩ := p2
    obtain ⟨u3, rfl⟩ := p3
    obtain ⟨nn, hDo⟩ := pl
    rw [show ys = #[.float (quart (g 0)) u1, .float (quart (g 1)) u2, .float (quart (g 2)) u3] by rw [← Array.toArray_toList (xs := ys), ← el]] at hDo
    have N3 : News s.heap s.heap.objs.size h3 [(D, { cls := .type "list", data := .seq #[.float (quart (g 0)) u1, .float (quart (g 1)) u2, .float (quart (g 2)) u3] nn })] := fun p hp => by
      rw [List.mem_singleton.mp hp]; exact ⟨hDo, hDL, hD0⟩
    clear N F c1 c2 hP1 hf1 hm1
    k_steps
    refine call_retT (spec_hls (fun a o e => F3.keep _ _ (X a o e)) (T.keeps F3.keep) (by show A.depth + 1 < 800; omega) (by show A.units + _ < 100; omega) (by exact hh) (Nat.succ_pos _) hsum) fun v h9 tk9 k9 gr => ?_
    generalize hg : decide (g 0 = 1 ∧ g 1 = 1 ∧ g 2 = 1) = res at gr ⊢
    obtain ⟨d, x, y, z, w0, w1, w2, rfl, hd9, ⟨od, hod, ht9⟩, l0, l1, l2, hgr⟩ := gr.ex
    have F9 := F3.grownK k9
    have N9 := N3.grown k9
    replace N9 : News s.heap s.heap.objs.size h9 ((d, od) :: [(D, { cls := .type "list", data := .seq #[.float (quart (g 0)) u1, .float (quart (g 1)) u2, .float (quart (g 2)) u3] nn })]) := fun p hp => by
      rcases List.mem_cons.mp hp with rfl | hp
      · refine ⟨hod, fun q => ?_, ?_⟩
        · obtain ⟨ol, _, _, hol, _⟩ := F3.ns
          rw [← q] at hol; exact absurd (hd9.symm.trans hol) (by simp)
        · cases q : s.heap.get? d with
          | none => rfl
          | some o' => exact absurd (hd9.symm.trans (F3.keep _ _ q)) (by simp)
      · exact N9 p hp
    clear F3 N3
    k_steps
    next D' h' F' N' l' =>
    have nb : NoneBooked h' := booked (fun a o e => F'.keep _ _ (X a o e))
    refine SeqAt.eq_tupleAt (e := fun n => match n with | 0 => (Float64.cmp x 0 == some .eq) | 1 => (Float64.cmp y 4598175219545276416 == some .eq) | _ => (Float64.cmp z 0 == some .eq)) ⟨od, (N' _ (.tail _ (.head _))).1, ht9⟩ ⟨_, (N' _ List.mem_cons_self).1, rfl, _, rfl⟩ (Nat.lt_trans (show A.units + _ < 100 by omega) (by decide)) (fun n n1 n2 => ?_) ?_
    · match n, n1, n2 with
      | 0, _, _ => exact EqAt_float (by omega) (by omega) (by omega) (fun e => by subst e; decide +kernel) nb
      | 1, _, _ => exact EqAt_float (by omega) (by omega) (by omega) (fun e => by subst e; decide +kernel) nb
      | 2, _, _ => exact EqAt_float (by omega) (by omega) (by omega) (fun e => by subst e; decide +kernel) nb
    · refine Ret.of F' ?_
      rw [← hgr]
      unfold greyB
      generalize (Float64.cmp x 0 == some Ordering.eq) = a1
      generalize (Float64.cmp y 4598175219545276416 == some Ordering.eq) = a2
      generalize (Float64.cmp z 0 == some Ordering.eq) = a3
      cases a1 <;> cases a2 <;> cases a3 <;> rfl
end Mine
end
section
open PySem PySem.W PyProof.Rows
set_option Elab.async false
set_option compiler.extract_closed false
set_option maxRecDepth 100000
set_option maxHeartbeats 1000000
set_option linter.unusedVariables false
namespace Mine
theorem sub_disp {prog : Program} {w : World} {A : Around} {E : Value → Shared → Prop} {s : Shared} {value slice : Expr} {D : Addr} {k : Int} {u : Tok} {Q : Value → Shared → Prop} {h₀ : Heap} {L : Addr} {news : List (Addr × Obj)} {its : Array Value} {ns : List Int} {n : Nat} {lo hi : Int}
    (N : News h₀ L s.heap news) (hm : (D, W.listOf its n) ∈ news) (hi' : IntsAre its.toList ns) (h0 : 0 ≤ k) (h1 : k < ns.length) (hsz : ns.length < 1000) (hb : ∀ m ∈ ns, lo ≤ m ∧ m ≤ hi)
    (h : ∀ v t, v = ns.getD k.toNat 0 → lo ≤ v → v ≤ hi → Q (.int v t) s)
    (hs : subscripted slice false (.ref D) (.int k u) = operate [.ref D, .int k u] (getItem (.ref D) (.int k u)) := by with_unfolding_all rfl) :
    wpAny (model prog w) A (subscriptTail value slice (.ref D) (.int k u)) Q E s := by
  have hlt : k.toNat < ns.length := by omega
  have key : ∀ {vs : List Value} {ns : List Int}, IntsAre vs ns → ∀ j, j < ns.length → ∃ t, vs[j]? = some (.int (ns.getD j 0) t) := by
    intro vs ns h
    induction h with
    | nil => intro j hj; cases hj
    | cons a t r ih =>
      intro j hj
      cases j with
      | zero => exact ⟨t, rfl⟩
      | succ j => obtain ⟨t', e⟩ := ih j (by simpa using hj); exact ⟨t', by simpa using e⟩
  obtain ⟨t, ht⟩ := key hi' k.toNat hlt
  have hmem : ns.getD k.toNat 0 ∈ ns := by rw [List.getD_eq_getElem?_getD, List.getElem?_eq_getElem hlt]; exact List.getElem_mem hlt
  exact tail_list (l := its.toList) ⟨_, (N _ hm).1, rfl, _, by rw [Array.toArray_toList]⟩ h0 (by omega) ht (h _ t rfl (hb _ hmem).1 (hb _ hmem).2) hs
theorem warm8 (P : Params) : PySem.Challenge.rw_tr0061_01 = PySem.Challenge.rw_tr0061_01 ∧ K P = K P := by k_fill; exact ⟨rfl, rfl⟩
noncomputable def scSp : Scope := { kind := ScopeKind.function, names := [(Str.ofString "spot", NameKind.local), (Str.ofString "k", NameKind.local), (Str.ofString "form", NameKind.local), (Str.ofString "bases", NameKind.local), (Str.ofString "signs", NameKind.local), (Str.ofString "place", NameKind.local), (Str.ofString "chr", NameKind.globalImplicit), (Str.ofString "range", NameKind.globalImplicit)], isGenerator := false, isCoroutine := false }
noncomputable def turnSp : List Stmt := match (bodyAt 13)[2]? with
  | some (Stmt.For _ _ b _ _) => b
  | _ => []
noncomputable def bitOf (x k : Int) : Bool := decide (Int.fmod (Int.fdiv x (2 ^ k.toNat)) 2 = 1)
noncomputable def baseTab : List Int := [97, 65, 119808, 119860, 120224, 120432]
noncomputable def hidTab : List Int := [173, 847, 6150, 8203, 8288, 65279]
noncomputable def glyph (x k f i : Int) : Nat := if bitOf x k then (baseTab.getD (Int.fmod (f + i + k) 6).toNat 0 + [17, 6, 1].getD i.toNat 0).toNat else 32
noncomputable def one (c : Nat) : Str := ⟨#[c]⟩
noncomputable def mSp (a : Addr) (k f i : Int) (D : Addr) (S : Str) (t3 t4 ti ts : Tok) : Str → Option Value := fun y =>
  if y = Str.ofString "place" then some (.int i ti) else if y = Str.ofString "signs" then some (.str S ts) else if y = Str.ofString "bases" then some (.ref D) else List.lookup y [(Str.ofString "spot", .ref a), (Str.ofString "k", .int k t3), (Str.ofString "form", .int f t4)].reverse
structure TurnSp (s : Shared) (h₀ : Heap) (L : Addr) (news : List (Addr × Obj)) (a : Addr) (k f i : Int) (D : Addr) (S : Str) (t3 t4 ti : Tok) (fl : Flow) (s' : Shared) : Prop where
  ex : fl = .next ∧ ∃ h' tk ts, s' = { s with heap := h', toks := tk } ∧ Fr h₀ L h' (mSp a k f i D S t3 t4 ti ts) ∧ News h₀ L h' news
local macro_rules | `(tactic| walk_at "subscriptTail") => `(tactic| ((with_reducible show wpAny _ _ (subscriptTail (Expr.List _ _) (Expr.Name _ _) (Value.ref _) (Value.int _ _)) _ _ _); (refine sub_disp (lo := 0) (hi := 200000) (by k_asm) (by k_mem) (by repeat (first | exact IntsAre.nil | refine IntsAre.cons _ _ ?_)) (by assumption) (by assumption) (by decide) (by decide) (fun v' t' e' lo' hi' => ?_))))
local macro_rules | `(tactic| walk_at "subscriptTail") => `(tactic| ((with_reducible show wpAny _ _ (subscriptTail _ (Expr.BinOp _ _ _ _) (Value.ref _) (Value.int _ _)) _ _ _); (refine sub_disp (lo := 0) (hi := 200000) (by k_asm) (by k_mem) (by repeat (first | exact IntsAre.nil | refine IntsAre.cons _ _ ?_)) (Int.fmod_nonneg_of_pos _ (by decide)) (Int.fmod_lt_of_pos _ (by decide)) (by decide) (by decide) (fun v' t' e' lo' hi' => ?_))))
local macro_rules | `(tactic| walk_at "subscriptTail") => `(tactic| ((with_reducible show wpAny _ _ (subscriptTail (Expr.Name _ _) (Expr.Name _ _) (Value.ref _) (Value.int _ _)) _ _ _); (refine tail_tup (Heap.IsTuple.at (by assumption) (fun o' e' => Fr.keep (by k_asm) _ _ e')) (by assumption) (by assumption) (by assumption) ?_)))
theorem getD_in {l : List Int} (h : ∀ m ∈ l, 0 ≤ m ∧ m ≤ 200000) (j : Nat) : 0 ≤ l.getD j 0 ∧ l.getD j 0 ≤ 200000 := by
  rw [List.getD_eq_getElem?_getD]
  cases e : l[j]? with
  | none => simp
  | some x => exact h x (List.mem_of_getElem? e)
theorem glyph_in (a b : Nat) : 0 ≤ ([97, 65, 119808, 119860, 120224, 120432] : List Int).getD a 0 + ([17, 6, 1] : List Int).getD b 0 ∧ ([97, 65, 119808, 119860, 120224, 120432] : List Int).getD a 0 + ([17, 6, 1] : List Int).getD b 0 ≤ 1114111 := by
  have h1 := getD_in (l := [97, 65, 119808, 119860, 120224, 120432]) (by decide) a
  have h2 := getD_in (l := [17, 6, 1]) (by decide) b
  omega
local macro_rules | `(tactic| walk_at "call builtin:chr") => `(tactic| refine chr_of_range (glyph_in _ _).1 (glyph_in _ _).2 ?_)
theorem fr_ext {h₀ h : Heap} {L : Addr} {m m' : Str → Option Value} (F : Fr h₀ L h m) (e : ∀ y, m y = m' y) : Fr h₀ L h m' := by
  have : m = m' := funext e
  exact this ▸ F
theorem TurnSp.of {s : Shared} {h₀ h' : Heap} {L a D : Addr} {news : List (Addr × Obj)} {k f i : Int} {S S' S'' : Str} {t3 t4 ti ts t' : Tok} {tk : Nat} (F : Fr h₀ L h' (fun y => if y = Str.ofString "signs" then some (.str S' t') else mSp a k f i D S t3 t4 ti ts y)) (N : News h₀ L h' news) (e : S' = S'') :
    TurnSp s h₀ L news a k f i D S'' t3 t4 ti .next { s with heap := h', toks := tk } := by
  subst e
  refine ⟨rfl, h', tk, t', rfl, fr_ext F fun y => ?_, N⟩
  unfold mSp
  by_cases h1 : y = Str.ofString "signs"
  · subst h1
    rw [if_pos rfl, if_neg (by decide), if_pos rfl]
  · rw [if_neg h1, if_neg h1, if_neg h1]
theorem glyph_on {x k f i : Int} (h : Int.fmod (Int.fdiv x (2 ^ k.toNat)) 2 = 1) : one ((([97, 65, 119808, 119860, 120224, 120432] : List Int).getD (Int.fmod (f + i + k) 6).toNat 0 + ([17, 6, 1] : List Int).getD i.toNat 0).toNat) = one (glyph x k f i) := by
  unfold glyph bitOf
  rw [if_pos (decide_eq_true h)]; rfl
theorem glyph_off {x k f i : Int} (h : Int.fmod (Int.fdiv x (2 ^ k.toNat)) 2 ≠ 1) : Str.ofString " " = one (glyph x k f i) := by
  unfold glyph bitOf
  rw [if_neg (by simpa using h)]; rfl
theorem turn_sp {w : World} {Ad : Nat} {Af : Option (List Env)} {Ag : Option (List Code)} {Au : Nat} {s : Shared} {E : Value → Shared → Prop} {p : Program} {loose : List Str} {mg mb : Str → Option Value} {h₀ : Heap} {L : Addr} {rest : List (Addr × Obj)} {n : Nat} {u0 u1 u2 u3 u4 u5 : Tok}
    {t0 t1 t2 t3 t4 ti ts tx : Tok} {a D : Addr} {x0 x1 x2 x k f i : Int} {S : Str} (X : (K w.params).In h₀) (T : TopRead p loose mg mb h₀) (hroom : Ad < 800) (hu : Au < 100)
    (F : Fr h₀ L s.heap (mSp a k f i D S t3 t4 ti ts)) (N : News h₀ L s.heap ((D, ({ cls := .type "list", data := .seq #[.int 97 u0, .int 65 u1, .int 119808 u2, .int 119860 u3, .int 120224 u4, .int 120432 u5] n } : Obj)) :: rest))
    (ha : h₀.IsTuple a #[.int x0 t0, .int x1 t1, .int x2 t2]) (i0 : 0 ≤ i) (i1 : i < ([17, 6, 1] : List Int).length) (i2 : i < 2 ^ 63) (hx : [Value.int x0 t0, .int x1 t1, .int x2 t2][i.toNat]? = some (.int x tx))
    (k0 : 0 ≤ k) (k1 : k < 22) (f0 : 0 ≤ f) (f1 : f < 125) (l0 : 0 ≤ x) (l1 : x < 2 ^ 20) (hS : S.length < 10) :
    wpAny (model rwp w) ⟨none, Ad, Af, Ag, Au⟩ (execs turnSp (envOf (Str.ofString "_law_spelled") scSp L 190 (.ref 189)))
      (TurnSp s h₀ L ((D, ({ cls := .type "list", data := .seq #[.int 97 u0, .int 65 u1, .int 119808 u2, .int 119860 u3, .int 120224 u4, .int 120432 u5] n } : Obj)) :: rest) a k f i D (S ++ one (glyph x k f i)) t3 t4 ti) E s := by
  unfold mSp at F
  show wpAny _ _ (execs (_ :: _) _) _ _ _
  k_steps
  · have hb : Int.fmod (Int.fdiv x (2 ^ k.toNat)) 2 = 1 := by assumption
    next h' F' N' => exact TurnSp.of F' (fun p hp => N' p (List.mem_cons_of_mem _ hp)) (congrArg (S ++ ·) (glyph_on hb))
  · have hb : Int.fmod (Int.fdiv x (2 ^ k.toNat)) 2 ≠ 1 := by assumption
    next h' F' N' => exact TurnSp.of F' N' (congrArg (S ++ ·) (glyph_off hb))
structure Hold (P : Prop) : Prop where
  of : P
local macro_rules | `(tactic| walk_at "pyIter ref") => `(tactic| ((rename IsRange _ _ _ _ _ _ _ _ => lR'); (rename Fr _ _ _ _ => lF'); (rename News _ _ _ _ => lN'); (with_unfolding_all refine iter_rangeUnr (n := 3) (by rfl) lR' (by first | decide | rfl) (by first | decide | rfl) lF' lN' (fun I' hI' => Hold.of ?_))))
noncomputable def spell (x0 x1 x2 k f : Int) : Str := one (hidTab.getD (Int.fmod (f + k) 6).toNat 0).toNat ++ one (glyph x0 k f 0) ++ one (glyph x1 k f 1) ++ one (glyph x2 k f 2)
theorem hid_in (a : Nat) : 0 ≤ ([173, 847, 6150, 8203, 8288, 65279] : List Int).getD a 0 ∧ ([173, 847, 6150, 8203, 8288, 65279] : List Int).getD a 0 ≤ 1114111 := by
  have h1 := getD_in (l := [173, 847, 6150, 8203, 8288, 65279]) (by decide) a
  omega
local macro_rules | `(tactic| walk_at "call builtin:chr") => `(tactic| refine chr_of_range (hid_in _).1 (hid_in _).2 ?_)
local macro_rules | `(tactic| walk_at "subscriptTail") => `(tactic| ((with_reducible show wpAny _ _ (subscriptTail (Expr.List _ _) (Expr.BinOp _ _ _ _) _ _) _ _ _); refine Hold.of ?_))
theorem app_len (a b : Str) : (a ++ b).length = a.length + b.length := Array.size_append ..
theorem one_len (c : Nat) : (one c).length = 1 := rfl
theorem mem3 {α : Type} {a b c p : α} (h : p ∈ [a, b, c]) : p ∈ [b, c, a] := by simp only [List.mem_cons, List.not_mem_nil, or_false] at h ⊢; rcases h with h | h | h <;> simp [h]
theorem mSp_place {a D : Addr} {k f i j : Int} {S : Str} {t3 t4 ti tj ts : Tok} (y : Str) : (if y = Str.ofString "place" then some (Value.int j tj) else mSp a k f i D S t3 t4 ti ts y) = mSp a k f j D S t3 t4 tj ts y := by
  unfold mSp
  by_cases h : y = Str.ofString "place"
  · rw [if_pos h, if_pos h]
  · rw [if_neg h, if_neg h, if_neg h]
theorem spec_spelled {w : World} {A : Around} {s : Shared} {p : Program} {loose : List Str} {mg mb : Str → Option Value} {t0 t1 t2 t3 t4 : Tok} {a : Addr} {x0 x1 x2 k f : Int} (X : (K w.params).In s.heap) (T : TopRead p loose mg mb s.heap) (hroom : A.depth < 700) (hu : A.units < 50) (hh : A.handled = none)
   (ha : s.heap.IsTuple a #[.int x0 t0, .int x1 t1, .int x2 t2]) (k0 : 0 ≤ k) (k1 : k < 22) (f0 : 0 ≤ f) (f1 : f < 125)  (l1 : 0 ≤ x0 ∧ x0 < 2 ^ 20) (l2 : 0 ≤ x1 ∧ x1 < 2 ^ 20) (l3 : 0 ≤ x2 ∧ x2 < 2 ^ 20) :
   codeAny (model rwp w) A (.call (.ref 190) ⟨[.ref a, .int k t3, .int f t4], []⟩) (Ret s fun v h' => ∃ t, v = .str (spell x0 x1 x2 k f) t) s := by
  obtain ⟨Ah, Ad, Af, Ag, Au⟩ := A
  replace hh : Ah = none := hh
  subst hh
  replace hroom : Ad < 700 := hroom
  replace hu : Au < 50 := hu
  have ho := X 190 (o_190 w.params) rfl
  refine call_plain_ret (name := Str.ofString "_law_spelled") (room (Nat.lt_trans hroom (by decide))) ho rfl T.nolimit (codeRec_of X (K := K w.params) (by rfl)) (binds := [(Str.ofString "spot", .ref a), (Str.ofString "k", .int k t3), (Str.ofString "form", .int f t4)]) (by rfl) (locs (by rfl)) ?_
  intro h₁ F
  have N : News s.heap s.heap.objs.size h₁ [] := News.nil
  show wpAny _ _ (execs (_ :: _) _) _ _ _
  k_steps
  refine ⟨?_⟩
  (refine sub_disp (lo := 0) (hi := 200000) (ns := [173, 847, 6150, 8203, 8288, 65279]) (by k_asm) (by k_mem) (by repeat (first | exact IntsAre.nil | refine IntsAre.cons _ _ ?_)) (Int.fmod_nonneg_of_pos _ (by decide)) (Int.fmod_lt_of_pos _ (by decide)) (by decide) (by decide) (fun v' t' e' lo' hi' => ?_))
  k_steps
  next hr F1 N1 up1 I hI =>
  refine ⟨?_⟩
  refine RangeRest.succ fun ta0 h2 tk2 F2 N2 => ?_
  refine wpAny_mono (turn_sp (i := 0) (S := one v'.toNat) (x := x0) (tx := t0) X T (show Ad + 1 < 800 by omega) (show Au + _ < 100 by omega) F2 (fun p hp => N2 p (mem3 hp)) ha (by decide) (by decide) (by decide) rfl k0 k1 f0 f1 l1.1 l1.2 (by simp only [app_len, one_len]; decide)) (fun fl sx ht => ?_) (fun _ _ e => e)
  obtain ⟨rfl, h3, tk3, ts0, rfl, F3, N3⟩ := ht.ex
  refine UnrEnd.intro F3 N3 [(_, _), (_, _)] (fun p hp => mem3 (mem3 hp)) (fun p hp => Nat.ne_of_lt (hI p hp)) ?_
  refine RangeRest.succ fun ta1 h4 tk4 F4 N4 => ?_
  refine wpAny_mono (turn_sp (i := 1) (S := one v'.toNat ++ one (glyph x0 k f 0)) (x := x1) (tx := t1) X T (show Ad + 1 < 800 by omega) (show Au + _ < 100 by omega) (fr_ext F4 mSp_place) (fun p hp => N4 p (mem3 hp)) ha (by decide) (by decide) (by decide) rfl k0 k1 f0 f1 l2.1 l2.2 (by simp only [app_len, one_len]; decide)) (fun fl sx ht => ?_) (fun _ _ e => e)
  obtain ⟨rfl, h5, tk5, ts1, rfl, F5, N5⟩ := ht.ex
  refine UnrEnd.intro F5 N5 [(_, _), (_, _)] (fun p hp => mem3 (mem3 hp)) (fun p hp => Nat.ne_of_lt (hI p hp)) ?_
  refine RangeRest.succ fun ta2 h6 tk6 F6 N6 => ?_
  refine wpAny_mono (turn_sp (i := 2) (S := one v'.toNat ++ one (glyph x0 k f 0) ++ one (glyph x1 k f 1)) (x := x2) (tx := t2) X T (show Ad + 1 < 800 by omega) (show Au + _ < 100 by omega) (fr_ext F6 mSp_place) (fun p hp => N6 p (mem3 hp)) ha (by decide) (by decide) (by decide) rfl k0 k1 f0 f1 l3.1 l3.2 (by simp only [app_len, one_len]; decide)) (fun fl sx ht => ?_) (fun _ _ e => e)
  obtain ⟨rfl, h7, tk7, ts2, rfl, F7, N7⟩ := ht.ex
  refine UnrEnd.intro F7 N7 [(_, _), (_, _)] (fun p hp => mem3 (mem3 hp)) (fun p hp => Nat.ne_of_lt (hI p hp)) ?_
  refine RangeRest.zero fun h9 tk9 F9 N9 => ?_
  k_steps
  show Ret s _ (.ok (.ret _)) _
  exact Ret.of F9 ⟨_, by rw [e']; rfl⟩
end Mine
end
section
open PySem PySem.W PyProof.Rows
set_option Elab.async false
set_option maxRecDepth 100000
set_option maxHeartbeats 1000000
set_option linter.unusedVariables false
namespace Mine
noncomputable def offTab : List Int := [17, 6, 1]
noncomputable def rgbTab : List Nat := [114, 103, 98]
noncomputable def GoodTab (D : List (PyData × PyData)) : Prop := PySem.Spec.lookup (.int (32 : Nat)) D = none ∧ ∀ m, m < 6 → ∀ i, i < 3 → PySem.Spec.lookup (.int ((baseTab.getD m 0 + offTab.getD i 0).toNat : Nat)) D = if m < 2 then none else some (.str (one (rgbTab.getD i 0)))
theorem low_ok : ∀ i, i < 3 → ∀ m, m < 2 → Txt.lower (one (baseTab.getD m 0 + offTab.getD i 0).toNat) = one (rgbTab.getD i 0) := by decide +kernel
theorem low_blank : Txt.lower (one 32) = one 32 := by decide +kernel
theorem b1_hid : ∀ m, m < 6 → b1S (hidTab.getD m 0).toNat = true := by decide +kernel
theorem b1_gl : ∀ m, m < 6 → ∀ i, i < 3 → b1S (baseTab.getD m 0 + offTab.getD i 0).toNat = false := by decide +kernel
theorem b1_blank : b1S (32 : Nat) = false := by decide +kernel
theorem gl_small : ∀ m, m < 6 → ∀ i, i < 3 → (baseTab.getD m 0 + offTab.getD i 0).toNat < 1114112 := by decide +kernel
theorem hid_small : ∀ m, m < 6 → (hidTab.getD m 0).toNat < 1114112 := by decide +kernel
/-- the letter that a sign stands for -/
noncomputable def lett (x k : Int) (i : Nat) : Nat := if bitOf x k then rgbTab.getD i 0 else 32
theorem mod6 (z : Int) : (Int.fmod z 6).toNat < 6 := by
  have h0 := Int.fmod_nonneg_of_pos z (by decide : (0 : Int) < 6)
  have h1 := Int.fmod_lt_of_pos z (by decide : (0 : Int) < 6)
  omega
/-- a sign that is a letter or a blank, and what it is mapped to -/
structure Sign (D : List (PyData × PyData)) (c l : Nat) : Prop where
  small : c < 1114112
  out : b1S c = false
  map : (PySem.Spec.lookup (.int c) D = none ∧ Txt.lower (one c) = one l) ∨ PySem.Spec.lookup (.int c) D = some (.str (one l))
theorem sign_glyph {D : List (PyData × PyData)} (G : GoodTab D) (x k f : Int) (i : Nat) (hi : i < 3) : Sign D (glyph x k f i) (lett x k i) := by
  unfold glyph lett
  cases bitOf x k with
  | false =>
    simp only [Bool.false_eq_true, if_false]
    exact ⟨by decide, b1_blank, .inl ⟨G.1, low_blank⟩⟩
  | true =>
    simp only [if_true]
    have hm := mod6 (f + (i : Int) + k)
    have e : ([17, 6, 1] : List Int).getD (i : Int).toNat 0 = offTab.getD i 0 := by rw [Int.toNat_natCast]; rfl
    rw [e]
    refine ⟨gl_small _ hm _ hi, b1_gl _ hm _ hi, ?_⟩
    have g := G.2 _ hm _ hi
    by_cases h2 : (Int.fmod (f + (i : Int) + k) 6).toNat < 2
    · rw [if_pos h2] at g
      exact .inl ⟨g, low_ok _ hi _ h2⟩
    · rw [if_neg h2] at g
      exact .inr g
theorem spec_b3 {w : World} {A : Around} {s : Shared} {p : Program} {loose : List Str} {mg mb : Str → Option Value} {t0 : Tok} {c l : Nat} (X : (K w.params).In s.heap) (T : TopRead p loose mg mb s.heap) (hroom : A.depth < 800) (hu : A.units < 100) (hh : A.handled = none)
   (D : List (PyData × PyData)) (hT : IntTab rwp w s.heap 138 D) (g : Sign D c l) :
   codeAny (model rwp w) A (.call (.ref 183) ⟨[.str (one c) t0], []⟩) (Ret s fun v _ => ∃ t, v = .str (one l) t) s := by
  rcases g.map with ⟨h1, h2⟩ | h1
  · rw [← h2]; exact spec_b3b X T hroom hu hh D hT h1
  · exact spec_b3a X T hroom hu hh D hT h1
noncomputable def col (x0 x1 x2 k : Int) : Str := ⟨#[lett x0 k 0, lett x1 k 1, lett x2 k 2]⟩
theorem spell_cps (x0 x1 x2 k f : Int) : (spell x0 x1 x2 k f).cps = #[(hidTab.getD (Int.fmod (f + k) 6).toNat 0).toNat, glyph x0 k f 0, glyph x1 k f 1, glyph x2 k f 2] := rfl
end Mine
end
section
open PySem PySem.W PyProof.Rows
set_option Elab.async false
set_option maxRecDepth 100000
set_option maxHeartbeats 1000000
set_option linter.unusedVariables false
namespace Mine
noncomputable def keepSign : Value → Bool
  | .str x _ => !(b1S (x.cps.getD 0 0))
  | _ => true
theorem Sign.uniq {D : List (PyData × PyData)} {c l l' : Nat} (a : Sign D c l) (b : Sign D c l') : l = l' := by
  have inj : ∀ {x y : Nat}, one x = one y → x = y := fun {x y} e => by
    have := congrArg (fun z : Str => z.cps.getD 0 0) e
    simpa [one] using this
  rcases a.map with ⟨h1, h2⟩ | h1 <;> rcases b.map with ⟨g1, g2⟩ | g1
  · exact inj (h2.symm.trans g2)
  · rw [h1] at g1; cases g1
  · rw [h1] at g1; cases g1
  · rw [h1] at g1
    injection g1 with g1
    injection g1 with g1
    exact inj g1
theorem four_of {α : Type} {l : List α} (h : l.length = 4) : ∃ a b c d, l = [a, b, c, d] := by
  match l, h with
  | [a, b, c, d], _ => exact ⟨a, b, c, d, rfl⟩
theorem comp_signs {w : World} {A : Around} {E : Value → Shared → Prop} {s : Shared} {p : Program} {loose : List Str} {mg mb : Str → Option Value} {env : Env} {iter : Expr} {q1 q2 q3 q4 q5 q6 q7 q8 q9 : Pos} {scope : Scope} {Q : Value → Shared → Prop} {D : List (PyData × PyData)} {x0 x1 x2 k f : Int} {ts : Tok}
    (hh : A.handled = none) (hroom : A.depth < 700) (hu : A.units < 60) (X : (K w.params).In s.heap) (T : TopRead p loose mg mb s.heap) (hS : s.heap.SetOf (PySem.intKind rwp w) 127 b1S 27) (hT : IntTab rwp w s.heap 138 D) (G : GoodTab D)
    (hg : env.globals = mainGlobals) (hb : env.builtins = builtinsNs) (hkind : scope.kind = .function) (hclos : closureFor scope env = pure []) (hcell : ∀ y ∈ scope.names, y.2 ≠ .cell)
    (hnames : ∀ y ∈ scope.names, y.2 = .local → scope.names.lookup y.1 = some .local) (hx : scope.names.lookup (Str.ofString "sign") = some .local)
    (k1 : ∀ C, (compEnvC scope [] C env).kindOf (Str.ofString "in_table_b1") = some .globalImplicit) (k2 : ∀ C, (compEnvC scope [] C env).kindOf (Str.ofString "map_table_b3") = some .globalImplicit)
    (k3 : ∀ C, (compEnvC scope [] C env).kindOf (Str.ofString "sign") = some .local) (k4 : ∀ C, (compEnvC scope [] C env).scope.kind = .function)
    (hi : ∀ Q' : Value → Shared → Prop, Q' (.str (spell x0 x1 x2 k f) ts) s → wpAny (model rwp w) A (eval iter env) Q' E s)
    (hQ : ∀ L h' tk u0 u1 u2, Up s.heap h' → s.heap.get? L = none → h'.IsList L #[.str (one (lett x0 k 0)) u0, .str (one (lett x1 k 1)) u1, .str (one (lett x2 k 2)) u2] → Q (.ref L) { s with heap := h', toks := tk })
    (hs : ∀ x, foldedSetIterable iter env x = pure x := by intro _; rfl) :
    wpAny (model rwp w) A (eval (.ListComp (.Call (.Name (Str.ofString "map_table_b3") q1) [.Name (Str.ofString "sign") q2] [] q3) [⟨.Name (Str.ofString "sign") q4, iter, [.UnaryOp .Not (.Call (.Name (Str.ofString "in_table_b1") q5) [.Name (Str.ofString "sign") q6] [] q7) q8], 0⟩] scope q9) env) Q E s := by
  refine wpAny_ListComp_free keepSign (fun v y => ∀ c t, v = .str (one c) t → ∀ l, Sign D c l → ∃ u, y = .str (one l) u) hclos hcell hkind hnames hx (hi _ ?_) hs
  refine wpAny_pyIter_str fun o St W hst => ?_
  have key : ∀ (j : Nat) v, SignAt (spell x0 x1 x2 k f) j v → ∃ c u, v = .str (one c) u ∧ c < 1114112 ∧ (keepSign v = !(b1S c)) ∧ (b1S c = false → ∃ l, Sign D c l) := by
    rintro j v ⟨c, u, e, rfl⟩
    rw [spell_cps] at e
    refine ⟨c, u, rfl, ?_, rfl, ?_⟩
    · match j, e with
      | 0, e => cases e; exact hid_small _ (mod6 _)
      | 1, e => cases e; exact (sign_glyph G x0 k f 0 (by decide)).small
      | 2, e => cases e; exact (sign_glyph G x1 k f 1 (by decide)).small
      | 3, e => cases e; exact (sign_glyph G x2 k f 2 (by decide)).small
      | j + 4, e => simp at e
    · match j, e with
      | 0, e => cases e; intro q; exact absurd ((b1_hid _ (mod6 (f + k))).symm.trans q) (by decide)
      | 1, e => cases e; exact fun _ => ⟨_, sign_glyph G x0 k f 0 (by decide)⟩
      | 2, e => cases e; exact fun _ => ⟨_, sign_glyph G x1 k f 1 (by decide)⟩
      | 3, e => cases e; exact fun _ => ⟨_, sign_glyph G x2 k f 2 (by decide)⟩
      | j + 4, e => simp at e
  refine ⟨_, _, _, _, _, _, rfl, W A hh, (by rw [spell_cps]; show (4 : Nat) ≤ sizeLine; decide), hst, ?_, ⟨?_, ?_⟩, ?_⟩
  · intro b hb'
    rw [List.mem_singleton.mp hb']
    show s.heap.objs.size < (s.heap.push _).objs.size
    rw [Heap.size_push]; exact Nat.lt_succ_self _
  · intro C i v s₃ m₃ E' hC hP hn hm hk htk
    obtain ⟨c, u, rfl, hc, hks, _⟩ := key i v hP
    have up : Up s.heap s₃.heap := up_but (h₂ := s.heap) hk
    have X₃ : (K w.params).In s₃.heap := fun a o e => up _ _ (X a o e)
    have T₃ := T.keeps up
    refine wpAny_tests_one (isTrue_not (isTrue_plain (Call_ (nm_global (v := .ref 137) (fun _ _ e => e) X₃ T₃ (by kernel_rfl) ?_ hg (k4 C) (k1 C))) (by rfl)))
    refine callWith_meth (h₀ := s₃.heap) (o := o_137 w.params) rfl (X₃ 137 _ rfl) ?_ (by rfl)
    refine spliced_more (nm_own hn hm (spliced_none ⟨fun _ _ e => e, ?_⟩) rfl (k4 C) (k3 C)) (by rfl)
    refine call_ret (spec_b1 X₃ T₃ (Nat.lt_trans hroom (by decide)) (Nat.lt_trans hu (by decide)) hh (setOf_keep hS up) hc) fun v' h' tk' up' e => ?_
    subst e
    refine wpAny_truthy_bool ⟨hks.symm, h', tk', rfl, up'⟩
  · intro C i v s₃ m₃ E' hC hP hkp hn hm hk htk
    obtain ⟨c, u, rfl, hc, hks, hsg⟩ := key i v hP
    rw [hks] at hkp
    obtain ⟨l, sg⟩ := hsg (by simpa using hkp)
    have up : Up s.heap s₃.heap := up_but (h₂ := s.heap) hk
    have X₃ : (K w.params).In s₃.heap := fun a o e => up _ _ (X a o e)
    have T₃ := T.keeps up
    have hT₃ : IntTab rwp w s₃.heap 138 D := by
      obtain ⟨c1, kvs, ⟨o, es, ep, c2, c3⟩, c4⟩ := hT
      exact ⟨c1, kvs, ⟨o, es, ep, up _ _ c2, c3⟩, c4⟩
    refine Call_ (nm_global (v := .ref 183) (fun _ _ e => e) X₃ T₃ (by kernel_rfl) ?_ hg (k4 C) (k2 C))
    refine callWith_meth (h₀ := s₃.heap) (o := o_183 w.params) rfl (X₃ 183 _ rfl) ?_ (by rfl)
    refine spliced_more (nm_own hn hm (spliced_none ⟨fun _ _ e => e, ?_⟩) rfl (k4 C) (k3 C)) (by rfl)
    refine call_ret (spec_b3 X₃ T₃ (Nat.lt_trans hroom (by decide)) (Nat.lt_trans hu (by decide)) hh D hT₃ sg) fun v' h' tk' up' e => ?_
    refine ⟨fun c' t' e' l' sg' => ?_, h', tk', rfl, up'⟩
    obtain ⟨t2, rfl⟩ := e
    injection e' with e1 _
    have e3 : c = c' := by injection e1 with e2; simpa using congrArg (fun a => a.getD 0 0) e2
    subst e3
    exact ⟨t2, by rw [sg.uniq sg']⟩
  · intro L h' tk ys vs hL hl hpl hlen hP hF hk
    have up : Up s.heap h' := up_but (h₂ := s.heap) hk
    have hlen4 : vs.length = 4 := hlen
    have h4 := four_of hlen4
    obtain ⟨v0, v1, v2, v3, rfl⟩ := h4
    obtain ⟨c0, u0, e0, rfl⟩ := hP 0 _ rfl
    obtain ⟨c1, u1, e1, rfl⟩ := hP 1 _ rfl
    obtain ⟨c2, u2, e2, rfl⟩ := hP 2 _ rfl
    obtain ⟨c3, u3, e3, rfl⟩ := hP 3 _ rfl
    rw [spell_cps] at e0 e1 e2 e3
    cases e0; cases e1; cases e2; cases e3
    have s1 : Sign D (glyph x0 k f 0) (lett x0 k 0) := sign_glyph G x0 k f 0 (by decide)
    have s2 : Sign D (glyph x1 k f 1) (lett x1 k 1) := sign_glyph G x1 k f 1 (by decide)
    have s3 : Sign D (glyph x2 k f 2) (lett x2 k 2) := sign_glyph G x2 k f 2 (by decide)
    have f0 : keepSign (.str ⟨#[(hidTab.getD (Int.fmod (f + k) 6).toNat 0).toNat]⟩ u0) = false := by
      show (!(b1S ((hidTab.getD (Int.fmod (f + k) 6).toNat 0).toNat : Nat))) = false
      rw [b1_hid _ (mod6 (f + k))]; rfl
    have f1 : keepSign (.str ⟨#[glyph x0 k f 0]⟩ u1) = true := by show (!(b1S (glyph x0 k f 0 : Nat))) = true; rw [s1.out]; rfl
    have f2 : keepSign (.str ⟨#[glyph x1 k f 1]⟩ u2) = true := by show (!(b1S (glyph x1 k f 1 : Nat))) = true; rw [s2.out]; rfl
    have f3 : keepSign (.str ⟨#[glyph x2 k f 2]⟩ u3) = true := by show (!(b1S (glyph x2 k f 2 : Nat))) = true; rw [s3.out]; rfl
    replace hF : Paired _ (List.filter keepSign [.str ⟨#[(hidTab.getD (Int.fmod (f + k) 6).toNat 0).toNat]⟩ u0, .str ⟨#[glyph x0 k f 0]⟩ u1, .str ⟨#[glyph x1 k f 1]⟩ u2, .str ⟨#[glyph x2 k f 2]⟩ u3]) ys.toList := hF
    rw [show List.filter keepSign [.str ⟨#[(hidTab.getD (Int.fmod (f + k) 6).toNat 0).toNat]⟩ u0, .str ⟨#[glyph x0 k f 0]⟩ u1, .str ⟨#[glyph x1 k f 1]⟩ u2, .str ⟨#[glyph x2 k f 2]⟩ u3] = [.str ⟨#[glyph x0 k f 0]⟩ u1, .str ⟨#[glyph x1 k f 1]⟩ u2, .str ⟨#[glyph x2 k f 2]⟩ u3] by
      rw [List.filter_cons_of_neg (by rw [f0]; decide), List.filter_cons_of_pos f1, List.filter_cons_of_pos f2, List.filter_cons_of_pos f3, List.filter_nil]] at hF
    obtain ⟨l, el⟩ : ∃ l, l = ys.toList := ⟨_, rfl⟩
    rw [← el] at hF
    cases hF with | cons p1 r1 => cases r1 with | cons p2 r2 => cases r2 with | cons p3 r3 =>
    cases r3
    obtain ⟨w1, rfl⟩ := p1 _ _ rfl _ s1
    obtain ⟨w2, rfl⟩ := p2 _ _ rfl _ s2
    obtain ⟨w3, rfl⟩ := p3 _ _ rfl _ s3
    refine hQ L h' tk w1 w2 w3 up (none_of_push hL) ?_
    have : ys = #[.str (one (lett x0 k 0)) w1, .str (one (lett x1 k 1)) w2, .str (one (lett x2 k 2)) w3] := by rw [← Array.toArray_toList (xs := ys), ← el]
    rw [← this]; exact hl
end Mine
end
section
open PySem PySem.W PyProof.Rows
set_option Elab.async false
set_option maxRecDepth 100000
set_option maxHeartbeats 1000000
set_option linter.unusedVariables false
namespace Mine
/-- the columns of a row, the first n -/
noncomputable def cols (x0 x1 x2 : Int) (n : Nat) : List Str := (List.range n).map fun (k : Nat) => col x0 x1 x2 (k : Int)
noncomputable def blank (x0 x1 x2 k : Int) : Bool := !bitOf x0 k && !bitOf x1 k && !bitOf x2 k
theorem cols_len (x0 x1 x2 : Int) (n : Nat) : (cols x0 x1 x2 n).length = n := by unfold cols; rw [List.length_map, List.length_range]
theorem cols_succ (x0 x1 x2 : Int) (n : Nat) : cols x0 x1 x2 (n + 1) = cols x0 x1 x2 n ++ [col x0 x1 x2 (n : Int)] := by
  unfold cols; rw [List.range_succ, List.map_append]; rfl
theorem cols_small (x0 x1 x2 : Int) (n : Nat) : ∀ t ∈ cols x0 x1 x2 n, t.length ≤ 10 := by
  intro t ht
  unfold cols at ht
  obtain ⟨k, _, rfl⟩ := List.mem_map.mp ht
  show (3 : Nat) ≤ 10
  decide
theorem join_cps : ∀ ps : List Str, (Txt.join (Str.ofString "") ps).cps.toList = (ps.map fun t => t.cps.toList).flatten := by
  intro ps
  show (Builtin.Str.glued (Str.ofString "") ps).cps.toList = _
  rw [StrLaws.glued_eq_join]
  have app : ∀ a b : Str, (a ++ b).cps.toList = a.cps.toList ++ b.cps.toList := fun a b => Array.toList_append
  induction ps with
  | nil => rfl
  | cons x r ih =>
    cases r with
    | nil => show x.cps.toList = _; simp
    | cons y r =>
      show (x ++ Str.ofString "" ++ Str.join (Str.ofString "") (y :: r)).cps.toList = _
      rw [app, app, ih]
      show x.cps.toList ++ [] ++ _ = _
      rw [List.append_nil]; rfl
theorem isspace_join (ps : List Str) : Txt.isspace (Txt.join (Str.ofString "") ps) = (decide (((ps.map fun t => t.cps.toList).flatten).length > 0) && ((ps.map fun t => t.cps.toList).flatten).all Unicode.isSpace) := by
  rw [← join_cps]
  unfold Txt.isspace
  rw [Array.length_toList, Array.all_toList]
  rfl
theorem sp32 : Unicode.isSpace 32 = true := by decide +kernel
theorem sp_lett : ∀ i, i < 3 → Unicode.isSpace (rgbTab.getD i 0) = false := by decide +kernel
theorem lett_space (x k : Int) {i : Nat} (hi : i < 3) : Unicode.isSpace (lett x k i) = !bitOf x k := by
  unfold lett
  cases bitOf x k
  · exact sp32
  · exact sp_lett i hi
theorem col_space (x0 x1 x2 k : Int) : (col x0 x1 x2 k).cps.toList.all Unicode.isSpace = blank x0 x1 x2 k := by
  show List.all [lett x0 k 0, lett x1 k 1, lett x2 k 2] Unicode.isSpace = _
  simp only [List.all_cons, List.all_nil, lett_space _ _ (by decide : 0 < 3), lett_space _ _ (by decide : 1 < 3), lett_space _ _ (by decide : 2 < 3), blank, Bool.and_true, Bool.and_assoc]
theorem blank_col {x0 x1 x2 k : Int} (h : blank x0 x1 x2 k = true) : (col x0 x1 x2 k).cps.toList = [32, 32, 32] := by
  unfold blank at h
  simp only [Bool.and_eq_true, Bool.not_eq_true'] at h
  obtain ⟨⟨h0, h1⟩, h2⟩ := h
  show [lett x0 k 0, lett x1 k 1, lett x2 k 2] = _
  unfold lett
  rw [h0, h1, h2]; rfl
theorem lens_cols (x0 x1 x2 : Int) (n : Nat) : lens (cols x0 x1 x2 n) n = 3 * n := by
  have key : ∀ j, j ≤ n → lens (cols x0 x1 x2 n) j = 3 * j := by
    intro j hj
    induction j with
    | zero => rfl
    | succ j ih =>
      have e := ih (by omega)
      show lens (cols x0 x1 x2 n) j + (((cols x0 x1 x2 n).getD j (Str.ofString "")).length : Int) = _
      rw [e]
      have : (cols x0 x1 x2 n).getD j (Str.ofString "") = col x0 x1 x2 (j : Int) := by
        unfold cols
        rw [List.getD_eq_getElem?_getD, List.getElem?_map, List.getElem?_range hj]; rfl
      rw [this]
      show 3 * (j : Int) + (3 : Int) = _
      omega
  exact key n (Nat.le_refl _)
theorem flat_len (x0 x1 x2 : Int) (n : Nat) : (((cols x0 x1 x2 n).map fun t => t.cps.toList).flatten).length = 3 * n := by
  induction n with
  | zero => rfl
  | succ n ih =>
    rw [cols_succ, List.map_append, List.flatten_append, List.length_append, ih]
    show 3 * n + 3 = 3 * (n + 1)
    omega
theorem only_cols {x0 x1 x2 : Int} {K n : Nat} (hb : ∀ k : Nat, k < K → blank x0 x1 x2 k = true) (hK : blank x0 x1 x2 K = false) (hn : n ≤ K + 1) : onlyws (cols x0 x1 x2 n) = decide (n ≤ K) := by
  unfold onlyws
  rw [cols_len, lens_cols, isspace_join, flat_len]
  have all_ : ∀ m, m ≤ K → (((cols x0 x1 x2 m).map fun t => t.cps.toList).flatten).all Unicode.isSpace = true := by
    intro m hm
    induction m with
    | zero => rfl
    | succ m ih =>
      rw [cols_succ, List.map_append, List.flatten_append, List.all_append, ih (by omega)]
      show (true && ((col x0 x1 x2 m).cps.toList ++ []).all Unicode.isSpace) = true
      rw [List.append_nil, col_space, hb m (by omega)]; rfl
  by_cases h0 : n = 0
  · subst h0
    rw [decide_eq_true (Nat.zero_le _)]; rfl
  · have e1 : ((3 * (n : Int)) != 0) = true := by rw [bne_iff_ne]; omega
    have e2 : decide (3 * n > 0) = true := decide_eq_true (by omega)
    rw [e1, e2]
    by_cases hk : n ≤ K
    · rw [all_ n hk, decide_eq_true hk]; rfl
    · have : n = K + 1 := by omega
      subst this
      rw [cols_succ, List.map_append, List.flatten_append, List.all_append, all_ K (Nat.le_refl _)]
      show (!true || (true && (true && ((col x0 x1 x2 K).cps.toList ++ []).all Unicode.isSpace))) = _
      rw [List.append_nil, col_space, hK, decide_eq_false hk]; rfl
end Mine
end
section
open PySem PySem.W PyProof.Rows
set_option Elab.async false
set_option maxRecDepth 100000
set_option maxHeartbeats 1000000
set_option linter.unusedVariables false
namespace Mine
section
variable {w : World} {A : Around} {E : Value → Shared → Prop}
theorem callWith_101 {s : Shared} {env : Env} {pos : Pos} {Q : Value → Shared → Prop} (X : (K w.params).In s.heap) (hc : wpAny (model rwp w) A (call (.ref 101) []) Q E s) :
    wpAny (model rwp w) A (callWith pos (.ref 101) [] (backTo pos (starEach [] env)) []) Q E s := by
  obtain ⟨h, g, d, t, os⟩ := s
  have i1 : Looks (model rwp w) h (keeperOf (.ref 101)) .machine := Looks.of_peek X (by kernel_rfl)
  show wpAny _ _ (callWith pos (.ref 101) [] [] []) _ _ _
  unfold callWith
  refine wpAny_bind (wpAny_holding (PyProof.Rows.evalArgs_none ?_))
  refine wpAny_bind (wpAny_standAt ?_)
  refine wpAny_bind (i1 _ _ _ _ (fun _ _ e => e) ?_)
  show wpAny _ _ (call (.ref 101) [] [] >>= fun r => do holding [r] point; pure r) _ _ _
  exact wpAny_bind (wpAny_mono hc (fun r s' hr => wpAny_bind (wpAny_holding (wpAny_point (wpAny_pure hr)))) fun _ _ x => x)
end
theorem setOf_kp {w : World} {h h' : Heap} (hS : h.SetOf (PySem.intKind rwp w) 127 b1S 27) (k : Kp h h') : h'.SetOf (PySem.intKind rwp w) 127 b1S 27 := by
  obtain ⟨o, es, n, T, a, hl⟩ := hS
  exact ⟨o, es, n, T, k _ _ (by decide) (by decide) a, hl⟩
theorem tab_kp {w : World} {h h' : Heap} {D : List (PyData × PyData)} (hT : IntTab rwp w h 138 D) (k : Kp h h') : IntTab rwp w h' 138 D := by
  obtain ⟨c1, kvs, ⟨o, es, ep, c2, c3⟩, c4⟩ := hT
  exact ⟨c1, kvs, ⟨o, es, ep, k _ _ (by decide) (by decide) c2, c3⟩, c4⟩
theorem tup_ne {h : Heap} {a c P : Addr} {vs : Array Value} (ha : h.IsTuple a vs) (t : Tab h c P) : a ≠ P := by
  obtain ⟨o, ho, hc, _⟩ := ha
  exact not_tab t ho (by rw [hc]; simp)
theorem tup_kp {h h' : Heap} {a : Addr} {vs : Array Value} (ha : h.IsTuple a vs) (t1 : Tab h 67 63) (t2 : Tab h 74 70) (k : Kp h h') : h'.IsTuple a vs := by
  have n1 := tup_ne ha t1
  have n2 := tup_ne ha t2
  obtain ⟨o, ho, r⟩ := ha
  exact ⟨o, k _ _ n1 n2 ho, r⟩
theorem ns_ne {h : Heap} {L c P : Addr} {m : Str → Option Value} (hn : h.Ns L m) (t : Tab h c P) : L ≠ P := fun q => by
  obtain ⟨ps, _, e⟩ := t.obj
  subst q
  obtain ⟨o, es, n, a, b, _⟩ := hn
  rw [e] at a; cases a; cases b
theorem ns_kp {h h' : Heap} {L : Addr} {m : Str → Option Value} (hn : h.Ns L m) (t1 : Tab h 67 63) (t2 : Tab h 74 70) (k : Kp h h') : h'.Ns L m :=
  hn.at fun o e => k _ o (ns_ne hn t1) (ns_ne hn t2) e
section
variable {w : World} {A : Around} {E : Value → Shared → Prop}
theorem meth0 {s : Shared} {env : Env} {y : Str} {nm : Str} {f : Addr} {fo : Obj} {fd : FuncData} {x dx : Addr} {its : Array Value} {q1 q2 q3 : Pos} {pl : Sem Bool} {Q : Value → Shared → Prop} (X : (K w.params).In s.heap) (r : Row s.heap x dx its)
    (he : ∀ Q' : Value → Shared → Prop, Q' (.ref x) s → wpAny (model rwp w) A (eval (.Name y q3) env) Q' E s)
    (i1 : Looks (model rwp w) s.heap (typeLookup (.ref 101) nm) (some (.ref f))) (t2 : Looks (model rwp w) s.heap (typeOf (.ref f)) (.type "function"))
    (hn : ∀ hh tk v, nsNameIn nm.cps.size nm.cps.toList [{ hash := hh, key := Value.str (Str.ofString "_initial_size") tk, val := v }] false = (none, false))
    (hd : fo.data = .func fd) (ho : (K w.params).lookup f = some fo)
    (h : wpAny (model rwp w) A (call (.ref f) [.ref x]) Q E s)
    (heq : eval (.Call (.Attribute (.Name y q3) nm q1) [] [] q2) env = (do
      let ov ← eval (.Name y q3) env
      standAt q1.atName
      let (f, first) ← holding [ov] (getMethod ov nm pl)
      callWith q2 f first (backTo q2 (starEach [] env)) []) := by rfl) : wpAny (model rwp w) A (eval (.Call (.Attribute (.Name y q3) nm q1) [] [] q2) env) Q E s := by
  obtain ⟨hp, g, d, t, os⟩ := s
  exact MethodCall_ (he _ (meth_acc X r i1 t2 (.inl rfl) hn (callWith_meth0 hd (X f _ ho) h))) heq
end
theorem nn_onlyws (hh : Int) (tk : Tok) (v : Value) : nsNameIn (Str.ofString "is_onlyws").cps.size (Str.ofString "is_onlyws").cps.toList [{ hash := hh, key := Value.str (Str.ofString "_initial_size") tk, val := v }] false = (none, false) := by kernel_rfl
theorem nn_pc (hh : Int) (tk : Tok) (v : Value) : nsNameIn (Str.ofString "part_count").cps.size (Str.ofString "part_count").cps.toList [{ hash := hh, key := Value.str (Str.ofString "_initial_size") tk, val := v }] false = (none, false) := by kernel_rfl
theorem nn_push (hh : Int) (tk : Tok) (v : Value) : nsNameIn (Str.ofString "push").cps.size (Str.ofString "push").cps.toList [{ hash := hh, key := Value.str (Str.ofString "_initial_size") tk, val := v }] false = (none, false) := by kernel_rfl
end Mine
end
section
open PySem PySem.W PyProof.Rows
set_option Elab.async false
set_option maxRecDepth 100000
set_option maxHeartbeats 1000000
set_option linter.unusedVariables false
namespace Mine
/-- the state before each turn of the row's loop -/
structure RowI (s : Shared) (L a x dx : Addr) (f : Int) (t4 : Tok) (x0 x1 x2 : Int) (j : Nat) (s' : Shared) : Prop where
  ex : ∃ h' tk gs its m, s' = { s with heap := h', toks := tk, gens := gs } ∧ Kp s.heap h' ∧ h'.Ns L m ∧ m (Str.ofString "row") = some (.ref x) ∧ m (Str.ofString "spot") = some (.ref a) ∧ m (Str.ofString "form") = some (.int f t4) ∧ (AllBare s.gens → AllBare gs) ∧ Acc h' x dx its (cols x0 x1 x2 j)
theorem nof {h h' : Heap} {b : Addr} (hk : Up h h') (hn : h'.get? b = none) : h.get? b = none := by
  cases hq : h.get? b with
  | none => rfl
  | some o => rw [hk b o hq] at hn; cases hn
theorem tup_ns {h : Heap} {L T : Addr} {m : Str → Option Value} {vs : Array Value} (hn : h.Ns L m) (ht : h.IsTuple T vs) : T ≠ L := fun q => by
  subst q
  obtain ⟨o, e, _, n, d⟩ := ht
  obtain ⟨o', es, n', a, b, _⟩ := hn
  rw [e] at a; cases a; rw [d] at b; cases b
theorem tabc_ns {h : Heap} {L c P : Addr} {m : Str → Option Value} (hn : h.Ns L m) (t : Tab h c P) : c ≠ L := fun q => by
  subst q
  obtain ⟨ps, _, ⟨o, vs, e, _, d, _⟩, _⟩ := t
  obtain ⟨o', es, n', a, b, _⟩ := hn
  rw [e] at a; cases a; rw [d] at b; cases b
theorem row_ns {h : Heap} {x dx : Addr} {its : Array Value} {L : Addr} {m : Str → Option Value} (r : Row h x dx its) (hn : h.Ns L m) : L ≠ x := fun q => by
  subst q
  obtain ⟨⟨n, e⟩, _⟩ := r
  obtain ⟨o, es, n', a, b, _⟩ := hn
  rw [e] at a; cases a; cases b
/-- a store into the call's own names moves no accumulator -/
theorem Acc.store {h h' : Heap} {x dx L : Addr} {its : Array Value} {ps : List Str} {m : Str → Option Value} (a : Acc h x dx its ps) (hn : h.Ns L m) (hd : dx ≠ L) (hs : Heap.SameBut L h h') : Acc h' x dx its ps := by
  refine ⟨a.row.at (fun o e => hs.extBut _ _ (Ne.symm (row_ns a.row hn)) e) (fun o e => hs.extBut _ _ hd e), a.parts.keeps fun j T e o ho => hs.extBut _ _ (fun q => ?_) ho, ?_, ?_⟩
  · subst q
    have hj : j < ps.length := by
      rw [← a.parts.len]
      rcases Nat.lt_or_ge j its.size with q | q
      · exact q
      · rw [Array.getElem?_eq_none q] at e; cases e
    obtain ⟨T', ta, tb, e', ht⟩ := a.parts.tup j hj
    rw [e] at e'; cases e'
    exact tup_ns hn ht rfl
  · exact a.t1.at (fun o e => hs.extBut _ _ (tabc_ns hn a.t1) e) fun o e => hs.extBut _ _ (Ne.symm (ns_ne hn a.t1)) e
  · exact a.t2.at (fun o e => hs.extBut _ _ (tabc_ns hn a.t2) e) fun o e => hs.extBut _ _ (Ne.symm (ns_ne hn a.t2)) e
theorem Acc.size {h : Heap} {x dx : Addr} {its : Array Value} {ps : List Str} (a : Acc h x dx its ps) : its.size = ps.length := a.parts.len
theorem Parts.push {h : Heap} {its : Array Value} {ps : List Str} {q : Addr} {p : Str} {ta tb : Tok} (r : Parts h its ps) (hq : h.IsTuple q #[.str (Str.ofString "") ta, .str p tb]) : Parts h (its.push (.ref q)) (ps ++ [p]) := by
  refine ⟨by rw [Array.size_push, List.length_append, r.len]; rfl, fun k hk => ?_⟩
  rw [List.length_append] at hk
  by_cases h1 : k < ps.length
  · obtain ⟨T, ua, ub, e, ht⟩ := r.tup k h1
    refine ⟨T, ua, ub, ?_, ?_⟩
    · rw [Array.getElem?_push, if_neg (by rw [r.len]; omega)]; exact e
    · rw [show (ps ++ [p]).getD k (Str.ofString "") = ps.getD k (Str.ofString "") by rw [List.getD_eq_getElem?_getD, List.getElem?_append_left h1, List.getD_eq_getElem?_getD]]
      exact ht
  · have h2 : k = ps.length := by
      have : k < ps.length + 1 := hk
      omega
    subst h2
    refine ⟨q, ta, tb, ?_, ?_⟩
    · rw [Array.getElem?_push, if_pos r.len.symm]
    · rw [show (ps ++ [p]).getD ps.length (Str.ofString "") = p by rw [List.getD_eq_getElem?_getD, List.getElem?_append_right (Nat.le_refl _), Nat.sub_self]; rfl]
      exact hq
theorem col_join (x0 x1 x2 k : Int) : Txt.join (Str.ofString "") [one (lett x0 k 0), one (lett x1 k 1), one (lett x2 k 2)] = col x0 x1 x2 k := by
  have := join_cps [one (lett x0 k 0), one (lett x1 k 1), one (lett x2 k 2)]
  have e : ∀ a b : Str, a.cps.toList = b.cps.toList → a = b := fun a b q => by
    cases a; cases b; congr 1; exact Array.toList_inj.mp q
  exact e _ _ this
theorem spec_row {w : World} {A : Around} {s : Shared} {p : Program} {loose : List Str} {mg mb : Str → Option Value} {t0 t1 t2 t4 : Tok} {a : Addr} {x0 x1 x2 f : Int} {K' : Nat} {D : List (PyData × PyData)} (X : (K w.params).In s.heap) (T : TopRead p loose mg mb s.heap) (hroom : A.depth < 500) (hu : A.units < 20) (hh : A.handled = none)
    (hS : s.heap.SetOf (PySem.intKind rwp w) 127 b1S 27) (hT : IntTab rwp w s.heap 138 D) (G : GoodTab D) (tb1 : Tab s.heap 67 63) (tb2 : Tab s.heap 74 70)
    (ha : s.heap.IsTuple a #[.int x0 t0, .int x1 t1, .int x2 t2]) (f0 : 0 ≤ f) (f1 : f < 125) (l1 : 0 ≤ x0 ∧ x0 < 2 ^ 20) (l2 : 0 ≤ x1 ∧ x1 < 2 ^ 20) (l3 : 0 ≤ x2 ∧ x2 < 2 ^ 20)
    (hb : ∀ k : Nat, k < K' → blank x0 x1 x2 k = true) (hK : blank x0 x1 x2 K' = false) (hK20 : K' < 20) :
   codeAny (model rwp w) A (.call (.ref 195) ⟨[.ref a, .int f t4], []⟩) (RetG s fun v h' => ∃ x dx its, v = .ref x ∧ s.heap.get? x = none ∧ s.heap.get? dx = none ∧ Acc h' x dx its (cols x0 x1 x2 (K' + 1))) s := by
  have ho := X 195 (o_195 w.params) rfl
  refine call_plain_ret (name := Str.ofString "_law_row") (room (Nat.lt_trans hroom (by decide))) ho rfl T.nolimit (codeRec_of X (K := K w.params) (by rfl)) (binds := [(Str.ofString "spot", .ref a), (Str.ofString "form", .int f t4)]) (by rfl) (locs (by rfl)) ?_
  intro h₁ F
  have hns := F.ns
  have k₁ : Up s.heap h₁ := F.keep
  have X₁ : (K w.params).In h₁ := fun a o e => k₁ _ _ (X a o e)
  have T₁ := T.keeps k₁
  show wpAny _ _ (execs (_ :: _) _) _ _ _
  refine wpAny_execs_cons (wpAny_Assign_Name (Call_ (nm_global (v := .ref 101) (fun _ _ e => e) X₁ T₁ (by kernel_rfl) ?_)) (by rfl))
  refine callWith_101 X₁ ?_
  refine call_ret (spec_new X₁ T₁ (by show A.depth + 1 < 740; omega)) fun v h₂ tk₂ up₂ hv => ?_
  obtain ⟨x, dx, rfl, r₂, nx, ndx⟩ := hv
  have hns₂ : h₂.Ns s.heap.objs.size _ := hns.keeps up₂
  refine wpAny_storeName_local (by rfl) hns₂ (fun h₃ hn₃ hs₃ => ?_) (by rfl)
  have nx0 : s.heap.get? x = none := nof k₁ nx
  have ndx0 : s.heap.get? dx = none := nof k₁ ndx
  have hL0 : s.heap.get? s.heap.objs.size = none := Heap.get?_none_of_le (Nat.le_refl _)
  have neL : ∀ {b : Addr} {o : Obj}, s.heap.get? b = some o → b ≠ s.heap.objs.size := fun e q => by rw [q, hL0] at e; cases e
  have up₃ : Up s.heap h₃ := fun b o e => hs₃.extBut b o (neL e) (up₂ _ _ (k₁ _ _ e))
  have ndL : dx ≠ s.heap.objs.size := fun q => by
    obtain ⟨o, es', n', ho', _⟩ := hns
    have ndx' : h₁.get? dx = none := ndx
    rw [q, ho'] at ndx'; cases ndx'
  have r₃ : Row h₃ x dx #[] := r₂.at (fun o e => hs₃.extBut _ _ (Ne.symm (row_ns r₂ hns₂)) e) fun o e => hs₃.extBut _ _ ndL e
  have a₃ : Acc h₃ x dx #[] (cols x0 x1 x2 0) := ⟨r₃, ⟨rfl, fun k hk => absurd hk (Nat.not_lt_zero _)⟩, tb1.keeps up₃, tb2.keeps up₃⟩
  show wpAny _ _ (execs (_ :: _) _) _ _ _
  refine wpAny_execs_cons (wpAny_While (codeAny_whileLoop (fun n s' => ∃ j, j ≤ K' + 1 ∧ n = K' + 1 - j ∧ RowI s s.heap.objs.size a x dx f t4 x0 x1 x2 j s') (fun n s' hI => ?_) (K' + 1) ⟨0, Nat.zero_le _, rfl, ⟨h₃, _, _, #[], _, rfl, .of up₃, hn₃, by rfl, by rfl, by rfl, fun bb => bb, a₃⟩⟩))
  obtain ⟨j, hj, rfl, ⟨h₄, tk₄, gs₄, its, m, rfl, k₄, hn₄, hm1, hm2, hm3, bb₄, a₄⟩⟩ := hI
  have X₄ := k₄.inK X
  have T₄ := k₄.top T
  have hsz : its.size = j := by rw [a₄.size, cols_len]
  refine isTrue_and (isTrue_plain (meth0 X₄ a₄.row (fun Q' q => nm_own hn₄ hm1 q) (Looks.of_peek X₄ (by kernel_rfl)) (Looks.of_peek X₄ (by kernel_rfl)) nn_onlyws (f := 90) (fo := o_90 w.params) rfl rfl ?_) (by rfl))
  refine call_retG (spec_onlyws X₄ T₄ (by show A.depth + 1 < 600; omega) (by show A.units + 3 < 40; omega) (by exact hh) a₄ (by rw [cols_len]; omega) (cols_small _ _ _ _)) fun v h₅ tk₅ gs₅ k₅ t5 u5 bb₅ hv => ?_
  subst hv
  refine wpAny_truthy_bool ?_
  rw [only_cols hb hK hj]
  have a₅ := a₄.move k₅ t5 u5
  have X₅ := k₅.inK X₄
  have T₅ := k₅.top T₄
  have hn₅ := ns_kp hn₄ a₄.t1 a₄.t2 k₅
  by_cases hjK : j ≤ K'
  · rw [decide_eq_true hjK]
    rw [if_pos rfl]
    refine isTrue_and (wpAny_isTrue_Compare1 (meth0 X₅ a₅.row (fun Q' q => nm_own hn₅ hm1 q) (Looks.of_peek X₅ (by kernel_rfl)) (Looks.of_peek X₅ (by kernel_rfl)) nn_pc (f := 98) (fo := o_98 w.params) rfl rfl ?_) (by with_unfolding_all rfl))
    refine call_ret (spec_pc X₅ T₅ (by show A.depth + 1 < 700; omega) (by show A.units + 3 < 50; omega) (by exact hh) a₅.row.acc) fun v h₆ tk₆ up₆ hv => ?_
    obtain ⟨tv, rfl⟩ := hv
    refine wpAny_Constant_int (lt_int (wpAny_truthy_bool ?_))
    rw [decide_eq_true (show ((its.size : Nat) : Int) < 22 by omega), if_pos rfl]
    refine isTrue_and_nil ?_
    rw [if_pos rfl]
    have X₆ : (K w.params).In h₆ := fun a o e => up₆ _ _ (X₅ a o e)
    have T₆ := T₅.keeps up₆
    have a₆ := a₅.keeps up₆
    have hn₆ : h₆.Ns s.heap.objs.size m := hn₅.keeps up₆
    have K₆ : Kp s.heap h₆ := (k₄.trans k₅).trans (.of up₆)
    show wpAny _ _ (execs (_ :: _) _) _ _ _
    refine wpAny_execs_cons (wpAny_Assign_Name (Call_ (nm_global (v := .ref 190) (fun _ _ e => e) X₆ T₆ (by kernel_rfl) ?_)) (by rfl))
    refine callWith_meth (h₀ := h₆) (o := o_190 w.params) rfl (X₆ 190 _ rfl) ?_ (by rfl)
    refine spliced_more (nm_own hn₆ hm2 ?_) (by rfl)
    refine spliced_more (meth0 X₆ a₆.row (fun Q' q => nm_own hn₆ hm1 q) (Looks.of_peek X₆ (by kernel_rfl)) (Looks.of_peek X₆ (by kernel_rfl)) nn_pc (f := 98) (fo := o_98 w.params) rfl rfl ?_) (by rfl)
    refine call_ret (spec_pc X₆ T₆ (by show A.depth + 1 < 700; omega) (by show A.units + 3 < 50; omega) (by exact hh) a₆.row.acc) fun v h₇ tk₇ up₇ hv => ?_
    obtain ⟨tv7, rfl⟩ := hv
    have X₇ : (K w.params).In h₇ := fun a o e => up₇ _ _ (X₆ a o e)
    have T₇ := T₆.keeps up₇
    have a₇ := a₆.keeps up₇
    have hn₇ : h₇.Ns s.heap.objs.size m := hn₆.keeps up₇
    have K₇ : Kp s.heap h₇ := K₆.trans (.of up₇)
    have ha₇ := tup_kp ha tb1 tb2 K₇
    refine spliced_more (nm_own hn₇ hm3 (spliced_none ⟨up₇, ?_⟩)) (by rfl)
    refine call_ret (spec_spelled X₇ T₇ (by show A.depth + 1 < 700; omega) (by show A.units + 3 < 50; omega) (by exact hh) ha₇ (by omega) (by omega) f0 f1 l1 l2 l3) fun v h₈ tk₈ up₈ hv => ?_
    obtain ⟨ts, rfl⟩ := hv
    have a₈ := a₇.keeps up₈
    have hn₈ : h₈.Ns s.heap.objs.size m := hn₇.keeps up₈
    have K₈ : Kp s.heap h₈ := K₇.trans (.of up₈)
    refine wpAny_storeName_local (by rfl) hn₈ (fun h₉ hn₉ hs₉ => ?_) (by rfl)
    have a₉ := a₈.store hn₈ ndL hs₉
    have K₉ : Kp s.heap h₉ := fun b o n1 n2 e => hs₉.extBut _ _ (neL e) (K₈ b o n1 n2 e)
    have X₉ := K₉.inK X
    have T₉ := K₉.top T
    have hS₉ := setOf_kp hS K₉
    have hT₉ := tab_kp hT K₉
    show wpAny _ _ (execs (_ :: _) _) _ _ _
    refine wpAny_execs_cons (wpAny_Expr_any (MethodCall_ (nm_own hn₉ (show _ = some (.ref x) from hm1) (meth_acc (f := .ref 45) X₉ a₉.row (Looks.of_peek X₉ (by kernel_rfl)) (Looks.of_peek X₉ (by kernel_rfl)) (.inl rfl) nn_push ?_))) (by rfl) (by rfl))
    refine callWith_meth (h₀ := h₉) (o := o_45 w.params) rfl (X₉ 45 _ rfl) ?_ (by rfl)
    refine spliced_more (Calls.Constant_str ?_) (by rfl)
    refine spliced_more (MethodCall_ (Calls.Constant_str (GM.join ?_))) (by rfl)
    refine callWith_method1 ?_ (by rfl) (by rfl)
    refine spliced_more ?_ (by rfl)
    refine comp_signs (D := D) (x0 := x0) (x1 := x1) (x2 := x2) (k := (its.size : Int)) (f := f) (ts := ts) (by exact hh) (by show A.depth + 1 < 700; omega) (by show A.units + 3 < 60; omega) X₉ T₉ hS₉ hT₉ G (by rfl) (by rfl) (by rfl) (by rfl) (by decide) (by decide) (by rfl) (fun C => by rfl) (fun C => by rfl) (fun C => by rfl) (fun C => by rfl) (fun Q' q => nm_own hn₉ (by rfl) q) (fun LL h₁₀ tk₁₀ u0 u1 u2 up₁₀ hnone hlist => ?_)
    refine spliced_none ?_
    refine join_list (ys := [one (lett x0 its.size 0), one (lett x1 its.size 1), one (lett x2 its.size 2)]) hlist (.cons _ _ (.cons _ _ (.cons _ _ .nil))) (by show (3 : Nat) + 3 * 0 ≤ 16777216; decide) fun t' tk' => ?_
    refine spliced_none ⟨up₁₀, ?_⟩
    rw [col_join]
    have a₁₀ := a₉.keeps up₁₀
    have X₁₀ : (K w.params).In h₁₀ := fun a o e => up₁₀ _ _ (X₉ a o e)
    have T₁₀ := T₉.keeps up₁₀
    have hn₁₀ : h₁₀.Ns s.heap.objs.size _ := hn₉.keeps up₁₀
    have K₁₀ : Kp s.heap h₁₀ := K₉.trans (.of up₁₀)
    refine wpAny_call (spec_push X₁₀ T₁₀ (by show A.depth + 1 < 700; omega) a₁₀.row (by omega) fun h₁₁ tk₁₁ q r₁₁ hq hqn k₁₁ => ?_)
    show wpAny _ _ (execs [] _) _ _ _
    refine wpAny_execs_nil ?_
    have nex : ∀ {b : Addr} {o : Obj}, s.heap.get? b = some o → b ≠ x := fun e q => by rw [q, nx0] at e; cases e
    have tx : ∀ {T : Addr} {vs : Array Value}, h₁₀.IsTuple T vs → T ≠ x := fun {T vs} ht q => by
      subst q
      obtain ⟨⟨n, e⟩, _⟩ := a₁₀.row
      obtain ⟨o, e', c, _⟩ := ht
      rw [e] at e'; cases e'; cases c
    have n63 : x ≠ 63 := not_tab a₁₀.t1 (Classical.choose_spec a₁₀.row.at_) (by simp)
    have n70 : x ≠ 70 := not_tab a₁₀.t2 (Classical.choose_spec a₁₀.row.at_) (by simp)
    have n67 : 67 ≠ x := nex (X 67 (o_67 w.params) rfl)
    have n74 : 74 ≠ x := nex (X 74 (o_74 w.params) rfl)
    have p₁₁ : Parts h₁₁ its (cols x0 x1 x2 j) := a₁₀.parts.keeps fun j' T' e o ho => k₁₁ _ _ (fun q => by
      subst q
      have hj' : j' < (cols x0 x1 x2 j).length := by
        rw [← a₁₀.parts.len]
        rcases Nat.lt_or_ge j' its.size with q | q
        · exact q
        · rw [Array.getElem?_eq_none q] at e; cases e
      obtain ⟨T', ta, tb, e', ht⟩ := a₁₀.parts.tup j' hj'
      rw [e] at e'; cases e'
      exact tx ht rfl) ho
    refine ⟨K' + 1 - (j + 1), by omega, j + 1, by omega, rfl, ⟨h₁₁, _, _, its.push (.ref q), _, rfl, fun b o n1 n2 e => k₁₁ _ _ (nex e) (K₁₀ b o n1 n2 e), hn₁₀.at fun o e => k₁₁ _ _ (row_ns a₁₀.row hn₁₀) e, ?_, ?_, ?_, fun bb => bb₅ (bb₄ bb), ⟨r₁₁, ?_, ?_, ?_⟩⟩⟩
    · exact hm1
    · exact hm2
    · exact hm3
    · rw [cols_succ]
      have := p₁₁.push hq
      rw [hsz] at this
      exact this
    · exact a₁₀.t1.at (fun o e => k₁₁ _ _ n67 e) fun o e => k₁₁ _ _ (Ne.symm n63) e
    · exact a₁₀.t2.at (fun o e => k₁₁ _ _ n74 e) fun o e => k₁₁ _ _ (Ne.symm n70) e
  · have hjK' : j = K' + 1 := by omega
    subst hjK'
    rw [decide_eq_false hjK, if_neg (by decide), if_neg (by decide)]
    refine wpAny_execs_nil ?_
    show wpAny _ _ (execs (_ :: _) _) _ _ _
    refine wpAny_execs_cons (wpAny_Return_some (nm_own hn₅ hm1 ?_))
    exact ⟨_, h₅, _, gs₅, rfl, rfl, k₄.trans k₅, t5, u5, fun bb => bb₅ (bb₄ bb), x, dx, its, rfl, nx0, ndx0, a₅⟩
end Mine
end
section
open PySem PySem.W PyProof.Rows
set_option Elab.async false
set_option maxRecDepth 100000
set_option maxHeartbeats 1000000
set_option linter.unusedVariables false
namespace Mine
/-- what lies at an address of the ledger -/
inductive Thing where
  | cell (v : Option Value)
  | list (vs : List Value)
  | tup (vs : List Value)
  | iter (l : Addr) (i : Nat)
  | riter (a n c : Int)
  | titer (l : Addr) (i : Nat)
  | seq (vs : List Value)
noncomputable def Thing.At (h : Heap) (a : Addr) : Thing → Prop
  | .cell v => h.IsCell a v
  | .list vs => h.PlainList a vs.toArray
  | .tup vs => h.IsTuple a vs.toArray
  | .iter l i => h.IsListIter a l i
  | .riter x n c => IsRangeIter h a x n c
  | .titer l i => h.IsTupleIter a l i
  | .seq vs => h.IsList a vs.toArray
noncomputable def Thing.mut : Thing → Bool
  | .tup _ => false
  | _ => true
theorem Thing.At.at {h h' : Heap} {a : Addr} {th : Thing} (x : th.At h a) (k : ∀ o, h.get? a = some o → h'.get? a = some o) : th.At h' a := by
  cases th with
  | cell v => obtain ⟨o, e, r⟩ := x; exact ⟨o, k _ e, r⟩
  | list v => obtain ⟨n, e⟩ := x; exact ⟨n, k _ e⟩
  | tup v => obtain ⟨o, e, r⟩ := x; exact ⟨o, k _ e, r⟩
  | iter l i => obtain ⟨o, e, r⟩ := x; exact ⟨o, k _ e, r⟩
  | riter x n c => exact k _ x
  | titer l i => obtain ⟨o, e, r⟩ := x; exact ⟨o, k _ e, r⟩
  | seq v => obtain ⟨o, e, r⟩ := x; exact ⟨o, k _ e, r⟩
/-- the object there is no dict, no table, no code -/
theorem Thing.At.obj {h : Heap} {a : Addr} {th : Thing} (x : th.At h a) : ∃ o, h.get? a = some o ∧ (∀ es n, o.data ≠ .dict es n) ∧ (o.cls = .none → ∀ vs, o.data ≠ .fields vs) ∧ (o.cls = .type "code" → ∀ vs, o.data ≠ .fields vs) ∧ (th.mut = true → o.cls = .type "tuple" → ∀ vs n, o.data ≠ .seq vs n) := by
  cases th with
  | cell v => obtain ⟨o, e, d⟩ := x; exact ⟨o, e, fun _ _ q => by (rw [d] at q; cases q), fun _ _ q => by (rw [d] at q; cases q), fun _ _ q => by (rw [d] at q; cases q), fun _ _ _ _ q => by (rw [d] at q; cases q)⟩
  | list v => obtain ⟨n, e⟩ := x; exact ⟨_, e, fun _ _ q => (by cases q), fun q => (by cases q), fun q => (by simp at q), fun _ q => (by simp at q)⟩
  | tup v => obtain ⟨o, e, c, n, d⟩ := x; exact ⟨o, e, fun _ _ q => by (rw [d] at q; cases q), fun _ _ q => by (rw [d] at q; cases q), fun _ _ q => by (rw [d] at q; cases q), fun q => (by cases q)⟩
  | iter l i => obtain ⟨o, e, c, d⟩ := x; exact ⟨o, e, fun _ _ q => by (rw [d] at q; cases q), fun q => by (rw [c] at q; cases q), fun q => by (rw [c] at q; simp at q), fun _ q => by (rw [c] at q; simp at q)⟩
  | riter x' n c => exact ⟨_, x, fun _ _ q => (by cases q), fun q => (by cases q), fun _ vs q => (by simp at *), fun _ q => (by simp at q)⟩
  | titer l i => obtain ⟨o, e, c, d⟩ := x; exact ⟨o, e, fun _ _ q => by (rw [d] at q; cases q), fun q => by (rw [c] at q; cases q), fun q => by (rw [c] at q; simp at q), fun _ q => by (rw [c] at q; simp at q)⟩
  | seq v => obtain ⟨o, e, c, n, d⟩ := x; exact ⟨o, e, fun _ _ q => by (rw [d] at q; cases q), fun q => by (rw [c] at q; cases q), fun q => by (rw [c] at q; simp at q), fun _ q => by (rw [c] at q; simp at q)⟩
theorem Thing.At.ns {h : Heap} {a L : Addr} {th : Thing} {m : Str → Option Value} (x : th.At h a) (hn : h.Ns L m) : a ≠ L := fun q => by
  subst q
  obtain ⟨o, e, d, _⟩ := x.obj
  obtain ⟨o', es, n, e', d', _⟩ := hn
  rw [e] at e'; cases e'; exact d _ _ d'
theorem Thing.At.tab {h : Heap} {a c P : Addr} {th : Thing} (x : th.At h a) (t : Tab h c P) : a ≠ P ∧ a ≠ c := by
  obtain ⟨o, e, _, d1, d2, _⟩ := x.obj
  constructor
  · intro q; subst q
    obtain ⟨ps, _, e'⟩ := t.obj
    rw [e] at e'; cases e'; exact d1 rfl _ rfl
  · intro q; subst q
    obtain ⟨ps, _, ⟨o', vs, e', c', d', _⟩, _⟩ := t
    rw [e] at e'; cases e'; exact d2 c' _ d'
theorem Thing.At.tup_ne {h : Heap} {a b : Addr} {th : Thing} {vs : Array Value} (x : th.At h b) (hm : th.mut = true) (ht : h.IsTuple a vs) : a ≠ b := fun q => by
  subst q
  obtain ⟨o, e, _, _, _, d⟩ := x.obj
  obtain ⟨o', e', c', n, d'⟩ := ht
  rw [e] at e'; cases e'; exact d hm c' _ _ d'
/-- the frame of a call: the base, the tuples that are known, the names, the ledger -/
structure Fm (b u : Heap) (L : Addr) (h : Heap) (m : Str → Option Value) (l : List (Addr × Thing)) : Prop where
  kp : Kp b h
  t1 : Tab h 67 63
  t2 : Tab h 74 70
  tup : ∀ a vs, u.IsTuple a vs → h.IsTuple a vs
  ns : h.Ns L m
  led : ∀ p ∈ l, p.2.At h p.1
  noL : b.get? L = none
  no : ∀ p ∈ l, b.get? p.1 = none
  nd : (l.map (·.1)).Nodup
section
variable {b u h h' : Heap} {L c : Addr} {m m' : Str → Option Value} {l l' : List (Addr × Thing)} {th th' : Thing}
theorem Fm.look (f : Fm b u L h m l) (i : Nat) (e : l[i]? = some (c, th)) : th.At h c := f.led _ (List.mem_of_getElem? e)
theorem Fm.cell {v : Option Value} (f : Fm b u L h m l) (i : Nat) (e : l[i]? = some (c, .cell v)) : h.IsCell c v := f.look i e
theorem Fm.list {vs : List Value} (f : Fm b u L h m l) (i : Nat) (e : l[i]? = some (c, .list vs)) : h.PlainList c vs.toArray := f.look i e
theorem Fm.tuple {vs : List Value} (f : Fm b u L h m l) (i : Nat) (e : l[i]? = some (c, .tup vs)) : h.IsTuple c vs.toArray := f.look i e
theorem Fm.up (f : Fm b u L h m l) (k : Up h h') : Fm b u L h' m l :=
  ⟨f.kp.trans (.of k), f.t1.keeps k, f.t2.keeps k, fun a vs x => by obtain ⟨o, e, r⟩ := f.tup a vs x; exact ⟨o, k _ _ e, r⟩, f.ns.keeps k, fun p hp => (f.led p hp).at fun o e => k _ _ e, f.noL, f.no, f.nd⟩
theorem Fm.kept (f : Fm b u L h m l) (k : Kp h h') (t1 : Tab h' 67 63) (t2 : Tab h' 74 70) : Fm b u L h' m l :=
  ⟨f.kp.trans k, t1, t2, fun a vs x => tup_kp (f.tup a vs x) f.t1 f.t2 k, ns_kp f.ns f.t1 f.t2 k, fun p hp => (f.led p hp).at fun o e => k _ _ ((f.led p hp).tab f.t1).1 ((f.led p hp).tab f.t2).1 e, f.noL, f.no, f.nd⟩
theorem Fm.rebase (f : Fm b u L h m l) : Fm b h L h m l := { f with tup := fun _ _ x => x }
theorem Fm.name (f : Fm b u L h m l) (hn : h'.Ns L m') (hs : Heap.ExtBut L h h') : Fm b u L h' m' l := by
  have kL : ∀ {a : Addr} {o : Obj}, b.get? a = some o → a ≠ L := fun e q => by rw [q, f.noL] at e; cases e
  refine ⟨fun a o n1 n2 e => hs _ _ (kL e) (f.kp a o n1 n2 e), ?_, ?_, fun a vs x => ?_, hn, fun p hp => (f.led p hp).at fun o e => hs _ _ ((f.led p hp).ns f.ns) e, f.noL, f.no, f.nd⟩
  · exact f.t1.at (fun o e => hs _ _ (tabc_ns f.ns f.t1) e) fun o e => hs _ _ (Ne.symm (ns_ne f.ns f.t1)) e
  · exact f.t2.at (fun o e => hs _ _ (tabc_ns f.ns f.t2) e) fun o e => hs _ _ (Ne.symm (ns_ne f.ns f.t2)) e
  · have y := f.tup a vs x
    have n := tup_ns f.ns y
    obtain ⟨o, e, r⟩ := y
    exact ⟨o, hs _ _ n e, r⟩
theorem nodup_at {α : Type} : ∀ {l : List α} (_ : l.Nodup) {i j : Nat} {a : α}, l[i]? = some a → l[j]? = some a → i = j
  | [], _, i, j, a, e, _ => by simp at e
  | x :: l, hn, i, j, a, e1, e2 => by
    obtain ⟨h1, h2⟩ := List.nodup_cons.mp hn
    match i, j with
    | 0, 0 => rfl
    | 0, j + 1 => cases e1; exact absurd (List.mem_of_getElem? (i := j) e2) h1
    | i + 1, 0 => cases e2; exact absurd (List.mem_of_getElem? (i := i) e1) h1
    | i + 1, j + 1 => exact congrArg (· + 1) (nodup_at h2 (i := i) (j := j) e1 e2)
theorem Fm.ne (f : Fm b u L h m l) {i j : Nat} {c d : Addr} {x y : Thing} (e1 : l[i]? = some (c, x)) (e2 : l[j]? = some (d, y)) (hij : i ≠ j) : c ≠ d := fun q => by
  subst q
  exact hij (nodup_at f.nd (a := c) (by rw [List.getElem?_map, e1]; rfl) (by rw [List.getElem?_map, e2]; rfl))
theorem Fm.set (f : Fm b u L h m l) (i : Nat) (e : l[i]? = some (c, th)) (hm : th.mut = true) (hs : Heap.ExtBut c h h') (x : th'.At h' c) : Fm b u L h' m (l.set i (c, th')) := by
  have y := f.look i e
  have kc : ∀ {a : Addr} {o : Obj}, b.get? a = some o → a ≠ c := fun q r => by rw [r, f.no _ (List.mem_of_getElem? e)] at q; cases q
  have hi : i < l.length := by
    rcases Nat.lt_or_ge i l.length with q | q
    · exact q
    · rw [List.getElem?_eq_none q] at e; cases e
  refine ⟨fun a o n1 n2 q => hs _ _ (kc q) (f.kp a o n1 n2 q), ?_, ?_, fun a vs z => ?_, f.ns.at fun o q => hs _ _ (Ne.symm (y.ns f.ns)) q, fun p hp => ?_, f.noL, fun p hp => ?_, ?_⟩
  · exact f.t1.at (fun o q => hs _ _ (Ne.symm (y.tab f.t1).2) q) fun o q => hs _ _ (Ne.symm (y.tab f.t1).1) q
  · exact f.t2.at (fun o q => hs _ _ (Ne.symm (y.tab f.t2).2) q) fun o q => hs _ _ (Ne.symm (y.tab f.t2).1) q
  · have z' := f.tup a vs z
    have n := y.tup_ne hm z'
    obtain ⟨o, q, r⟩ := z'
    exact ⟨o, hs _ _ n q, r⟩
  · obtain ⟨j, hj⟩ := List.getElem?_of_mem hp
    by_cases hij : i = j
    · subst hij
      rw [List.getElem?_set_self hi] at hj; cases hj; exact x
    · rw [List.getElem?_set_ne hij] at hj
      obtain ⟨d, t⟩ := p
      exact (f.look j hj).at fun o q => hs _ _ (f.ne hj e (Ne.symm hij)) q
  · obtain ⟨j, hj⟩ := List.getElem?_of_mem hp
    by_cases hij : i = j
    · subst hij
      rw [List.getElem?_set_self hi] at hj; cases hj; exact f.no (c, th) (List.mem_of_getElem? e)
    · rw [List.getElem?_set_ne hij] at hj
      exact f.no _ (List.mem_of_getElem? hj)
  · have q : (l.set i (c, th')).map (·.1) = l.map (·.1) := by
      rw [List.map_set]
      refine List.ext_getElem? fun j => ?_
      by_cases hij : i = j
      · subst hij
        rw [List.getElem?_set_self (by rw [List.length_map]; exact hi), List.getElem?_map, e]; rfl
      · rw [List.getElem?_set_ne hij]
    rw [q]; exact f.nd
/-- something new -/
theorem Fm.add (f : Fm b u L h m l) (k : Up h h') (hn : h.get? c = none) (x : th.At h' c) : Fm b u L h' m ((c, th) :: l) := by
  have g := f.up k
  refine { g with led := fun p hp => ?_, no := fun p hp => ?_, nd := ?_ }
  · rcases List.mem_cons.mp hp with rfl | hp
    · exact x
    · exact g.led p hp
  · rcases List.mem_cons.mp hp with rfl | hp
    · cases q : b.get? c with
      | none => rfl
      | some o =>
        exfalso
        have n63 : c ≠ 63 := fun r => by obtain ⟨ps, _, z⟩ := f.t1.obj; rw [← r, hn] at z; cases z
        have n70 : c ≠ 70 := fun r => by obtain ⟨ps, _, z⟩ := f.t2.obj; rw [← r, hn] at z; cases z
        rw [f.kp c o n63 n70 q] at hn; cases hn
    · exact g.no p hp
  · show (c :: l.map (·.1)).Nodup
    refine List.nodup_cons.mpr ⟨fun hm => ?_, f.nd⟩
    obtain ⟨p, hp, rfl⟩ := List.mem_map.mp hm
    obtain ⟨o, e, _⟩ := (f.led p hp).obj
    rw [e] at hn; cases hn
/-- something new, at the end -/
theorem Fm.snoc (f : Fm b u L h m l) (k : Up h h') (hn : h.get? c = none) (x : th.At h' c) : Fm b u L h' m (l ++ [(c, th)]) := by
  have g := f.add k hn x
  have mem : ∀ {p : Addr × Thing}, p ∈ l ++ [(c, th)] → p ∈ (c, th) :: l := fun hp => by
    rcases List.mem_append.mp hp with hp | hp
    · exact List.mem_cons_of_mem _ hp
    · rw [List.mem_singleton.mp hp]; exact List.mem_cons_self
  refine { g with led := fun p hp => g.led p (mem hp), no := fun p hp => g.no p (mem hp), nd := ?_ }
  have q : ((c, th) :: l).map (·.1) = c :: l.map (·.1) := rfl
  have r : (l ++ [(c, th)]).map (·.1) = l.map (·.1) ++ [c] := by rw [List.map_append]; rfl
  rw [r]
  have := g.nd
  rw [q] at this
  exact (List.Perm.nodup_iff (l₁ := c :: l.map fun x => x.1) (l₂ := (l.map fun x => x.1) ++ [c]) (List.perm_append_comm (l₁ := [c]))).mp this
theorem Fm.drop (f : Fm b u L h m l) (hs : l'.Sublist l) : Fm b u L h m l' :=
  { f with led := fun p hp => f.led p (hs.subset hp), no := fun p hp => f.no p (hs.subset hp), nd := (hs.map _).nodup f.nd }
theorem Fm.inK {P : Params} (f : Fm b u L h m l) (X : (K P).In b) : (K P).In h := f.kp.inK X
theorem Fm.top {p : Program} {loose : List Str} {mg mb : Str → Option Value} (f : Fm b u L h m l) (T : TopRead p loose mg mb b) : TopRead p loose mg mb h := f.kp.top T
end
end Mine
end
section
/-! plain law: powers of two in a number -/
namespace Mine
/-- `2^k` is the power of two in `a` -/
noncomputable def Val (a : Int) (k : Nat) : Prop := ∃ m : Int, a = 2 ^ k * (2 * m + 1)
noncomputable def Div (a : Int) (k : Nat) : Prop := ∃ m : Int, a = 2 ^ k * m
theorem Val.mul {a b : Int} {j k : Nat} (h : Val a j) (g : Val b k) : Val (a * b) (j + k) := by
  obtain ⟨m, rfl⟩ := h
  obtain ⟨n, rfl⟩ := g
  exact ⟨2 * m * n + m + n, by rw [Int.pow_add]; grind⟩
theorem Div.mul {a b : Int} {j k : Nat} (h : Div a j) (g : Div b k) : Div (a * b) (j + k) := by
  obtain ⟨m, rfl⟩ := h
  obtain ⟨n, rfl⟩ := g
  exact ⟨m * n, by rw [Int.pow_add]; grind⟩
theorem Val.div {a : Int} {k : Nat} (h : Val a k) : Div a k := by
  obtain ⟨m, rfl⟩ := h
  exact ⟨_, rfl⟩
theorem Div.le {a : Int} {j k : Nat} (h : Div a k) (e : j ≤ k) : Div a j := by
  obtain ⟨m, rfl⟩ := h
  refine ⟨2 ^ (k - j) * m, ?_⟩
  rw [← Int.mul_assoc, ← Int.pow_add]
  congr 2; omega
theorem Div.zero (k : Nat) : Div 0 k := ⟨0, by simp⟩
theorem Div.add {a b : Int} {k : Nat} (h : Div a k) (g : Div b k) : Div (a + b) k := by
  obtain ⟨m, rfl⟩ := h
  obtain ⟨n, rfl⟩ := g
  exact ⟨m + n, by grind⟩
theorem Div.neg {a : Int} {k : Nat} (h : Div a k) : Div (-a) k := by
  obtain ⟨m, rfl⟩ := h
  exact ⟨-m, by grind⟩
theorem Val.add {a b : Int} {k : Nat} (h : Val a k) (g : Div b (k + 1)) : Val (a + b) k := by
  obtain ⟨m, rfl⟩ := h
  obtain ⟨n, rfl⟩ := g
  exact ⟨m + n, by rw [Int.pow_succ]; grind⟩
theorem Val.neg {a : Int} {k : Nat} (h : Val a k) : Val (-a) k := by
  obtain ⟨m, rfl⟩ := h
  exact ⟨-m - 1, by grind⟩
theorem pow_pos2 (k : Nat) : (0 : Int) < 2 ^ k := Int.pow_pos (by decide)
theorem Val.ne {a : Int} {k : Nat} (h : Val a k) : a ≠ 0 := by
  obtain ⟨m, rfl⟩ := h
  intro e
  rcases Int.mul_eq_zero.mp e with e | e
  · have := pow_pos2 k; omega
  · omega
theorem Val.uniq {a : Int} : ∀ {j k : Nat}, Val a j → Val a k → j = k := by
  have key : ∀ {j k : Nat}, Val a j → Val a k → ¬ j < k := by
    rintro j k ⟨m, hm⟩ ⟨n, hn⟩ h
    obtain ⟨d, rfl⟩ : ∃ d, k = j + 1 + d := ⟨k - (j + 1), by omega⟩
    rw [hm, Int.pow_add, Int.pow_succ] at hn
    have hp := pow_pos2 j
    have : 2 * m + 1 = 2 * (2 ^ d * (2 * n + 1)) := by
      refine Int.eq_of_mul_eq_mul_left (Int.ne_of_gt hp) ?_
      rw [hn]; grind
    omega
  intro j k h g
  have := key h g
  have := key g h
  omega
/-- the lowest bit of `n`, as the law has it -/
noncomputable def low (n : Nat) : Nat := if n = 0 then 16777216 else n - (n &&& (n - 1))
theorem two_div (a : Nat) : 2 * a / 2 = a := by omega
theorem two_odd (a : Nat) : (2 * a + 1) / 2 = a := by omega
theorem two_pred (a : Nat) : (2 * a - 1) / 2 = a - 1 := by omega
theorem and_pred (k m : Nat) : (2 ^ k * (2 * m + 1)) &&& (2 ^ k * (2 * m + 1) - 1) = 2 ^ k * (2 * m) := by
  induction k with
  | zero =>
    simp only [Nat.pow_zero, Nat.one_mul, Nat.add_sub_cancel]
    apply Nat.eq_of_testBit_eq
    intro i
    rw [Nat.testBit_and]
    cases i with
    | zero => simp
    | succ i =>
      rw [Nat.testBit_succ, Nat.testBit_succ]
      have := two_odd m
      have h2 := two_div m
      rw [this, h2]; simp
  | succ k ih =>
    have hp : 0 < 2 ^ k * (2 * m + 1) := Nat.mul_pos (Nat.pow_pos (by decide)) (by omega)
    generalize ha : 2 ^ k * (2 * m + 1) = a at ih hp
    have e1 : 2 ^ (k + 1) * (2 * m + 1) = 2 * a := by rw [Nat.pow_succ, ← ha]; grind
    have e2 : 2 ^ (k + 1) * (2 * m) = 2 * (2 ^ k * (2 * m)) := by rw [Nat.pow_succ]; grind
    rw [e1, e2, ← ih]
    apply Nat.eq_of_testBit_eq
    intro i
    rw [Nat.testBit_and]
    cases i with
    | zero => simp
    | succ i =>
      rw [Nat.testBit_succ, Nat.testBit_succ, Nat.testBit_succ]
      have h1 := two_div a
      have h2 := two_pred a
      have h3 : 2 * (a &&& (a - 1)) / 2 = a &&& (a - 1) := by omega
      rw [h1, h2, h3, Nat.testBit_and]
theorem exists_val (n : Nat) (h : n ≠ 0) : ∃ k m, n = 2 ^ k * (2 * m + 1) := by
  induction n using Nat.strongRecOn with
  | ind n ih =>
    rcases Nat.mod_two_eq_zero_or_one n with e | e
    · obtain ⟨k, m, hm⟩ := ih (n / 2) (by omega) (by omega)
      refine ⟨k + 1, m, ?_⟩
      rw [Nat.pow_succ]
      have : n = 2 * (n / 2) := by omega
      rw [this, hm]; grind
    · exact ⟨0, n / 2, by omega⟩
theorem low_eq (k m : Nat) : low (2 ^ k * (2 * m + 1)) = 2 ^ k := by
  have hp : 0 < 2 ^ k * (2 * m + 1) := Nat.mul_pos (Nat.pow_pos (by decide)) (by omega)
  unfold low
  rw [if_neg (by omega), and_pred]
  rw [Nat.mul_add, Nat.mul_one, Nat.add_sub_cancel_left]
theorem low_val {n : Nat} (h : n ≠ 0) : ∃ k, low n = 2 ^ k ∧ Val (n : Int) k ∧ 2 ^ k ≤ n := by
  obtain ⟨k, m, rfl⟩ := exists_val n h
  have hv : Val ((2 ^ k * (2 * m + 1) : Nat) : Int) k := ⟨(m : Int), by push_cast; rfl⟩
  exact ⟨k, low_eq k m, hv, Nat.le_mul_of_pos_right _ (by omega)⟩
theorem low_of_val {n : Nat} {k : Nat} (h : Val (n : Int) k) : low n = 2 ^ k := by
  have hn : n ≠ 0 := fun e => h.ne (by rw [e]; rfl)
  obtain ⟨j, e, v, _⟩ := low_val hn
  rw [e, Val.uniq v h]
end Mine
end
section
namespace Mine
noncomputable abbrev Spot := Nat × Nat × Nat
noncomputable def co (p : Spot) : Nat → Nat
  | 0 => p.1
  | 1 => p.2.1
  | _ => p.2.2
/-- the law's determinant -/
noncomputable def det (a b c : Spot) : Int :=
  (a.1 : Int) * ((b.2.1 : Int) * c.2.2 - (b.2.2 : Int) * c.2.1) - (a.2.1 : Int) * ((b.1 : Int) * c.2.2 - (b.2.2 : Int) * c.1) + (a.2.2 : Int) * ((b.1 : Int) * c.2.1 - (b.2.1 : Int) * c.1)
noncomputable def least (p : Spot) : Nat := min (min (low p.1) (low p.2.1)) (low p.2.2)
/-- the first coordinate with the least power of two -/
noncomputable def mark (p : Spot) : Nat := if p.1 / least p % 2 = 1 then 0 else if p.2.1 / least p % 2 = 1 then 1 else 2
/-- a spot as the cuts leave it -/
noncomputable def Fine (p : Spot) : Prop := p.1 ≤ p.2.2 ∧ p.2.1 ≤ p.2.2 ∧ 0 < p.2.2 ∧ p.2.2 < 1048576
theorem pow_lt_inv {j k : Nat} (h : 2 ^ j < 2 ^ k) : j < k := (Nat.pow_lt_pow_iff_right (by decide)).mp h
theorem pow_le_inv {j k : Nat} (h : 2 ^ j ≤ 2 ^ k) : j ≤ k := (Nat.pow_le_pow_iff_right (by decide)).mp h
/-- the exponent of `low` -/
theorem low_exp (n : Nat) (h : n < 1048576) : ∃ k, low n = 2 ^ k ∧ Div (n : Int) k ∧ (n ≠ 0 → Val (n : Int) k ∧ k < 20) ∧ (n = 0 → k = 24) := by
  by_cases h0 : n = 0
  · subst h0
    exact ⟨24, by decide, Div.zero 24, fun e => absurd rfl e, fun _ => rfl⟩
  · obtain ⟨k, e, v, l⟩ := low_val h0
    refine ⟨k, e, v.div, fun _ => ⟨v, pow_lt_inv (Nat.lt_of_le_of_lt l h)⟩, fun e => absurd e h0⟩
theorem odd_of_val {n k : Nat} (h : Val (n : Int) k) : n / 2 ^ k % 2 = 1 := by
  obtain ⟨m, hm⟩ := h
  have hp := pow_pos2 k
  have e : ((n / 2 ^ k % 2 : Nat) : Int) = 1 := by
    rw [Int.natCast_emod, Int.natCast_ediv, Int.natCast_pow, hm]
    show (2 : Int) ^ k * (2 * m + 1) / 2 ^ k % 2 = 1
    rw [Int.mul_ediv_cancel_left _ (Int.ne_of_gt hp)]
    omega
  omega
theorem even_of_div {n k : Nat} (h : Div (n : Int) (k + 1)) : n / 2 ^ k % 2 = 0 := by
  obtain ⟨m, hm⟩ := h
  have hp := pow_pos2 k
  have e : ((n / 2 ^ k % 2 : Nat) : Int) = 0 := by
    rw [Int.natCast_emod, Int.natCast_ediv, Int.natCast_pow, hm, Int.pow_succ, Int.mul_assoc]
    show (2 : Int) ^ k * (2 * m) / 2 ^ k % 2 = 0
    rw [Int.mul_ediv_cancel_left _ (Int.ne_of_gt hp)]
    omega
  omega
/-- what the mark of a spot says -/
theorem mark_spec {p : Spot} (hp : Fine p) : ∃ K, least p = 2 ^ K ∧ K < 20 ∧ ((mark p = 0 ∧ Val (p.1 : Int) K ∧ Div (p.2.1 : Int) K ∧ Div (p.2.2 : Int) K) ∨
    (mark p = 1 ∧ Div (p.1 : Int) (K + 1) ∧ Val (p.2.1 : Int) K ∧ Div (p.2.2 : Int) K) ∨ (mark p = 2 ∧ Div (p.1 : Int) (K + 1) ∧ Div (p.2.1 : Int) (K + 1) ∧ Val (p.2.2 : Int) K)) := by
  obtain ⟨x, y, w⟩ := p
  obtain ⟨h1, h2, h3, h4⟩ := hp
  dsimp only at h1 h2 h3 h4 ⊢
  obtain ⟨a, ea, da, va, za⟩ := low_exp x (by omega)
  obtain ⟨b, eb, db, vb, zb⟩ := low_exp y (by omega)
  obtain ⟨c, ec, dc, vc, zc⟩ := low_exp w (by omega)
  obtain ⟨vc, hc⟩ := vc (by omega)
  have mono : ∀ {i j : Nat}, i ≤ j → (2 : Nat) ^ i ≤ 2 ^ j := fun h => Nat.pow_le_pow_right (by decide) h
  have hl : ∃ K, least (x, y, w) = 2 ^ K ∧ K ≤ a ∧ K ≤ b ∧ K ≤ c ∧ (K = a ∨ K = b ∨ K = c) := by
    unfold least
    dsimp only
    rw [ea, eb, ec]
    by_cases q : a ≤ b
    · rw [Nat.min_eq_left (mono q)]
      by_cases q2 : a ≤ c
      · rw [Nat.min_eq_left (mono q2)]; exact ⟨a, rfl, by omega, by omega, by omega, .inl rfl⟩
      · rw [Nat.min_eq_right (mono (by omega))]; exact ⟨c, rfl, by omega, by omega, by omega, .inr (.inr rfl)⟩
    · rw [Nat.min_eq_right (mono (by omega))]
      by_cases q2 : b ≤ c
      · rw [Nat.min_eq_left (mono q2)]; exact ⟨b, rfl, by omega, by omega, by omega, .inr (.inl rfl)⟩
      · rw [Nat.min_eq_right (mono (by omega))]; exact ⟨c, rfl, by omega, by omega, by omega, .inr (.inr rfl)⟩
  obtain ⟨K, eK, ka, kb, kc, hK⟩ := hl
  refine ⟨K, eK, by omega, ?_⟩
  unfold mark
  rw [eK]
  dsimp only
  by_cases xa : a = K
  · subst xa
    have hx : x ≠ 0 := fun e => by have := za e; omega
    rw [if_pos (odd_of_val (va hx).1)]
    exact .inl ⟨rfl, (va hx).1, db.le kb, dc.le kc⟩
  · have dx : Div (x : Int) (K + 1) := da.le (by omega)
    rw [if_neg (by rw [even_of_div dx]; decide)]
    by_cases yb : b = K
    · subst yb
      have hy : y ≠ 0 := fun e => by have := zb e; omega
      rw [if_pos (odd_of_val (vb hy).1)]
      exact .inr (.inl ⟨rfl, dx, (vb hy).1, dc.le kc⟩)
    · have dy : Div (y : Int) (K + 1) := db.le (by omega)
      rw [if_neg (by rw [even_of_div dy]; decide)]
      obtain rfl : c = K := by omega
      exact .inr (.inr ⟨rfl, dx, dy, vc⟩)
theorem det_rgb {R G B : Spot} {i j k : Nat} (r1 : Val (R.1 : Int) i) (r2 : Div (R.2.1 : Int) i) (r3 : Div (R.2.2 : Int) i) (g1 : Div (G.1 : Int) (j + 1)) (g2 : Val (G.2.1 : Int) j) (g3 : Div (G.2.2 : Int) j)
    (b1 : Div (B.1 : Int) (k + 1)) (b2 : Div (B.2.1 : Int) (k + 1)) (b3 : Val (B.2.2 : Int) k) : Val (det R G B) (i + j + k) := by
  have e : det R G B = (R.1 : Int) * G.2.1 * B.2.2 + (-((R.1 : Int) * G.2.2 * B.2.1) + -((R.2.1 : Int) * G.1 * B.2.2) + (R.2.1 : Int) * G.2.2 * B.1 + (R.2.2 : Int) * G.1 * B.2.1 + -((R.2.2 : Int) * G.2.1 * B.1)) := by
    unfold det; grind
  rw [e]
  have L : ∀ {a b c : Int} {x y z : Nat}, Div a x → Div b y → Div c z → i + j + k + 1 ≤ x + y + z → Div (a * b * c) (i + j + k + 1) := fun ha hb hc h => ((ha.mul hb).mul hc).le h
  refine (((r1.mul g2).mul b3)).add ?_
  refine Div.add (Div.add (Div.add (Div.add ?_ ?_) ?_) ?_) ?_
  · exact (L r1.div g3 b2 (by omega)).neg
  · exact (L r2 g1 b3.div (by omega)).neg
  · exact L r2 g3 b1 (by omega)
  · exact L r3 g1 b2 (by omega)
  · exact (L r3 g2.div b1 (by omega)).neg
theorem det_swap1 (a b c : Spot) : det a b c = - det b a c := by unfold det; grind
theorem det_swap2 (a b c : Spot) : det a b c = - det a c b := by unfold det; grind
/-- three letters that are all there -/
noncomputable def rain : Nat → Nat → Nat → Bool
  | 0, 1, 2 | 0, 2, 1 | 1, 0, 2 | 1, 2, 0 | 2, 0, 1 | 2, 1, 0 => true
  | _, _, _ => false
/-- a face with all three letters: the power of two in its determinant -/
theorem det_rain {a b c : Spot} (ha : Fine a) (hb : Fine b) (hc : Fine c) (h : rain (mark a) (mark b) (mark c) = true) :
    ∃ k, Val (det a b c) k ∧ Val ((co a (mark a) : Int) * co b (mark b) * co c (mark c)) k := by
  obtain ⟨i, -, -, A⟩ := mark_spec ha
  obtain ⟨j, -, -, B⟩ := mark_spec hb
  obtain ⟨k, -, -, C⟩ := mark_spec hc
  refine ⟨i + j + k, ?_⟩
  have n1 : ∀ {z : Int} {n : Nat}, Val z n → Val (-z) n := fun h => h.neg
  rcases A with ⟨ma, a1, a2, a3⟩ | ⟨ma, a1, a2, a3⟩ | ⟨ma, a1, a2, a3⟩ <;> rcases B with ⟨mb, b1, b2, b3⟩ | ⟨mb, b1, b2, b3⟩ | ⟨mb, b1, b2, b3⟩ <;> rcases C with ⟨mc, c1, c2, c3⟩ | ⟨mc, c1, c2, c3⟩ | ⟨mc, c1, c2, c3⟩ <;>
    rw [ma, mb, mc] at h ⊢ <;> first | (exact absurd h (by decide)) | skip
  · exact ⟨det_rgb a1 a2 a3 b1 b2 b3 c1 c2 c3, (a1.mul b2).mul c3⟩
  · refine ⟨?_, (a1.mul b3).mul c2⟩
    rw [det_swap2, show i + j + k = i + k + j by omega]
    exact (det_rgb a1 a2 a3 c1 c2 c3 b1 b2 b3).neg
  · refine ⟨?_, (a2.mul b1).mul c3⟩
    rw [det_swap1, show i + j + k = j + i + k by omega]
    exact (det_rgb b1 b2 b3 a1 a2 a3 c1 c2 c3).neg
  · refine ⟨?_, (a2.mul b3).mul c1⟩
    rw [det_swap2, det_swap1, Int.neg_neg, show i + j + k = k + i + j by omega]
    exact det_rgb c1 c2 c3 a1 a2 a3 b1 b2 b3
  · refine ⟨?_, (a3.mul b1).mul c2⟩
    rw [det_swap1, det_swap2, Int.neg_neg, show i + j + k = j + k + i by omega]
    exact det_rgb b1 b2 b3 c1 c2 c3 a1 a2 a3
  · refine ⟨?_, (a3.mul b2).mul c1⟩
    rw [det_swap1, det_swap2, det_swap1, Int.neg_neg, show i + j + k = k + j + i by omega]
    exact (det_rgb c1 c2 c3 b1 b2 b3 a1 a2 a3).neg
/-- the law's last question -/
theorem area_worth {a b c : Spot} (ha : Fine a) (hb : Fine b) (hc : Fine c) (h : rain (mark a) (mark b) (mark c) = true) :
    det a b c ≠ 0 ∧ low (det a b c).natAbs = low (co a (mark a) * co b (mark b) * co c (mark c)) := by
  obtain ⟨k, h1, h2⟩ := det_rain ha hb hc h
  refine ⟨h1.ne, ?_⟩
  have h3 : Val ((co a (mark a) * co b (mark b) * co c (mark c) : Nat) : Int) k := by push_cast; exact h2
  rw [low_of_val h3]
  apply low_of_val
  rcases Int.natAbs_eq (det a b c) with e | e
  · rw [← e]; exact h1
  · have : ((det a b c).natAbs : Int) = - det a b c := by omega
    rw [this]; exact h1.neg
end Mine
end
section
namespace Mine
noncomputable abbrev Face := Nat × Nat × Nat
structure St where
  spots : List Spot
  faces : List Face
  lines : List Face
noncomputable def spotAt (S : List Spot) (i : Nat) : Spot := S.getD i (0, 0, 0)
noncomputable def kindOf (q : Nat) : Nat := q / 16 % 4
noncomputable def share (q : Nat) : Nat → Nat
  | 0 => if kindOf q = 0 then 0 else 1 + q / 64 % 5
  | 1 => if kindOf q = 1 then 0 else 1 + q / 320 % 5
  | _ => if kindOf q = 2 then 0 else 1 + q / 1600 % 5
noncomputable def mixed (S : List Spot) (f : Face) (q : Nat) (c : Nat) : Nat := share q 0 * co (spotAt S f.1) c + share q 1 * co (spotAt S f.2.1) c + share q 2 * co (spotAt S f.2.2) c
noncomputable def newSpot (S : List Spot) (f : Face) (q : Nat) : Spot := (mixed S f q 0, mixed S f q 1, mixed S f q 2)
noncomputable def pieces (n : Nat) (f : Face) : List Face := [(n, f.2.1, f.2.2), (f.1, n, f.2.2), (f.1, f.2.1, n)]
noncomputable def cutFace (S : St) (q : Nat) : Face := S.faces.getD (q % S.faces.length) (0, 0, 0)
noncomputable def cut (S : St) (q : Nat) : St where
  spots := S.spots ++ [newSpot S.spots (cutFace S q) q]
  faces := S.faces.eraseIdx (q % S.faces.length) ++ (pieces S.spots.length (cutFace S q)).eraseIdx (kindOf q)
  lines := S.lines ++ ((pieces S.spots.length (cutFace S q))[kindOf q]?).toList
noncomputable def start : St := ⟨[(0, 0, 1), (1, 0, 1), (1, 1, 1), (0, 1, 1)], [(0, 1, 2), (0, 2, 3)], []⟩
noncomputable def markAt (S : List Spot) (i : Nat) : Nat := mark (spotAt S i)
noncomputable def rainF (S : List Spot) (f : Face) : Bool := rain (markAt S f.1) (markAt S f.2.1) (markAt S f.2.2)
noncomputable def detF (S : List Spot) (f : Face) : Int := det (spotAt S f.1) (spotAt S f.2.1) (spotAt S f.2.2)
noncomputable def inF (n : Nat) (f : Face) : Prop := f.1 < n ∧ f.2.1 < n ∧ f.2.2 < n
noncomputable def rains (S : List Spot) (l : List Face) : Nat := l.countP (rainF S)
structure Inv (k : Nat) (S : St) : Prop where
  len : S.spots.length = 4 + k
  ne : 0 < S.faces.length
  inFaces : ∀ f ∈ S.faces, inF S.spots.length f
  inLines : ∀ f ∈ S.lines, inF S.spots.length f
  fine : ∀ p ∈ S.spots, p.1 ≤ p.2.2 ∧ p.2.1 ≤ p.2.2 ∧ 0 < p.2.2 ∧ p.2.2 ≤ 15 ^ k
  flat : ∀ f ∈ S.lines, detF S.spots f = 0
  odd : (rains S.spots S.faces + rains S.spots S.lines) % 2 = 1
theorem mark_lt (p : Spot) : mark p < 3 := by unfold mark; split <;> (try split) <;> omega
theorem cocycle : ∀ n < 3, ∀ a < 3, ∀ b < 3, ∀ c < 3, ((rain n b c).toNat + (rain a n c).toNat + (rain a b n).toNat) % 2 = (rain a b c).toNat % 2 := by decide
theorem spotAt_old {S : List Spot} {p : Spot} {i : Nat} (h : i < S.length) : spotAt (S ++ [p]) i = spotAt S i := by
  unfold spotAt
  rw [List.getD_eq_getElem?_getD, List.getD_eq_getElem?_getD, List.getElem?_append_left h]
theorem spotAt_new {S : List Spot} {p : Spot} : spotAt (S ++ [p]) S.length = p := by
  unfold spotAt
  rw [List.getD_eq_getElem?_getD, List.getElem?_append_right (Nat.le_refl _)]
  simp
theorem spotAt_mem {S : List Spot} {i : Nat} (h : i < S.length) : spotAt S i ∈ S := by
  unfold spotAt
  rw [List.getD_eq_getElem?_getD, List.getElem?_eq_getElem h]
  exact List.getElem_mem h
theorem rainF_old {S : List Spot} {p : Spot} {f : Face} (h : inF S.length f) : rainF (S ++ [p]) f = rainF S f := by
  unfold rainF markAt
  rw [spotAt_old h.1, spotAt_old h.2.1, spotAt_old h.2.2]
theorem detF_old {S : List Spot} {p : Spot} {f : Face} (h : inF S.length f) : detF (S ++ [p]) f = detF S f := by
  unfold detF
  rw [spotAt_old h.1, spotAt_old h.2.1, spotAt_old h.2.2]
theorem rains_old {S : List Spot} {p : Spot} {l : List Face} (h : ∀ f ∈ l, inF S.length f) : rains (S ++ [p]) l = rains S l := by
  unfold rains
  exact List.countP_congr fun f hf => by rw [rainF_old (h f hf)]
theorem count_erase {α : Type} (P : α → Bool) : ∀ (l : List α) (j : Nat) (h : j < l.length), l.countP P = (l.eraseIdx j).countP P + (P l[j]).toNat
  | a :: l, 0, _ => by
    rw [List.countP_cons]
    simp only [List.eraseIdx_cons_zero, List.getElem_cons_zero]
    cases P a <;> rfl
  | a :: l, j + 1, h => by
    rw [List.countP_cons, List.eraseIdx_cons_succ, List.countP_cons, count_erase P l j (Nat.lt_of_succ_lt_succ h)]
    simp only [List.getElem_cons_succ]
    omega
theorem share_pos {q : Nat} : (0 < share q 0 ∨ 0 < share q 1) := by
  by_cases h : kindOf q = 0
  · right
    show 0 < (if kindOf q = 1 then 0 else 1 + q / 320 % 5)
    rw [if_neg (by rw [h]; decide)]; omega
  · left
    show 0 < (if kindOf q = 0 then 0 else 1 + q / 64 % 5)
    rw [if_neg h]; omega
theorem share_le {q i : Nat} : share q i ≤ 5 := by
  unfold share
  split <;> split <;> omega
theorem rains_app {S : List Spot} {a b : List Face} : rains S (a ++ b) = rains S a + rains S b := List.countP_append
theorem kind_cases (q : Nat) : kindOf q = 0 ∨ kindOf q = 1 ∨ kindOf q = 2 ∨ kindOf q = 3 := by unfold kindOf; omega
theorem parity_add {x e l a b r p : Nat} (h : (x + l) % 2 = 1) (hx : x = e + r) (hp : a + b = p) (hr : p % 2 = r % 2) : (e + a + (l + b)) % 2 = 1 := by omega
theorem len_add {l k : Nat} (h : l = 4 + k) : l + 1 = 4 + (k + 1) := by omega
theorem Inv.cut {k : Nat} {S : St} (h : Inv k S) (q : Nat) : Inv (k + 1) (cut S q) := by
  obtain ⟨len, ne, iF, iL, fine, flat, odd⟩ := h
  have hj : q % S.faces.length < S.faces.length := Nat.mod_lt _ ne
  have hface : cutFace S q = S.faces[q % S.faces.length] := by
    unfold cutFace
    rw [List.getD_eq_getElem?_getD, List.getElem?_eq_getElem hj]; rfl
  have hmem : cutFace S q ∈ S.faces := by rw [hface]; exact List.getElem_mem hj
  have hin := iF _ hmem
  have hcount : rains S.spots S.faces = rains S.spots (S.faces.eraseIdx (q % S.faces.length)) + (rainF S.spots (cutFace S q)).toNat := by
    rw [hface]; exact count_erase _ _ _ hj
  generalize hf : cutFace S q = f at hmem hin hcount
  generalize hE : S.faces.eraseIdx (q % S.faces.length) = E at hcount
  have hEm : ∀ g ∈ E, g ∈ S.faces := fun g hg => by rw [← hE] at hg; exact List.mem_of_mem_eraseIdx hg
  have hs : (Mine.cut S q).spots = S.spots ++ [newSpot S.spots f q] := by rw [← hf]; rfl
  have hfa : (Mine.cut S q).faces = E ++ (pieces S.spots.length f).eraseIdx (kindOf q) := by rw [← hf, ← hE]; rfl
  have hli : (Mine.cut S q).lines = S.lines ++ ((pieces S.spots.length f)[kindOf q]?).toList := by rw [← hf]; rfl
  generalize hp : newSpot S.spots f q = p at hs
  have hlen : (S.spots ++ [p]).length = S.spots.length + 1 := by simp
  have hpin : ∀ g ∈ pieces S.spots.length f, inF (S.spots.length + 1) g := by
    obtain ⟨a, b, c⟩ := hin
    intro g hg
    unfold pieces at hg
    simp only [List.mem_cons, List.not_mem_nil, or_false] at hg
    rcases hg with rfl | rfl | rfl <;> (unfold inF; dsimp only; omega)
  have up : ∀ g, inF S.spots.length g → inF (S.spots.length + 1) g := fun g hg => ⟨by have := hg.1; omega, by have := hg.2.1; omega, by have := hg.2.2; omega⟩
  have hk := kind_cases q
  refine ⟨by rw [hs, hlen]; exact len_add len, ?_, ?_, ?_, ?_, ?_, ?_⟩
  · rw [hfa, List.length_append]
    rcases hk with e | e | e | e <;> rw [e] <;> simp [pieces] 
  · rw [hfa, hs, hlen]
    intro g hg
    rcases List.mem_append.mp hg with hg | hg
    · exact up g (iF g (hEm g hg))
    · exact hpin g (List.mem_of_mem_eraseIdx hg)
  · rw [hli, hs, hlen]
    intro g hg
    rcases List.mem_append.mp hg with hg | hg
    · exact up g (iL g hg)
    · exact hpin g (List.mem_of_getElem? (by simpa using hg))
  · rw [hs]
    intro r hr
    rcases List.mem_append.mp hr with hr | hr
    · obtain ⟨a, b, c, d⟩ := fine r hr
      exact ⟨a, b, c, Nat.le_trans d (Nat.pow_le_pow_right (by decide) (by omega))⟩
    · obtain rfl : r = p := by simpa using hr
      obtain ⟨a1, a2, a3, a4⟩ := fine _ (spotAt_mem hin.1)
      obtain ⟨b1, b2, b3, b4⟩ := fine _ (spotAt_mem hin.2.1)
      obtain ⟨c1, c2, c3, c4⟩ := fine _ (spotAt_mem hin.2.2)
      rw [← hp]
      unfold newSpot mixed
      simp only [co]
      refine ⟨?_, ?_, ?_, ?_⟩
      · exact Nat.add_le_add (Nat.add_le_add (Nat.mul_le_mul_left _ a1) (Nat.mul_le_mul_left _ b1)) (Nat.mul_le_mul_left _ c1)
      · exact Nat.add_le_add (Nat.add_le_add (Nat.mul_le_mul_left _ a2) (Nat.mul_le_mul_left _ b2)) (Nat.mul_le_mul_left _ c2)
      · rcases share_pos (q := q) with h | h
        · have := Nat.mul_pos h a3; omega
        · have := Nat.mul_pos h b3; omega
      · have x1 := Nat.mul_le_mul (share_le (q := q) (i := 0)) a4
        have x2 := Nat.mul_le_mul (share_le (q := q) (i := 1)) b4
        have x3 := Nat.mul_le_mul (share_le (q := q) (i := 2)) c4
        rw [Nat.pow_succ]
        omega
  · rw [hli, hs]
    intro g hg
    rcases List.mem_append.mp hg with hg | hg
    · rw [detF_old (iL g hg)]; exact flat g hg
    · have hg' : (pieces S.spots.length f)[kindOf q]? = some g := by simpa using hg
      have k1 : ∀ {i}, i < S.spots.length → spotAt (S.spots ++ [p]) i = spotAt S.spots i := fun h => spotAt_old h
      have z0 : kindOf q = 0 → share q 0 = 0 := fun e => by simp [share, e]
      have z1 : kindOf q = 1 → share q 1 = 0 := fun e => by simp [share, e]
      have z2 : kindOf q = 2 → share q 2 = 0 := fun e => by simp [share, e]
      rcases hk with e | e | e | e <;> rw [e] at hg' <;> simp [pieces] at hg' <;> subst hg' <;> unfold detF <;> dsimp only <;> rw [spotAt_new] <;> simp only [k1 hin.1, k1 hin.2.1, k1 hin.2.2] <;> rw [← hp] <;> unfold newSpot mixed det
      · rw [z0 e]; simp only [co]; push_cast; grind
      · rw [z1 e]; simp only [co]; push_cast; grind
      · rw [z2 e]; simp only [co]; push_cast; grind
  · rw [hfa, hli, hs]
    have e1 : rains (S.spots ++ [p]) E = rains S.spots E := rains_old fun g hg => iF g (hEm g hg)
    have e2 : rains (S.spots ++ [p]) S.lines = rains S.spots S.lines := rains_old iL
    have e3 : rains (S.spots ++ [p]) ((pieces S.spots.length f).eraseIdx (kindOf q)) + rains (S.spots ++ [p]) (((pieces S.spots.length f)[kindOf q]?).toList) = rains (S.spots ++ [p]) (pieces S.spots.length f) := by
      rcases hk with e | e | e | e <;> rw [e]
      · rw [show rains (S.spots ++ [p]) (pieces S.spots.length f) = _ from count_erase _ (pieces S.spots.length f) 0 (by simp [pieces])]
        simp [rains, pieces, List.countP_cons]; cases rainF (S.spots ++ [p]) (S.spots.length, f.2.1, f.2.2) <;> rfl
      · rw [show rains (S.spots ++ [p]) (pieces S.spots.length f) = _ from count_erase _ (pieces S.spots.length f) 1 (by simp [pieces])]
        simp [rains, pieces, List.countP_cons]; cases rainF (S.spots ++ [p]) (f.1, S.spots.length, f.2.2) <;> rfl
      · rw [show rains (S.spots ++ [p]) (pieces S.spots.length f) = _ from count_erase _ (pieces S.spots.length f) 2 (by simp [pieces])]
        simp [rains, pieces, List.countP_cons]; cases rainF (S.spots ++ [p]) (f.1, f.2.1, S.spots.length) <;> rfl
      · simp [rains, pieces]
    have e4 : rains (S.spots ++ [p]) (pieces S.spots.length f) % 2 = (rainF S.spots f).toNat % 2 := by
      have c := cocycle (mark p) (mark_lt p) (markAt S.spots f.1) (mark_lt _) (markAt S.spots f.2.1) (mark_lt _) (markAt S.spots f.2.2) (mark_lt _)
      unfold rainF
      rw [← c]
      unfold rains pieces
      simp only [List.countP_cons, List.countP_nil, rainF, markAt, spotAt_new, spotAt_old hin.1, spotAt_old hin.2.1, spotAt_old hin.2.2]
      have b : ∀ x : Bool, (if x = true then 1 else 0) = x.toNat := fun x => by cases x <;> rfl
      simp only [b]
      congr 1; omega
    rw [rains_app, rains_app, e1, e2]
    exact parity_add odd hcount e3 e4
end Mine
end
section
namespace Mine
theorem inv_start : Inv 0 start where
  len := rfl
  ne := by decide
  inFaces := by intro f hf; simp [start] at hf; rcases hf with rfl | rfl <;> (unfold inF; decide)
  inLines := by intro f hf; simp [start] at hf
  fine := by intro p hp; simp [start] at hp; rcases hp with rfl | rfl | rfl | rfl <;> decide
  flat := by intro f hf; simp [start] at hf
  odd := by decide
theorem inv_run : ∀ (l : List Nat) (k : Nat) (S : St), Inv k S → Inv (k + l.length) (l.foldl cut S)
  | [], _, _, h => h
  | q :: l, k, S, h => by
    rw [List.foldl_cons, List.length_cons, show k + (l.length + 1) = k + 1 + l.length by omega]
    exact inv_run l (k + 1) _ (h.cut q)
theorem Inv.fine' {k : Nat} {S : St} (h : Inv k S) (hk : k ≤ 5) {p : Spot} (hp : p ∈ S.spots) : Fine p := by
  obtain ⟨a, b, c, d⟩ := h.fine p hp
  have : 15 ^ k ≤ 15 ^ 5 := Nat.pow_le_pow_right (by decide) hk
  exact ⟨a, b, c, by omega⟩
theorem Inv.rain {k : Nat} {S : St} (h : Inv k S) (hk : k ≤ 5) {f : Face} (hf : f ∈ S.lines ++ S.faces) (hr : rainF S.spots f = true) :
    f ∉ S.lines ∧ low (detF S.spots f).natAbs = low (co (spotAt S.spots f.1) (markAt S.spots f.1) * co (spotAt S.spots f.2.1) (markAt S.spots f.2.1) * co (spotAt S.spots f.2.2) (markAt S.spots f.2.2)) := by
  have hin : inF S.spots.length f := by
    rcases List.mem_append.mp hf with hf | hf
    · exact h.inLines f hf
    · exact h.inFaces f hf
  obtain ⟨h1, h2⟩ := area_worth (h.fine' hk (spotAt_mem hin.1)) (h.fine' hk (spotAt_mem hin.2.1)) (h.fine' hk (spotAt_mem hin.2.2)) hr
  exact ⟨fun hl => h1 (h.flat f hl), h2⟩
theorem Inv.odd' {k : Nat} {S : St} (h : Inv k S) : (S.lines ++ S.faces).countP (rainF S.spots) % 2 = 1 := by
  have := h.odd
  unfold rains at this
  rw [List.countP_append]; omega
end Mine
end
section
open PySem PySem.W PyProof.Rows
set_option Elab.async false
set_option maxRecDepth 100000
set_option maxHeartbeats 1000000
set_option linter.unusedVariables false
namespace Mine
/-- a tuple of three numbers -/
noncomputable def Tup3 (h : Heap) (v : Value) (p : Nat × Nat × Nat) : Prop := ∃ a t0 t1 t2, v = .ref a ∧ h.IsTuple a #[.int (p.1 : Nat) t0, .int (p.2.1 : Nat) t1, .int (p.2.2 : Nat) t2]
inductive Tups (h : Heap) : List Value → List (Nat × Nat × Nat) → Prop
  | nil : Tups h [] []
  | cons {v p vs ps} : Tup3 h v p → Tups h vs ps → Tups h (v :: vs) (p :: ps)
theorem Tup3.move {h h' : Heap} {v : Value} {p : Nat × Nat × Nat} (x : Tup3 h v p) (k : ∀ a vs, h.IsTuple a vs → h'.IsTuple a vs) : Tup3 h' v p := by
  obtain ⟨a, t0, t1, t2, e, r⟩ := x
  exact ⟨a, t0, t1, t2, e, k _ _ r⟩
theorem Tups.move {h h' : Heap} {vs : List Value} {ps : List (Nat × Nat × Nat)} (x : Tups h vs ps) (k : ∀ a vs, h.IsTuple a vs → h'.IsTuple a vs) : Tups h' vs ps := by
  induction x with
  | nil => exact .nil
  | cons a _ ih => exact .cons (a.move k) ih
theorem Tups.len {h : Heap} {vs : List Value} {ps : List (Nat × Nat × Nat)} (x : Tups h vs ps) : vs.length = ps.length := by
  induction x with
  | nil => rfl
  | cons a _ ih => simp [ih]
theorem Tups.at_ {h : Heap} {vs : List Value} {ps : List (Nat × Nat × Nat)} (x : Tups h vs ps) : ∀ {i : Nat} {p : Nat × Nat × Nat}, ps[i]? = some p → ∃ v, vs[i]? = some v ∧ Tup3 h v p := by
  induction x with
  | nil => intro i p e; simp at e
  | cons a _ ih =>
    intro i p e
    cases i with
    | zero => cases e; exact ⟨_, rfl, a⟩
    | succ i => exact ih (i := i) e
theorem Tups.erase {h : Heap} {vs : List Value} {ps : List (Nat × Nat × Nat)} (x : Tups h vs ps) : ∀ i, Tups h (vs.eraseIdx i) (ps.eraseIdx i) := by
  induction x with
  | nil => intro i; exact .nil
  | cons a r ih =>
    intro i
    cases i with
    | zero => exact r
    | succ i => exact .cons a (ih i)
theorem Tups.append {h : Heap} {vs ws : List Value} {ps qs : List (Nat × Nat × Nat)} (x : Tups h vs ps) (y : Tups h ws qs) : Tups h (vs ++ ws) (ps ++ qs) := by
  induction x with
  | nil => exact y
  | cons a r ih => exact .cons a ih
theorem Tups.one {h : Heap} {v : Value} {p : Nat × Nat × Nat} (x : Tup3 h v p) : Tups h [v] [p] := .cons x .nil
theorem bpos {d : Bool} {P Q : Prop} (h : d = true) (p : P) : if d = true then P else Q := by rw [if_pos h]; exact p
theorem bneg {d : Bool} {P Q : Prop} (h : d = false) (q : Q) : if d = true then P else Q := by rw [h]; exact q
noncomputable def lawScope (P : Params) : Scope := match (o_219 P).data with | .func fd => fd.scope | _ => { kind := .function, names := [], isGenerator := false, isCoroutine := false, more := [] }
noncomputable def lawEnv (P : Params) (L : Addr) : Env := envOfC (Str.ofString "law") (lawScope P) L 219 (.ref 218)
noncomputable def forBody : Option Stmt → List Stmt
  | some (.For _ _ b _ _) => b
  | _ => []
noncomputable def cutBody : List Stmt := forBody ((bodyAt 18)[5]?)
noncomputable def markBody : List Stmt := forBody ((bodyAt 18)[8]?)
noncomputable def lastBody : List Stmt := forBody ((bodyAt 18)[10]?)
section
variable {w : World} {A : Around} {E : Value → Shared → Prop} {s : Shared} {b u : Heap} {L : Addr} {m : Str → Option Value} {l : List (Addr × Thing)}
theorem st_local {P : Params} {x : Str} {v : Value} {Q : Unit → Shared → Prop} (f : Fm b u L s.heap m l) (k : ∀ h', Fm b u L h' (fun y => if y = x then some v else m y) l → Q () { s with heap := h', toks := s.toks + 1 }) (hx : (lawEnv P L).kindOf x = some .local := by rfl) :
    wpAny (model rwp w) A (storeName (lawEnv P L) x v) Q E s :=
  wpAny_storeName_local hx f.ns (fun h' hn hs => k h' (f.name hn hs.extBut)) (by rfl)
theorem st_new {P : Params} {x : Str} {v : Value} {Q : Unit → Shared → Prop} (f : Fm b u L s.heap m l) (k : ∀ h' m', Fm b u L h' m' l → m' x = some v → (∀ y, y ≠ x → m' y = m y) → Q () { s with heap := h', toks := s.toks + 1 }) (hx : (lawEnv P L).kindOf x = some .local := by rfl) :
    wpAny (model rwp w) A (storeName (lawEnv P L) x v) Q E s :=
  st_local f (fun h' f' => k h' _ f' (if_pos rfl) fun y hy => if_neg hy) hx
theorem st_cell {P : Params} {x : Str} {c : Addr} {v : Value} {v₀ : Option Value} {Q : Unit → Shared → Prop} (f : Fm b u L s.heap m l) (i : Nat) (e : l[i]? = some (c, .cell v₀)) (k : ∀ h', Fm b u L h' m (l.set i (c, .cell (some v))) → Q () { s with heap := h' })
    (hc : (lawEnv P L).cells.lookup x = some c := by rfl) (hx : (lawEnv P L).kindOf x = some .cell := by rfl) :
    wpAny (model rwp w) A (storeName (lawEnv P L) x v) Q E s :=
  wpAny_storeName_cell (by rfl) hx hc (f.cell i e) fun h' hv hs => k h' (f.set i e rfl hs.extBut hv)
theorem new_list {vs : List Value} {Q : Value → Shared → Prop} (f : Fm b u L s.heap m l) (k : ∀ D h', Fm b u L h' m (l ++ [(D, .list vs)]) → Q (.ref D) { s with heap := h' }) (hsz : vs.length ≤ sizeLine := by size_fits) :
    wpAny (model rwp w) A (newList vs) Q E s :=
  wpAny_newList (k _ _ (f.snoc (fun _ _ e => Heap.get?_push_of_some _ e) (Heap.get?_none_of_le (Nat.le_refl _)) ⟨0, Heap.get?_push_size _ rfl⟩)) hsz
theorem new_tup {vs : List Value} {Q : Value → Shared → Prop} (f : Fm b u L s.heap m l) (k : ∀ D h', Fm b u L h' m (l ++ [(D, .tup vs)]) → Q (.ref D) { s with heap := h' }) (hsz : vs.length ≤ sizeLine := by size_fits) :
    wpAny (model rwp w) A (newTuple vs) Q E s :=
  wpAny_newTuple (k _ _ (f.snoc (fun _ _ e => Heap.get?_push_of_some _ e) (Heap.get?_none_of_le (Nat.le_refl _)) ⟨_, Heap.get?_push_size _ rfl, rfl, _, rfl⟩)) hsz
theorem meth_list {D : Addr} {vs : List Value} {name : Str} {id : String} {pl : Sem Bool} {Q : Value × List Value → Shared → Prop} (h : s.heap.PlainList D vs.toArray) (slot : Slot "list" name id) (hty : typeOf (.builtin id) = pure (.type "method_descriptor"))
    (k : Q (.builtin id, [.ref D]) s) : wpAny (model rwp w) A (getMethod (.ref D) name pl) Q E s := by
  obtain ⟨n, e⟩ := h
  exact getMethod_builtin ⟨_, e, rfl⟩ PySem.F.plainAttrs_list slot hty (fun a q => by cases q; exact ⟨_, e, rfl⟩) k
theorem pl_update {h : Heap} {D : Addr} {vs : List Value} (x : h.PlainList D vs.toArray) (g : Array Value → Array Value) : (h.update D (Obj.mapSeq g)).PlainList D (g vs.toArray) := by
  obtain ⟨n, e⟩ := x
  exact ⟨_, PySem.IsL.update (show PySem.IsL h D vs.toArray n from e) g⟩
theorem pl_update' {h : Heap} {D : Addr} {vs ws : List Value} (x : h.PlainList D vs.toArray) (g : Array Value → Array Value) (e : g vs.toArray = ws.toArray) : (h.update D (Obj.mapSeq g)).PlainList D ws.toArray := by
  rw [← e]; exact pl_update x g
theorem app_fm {D : Addr} {vs : List Value} {v : Value} {Q : Value → Shared → Prop} (f : Fm b u L s.heap m l) (i : Nat) (e : l[i]? = some (D, .list vs)) (hsz : vs.length ≤ 1000) (k : ∀ h', Fm b u L h' m (l.set i (D, .list (vs ++ [v]))) → Q .none { s with heap := h' }) :
    wpAny (model rwp w) A (call (.builtin "list.append") [.ref D, v]) Q E s := by
  have hp := f.list i e
  obtain ⟨n, x⟩ := id hp
  refine call_meets PySem.F.slot_list_append ⟨_, x, rfl⟩ PySem.F.entry_list_append (PySem.F.args_list_append_2 _ _) (PySem.list_append D vs.toArray n v (by rw [List.size_toArray, sizeLine_eq]; omega)) ⟨x, k _ (f.set i e rfl (Heap.SameBut.update ..).extBut (pl_update' hp _ ?_))⟩
  simp
theorem pop_fm {D : Addr} {vs : List Value} {j : Nat} {t : Tok} {y : Value} {Q : Value → Shared → Prop} (f : Fm b u L s.heap m l) (i : Nat) (e : l[i]? = some (D, .list vs)) (hsz : vs.length ≤ 1000) (hy : vs[j]? = some y) (k : ∀ h', Fm b u L h' m (l.set i (D, .list (vs.eraseIdx j))) → Q y { s with heap := h' }) :
    wpAny (model rwp w) A (call (.builtin "list.pop") [.ref D, .int (j : Nat) t]) Q E s := by
  have hp := f.list i e
  obtain ⟨n, x⟩ := id hp
  have hj : j < vs.length := by
    rcases Nat.lt_or_ge j vs.length with q | q
    · exact q
    · rw [List.getElem?_eq_none q] at hy; cases hy
  have h1 : Builtin.List.listFitsIndex ((j : Nat) : Int) = true := by
    unfold Builtin.List.listFitsIndex
    simp only [Bool.and_eq_true, decide_eq_true_eq]
    omega
  have h2 : seqIndex? ((j : Nat) : Int) vs.toArray.size = some j := by
    unfold seqIndex?
    rw [List.size_toArray]
    dsimp only
    rw [if_neg (by omega : ¬ ((j : Nat) : Int) < 0), if_pos (by simp only [Bool.and_eq_true, decide_eq_true_eq]; omega), Int.toNat_natCast]
  have h3 : vs.toArray[j]? = some y := by rw [List.getElem?_toArray]; exact hy
  have h4 : vs.toArray.size ≤ sizeLine := by rw [List.size_toArray, sizeLine_eq]; omega
  have h5 : vs.toArray.eraseIdxIfInBounds j = (vs.eraseIdx j).toArray := by
    unfold Array.eraseIdxIfInBounds
    rw [dif_pos (by rw [List.size_toArray]; exact hj)]
    apply Array.toList_inj.mp
    rw [Array.toList_eraseIdx]
  exact call_meets PySem.F.slot_list_pop ⟨_, x, rfl⟩ PySem.F.entry_list_pop (PySem.F.args_list_pop_2 _ _) (@PySem.MeetsSeq.list_pop_at D vs.toArray n ((j : Nat) : Int) t j y h1 h2 h3 h4) ⟨x, k _ (f.set i e rfl (Heap.SameBut.update ..).extBut (pl_update' hp (fun xs => xs.eraseIdxIfInBounds j) h5))⟩
theorem ext_fm {D B : Addr} {vs ws : List Value} {Q : Value → Shared → Prop} (f : Fm b u L s.heap m l) (i j : Nat) (e : l[i]? = some (D, .list vs)) (e' : l[j]? = some (B, .list ws)) (hsz : vs.length ≤ 1000) (hsz' : ws.length ≤ 1000) (k : ∀ h', Fm b u L h' m (l.set i (D, .list (vs ++ ws))) → Q .none { s with heap := h' }) :
    wpAny (model rwp w) A (call (.builtin "list.extend") [.ref D, .ref B]) Q E s := by
  have hp := f.list i e
  obtain ⟨n, x⟩ := id hp
  obtain ⟨n', x'⟩ := f.list j e'
  have h1 : vs.toArray.size + ws.toArray.size ≤ sizeLine := by rw [List.size_toArray, List.size_toArray, sizeLine_eq]; omega
  refine call_meets PySem.F.slot_list_extend ⟨_, x, rfl⟩ PySem.F.entry_list_extend (PySem.F.args_list_extend_2 _ _) (PySem.AutoSeq1.list_extend_list_list_0 D vs.toArray n B ws.toArray n' (extend_door h1) (by rw [List.size_toArray, sizeLine_eq]; omega) (Nat.le_succ_of_le h1)) ⟨x, x', k _ (f.set i e rfl (Heap.SameBut.update ..).extBut (pl_update' hp _ ?_))⟩
  simp
theorem set_fm {D : Addr} {vs : List Value} {j : Nat} {t : Tok} {v : Value} {Q : Unit → Shared → Prop} (f : Fm b u L s.heap m l) (i : Nat) (e : l[i]? = some (D, .list vs)) (hj : j < vs.length) (hsz : vs.length ≤ 1000) (k : ∀ h', Fm b u L h' m (l.set i (D, .seq (vs.set j v))) → Q () { s with heap := h' }) :
    wpAny (model rwp w) A (setItem (.ref D) (.int (j : Nat) t) v) Q E s := by
  refine wpAny_setItem_list (f.list i e).isList (by omega) (by omega) (by rw [List.size_toArray]; omega) fun h' hl hs => k h' (f.set i e rfl hs.extBut ?_)
  show h'.IsList D _
  rw [Int.toNat_natCast] at hl
  rw [show (vs.set j v).toArray = vs.toArray.setIfInBounds j v by simp]
  exact hl
theorem nm_m {P : Params} {x : Str} {v : Value} {pos : Pos} {Q : Value → Shared → Prop} (f : Fm b u L s.heap m l) (hv : m x = some v) (h : Q v s) (hx : (lawEnv P L).kindOf x = some .local := by rfl) (hd : (x == ("__debug__" : Str)) = false := by decide) :
    wpAny (model rwp w) A (eval (.Name x pos) (lawEnv P L)) Q E s := nm_own f.ns hv h (by rfl) (by rfl) hx hd
theorem nm_c {P : Params} {x : Str} {c : Addr} {v : Value} {pos : Pos} {Q : Value → Shared → Prop} (f : Fm b u L s.heap m l) (i : Nat) (e : l[i]? = some (c, .cell (some v))) (h : Q v s) (hc : (lawEnv P L).cells.lookup x = some c := by rfl) (hx : (lawEnv P L).kindOf x = some .cell := by rfl) (hd : (x == ("__debug__" : Str)) = false := by decide) :
    wpAny (model rwp w) A (eval (.Name x pos) (lawEnv P L)) Q E s := nm_cell (f.cell i e) h hc (by rfl) hx hd
end
end Mine
end
section
open PySem PySem.W PyProof.Rows
set_option Elab.async false
set_option maxRecDepth 100000
set_option maxHeartbeats 1000000
set_option linter.unusedVariables false
namespace Mine
theorem isList_up {h h' : Heap} {a : Addr} {vs : Array Value} (x : h.IsList a vs) (k : Up h h') : h'.IsList a vs := x.at fun o e => k _ _ e
theorem isTup_up {h h' : Heap} {a : Addr} {vs : Array Value} (x : h.IsTuple a vs) (k : Up h h') : h'.IsTuple a vs := by obtain ⟨o, e, r⟩ := x; exact ⟨o, k _ _ e, r⟩
noncomputable def pick3 (a0 a1 a2 : Nat) : Nat → Nat
  | 0 => a0
  | 1 => a1
  | _ => a2
theorem three_at {a0 a1 a2 : Nat} {t0 t1 t2 : Tok} {i : Nat} (hi : i < 3) : ∃ t, ([.int (a0 : Nat) t0, .int (a1 : Nat) t1, .int (a2 : Nat) t2] : List Value)[((i : Nat) : Int).toNat]? = some (.int ((pick3 a0 a1 a2 i : Nat)) t) := by
  rw [Int.toNat_natCast]
  match i, hi with
  | 0, _ => exact ⟨t0, rfl⟩
  | 1, _ => exact ⟨t1, rfl⟩
  | 2, _ => exact ⟨t2, rfl⟩
theorem co_pick (p : Spot) (c : Nat) : pick3 p.1 p.2.1 p.2.2 c = co p c := by
  match c with
  | 0 => rfl
  | 1 => rfl
  | c + 2 => rfl
theorem pick_lt {a b c n i : Nat} (ha : a < n) (hb : b < n) (hc : c < n) : pick3 a b c i < n := by
  match i with
  | 0 => exact ha
  | 1 => exact hb
  | i + 2 => exact hc
noncomputable def argOf : Option Stmt → PySem.Expr
  | some (PySem.Stmt.Expr (PySem.Expr.Call _ [e] _ _) _) => e
  | _ => PySem.Expr.Constant (.int 0) 0 ⟨0, 0, 0, 0⟩
noncomputable def spotExpr : PySem.Expr := argOf (cutBody[4]?)
theorem range3 {w : World} {A : Around} {E : Value → Shared → Prop} {s : Shared} {p : Program} {loose : List Str} {mg mb : Str → Option Value} {env : Env} {p1 p2 p3 : Pos} {k : Nat} (X : (K w.params).In s.heap) (T : TopRead p loose mg mb s.heap)
    (hx : env.kindOf (Str.ofString "range") = some .globalImplicit) (hk : env.scope.kind = .function) (hg : env.globals = mainGlobals) (hb : env.builtins = builtinsNs) :
    wpAny (model rwp w) A (eval (.Call (.Name (Str.ofString "range") p1) [.Constant (.int 3) k p2] [] p3) env) (GotRange s 3) E s := by
  refine Call_ (nm_built (fun _ _ e => e) X T (by kernel_rfl) (by boot_by_name) (by decide) ?_ hg hb hk hx)
  refine callWith_type1 (spliced_more (wpAny_Constant_int (spliced_none ?_)) (by rfl)) (by rfl) (by rfl)
  refine call_range_1 ?_
  exact .of (fun _ _ e => Heap.get?_push_of_some _ e) (Heap.get?_push_size _ rfl)
theorem mix_small {x y : Nat} (h : x ≤ 5) (h' : y < 1048576) : IntMulOk (x : Int) (y : Int) := by
  have := h; have := h'
  mul_fits
theorem new_spot {w : World} {A : Around} {E : Value → Shared → Prop} {s : Shared} {p : Program} {loose : List Str} {mg mb : Str → Option Value} {L sp fc sh : Addr} {vs : List Value} {S : List (Nat × Nat × Nat)} {f0 f1 f2 a0 a1 a2 : Nat} {t0 t1 t2 u0 u1 u2 : Tok} {Q : Value → Shared → Prop} (X : (K w.params).In s.heap) (T : TopRead p loose mg mb s.heap) (hh : A.handled = none)
    (c1 : s.heap.IsCell (L + 1) (some (.ref sp))) (c2 : s.heap.IsCell (L + 2) (some (.ref fc))) (c3 : s.heap.IsCell (L + 3) (some (.ref sh)))
    (hsp : s.heap.IsList sp vs.toArray) (hfc : s.heap.IsTuple fc ([.int (f0 : Nat) t0, .int (f1 : Nat) t1, .int (f2 : Nat) t2] : List Value).toArray) (hsh : s.heap.IsList sh ([.int (a0 : Nat) u0, .int (a1 : Nat) u1, .int (a2 : Nat) u2] : List Value).toArray)
    (hv : Tups s.heap vs S) (hin : inF S.length (f0, f1, f2)) (hlen : S.length ≤ 1000) (b0 : a0 ≤ 5) (b1 : a1 ≤ 5) (b2 : a2 ≤ 5) (hfine : ∀ p ∈ S, p.1 < 1048576 ∧ p.2.1 < 1048576 ∧ p.2.2 < 1048576)
    (hQ : ∀ D h' tk w0 w1 w2, Up s.heap h' → s.heap.get? D = none → h'.IsTuple D ([.int ((a0 * co (spotAt S f0) 0 + a1 * co (spotAt S f1) 0 + a2 * co (spotAt S f2) 0 : Nat)) w0, .int ((a0 * co (spotAt S f0) 1 + a1 * co (spotAt S f1) 1 + a2 * co (spotAt S f2) 1 : Nat)) w1, .int ((a0 * co (spotAt S f0) 2 + a1 * co (spotAt S f1) 2 + a2 * co (spotAt S f2) 2 : Nat)) w2] : List Value).toArray → Q (.ref D) { s with heap := h', toks := tk }) :
    wpAny (model rwp w) A (eval spotExpr (lawEnv w.params L)) Q E s := by
  show wpAny _ _ (eval (PySem.Expr.Call _ _ _ _) _) _ _ _
  refine Call_ (nm_built (fun _ _ e => e) X T (by kernel_rfl) (by boot_by_name) (by decide) ?_)
  refine callWith_type1 ?_ (by rfl) (by rfl)
  refine spliced_more ?_ (by rfl)
  refine comp_rangeC (n := 3) (F := fun c y => ∃ u, y = .int ((a0 * co (spotAt S f0) c + a1 * co (spotAt S f1) c + a2 * co (spotAt S f2) c : Nat)) u) hh (by with_unfolding_all rfl) (by rfl) (fun _ => by rfl) (fun _ => by rfl) (by decide) (fun _ _ => by rfl) (by decide) (by decide) (by decide) ?_ ?_ ?_
  · exact range3 X T (by rfl) (by rfl) (by rfl) (by rfl)
  · intro C c n t s₃ E' hn hc up
    have X₃ : (K w.params).In s₃.heap := fun a o e => up _ _ (X a o e)
    have T₃ := T.keeps up
    refine Call_ (nm_built (fun _ _ e => e) X₃ T₃ (by kernel_rfl) (by boot_by_name) (by decide) ?_)
    refine callWith_builtin1 ?_ (by rfl) (by rfl)
    refine spliced_more ?_ (by rfl)
    refine comp_range (n := 3) (F := fun i y => ∃ u, y = .int ((pick3 a0 a1 a2 i * co (spotAt S (pick3 f0 f1 f2 i)) n : Nat)) u) hh (by with_unfolding_all rfl) (by decide) (by rfl) (by decide) (by rfl) (by decide) (by decide) (by decide) (range3 X₃ T₃ (by rfl) (by rfl) (by rfl) (by rfl)) ?_ ?_
    · intro C2 i ti s₅ m₅ E5 hC2 hi hn5 hm5 up5
      have up' : Up s.heap s₅.heap := fun b o e => up5 _ _ (up _ _ e)
      have hsh5 := isList_up hsh up'
      have hsp5 := isList_up hsp up'
      have hfc5 := isTup_up hfc up'
      obtain ⟨ua, hua⟩ := three_at (a0 := a0) (a1 := a1) (a2 := a2) (t0 := u0) (t1 := u1) (t2 := u2) hi
      obtain ⟨ub, hub⟩ := three_at (a0 := f0) (a1 := f1) (a2 := f2) (t0 := t0) (t1 := t1) (t2 := t2) hi
      have hlt : pick3 f0 f1 f2 i < S.length := pick_lt hin.1 hin.2.1 hin.2.2
      have hmem : spotAt S (pick3 f0 f1 f2 i) ∈ S := spotAt_mem hlt
      obtain ⟨v, hv1, a, w0, w1, w2, rfl, hta⟩ := hv.at_ (i := pick3 f0 f1 f2 i) (p := spotAt S (pick3 f0 f1 f2 i)) (by unfold spotAt; rw [List.getD_eq_getElem?_getD, List.getElem?_eq_getElem hlt]; rfl)
      have hta5 : s₅.heap.IsTuple a ([.int ((spotAt S (pick3 f0 f1 f2 i)).1 : Nat) w0, .int ((spotAt S (pick3 f0 f1 f2 i)).2.1 : Nat) w1, .int ((spotAt S (pick3 f0 f1 f2 i)).2.2 : Nat) w2] : List Value).toArray := isTup_up hta up'
      obtain ⟨uc, huc⟩ := three_at (a0 := (spotAt S (pick3 f0 f1 f2 i)).1) (a1 := (spotAt S (pick3 f0 f1 f2 i)).2.1) (a2 := (spotAt S (pick3 f0 f1 f2 i)).2.2) (t0 := w0) (t1 := w1) (t2 := w2) hn
      rw [co_pick] at huc
      refine wpAny_BinOp (Subscript_ (nm_cell (c3.keeps up') (nm_own hn5 hm5 (tail_list hsh5 (by omega) (by omega) hua ?_))))
      refine Subscript_ (Subscript_ (nm_cell (c1.keeps up') (Subscript_ (nm_cell (c2.keeps up') (nm_own hn5 hm5 (tail_tup hfc5 (by omega) (by omega) hub ?_))))))
      refine tail_list hsp5 (by omega) (by omega) (by rw [Int.toNat_natCast]; exact hv1) ?_
      refine nm_cell (hc.keeps up5) (tail_tup hta5 (by omega) (by omega) huc ?_)
      obtain ⟨g1, g2, g3⟩ := hfine _ hmem
      refine mul_int ?_ (mix_small (by have := pick_lt (n := 6) (i := i) (by omega : a0 < 6) (by omega : a1 < 6) (by omega : a2 < 6); omega) (by rw [← co_pick]; exact pick_lt g1 g2 g3))
      exact Got.of ⟨_, by rw [Int.natCast_mul]⟩ fun _ _ e => e
    · intro D h5 tk5 ys up5 hD pl hp
      obtain ⟨l, el⟩ : ∃ l, l = ys.toList := ⟨_, rfl⟩
      rw [← el] at hp
      cases hp with | cons p1 r1 => cases r1 with | cons p2 r2 => cases r2 with | cons p3 r3 =>
      cases r3
      obtain ⟨v1, rfl⟩ := p1
      obtain ⟨v2, rfl⟩ := p2
      obtain ⟨v3, rfl⟩ := p3
      have hl5 : h5.IsList D (intItems #[((pick3 a0 a1 a2 0 * co (spotAt S (pick3 f0 f1 f2 0)) n : Nat), v1), ((pick3 a0 a1 a2 1 * co (spotAt S (pick3 f0 f1 f2 1)) n : Nat), v2), ((pick3 a0 a1 a2 2 * co (spotAt S (pick3 f0 f1 f2 2)) n : Nat), v3)]) := by
        have q := pl.isList
        rw [← Array.toArray_toList (xs := ys), ← el] at q
        rw [show ∀ p1 p2 p3 : Int × Tok, intItems #[p1, p2, p3] = ([.int p1.1 p1.2, .int p2.1 p2.2, .int p3.1 p3.2] : List Value).toArray from fun _ _ _ => by simp [intItems]]
        exact q
      refine spliced_none ?_
      refine sum_intListG hh hl5 fun h7 tk7 t7 up7 => ?_
      refine Got.of ⟨t7, ?_⟩ fun b o e => up7 _ _ (up5 _ _ e)
      show Value.int (preSum _ 3) t7 = _
      simp only [preSum, numAt, pick3]
      congr 1
      push_cast
      rw [Int.zero_add]; rfl
  · intro D h' tk ys up hD pl hp
    obtain ⟨l, el⟩ : ∃ l, l = ys.toList := ⟨_, rfl⟩
    rw [← el] at hp
    cases hp with | cons p1 r1 => cases r1 with | cons p2 r2 => cases r2 with | cons p3 r3 =>
    cases r3
    obtain ⟨v1, rfl⟩ := p1
    obtain ⟨v2, rfl⟩ := p2
    obtain ⟨v3, rfl⟩ := p3
    have q := pl.isList
    rw [← Array.toArray_toList (xs := ys), ← el] at q
    refine spliced_none ?_
    refine call_tuple_list q (fun h2 up2 => ?_) (by show (3 : Nat) ≤ sizeLine; decide)
    refine hQ _ _ _ _ _ _ (fun b o e => Heap.get?_push_of_some _ (up2 _ _ (up _ _ e))) ?_ ⟨_, Heap.get?_push_size _ rfl, rfl, _, rfl⟩
    refine nof (fun b o e => up2 _ _ (up _ _ e)) (Heap.get?_none_of_le (Nat.le_refl _))
end Mine
end
section
open PySem PySem.W PyProof.Rows
set_option Elab.async false
set_option maxRecDepth 100000
set_option maxHeartbeats 1000000
set_option linter.unusedVariables false
namespace Mine
theorem fd_nat (q k : Nat) : Int.fdiv (q : Int) (k : Int) = ((q / k : Nat) : Int) := (Int.ofNat_fdiv q k).symm
theorem fm_nat (q k : Nat) : Int.fmod (q : Int) (k : Int) = ((q % k : Nat) : Int) := (Int.ofNat_fmod q k).symm
theorem fdm_nat (q : Nat) (a c : Int) (a' c' : Nat) (ha : a = (a' : Int)) (hc : c = (c' : Int)) : Int.fmod (Int.fdiv (q : Int) a) c = ((q / a' % c' : Nat) : Int) := by
  subst ha hc
  rw [fd_nat, fm_nat]
theorem share_rule {w : World} {A : Around} {E : Value → Shared → Prop} {s : Shared} {b u : Heap} {L : Addr} {m : Str → Option Value} {l : List (Addr × Thing)} {P : Params} {q a c : Nat} {tq : Tok} {Q : Value → Shared → Prop} {k1 k2 k3 : Nat} {p1 p2 p3 p4 p5 p6 p7 : Pos} (f : Fm b u L s.heap m l) (hq : m (Str.ofString "q") = some (.int (q : Nat) tq)) (hqb : q < 1000000) (ha : a ≠ 0 ∧ a < 10000) (hc : c ≠ 0)
    (k : ∀ (r : Nat) t tk, r = 1 + q / a % c → Q (.int (r : Nat) t) { s with toks := tk }) :
    wpAny (model rwp w) A (eval (.BinOp (.Constant (.int 1) k1 p1) .Add (.BinOp (.BinOp (.Name (Str.ofString "q") p2) .FloorDiv (.Constant (.int (a : Nat)) k2 p3) p4) .Mod (.Constant (.int (c : Nat)) k3 p5) p6) p7) (lawEnv P L)) Q E s := by
  refine wpAny_BinOp (wpAny_Constant_int (wpAny_BinOp (wpAny_BinOp (nm_m f (v := .int (q : Nat) tq) hq (wpAny_Constant_int ?_)))))
  refine floordiv_int (by omega) ?_ (Or.inl (PyProof.noPylong_small (by omega)))
  refine wpAny_Constant_int (mod_int (by omega) ?_)
  refine add_int ?_
  rw [fdm_nat q a c a c rfl rfl]
  rw [show (1 : Int) + ((q / a % c : Nat) : Int) = ((1 + q / a % c : Nat) : Int) by push_cast; rfl]
  exact k _ _ _ rfl
theorem share_val {q kd a0 a1 a2 : Nat} (hkd : Mine.kindOf q = kd) (h0 : a0 = 1 + q / 64 % 5) (h1 : a1 = 1 + q / 320 % 5) (h2 : a2 = 1 + q / 1600 % 5) :
    ∃ b0 b1 b2, b0 = share q 0 ∧ b1 = share q 1 ∧ b2 = share q 2 ∧ ((kd = 0 ∧ b0 = 0 ∧ b1 = a1 ∧ b2 = a2) ∨ (kd = 1 ∧ b0 = a0 ∧ b1 = 0 ∧ b2 = a2) ∨ (kd = 2 ∧ b0 = a0 ∧ b1 = a1 ∧ b2 = 0) ∨ (¬ kd < 3 ∧ b0 = a0 ∧ b1 = a1 ∧ b2 = a2)) := by
  have e0 : share q 0 = if kd = 0 then 0 else a0 := by rw [← hkd, h0]; rfl
  have e1 : share q 1 = if kd = 1 then 0 else a1 := by rw [← hkd, h1]; rfl
  have e2 : share q 2 = if kd = 2 then 0 else a2 := by rw [← hkd, h2]; rfl
  refine ⟨_, _, _, rfl, rfl, rfl, ?_⟩
  rw [e0, e1, e2]
  clear e0 e1 e2 h0 h1 h2 hkd
  by_cases k0 : kd = 0
  · subst k0; exact .inl ⟨rfl, rfl, rfl, rfl⟩
  by_cases k1 : kd = 1
  · subst k1; exact .inr (.inl ⟨rfl, rfl, rfl, rfl⟩)
  by_cases k2 : kd = 2
  · subst k2; exact .inr (.inr (.inl ⟨rfl, rfl, rfl, rfl⟩))
  · exact .inr (.inr (.inr ⟨by omega, if_neg k0, if_neg k1, if_neg k2⟩))
theorem le_of9 {n : Nat} (h : n ≤ 9) : n ≤ 1000 := by omega
theorem le_of100 {n j : Nat} (h : n ≤ 100) : n ≤ 1000 := by omega
theorem three_cases {n : Nat} (h : n < 3) : n = 0 ∨ n = 1 ∨ n = 2 := by omega
theorem lt3_int {n : Nat} (h : n < 3) : ((n : Nat) : Int) < 3 := by omega
theorem nlt3_int {n : Nat} (h : ¬ n < 3) : ¬ ((n : Nat) : Int) < 3 := by omega
theorem ge3 {n i : Nat} (h : ¬ n < 3) (hi : i < 3) : ¬ n = i := by omega
theorem share0 (q : Nat) : share q 0 = if Mine.kindOf q = 0 then 0 else 1 + q / 64 % 5 := rfl
theorem share1 (q : Nat) : share q 1 = if Mine.kindOf q = 1 then 0 else 1 + q / 320 % 5 := rfl
theorem share2 (q : Nat) : share q 2 = if Mine.kindOf q = 2 then 0 else 1 + q / 1600 % 5 := rfl
theorem len_sub {vs : List Value} {v : Value} {n : Nat} (h : vs.length = n) : (((vs ++ [v]).toArray.size : Nat) : Int) - 1 = ((n : Nat) : Int) := by
  rw [List.size_toArray, List.length_append, h]
  show ((n + 1 : Nat) : Int) - 1 = n
  omega
theorem size_small {vs : List Value} {v : Value} {n : Nat} (h : vs.length = n) (hn : n ≤ 9) : (((vs ++ [v]).toArray.size : Nat) : Int) < 2 ^ 63 := by
  rw [List.size_toArray, List.length_append, h]
  show ((n + 1 : Nat) : Int) < _
  omega
theorem Fm.forget {b u h : Heap} {L : Addr} {m : Str → Option Value} {l : List (Addr × Thing)} (f : Fm b u L h m l) (i : Nat) : Fm b u L h m (l.eraseIdx i) := f.drop (List.eraseIdx_sublist _ _)
theorem Fm.seqAt {b u h : Heap} {L c : Addr} {m : Str → Option Value} {l : List (Addr × Thing)} {vs : List Value} (f : Fm b u L h m l) (i : Nat) (e : l[i]? = some (c, .seq vs)) : h.IsList c vs.toArray := f.look i e
theorem Tups.opt {h : Heap} {vs : List Value} {ps : List (Nat × Nat × Nat)} (x : Tups h vs ps) (i : Nat) : Tups h (vs[i]?).toList (ps[i]?).toList := by
  cases e : ps[i]? with
  | none =>
    have : vs[i]? = none := by
      rw [List.getElem?_eq_none_iff] at e ⊢
      rw [x.len]; exact e
    rw [this]; exact .nil
  | some p =>
    obtain ⟨v, e', t⟩ := x.at_ e
    rw [e']; exact .one t
theorem face_sub {w : World} {A : Around} {E : Value → Shared → Prop} {s : Shared} {b u : Heap} {L fc : Addr} {m : Str → Option Value} {l : List (Addr × Thing)} {P : Params} {f0 f1 f2 j : Nat} {t0 t1 t2 : Tok} {Q : Value → Shared → Prop} {k1 : Nat} {p1 p2 p3 : Pos} (hj : j < 3) (f : Fm b u L s.heap m l) (e : l[1]? = some (L + 2, .cell (some (.ref fc))))
    (ht : s.heap.IsTuple fc ([.int (f0 : Nat) t0, .int (f1 : Nat) t1, .int (f2 : Nat) t2] : List Value).toArray) (k : ∀ t tk, Q (.int ((pick3 f0 f1 f2 j : Nat)) t) { s with toks := tk }) :
    wpAny (model rwp w) A (eval (.Subscript (.Name (Str.ofString "face") p1) (.Constant (.int (j : Nat)) k1 p2) p3) (lawEnv P L)) Q E s := by
  obtain ⟨t, ht'⟩ := three_at (a0 := f0) (a1 := f1) (a2 := f2) (t0 := t0) (t1 := t1) (t2 := t2) hj
  refine Subscript_ (nm_c f 1 e (wpAny_Constant_int ?_))
  exact tail_tup ht (by omega) (by omega) ht' (k _ _)
/-- the ledger of the cuts -/
noncomputable def ledC (L sp fa ln dr I : Addr) (vf vsh vi vm vl : Option Value) (vs fs ls ds : List Value) (i : Nat) : List (Addr × Thing) :=
  [(L + 1, .cell (some (.ref sp))), (L + 2, .cell vf), (L + 3, .cell vsh), (L + 4, .cell vi), (L + 5, .cell vm), (L + 6, .cell vl), (sp, .list vs), (fa, .list fs), (ln, .list ls), (dr, .list ds), (I, .iter dr i)]
structure NamesC (m : Str → Option Value) (fa ln dr : Addr) : Prop where
  faces : m (Str.ofString "faces") = some (.ref fa)
  lines : m (Str.ofString "lines") = some (.ref ln)
  drawn : m (Str.ofString "drawn") = some (.ref dr)
theorem NamesC.move {m m' : Str → Option Value} {fa ln dr : Addr} {x : Str} (n : NamesC m fa ln dr) (r : ∀ y, y ≠ x → m' y = m y) (h1 : Str.ofString "faces" ≠ x := by decide) (h2 : Str.ofString "lines" ≠ x := by decide) (h3 : Str.ofString "drawn" ≠ x := by decide) : NamesC m' fa ln dr :=
  ⟨(r _ h1).trans n.faces, (r _ h2).trans n.lines, (r _ h3).trans n.drawn⟩
structure CutOut (b : Heap) (L sp fa ln dr I : Addr) (vi vm vl : Option Value) (ds : List Value) (i : Nat) (S : St) (s : Shared) (fl : Flow) (s' : Shared) : Prop where
  next : fl = .next
  ex : ∃ h' tk m' vf vsh vs fs ls, s' = { s with heap := h', toks := tk } ∧ Fm b h' L h' m' (ledC L sp fa ln dr I vf vsh vi vm vl vs fs ls ds i) ∧ NamesC m' fa ln dr ∧ Tups h' vs S.spots ∧ Tups h' fs S.faces ∧ Tups h' ls S.lines
theorem Fm.toSeq {b u h : Heap} {L c : Addr} {m : Str → Option Value} {l : List (Addr × Thing)} {vs : List Value} (f : Fm b u L h m l) (i : Nat) (e : l[i]? = some (c, .list vs)) : Fm b u L h m (l.set i (c, .seq vs)) :=
  f.set i e rfl (fun _ _ _ e => e) (f.list i e).isList
theorem cut_body {w : World} {A : Around} {E : Value → Shared → Prop} {s : Shared} {p : Program} {loose : List Str} {mg mb : Str → Option Value} {b : Heap} {L sp fa ln dr I : Addr} {vf vsh vi vm vl : Option Value} {vs fs ls ds : List Value} {i q k : Nat} {tq : Tok} {m : Str → Option Value} {S : St} (X : (K w.params).In b) (T : TopRead p loose mg mb b) (hh : A.handled = none)
    (f : Fm b s.heap L s.heap m (ledC L sp fa ln dr I vf vsh vi vm vl vs fs ls ds i)) (hm : NamesC m fa ln dr) (hq : m (Str.ofString "q") = some (.int (q : Nat) tq)) (hqb : q < 1000000)
    (hv : Tups s.heap vs S.spots) (hf : Tups s.heap fs S.faces) (hl : Tups s.heap ls S.lines) (hinv : Inv k S) (hk5 : k ≤ 5) (hfl : S.faces.length ≤ 100) (hll : S.lines.length ≤ 100) :
    wpAny (model rwp w) A (execs cutBody (lawEnv w.params L)) (CutOut b L sp fa ln dr I vi vm vl ds i (cut S q) s) E s := by
  suffices key : ∀ Q : Flow → Shared → Prop, (∀ fl s', CutOut b L sp fa ln dr I vi vm vl ds i (cut S q) s fl s' → Q fl s') → wpAny (model rwp w) A (execs cutBody (lawEnv w.params L)) Q E s from key _ fun _ _ h => h
  intro Q hQ
  have X₀ := f.inK X
  have T₀ := f.top T
  have hfn : fs.length = S.faces.length := hf.len
  have hvn : vs.length = S.spots.length := hv.len
  have hln : ls.length = S.lines.length := hl.len
  have hne := hinv.ne
  show wpAny _ _ (execs (_ :: _) _) _ _ _
  refine wpAny_execs_cons (wpAny_Assign_Name (MethodCall_ (nm_m f hm.faces (meth_list (f.list 7 (by rfl)) PySem.F.slot_list_pop PySem.F.type_list_pop ?_))) (by rfl))
  refine callWith_method1 ?_ (by rfl) (by rfl)
  refine spliced_more (wpAny_BinOp (nm_m f hq (Call_ (nm_built (fun _ _ e => e) X₀ T₀ (by kernel_rfl) (by boot_by_name) (by decide) ?_)))) (by rfl)
  refine callWith_builtin1 (spliced_more (nm_m f hm.faces (spliced_none ?_)) (by rfl)) (by rfl) (by rfl)
  refine len_list (f.list 7 (by rfl)).isList (by rw [List.size_toArray]; omega) ?_
  refine mod_int (by rw [List.size_toArray]; omega) ?_
  refine spliced_none ?_
  rw [List.size_toArray, hfn, fm_nat]
  have hj : q % S.faces.length < S.faces.length := Nat.mod_lt _ hne
  have hface : S.faces[q % S.faces.length]? = some (cutFace S q) := by
    unfold cutFace
    rw [List.getD_eq_getElem?_getD, List.getElem?_eq_getElem hj]; rfl
  obtain ⟨v, hv1, fc, w0, w1, w2, rfl, hfc⟩ := hf.at_ hface
  have hin : inF S.spots.length (cutFace S q) := hinv.inFaces _ (List.mem_of_getElem? hface)
  refine pop_fm f 7 (by rfl) (by omega) hv1 fun h₁ f₁ => ?_
  refine st_cell f₁ 1 (by rfl) fun h₂ f₂ => ?_
  show wpAny _ _ (execs (_ :: _) _) _ _ _
  -- kind
  refine wpAny_execs_cons (wpAny_Assign_Name (wpAny_BinOp (wpAny_BinOp (nm_m f₂ hq (wpAny_Constant_int (floordiv_int (by decide) (wpAny_Constant_int (mod_int (by decide) ?_)) (Or.inl (PyProof.noPylong_small (by omega)))))))) (by rfl))
  rw [fdm_nat q 16 4 16 4 rfl rfl]
  obtain ⟨kd, hkd⟩ : ∃ kd, kd = q / 16 % 4 := ⟨_, rfl⟩
  have hkd' : Mine.kindOf q = kd := hkd.symm
  rw [← hkd]
  refine st_new f₂ fun h₃ m₃ f₃ hk₃ r₃ => ?_
  have hm₃ := hm.move r₃
  have hq₃ : m₃ (Str.ofString "q") = some (.int (q : Nat) tq) := (r₃ _ (by decide)).trans hq
  show wpAny _ _ (execs (_ :: _) _) _ _ _
  -- shares
  refine wpAny_execs_cons (wpAny_Assign_Name (List_ (spliced_more ?_ (by rfl))) (by rfl))
  refine share_rule (a := 64) (c := 5) f₃ hq₃ hqb (by decide) (by decide) fun a0 t1 tk1 ha0 => ?_
  refine spliced_more ?_ (by rfl)
  refine share_rule (a := 320) (c := 5) f₃ hq₃ hqb (by decide) (by decide) fun a1 t2 tk2 ha1 => ?_
  refine spliced_more ?_ (by rfl)
  refine share_rule (a := 1600) (c := 5) f₃ hq₃ hqb (by decide) (by decide) fun a2 t3 tk3 ha2 => ?_
  refine spliced_none ?_
  refine new_list f₃ (fun sh h₄ f₄ => ?_) (by show (3 : Nat) ≤ sizeLine; decide)
  refine st_cell f₄ 2 (by rfl) fun h₅ f₅ => ?_
  show wpAny _ _ (execs (_ :: _) _) _ _ _
  have g₅ : Fm b s.heap L h₅ m₃ (ledC L sp fa ln dr I (some (.ref fc)) (some (.ref sh)) vi vm vl vs (fs.eraseIdx (q % S.faces.length)) ls ds i ++ [(sh, .list [.int (a0 : Nat) t1, .int (a1 : Nat) t2, .int (a2 : Nat) t3])]) := f₅
  clear f₅ f₄ f₃ f₂ f₁
  have hh := @share_val q kd a0 a1 a2 hkd' ha0 ha1 ha2
  obtain ⟨b0, b1, b2, hb0, hb1, hb2, hcase⟩ := hh
  clear ha0 ha1 ha2
  -- if kind < 3: shares[kind] = 0
  refine wpAny_execs_cons (wpAny_mono (Q := fun fl s' => ∃ h' tk u0 u1 u2, fl = .next ∧ s' = { s with heap := h', toks := tk } ∧ Fm b s.heap L h' m₃ (ledC L sp fa ln dr I (some (.ref fc)) (some (.ref sh)) vi vm vl vs (fs.eraseIdx (q % S.faces.length)) ls ds i ++ [(sh, .seq [.int (b0 : Nat) u0, .int (b1 : Nat) u1, .int (b2 : Nat) u2])])) ?_ (fun fl s' hs' => ?_) fun _ _ e => e)
  · refine wpAny_If (wpAny_isTrue_Compare1 (nm_m g₅ hk₃ (wpAny_Constant_int (lt_int (wpAny_truthy_bool ?_)))) (by with_unfolding_all rfl))
    by_cases hk3 : kd < 3
    · refine Eq.mpr (if_pos (decide_eq_true (lt3_int hk3))) ?_
      show wpAny _ _ (execs (_ :: _) _) _ _ _
      refine wpAny_execs_cons (wpAny_Assign_Subscript (wpAny_Constant_int (nm_c g₅ 2 (by rfl) (nm_m g₅ hk₃ ?_))) (by rfl))
      refine set_fm (vs := [.int (a0 : Nat) t1, .int (a1 : Nat) t2, .int (a2 : Nat) t3]) g₅ 11 (by rfl) hk3 (by show (3 : Nat) ≤ 1000; decide) fun h₆ f₆ => ?_
      refine wpAny_execs_nil ?_
      rcases hcase with ⟨e, e0, e1, e2⟩ | ⟨e, e0, e1, e2⟩ | ⟨e, e0, e1, e2⟩ | ⟨e, _⟩
      · rw [e0, e1, e2]
        rw [e] at f₆
        exact ⟨h₆, _, _, _, _, rfl, rfl, f₆⟩
      · rw [e0, e1, e2]
        rw [e] at f₆
        exact ⟨h₆, _, _, _, _, rfl, rfl, f₆⟩
      · rw [e0, e1, e2]
        rw [e] at f₆
        exact ⟨h₆, _, _, _, _, rfl, rfl, f₆⟩
      · exact absurd hk3 e
    · have hd : decide (((kd : Nat) : Int) < 3) = false := decide_eq_false (nlt3_int hk3)
      refine Eq.mpr (if_neg (show ¬ (decide (((kd : Nat) : Int) < 3) = true) from fun q => Bool.false_ne_true (hd.symm.trans q))) ?_
      rcases hcase with ⟨e, _⟩ | ⟨e, _⟩ | ⟨e, _⟩ | ⟨e, e0, e1, e2⟩
      · exact absurd (show kd < 3 by rw [e]; decide) hk3
      · exact absurd (show kd < 3 by rw [e]; decide) hk3
      · exact absurd (show kd < 3 by rw [e]; decide) hk3
      · rw [e0, e1, e2]
        exact wpAny_execs_nil ⟨h₅, _, t1, t2, t3, rfl, rfl, g₅.toSeq 11 (by rfl)⟩
  obtain ⟨h₆, tk₆, u0, u1, u2, rfl, rfl, f₆⟩ := hs'
  clear g₅
  show wpAny _ _ (execs (_ :: _) _) _ _ _
  -- spots.append(tuple(..))
  have X₆ := f₆.inK X
  have T₆ := f₆.top T
  have hfc₆ := f₆.tup _ _ hfc
  have hv₆ : Tups h₆ vs S.spots := hv.move f₆.tup
  have fine₆ : ∀ p ∈ S.spots, p.1 < 1048576 ∧ p.2.1 < 1048576 ∧ p.2.2 < 1048576 := fun p hp => by
    obtain ⟨q1, q2, _, q3⟩ := hinv.fine' hk5 hp
    exact ⟨Nat.lt_of_le_of_lt q1 q3, Nat.lt_of_le_of_lt q2 q3, q3⟩
  have hlen9 : S.spots.length ≤ 9 := by rw [hinv.len]; exact Nat.add_le_add_left hk5 4
  have hb5 : b0 ≤ 5 ∧ b1 ≤ 5 ∧ b2 ≤ 5 := ⟨hb0 ▸ share_le, hb1 ▸ share_le, hb2 ▸ share_le⟩
  refine wpAny_execs_cons (wpAny_Expr_any (MethodCall_ (nm_c f₆ 0 (by rfl) (meth_list (f₆.list 6 (by rfl)) PySem.F.slot_list_append PySem.F.type_list_append ?_))) (by rfl) (by rfl))
  refine callWith_method1 ?_ (by rfl) (by rfl)
  refine spliced_more ?_ (by rfl)
  have hsh₆ : h₆.IsList sh ([.int (b0 : Nat) u0, .int (b1 : Nat) u1, .int (b2 : Nat) u2] : List Value).toArray := f₆.seqAt 11 (by rfl)
  refine new_spot X₆ T₆ hh (f₆.cell 0 (by rfl)) (f₆.cell 1 (by rfl)) (f₆.cell 2 (by rfl)) (f₆.list 6 (by rfl)).isList hfc₆ hsh₆ hv₆ hin (Nat.le_trans hlen9 (by decide)) hb5.1 hb5.2.1 hb5.2.2 fine₆ fun D h₇ tk₇ w0' w1' w2' up₇ hD₇ hT₇ => ?_
  refine spliced_none ?_
  have f₇ := f₆.snoc (th := .tup _) up₇ hD₇ hT₇
  refine app_fm f₇ 6 (by rfl) (Nat.le_trans (hvn ▸ hlen9) (by decide)) fun h₈ f₈ => ?_
  show wpAny _ _ (execs (_ :: _) _) _ _ _
  have X₈ := f₈.inK X
  have T₈ := f₈.top T
  have hfc₈ := f₈.tup _ _ hfc
  -- new = len(spots) - 1
  refine wpAny_execs_cons (wpAny_Assign_Name (wpAny_BinOp (Call_ (nm_built (fun _ _ e => e) X₈ T₈ (by kernel_rfl) (by boot_by_name) (by decide) ?_))) (by rfl))
  refine callWith_builtin1 (spliced_more (nm_c f₈ 0 (by rfl) (spliced_none ?_)) (by rfl)) (by rfl) (by rfl)
  have hlt := size_small (v := Value.ref D) hvn hlen9
  refine len_list (f₈.list 6 (by rfl)).isList hlt ?_
  refine wpAny_Constant_int (sub_int ?_)
  rw [len_sub hvn]
  refine st_new f₈ fun h₉ m₉ f₉ hn₉ r₉ => ?_
  have hm₉ := hm₃.move r₉
  have hk₉ : m₉ (Str.ofString "kind") = some (.int (kd : Nat) _) := (r₉ _ (by decide)).trans hk₃
  have hfc₉ := f₉.tup _ _ hfc
  show wpAny _ _ (execs (_ :: _) _) _ _ _
  -- pieces
  refine wpAny_execs_cons (wpAny_Assign_Name (List_ ?_) (by rfl))
  refine spliced_more (Tuple_ ?_) (by rfl)
  refine spliced_more (nm_m f₉ hn₉ ?_) (by rfl)
  refine spliced_more ?_ (by rfl)
  refine face_sub (j := 1) (by decide) f₉ (by rfl) hfc₉ fun x1 y1 => ?_
  refine spliced_more ?_ (by rfl)
  refine face_sub (j := 2) (by decide) f₉ (by rfl) hfc₉ fun x2 y2 => ?_
  refine spliced_none ?_
  refine new_tup f₉ (fun p0 h₁₀ f₁₀ => ?_) (by show (3 : Nat) ≤ sizeLine; decide)
  have hfc₁₀ := f₁₀.tup _ _ hfc
  refine spliced_more (Tuple_ ?_) (by rfl)
  refine spliced_more ?_ (by rfl)
  refine face_sub (j := 0) (by decide) f₁₀ (by rfl) hfc₁₀ fun x3 y3 => ?_
  refine spliced_more (nm_m f₁₀ hn₉ ?_) (by rfl)
  refine spliced_more ?_ (by rfl)
  refine face_sub (j := 2) (by decide) f₁₀ (by rfl) hfc₁₀ fun x4 y4 => ?_
  refine spliced_none ?_
  refine new_tup f₁₀ (fun p1 h₁₁ f₁₁ => ?_) (by show (3 : Nat) ≤ sizeLine; decide)
  have hfc₁₁ := f₁₁.tup _ _ hfc
  refine spliced_more (Tuple_ ?_) (by rfl)
  refine spliced_more ?_ (by rfl)
  refine face_sub (j := 0) (by decide) f₁₁ (by rfl) hfc₁₁ fun x5 y5 => ?_
  refine spliced_more ?_ (by rfl)
  refine face_sub (j := 1) (by decide) f₁₁ (by rfl) hfc₁₁ fun x6 y6 => ?_
  refine spliced_more (nm_m f₁₁ hn₉ ?_) (by rfl)
  refine spliced_none ?_
  refine new_tup f₁₁ (fun p2 h₁₂ f₁₂ => ?_) (by show (3 : Nat) ≤ sizeLine; decide)
  refine spliced_none ?_
  refine new_list f₁₂ (fun B h₁₃ f₁₃ => ?_) (by show (3 : Nat) ≤ sizeLine; decide)
  refine st_new f₁₃ fun h₁₄ m₁₄ f₁₄ hp₁₄ r₁₄ => ?_
  have hm₁₄ := hm₉.move r₁₄
  have hk₁₄ : m₁₄ (Str.ofString "kind") = some (.int (kd : Nat) _) := (r₁₄ _ (by decide)).trans hk₉
  show wpAny _ _ (execs (_ :: _) _) _ _ _
  have hD := f₁₄.tuple (c := D) 12 rfl
  have hp0 := f₁₄.tuple (c := p0) 13 rfl
  have hp1 := f₁₄.tuple (c := p1) 14 rfl
  have hp2 := f₁₄.tuple (c := p2) 15 rfl
  have hv₁₄ : Tups h₁₄ vs S.spots := hv.move f₁₄.tup
  have hf₁₄ : Tups h₁₄ fs S.faces := hf.move f₁₄.tup
  have hl₁₄ : Tups h₁₄ ls S.lines := hl.move f₁₄.tup
  have hpieces : Tups h₁₄ [.ref p0, .ref p1, .ref p2] (pieces S.spots.length (cutFace S q)) := .cons ⟨_, _, _, _, rfl, hp0⟩ (.cons ⟨_, _, _, _, rfl, hp1⟩ (.one ⟨_, _, _, _, rfl, hp2⟩))
  have hnew : Tups h₁₄ [.ref D] [newSpot S.spots (cutFace S q) q] := by
    rw [hb0, hb1, hb2] at hD
    exact .one ⟨_, _, _, _, rfl, hD⟩
  have g₁₄ : Fm b h₁₄ L h₁₄ m₁₄ (ledC L sp fa ln dr I (some (.ref fc)) (some (.ref sh)) vi vm vl (vs ++ [.ref D]) (fs.eraseIdx (q % S.faces.length)) ls ds i ++ [(B, .list [.ref p0, .ref p1, .ref p2])]) :=
    ((((f₁₄.rebase.forget 15).forget 14).forget 13).forget 12).forget 11
  clear f₁₄ f₁₃ f₁₂ f₁₁ f₁₀ f₉ f₈ f₇ f₆
  have hpv : ∃ pv : List Value, pv = [.ref p0, .ref p1, .ref p2] := ⟨_, rfl⟩
  obtain ⟨pv, hpv⟩ := hpv
  have hpl : pv.length = 3 := by rw [hpv]; rfl
  rw [← hpv] at g₁₄ hpieces
  refine wpAny_execs_cons (wpAny_mono (Q := fun fl s' => ∃ h' tk, fl = .next ∧ s' = { s with heap := h', toks := tk } ∧ Fm b h₁₄ L h' m₁₄ (ledC L sp fa ln dr I (some (.ref fc)) (some (.ref sh)) vi vm vl (vs ++ [.ref D]) (fs.eraseIdx (q % S.faces.length)) (ls ++ (pv[kd]?).toList) ds i ++ [(B, .list (pv.eraseIdx kd))])) ?_ (fun fl s' hs' => ?_) fun _ _ e => e)
  · refine wpAny_If (wpAny_isTrue_Compare1 (nm_m g₁₄ hk₁₄ (wpAny_Constant_int (lt_int (wpAny_truthy_bool ?_)))) (by with_unfolding_all rfl))
    by_cases hk3 : kd < 3
    · refine bpos (decide_eq_true (lt3_int hk3)) ?_
      have hlt3 : kd < pv.length := by rw [hpl]; exact hk3
      have hy : pv[kd]? = some pv[kd] := List.getElem?_eq_getElem hlt3
      show wpAny _ _ (execs (_ :: _) _) _ _ _
      refine wpAny_execs_cons (wpAny_Expr_any (MethodCall_ (nm_m g₁₄ hm₁₄.lines (meth_list (g₁₄.list 8 (by rfl)) PySem.F.slot_list_append PySem.F.type_list_append ?_))) (by rfl) (by rfl))
      refine callWith_method1 ?_ (by rfl) (by rfl)
      refine spliced_more (MethodCall_ (nm_m g₁₄ (v := .ref B) (by rw [hp₁₄]) (meth_list (g₁₄.list 11 (by rfl)) PySem.F.slot_list_pop PySem.F.type_list_pop ?_))) (by rfl)
      refine callWith_method1 ?_ (by rfl) (by rfl)
      refine spliced_more (nm_m g₁₄ hk₁₄ (spliced_none ?_)) (by rfl)
      refine pop_fm (vs := pv) g₁₄ 11 (by rfl) (by rw [hpl]; decide) hy fun h₁₅ f₁₅ => ?_
      refine spliced_none ?_
      refine app_fm (vs := ls) f₁₅ 8 (by rfl) (by rw [hln]; exact Nat.le_trans hll (by decide)) fun h₁₆ f₁₆ => ?_
      refine wpAny_execs_nil ⟨h₁₆, _, rfl, rfl, ?_⟩
      rw [hy, Option.toList_some]
      exact f₁₆
    · refine bneg (decide_eq_false (nlt3_int hk3)) ?_
      have hy : pv[kd]? = none := List.getElem?_eq_none (by rw [hpl]; exact Nat.not_lt.mp hk3)
      have he : pv.eraseIdx kd = pv := List.eraseIdx_of_length_le (by rw [hpl]; exact Nat.not_lt.mp hk3)
      refine wpAny_execs_nil ⟨h₁₄, _, rfl, rfl, ?_⟩
      rw [hy, he, Option.toList_none, List.append_nil]
      exact g₁₄
  have hs₁ := hs'
  obtain ⟨h₁₆, tk₁₆, hnext, hst, f₁₆⟩ := hs₁
  subst hnext hst
  clear hs' g₁₄
  show wpAny _ _ (execs (_ :: _) _) _ _ _
  refine wpAny_execs_cons (wpAny_Expr_any (MethodCall_ (nm_m f₁₆ hm₁₄.faces (meth_list (f₁₆.list 7 (by rfl)) PySem.F.slot_list_extend PySem.F.type_list_extend ?_))) (by rfl) (by rfl))
  refine callWith_method1 ?_ (by rfl) (by rfl)
  refine spliced_more (nm_m f₁₆ (v := .ref B) (by rw [hp₁₄]) (spliced_none ?_)) (by rfl)
  refine ext_fm (vs := fs.eraseIdx (q % S.faces.length)) (ws := pv.eraseIdx kd) f₁₆ 7 11 (by rfl) (by rfl) (Nat.le_trans (List.length_eraseIdx_le _ _) (by rw [hfn]; exact Nat.le_trans hfl (by decide))) (Nat.le_trans (List.length_eraseIdx_le _ _) (by rw [hpl]; decide)) fun h₁₇ f₁₇ => ?_
  refine wpAny_execs_nil ?_
  have g₁₇ : Fm b h₁₇ L h₁₇ m₁₄ (ledC L sp fa ln dr I (some (.ref fc)) (some (.ref sh)) vi vm vl (vs ++ [.ref D]) (fs.eraseIdx (q % S.faces.length) ++ pv.eraseIdx kd) (ls ++ (pv[kd]?).toList) ds i) := f₁₇.rebase.forget 11
  have r1 : Tups h₁₇ (vs ++ [.ref D]) (cut S q).spots := (hv₁₄.append hnew).move f₁₇.tup
  have r2 : Tups h₁₇ (fs.eraseIdx (q % S.faces.length) ++ pv.eraseIdx kd) (cut S q).faces := by
    have r := ((hf₁₄.erase (q % S.faces.length)).append (hpieces.erase kd)).move f₁₇.tup
    show Tups h₁₇ _ (S.faces.eraseIdx (q % S.faces.length) ++ (pieces S.spots.length (cutFace S q)).eraseIdx (Mine.kindOf q))
    rw [hkd']; exact r
  have r3 : Tups h₁₇ (ls ++ (pv[kd]?).toList) (cut S q).lines := by
    have r := (hl₁₄.append (hpieces.opt kd)).move f₁₇.tup
    show Tups h₁₇ _ (S.lines ++ ((pieces S.spots.length (cutFace S q))[Mine.kindOf q]?).toList)
    rw [hkd']; exact r
  exact hQ _ _ ⟨rfl, h₁₇, _, m₁₄, _, _, _, _, _, rfl, g₁₇, hm₁₄, r1, r2, r3⟩
end Mine
end
section
open PySem PySem.W PyProof.Rows
set_option Elab.async false
set_option maxRecDepth 100000
set_option maxHeartbeats 1000000
set_option linter.unusedVariables false
namespace Mine
theorem bit_nat (n k : Nat) : bitOf (n : Int) (k : Int) = decide (n / 2 ^ k % 2 = 1) := by
  unfold bitOf
  rw [Int.toNat_natCast, show ((2 : Int) ^ k) = ((2 ^ k : Nat) : Int) by push_cast; rfl, ← Int.ofNat_fdiv]
  rw [show (2 : Int) = ((2 : Nat) : Int) from rfl, ← Int.ofNat_fmod]
  by_cases h : n / 2 ^ k % 2 = 1
  · rw [decide_eq_true h, h]; rfl
  · rw [decide_eq_false h, decide_eq_false]
    intro q
    exact h (by exact_mod_cast q)
theorem bit_even {n k K : Nat} (h : Div (n : Int) K) (hk : k < K) : bitOf (n : Int) (k : Int) = false := by
  rw [bit_nat, even_of_div (h.le hk)]; rfl
theorem bit_odd {n K : Nat} (h : Val (n : Int) K) : bitOf (n : Int) (K : Int) = true := by
  rw [bit_nat, odd_of_val h]; rfl
/-- what the columns of a spot are -/
theorem mark_row {p : Spot} (hp : Fine p) : ∃ K, least p = 2 ^ K ∧ K < 20 ∧ (∀ k : Nat, k < K → blank (p.1 : Nat) (p.2.1 : Nat) (p.2.2 : Nat) k = true) ∧
    ((mark p = 0 ∧ bitOf (p.1 : Nat) K = true) ∨ (mark p = 1 ∧ bitOf (p.1 : Nat) K = false ∧ bitOf (p.2.1 : Nat) K = true) ∨ (mark p = 2 ∧ bitOf (p.1 : Nat) K = false ∧ bitOf (p.2.1 : Nat) K = false ∧ bitOf (p.2.2 : Nat) K = true)) := by
  obtain ⟨K, h1, h2, h3⟩ := mark_spec hp
  refine ⟨K, h1, h2, ?_⟩
  rcases h3 with ⟨m, a, b, c⟩ | ⟨m, a, b, c⟩ | ⟨m, a, b, c⟩
  · refine ⟨fun k hk => ?_, .inl ⟨m, bit_odd a⟩⟩
    unfold blank
    rw [bit_even a.div hk, bit_even b hk, bit_even c hk]; rfl
  · refine ⟨fun k hk => ?_, .inr (.inl ⟨m, bit_even a (Nat.lt_succ_self K), bit_odd b⟩)⟩
    unfold blank
    rw [bit_even a (Nat.lt_succ_of_lt hk), bit_even b.div hk, bit_even c hk]; rfl
  · refine ⟨fun k hk => ?_, .inr (.inr ⟨m, bit_even a (Nat.lt_succ_self K), bit_even b (Nat.lt_succ_self K), bit_odd c⟩)⟩
    unfold blank
    rw [bit_even a (Nat.lt_succ_of_lt hk), bit_even b (Nat.lt_succ_of_lt hk), bit_even c.div hk]; rfl
theorem not_blank {p : Spot} {K m : Nat} (h : (m = 0 ∧ bitOf (p.1 : Nat) K = true) ∨ (m = 1 ∧ bitOf (p.1 : Nat) K = false ∧ bitOf (p.2.1 : Nat) K = true) ∨ (m = 2 ∧ bitOf (p.1 : Nat) K = false ∧ bitOf (p.2.1 : Nat) K = false ∧ bitOf (p.2.2 : Nat) K = true)) : blank (p.1 : Nat) (p.2.1 : Nat) (p.2.2 : Nat) K = false := by
  unfold blank
  rcases h with ⟨_, a⟩ | ⟨_, a, b⟩ | ⟨_, a, b, c⟩
  · rw [a]; rfl
  · rw [a, b]; rfl
  · rw [a, b, c]; rfl
theorem str_eq {a b : Str} (h : a.cps.toList = b.cps.toList) : a = b := by
  cases a; cases b; congr 1; exact Array.toList_inj.mp h
/-- the text of a row -/
noncomputable def rowText (x0 x1 x2 : Int) (K : Nat) : Str := Txt.join (Str.ofString "") (cols x0 x1 x2 (K + 1))
theorem rowText_cps {x0 x1 x2 : Int} {K : Nat} (hb : ∀ k : Nat, k < K → blank x0 x1 x2 k = true) : (rowText x0 x1 x2 K).cps.toList = List.replicate (3 * K) 32 ++ [lett x0 K 0, lett x1 K 1, lett x2 K 2] := by
  unfold rowText
  rw [join_cps, cols_succ, List.map_append, List.flatten_append]
  congr 1
  · induction K with
    | zero => rfl
    | succ K ih =>
      rw [cols_succ, List.map_append, List.flatten_append, ih fun k hk => hb k (Nat.lt_succ_of_lt hk)]
      show _ ++ ((col x0 x1 x2 K).cps.toList ++ []) = _
      rw [blank_col (hb K (Nat.lt_succ_self K)), List.append_nil, show 3 * (K + 1) = 3 * K + 3 by omega, ← List.replicate_append_replicate]; rfl
theorem mul_cps (n : Nat) : (Txt.mul (Str.ofString " ") ((3 * n : Nat) : Int)).cps.toList = List.replicate (3 * n) 32 := by
  unfold Txt.mul
  by_cases h : n = 0
  · subst h; rfl
  · rw [if_neg (by omega), if_neg (by simp; constructor <;> first | omega | decide)]
    have key : ∀ k (a : Array Nat), ((List.replicate k (Str.ofString " ").cps).foldl (· ++ ·) a).toList = a.toList ++ List.replicate k 32 := by
      intro k
      induction k with
      | zero => intro a; simp
      | succ k ih =>
        intro a
        rw [List.replicate_succ, List.foldl_cons, ih, Array.toList_append, List.append_assoc]
        rw [List.replicate_succ]; rfl
    show ((List.replicate _ _).foldl (· ++ ·) #[]).toList = _
    rw [key, Int.toNat_natCast]; rfl
theorem rowText_eq {x0 x1 x2 : Int} {K : Nat} (hb : ∀ k : Nat, k < K → blank x0 x1 x2 k = true) : rowText x0 x1 x2 K = Txt.mul (Str.ofString " ") ((3 * K : Nat) : Int) ++ col x0 x1 x2 K := by
  apply str_eq
  rw [rowText_cps hb]
  show _ = ((Txt.mul (Str.ofString " ") ((3 * K : Nat) : Int)).cps ++ (col x0 x1 x2 K).cps).toList
  rw [Array.toList_append, mul_cps]; rfl
theorem take_rep (k : Nat) (l : List Nat) : ((List.replicate k 32 ++ l).takeWhile Unicode.isSpace).length = k + (l.takeWhile Unicode.isSpace).length := by
  induction k with
  | zero => simp
  | succ k ih =>
    rw [List.replicate_succ, List.cons_append, List.takeWhile_cons, sp32]
    simp only [if_true, List.length_cons, ih]; omega
theorem lett_on {x k : Int} {i : Nat} (h : bitOf x k = true) : lett x k i = rgbTab.getD i 0 := by unfold lett; rw [h]; rfl
theorem lett_off {x k : Int} {i : Nat} (h : bitOf x k = false) : lett x k i = 32 := by unfold lett; rw [h]; rfl
/-- the first letter of a row -/
theorem rowText_first {p : Spot} {K m : Nat} (hb : ∀ k : Nat, k < K → blank (p.1 : Nat) (p.2.1 : Nat) (p.2.2 : Nat) k = true)
    (h : (m = 0 ∧ bitOf (p.1 : Nat) K = true) ∨ (m = 1 ∧ bitOf (p.1 : Nat) K = false ∧ bitOf (p.2.1 : Nat) K = true) ∨ (m = 2 ∧ bitOf (p.1 : Nat) K = false ∧ bitOf (p.2.1 : Nat) K = false ∧ bitOf (p.2.2 : Nat) K = true)) :
    (Txt.lstrip (rowText (p.1 : Nat) (p.2.1 : Nat) (p.2.2 : Nat) K)).cps[0]? = some (rgbTab.getD m 0) := by
  have hc := rowText_cps hb
  generalize rowText (p.1 : Nat) (p.2.1 : Nat) (p.2.2 : Nat) K = x at hc
  unfold Txt.lstrip
  rw [PyProof.Rows.stripBy_eq]
  have hlo : stripLo Unicode.isSpace true x = 3 * K + m := by
    show (x.cps.toList.takeWhile Unicode.isSpace).length = _
    rw [hc, take_rep]
    congr 1
    rcases h with ⟨rfl, a⟩ | ⟨rfl, a, b⟩ | ⟨rfl, a, b, c⟩
    · rw [List.takeWhile_cons, lett_on a, sp_lett 0 (by decide)]; rfl
    · rw [List.takeWhile_cons, lett_off a, sp32, if_pos rfl, List.takeWhile_cons, lett_on b, sp_lett 1 (by decide)]; rfl
    · rw [List.takeWhile_cons, lett_off a, sp32, if_pos rfl, List.takeWhile_cons, lett_off b, sp32, if_pos rfl, List.takeWhile_cons, lett_on c, sp_lett 2 (by decide)]; rfl
  have hm : m < 3 := by rcases h with ⟨rfl, _⟩ | ⟨rfl, _⟩ | ⟨rfl, _⟩ <;> decide
  have hlen : x.cps.size = 3 * K + 3 := by
    rw [← Array.length_toList, hc, List.length_append, List.length_replicate]; rfl
  rw [hlo]
  show (x.cps.extract (3 * K + m) x.cps.size)[0]? = _
  rw [Array.getElem?_extract, if_pos (by omega), ← Array.getElem?_toList, hc, List.getElem?_append_right (by rw [List.length_replicate]; omega), List.length_replicate]
  rw [show 3 * K + m + 0 - 3 * K = m by omega]
  rcases h with ⟨rfl, a⟩ | ⟨rfl, a, b⟩ | ⟨rfl, a, b, c⟩
  · exact congrArg some (lett_on a)
  · exact congrArg some (lett_on b)
  · exact congrArg some (lett_on c)
theorem occ_rgb : ∀ m, m < 3 → Builtin.Str.occurrences (Str.ofString "rgb") (one (rgbTab.getD m 0)) 0 (Str.ofString "rgb").length 1 = [m] := by decide +kernel
end Mine
end
section
open PySem PySem.W PyProof.Rows
set_option Elab.async false
set_option maxRecDepth 100000
set_option maxHeartbeats 1000000
set_option linter.unusedVariables false
namespace Mine
theorem low_int (n : Nat) : (if (0 : Int) < (n : Int) then (n : Int) - Builtin.bitAnd (n : Int) ((n : Int) - 1) else 16777216) = ((low n : Nat) : Int) := by
  unfold low
  by_cases h : n = 0
  · subst h; rfl
  · rw [if_pos (by omega), if_neg h]
    unfold Builtin.bitAnd
    rw [decide_eq_true (by omega : (0 : Int) ≤ (n : Int)), decide_eq_true (by omega : (0 : Int) ≤ (n : Int) - 1)]
    show (n : Int) - (((n : Int).toNat &&& ((n : Int) - 1).toNat : Nat) : Int) = _
    rw [Int.toNat_natCast, show ((n : Int) - 1).toNat = n - 1 by omega]
    have : n &&& (n - 1) ≤ n := Nat.and_le_left
    omega
noncomputable def valOf : Option Stmt → PySem.Expr
  | some (PySem.Stmt.Assign _ v _) => v
  | _ => PySem.Expr.Constant (.int 0) 0 ⟨0, 0, 0, 0⟩
noncomputable def leastExpr : PySem.Expr := valOf (markBody[1]?)
noncomputable def dueExpr : PySem.Expr := valOf (markBody[2]?)
theorem min3 {w : World} {A : Around} {E : Value → Shared → Prop} {s : Shared} {l : Addr} {a b c : Nat} {t0 t1 t2 : Tok} {Q : Value → Shared → Prop} (hh : A.handled = none) (hl : s.heap.IsList l (intItems #[((a : Nat), t0), ((b : Nat), t1), ((c : Nat), t2)]))
    (h : ∀ h' tk t, Up s.heap h' → Q (.int ((min (min a b) c : Nat)) t) { s with heap := h', toks := tk }) : wpAny (model rwp w) A (call (.builtin "min") [.ref l]) Q E s := by
  refine min_intList hh hl (by decide : 0 < 3) fun v h' tk hv up => ?_
  obtain ⟨t, rfl⟩ := intItems_at hv
  obtain ⟨h1, h2⟩ := argBest_lt (numAt #[((a : Nat), t0), ((b : Nat), t1), ((c : Nat), t2)]) 2
  have e0 := h2 0 (by decide)
  have e1 := h2 1 (by decide)
  have e2 := h2 2 (by decide)
  generalize hj : argBest (fun i j => decide (numAt #[((a : Nat), t0), ((b : Nat), t1), ((c : Nat), t2)] i < numAt #[((a : Nat), t0), ((b : Nat), t1), ((c : Nat), t2)] j)) 2 = j at *
  have hj' : argBest (fun i j => decide (numAt #[((a : Nat), t0), ((b : Nat), t1), ((c : Nat), t2)] i < numAt #[((a : Nat), t0), ((b : Nat), t1), ((c : Nat), t2)] j)) (#[(((a : Nat) : Int), t0), (((b : Nat) : Int), t1), (((c : Nat) : Int), t2)].size - 1) = j := hj
  rw [hj']
  have n0 : numAt #[(((a : Nat) : Int), t0), (((b : Nat) : Int), t1), (((c : Nat) : Int), t2)] 0 = (a : Int) := rfl
  have n1 : numAt #[(((a : Nat) : Int), t0), (((b : Nat) : Int), t1), (((c : Nat) : Int), t2)] 1 = (b : Int) := rfl
  have n2 : numAt #[(((a : Nat) : Int), t0), (((b : Nat) : Int), t1), (((c : Nat) : Int), t2)] 2 = (c : Int) := rfl
  rw [n0] at e0
  rw [n1] at e1
  rw [n2] at e2
  have key : numAt #[(((a : Nat) : Int), t0), (((b : Nat) : Int), t1), (((c : Nat) : Int), t2)] j = ((min (min a b) c : Nat) : Int) := by
    rcases (by omega : j = 0 ∨ j = 1 ∨ j = 2) with rfl | rfl | rfl
    · rw [n0] at *; omega
    · rw [n1] at *; omega
    · rw [n2] at *; omega
  rw [key]
  exact h h' tk t up
theorem least_rule {w : World} {A : Around} {E : Value → Shared → Prop} {s : Shared} {p : Program} {loose : List Str} {mg mb : Str → Option Value} {L sp a : Addr} {vs : List Value} {i : Nat} {ti t0 t1 t2 : Tok} {pt : Spot} {Q : Value → Shared → Prop} (X : (K w.params).In s.heap) (T : TopRead p loose mg mb s.heap) (hh : A.handled = none) (hroom : A.depth < 700) (hu : A.units < 60)
    (c1 : s.heap.IsCell (L + 1) (some (.ref sp))) (c4 : s.heap.IsCell (L + 4) (some (.int (i : Nat) ti))) (hsp : s.heap.IsList sp vs.toArray) (hi : i < 1000) (hv : vs[i]? = some (.ref a)) (hta : s.heap.IsTuple a #[.int (pt.1 : Nat) t0, .int (pt.2.1 : Nat) t1, .int (pt.2.2 : Nat) t2])
    (hQ : ∀ h' tk t, Up s.heap h' → Q (.int (least pt : Nat) t) { s with heap := h', toks := tk }) : wpAny (model rwp w) A (eval leastExpr (lawEnv w.params L)) Q E s := by
  show wpAny _ _ (eval (PySem.Expr.Call _ _ _ _) _) _ _ _
  refine Call_ (nm_built (fun _ _ e => e) X T (by kernel_rfl) (by boot_by_name) (by decide) ?_)
  refine callWith_builtin1 ?_ (by rfl) (by rfl)
  refine spliced_more ?_ (by rfl)
  refine comp_tuple (F := fun v y => ∀ (n : Nat) t', v = .int n t' → ∃ u, y = .int (low n : Nat) u) hh (by with_unfolding_all rfl) (by decide) (by rfl) (by decide) (by rfl)
    (fun Q' q => Subscript_ (nm_cell c1 (nm_cell c4 (tail_list hsp (by omega) (by omega) (by rw [Int.toNat_natCast]; exact hv) q)))) hta (by show 3 ≤ sizeLine; decide) ?_ ?_
  · intro C v s₃ m₃ E' hC hv' hn hm up
    have X₃ : (K w.params).In s₃.heap := fun a o e => up _ _ (X a o e)
    have T₃ := T.keeps up
    have hvv : ∃ (n : Nat) (t' : Tok), v = .int (n : Nat) t' := by
      obtain ⟨q, hq⟩ := hv'
      match q, hq with
      | 0, hq => cases hq; exact ⟨_, _, rfl⟩
      | 1, hq => cases hq; exact ⟨_, _, rfl⟩
      | 2, hq => cases hq; exact ⟨_, _, rfl⟩
      | q + 3, hq => simp at hq
    obtain ⟨n, t', rfl⟩ := hvv
    refine Call_ (nm_global (v := .ref 202) (fun _ _ e => e) X₃ T₃ (by kernel_rfl) ?_)
    refine callWith_meth (h₀ := s₃.heap) (o := o_202 w.params) rfl (X₃ 202 _ rfl) ?_ (by rfl)
    refine spliced_more (nm_own hn hm (spliced_none ⟨fun _ _ e => e, ?_⟩)) (by rfl)
    refine call_ret (spec_low X₃ T₃ (Nat.lt_trans hroom (by decide)) (Nat.lt_trans hu (by decide)) hh (by omega)) fun v' h' tk' up' e => ?_
    obtain ⟨u, rfl⟩ := e
    rw [low_int]
    refine Got.of (fun n' t'' e => ?_) up'
    injection e with e1 _
    have : n = n' := by omega
    subst this
    exact ⟨u, rfl⟩
  · intro D h5 tk5 ys up5 hD pl hp
    have hl0 : ∃ l, l = ys.toList := ⟨_, rfl⟩
    obtain ⟨l, el⟩ := hl0
    rw [← el] at hp
    cases hp with | cons p1 r1 => cases r1 with | cons p2 r2 => cases r2 with | cons p3 r3 =>
    cases r3
    have p1' := p1 _ _ rfl
    have p2' := p2 _ _ rfl
    have p3' := p3 _ _ rfl
    obtain ⟨v1, rfl⟩ := p1'
    obtain ⟨v2, rfl⟩ := p2'
    obtain ⟨v3, rfl⟩ := p3'
    have q := pl.isList
    rw [← Array.toArray_toList (xs := ys), ← el] at q
    refine spliced_none ?_
    refine min3 (a := low pt.1) (b := low pt.2.1) (c := low pt.2.2) (t0 := v1) (t1 := v2) (t2 := v3) hh ?_ fun h7 tk7 t7 up7 => hQ h7 tk7 t7 fun b o e => up7 _ _ (up5 _ _ e)
    rw [show ∀ p1 p2 p3 : Int × Tok, intItems #[p1, p2, p3] = ([.int p1.1 p1.2, .int p2.1 p2.2, .int p3.1 p3.2] : List Value).toArray from fun _ _ _ => by simp [intItems]]
    exact q
theorem tail_str {w : World} {A : Around} {E : Value → Shared → Prop} {s : Shared} {value slice : PySem.Expr} {x : Str} {t u : Tok} {k c : Nat} {Q : Value → Shared → Prop} (hk : k < 1000) (hc : x.cps[k]? = some c) (h : ∀ t' tk, Q (.str (one c) t') { s with toks := tk })
    (hs : subscripted slice false (.str x t) (.int (k : Nat) u) = operate [.str x t, .int (k : Nat) u] (getItem (.str x t) (.int (k : Nat) u)) := by with_unfolding_all rfl) :
    wpAny (model rwp w) A (subscriptTail value slice (.str x t) (.int (k : Nat) u)) Q E s := by
  refine tail_any (typeIs_str s x t) PySem.F.slot_str_getitem.lookup (P.getItem_str (c := c) ?_ ?_ (h _ _)) hs
  · rw [decide_eq_false (by omega), decide_eq_false (by omega)]; rfl
  · have hlt : k < x.cps.size := by
      rcases Nat.lt_or_ge k x.cps.size with q | q
      · exact q
      · rw [Array.getElem?_eq_none q] at hc; cases hc
    have e : seqIndex? ((k : Nat) : Int) x.length = some k := by
      unfold seqIndex?
      dsimp only
      rw [if_neg (by omega : ¬ ((k : Nat) : Int) < 0), if_pos (by
        simp only [Bool.and_eq_true, decide_eq_true_eq]
        show 0 ≤ (k : Int) ∧ (k : Int) < (x.cps.size : Int)
        omega), Int.toNat_natCast]
    rw [e]; exact hc
end Mine
end
section
open PySem PySem.W PyProof.Rows
set_option Elab.async false
set_option maxRecDepth 100000
set_option maxHeartbeats 1000000
set_option linter.unusedVariables false
namespace Mine
theorem rgb_at : ∀ c, c < 3 → (Str.ofString "rgb").cps[c]? = some (rgbTab.getD c 0) := by decide +kernel
theorem pow_small {K : Nat} (h : K < 20) : 2 ^ K < 1048576 := by
  have := Nat.pow_lt_pow_right (by decide : 1 < 2) h
  exact Nat.lt_of_lt_of_le this (by decide)
theorem bit_eq {n K : Nat} : (((n / 2 ^ K % 2 : Nat) : Int) == 1) = bitOf (n : Int) (K : Int) := by
  rw [bit_nat]
  by_cases h : n / 2 ^ K % 2 = 1
  · rw [h]; rfl
  · rw [decide_eq_false h]
    refine beq_false_of_ne fun q => h ?_
    exact_mod_cast q
theorem due_rule {w : World} {A : Around} {E : Value → Shared → Prop} {s : Shared} {p : Program} {loose : List Str} {mg mb : Str → Option Value} {L sp a : Addr} {vs : List Value} {i K' : Nat} {ti tl t0 t1 t2 : Tok} {pt : Spot} {Q : Value → Shared → Prop} (X : (K w.params).In s.heap) (T : TopRead p loose mg mb s.heap) (hh : A.handled = none) (hK : K' < 20)
    (c1 : s.heap.IsCell (L + 1) (some (.ref sp))) (c4 : s.heap.IsCell (L + 4) (some (.int (i : Nat) ti))) (c6 : s.heap.IsCell (L + 6) (some (.int ((2 ^ K' : Nat)) tl))) (hsp : s.heap.IsList sp vs.toArray) (hi : i < 1000) (hv : vs[i]? = some (.ref a))
    (hta : s.heap.IsTuple a ([.int (pt.1 : Nat) t0, .int (pt.2.1 : Nat) t1, .int (pt.2.2 : Nat) t2] : List Value).toArray)
    (hQ : ∀ h' tk t, Up s.heap h' → Q (.str (col (pt.1 : Nat) (pt.2.1 : Nat) (pt.2.2 : Nat) K') t) { s with heap := h', toks := tk }) : wpAny (model rwp w) A (eval dueExpr (lawEnv w.params L)) Q E s := by
  show wpAny _ _ (eval (PySem.Expr.Call _ _ _ _) _) _ _ _
  refine MethodCall_ (Calls.Constant_str (GM.join ?_))
  refine callWith_method1 ?_ (by rfl) (by rfl)
  refine spliced_more ?_ (by rfl)
  refine comp_range (n := 3) (F := fun c y => ∃ u, y = .str (one (lett (co pt c : Nat) K' c)) u) hh (by with_unfolding_all rfl) (by decide) (by rfl) (by decide) (by rfl) (by decide) (by decide) (by decide) (range3 X T (by rfl) (by rfl) (by rfl) (by rfl)) ?_ ?_
  · intro C c tc s₃ m₃ E' hC hc hn hm up
    have hsp3 := isList_up hsp up
    have hta3 := isTup_up hta up
    have huc := three_at (a0 := pt.1) (a1 := pt.2.1) (a2 := pt.2.2) (t0 := t0) (t1 := t1) (t2 := t2) hc
    obtain ⟨uc, huc⟩ := huc
    rw [co_pick] at huc
    have hp2 := pow_small hK
    have hpos : 0 < 2 ^ K' := Nat.pow_pos (by decide)
    refine IfExp_ (wpAny_isTrue_Compare1 (wpAny_BinOp (wpAny_BinOp ?_)) (by with_unfolding_all rfl))
    refine Subscript_ (Subscript_ (nm_cell (c1.keeps up) (nm_cell (c4.keeps up) (tail_list hsp3 (by omega) (by omega) (by rw [Int.toNat_natCast]; exact hv) ?_))))
    refine nm_own hn hm (tail_tup hta3 (by omega) (by omega) huc ?_)
    refine nm_cell (c6.keeps up) ?_
    refine floordiv_int (by omega) ?_ (Or.inl (PyProof.noPylong_small (by omega)))
    refine wpAny_Constant_int (mod_int (by decide) ?_)
    refine wpAny_Constant_int (eq_int (wpAny_truthy_bool ?_))
    rw [fdm_nat (co pt c) ((2 ^ K' : Nat) : Int) 2 (2 ^ K') 2 rfl rfl, bit_eq]
    cases hbit : bitOf ((co pt c : Nat) : Int) ((K' : Nat) : Int) with
    | true =>
      refine bpos rfl ?_
      refine Subscript_ (Calls.Constant_str (nm_own hn hm (tail_str (by omega) (rgb_at c hc) fun t' tk => ?_)))
      exact Got.of ⟨t', by rw [lett_on hbit]⟩ fun _ _ e => e
    | false =>
      refine bneg rfl ?_
      refine Calls.Constant_str ?_
      exact Got.of ⟨_, by rw [lett_off hbit]; rfl⟩ fun _ _ e => e
  · intro D h5 tk5 ys up5 hD pl hp
    have hl0 : ∃ l, l = ys.toList := ⟨_, rfl⟩
    obtain ⟨l, el⟩ := hl0
    rw [← el] at hp
    cases hp with | cons p1 r1 => cases r1 with | cons p2 r2 => cases r2 with | cons p3 r3 =>
    cases r3
    obtain ⟨v1, rfl⟩ := p1
    obtain ⟨v2, rfl⟩ := p2
    obtain ⟨v3, rfl⟩ := p3
    have q := pl.isList
    rw [← Array.toArray_toList (xs := ys), ← el] at q
    refine spliced_none ?_
    refine join_list (ys := [one (lett (co pt 0 : Nat) K' 0), one (lett (co pt 1 : Nat) K' 1), one (lett (co pt 2 : Nat) K' 2)]) q (.cons _ _ (.cons _ _ (.cons _ _ .nil))) (by show (3 : Nat) + 3 * 0 ≤ 16777216; decide) fun t' tk' => ?_
    have e : Txt.join (Str.ofString "") [one (lett (co pt 0 : Nat) K' 0), one (lett (co pt 1 : Nat) K' 1), one (lett (co pt 2 : Nat) K' 2)] = col (pt.1 : Nat) (pt.2.1 : Nat) (pt.2.2 : Nat) K' := col_join _ _ _ _
    rw [e]
    exact hQ _ _ _ up5
end Mine
end
section
open PySem PySem.W PyProof.Rows
set_option Elab.async false
set_option maxRecDepth 100000
set_option maxHeartbeats 1000000
set_option linter.unusedVariables false
namespace Mine
section
variable {w : World} {A : Around} {E : Value → Shared → Prop} {s : Shared} {b u : Heap} {L : Addr} {m : Str → Option Value} {l : List (Addr × Thing)}
theorem st_newX {P : Params} {x : Str} {v : Value} {Q : Unit → Shared → Prop} (f : Fm b u L s.heap m l) (k : ∀ h' m', Fm b u L h' m' l → m' x = some v → (∀ y, y ≠ x → m' y = m y) → Heap.ExtBut L s.heap h' → Q () { s with heap := h', toks := s.toks + 1 }) (hx : (lawEnv P L).kindOf x = some .local := by rfl) :
    wpAny (model rwp w) A (storeName (lawEnv P L) x v) Q E s :=
  wpAny_storeName_local hx f.ns (fun h' hn hs => k h' _ (f.name hn hs.extBut) (if_pos rfl) (fun y hy => if_neg hy) hs.extBut) (by rfl)
theorem st_cellX {P : Params} {x : Str} {c : Addr} {v : Value} {v₀ : Option Value} {Q : Unit → Shared → Prop} (f : Fm b u L s.heap m l) (i : Nat) (e : l[i]? = some (c, .cell v₀)) (k : ∀ h', Fm b u L h' m (l.set i (c, .cell (some v))) → Heap.ExtBut c s.heap h' → Q () { s with heap := h' })
    (hc : (lawEnv P L).cells.lookup x = some c := by rfl) (hx : (lawEnv P L).kindOf x = some .cell := by rfl) :
    wpAny (model rwp w) A (storeName (lawEnv P L) x v) Q E s :=
  wpAny_storeName_cell (by rfl) hx hc (f.cell i e) fun h' hv hs => k h' (f.set i e rfl hs.extBut hv) hs.extBut
end
theorem Acc.but {h h' : Heap} {x dx c : Addr} {its : Array Value} {ps : List Str} (a : Acc h x dx its ps) (nx : x ≠ c) (nd : dx ≠ c) (nt : ∀ T vs, h.IsTuple T vs → T ≠ c) (t1 : Tab h' 67 63) (t2 : Tab h' 74 70) (hs : Heap.ExtBut c h h') : Acc h' x dx its ps :=
  ⟨a.row.at (fun o e => hs _ _ nx e) fun o e => hs _ _ nd e, a.parts.keeps (fun j T e o ho => hs _ _ (by
    have hj : j < ps.length := by
      rw [← a.parts.len]
      rcases Nat.lt_or_ge j its.size with q | q
      · exact q
      · rw [Array.getElem?_eq_none q] at e; cases e
    obtain ⟨T', ta, tb, e', ht⟩ := a.parts.tup j hj
    rw [e] at e'; cases e'
    exact nt _ _ ht) ho), t1, t2⟩
theorem str_row {w : World} {A : Around} {E : Value → Shared → Prop} {s : Shared} {p : Program} {loose : List Str} {mg mb : Str → Option Value} {b u : Heap} {L x dx : Addr} {m : Str → Option Value} {l : List (Addr × Thing)} {its : Array Value} {ps : List Str} {Q : Value → Shared → Prop} {p1 p2 p3 : Pos} (X : (K w.params).In s.heap) (T : TopRead p loose mg mb s.heap) (hh : A.handled = none) (hroom : A.depth < 600) (hu : A.units < 30)
    (f : Fm b u L s.heap m l) (hr : m (Str.ofString "row") = some (.ref x)) (r : Acc s.heap x dx its ps) (hn : ps.length ≤ 30) (hl : ∀ t ∈ ps, t.length ≤ 10)
    (k : ∀ h' tk gs t, Kp s.heap h' → Tab h' 67 63 → Tab h' 74 70 → (AllBare s.gens → AllBare gs) → Q (.str (Txt.join (Str.ofString "") ps) t) { s with heap := h', toks := tk, gens := gs }) :
    wpAny (model rwp w) A (eval (.Call (.Name (Str.ofString "str") p1) [.Name (Str.ofString "row") p2] [] p3) (lawEnv w.params L)) Q E s := by
  refine Call_ (nm_built (fun _ _ e => e) X T (by kernel_rfl) (by boot_by_name) (by decide) ?_)
  refine callWith_type1 (spliced_more (nm_m f hr (spliced_none ?_)) (by rfl)) (by rfl) (by rfl)
  have hi := r.row.inst
  obtain ⟨ox, od, I⟩ := hi
  refine kso_call (by show A.units + 1 + 1 < cLine; have : (100 : Nat) ≤ cLine := by decide
                      omega) X I (by kernel_rfl : findIn (K w.params) (.ref 101) "__str__" = some (some (.ref 75))) (by kernel_rfl) ?_
  refine call_retG (spec_str X T (by show A.depth < 700; omega) (by show A.units + 1 + 1 < 50; omega) hh r.row r.parts hn hl r.t1 r.t2 (acc_nP r.row r.parts r.t2)) fun v h₃ tk₃ gs₃ k₃ u1 u2 bb₃ hv => ?_
  have hv' := hv
  obtain ⟨tv, rfl⟩ := hv'
  exact k h₃ tk₃ gs₃ tv k₃ u1 u2 bb₃
noncomputable def ledM (L sp dr mk pa fa ln I : Addr) (vf vsh vl : Option Value) (i : Nat) (ti : Tok) (vs ds ms ps fs ls : List Value) (a n c : Int) : List (Addr × Thing) :=
  [(L + 1, .cell (some (.ref sp))), (L + 2, .cell vf), (L + 3, .cell vsh), (L + 4, .cell (some (.int (i : Nat) ti))), (L + 5, .cell (some (.ref mk))), (L + 6, .cell vl), (sp, .list vs), (dr, .list ds), (mk, .list ms), (pa, .list ps), (fa, .list fs), (ln, .list ls), (I, .riter a n c)]
structure NamesM (m : Str → Option Value) (fa ln dr pa : Addr) : Prop where
  faces : m (Str.ofString "faces") = some (.ref fa)
  lines : m (Str.ofString "lines") = some (.ref ln)
  drawn : m (Str.ofString "drawn") = some (.ref dr)
  paints : m (Str.ofString "paints") = some (.ref pa)
theorem NamesM.move {m m' : Str → Option Value} {fa ln dr pa : Addr} {x : Str} (n : NamesM m fa ln dr pa) (r : ∀ y, y ≠ x → m' y = m y) (h1 : Str.ofString "faces" ≠ x := by decide) (h2 : Str.ofString "lines" ≠ x := by decide) (h3 : Str.ofString "drawn" ≠ x := by decide) (h4 : Str.ofString "paints" ≠ x := by decide) : NamesM m' fa ln dr pa :=
  ⟨(r _ h1).trans n.faces, (r _ h2).trans n.lines, (r _ h3).trans n.drawn, (r _ h4).trans n.paints⟩
structure Marks (S : List Spot) (ms : List Value) (i : Nat) : Prop where
  len : ms.length = i
  at_ : ∀ j, j < i → ∃ t, ms[j]? = some (.int (markAt S j : Nat) t)
structure Paints (h : Heap) (S : List Spot) (ps : List Value) (i : Nat) : Prop where
  len : ps.length = i
  at_ : ∀ j, j < i → ∃ v, ps[j]? = some v ∧ Paint h v (chan (markAt S j) 0) (chan (markAt S j) 1) (chan (markAt S j) 2)
theorem Paint.move {h h' : Heap} {v : Value} {a b c : UInt64} (p : Paint h v a b c) (k : ∀ a vs, h.IsTuple a vs → h'.IsTuple a vs) : Paint h' v a b c := by
  obtain ⟨d, t0, t1, t2, e, r⟩ := p
  exact ⟨d, t0, t1, t2, e, k _ _ r⟩
theorem Paints.move {h h' : Heap} {S : List Spot} {ps : List Value} {i : Nat} (x : Paints h S ps i) (k : ∀ a vs, h.IsTuple a vs → h'.IsTuple a vs) : Paints h' S ps i :=
  ⟨x.len, fun j hj => by obtain ⟨v, e, r⟩ := x.at_ j hj; exact ⟨v, e, r.move k⟩⟩
theorem Marks.snoc {S : List Spot} {ms : List Value} {i : Nat} {t : Tok} (x : Marks S ms i) : Marks S (ms ++ [.int (markAt S i : Nat) t]) (i + 1) := by
  refine ⟨by rw [List.length_append, x.len]; rfl, fun j hj => ?_⟩
  by_cases h : j < i
  · obtain ⟨t', e⟩ := x.at_ j h
    exact ⟨t', by rw [List.getElem?_append_left (by rw [x.len]; exact h)]; exact e⟩
  · have : j = i := by omega
    subst this
    exact ⟨t, by rw [List.getElem?_append_right (by rw [x.len]; exact Nat.le_refl _), x.len, Nat.sub_self]; rfl⟩
theorem Paints.snoc {h : Heap} {S : List Spot} {ps : List Value} {i : Nat} {v : Value} (x : Paints h S ps i) (p : Paint h v (chan (markAt S i) 0) (chan (markAt S i) 1) (chan (markAt S i) 2)) : Paints h S (ps ++ [v]) (i + 1) := by
  refine ⟨by rw [List.length_append, x.len]; rfl, fun j hj => ?_⟩
  by_cases h : j < i
  · obtain ⟨t', e, r⟩ := x.at_ j h
    exact ⟨t', by rw [List.getElem?_append_left (by rw [x.len]; exact h)]; exact e, r⟩
  · have : j = i := by omega
    subst this
    exact ⟨v, by rw [List.getElem?_append_right (by rw [x.len]; exact Nat.le_refl _), x.len, Nat.sub_self]; rfl, p⟩
structure Draws (ds : List Value) : Prop where
  at_ : ∀ j, j < 5 → ∃ (q : Nat) (t : Tok), ds[j]? = some (.int (q : Nat) t) ∧ q < 1000000
end Mine
end
section
open PySem PySem.W PyProof.Rows
set_option Elab.async false
set_option maxRecDepth 100000
set_option maxHeartbeats 1000000
set_option linter.unusedVariables false
namespace Mine
structure MarkOut (b : Heap) (L sp dr mk pa fa ln I : Addr) (vf vsh : Option Value) (i : Nat) (ti : Tok) (vs ds fs ls : List Value) (a n c : Int) (S : List Spot) (u : Heap) (s : Shared) (fl : Flow) (s' : Shared) : Prop where
  next : fl = .next
  ex : ∃ h' tk gs m' vl ms ps, s' = { s with heap := h', toks := tk, gens := gs } ∧ Fm b h' L h' m' (ledM L sp dr mk pa fa ln I vf vsh vl i ti vs ds ms ps fs ls a n c) ∧ NamesM m' fa ln dr pa ∧ Marks S ms (i + 1) ∧ Paints h' S ps (i + 1) ∧ (∀ a vs, u.IsTuple a vs → h'.IsTuple a vs) ∧ (AllBare s.gens → AllBare gs)
theorem ne_by {h : Heap} {a b : Addr} {o : Obj} (e : h.get? a = none) (e' : h.get? b = some o) : a ≠ b := fun q => by rw [q, e'] at e; cases e
theorem size_sub {n K : Nat} (h : n = K + 1) : ((n : Nat) : Int) - 1 = ((K : Nat) : Int) := by omega
theorem pow_ne {K : Nat} : ((2 : Int) ^ ((K : Nat) : Int).toNat != ((2 ^ K : Nat) : Int)) = false := by
  rw [Int.toNat_natCast]
  simp
theorem mul3 {K : Nat} : (3 : Int) * ((K : Nat) : Int) = ((3 * K : Nat) : Int) := by push_cast; rfl
theorem mulOk3 {K : Nat} (h : K < 20) : MulOk (Str.ofString " ") ((3 * K : Nat) : Int) := by
  have : ∀ K, K < 20 → MulOk (Str.ofString " ") ((3 * K : Nat) : Int) := by
    unfold MulOk
    decide +kernel
  exact this K h
section
variable {w : World} {A : Around} {E : Value → Shared → Prop} {s : Shared} {a b c : Int} {t u : Tok} {Q : Value → Shared → Prop}
theorem sub_to (e : a - b = c) (h : Q (.int c s.toks) { s with toks := s.toks + 1 }) : wpAny (model rwp w) A (binaryOp .Sub (.int a t) (.int b u)) Q E s := sub_int (by rw [e]; exact h)
theorem mul_to (e : a * b = c) (hm : IntMulOk a b) (h : Q (.int c s.toks) { s with toks := s.toks + 1 }) : wpAny (model rwp w) A (binaryOp .Mult (.int a t) (.int b u)) Q E s := mul_int (by rw [e]; exact h) hm
end
theorem mul3_ok {K : Nat} (h : K < 20) : IntMulOk 3 ((K : Nat) : Int) := by mul_fits
theorem text_fit {x0 x1 x2 : Int} {K : Nat} (h : K < 20) : (Txt.mul (Str.ofString " ") ((3 * K : Nat) : Int)).length + (col x0 x1 x2 K).length ≤ sizeLine := by
  have e : (Txt.mul (Str.ofString " ") ((3 * K : Nat) : Int)).length = 3 * K := by
    show (Txt.mul (Str.ofString " ") ((3 * K : Nat) : Int)).cps.size = _
    rw [← Array.length_toList, mul_cps, List.length_replicate]
  rw [e]
  show 3 * K + 3 ≤ sizeLine
  rw [sizeLine_eq]; omega
theorem row_fit {x0 x1 x2 : Int} {K : Nat} (h : K < 20) (hb : ∀ k : Nat, k < K → blank x0 x1 x2 k = true) : (Txt.join (Str.ofString "") (cols x0 x1 x2 (K + 1))).length ≤ sizeLine := by
  have e := rowText_cps hb
  have e2 : (Txt.join (Str.ofString "") (cols x0 x1 x2 (K + 1))).length = 3 * K + 3 := by
    show (Txt.join (Str.ofString "") (cols x0 x1 x2 (K + 1))).cps.size = _
    rw [← Array.length_toList]
    show (rowText x0 x1 x2 K).cps.toList.length = _
    rw [e, List.length_append, List.length_replicate]; rfl
  rw [e2, sizeLine_eq]; omega
noncomputable def third : Nat → UInt64
  | 0 => 0
  | 1 => 4599676419421066581
  | _ => 4604180019048437077
theorem third_fine : ∀ m, m < 3 → Float64.isInf (Float64.ofFrac (decide (((m : Nat) : Int) < 0) != decide ((3 : Int) < 0)) ((m : Nat) : Int).natAbs (3 : Int).natAbs) = false ∧ Float64.ofFrac (decide (((m : Nat) : Int) < 0) != decide ((3 : Int) < 0)) ((m : Nat) : Int).natAbs (3 : Int).natAbs = third m := by decide +kernel
theorem div_third {w : World} {A : Around} {E : Value → Shared → Prop} {s : Shared} {m : Nat} {t u : Tok} {Q : Value → Shared → Prop} (hm : m < 3) (h : Q (.float (third m) s.toks) { s with toks := s.toks + 1 }) : wpAny (model rwp w) A (binaryOp .Div (.int (m : Nat) t) (.int 3 u)) Q E s := by
  obtain ⟨h1, h2⟩ := third_fine m hm
  refine AutoIntOps.truediv_2 (by decide) (by rw [h1]; decide) ?_
  rw [h2]
  exact h
theorem spec_hsv {w : World} {A : Around} {s : Shared} {p : Program} {loose : List Str} {mg mb : Str → Option Value} {m : Nat} {t0 t1 t2 : Tok} (hm : m < 3) (X : (K w.params).In s.heap) (T : TopRead p loose mg mb s.heap) (hroom : A.depth < 800) (hu : A.units < 100) (hh : A.handled = none) :
   codeAny (model rwp w) A (.call (.ref 119) ⟨[.float (third m) t0, .float 4607182418800017408 t1, .float 4607182418800017408 t2], []⟩) (Ret s fun v h' => Paint h' v (chan m 0) (chan m 1) (chan m 2)) s := by
  match m, hm with
  | 0, _ => exact spec_hsv0 X T hroom hu hh
  | 1, _ => exact spec_hsv1 X T hroom hu hh
  | 2, _ => exact spec_hsv2 X T hroom hu hh
theorem div8 {q : Nat} (h : q < 1000000) : q / 8000 < 125 := by omega
theorem Fm.under {b u u' h : Heap} {L : Addr} {m : Str → Option Value} {l : List (Addr × Thing)} (f : Fm b u' L h m l) (k : ∀ a vs, u.IsTuple a vs → u'.IsTuple a vs) : Fm b u L h m l := { f with tup := fun a vs x => f.tup a vs (k a vs x) }
theorem paint_end {w : World} {A : Around} {E : Value → Shared → Prop} {s : Shared} {p : Program} {loose : List Str} {mg mb : Str → Option Value} {b : Heap} {L sp dr mk pa fa ln I : Addr} {vf vsh vl : Option Value} {vs ds ms ps fs ls : List Value} {i : Nat} {ti : Tok} {m : Str → Option Value} {S : List Spot} {a₀ n₀ c₀ : Int} {Q : Flow → Shared → Prop} (X : (K w.params).In s.heap) (T : TopRead p loose mg mb s.heap) (hh : A.handled = none) (hroom : A.depth < 450) (hu : A.units < 15)
    (f : Fm b s.heap L s.heap m (ledM L sp dr mk pa fa ln I vf vsh vl i ti vs ds ms ps fs ls a₀ n₀ c₀)) (hm : NamesM m fa ln dr pa) (hms : Marks S ms (i + 1)) (hps : Paints s.heap S ps i) (hi9 : i < 9)
    (k : ∀ h' tk ps', Fm b s.heap L h' m (ledM L sp dr mk pa fa ln I vf vsh vl i ti vs ds ms ps' fs ls a₀ n₀ c₀) → Paints h' S ps' (i + 1) → Q .next { s with heap := h', toks := tk }) :
    wpAny (model rwp w) A (execs (markBody.drop 6) (lawEnv w.params L)) Q E s := by
  show wpAny _ _ (execs (_ :: _) _) _ _ _
  have hmk : markAt S i < 3 := mark_lt _
  have hat := hms.at_ i (Nat.lt_succ_self i)
  obtain ⟨tm, hat⟩ := hat
  refine wpAny_execs_cons (wpAny_Expr_any (MethodCall_ (nm_m f hm.paints (meth_list (f.list (c := pa) 9 rfl) PySem.F.slot_list_append PySem.F.type_list_append ?_))) (by rfl) (by rfl))
  refine callWith_method1 ?_ (by rfl) (by rfl)
  refine spliced_more (Call_ (nm_global (v := .ref 119) (fun _ _ e => e) X T (by kernel_rfl) ?_)) (by rfl)
  refine callWith_meth (h₀ := s.heap) (o := o_119 w.params) rfl (X 119 _ rfl) ?_ (by rfl)
  refine spliced_more (wpAny_BinOp (Subscript_ (nm_c f 4 (by rfl) (nm_c f 3 (by rfl) ?_)))) (by rfl)
  refine tail_list (f.list (c := mk) 8 rfl).isList (by omega) (by omega) (by rw [Int.toNat_natCast]; exact hat) ?_
  refine wpAny_Constant_int ?_
  refine div_third hmk ?_
  refine spliced_more (PySem.wpAny_Constant_float ?_) (by rfl)
  refine spliced_more (PySem.wpAny_Constant_float ?_) (by rfl)
  refine spliced_none ⟨fun _ _ e => e, ?_⟩
  refine call_ret (spec_hsv hmk X T (by omega) (by omega) hh) fun v h₁ tk₁ up₁ hp => ?_
  refine spliced_none ?_
  have f₁ := f.up up₁
  refine app_fm (vs := ps) f₁.rebase 9 (by rfl) (by rw [hps.len]; omega) fun h₂ f₂ => ?_
  refine wpAny_execs_nil ?_
  have g₂ := f₂.under (u := s.heap) fun a vs x => f₁.tup _ _ x
  exact k h₂ _ _ g₂ ((hps.move fun a vs x => g₂.tup _ _ x).snoc (hp.move fun a vs x => f₂.tup _ _ x))
theorem mark_body {w : World} {A : Around} {E : Value → Shared → Prop} {s : Shared} {p : Program} {loose : List Str} {mg mb : Str → Option Value} {b : Heap} {L sp dr mk pa fa ln I : Addr} {vf vsh vl : Option Value} {vs ds ms ps fs ls : List Value} {i : Nat} {ti : Tok} {m : Str → Option Value} {S : List Spot} {D : List (PyData × PyData)} {a₀ n₀ c₀ : Int} (X : (K w.params).In b) (T : TopRead p loose mg mb b) (hh : A.handled = none) (hroom : A.depth < 450) (hu : A.units < 15)
    (hS : b.SetOf (PySem.intKind rwp w) 127 b1S 27) (hT : IntTab rwp w b 138 D) (G : GoodTab D)
    (f : Fm b s.heap L s.heap m (ledM L sp dr mk pa fa ln I vf vsh vl i ti vs ds ms ps fs ls a₀ n₀ c₀)) (hm : NamesM m fa ln dr pa)
    (hv : Tups s.heap vs S) (hfine : ∀ p ∈ S, Fine p) (hi : i < S.length) (hi9 : i < 9) (hds : Draws ds) (hms : Marks S ms i) (hps : Paints s.heap S ps i) :
    wpAny (model rwp w) A (execs markBody (lawEnv w.params L)) (MarkOut b L sp dr mk pa fa ln I vf vsh i ti vs ds fs ls a₀ n₀ c₀ S s.heap s) E s := by
  suffices key : ∀ Q : Flow → Shared → Prop, (∀ fl s', MarkOut b L sp dr mk pa fa ln I vf vsh i ti vs ds fs ls a₀ n₀ c₀ S s.heap s fl s' → Q fl s') → wpAny (model rwp w) A (execs markBody (lawEnv w.params L)) Q E s from key _ fun _ _ h => h
  intro Q hQ
  have X₀ := f.inK X
  have T₀ := f.top T
  have hget : S[i]? = some (spotAt S i) := by
    unfold spotAt
    rw [List.getD_eq_getElem?_getD, List.getElem?_eq_getElem hi]; rfl
  have ht3 := hv.at_ hget
  obtain ⟨v, hv1, a, t0, t1, t2, rfl, hta⟩ := ht3
  have hfp : Fine (spotAt S i) := hfine _ (spotAt_mem hi)
  have hmr := mark_row hfp
  obtain ⟨K', hleast, hK20, hbl, hcase⟩ := hmr
  have hnb := not_blank hcase
  have hdr := hds.at_ (i % 5) (Nat.mod_lt _ (by decide))
  obtain ⟨qd, td, hqd, hqb⟩ := hdr
  have hf125 := div8 hqb
  have l1 : 0 ≤ ((spotAt S i).1 : Int) ∧ ((spotAt S i).1 : Int) < 2 ^ 20 := by obtain ⟨h1, h2, h3, h4⟩ := hfp; omega
  have l2 : 0 ≤ ((spotAt S i).2.1 : Int) ∧ ((spotAt S i).2.1 : Int) < 2 ^ 20 := by obtain ⟨h1, h2, h3, h4⟩ := hfp; omega
  have l3 : 0 ≤ ((spotAt S i).2.2 : Int) ∧ ((spotAt S i).2.2 : Int) < 2 ^ 20 := by obtain ⟨h1, h2, h3, h4⟩ := hfp; omega
  show wpAny _ _ (execs (_ :: _) _) _ _ _
  refine wpAny_execs_cons (wpAny_Assign_Name (Call_ (nm_global (v := .ref 195) (fun _ _ e => e) X₀ T₀ (by kernel_rfl) ?_)) (by rfl))
  refine callWith_meth (h₀ := s.heap) (o := o_195 w.params) rfl (X₀ 195 _ rfl) ?_ (by rfl)
  refine spliced_more (Subscript_ (nm_c f 0 (by rfl) (nm_c f 3 (by rfl) ?_))) (by rfl)
  refine tail_list (f.list (c := sp) 6 rfl).isList (by omega) (by omega) (by rw [Int.toNat_natCast]; exact hv1) ?_
  refine spliced_more (wpAny_BinOp (Subscript_ (nm_m f hm.drawn (wpAny_BinOp (nm_c f 3 (by rfl) (wpAny_Constant_int (mod_int (by decide) ?_))))))) (by rfl)
  rw [show Int.fmod (i : Int) 5 = ((i % 5 : Nat) : Int) from fm_nat i 5]
  refine tail_list (f.list (c := dr) 7 rfl).isList (by omega) (by omega) (by rw [Int.toNat_natCast]; exact hqd) ?_
  refine wpAny_Constant_int ?_
  refine floordiv_int (by decide) ?_ (Or.inl (PyProof.noPylong_small (by decide)))
  rw [show Int.fdiv (qd : Int) 8000 = ((qd / 8000 : Nat) : Int) from fd_nat qd 8000]
  refine spliced_none ⟨fun _ _ e => e, ?_⟩
  refine call_retG (spec_row (K' := K') X₀ T₀ (by omega) (by omega) hh (setOf_kp hS f.kp) (tab_kp hT f.kp) G f.t1 f.t2 hta (by omega) (by omega) l1 l2 l3 hbl hnb hK20) fun v h₁ tk₁ gs₁ k₁ u1 u2 bb₁ hv' => ?_
  have hv'' := hv'
  obtain ⟨x, dx, its, rfl, nx, ndx, acc₁⟩ := hv''
  have f₁ := f.kept k₁ u1 u2
  refine st_newX f₁ fun h₂ m₂ f₂ hr₂ r₂ hs₂ => ?_
  show wpAny _ _ (execs (_ :: _) _) _ _ _
  have hLo : ∃ o, s.heap.get? L = some o := by obtain ⟨o, es, n', e, _⟩ := f.ns; exact ⟨o, e⟩
  obtain ⟨oL, hLo⟩ := hLo
  have h6o := (f.look (c := L + 6) 5 rfl).obj
  obtain ⟨o6, h6o, _⟩ := h6o
  have acc₂ := acc₁.but (ne_by nx hLo) (ne_by ndx hLo) (fun T vs ht => tup_ns f₁.ns ht) f₂.t1 f₂.t2 hs₂
  have X₂ := f₂.inK X
  have T₂ := f₂.top T
  have hsz : its.size = K' + 1 := by rw [acc₁.size, cols_len]
  -- least
  refine wpAny_execs_cons (wpAny_Assign_Name ?_ (by rfl))
  refine least_rule (pt := spotAt S i) X₂ T₂ hh (by omega) (by omega) (f₂.cell (c := L + 1) 0 rfl) (f₂.cell (c := L + 4) 3 rfl) (f₂.list (c := sp) 6 rfl).isList (by omega) hv1 (f₂.tup _ _ (f.tup _ _ hta)) fun h₃ tk₃ t₃ up₃ => ?_
  rw [hleast]
  have f₃ := f₂.up up₃
  refine st_cellX f₃ 5 (by rfl) fun h₄ f₄ hs₄ => ?_
  have acc₄ := (acc₂.keeps up₃).but (ne_by nx h6o) (ne_by ndx h6o) (fun T vs ht => (f₃.look (c := L + 6) 5 rfl).tup_ne rfl ht) f₄.t1 f₄.t2 hs₄
  have X₄ := f₄.inK X
  have T₄ := f₄.top T
  show wpAny _ _ (execs (_ :: _) _) _ _ _
  -- due
  refine wpAny_execs_cons (wpAny_Assign_Name ?_ (by rfl))
  refine due_rule (K' := K') (pt := spotAt S i) X₄ T₄ hh hK20 (f₄.cell (c := L + 1) 0 rfl) (f₄.cell (c := L + 4) 3 rfl) (f₄.cell (c := L + 6) 5 rfl) (f₄.list (c := sp) 6 rfl).isList (by omega) hv1 (f₄.tup _ _ (f.tup _ _ hta)) fun h₅ tk₅ t₅ up₅ => ?_
  have f₅ := f₄.up up₅
  refine st_newX f₅ fun h₆ m₆ f₆ hd₆ r₆ hs₆ => ?_
  have acc₆ := (acc₄.keeps up₅).but (ne_by nx hLo) (ne_by ndx hLo) (fun T vs ht => tup_ns f₅.ns ht) f₆.t1 f₆.t2 hs₆
  have hr₆ : m₆ (Str.ofString "row") = some (.ref x) := (r₆ _ (by decide)).trans hr₂
  have X₆ := f₆.inK X
  have T₆ := f₆.top T
  show wpAny _ _ (execs (_ :: _) _) _ _ _
  -- blanks
  refine wpAny_execs_cons (wpAny_Assign_Name (wpAny_BinOp (meth0 X₆ acc₆.row (fun Q' q => nm_m f₆ hr₆ q) (Looks.of_peek X₆ (by kernel_rfl)) (Looks.of_peek X₆ (by kernel_rfl)) nn_pc (f := 98) (fo := o_98 w.params) rfl rfl ?_)) (by rfl))
  refine call_ret (spec_pc X₆ T₆ (by omega) (by omega) hh acc₆.row.acc) fun v h₇ tk₇ up₇ hv7 => ?_
  have hv7' := hv7
  obtain ⟨t7, rfl⟩ := hv7'
  refine wpAny_Constant_int (sub_to (size_sub hsz) ?_)
  have f₇ := f₆.up up₇
  refine st_newX f₇ fun h₈ m₈ f₈ hb₈ r₈ hs₈ => ?_
  have acc₈ := (acc₆.keeps up₇).but (ne_by nx hLo) (ne_by ndx hLo) (fun T vs ht => tup_ns f₇.ns ht) f₈.t1 f₈.t2 hs₈
  have hr₈ : m₈ (Str.ofString "row") = some (.ref x) := (r₈ _ (by decide)).trans hr₆
  have hd₈ := (r₈ _ (by decide)).trans hd₆
  have X₈ := f₈.inK X
  have T₈ := f₈.top T
  have hm₈ := ((hm.move r₂).move r₆).move r₈
  show wpAny _ _ (execs (_ :: _) _) _ _ _
  -- the test
  refine wpAny_execs_cons (wpAny_If (isTrue_or (wpAny_isTrue_Compare1 (nm_m f₈ hb₈ (wpAny_Constant_int (lt_int (wpAny_truthy_bool ?_)))) (by with_unfolding_all rfl))))
  refine bneg (decide_eq_false (by omega)) ?_
  refine isTrue_or (wpAny_isTrue_Compare1 (wpAny_BinOp (wpAny_Constant_int (nm_m f₈ hb₈ ?_))) (by with_unfolding_all rfl))
  refine pow_int_small (by omega) (by omega) (by decide) ?_
  refine nm_c f₈ 5 (by rfl) (ne_int (wpAny_truthy_bool ?_))
  refine bneg pow_ne ?_
  refine isTrue_or (wpAny_isTrue_Compare1 ?_ (by with_unfolding_all rfl))
  refine str_row X₈ T₈ hh (by omega) (by omega) f₈ hr₈ acc₈ (by rw [cols_len]; omega) (cols_small _ _ _ _) fun h₉ tk₉ gs₉ t₉ k₉ v1 v2 bb₉ => ?_
  have f₉ := f₈.kept k₉ v1 v2
  have acc₉ := acc₈.move k₉ v1 v2
  refine wpAny_BinOp (wpAny_BinOp (Calls.Constant_str (wpAny_BinOp (wpAny_Constant_int (nm_m f₉ hb₈ ?_)))))
  refine mul_to mul3 (mul3_ok hK20) ?_
  have e9 : rowText (spotAt S i).1 (spotAt S i).2.1 (spotAt S i).2.2 K' = Txt.mul (Str.ofString " ") ((3 * K' : Nat) : Int) ++ col (spotAt S i).1 (spotAt S i).2.1 (spotAt S i).2.2 K' := rowText_eq hbl
  refine SB.mul (mulOk3 hK20) fun t10 k10 => ?_
  refine nm_m f₉ hd₈ (SB.add (fun t11 k11 => ?_) ?_)
  · refine PyProof.Rows.ne_str (wpAny_truthy_bool ?_)
    refine bneg (bne_eq_false_iff_eq.mpr e9) ?_
    refine isTrue_or_nil ?_
    refine bneg rfl ?_
    refine wpAny_execs_nil ?_
    show wpAny _ _ (execs (_ :: _) _) _ _ _
    have X₉ := f₉.inK X
    have T₉ := f₉.top T
    have hmk : markAt S i < 3 := mark_lt _
    -- marks
    refine wpAny_execs_cons (wpAny_Expr_any (MethodCall_ (nm_c f₉ 4 (by rfl) (meth_list (f₉.list (c := mk) 8 rfl) PySem.F.slot_list_append PySem.F.type_list_append ?_))) (by rfl) (by rfl))
    refine callWith_method1 ?_ (by rfl) (by rfl)
    refine spliced_more (MethodCall_ (Calls.Constant_str (GM.index ?_))) (by rfl)
    refine callWith_method1 ?_ (by rfl) (by rfl)
    refine spliced_more (Subscript_ (MethodCall_ ?_)) (by rfl)
    refine str_row X₉ T₉ hh (by omega) (by omega) f₉ hr₈ acc₉ (by rw [cols_len]; omega) (cols_small _ _ _ _) fun h₁₀ tk₁₀ gs₁₀ t₁₀ k₁₀ w1 w2 bb₁₀ => ?_
    have f₁₀ := f₉.kept k₁₀ w1 w2
    refine GM.lstrip (callWith_method0 (SC.lstrip (fun t12 k12 => ?_) (row_fit hK20 hbl)))
    refine wpAny_Constant_int ?_
    refine tail_str (k := 0) (c := rgbTab.getD (markAt S i) 0) (by decide) (rowText_first hbl hcase) fun t13 k13 => ?_
    refine spliced_none ?_
    refine SC.index (occ_rgb _ hmk) ?_
    refine spliced_none ?_
    refine app_fm (vs := ms) f₁₀ 8 (by rfl) (by rw [hms.len]; omega) fun h₁₁ f₁₁ => ?_
    have X₁₁ := f₁₁.inK X
    have T₁₁ := f₁₁.top T
    show wpAny _ _ (execs (_ :: _) _) _ _ _
    refine paint_end X₁₁ T₁₁ hh (by omega) (by omega) f₁₁.rebase hm₈ (hms.snoc) (hps.move fun a vs x => f₁₁.tup _ _ x) (by omega) fun h₁₂ tk₁₂ ps₁₂ f₁₂ hp₁₂ => ?_
    exact hQ _ _ ⟨rfl, h₁₂, _, _, m₈, _, _, _, rfl, f₁₂.rebase, hm₈, hms.snoc, hp₁₂, fun a vs x => f₁₂.tup _ _ (f₁₁.tup _ _ x), fun bb => bb₁₀ (bb₉ (bb₁ bb))⟩
  · exact text_fit hK20
end Mine
end
section
open PySem PySem.W PyProof.Rows
set_option Elab.async false
set_option maxRecDepth 100000
set_option maxHeartbeats 1000000
set_option linter.unusedVariables false
namespace Mine
noncomputable def sortChk (m0 m1 m2 x y z : Nat) : Bool := !([(x : Int), y, z].isPerm [(m0 : Int), m1, m2]) || !(decide ((x : Int) ≤ y)) || !(decide ((y : Int) ≤ z)) || ((((x : Int) == 0) && ((y : Int) == 1) && ((z : Int) == 2)) == rain m0 m1 m2)
theorem sort_chk : ∀ m0 : Nat, m0 < 3 → ∀ m1 : Nat, m1 < 3 → ∀ m2 : Nat, m2 < 3 → ∀ x : Nat, x < 3 → ∀ y : Nat, y < 3 → ∀ z : Nat, z < 3 → sortChk m0 m1 m2 x y z = true := by decide +kernel
theorem sort_rain : ∀ (m0 m1 m2 : Nat), m0 < 3 → m1 < 3 → m2 < 3 → ∀ a b c : Int, a ≤ b → b ≤ c → [a, b, c].Perm [(m0 : Int), m1, m2] → ((a == 0) && (b == 1) && (c == 2)) = rain m0 m1 m2 := by
  intro m0 m1 m2 h0 h1 h2 a b c hab hbc hp
  have low : ∀ k : Int, k ∈ [a, b, c] → ∃ n : Nat, k = n ∧ n < 3 := fun k hk => by
    have hk := hp.mem_iff.mp hk
    rcases List.mem_cons.mp hk with e | hk
    · exact ⟨m0, e, h0⟩
    rcases List.mem_cons.mp hk with e | hk
    · exact ⟨m1, e, h1⟩
    exact ⟨m2, List.mem_singleton.mp hk, h2⟩
  obtain ⟨x, rfl, hx⟩ := low a (List.mem_cons_self ..)
  obtain ⟨y, rfl, hy⟩ := low b (List.mem_cons_of_mem _ (List.mem_cons_self ..))
  obtain ⟨z, rfl, hz⟩ := low c (List.mem_cons_of_mem _ (List.mem_cons_of_mem _ (List.mem_cons_self ..)))
  have k := sort_chk m0 h0 m1 h1 m2 h2 x hx y hy z hz
  unfold sortChk at k
  rw [List.isPerm_iff.mpr hp, decide_eq_true hab, decide_eq_true hbc] at k
  exact eq_of_beq k
theorem hits_rain : ∀ m0, m0 < 3 → ∀ m1, m1 < 3 → ∀ m2, m2 < 3 → decide (hits m0 m1 m2 0 = 1 ∧ hits m0 m1 m2 1 = 1 ∧ hits m0 m1 m2 2 = 1) = rain m0 m1 m2 := by decide +kernel
noncomputable def cmpOf : Option Stmt → PySem.Expr
  | some (PySem.Stmt.If (PySem.Expr.Compare _ _ [c] _) _ _ _) => c
  | _ => PySem.Expr.Constant (.int 0) 0 ⟨0, 0, 0, 0⟩
noncomputable def sortExpr : PySem.Expr := cmpOf (lastBody[1]?)
theorem ints_three {l : List Value} {ns : List Int} (h : IntsAre l ns) (h3 : ns.length = 3) : ∃ a b c ta tb tc, ns = [a, b, c] ∧ l = [.int a ta, .int b tb, .int c tc] := by
  cases h with
  | nil => simp at h3
  | cons a ta h1 =>
    cases h1 with
    | nil => simp at h3
    | cons b tb h2 =>
      cases h2 with
      | nil => simp at h3
      | cons c tc h4 =>
        cases h4 with
        | nil => exact ⟨a, b, c, ta, tb, tc, rfl, rfl⟩
        | cons d td h5 => simp at h3
theorem sort_rule {w : World} {A : Around} {E : Value → Shared → Prop} {s : Shared} {p : Program} {loose : List Str} {mg mb : Str → Option Value} {L fc mk : Addr} {ms : List Value} {N : Nat} {S : List Spot} {f0 f1 f2 : Nat} {t0 t1 t2 : Tok} {Q : Value → Shared → Prop} (X : (K w.params).In s.heap) (T : TopRead p loose mg mb s.heap) (hh : A.handled = none) (hu : A.units < 60)
    (c2 : s.heap.IsCell (L + 2) (some (.ref fc))) (c5 : s.heap.IsCell (L + 5) (some (.ref mk))) (hmk : s.heap.IsList mk ms.toArray) (hms : Marks S ms N) (hN : N < 1000)
    (hfc : s.heap.IsTuple fc #[.int (f0 : Nat) t0, .int (f1 : Nat) t1, .int (f2 : Nat) t2]) (h0 : f0 < N) (h1 : f1 < N) (h2 : f2 < N)
    (hQ : ∀ h' tk, Up s.heap h' → Q (.bool (rain (markAt S f0) (markAt S f1) (markAt S f2))) { s with heap := h', toks := tk }) : wpAny (model rwp w) A (eval sortExpr (lawEnv w.params L)) Q E s := by
  show wpAny _ _ (eval (PySem.Expr.Compare _ _ _ _) _) _ _ _
  refine wpAny_Compare1 (Call_ (nm_built (fun _ _ e => e) X T (by kernel_rfl) (by boot_by_name) (by decide) ?_)) (by with_unfolding_all rfl)
  refine callWith_builtin1 ?_ (by rfl) (by rfl)
  refine spliced_more ?_ (by rfl)
  refine comp_tuple (F := fun v y => ∀ (n : Nat) t', v = .int n t' → ∃ u, y = .int (markAt S n : Nat) u) hh (by with_unfolding_all rfl) (by decide) (by rfl) (by decide) (by rfl)
    (fun Q' q => nm_cell c2 q) hfc (by show 3 ≤ sizeLine; decide) ?_ ?_
  · intro C v s₃ m₃ E' hC hv' hn hm up
    have hvv : ∃ (n : Nat) (t' : Tok), v = .int (n : Nat) t' ∧ n < N := by
      obtain ⟨q, hq⟩ := hv'
      match q, hq with
      | 0, hq => cases hq; exact ⟨_, _, rfl, h0⟩
      | 1, hq => cases hq; exact ⟨_, _, rfl, h1⟩
      | 2, hq => cases hq; exact ⟨_, _, rfl, h2⟩
      | q + 3, hq => simp at hq
    obtain ⟨n, t', rfl, hlt⟩ := hvv
    have hat := hms.at_ n hlt
    obtain ⟨u, hat⟩ := hat
    refine Subscript_ (nm_cell (c5.keeps up) (nm_own hn hm ?_))
    refine tail_list (isList_up hmk up) (by omega) (by omega) (by rw [Int.toNat_natCast]; exact hat) ?_
    refine Got.of (fun n' t'' e => ?_) fun _ _ e => e
    injection e with e1 _
    have : n = n' := by omega
    subst this
    exact ⟨u, rfl⟩
  · intro D h5 tk5 ys up5 hD pl hp
    have hl0 : ∃ l, l = ys.toList := ⟨_, rfl⟩
    obtain ⟨l, el⟩ := hl0
    rw [← el] at hp
    cases hp with | cons p1 r1 => cases r1 with | cons p2 r2 => cases r2 with | cons p3 r3 =>
    cases r3
    have p1' := p1 _ _ rfl
    have p2' := p2 _ _ rfl
    have p3' := p3 _ _ rfl
    obtain ⟨v1, rfl⟩ := p1'
    obtain ⟨v2, rfl⟩ := p2'
    obtain ⟨v3, rfl⟩ := p3'
    have q := pl.isList
    rw [← Array.toArray_toList (xs := ys), ← el] at q
    refine spliced_none ?_
    refine sorted_ints (vs := [.int (markAt S f0 : Nat) v1, .int (markAt S f1 : Nat) v2, .int (markAt S f2 : Nat) v3]) (ns := [((markAt S f0 : Nat) : Int), ((markAt S f1 : Nat) : Int), ((markAt S f2 : Nat) : Int)]) q (.cons _ _ (.cons _ _ (.cons _ _ .nil))) (by show (3 : Nat) < 64; decide) fun out ns' hi perm pw => ?_
    have hat := sortedAll_at h5 [.int (markAt S f0 : Nat) v1, .int (markAt S f1 : Nat) v2, .int (markAt S f2 : Nat) v3] out
    obtain ⟨e, hat⟩ := hat
    have h3 := ints_three hi (by rw [perm.length_eq]; rfl)
    obtain ⟨a, b, c, ta, tb, tc, rfl, hout⟩ := h3
    have hout' : out = #[.int a ta, .int b tb, .int c tc] := by rw [← Array.toArray_toList (xs := out), hout]
    subst hout'
    refine List_ (spliced_more (wpAny_Constant_int (spliced_more (wpAny_Constant_int (spliced_more (wpAny_Constant_int (spliced_none ?_)) (by rfl))) (by rfl))) (by rfl))
    refine wpAny_newList ?_ (by show (3 : Nat) ≤ sizeLine; decide)
    have hl1 := (Heap.get?_push_of_some { cls := Value.type "list", data := Data.seq [Value.int 0 tk5, Value.int 1 (tk5 + 1), Value.int 2 (tk5 + 1 + 1)].toArray } hat)
    refine SeqAt.eq_listAt (e := fun j => match j with | 0 => a == 0 | 1 => b == 1 | _ => c == 2) ⟨_, hl1, rfl, _, rfl⟩ ⟨_, Heap.get?_push_size _ rfl, rfl, _, rfl⟩ rfl (Nat.lt_trans hu (by decide)) (fun j g1 g2 => ?_) ?_
    · match j, g1, g2 with
      | 0, _, _ => exact SeqAt.EqAt.int_int _ _ _ _
      | 1, _, _ => exact SeqAt.EqAt.int_int _ _ _ _
      | 2, _, _ => exact SeqAt.EqAt.int_int _ _ _ _
    · have hr := sort_rain (markAt S f0) (markAt S f1) (markAt S f2) (mark_lt _) (mark_lt _) (mark_lt _) a b c (by have := (List.pairwise_cons.mp pw).1 b (by simp); exact this) (by have := (List.pairwise_cons.mp (List.pairwise_cons.mp pw).2).1 c (by simp); exact this) perm
      have he : (List.range (#[Value.int a ta, .int b tb, .int c tc] : Array Value).size).all (fun j => match j with | 0 => a == 0 | 1 => b == 1 | _ => c == 2) = rain (markAt S f0) (markAt S f1) (markAt S f2) := by
        rw [← hr]
        show (List.range 3).all _ = _
        simp [List.range, List.range.loop, Bool.and_assoc]
      rw [he]
      exact hQ _ _ fun b o e => Heap.get?_push_of_some _ (sortedAll_old (up5 _ _ e))
end Mine
end
section
open PySem PySem.W PyProof.Rows
set_option Elab.async false
set_option maxRecDepth 100000
set_option maxHeartbeats 1000000
set_option linter.unusedVariables false
namespace Mine
theorem tup_eq {A : Around} {s : Shared} {a c : Addr} {p q : Nat × Nat × Nat} {t0 t1 t2 u0 u1 u2 : Tok} (ha : s.heap.IsTuple a #[.int (p.1 : Nat) t0, .int (p.2.1 : Nat) t1, .int (p.2.2 : Nat) t2]) (hc : s.heap.IsTuple c #[.int (q.1 : Nat) u0, .int (q.2.1 : Nat) u1, .int (q.2.2 : Nat) u2]) (hne : p ≠ q) (hu : A.units < cLine) : SeqAt.EqAt A s (.ref a) (.ref c) false := by
  have hac : a ≠ c := fun e => by
    subst e
    obtain ⟨o, e1, _, n, d1⟩ := ha
    obtain ⟨o', e2, _, n', d2⟩ := hc
    rw [e1] at e2; cases e2
    rw [d1] at d2
    injection d2 with d3 _
    have d4 := congrArg Array.toList d3
    simp only [List.cons.injEq, Value.int.injEq] at d4
    obtain ⟨⟨g0, _⟩, ⟨g1, _⟩, ⟨g2, _⟩, _⟩ := d4
    refine hne ?_
    obtain ⟨p0, p1, p2⟩ := p
    obtain ⟨q0, q1, q2⟩ := q
    have : p0 = q0 := by exact_mod_cast g0
    have : p1 = q1 := by exact_mod_cast g1
    have : p2 = q2 := by exact_mod_cast g2
    simp_all
  refine SeqAt.EqAt.of_refs hac ?_
  have r := SeqAt.RcAt.tuples (A := A) (s := s) (e := fun j => match j with | 0 => ((p.1 : Nat) : Int) == ((q.1 : Nat) : Int) | 1 => ((p.2.1 : Nat) : Int) == ((q.2.1 : Nat) : Int) | _ => ((p.2.2 : Nat) : Int) == ((q.2.2 : Nat) : Int)) ha hc hu (fun j g1 g2 => by
    match j, g1, g2 with
    | 0, _, _ => exact SeqAt.EqAt.int_int _ _ _ _
    | 1, _, _ => exact SeqAt.EqAt.int_int _ _ _ _
    | 2, _, _ => exact SeqAt.EqAt.int_int _ _ _ _)
  have hf : ((List.range (min (#[Value.int (p.1 : Nat) t0, .int (p.2.1 : Nat) t1, .int (p.2.2 : Nat) t2] : Array Value).size (#[Value.int (q.1 : Nat) u0, .int (q.2.1 : Nat) u1, .int (q.2.2 : Nat) u2] : Array Value).size)).all (fun j => match j with | 0 => ((p.1 : Nat) : Int) == ((q.1 : Nat) : Int) | 1 => ((p.2.1 : Nat) : Int) == ((q.2.1 : Nat) : Int) | _ => ((p.2.2 : Nat) : Int) == ((q.2.2 : Nat) : Int)) && (#[Value.int (p.1 : Nat) t0, .int (p.2.1 : Nat) t1, .int (p.2.2 : Nat) t2] : Array Value).size == (#[Value.int (q.1 : Nat) u0, .int (q.2.1 : Nat) u1, .int (q.2.2 : Nat) u2] : Array Value).size) = false := by
    show ((List.range 3).all _ && true) = false
    rw [Bool.and_true]
    refine Bool.eq_false_iff.mpr fun h => hne ?_
    simp [List.range, List.range.loop] at h
    obtain ⟨p0, p1, p2⟩ := p
    obtain ⟨q0, q1, q2⟩ := q
    simp at h
    obtain ⟨e1, e2, e3⟩ := h
    have e1' := Int.ofNat.inj e1
    have e2' := Int.ofNat.inj e2
    have e3' := Int.ofNat.inj e3
    rw [e1', e2', e3']
  rw [hf] at r
  exact r
theorem Tups.mem {h : Heap} {vs : List Value} {ps : List (Nat × Nat × Nat)} (x : Tups h vs ps) : ∀ y ∈ vs, ∃ p ∈ ps, Tup3 h y p := by
  induction x with
  | nil => intro y hy; simp at hy
  | cons a _ ih =>
    intro y hy
    rcases List.mem_cons.mp hy with rfl | hy
    · exact ⟨_, List.mem_cons_self, a⟩
    · obtain ⟨p, hp, t⟩ := ih y hy
      exact ⟨p, List.mem_cons_of_mem _ hp, t⟩
theorem in_rule {w : World} {A : Around} {E : Value → Shared → Prop} {s : Shared} {ln fc : Addr} {ls : List Value} {ps : List (Nat × Nat × Nat)} {f : Nat × Nat × Nat} {t0 t1 t2 : Tok} {Q : Value → Shared → Prop} (hl : s.heap.IsList ln ls.toArray) (ht : Tups s.heap ls ps) (hfc : s.heap.IsTuple fc #[.int (f.1 : Nat) t0, .int (f.2.1 : Nat) t1, .int (f.2.2 : Nat) t2]) (hn : f ∉ ps) (hu : A.units < 60)
    (h : Q (.bool false) s) : wpAny (model rwp w) A (compareOp .In (.ref fc) (.ref ln)) Q E s := by
  refine SeqAt.in_listAt (fun _ => false) hl (fun y hy => ?_) ?_
  · have hm := ht.mem y (by simpa using hy)
    obtain ⟨p, hp, a, u0, u1, u2, rfl, hta⟩ := hm
    refine tup_eq hta hfc (fun e => hn (e ▸ hp)) ?_
    have : (100 : Nat) ≤ cLine := by decide
    show A.units + 1 < cLine
    omega
  · rw [show ls.toArray.any (fun _ => false) = false by simp]
    exact h
theorem Fm.gone {b u h h' : Heap} {L c : Addr} {m : Str → Option Value} {l : List (Addr × Thing)} {th : Thing} (f : Fm b u L h m l) (i : Nat) (e : l[i]? = some (c, th)) (hm : th.mut = true) (hs : Heap.ExtBut c h h') : Fm b u L h' m (l.eraseIdx i) := by
  have y := f.look i e
  have kc : ∀ {a : Addr} {o : Obj}, b.get? a = some o → a ≠ c := fun q r => by rw [r, f.no _ (List.mem_of_getElem? e)] at q; cases q
  have g := f.forget i
  refine ⟨fun a o n1 n2 q => hs _ _ (kc q) (f.kp a o n1 n2 q), ?_, ?_, fun a vs z => ?_, f.ns.at fun o q => hs _ _ (Ne.symm (y.ns f.ns)) q, fun p hp => ?_, f.noL, g.no, g.nd⟩
  · exact f.t1.at (fun o q => hs _ _ (Ne.symm (y.tab f.t1).2) q) fun o q => hs _ _ (Ne.symm (y.tab f.t1).1) q
  · exact f.t2.at (fun o q => hs _ _ (Ne.symm (y.tab f.t2).2) q) fun o q => hs _ _ (Ne.symm (y.tab f.t2).1) q
  · have z' := f.tup a vs z
    have n := y.tup_ne hm z'
    obtain ⟨o, q, r⟩ := z'
    exact ⟨o, hs _ _ n q, r⟩
  · obtain ⟨j, hij, hj⟩ := List.mem_eraseIdx_iff_getElem?.mp hp
    obtain ⟨d, t⟩ := p
    exact (f.look j hj).at fun o q => hs _ _ (f.ne hj e hij) q
noncomputable def ledL (L sp fc mk pa ln D I : Addr) (vsh vi vl : Option Value) (vs ms ps ls es : List Value) (j : Nat) : List (Addr × Thing) :=
  [(L + 1, .cell (some (.ref sp))), (L + 2, .cell (some (.ref fc))), (L + 3, .cell vsh), (L + 4, .cell vi), (L + 5, .cell (some (.ref mk))), (L + 6, .cell vl), (sp, .list vs), (mk, .list ms), (pa, .list ps), (ln, .list ls), (D, .list es), (I, .iter D j)]
/-- what the loop of the worths has made after j turns -/
noncomputable def worthTo (S : List Spot) (f0 f1 f2 : Nat) : Nat → Nat
  | 0 => 1
  | 1 => 1 * co (spotAt S f0) (markAt S f0)
  | 2 => 1 * co (spotAt S f0) (markAt S f0) * co (spotAt S f1) (markAt S f1)
  | _ => 1 * co (spotAt S f0) (markAt S f0) * co (spotAt S f1) (markAt S f1) * co (spotAt S f2) (markAt S f2)
theorem worth_succ (S : List Spot) (f0 f1 f2 : Nat) {j : Nat} (hj : j < 3) : worthTo S f0 f1 f2 (j + 1) = worthTo S f0 f1 f2 j * co (spotAt S (pick3 f0 f1 f2 j)) (markAt S (pick3 f0 f1 f2 j)) := by
  match j, hj with
  | 0, _ => rfl
  | 1, _ => rfl
  | 2, _ => rfl
theorem co_small {p : Spot} (h : Fine p) (c : Nat) : co p c < 1048576 := by
  obtain ⟨h1, h2, h3, h4⟩ := h
  rw [← co_pick]
  exact pick_lt (Nat.lt_of_le_of_lt h1 h4) (Nat.lt_of_le_of_lt h2 h4) h4
noncomputable def worthStmts : List Stmt := match (lastBody[3]? : Option Stmt) with
  | some (PySem.Stmt.If _ b _ _) => b
  | _ => []
structure NamesL (m : Str → Option Value) (pa ln : Addr) (g : Nat) : Prop where
  paints : m (Str.ofString "paints") = some (.ref pa)
  lines : m (Str.ofString "lines") = some (.ref ln)
  greys : ∃ t, m (Str.ofString "greys") = some (.int (g : Nat) t)
theorem NamesL.move {m m' : Str → Option Value} {pa ln : Addr} {g : Nat} {x : Str} (n : NamesL m pa ln g) (r : ∀ y, y ≠ x → m' y = m y) (h1 : Str.ofString "paints" ≠ x := by decide) (h2 : Str.ofString "lines" ≠ x := by decide) (h3 : Str.ofString "greys" ≠ x := by decide) : NamesL m' pa ln g :=
  ⟨(r _ h1).trans n.paints, (r _ h2).trans n.lines, by obtain ⟨t, e⟩ := n.greys; exact ⟨t, (r _ h3).trans e⟩⟩
structure WorthOut (b u : Heap) (L sp fc mk pa ln D I : Addr) (vsh vl : Option Value) (vs ms ps ls es : List Value) (j : Nat) (g w ar : Nat) (s : Shared) (fl : Flow) (s' : Shared) : Prop where
  next : fl = .next
  ex : ∃ h' tk m' vi, s' = { s with heap := h', toks := tk } ∧ Fm b u L h' m' (ledL L sp fc mk pa ln D I vsh vi vl vs ms ps ls es j) ∧ NamesL m' pa ln g ∧ (∃ t, m' (Str.ofString "worth") = some (.int (w : Nat) t)) ∧ (∃ t, m' (Str.ofString "area") = some (.int (ar : Nat) t))
theorem worth_loop {w : World} {A : Around} {E : Value → Shared → Prop} {s : Shared} {b u : Heap} {L sp fc mk pa ln D I : Addr} {vsh vi vl : Option Value} {vs ms ps ls es : List Value} {j₀ g ar N : Nat} {m : Str → Option Value} {S : List Spot} {f0 f1 f2 : Nat} {t0 t1 t2 tw ta : Tok} (hh : A.handled = none)
    (f : Fm b u L s.heap m (ledL L sp fc mk pa ln D I vsh vi vl vs ms ps ls es j₀)) (hm : NamesL m pa ln g) (hw : m (Str.ofString "worth") = some (.int (1 : Nat) tw)) (har : m (Str.ofString "area") = some (.int (ar : Nat) ta))
    (hfc : u.IsTuple fc ([.int (f0 : Nat) t0, .int (f1 : Nat) t1, .int (f2 : Nat) t2] : List Value).toArray) (hv : Tups u vs S) (hms : Marks S ms N) (hN : N < 1000) (hS : S.length = N) (h0 : f0 < N) (h1 : f1 < N) (h2 : f2 < N) (hfine : ∀ p ∈ S, Fine p) {st : Stmt} (hst : worthStmts[3]? = some st) :
    wpAny (model rwp w) A (exec st (lawEnv w.params L)) (WorthOut b u L sp fc mk pa ln D I vsh vl vs ms ps ls es j₀ g (worthTo S f0 f1 f2 3) ar s) E s := by
  suffices key : ∀ Q : Flow → Shared → Prop, (∀ fl s', WorthOut b u L sp fc mk pa ln D I vsh vl vs ms ps ls es j₀ g (worthTo S f0 f1 f2 3) ar s fl s' → Q fl s') → wpAny (model rwp w) A (exec st (lawEnv w.params L)) Q E s from key _ fun _ _ h => h
  intro Q hQ
  cases hst
  refine wpAny_For (nm_c f 1 (by rfl) ?_)
  refine wpAny_pyIter_tuple (f.tup _ _ hfc) ?_
  have hit : (s.heap.push { cls := .type "tuple_iterator", data := .fields #[.ref fc, .int 0 0] }).IsTupleIter s.heap.objs.size fc 0 := ⟨_, Heap.get?_push_size _ rfl, rfl, rfl⟩
  have f₁ := f.snoc (th := .titer fc 0) (fun _ _ e => Heap.get?_push_of_some _ e) (Heap.get?_none_of_le (Nat.le_refl _)) hit
  refine codeAny_forLoop (fun n s' => ∃ j h' tk m' vi tw', j ≤ 3 ∧ n = 3 - j ∧ s' = { s with heap := h', toks := tk } ∧ Fm b u L h' m' (ledL L sp fc mk pa ln D I vsh vi vl vs ms ps ls es j₀ ++ [(s.heap.objs.size, .titer fc j)]) ∧ NamesL m' pa ln g ∧ m' (Str.ofString "worth") = some (.int (worthTo S f0 f1 f2 j : Nat) tw') ∧ (∃ t, m' (Str.ofString "area") = some (.int (ar : Nat) t))) (fun n s' hI => ?_) 3 ⟨0, _, _, m, vi, tw, by decide, rfl, rfl, f₁, hm, hw, ta, har⟩
  have hI' := hI
  clear hI
  obtain ⟨j, h₂, tk₂, m₂, vi₂, tw₂, hj3, hn, hs', f₂, hm₂, hw₂, ta₂, har₂⟩ := hI'
  subst hn hs'
  by_cases hlt : j < 3
  · have ht := three_at (a0 := f0) (a1 := f1) (a2 := f2) (t0 := t0) (t1 := t1) (t2 := t2) hlt
    obtain ⟨tj, ht⟩ := ht
    rw [Int.toNat_natCast] at ht
    have hpl : pick3 f0 f1 f2 j < N := pick_lt h0 h1 h2
    refine wpAny_pyNext_tuple_item (f₂.look (c := s.heap.objs.size) 12 rfl) (f₂.tup _ _ hfc) (by rw [List.getElem?_toArray]; exact ht) fun h₃ hit₃ hs₃ => ?_
    have f₃ := f₂.set (th' := .titer fc (j + 1)) 12 (by rfl) rfl hs₃.extBut hit₃
    refine wpAny_assign_Name (st_cell f₃ 3 (by rfl) fun h₄ f₄ => ?_)
    show wpAny _ _ (execs (_ :: _) _) _ _ _
    refine wpAny_execs_cons (wpAny_AugAssign_Name ?_)
    refine wpAny_loadName_local (by rfl) (by rfl) f₄.ns hw₂ ?_
    have hget : S[pick3 f0 f1 f2 j]? = some (spotAt S (pick3 f0 f1 f2 j)) := by
      unfold spotAt
      rw [List.getD_eq_getElem?_getD, List.getElem?_eq_getElem (hS ▸ hpl)]; rfl
    have ht3 := (hv.move f₄.tup).at_ hget
    obtain ⟨v, hv1, a, x0, x1, x2, rfl, hta⟩ := ht3
    have hat := hms.at_ _ hpl
    obtain ⟨tm, hat⟩ := hat
    have hmk : markAt S (pick3 f0 f1 f2 j) < 3 := mark_lt _
    have hco := three_at (a0 := (spotAt S (pick3 f0 f1 f2 j)).1) (a1 := (spotAt S (pick3 f0 f1 f2 j)).2.1) (a2 := (spotAt S (pick3 f0 f1 f2 j)).2.2) (t0 := x0) (t1 := x1) (t2 := x2) hmk
    obtain ⟨tc, hco⟩ := hco
    rw [co_pick] at hco
    have hsm := co_small (hfine _ (spotAt_mem (hS ▸ hpl))) (markAt S (pick3 f0 f1 f2 j))
    refine Subscript_ (Subscript_ (nm_c f₄ 0 (by rfl) (nm_c f₄ 3 (by rfl) ?_)))
    refine tail_list (f₄.list (c := sp) 6 rfl).isList (by omega) (by omega) (by rw [Int.toNat_natCast]; exact hv1) ?_
    refine Subscript_ (nm_c f₄ 4 (by rfl) (nm_c f₄ 3 (by rfl) ?_))
    refine tail_list (f₄.list (c := mk) 7 rfl).isList (by omega) (by omega) (by rw [Int.toNat_natCast]; exact hat) ?_
    refine tail_tup hta (by omega) (by omega) hco ?_
    refine imul_int ?_ (IntMulOk.of_right (intBits_le_64 (by omega) (by omega)))
    have hww : ((worthTo S f0 f1 f2 j : Nat) : Int) * ((co (spotAt S (pick3 f0 f1 f2 j)) (markAt S (pick3 f0 f1 f2 j)) : Nat) : Int) = ((worthTo S f0 f1 f2 (j + 1) : Nat) : Int) := by rw [worth_succ S f0 f1 f2 hlt]; push_cast; rfl
    rw [hww]
    refine st_new f₄ fun h₅ m₅ f₅ hw₅ r₅ => ?_
    refine wpAny_execs_nil ?_
    exact ⟨3 - (j + 1), Nat.sub_lt_sub_left hlt (Nat.lt_succ_self j), j + 1, h₅, _, m₅, _, _, hlt, rfl, rfl, f₅, hm₂.move r₅, hw₅, ta₂, (r₅ _ (by decide)).trans har₂⟩
  · have : j = 3 := Nat.le_antisymm hj3 (Nat.not_lt.mp hlt)
    subst this
    refine wpAny_pyNext_tuple_end hh (f₂.look (c := s.heap.objs.size) 12 rfl) (f₂.tup _ _ hfc) (by rfl) fun h₃ hs₃ => ?_
    refine wpAny_execs_nil ?_
    have f₃ : Fm b u L h₃ m₂ (ledL L sp fc mk pa ln D I vsh vi₂ vl vs ms ps ls es j₀) := f₂.gone 12 (by rfl) rfl hs₃
    exact hQ _ _ ⟨rfl, h₃, _, m₂, vi₂, rfl, f₃, hm₂, ⟨_, hw₂⟩, ⟨_, har₂⟩⟩
end Mine
end
section
open PySem PySem.W PyProof.Rows
set_option Elab.async false
set_option maxRecDepth 100000
set_option maxHeartbeats 1000000
set_option linter.unusedVariables false
namespace Mine
structure LastOut (b u : Heap) (L sp fc mk pa ln D I : Addr) (vsh vl : Option Value) (vs ms ps ls es : List Value) (j g : Nat) (s : Shared) (fl : Flow) (s' : Shared) : Prop where
  next : fl = .next
  ex : ∃ h' tk m' vi, s' = { s with heap := h', toks := tk } ∧ Fm b u L h' m' (ledL L sp fc mk pa ln D I vsh vi vl vs ms ps ls es j) ∧ NamesL m' pa ln g
theorem abs_int {d : Int} : (if d < 0 then -d else d) = ((d.natAbs : Nat) : Int) := by
  by_cases h : d < 0
  · rw [if_pos h]; omega
  · rw [if_neg h]; omega
theorem low_call {w : World} {A : Around} {E : Value → Shared → Prop} {s : Shared} {p : Program} {loose : List Str} {mg mb : Str → Option Value} {b u : Heap} {L : Addr} {m : Str → Option Value} {l : List (Addr × Thing)} {x : Str} {n : Nat} {t : Tok} {Q : Value → Shared → Prop} {p1 p2 p3 : Pos} (X : (K w.params).In s.heap) (T : TopRead p loose mg mb s.heap) (hh : A.handled = none) (hroom : A.depth < 700) (hu : A.units < 60)
    (f : Fm b u L s.heap m l) (hx : m x = some (.int (n : Nat) t)) (hk : (lawEnv w.params L).kindOf x = some .local) (hd : (x == ("__debug__" : Str)) = false)
    (k : ∀ h' tk t, Up s.heap h' → Q (.int (low n : Nat) t) { s with heap := h', toks := tk }) :
    wpAny (model rwp w) A (eval (.Call (.Name (Str.ofString "_law_low") p1) [.Name x p2] [] p3) (lawEnv w.params L)) Q E s := by
  refine Call_ (nm_global (v := .ref 202) (fun _ _ e => e) X T (by kernel_rfl) ?_)
  refine callWith_meth (h₀ := s.heap) (o := o_202 w.params) rfl (X 202 _ rfl) ?_ (by rfl)
  refine spliced_more (nm_m f hx (spliced_none ⟨fun _ _ e => e, ?_⟩) hk hd) (by rfl)
  refine call_ret (spec_low X T (Nat.lt_trans hroom (by decide)) (Nat.lt_trans hu (by decide)) hh (by omega)) fun v' h' tk' up' e => ?_
  have e' := e
  obtain ⟨u, rfl⟩ := e'
  rw [low_int]
  exact k _ _ _ up'
theorem worth_part {w : World} {A : Around} {E : Value → Shared → Prop} {s : Shared} {p : Program} {loose : List Str} {mg mb : Str → Option Value} {b : Heap} {L sp fc mk pa ln D I : Addr} {vsh vi vl : Option Value} {vs ms ps ls es : List Value} {j₀ g N : Nat} {m : Str → Option Value} {S : St} {fa : Face} {t0 t1 t2 : Tok} (X : (K w.params).In b) (T : TopRead p loose mg mb b) (hh : A.handled = none) (hroom : A.depth < 450) (hu : A.units < 15)
    (f : Fm b s.heap L s.heap m (ledL L sp fc mk pa ln D I vsh vi vl vs ms ps ls es j₀)) (hm : NamesL m pa ln g)
    (hfc : s.heap.IsTuple fc ([.int (fa.1 : Nat) t0, .int (fa.2.1 : Nat) t1, .int (fa.2.2 : Nat) t2] : List Value).toArray) (hv : Tups s.heap vs S.spots) (hms : Marks S.spots ms N) (hN : N < 1000) (hS : S.spots.length = N) (hin : inF N fa) (hfine : ∀ p ∈ S.spots, Fine p)
    (hlow : low (detF S.spots fa).natAbs = low (worthTo S.spots fa.1 fa.2.1 fa.2.2 3)) :
    wpAny (model rwp w) A (execs worthStmts (lawEnv w.params L)) (LastOut b s.heap L sp fc mk pa ln D I vsh vl vs ms ps ls es j₀ (g + 1) s) E s := by
  suffices key : ∀ Q : Flow → Shared → Prop, (∀ fl s', LastOut b s.heap L sp fc mk pa ln D I vsh vl vs ms ps ls es j₀ (g + 1) s fl s' → Q fl s') → wpAny (model rwp w) A (execs worthStmts (lawEnv w.params L)) Q E s from key _ fun _ _ h => h
  intro Q hQ
  show wpAny _ _ (execs (_ :: _) _) _ _ _
  have hg := hm.greys
  obtain ⟨tg, hg⟩ := hg
  -- greys += 1
  refine wpAny_execs_cons (wpAny_AugAssign_Name ?_)
  refine wpAny_loadName_local (by rfl) (by rfl) f.ns hg ?_
  refine wpAny_Constant_int (iadd_int ?_)
  have hg1 : ((g : Nat) : Int) + 1 = ((g + 1 : Nat) : Int) := by push_cast; rfl
  rw [hg1]
  refine st_new f fun h₁ m₁ f₁ hg₁ r₁ => ?_
  have hm₁ : NamesL m₁ pa ln (g + 1) := ⟨(r₁ _ (by decide)).trans hm.paints, (r₁ _ (by decide)).trans hm.lines, _, hg₁⟩
  have X₁ := f₁.inK X
  have T₁ := f₁.top T
  show wpAny _ _ (execs (_ :: _) _) _ _ _
  -- area
  have spot : ∀ i, i < N → ∃ a u0 u1 u2, vs[i]? = some (.ref a) ∧ s.heap.IsTuple a #[.int ((spotAt S.spots i).1 : Nat) u0, .int ((spotAt S.spots i).2.1 : Nat) u1, .int ((spotAt S.spots i).2.2 : Nat) u2] := fun i hi => by
    have hget : S.spots[i]? = some (spotAt S.spots i) := by
      unfold spotAt
      rw [List.getD_eq_getElem?_getD, List.getElem?_eq_getElem (hS ▸ hi)]; rfl
    have h3 := hv.at_ hget
    obtain ⟨v, e, a, u0, u1, u2, rfl, t⟩ := h3
    exact ⟨a, u0, u1, u2, e, t⟩
  have q0 := spot _ hin.1
  have q1 := spot _ hin.2.1
  have q2 := spot _ hin.2.2
  obtain ⟨a0, x0, x1, x2, e0, ta0⟩ := q0
  obtain ⟨a1, x3, x4, x5, e1, ta1⟩ := q1
  obtain ⟨a2, x6, x7, x8, e2, ta2⟩ := q2
  have fin : ∀ i, i < N → (0 ≤ ((spotAt S.spots i).1 : Int) ∧ ((spotAt S.spots i).1 : Int) < 2 ^ 20) ∧ (0 ≤ ((spotAt S.spots i).2.1 : Int) ∧ ((spotAt S.spots i).2.1 : Int) < 2 ^ 20) ∧ (0 ≤ ((spotAt S.spots i).2.2 : Int) ∧ ((spotAt S.spots i).2.2 : Int) < 2 ^ 20) := fun i hi => by
    obtain ⟨h1, h2, h3, h4⟩ := hfine _ (spotAt_mem (S := S.spots) (hS ▸ hi : i < S.spots.length))
    omega
  have n0 := fin _ hin.1
  have n1 := fin _ hin.2.1
  have n2 := fin _ hin.2.2
  refine wpAny_execs_cons (wpAny_Assign_Name (Call_ (nm_built (fun _ _ e => e) X₁ T₁ (by kernel_rfl) (by boot_by_name) (by decide) ?_)) (by rfl))
  refine callWith_builtin1 ?_ (by rfl) (by rfl)
  refine spliced_more (Call_ (nm_global (v := .ref 214) (fun _ _ e => e) X₁ T₁ (by kernel_rfl) ?_)) (by rfl)
  refine callWith_meth (h₀ := h₁) (o := o_214 w.params) rfl (X₁ 214 _ rfl) ?_ (by rfl)
  have hfc₁ := f₁.tup _ _ hfc
  have hl0 : fa.1 < N := hin.1
  have hl1 : fa.2.1 < N := hin.2.1
  have hl2 : fa.2.2 < N := hin.2.2
  refine spliced_more (Subscript_ (nm_c f₁ 0 (by rfl) ?_)) (by rfl)
  refine face_sub (j := 0) (by decide) f₁ (by rfl) hfc₁ fun y1 z1 => ?_
  refine tail_list (f₁.list (c := sp) 6 rfl).isList (by omega) (by show ((fa.1 : Nat) : Int) < _; omega) (by rw [Int.toNat_natCast]; exact e0) ?_
  refine spliced_more (Subscript_ (nm_c f₁ 0 (by rfl) ?_)) (by rfl)
  refine face_sub (j := 1) (by decide) f₁ (by rfl) hfc₁ fun y2 z2 => ?_
  refine tail_list (f₁.list (c := sp) 6 rfl).isList (by omega) (by show ((fa.2.1 : Nat) : Int) < _; omega) (by rw [Int.toNat_natCast]; exact e1) ?_
  refine spliced_more (Subscript_ (nm_c f₁ 0 (by rfl) ?_)) (by rfl)
  refine face_sub (j := 2) (by decide) f₁ (by rfl) hfc₁ fun y3 z3 => ?_
  refine tail_list (f₁.list (c := sp) 6 rfl).isList (by omega) (by show ((fa.2.2 : Nat) : Int) < _; omega) (by rw [Int.toNat_natCast]; exact e2) ?_
  refine spliced_none ⟨fun _ _ e => e, ?_⟩
  refine call_ret (spec_det X₁ T₁ (by omega) (by omega) hh (f₁.tup _ _ ta0) (f₁.tup _ _ ta1) (f₁.tup _ _ ta2) n0.1 n0.2.1 n0.2.2 n1.1 n1.2.1 n1.2.2 n2.1 n2.2.1 n2.2.2) fun v h₂ tk₂ up₂ hv2 => ?_
  have hv2' := hv2
  obtain ⟨td, rfl⟩ := hv2'
  refine spliced_none ?_
  refine call_abs_int fun u4 tk4 => ?_
  have hdet : (if (((spotAt S.spots fa.1).1 : Int) * (((spotAt S.spots fa.2.1).2.1 : Int) * (spotAt S.spots fa.2.2).2.2 - ((spotAt S.spots fa.2.1).2.2 : Int) * (spotAt S.spots fa.2.2).2.1) - ((spotAt S.spots fa.1).2.1 : Int) * (((spotAt S.spots fa.2.1).1 : Int) * (spotAt S.spots fa.2.2).2.2 - ((spotAt S.spots fa.2.1).2.2 : Int) * (spotAt S.spots fa.2.2).1) + ((spotAt S.spots fa.1).2.2 : Int) * (((spotAt S.spots fa.2.1).1 : Int) * (spotAt S.spots fa.2.2).2.1 - ((spotAt S.spots fa.2.1).2.1 : Int) * (spotAt S.spots fa.2.2).1)) < 0 then -(((spotAt S.spots fa.1).1 : Int) * (((spotAt S.spots fa.2.1).2.1 : Int) * (spotAt S.spots fa.2.2).2.2 - ((spotAt S.spots fa.2.1).2.2 : Int) * (spotAt S.spots fa.2.2).2.1) - ((spotAt S.spots fa.1).2.1 : Int) * (((spotAt S.spots fa.2.1).1 : Int) * (spotAt S.spots fa.2.2).2.2 - ((spotAt S.spots fa.2.1).2.2 : Int) * (spotAt S.spots fa.2.2).1) + ((spotAt S.spots fa.1).2.2 : Int) * (((spotAt S.spots fa.2.1).1 : Int) * (spotAt S.spots fa.2.2).2.1 - ((spotAt S.spots fa.2.1).2.1 : Int) * (spotAt S.spots fa.2.2).1)) else (((spotAt S.spots fa.1).1 : Int) * (((spotAt S.spots fa.2.1).2.1 : Int) * (spotAt S.spots fa.2.2).2.2 - ((spotAt S.spots fa.2.1).2.2 : Int) * (spotAt S.spots fa.2.2).2.1) - ((spotAt S.spots fa.1).2.1 : Int) * (((spotAt S.spots fa.2.1).1 : Int) * (spotAt S.spots fa.2.2).2.2 - ((spotAt S.spots fa.2.1).2.2 : Int) * (spotAt S.spots fa.2.2).1) + ((spotAt S.spots fa.1).2.2 : Int) * (((spotAt S.spots fa.2.1).1 : Int) * (spotAt S.spots fa.2.2).2.1 - ((spotAt S.spots fa.2.1).2.1 : Int) * (spotAt S.spots fa.2.2).1))) = (((detF S.spots fa).natAbs : Nat) : Int) := abs_int
  rw [hdet]
  clear hdet
  generalize hD : (detF S.spots fa).natAbs = ar at hlow
  have f₂ := f₁.up up₂
  refine st_new f₂ fun h₃ m₃ f₃ ha₃ r₃ => ?_
  have hm₃ := hm₁.move r₃
  show wpAny _ _ (execs (_ :: _) _) _ _ _
  -- worth = 1
  refine wpAny_execs_cons (wpAny_Assign_Name (wpAny_Constant_int ?_) (by rfl))
  refine st_new f₃ fun h₄ m₄ f₄ hw₄ r₄ => ?_
  have hm₄ := hm₃.move r₄
  have ha₄ := (r₄ _ (by decide)).trans ha₃
  show wpAny _ _ (execs (_ :: _) _) _ _ _
  -- the loop
  refine wpAny_execs_cons (wpAny_mono (worth_loop hh f₄ hm₄ (by exact hw₄) ha₄ hfc hv hms hN hS hin.1 hin.2.1 hin.2.2 hfine (by rfl)) (fun fl s' ho => ?_) fun _ _ e => e)
  have hoe := ho.ex
  have hon := ho.next
  subst hon
  obtain ⟨h₅, tk₅, m₅, vi₅, hs5, f₅, hm₅, hw₅, ha₅⟩ := hoe
  subst hs5
  obtain ⟨tw5, hw₅⟩ := hw₅
  obtain ⟨ta5, ha₅⟩ := ha₅
  have X₅ := f₅.inK X
  have T₅ := f₅.top T
  show wpAny _ _ (execs (_ :: _) _) _ _ _
  refine wpAny_execs_cons (wpAny_If (wpAny_isTrue_Compare1 ?_ (by with_unfolding_all rfl)))
  refine low_call X₅ T₅ hh (by omega) (by omega) f₅ ha₅ (by rfl) (by decide) fun h₆ tk₆ t₆ up₆ => ?_
  have f₆ := f₅.up up₆
  refine low_call (f₆.inK X) (f₆.top T) hh (by omega) (by omega) f₆ hw₅ (by rfl) (by decide) fun h₇ tk₇ t₇ up₇ => ?_
  have f₇ := f₆.up up₇
  refine ne_int (wpAny_truthy_bool ?_)
  refine bneg (bne_eq_false_iff_eq.mpr (congrArg (fun n : Nat => (n : Int)) hlow)) ?_
  refine wpAny_execs_nil ?_
  refine wpAny_execs_nil ?_
  exact hQ _ _ ⟨rfl, h₇, _, m₅, vi₅, rfl, f₇, hm₅⟩
end Mine
end
section
open PySem PySem.W PyProof.Rows
set_option Elab.async false
set_option maxRecDepth 100000
set_option maxHeartbeats 1000000
set_option linter.unusedVariables false
namespace Mine
theorem worth_all (S : List Spot) (f0 f1 f2 : Nat) : worthTo S f0 f1 f2 3 = co (spotAt S f0) (markAt S f0) * co (spotAt S f1) (markAt S f1) * co (spotAt S f2) (markAt S f2) := by
  show 1 * _ * _ * _ = _
  rw [Nat.one_mul]
theorem last_body {w : World} {A : Around} {E : Value → Shared → Prop} {s : Shared} {p : Program} {loose : List Str} {mg mb : Str → Option Value} {b : Heap} {L sp fc mk pa ln D I : Addr} {vsh vi vl : Option Value} {vs ms ps ls es : List Value} {j₀ g k N : Nat} {m : Str → Option Value} {S : St} {fa : Face} {t0 t1 t2 : Tok} (X : (K w.params).In b) (T : TopRead p loose mg mb b) (hh : A.handled = none) (hroom : A.depth < 450) (hu : A.units < 15) (htk : 0 < s.toks)
    (f : Fm b s.heap L s.heap m (ledL L sp fc mk pa ln D I vsh vi vl vs ms ps ls es j₀)) (hm : NamesL m pa ln g)
    (hfc : s.heap.IsTuple fc ([.int (fa.1 : Nat) t0, .int (fa.2.1 : Nat) t1, .int (fa.2.2 : Nat) t2] : List Value).toArray) (hv : Tups s.heap vs S.spots) (hls : Tups s.heap ls S.lines) (hms : Marks S.spots ms N) (hps : Paints s.heap S.spots ps N) (hN : N < 1000) (hS : S.spots.length = N) (hinv : Inv k S) (hk5 : k ≤ 5) (hmem : fa ∈ S.lines ++ S.faces) :
    wpAny (model rwp w) A (execs lastBody (lawEnv w.params L)) (LastOut b s.heap L sp fc mk pa ln D I vsh vl vs ms ps ls es j₀ (g + (rainF S.spots fa).toNat) s) E s := by
  have X₀ := f.inK X
  have T₀ := f.top T
  have hin : inF N fa := by
    rw [← hS]
    rcases List.mem_append.mp hmem with h | h
    · exact hinv.inLines _ h
    · exact hinv.inFaces _ h
  have hfine : ∀ p ∈ S.spots, Fine p := fun p hp => hinv.fine' hk5 hp
  have hl0 : fa.1 < N := hin.1
  have hl1 : fa.2.1 < N := hin.2.1
  have hl2 : fa.2.2 < N := hin.2.2
  show wpAny _ _ (execs (_ :: _) _) _ _ _
  -- told
  refine wpAny_execs_cons (wpAny_Assign_Name (Call_ (nm_global (v := .ref 207) (fun _ _ e => e) X₀ T₀ (by kernel_rfl) ?_)) (by rfl))
  refine callWith_meth (h₀ := s.heap) (o := o_207 w.params) rfl (X₀ 207 _ rfl) ?_ (by rfl)
  refine spliced_more (nm_m f hm.paints ?_) (by rfl)
  refine spliced_more (nm_c f 1 (by rfl) (spliced_none ⟨fun _ _ e => e, ?_⟩)) (by rfl)
  refine call_ret (spec_grey X₀ T₀ (by omega) (by omega) hh htk (P := pa) (ps := ps) (mk := markAt S.spots) (f.list (c := pa) 8 rfl).isList (fun n v e => ?_) hfc (by rw [hps.len]; exact hl0) (by rw [hps.len]; exact hl1) (by rw [hps.len]; exact hl2) (by rw [hps.len]; exact hN) (mark_lt _) (mark_lt _) (mark_lt _)) fun v h₁ tk₁ up₁ hv1 => ?_
  · have hn : n < N := by
      rw [← hps.len]
      rcases Nat.lt_or_ge n ps.length with q | q
      · exact q
      · rw [List.getElem?_eq_none q] at e; cases e
    have ha := hps.at_ n hn
    obtain ⟨v', e', r⟩ := ha
    rw [e] at e'; cases e'
    exact r
  have hv1' := hv1
  rw [hits_rain (markAt S.spots fa.1) (mark_lt _) (markAt S.spots fa.2.1) (mark_lt _) (markAt S.spots fa.2.2) (mark_lt _)] at hv1'
  have hr : ∃ r, r = rain (markAt S.spots fa.1) (markAt S.spots fa.2.1) (markAt S.spots fa.2.2) := ⟨_, rfl⟩
  obtain ⟨r, hr⟩ := hr
  rw [← hr] at hv1'
  subst hv1'
  have hrF : rainF S.spots fa = r := hr.symm
  rw [hrF]
  have f₁ := f.up up₁
  refine st_new f₁ fun h₂ m₂ f₂ ht₂ r₂ => ?_
  have hm₂ := hm.move r₂
  have X₂ := f₂.inK X
  have T₂ := f₂.top T
  show wpAny _ _ (execs (_ :: _) _) _ _ _
  -- told is right
  refine wpAny_execs_cons (wpAny_If (wpAny_isTrue_Compare1 (nm_m f₂ ht₂ ?_) (by with_unfolding_all rfl)))
  refine sort_rule X₂ T₂ hh (by omega) (f₂.cell (c := L + 2) 1 rfl) (f₂.cell (c := L + 5) 4 rfl) (f₂.list (c := mk) 7 rfl).isList hms hN (f₂.tup _ _ hfc) hl0 hl1 hl2 fun h₃ tk₃ up₃ => ?_
  refine ne_bool (wpAny_truthy_bool ?_)
  refine bneg (by rw [← hr]; exact bne_self_eq_false r) ?_
  refine wpAny_execs_nil ?_
  have f₃ := f₂.up up₃
  show wpAny _ _ (execs (_ :: _) _) _ _ _
  -- not on a line
  refine wpAny_execs_cons (wpAny_If (isTrue_and (isTrue_plain (nm_m f₃ ht₂ (wpAny_truthy_bool ?_)) (by rfl))))
  cases r with
  | false =>
    refine bneg rfl ?_
    refine bneg rfl ?_
    refine wpAny_execs_nil ?_
    show wpAny _ _ (execs (_ :: _) _) _ _ _
    refine wpAny_execs_cons (wpAny_If (isTrue_plain (nm_m f₃ ht₂ (wpAny_truthy_bool ?_)) (by rfl)))
    refine bneg rfl ?_
    refine wpAny_execs_nil ?_
    refine wpAny_execs_nil ?_
    exact ⟨rfl, h₃, _, m₂, _, rfl, f₃, hm₂⟩
  | true =>
    have hrain := hinv.rain hk5 hmem hrF
    refine bpos rfl ?_
    refine isTrue_and (wpAny_isTrue_Compare1 (nm_c f₃ 1 (by rfl) (nm_m f₃ hm₂.lines ?_)) (by with_unfolding_all rfl))
    refine in_rule (f := fa) (f₃.list (c := ln) 9 rfl).isList (hls.move f₃.tup) (f₃.tup _ _ hfc) hrain.1 (by omega) ?_
    refine wpAny_truthy_bool ?_
    refine bneg rfl ?_
    refine bneg rfl ?_
    refine wpAny_execs_nil ?_
    show wpAny _ _ (execs (_ :: _) _) _ _ _
    refine wpAny_execs_cons (wpAny_If (isTrue_plain (nm_m f₃ ht₂ (wpAny_truthy_bool ?_)) (by rfl)))
    refine bpos rfl ?_
    refine wpAny_mono (worth_part (S := S) (fa := fa) (s := { s with heap := h₃, toks := tk₃ }) X T hh hroom hu f₃.rebase hm₂ (f₃.tup _ _ hfc) (hv.move f₃.tup) hms hN hS hin hfine (by rw [worth_all]; exact hrain.2)) (fun fl s' ho => ?_) fun _ _ e => e
    have hoe := ho.ex
    have hon := ho.next
    subst hon
    obtain ⟨h₅, tk₅, m₅, vi₅, hs5, f₅, hm₅⟩ := hoe
    subst hs5
    refine wpAny_execs_nil ?_
    exact ⟨rfl, h₅, _, m₅, vi₅, rfl, f₅.under f₃.tup, hm₅⟩
end Mine
end
section
open PySem PySem.W PyProof.Rows
set_option Elab.async false
set_option maxRecDepth 100000
set_option maxHeartbeats 1000000
set_option linter.unusedVariables false
namespace Mine
theorem Fm.sel {b u h : Heap} {L : Addr} {m : Str → Option Value} {l : List (Addr × Thing)} (f : Fm b u L h m l) (is : List Nat) (hn : is.Nodup) : Fm b u L h m (is.filterMap (l[·]?)) := by
  have mem : ∀ p ∈ is.filterMap (l[·]?), p ∈ l := fun p hp => by
    obtain ⟨i, _, e⟩ := List.mem_filterMap.mp hp
    exact List.mem_of_getElem? e
  refine { f with led := fun p hp => f.led p (mem p hp), no := fun p hp => f.no p (mem p hp), nd := ?_ }
  clear mem
  induction is with
  | nil => exact List.nodup_nil
  | cons i is ih =>
    obtain ⟨h1, h2⟩ := List.nodup_cons.mp hn
    rw [List.filterMap_cons]
    cases e : l[i]? with
    | none => exact ih h2
    | some p =>
      show (p.1 :: (is.filterMap (l[·]?)).map (·.1)).Nodup
      refine List.nodup_cons.mpr ⟨fun hm => ?_, ih h2⟩
      obtain ⟨q, hq, e1⟩ := List.mem_map.mp hm
      obtain ⟨j, hj, e2⟩ := List.mem_filterMap.mp hq
      obtain ⟨c, t⟩ := p
      obtain ⟨d, t'⟩ := q
      exact f.ne e e2 (fun q => h1 (q ▸ hj)) e1.symm
theorem Fm.nameAdd {b u h h' : Heap} {L D : Addr} {m m' : Str → Option Value} {l : List (Addr × Thing)} {th : Thing} (f : Fm b u L h m l) (hn : h'.Ns L m') (hs : Heap.ExtBut L h h') (hD : h.get? D = none) (x : th.At h' D) : Fm b u L h' m' (l ++ [(D, th)]) := by
  have g := f.name hn hs
  have hb : b.get? D = none := by
    cases q : b.get? D with
    | none => rfl
    | some o =>
      exfalso
      have n63 : D ≠ 63 := fun r => by obtain ⟨ps, _, z⟩ := f.t1.obj; rw [← r, hD] at z; cases z
      have n70 : D ≠ 70 := fun r => by obtain ⟨ps, _, z⟩ := f.t2.obj; rw [← r, hD] at z; cases z
      rw [f.kp D o n63 n70 q] at hD; cases hD
  refine { g with led := fun p hp => ?_, no := fun p hp => ?_, nd := ?_ }
  · rcases List.mem_append.mp hp with hp | hp
    · exact g.led p hp
    · rw [List.mem_singleton.mp hp]; exact x
  · rcases List.mem_append.mp hp with hp | hp
    · exact g.no p hp
    · rw [List.mem_singleton.mp hp]; exact hb
  · have r : (l ++ [(D, th)]).map (·.1) = l.map (·.1) ++ [D] := by rw [List.map_append]; rfl
    rw [r]
    refine (List.Perm.nodup_iff (l₁ := D :: l.map fun x => x.1) (l₂ := (l.map fun x => x.1) ++ [D]) (List.perm_append_comm (l₁ := [D]))).mp ?_
    refine List.nodup_cons.mpr ⟨fun hm => ?_, f.nd⟩
    obtain ⟨p, hp, e⟩ := List.mem_map.mp hm
    obtain ⟨o, e', _⟩ := (f.led p hp).obj
    have e'' : h.get? D = some o := by rw [← e]; exact e'
    rw [hD] at e''; cases e''
inductive Nats : List Value → List Nat → Prop
  | nil : Nats [] []
  | cons {q : Nat} {t : Tok} {vs qs} : q < 1000000 → Nats vs qs → Nats (.int (q : Nat) t :: vs) (q :: qs)
theorem Nats.len {vs : List Value} {qs : List Nat} (x : Nats vs qs) : vs.length = qs.length := by
  induction x with
  | nil => rfl
  | cons _ _ ih => simp [ih]
theorem Nats.at_ {vs : List Value} {qs : List Nat} (x : Nats vs qs) : ∀ {j : Nat} {q : Nat}, qs[j]? = some q → ∃ t, vs[j]? = some (.int (q : Nat) t) ∧ q < 1000000 := by
  induction x with
  | nil => intro j q e; simp at e
  | cons h _ ih =>
    intro j q e
    cases j with
    | zero => cases e; exact ⟨_, rfl, h⟩
    | succ j => exact ih (j := j) e
noncomputable def drawnStmt : Option Stmt := (bodyAt 18)[1]?
theorem modm (x : Int) : ∃ q : Nat, Int.fmod x 1000000 = (q : Int) ∧ q < 1000000 := by
  have h0 := Int.fmod_nonneg_of_pos x (by decide : (0 : Int) < 1000000)
  have h1 := Int.fmod_lt_of_pos x (by decide : (0 : Int) < 1000000)
  exact ⟨(Int.fmod x 1000000).toNat, by omega, by omega⟩
theorem nats_of {vs : List Value} {ys : List Value} {ns : List Int} (hi : IntsAre vs ns) (hp : Paired (fun v y => ∀ x t, v = Value.int x t → ∃ (q : Nat) (u : Tok), y = Value.int (q : Nat) u ∧ q < 1000000) vs ys) : ∃ qs, Nats ys qs ∧ qs.length = ns.length := by
  induction hi generalizing ys with
  | nil => cases hp; exact ⟨[], .nil, rfl⟩
  | cons k t r ih =>
    cases hp with | cons h1 h2 =>
    obtain ⟨q, u, rfl, hq⟩ := h1 _ _ rfl
    obtain ⟨qs, hn, hl⟩ := ih h2
    exact ⟨q :: qs, .cons hq hn, by simp [hl]⟩
theorem drawn_rule {w : World} {A : Around} {E : Value → Shared → Prop} {s : Shared} {p : Program} {loose : List Str} {mg mb : Str → Option Value} {b u : Heap} {L a gv : Addr} {m : Str → Option Value} {l : List (Addr × Thing)} {vs gs : List Value} {xs zs : List Int} {Q : Flow → Shared → Prop} {i : Nat} (X : (K w.params).In s.heap) (T : TopRead p loose mg mb s.heap) (hh : A.handled = none)
    (f : Fm b u L s.heap m l) (hs : m (Str.ofString "script") = some (.ref a)) (hg : m (Str.ofString "given") = some (.ref gv)) (ha : s.heap.IsList a vs.toArray) (hi : IntsAre vs xs) (hn : xs.length ≤ 63)
    (hgl : l[i]? = some (gv, .list gs)) (hgi : IntsAre gs zs) (hz : zs.length = 5)
    (hQ : ∀ h' tk m' D ds qs, Fm b u L h' m' (l ++ [(D, .list ds)]) → m' (Str.ofString "drawn") = some (.ref D) → (∀ y, y ≠ Str.ofString "drawn" → m' y = m y) → Nats ds qs → qs.length = 5 → Q .next { s with heap := h', toks := tk })
    {st : Stmt} (hst : drawnStmt = some st) : wpAny (model rwp w) A (exec st (lawEnv w.params L)) Q E s := by
  cases hst
  have hvl : vs.length = xs.length := hi.length
  refine wpAny_Assign_ListComp_free (fun _ => true) (fun v y => ∀ x t, v = Value.int x t → ∃ (q : Nat) (u : Tok), y = Value.int (q : Nat) u ∧ q < 1000000) (by with_unfolding_all rfl) (by with_unfolding_all rfl) (by decide) (by rfl) (by decide) (by rfl) (by rfl) (by rfl) ?_
  -- script[:5]
  refine wpAny_BinOp (Subscript_ (nm_m f hs (wpAny_Slice ?_)))
  show wpAny _ _ (pure Value.none) _ _ _
  refine wpAny_pure ?_
  show wpAny _ _ (eval _ _) _ _ _
  refine wpAny_Constant_int ?_
  show wpAny _ _ (pure Value.none) _ _ _
  refine wpAny_pure ?_
  have h5 := slice_ints_uptoW hi (y := 5) (by decide)
  refine slice_listK (lo := none) (hi := some 5) ha .none (.int 5 _) ?_ (hsz := by rw [List.size_toArray, sizeLine_eq]; omega)
  have k₁ : Up s.heap ((s.heap.push { cls := .type "slice", data := .fields #[.none, .int 5 s.toks, .none] }).push { cls := .type "list", data := .seq (slicePick vs.toArray none (some 5) none) }) := fun _ _ e => Heap.get?_push_of_some _ (Heap.get?_push_of_some _ e)
  have g₁ : ((s.heap.push { cls := .type "slice", data := .fields #[.none, .int 5 s.toks, .none] }).push { cls := .type "list", data := .seq (slicePick vs.toArray none (some 5) none) }).get? (s.heap.objs.size + 1) = some { cls := .type "list", data := .seq (slicePick vs.toArray none (some 5) none) } := by heap_get
  generalize (s.heap.push { cls := .type "slice", data := .fields #[.none, .int 5 s.toks, .none] }).push { cls := .type "list", data := .seq (slicePick vs.toArray none (some 5) none) } = h₁ at k₁ g₁ ⊢
  have f₁ := f.up k₁
  have X₁ : (K w.params).In h₁ := fun a o e => k₁ _ _ (X a o e)
  have T₁ := T.keeps k₁
  -- given[len(script):]
  refine Subscript_ (nm_m f₁ hg (wpAny_Slice ?_))
  show wpAny _ _ (eval _ _) _ _ _
  refine Call_ (nm_built (fun _ _ e => e) X₁ T₁ (by kernel_rfl) (by boot_by_name) (by decide) ?_)
  refine callWith_builtin1 (spliced_more (nm_m f₁ hs (spliced_none ?_)) (by rfl)) (by rfl) (by rfl)
  refine len_list (isList_up ha k₁) (by rw [List.size_toArray]; omega) ?_
  show wpAny _ _ (pure Value.none) _ _ _
  refine wpAny_pure ?_
  show wpAny _ _ (pure Value.none) _ _ _
  refine wpAny_pure ?_
  have hlen : ((vs.toArray.size : Nat) : Int) = ((xs.length : Nat) : Int) := by rw [List.size_toArray, hvl]
  have h6 := slice_ints_fromW hgi (x := ((vs.toArray.size : Nat) : Int)) (by omega)
  have hgp := f₁.list (c := gv) i hgl
  refine slice_listK (lo := some ((vs.toArray.size : Nat) : Int)) (hi := none) hgp.isList (.int _ _) .none ?_ (hsz := by rw [List.size_toArray, sizeLine_eq, hgi.length, hz]; decide)
  generalize hs1 : slicePick vs.toArray none (some 5) none = its1 at *
  generalize hs2 : slicePick gs.toArray (some ((vs.toArray.size : Nat) : Int)) none none = its2 at *
  have k₂ : Up h₁ ((h₁.push { cls := .type "slice", data := .fields #[.int ((vs.toArray.size : Nat) : Int) (s.toks + 1 + 1), .none, .none] }).push { cls := .type "list", data := .seq its2 }) := fun _ _ e => Heap.get?_push_of_some _ (Heap.get?_push_of_some _ e)
  have g₂ : ((h₁.push { cls := .type "slice", data := .fields #[.int ((vs.toArray.size : Nat) : Int) (s.toks + 1 + 1), .none, .none] }).push { cls := .type "list", data := .seq its2 }).get? (h₁.objs.size + 1) = some { cls := .type "list", data := .seq its2 } := by heap_get
  generalize (h₁.push { cls := .type "slice", data := .fields #[.int ((vs.toArray.size : Nat) : Int) (s.toks + 1 + 1), .none, .none] }).push { cls := .type "list", data := .seq its2 } = h₂ at k₂ g₂ ⊢
  have hl5 : (xs.take 5 ++ zs.drop xs.length).length = 5 := by
    rw [List.length_append, List.length_take, List.length_drop, hz]; omega
  have hi5 : IntsAre (its1 ++ its2).toList (xs.take 5 ++ zs.drop xs.length) := by
    rw [Array.toList_append]
    have e5 : (5 : Int).toNat = 5 := rfl
    rw [e5] at h5
    rw [hlen, Int.toNat_natCast] at h6
    exact h5.append h6
  have hsz5 : (its1 ++ its2).size = 5 := by rw [← Array.length_toList, hi5.length, hl5]
  refine P.add_list (k₂ _ _ g₁) g₂ ?_ (by rw [← Array.size_append, hsz5, sizeLine_eq]; decide)
  have k₃ : Up h₂ (h₂.push { cls := .type "list", data := .seq (its1 ++ its2) }) := fun _ _ e => Heap.get?_push_of_some _ e
  have g₃ : (h₂.push { cls := .type "list", data := .seq (its1 ++ its2) }).IsList h₂.objs.size (its1 ++ its2) := ⟨_, Heap.get?_push_size _ rfl, rfl, _, rfl⟩
  have hlt₃ : h₂.objs.size < (h₂.push { cls := .type "list", data := .seq (its1 ++ its2) }).objs.size := by rw [Heap.size_push]; exact Nat.lt_succ_self _
  generalize h₂.push { cls := .type "list", data := .seq (its1 ++ its2) } = h₃ at k₃ g₃ hlt₃ ⊢
  have f₃ := (f₁.up k₂).up k₃
  refine wpAny_pyIter_list g₃ ?_
  have hne : h₂.objs.size ≠ h₃.objs.size := Nat.ne_of_lt hlt₃
  refine ⟨_, _, _, _, _, _, m, rfl, Walks.list hh h₃.objs.size h₂.objs.size hne (its1 ++ its2), by rw [hsz5, sizeLine_eq]; decide, ⟨⟨_, Heap.get?_push_size _ rfl, rfl, rfl⟩, g₃.push _⟩, ?_, ?_, f₃.ns.push _, ⟨?_, ?_⟩, ?_⟩
  · intro b' hb'
    show b' < (h₃.push _).objs.size
    rw [Heap.size_push]
    simp only [List.mem_cons, List.not_mem_nil, or_false] at hb'
    rcases hb' with rfl | rfl
    · exact Nat.lt_succ_self _
    · exact Nat.lt_succ_of_lt hlt₃
  · intro hm
    have e : L = h₃.objs.size := List.mem_singleton.mp hm
    obtain ⟨o, _, _, ho, _⟩ := f₃.ns
    rw [e] at ho
    exact Nat.lt_irrefl _ (Heap.lt_size ho)
  · intro C i' v s₃ m₃ E' hC hP hn3 hm hk htk
    exact wpAny_tests_nil ⟨rfl, _, _, rfl, fun _ _ e => e⟩
  · intro C i' v s₃ m₃ E' hC hP _ hn3 hm hk htk
    have hv : ∃ x t, v = Value.int x t := by
      have hv2 : (its1 ++ its2).toList[i']? = some v := by rw [Array.getElem?_toList]; exact hP
      have key : ∀ {l : List Value} {ns : List Int}, IntsAre l ns → ∀ {j : Nat} {v : Value}, l[j]? = some v → ∃ x t, v = Value.int x t := by
        intro l ns hI
        induction hI with
        | nil => intro j v e; simp at e
        | cons k t r ih =>
          intro j v e
          cases j with
          | zero => cases e; exact ⟨_, _, rfl⟩
          | succ j => exact ih (j := j) e
      exact key hi5 hv2
    obtain ⟨x, t, rfl⟩ := hv
    refine wpAny_BinOp (nm_own hn3 hm (wpAny_Constant_int (mod_int (by decide) ?_)))
    have hq := modm x
    obtain ⟨q, hq, hqb⟩ := hq
    refine ⟨fun x' t' e => ?_, _, _, rfl, fun _ _ e => e⟩
    injection e with e1 _
    subst e1
    exact ⟨q, _, by rw [hq], hqb⟩
  · intro D h' tk ys vs' hD hl hpl hl' hP hF hns hk
    have hF' : Paired (fun v y => ∀ x t, v = Value.int x t → ∃ (q : Nat) (u : Tok), y = Value.int (q : Nat) u ∧ q < 1000000) (its1 ++ its2).toList ys.toList := by
      rw [filter_tt] at hF
      rw [list_of_places hl' hP] at hF
      exact hF
    have hN := nats_of hi5 hF'
    obtain ⟨qs, hN, hql⟩ := hN
    have hD' : h₃.get? D = none := none_of_push hD
    have hx : Heap.ExtBut L h₃ h' := fun b' o hb' e => hk b' o hb' (fun q => by rw [List.mem_singleton.mp q] at e; exact Nat.lt_irrefl _ (Heap.lt_size e)) (Heap.get?_push_of_some _ e)
    have f₄ := f₃.nameAdd (th := .list ys.toList) hns hx hD' (by rw [show Thing.At h' D (.list ys.toList) = h'.PlainList D ys.toList.toArray from rfl, Array.toArray_toList]; exact hpl)
    exact hQ h' tk _ D ys.toList qs f₄ (if_pos rfl) (fun y hy => if_neg hy) hN (hql.trans hl5)
end Mine
end
section
open PySem PySem.W PyProof.Rows
set_option Elab.async false
set_option maxRecDepth 100000
set_option maxHeartbeats 1000000
set_option linter.unusedVariables false
namespace Mine
noncomputable def ledB (L sp fa ln dr : Addr) (vf vsh vi vm vl : Option Value) (vs fs ls ds : List Value) : List (Addr × Thing) :=
  [(L + 1, .cell (some (.ref sp))), (L + 2, .cell vf), (L + 3, .cell vsh), (L + 4, .cell vi), (L + 5, .cell vm), (L + 6, .cell vl), (sp, .list vs), (fa, .list fs), (ln, .list ls), (dr, .list ds)]
theorem cut_len (S : St) (q : Nat) : (cut S q).faces.length ≤ S.faces.length + 3 ∧ (cut S q).lines.length ≤ S.lines.length + 1 := by
  constructor
  · show (S.faces.eraseIdx _ ++ (pieces _ _).eraseIdx _).length ≤ _
    rw [List.length_append]
    have h1 := List.length_eraseIdx_le S.faces (q % S.faces.length)
    have h2 := List.length_eraseIdx_le (pieces S.spots.length (cutFace S q)) (Mine.kindOf q)
    have h3 : (pieces S.spots.length (cutFace S q)).length = 3 := rfl
    omega
  · show (S.lines ++ ((pieces _ _)[_]?).toList).length ≤ _
    rw [List.length_append]
    have : ∀ o : Option Face, o.toList.length ≤ 1 := fun o => by cases o <;> simp
    exact Nat.add_le_add_left (this _) _
noncomputable def stAt (qs : List Nat) (j : Nat) : St := (qs.take j).foldl cut start
theorem stAt_succ {qs : List Nat} {j q : Nat} (h : qs[j]? = some q) : stAt qs (j + 1) = cut (stAt qs j) q := by
  unfold stAt
  rw [List.take_add_one, h, Option.toList_some, List.foldl_append]; rfl
theorem stAt_inv {qs : List Nat} {j : Nat} (h : j ≤ qs.length) : Inv j (stAt qs j) := by
  have := inv_run (qs.take j) 0 start inv_start
  rw [List.length_take, Nat.min_eq_left h, Nat.zero_add] at this
  exact this
theorem stAt_len (qs : List Nat) : ∀ j, j ≤ qs.length → (stAt qs j).faces.length ≤ 2 + 3 * j ∧ (stAt qs j).lines.length ≤ j := by
  intro j
  induction j with
  | zero =>
    intro _
    have e : stAt qs 0 = start := by unfold stAt; rw [List.take_zero]; rfl
    rw [e]
    exact ⟨by decide, by decide⟩
  | succ j ih =>
    intro h
    have hq : qs[j]? = some qs[j] := List.getElem?_eq_getElem h
    rw [stAt_succ hq]
    have h1 := ih (by omega)
    have h2 := cut_len (stAt qs j) qs[j]
    omega
theorem loop1 {w : World} {A : Around} {E : Value → Shared → Prop} {s : Shared} {p : Program} {loose : List Str} {mg mb : Str → Option Value} {b u : Heap} {L sp fa ln dr : Addr} {vf vsh vi vm vl : Option Value} {vs fs ls ds : List Value} {qs : List Nat} {m : Str → Option Value} {Q : Flow → Shared → Prop} (X : (K w.params).In b) (T : TopRead p loose mg mb b) (hh : A.handled = none) (htk : 0 < s.toks)
    (f : Fm b u L s.heap m (ledB L sp fa ln dr vf vsh vi vm vl vs fs ls ds)) (hm : NamesC m fa ln dr) (hds : Nats ds qs) (hq5 : qs.length = 5)
    (hv : Tups s.heap vs start.spots) (hf : Tups s.heap fs start.faces) (hl : Tups s.heap ls start.lines)
    (hQ : ∀ h' tk m' vf' vsh' vs' fs' ls', 0 < tk → Fm b h' L h' m' (ledB L sp fa ln dr vf' vsh' vi vm vl vs' fs' ls' ds) → NamesC m' fa ln dr → Tups h' vs' (stAt qs 5).spots → Tups h' fs' (stAt qs 5).faces → Tups h' ls' (stAt qs 5).lines → Q .next { s with heap := h', toks := tk })
    {st : Stmt} (hst : (bodyAt 18)[5]? = some st) : wpAny (model rwp w) A (exec st (lawEnv w.params L)) Q E s := by
  cases hst
  refine wpAny_For (nm_m f hm.drawn ?_)
  have hdl : ds.length = 5 := hds.len.trans hq5
  refine wpAny_pyIter_list (f.list (c := dr) 9 rfl).isList ?_
  have hit : (s.heap.push { cls := .type "list_iterator", data := .fields #[.ref dr, .int 0 0] }).IsListIter s.heap.objs.size dr 0 := ⟨_, Heap.get?_push_size _ rfl, rfl, rfl⟩
  have k₁ : Up s.heap (s.heap.push { cls := .type "list_iterator", data := .fields #[.ref dr, .int 0 0] }) := fun _ _ e => Heap.get?_push_of_some _ e
  have f₁ := f.snoc (th := .iter dr 0) k₁ (Heap.get?_none_of_le (Nat.le_refl _)) hit
  have mv : ∀ {vs : List Value} {ps : List (Nat × Nat × Nat)}, Tups s.heap vs ps → Tups (s.heap.push { cls := .type "list_iterator", data := .fields #[.ref dr, .int 0 0] }) vs ps := fun x => x.move fun a vs t => isTup_up t k₁
  refine codeAny_forLoop (fun n s' => ∃ j h' tk m' vf' vsh' vs' fs' ls', j ≤ 5 ∧ n = 5 - j ∧ s' = { s with heap := h', toks := tk } ∧ 0 < tk ∧ Fm b h' L h' m' (ledC L sp fa ln dr s.heap.objs.size vf' vsh' vi vm vl vs' fs' ls' ds j) ∧ NamesC m' fa ln dr ∧ Tups h' vs' (stAt qs j).spots ∧ Tups h' fs' (stAt qs j).faces ∧ Tups h' ls' (stAt qs j).lines)
    (fun n s' hI => ?_) 5 ⟨0, _, _, m, vf, vsh, vs, fs, ls, by decide, rfl, rfl, htk, f₁.rebase, hm, mv hv, mv hf, mv hl⟩
  have hI' := hI
  clear hI
  obtain ⟨j, h₂, tk₂, m₂, vf₂, vsh₂, vs₂, fs₂, ls₂, hj5, hn, hs', htk₂, f₂, hm₂, hv₂, hf₂, hl₂⟩ := hI'
  subst hn hs'
  by_cases hlt : j < 5
  · have hqj : qs[j]? = some qs[j] := List.getElem?_eq_getElem (hq5 ▸ hlt)
    have hdj := hds.at_ hqj
    obtain ⟨tq, hdj, hqb⟩ := hdj
    generalize hq : qs[j] = q at hqj hdj hqb
    refine wpAny_pyNext_list_item (f₂.look (c := s.heap.objs.size) 10 rfl) (f₂.list (c := dr) 9 rfl).isList (by rw [List.getElem?_toArray]; exact hdj) fun h₃ hit₃ hs₃ => ?_
    have f₃ := f₂.set (th' := .iter dr (j + 1)) 10 (by rfl) rfl hs₃.extBut hit₃
    refine wpAny_assign_Name (st_new f₃ fun h₄ m₄ f₄ hq₄ r₄ => ?_)
    have hsl := stAt_len qs j (by rw [hq5]; exact hj5)
    refine wpAny_with_toks (n := 1) (Nat.succ_pos _) ?_
    refine wpAny_mono (cut_body (S := stAt qs j) (k := j) (q := q) (s := { s with heap := h₄, toks := tk₂ + 1 }) X T hh f₄.rebase (hm₂.move r₄) hq₄ hqb (hv₂.move f₄.tup) (hf₂.move f₄.tup) (hl₂.move f₄.tup) (stAt_inv (by omega)) (by omega) (by omega) (by omega)) (fun fl s' ho htk' => ?_) fun _ _ e _ => e
    have hoe := ho.ex
    have hon := ho.next
    subst hon
    obtain ⟨h₅, tk₅, m₅, vf₅, vsh₅, vs₅, fs₅, ls₅, hs5, f₅, hm₅, hv₅, hf₅, hl₅⟩ := hoe
    subst hs5
    rw [← stAt_succ hqj] at hv₅ hf₅ hl₅
    exact ⟨5 - (j + 1), Nat.sub_lt_sub_left hlt (Nat.lt_succ_self j), j + 1, h₅, tk₅, m₅, vf₅, vsh₅, vs₅, fs₅, ls₅, hlt, rfl, rfl, htk', f₅, hm₅, hv₅, hf₅, hl₅⟩
  · have hj : j = 5 := Nat.le_antisymm hj5 (Nat.not_lt.mp hlt)
    subst hj
    refine wpAny_pyNext_list_end hh (f₂.look (c := s.heap.objs.size) 10 rfl) (f₂.list (c := dr) 9 rfl).isList (by rw [List.getElem?_toArray, List.getElem?_eq_none (by rw [hdl]; exact Nat.le_refl _)]) fun h₃ hs₃ => ?_
    refine wpAny_execs_nil ?_
    have f₃ : Fm b h₂ L h₃ m₂ (ledB L sp fa ln dr vf₂ vsh₂ vi vm vl vs₂ fs₂ ls₂ ds) := f₂.gone 10 (by rfl) rfl hs₃
    exact hQ h₃ tk₂ m₂ vf₂ vsh₂ vs₂ fs₂ ls₂ htk₂ f₃.rebase hm₂ (hv₂.move f₃.tup) (hf₂.move f₃.tup) (hl₂.move f₃.tup)
end Mine
end
section
open PySem PySem.W PyProof.Rows
set_option Elab.async false
set_option maxRecDepth 100000
set_option maxHeartbeats 1000000
set_option linter.unusedVariables false
namespace Mine
noncomputable def ledN (L sp dr mk pa fa ln : Addr) (vf vsh vi vl : Option Value) (vs ds ms ps fs ls : List Value) : List (Addr × Thing) :=
  [(L + 1, .cell (some (.ref sp))), (L + 2, .cell vf), (L + 3, .cell vsh), (L + 4, .cell vi), (L + 5, .cell (some (.ref mk))), (L + 6, .cell vl), (sp, .list vs), (dr, .list ds), (mk, .list ms), (pa, .list ps), (fa, .list fs), (ln, .list ls)]
theorem call_range_e {w : World} {A : Around} {E : Value → Shared → Prop} {s : Shared} {n m : Int} {t : Tok} {Q : Value → Shared → Prop} (e : n = m)
    (h : Q (.ref s.heap.objs.size) { s with heap := s.heap.push { cls := .type "range", data := .fields #[.int 0 s.toks, .int m t, .int 1 (s.toks + 1)] }, toks := s.toks + 1 + 1 }) : wpAny (model rwp w) A (call (.type "range") [.int n t]) Q E s := by
  subst e; exact call_range_1 h
theorem draws_of {ds : List Value} {qs : List Nat} (h : Nats ds qs) (h5 : qs.length = 5) : Draws ds := ⟨fun j hj => by
  have e : qs[j]? = some qs[j] := List.getElem?_eq_getElem (h5 ▸ hj)
  obtain ⟨t, e', b⟩ := h.at_ e
  exact ⟨_, t, e', b⟩⟩
theorem left_pos {j : Nat} (h : j < 9) : ((0 : Nat) : Int) < 9 - (j : Int) := by omega
theorem loop2 {w : World} {A : Around} {E : Value → Shared → Prop} {s : Shared} {p : Program} {loose : List Str} {mg mb : Str → Option Value} {b u : Heap} {L sp dr mk pa fa ln : Addr} {vf vsh vi vl : Option Value} {vs ds fs ls : List Value} {m : Str → Option Value} {S : List Spot} {F G : List Face} {D : List (PyData × PyData)} {Q : Flow → Shared → Prop} (X : (K w.params).In b) (T : TopRead p loose mg mb b) (hh : A.handled = none) (hroom : A.depth < 450) (hu : A.units < 15) (htk : 0 < s.toks)
    (hS : b.SetOf (PySem.intKind rwp w) 127 b1S 27) (hT : IntTab rwp w b 138 D) (G₀ : GoodTab D)
    (f : Fm b u L s.heap m (ledN L sp dr mk pa fa ln vf vsh vi vl vs ds [] [] fs ls)) (hm : NamesM m fa ln dr pa) (hds : Draws ds)
    (hv : Tups s.heap vs S) (hf : Tups s.heap fs F) (hl : Tups s.heap ls G) (hS9 : S.length = 9) (hfine : ∀ p ∈ S, Fine p)
    (hQ : ∀ h' tk gs m' vi' vl' ms ps, 0 < tk → Fm b h' L h' m' (ledN L sp dr mk pa fa ln vf vsh vi' vl' vs ds ms ps fs ls) → NamesM m' fa ln dr pa → Tups h' vs S → Tups h' fs F → Tups h' ls G → Marks S ms 9 → Paints h' S ps 9 → (AllBare s.gens → AllBare gs) → Q .next { s with heap := h', toks := tk, gens := gs })
    {st : Stmt} (hst : (bodyAt 18)[8]? = some st) : wpAny (model rwp w) A (exec st (lawEnv w.params L)) Q E s := by
  cases hst
  have X₀ := f.inK X
  have T₀ := f.top T
  have hvl : vs.length = 9 := hv.len.trans hS9
  refine wpAny_For (Call_ (nm_built (fun _ _ e => e) X₀ T₀ (by kernel_rfl) (by boot_by_name) (by decide) ?_))
  refine callWith_type1 ?_ (by rfl) (by rfl)
  refine spliced_more (Call_ (nm_built (fun _ _ e => e) X₀ T₀ (by kernel_rfl) (by boot_by_name) (by decide) ?_)) (by rfl)
  refine callWith_builtin1 (spliced_more (nm_c f 0 (by rfl) (spliced_none ?_)) (by rfl)) (by rfl) (by rfl)
  refine len_list (f.list (c := sp) 6 rfl).isList (by rw [List.size_toArray, hvl]; decide) ?_
  refine spliced_none ?_
  refine call_range_e (m := 9) (by rw [List.size_toArray, hvl]; rfl) ?_
  refine wpAny_pyIter_range (a := 0) (b := 9) (c := 1) (Heap.get?_push_size _ rfl) (by decide) ?_
  have k₁ : Up s.heap (s.heap.push { cls := .type "range", data := .fields #[.int 0 (s.toks + 1 + 1), .int 9 (s.toks + 1), .int 1 (s.toks + 1 + 1 + 1)] }) := fun _ _ e => Heap.get?_push_of_some _ e
  generalize s.heap.push { cls := .type "range", data := .fields #[.int 0 (s.toks + 1 + 1), .int 9 (s.toks + 1), .int 1 (s.toks + 1 + 1 + 1)] } = h₁ at k₁ ⊢
  have hit : IsRangeIter (h₁.push { cls := .type "range_iterator", data := .fields #[rawInt 0, rawInt (Builtin.Range.rangeSize 0 9 1), rawInt 1] }) h₁.objs.size ((0 : Nat) : Int) (9 - ((0 : Nat) : Int)) 1 := Heap.get?_push_size _ rfl
  have k₂ : Up h₁ (h₁.push { cls := .type "range_iterator", data := .fields #[rawInt 0, rawInt (Builtin.Range.rangeSize 0 9 1), rawInt 1] }) := fun _ _ e => Heap.get?_push_of_some _ e
  have f₁ := (f.up k₁).snoc (th := .riter ((0 : Nat) : Int) (9 - ((0 : Nat) : Int)) 1) k₂ (Heap.get?_none_of_le (Nat.le_refl _)) hit
  have mv : ∀ {vs : List Value} {ps : List (Nat × Nat × Nat)}, Tups s.heap vs ps → Tups (h₁.push { cls := .type "range_iterator", data := .fields #[rawInt 0, rawInt (Builtin.Range.rangeSize 0 9 1), rawInt 1] }) vs ps := fun x => x.move fun a vs t => isTup_up (isTup_up t k₁) k₂
  refine codeAny_forLoop (fun n s' => ∃ j h' tk gs m' vi' vl' ms ps, j ≤ 9 ∧ n = 9 - j ∧ s' = { s with heap := h', toks := tk, gens := gs } ∧ 0 < tk ∧ Fm b h' L h' m' (ledN L sp dr mk pa fa ln vf vsh vi' vl' vs ds ms ps fs ls ++ [(h₁.objs.size, .riter ((j : Nat) : Int) (9 - ((j : Nat) : Int)) 1)]) ∧ NamesM m' fa ln dr pa ∧ Tups h' vs S ∧ Tups h' fs F ∧ Tups h' ls G ∧ Marks S ms j ∧ Paints h' S ps j ∧ (AllBare s.gens → AllBare gs))
    (fun n s' hI => ?_) 9 ⟨0, _, _, _, m, vi, vl, [], [], by decide, rfl, rfl, Nat.succ_pos _, f₁.rebase, hm, mv hv, mv hf, mv hl, ⟨rfl, fun j hj => absurd hj (Nat.not_lt_zero _)⟩, ⟨rfl, fun j hj => absurd hj (Nat.not_lt_zero _)⟩, fun bb => bb⟩
  have hI' := hI
  clear hI
  obtain ⟨j, h₂, tk₂, gs₂, m₂, vi₂, vl₂, ms₂, ps₂, hj9, hn, hs', htk₂, f₂, hm₂, hv₂, hf₂, hl₂, hms₂, hps₂, bb₂⟩ := hI'
  subst hn hs'
  by_cases hlt : j < 9
  · refine wpAny_pyNext_range_item (f₂.look (c := h₁.objs.size) 12 rfl) (left_pos hlt) fun h₃ hit₃ hs₃ => ?_
    have hit₃' : Thing.At h₃ h₁.objs.size (.riter (((j + 1 : Nat)) : Int) (9 - ((j + 1 : Nat) : Int)) 1) := by
      have e1 : ((j : Nat) : Int) + 1 = ((j + 1 : Nat) : Int) := by push_cast; rfl
      have e2 : (9 : Int) - ((j : Nat) : Int) - 1 = 9 - ((j + 1 : Nat) : Int) := by omega
      rw [e1, e2] at hit₃
      exact hit₃
    have f₃ := f₂.set 12 (by rfl) rfl hs₃.extBut hit₃'
    refine wpAny_assign_Name (st_cell f₃ 3 (by rfl) fun h₄ f₄ => ?_)
    refine wpAny_with_toks (n := 1) (Nat.succ_pos _) ?_
    refine wpAny_mono (mark_body (S := S) (i := j) (s := { s with heap := h₄, toks := tk₂ + 1, gens := gs₂ }) X T hh hroom hu hS hT G₀ f₄.rebase hm₂ (hv₂.move f₄.tup) hfine (hS9 ▸ hlt) hlt hds hms₂ (hps₂.move f₄.tup)) (fun fl s' ho htk' => ?_) fun _ _ e _ => e
    have hoe := ho.ex
    have hon := ho.next
    subst hon
    obtain ⟨h₅, tk₅, gs₅, m₅, vl₅, ms₅, ps₅, hs5, f₅, hm₅, hms₅, hps₅, tup₅, bb₅⟩ := hoe
    subst hs5
    exact ⟨9 - (j + 1), Nat.sub_lt_sub_left hlt (Nat.lt_succ_self j), j + 1, h₅, tk₅, gs₅, m₅, _, vl₅, ms₅, ps₅, hlt, rfl, rfl, htk', f₅, hm₅, (hv₂.move f₄.tup).move tup₅, (hf₂.move f₄.tup).move tup₅, (hl₂.move f₄.tup).move tup₅, hms₅, hps₅, fun bb => bb₅ (bb₂ bb)⟩
  · have hj : j = 9 := Nat.le_antisymm hj9 (Nat.not_lt.mp hlt)
    subst hj
    refine wpAny_pyNext_range_end hh (f₂.look (c := h₁.objs.size) 12 rfl) (by decide) fun h₃ hs₃ => ?_
    refine wpAny_execs_nil ?_
    have f₃ : Fm b h₂ L h₃ m₂ (ledN L sp dr mk pa fa ln vf vsh vi₂ vl₂ vs ds ms₂ ps₂ fs ls) := f₂.gone 12 (by rfl) rfl hs₃
    exact hQ h₃ tk₂ gs₂ m₂ vi₂ vl₂ ms₂ ps₂ htk₂ f₃.rebase hm₂ (hv₂.move f₃.tup) (hf₂.move f₃.tup) (hl₂.move f₃.tup) hms₂ (hps₂.move f₃.tup) bb₂
end Mine
end
section
open PySem PySem.W PyProof.Rows
set_option Elab.async false
set_option maxRecDepth 100000
set_option maxHeartbeats 1000000
set_option linter.unusedVariables false
namespace Mine
noncomputable def ledT (L sp mk pa ln D : Addr) (vf vsh vi vl : Option Value) (vs ms ps ls es : List Value) : List (Addr × Thing) :=
  [(L + 1, .cell (some (.ref sp))), (L + 2, .cell vf), (L + 3, .cell vsh), (L + 4, .cell vi), (L + 5, .cell (some (.ref mk))), (L + 6, .cell vl), (sp, .list vs), (mk, .list ms), (pa, .list ps), (ln, .list ls), (D, .list es)]
noncomputable def greysAt (S : List Spot) (l : List Face) (j : Nat) : Nat := (l.take j).countP (rainF S)
theorem greys_succ {S : List Spot} {l : List Face} {j : Nat} {f : Face} (h : l[j]? = some f) : greysAt S l (j + 1) = greysAt S l j + (rainF S f).toNat := by
  unfold greysAt
  rw [List.take_add_one, h, Option.toList_some, List.countP_append, List.countP_cons, List.countP_nil]
  cases rainF S f <;> rfl
theorem loop3 {w : World} {A : Around} {E : Value → Shared → Prop} {s : Shared} {p : Program} {loose : List Str} {mg mb : Str → Option Value} {b u : Heap} {L sp dr mk pa fa ln : Addr} {vf vsh vi vl : Option Value} {vs ds ms ps fs ls : List Value} {m : Str → Option Value} {S : St} {N k : Nat} {tg : Tok} {Q : Flow → Shared → Prop} (X : (K w.params).In b) (T : TopRead p loose mg mb b) (hh : A.handled = none) (hroom : A.depth < 450) (hu : A.units < 15) (htk : 0 < s.toks)
    (f : Fm b u L s.heap m (ledN L sp dr mk pa fa ln vf vsh vi vl vs ds ms ps fs ls)) (hm : NamesM m fa ln dr pa) (hg : m (Str.ofString "greys") = some (.int (0 : Nat) tg))
    (hv : Tups s.heap vs S.spots) (hf : Tups s.heap fs S.faces) (hl : Tups s.heap ls S.lines) (hms : Marks S.spots ms N) (hps : Paints s.heap S.spots ps N) (hN : N < 1000) (hSN : S.spots.length = N) (hinv : Inv k S) (hk5 : k ≤ 5) (hfl : S.faces.length ≤ 100) (hll : S.lines.length ≤ 100)
    (hQ : ∀ h' tk m' l', Fm b h' L h' m' l' → (∃ t, m' (Str.ofString "greys") = some (.int ((S.lines ++ S.faces).countP (rainF S.spots) : Nat) t)) → Q .next { s with heap := h', toks := tk })
    {st : Stmt} (hst : (bodyAt 18)[10]? = some st) : wpAny (model rwp w) A (exec st (lawEnv w.params L)) Q E s := by
  cases hst
  have hlf : fs.length = S.faces.length := hf.len
  have hllen : ls.length = S.lines.length := hl.len
  have g1 := f.list (c := ln) 11 rfl
  have g2 := f.list (c := fa) 10 rfl
  obtain ⟨n1, g1⟩ := g1
  obtain ⟨n2, g2⟩ := g2
  refine wpAny_For (wpAny_BinOp (nm_m f hm.lines (nm_m f hm.faces ?_)))
  refine P.add_list g1 g2 ?_ (by rw [List.size_toArray, List.size_toArray, sizeLine_eq]; omega)
  have k₁ : Up s.heap (s.heap.push { cls := .type "list", data := .seq (ls.toArray ++ fs.toArray) }) := fun _ _ e => Heap.get?_push_of_some _ e
  have hes : ls.toArray ++ fs.toArray = (ls ++ fs).toArray := by simp
  have g3 : (s.heap.push { cls := .type "list", data := .seq (ls.toArray ++ fs.toArray) }).PlainList s.heap.objs.size (ls ++ fs).toArray := by rw [← hes]; exact ⟨0, Heap.get?_push_size _ rfl⟩
  have f₁ := f.snoc (th := .list (ls ++ fs)) k₁ (Heap.get?_none_of_le (Nat.le_refl _)) g3
  generalize s.heap.push { cls := .type "list", data := .seq (ls.toArray ++ fs.toArray) } = h₁ at k₁ g3 f₁ ⊢
  have f₁' : Fm b u L h₁ m (ledT L sp mk pa ln s.heap.objs.size vf vsh vi vl vs ms ps ls (ls ++ fs)) := f₁.sel [0, 1, 2, 3, 4, 5, 6, 8, 9, 11, 12] (by decide)
  clear f₁
  refine wpAny_pyIter_list g3.isList ?_
  have hit : (h₁.push { cls := .type "list_iterator", data := .fields #[.ref s.heap.objs.size, .int 0 0] }).IsListIter h₁.objs.size s.heap.objs.size 0 := ⟨_, Heap.get?_push_size _ rfl, rfl, rfl⟩
  have k₂ : Up h₁ (h₁.push { cls := .type "list_iterator", data := .fields #[.ref s.heap.objs.size, .int 0 0] }) := fun _ _ e => Heap.get?_push_of_some _ e
  have f₂ := f₁'.snoc (th := .iter s.heap.objs.size 0) k₂ (Heap.get?_none_of_le (Nat.le_refl _)) hit
  have mv : ∀ {vs : List Value} {ps : List (Nat × Nat × Nat)}, Tups s.heap vs ps → Tups (h₁.push { cls := .type "list_iterator", data := .fields #[.ref s.heap.objs.size, .int 0 0] }) vs ps := fun x => x.move fun a vs t => isTup_up (isTup_up t k₁) k₂
  have hm₀ : NamesL m pa ln 0 := ⟨hm.paints, hm.lines, tg, hg⟩
  have hn : (S.lines ++ S.faces).length = (ls ++ fs).length := by rw [List.length_append, List.length_append, hlf, hllen]
  refine codeAny_forLoop (fun n s' => ∃ j h' tk m' vf' vi', j ≤ (ls ++ fs).length ∧ n = (ls ++ fs).length - j ∧ s' = { s with heap := h', toks := tk } ∧ 0 < tk ∧ Fm b h' L h' m' (ledT L sp mk pa ln s.heap.objs.size vf' vsh vi' vl vs ms ps ls (ls ++ fs) ++ [(h₁.objs.size, .iter s.heap.objs.size j)]) ∧ NamesL m' pa ln (greysAt S.spots (S.lines ++ S.faces) j) ∧ Tups h' vs S.spots ∧ Tups h' (ls ++ fs) (S.lines ++ S.faces) ∧ Tups h' ls S.lines ∧ Paints h' S.spots ps N)
    (fun n s' hI => ?_) (ls ++ fs).length ⟨0, _, _, m, vf, vi, Nat.zero_le _, rfl, rfl, htk, f₂.rebase, hm₀, mv hv, mv (hl.append hf), mv hl, hps.move fun a vs t => isTup_up (isTup_up t k₁) k₂⟩
  have hI' := hI
  clear hI
  obtain ⟨j, h₃, tk₃, m₃, vf₃, vi₃, hj, hn', hs', htk₃, f₃, hm₃, hv₃, he₃, hl₃, hps₃⟩ := hI'
  subst hn' hs'
  by_cases hlt : j < (ls ++ fs).length
  · have hfj : (S.lines ++ S.faces)[j]? = some (S.lines ++ S.faces)[j] := List.getElem?_eq_getElem (hn ▸ hlt)
    generalize (S.lines ++ S.faces)[j] = fj at hfj
    have hat := he₃.at_ hfj
    obtain ⟨v, hv1, fc, u0, u1, u2, rfl, hfc⟩ := hat
    refine wpAny_pyNext_list_item (f₃.look (c := h₁.objs.size) 11 rfl) (f₃.list (c := s.heap.objs.size) 10 rfl).isList (by rw [List.getElem?_toArray]; exact hv1) fun h₄ hit₄ hs₄ => ?_
    have f₄ := f₃.set (th' := .iter s.heap.objs.size (j + 1)) 11 (by rfl) rfl hs₄.extBut hit₄
    refine wpAny_assign_Name (st_cell f₄ 1 (by rfl) fun h₅ f₅ => ?_)
    refine wpAny_with_toks (n := 1) htk₃ ?_
    refine wpAny_mono (last_body (S := S) (fa := fj) (fc := fc) (s := { s with heap := h₅, toks := tk₃ }) X T hh hroom hu htk₃ f₅.rebase hm₃ (f₅.tup _ _ hfc) (hv₃.move f₅.tup) (hl₃.move f₅.tup) hms (hps₃.move f₅.tup) hN hSN hinv hk5 (List.mem_of_getElem? hfj)) (fun fl s' ho htk' => ?_) fun _ _ e _ => e
    have hoe := ho.ex
    have hon := ho.next
    subst hon
    obtain ⟨h₆, tk₆, m₆, vi₆, hs6, f₆, hm₆⟩ := hoe
    subst hs6
    rw [← greys_succ hfj] at hm₆
    exact ⟨(ls ++ fs).length - (j + 1), Nat.sub_lt_sub_left hlt (Nat.lt_succ_self j), j + 1, h₆, tk₆, m₆, _, vi₆, hlt, rfl, rfl, htk', f₆.rebase, hm₆, (hv₃.move f₅.tup).move f₆.tup, (he₃.move f₅.tup).move f₆.tup, (hl₃.move f₅.tup).move f₆.tup, (hps₃.move f₅.tup).move f₆.tup⟩
  · have hje : j = (ls ++ fs).length := Nat.le_antisymm hj (Nat.not_lt.mp hlt)
    refine wpAny_pyNext_list_end hh (f₃.look (c := h₁.objs.size) 11 rfl) (f₃.list (c := s.heap.objs.size) 10 rfl).isList (by rw [List.getElem?_toArray, List.getElem?_eq_none (Nat.not_lt.mp hlt)]) fun h₄ hs₄ => ?_
    refine wpAny_execs_nil ?_
    have f₄ := f₃.gone 11 (by rfl) rfl hs₄
    have hgr := hm₃.greys
    have hall : greysAt S.spots (S.lines ++ S.faces) j = (S.lines ++ S.faces).countP (rainF S.spots) := by
      unfold greysAt
      rw [List.take_of_length_le (by rw [hn, hje]; exact Nat.le_refl _)]
    rw [hall] at hgr
    exact hQ h₄ tk₃ m₃ _ f₄.rebase hgr
end Mine
end
section
open PySem PySem.W PyProof.Rows
set_option Elab.async false
set_option maxRecDepth 100000
set_option maxHeartbeats 1000000
set_option linter.unusedVariables false
namespace Mine
theorem six_cells {cm : Str → Option Value} {n₁ n₂ n₃ n₄ n₅ n₆ : Str} {c₁ c₂ c₃ c₄ c₅ c₆ : Addr} {cells : List (Addr × Obj)} (x : CellsAre cm [(n₁, c₁), (n₂, c₂), (n₃, c₃), (n₄, c₄), (n₅, c₅), (n₆, c₆)] cells) :
    ∃ o₁ o₂ o₃ o₄ o₅ o₆, cells = [(c₁, o₁), (c₂, o₂), (c₃, o₃), (c₄, o₄), (c₅, o₅), (c₆, o₆)] ∧ o₁.data = .cell (cm n₁) ∧ o₂.data = .cell (cm n₂) ∧ o₃.data = .cell (cm n₃) ∧ o₄.data = .cell (cm n₄) ∧ o₅.data = .cell (cm n₅) ∧ o₆.data = .cell (cm n₆) := by
  cases x with | cons h r => cases r with | cons h' r' =>
  obtain ⟨o₃, o₄, o₅, o₆, rfl, h₃, h₄, h₅, h₆⟩ := r'.four
  exact ⟨_, _, o₃, o₄, o₅, o₆, rfl, h, h', h₃, h₄, h₅, h₆⟩
noncomputable def led6 (L : Addr) : List (Addr × Thing) := [(L + 1, .cell none), (L + 2, .cell none), (L + 3, .cell none), (L + 4, .cell none), (L + 5, .cell none), (L + 6, .cell none)]
noncomputable def hd (i : Nat) : Stmt := ((bodyAt 18)[i]?).getD (.Pass ⟨0, 0, 0, 0⟩)
noncomputable def lawRest : List Stmt := (bodyAt 18).drop 2
noncomputable def lawMid : List Stmt := (bodyAt 18).drop 5
theorem law_split : bodyAt 18 = hd 0 :: hd 1 :: lawRest := by kernel_rfl
theorem law_split2 : lawRest = hd 2 :: hd 3 :: hd 4 :: lawMid := by kernel_rfl
theorem law_split3 : lawMid = [hd 5, hd 6, hd 7, hd 8, hd 9, hd 10, hd 11] := by kernel_rfl
theorem hd_5 : (bodyAt 18)[5]? = some (hd 5) := by kernel_rfl
theorem hd_8 : (bodyAt 18)[8]? = some (hd 8) := by kernel_rfl
theorem hd_10 : (bodyAt 18)[10]? = some (hd 10) := by kernel_rfl
theorem hd_1 : drawnStmt = some (hd 1) := by kernel_rfl
theorem law_mid {w : World} {A : Around} {E : Value → Shared → Prop} {s : Shared} {p : Program} {loose : List Str} {mg mb : Str → Option Value} {b u : Heap} {L sp fa ln dr : Addr} {vf vsh vi vm vl : Option Value} {vs fs ls ds : List Value} {qs : List Nat} {D : List (PyData × PyData)} {m : Str → Option Value} {Q : Flow → Shared → Prop} (X : (K w.params).In b) (T : TopRead p loose mg mb b) (hroom : A.depth < 450) (hu : A.units < 15) (hh : A.handled = none) (htk : 0 < s.toks)
    (hS : b.SetOf (PySem.intKind rwp w) 127 b1S 27) (hT : IntTab rwp w b 138 D) (G : GoodTab D)
    (f : Fm b u L s.heap m (ledB L sp fa ln dr vf vsh vi vm vl vs fs ls ds)) (hm : NamesC m fa ln dr) (hds : Nats ds qs) (hq5 : qs.length = 5)
    (hv : Tups s.heap vs start.spots) (hf : Tups s.heap fs start.faces) (hl : Tups s.heap ls start.lines)
    (hQ : ∀ h' tk gs, Kp b h' → Tab h' 67 63 → Tab h' 74 70 → (AllBare s.gens → AllBare gs) → Q (.ret (.bool true)) { s with heap := h', toks := tk, gens := gs }) :
    wpAny (model rwp w) A (execs lawMid (lawEnv w.params L)) Q E s := by
  rw [law_split3]
  refine wpAny_execs_cons ?_
  refine loop1 X T hh htk f hm hds hq5 hv hf hl (fun h₁ tk₁ m₁ vf₁ vsh₁ vs₁ fs₁ ls₁ htk₁ f₁ hm₁ hv₁ hf₁ hl₁ => ?_) hd_5
  have hinv : Inv 5 (stAt qs 5) := stAt_inv (by rw [hq5]; exact Nat.le_refl _)
  have hlen := stAt_len qs 5 (by rw [hq5]; exact Nat.le_refl _)
  have hS9 : (stAt qs 5).spots.length = 9 := hinv.len
  have hfine : ∀ p ∈ (stAt qs 5).spots, Fine p := fun p hp => hinv.fine' (Nat.le_refl _) hp
  generalize stAt qs 5 = S at *
  show wpAny _ _ (execs [hd 6, hd 7, hd 8, hd 9, hd 10, hd 11] _) _ _ { s with heap := h₁, toks := tk₁ }
  -- marks
  refine wpAny_execs_cons ?_
  show wpAny _ _ (exec (.Assign [.Name _ _] (.List [] _) _) _) _ _ _
  refine wpAny_Assign_Name (List_ (spliced_none ?_)) (by rfl)
  refine new_list f₁ (fun mk h₂ f₂ => ?_) (by show (0 : Nat) ≤ sizeLine; decide)
  refine st_cell f₂ 4 (by rfl) fun h₃ f₃ => ?_
  show wpAny _ _ (execs [hd 7, hd 8, hd 9, hd 10, hd 11] _) _ _ { s with heap := h₃, toks := tk₁ }
  -- paints
  refine wpAny_execs_cons ?_
  show wpAny _ _ (exec (.Assign [.Name _ _] (.List [] _) _) _) _ _ _
  refine wpAny_Assign_Name (List_ (spliced_none ?_)) (by rfl)
  refine new_list f₃ (fun pa h₄ f₄ => ?_) (by show (0 : Nat) ≤ sizeLine; decide)
  refine st_new f₄ fun h₅ m₅ f₅ hp₅ r₅ => ?_
  have hm₅ : NamesM m₅ fa ln dr pa := ⟨(r₅ _ (by decide)).trans hm₁.faces, (r₅ _ (by decide)).trans hm₁.lines, (r₅ _ (by decide)).trans hm₁.drawn, hp₅⟩
  show wpAny _ _ (execs [hd 8, hd 9, hd 10, hd 11] _) _ _ { s with heap := h₅, toks := tk₁ + 1 }
  have g₅ : Fm b h₁ L h₅ m₅ (ledN L sp dr mk pa fa ln vf₁ vsh₁ vi vl vs₁ ds [] [] fs₁ ls₁) := f₅.sel [0, 1, 2, 3, 4, 5, 6, 9, 10, 11, 7, 8] (by decide)
  refine wpAny_execs_cons ?_
  refine loop2 X T hh hroom hu (Nat.succ_pos _) hS hT G g₅ hm₅ (draws_of hds hq5) (hv₁.move g₅.tup) (hf₁.move g₅.tup) (hl₁.move g₅.tup) hS9 hfine (fun h₆ tk₆ gs₆ m₆ vi₆ vl₆ ms ps htk₆ f₆ hm₆ hv₆ hf₆ hl₆ hms hps bb₆ => ?_) hd_8
  show wpAny _ _ (execs [hd 9, hd 10, hd 11] _) _ _ { s with heap := h₆, toks := tk₆, gens := gs₆ }
  -- greys
  refine wpAny_execs_cons ?_
  show wpAny _ _ (exec (.Assign [.Name _ _] (.Constant (.int 0) _ _) _) _) _ _ _
  refine wpAny_Assign_Name (wpAny_Constant_int ?_) (by rfl)
  refine st_new f₆ fun h₇ m₇ f₇ hg₇ r₇ => ?_
  show wpAny _ _ (execs [hd 10, hd 11] _) _ _ { s with heap := h₇, toks := tk₆ + 1 + 1, gens := gs₆ }
  refine wpAny_execs_cons ?_
  refine loop3 (S := S) (k := 5) (N := 9) X T hh hroom hu (Nat.succ_pos _) f₇ (hm₆.move r₇) (by exact hg₇) (hv₆.move f₇.tup) (hf₆.move f₇.tup) (hl₆.move f₇.tup) hms (hps.move f₇.tup) (by decide) hS9 hinv (Nat.le_refl _) (by omega) (by omega) (fun h₈ tk₈ m₈ l₈ f₈ hg₈ => ?_) hd_10
  obtain ⟨tg, hg₈⟩ := hg₈
  show wpAny _ _ (execs [hd 11] _) _ _ { s with heap := h₈, toks := tk₈, gens := gs₆ }
  refine wpAny_execs_cons ?_
  show wpAny _ _ (exec (.Return (some _) _) _) _ _ _
  refine wpAny_Return_some ?_
  show wpAny _ _ (eval (.Compare _ _ _ _) _) _ _ _
  refine wpAny_Compare1 (wpAny_BinOp (nm_m f₈ hg₈ (wpAny_Constant_int (mod_int (by decide) ?_)))) (by with_unfolding_all rfl)
  refine wpAny_Constant_int (eq_int ?_)
  have ho := hinv.odd'
  have e : (Int.fmod (((S.lines ++ S.faces).countP (rainF S.spots) : Nat) : Int) 2 == 1) = true := by
    rw [show Int.fmod (((S.lines ++ S.faces).countP (rainF S.spots) : Nat) : Int) 2 = (((S.lines ++ S.faces).countP (rainF S.spots) % 2 : Nat) : Int) from fm_nat _ 2, ho]; rfl
  rw [e]
  exact hQ h₈ _ gs₆ f₈.kp f₈.t1 f₈.t2 bb₆
end Mine
end
section
open PySem PySem.W PyProof.Rows
set_option Elab.async false
set_option maxRecDepth 100000
set_option maxHeartbeats 1000000
set_option linter.unusedVariables false
namespace Mine
theorem swaps_list {e : List PySem.Expr} {q : Pos} {t : Option PySem.Expr} {n : Nat} {env : Env} : swapsWith (.List e q) t n env = pure false := rfl
theorem law_rest {w : World} {A : Around} {E : Value → Shared → Prop} {s : Shared} {p : Program} {loose : List Str} {mg mb : Str → Option Value} {b u : Heap} {L gv dr : Addr} {gs ds : List Value} {qs : List Nat} {D : List (PyData × PyData)} {m₃ : Str → Option Value} {Q : Flow → Shared → Prop} (X : (K w.params).In b) (T : TopRead p loose mg mb b) (hroom : A.depth < 450) (hu : A.units < 15) (hh : A.handled = none) (htk : 0 < s.toks)
    (hS : b.SetOf (PySem.intKind rwp w) 127 b1S 27) (hT : IntTab rwp w b 138 D) (G : GoodTab D)
    (f₃ : Fm b u L s.heap m₃ (led6 L ++ [(gv, .list gs)] ++ [(dr, .list ds)])) (hd₃ : m₃ (Str.ofString "drawn") = some (.ref dr)) (hds : Nats ds qs) (hq5 : qs.length = 5)
    (hQ : ∀ h' tk gs, Kp b h' → Tab h' 67 63 → Tab h' 74 70 → (AllBare s.gens → AllBare gs) → Q (.ret (.bool true)) { s with heap := h', toks := tk, gens := gs }) :
    wpAny (model rwp w) A (execs lawRest (lawEnv w.params L)) Q E s := by
  rw [law_split2]
  -- spots
  refine wpAny_execs_cons ?_
  show wpAny _ _ (exec (.Assign [.Name _ _] (.List [.Tuple [.Constant (.int _) _ _, .Constant (.int _) _ _, .Constant (.int _) _ _] _ _, .Tuple [.Constant (.int _) _ _, .Constant (.int _) _ _, .Constant (.int _) _ _] _ _, .Tuple [.Constant (.int _) _ _, .Constant (.int _) _ _, .Constant (.int _) _ _] _ _, .Tuple [.Constant (.int _) _ _, .Constant (.int _) _ _, .Constant (.int _) _ _] _ _] _) _) _) _ _ _
  refine wpAny_Assign_Name ?_ ?_
  rotate_left
  · exact swaps_list
  refine List_ ?_
  refine spliced_more ?_ ?_
  rotate_left
  · rfl
  refine Tuple_ ?_
  refine spliced_more ?_ ?_
  rotate_left
  · rfl
  refine wpAny_Constant_int ?_
  refine spliced_more ?_ ?_
  rotate_left
  · rfl
  refine wpAny_Constant_int ?_
  refine spliced_more ?_ ?_
  rotate_left
  · rfl
  refine wpAny_Constant_int ?_
  refine spliced_none ?_
  refine new_tup f₃ (fun a1 h₄ f₄ => ?_) (by show (3 : Nat) ≤ sizeLine; decide)
  refine spliced_more ?_ ?_
  rotate_left
  · rfl
  refine Tuple_ ?_
  refine spliced_more ?_ ?_
  rotate_left
  · rfl
  refine wpAny_Constant_int ?_
  refine spliced_more ?_ ?_
  rotate_left
  · rfl
  refine wpAny_Constant_int ?_
  refine spliced_more ?_ ?_
  rotate_left
  · rfl
  refine wpAny_Constant_int ?_
  refine spliced_none ?_
  refine new_tup f₄ (fun a2 h₅ f₅ => ?_) (by show (3 : Nat) ≤ sizeLine; decide)
  refine spliced_more ?_ ?_
  rotate_left
  · rfl
  refine Tuple_ ?_
  refine spliced_more ?_ ?_
  rotate_left
  · rfl
  refine wpAny_Constant_int ?_
  refine spliced_more ?_ ?_
  rotate_left
  · rfl
  refine wpAny_Constant_int ?_
  refine spliced_more ?_ ?_
  rotate_left
  · rfl
  refine wpAny_Constant_int ?_
  refine spliced_none ?_
  refine new_tup f₅ (fun a3 h₆ f₆ => ?_) (by show (3 : Nat) ≤ sizeLine; decide)
  refine spliced_more ?_ ?_
  rotate_left
  · rfl
  refine Tuple_ ?_
  refine spliced_more ?_ ?_
  rotate_left
  · rfl
  refine wpAny_Constant_int ?_
  refine spliced_more ?_ ?_
  rotate_left
  · rfl
  refine wpAny_Constant_int ?_
  refine spliced_more ?_ ?_
  rotate_left
  · rfl
  refine wpAny_Constant_int ?_
  refine spliced_none ?_
  refine new_tup f₆ (fun a4 h₇ f₇ => ?_) (by show (3 : Nat) ≤ sizeLine; decide)
  refine spliced_none ?_
  refine new_list f₇ (fun sp h₈ f₈ => ?_) (by show (4 : Nat) ≤ sizeLine; decide)
  refine st_cell f₈ 0 (by rfl) fun h₉ f₉ => ?_
  show wpAny _ _ (execs (hd 3 :: hd 4 :: lawMid) _) _ _ { s with heap := h₉, toks := s.toks + 1 + 1 + 1 + 1 + 1 + 1 + 1 + 1 + 1 + 1 + 1 + 1 }
  -- faces
  refine wpAny_execs_cons ?_
  show wpAny _ _ (exec (.Assign [.Name _ _] (.List [.Tuple [.Constant (.int _) _ _, .Constant (.int _) _ _, .Constant (.int _) _ _] _ _, .Tuple [.Constant (.int _) _ _, .Constant (.int _) _ _, .Constant (.int _) _ _] _ _] _) _) _) _ _ _
  refine wpAny_Assign_Name ?_ ?_
  rotate_left
  · exact swaps_list
  refine List_ ?_
  refine spliced_more ?_ ?_
  rotate_left
  · rfl
  refine Tuple_ ?_
  refine spliced_more ?_ ?_
  rotate_left
  · rfl
  refine wpAny_Constant_int ?_
  refine spliced_more ?_ ?_
  rotate_left
  · rfl
  refine wpAny_Constant_int ?_
  refine spliced_more ?_ ?_
  rotate_left
  · rfl
  refine wpAny_Constant_int ?_
  refine spliced_none ?_
  refine new_tup f₉ (fun a5 h₁₀ f₁₀ => ?_) (by show (3 : Nat) ≤ sizeLine; decide)
  refine spliced_more ?_ ?_
  rotate_left
  · rfl
  refine Tuple_ ?_
  refine spliced_more ?_ ?_
  rotate_left
  · rfl
  refine wpAny_Constant_int ?_
  refine spliced_more ?_ ?_
  rotate_left
  · rfl
  refine wpAny_Constant_int ?_
  refine spliced_more ?_ ?_
  rotate_left
  · rfl
  refine wpAny_Constant_int ?_
  refine spliced_none ?_
  refine new_tup f₁₀ (fun a6 h₁₁ f₁₁ => ?_) (by show (3 : Nat) ≤ sizeLine; decide)
  refine spliced_none ?_
  refine new_list f₁₁ (fun fa h₁₂ f₁₂ => ?_) (by show (2 : Nat) ≤ sizeLine; decide)
  refine st_new f₁₂ fun h₁₃ m₁₃ f₁₃ hf₁₃ r₁₃ => ?_
  show wpAny _ _ (execs (hd 4 :: lawMid) _) _ _ { s with heap := h₁₃, toks := s.toks + 1 + 1 + 1 + 1 + 1 + 1 + 1 + 1 + 1 + 1 + 1 + 1 + 1 + 1 + 1 + 1 + 1 + 1 + 1 }
  -- lines
  refine wpAny_execs_cons ?_
  show wpAny _ _ (exec (.Assign [.Name _ _] (.List [] _) _) _) _ _ _
  refine wpAny_Assign_Name ?_ ?_
  rotate_left
  · exact swaps_list
  refine List_ (spliced_none ?_)
  refine new_list f₁₃ (fun ln h₁₄ f₁₄ => ?_) (by show (0 : Nat) ≤ sizeLine; decide)
  refine st_new f₁₄ fun h₁₅ m₁₅ f₁₅ hl₁₅ r₁₅ => ?_
  show wpAny _ _ (execs lawMid _) _ _ { s with heap := h₁₅, toks := s.toks + 1 + 1 + 1 + 1 + 1 + 1 + 1 + 1 + 1 + 1 + 1 + 1 + 1 + 1 + 1 + 1 + 1 + 1 + 1 + 1 }
  have hm : NamesC m₁₅ fa ln dr := ⟨(r₁₅ _ (by decide)).trans hf₁₃, hl₁₅, (r₁₅ _ (by decide)).trans ((r₁₃ _ (by decide)).trans hd₃)⟩
  have e1 := f₁₅.tuple (c := a1) 8 rfl
  have e2 := f₁₅.tuple (c := a2) 9 rfl
  have e3 := f₁₅.tuple (c := a3) 10 rfl
  have e4 := f₁₅.tuple (c := a4) 11 rfl
  have e5 := f₁₅.tuple (c := a5) 13 rfl
  have e6 := f₁₅.tuple (c := a6) 14 rfl
  have g : Fm b u L h₁₅ m₁₅ (ledB L sp fa ln dr none none none none none [.ref a1, .ref a2, .ref a3, .ref a4] [.ref a5, .ref a6] [] ds) := f₁₅.sel [0, 1, 2, 3, 4, 5, 12, 15, 16, 7] (by decide)
  have hv : Tups h₁₅ [.ref a1, .ref a2, .ref a3, .ref a4] start.spots := .cons ⟨_, _, _, _, rfl, e1⟩ (.cons ⟨_, _, _, _, rfl, e2⟩ (.cons ⟨_, _, _, _, rfl, e3⟩ (.one ⟨_, _, _, _, rfl, e4⟩)))
  have hf : Tups h₁₅ [.ref a5, .ref a6] start.faces := .cons ⟨_, _, _, _, rfl, e5⟩ (.one ⟨_, _, _, _, rfl, e6⟩)
  have hx := @law_mid w A E { s with heap := h₁₅, toks := s.toks + 1 + 1 + 1 + 1 + 1 + 1 + 1 + 1 + 1 + 1 + 1 + 1 + 1 + 1 + 1 + 1 + 1 + 1 + 1 + 1 } p loose mg mb b u L sp fa ln dr none none none none none _ _ [] ds qs D m₁₅ Q X T hroom hu hh (Nat.succ_pos _) hS hT G g hm hds hq5 hv hf .nil (fun h' tk gs kp q1 q2 bb => hQ h' tk gs kp q1 q2 bb)
  assumption
theorem law_body {w : World} {A : Around} {E : Value → Shared → Prop} {s : Shared} {p : Program} {loose : List Str} {mg mb : Str → Option Value} {b u : Heap} {L a : Addr} {vs : List Value} {xs : List Int} {D : List (PyData × PyData)} {m₀ : Str → Option Value} {Q : Flow → Shared → Prop} (X : (K w.params).In b) (T : TopRead p loose mg mb b) (hroom : A.depth < 450) (hu : A.units < 15) (hh : A.handled = none)
    (hS : b.SetOf (PySem.intKind rwp w) 127 b1S 27) (hT : IntTab rwp w b 138 D) (G : GoodTab D)
    (f₀ : Fm b u L s.heap m₀ (led6 L)) (hsc : m₀ (Str.ofString "script") = some (.ref a)) (ha : b.IsList a vs.toArray) (hab : a ≠ 63 ∧ a ≠ 70) (hi : IntsAre vs xs) (hn : xs.length ≤ 63)
    (hQ : ∀ h' tk gs, Kp b h' → Tab h' 67 63 → Tab h' 74 70 → (AllBare s.gens → AllBare gs) → Q (.ret (.bool true)) { s with heap := h', toks := tk, gens := gs }) :
    wpAny (model rwp w) A (execs (bodyAt 18) (lawEnv w.params L)) Q E s := by
  have X₀ := f₀.inK X
  have T₀ := f₀.top T
  rw [law_split]
  -- given
  refine wpAny_execs_cons ?_
  show wpAny _ _ (exec (.Assign [.Name _ _] (.List [.Constant (.int _) _ _, .Constant (.int _) _ _, .Constant (.int _) _ _, .Constant (.int _) _ _, .Constant (.int _) _ _] _) _) _) _ _ _
  refine wpAny_Assign_Name (List_ (spliced_more (wpAny_Constant_int (spliced_more (wpAny_Constant_int (spliced_more (wpAny_Constant_int (spliced_more (wpAny_Constant_int (spliced_more (wpAny_Constant_int (spliced_none ?_)) (by rfl))) (by rfl))) (by rfl))) (by rfl))) (by rfl))) (by rfl)
  refine new_list f₀ (fun gv h₁ f₁ => ?_) (by show (5 : Nat) ≤ sizeLine; decide)
  refine st_new f₁ fun h₂ m₂ f₂ hg₂ r₂ => ?_
  show wpAny _ _ (execs (hd 1 :: lawRest) _) _ _ { s with heap := h₂, toks := s.toks + 1 + 1 + 1 + 1 + 1 + 1 }
  have hsc₂ := (r₂ _ (by decide)).trans hsc
  have ha₂ : h₂.IsList a vs.toArray := ha.at fun o e => f₂.kp _ o hab.1 hab.2 e
  -- drawn
  refine wpAny_execs_cons ?_
  refine wpAny_with_toks (n := 1) (Nat.succ_pos _) ?_
  refine drawn_rule (i := 6) (zs := [24000, 9682, 32368, 17060, 41810]) (f₂.inK X) (f₂.top T) hh f₂ hsc₂ hg₂ ha₂ hi hn (by rfl) (.cons _ _ (.cons _ _ (.cons _ _ (.cons _ _ (.cons _ _ .nil))))) (by rfl) (fun h₃ tk₃ m₃ dr ds qs f₃ hd₃ r₃ hds hq5 => ?_) hd_1
  intro htk₃
  show wpAny _ _ (execs lawRest (lawEnv w.params L)) _ _ { s with heap := h₃, toks := tk₃ }
  have hx := @law_rest w A E { s with heap := h₃, toks := tk₃ } p loose mg mb b u L gv dr _ ds qs D m₃ Q X T hroom hu hh htk₃ hS hT G f₃ hd₃ hds hq5 (fun h' tk gs kp q1 q2 bb => hQ h' tk gs kp q1 q2 bb)
  assumption
end Mine
end
section
open PySem PySem.W PyProof.Rows
set_option Elab.async false
set_option maxRecDepth 100000
set_option maxHeartbeats 1000000
set_option linter.unusedVariables false
namespace Mine
theorem spec_law {w : World} {A : Around} {s : Shared} {p : Program} {loose : List Str} {mg mb : Str → Option Value} {a : Addr} {vs : List Value} {xs : List Int} {D : List (PyData × PyData)} {R : Result → Shared → Prop} (X : (K w.params).In s.heap) (T : TopRead p loose mg mb s.heap) (hroom : A.depth < 400) (hu : A.units < 10) (hh : A.handled = none)
    (hS : s.heap.SetOf (PySem.intKind rwp w) 127 b1S 27) (hT : IntTab rwp w s.heap 138 D) (G : GoodTab D) (tb1 : Tab s.heap 67 63) (tb2 : Tab s.heap 74 70)
    (ha : s.heap.IsList a vs.toArray) (hi : IntsAre vs xs) (hn : xs.length ≤ 63)
    (hR : ∀ h' tk gs, Kp s.heap h' → Tab h' 67 63 → Tab h' 74 70 → (AllBare s.gens → AllBare gs) → R (.ok (.ret (.bool true))) { s with heap := h', toks := tk, gens := gs }) :
    codeAny (model rwp w) A (.call (.ref 219) ⟨[.ref a], []⟩) R s := by
  have ho := X 219 (o_219 w.params) rfl
  refine call_cells_ret (name := Str.ofString "law") (qual := Str.ofString "law") (room (Nat.lt_trans hroom (by decide))) T.nolimit ho rfl (codeRec_of X (K := K w.params) (by rfl)) (binds := [(Str.ofString "script", .ref a)]) (BindsTo.of_eq (by rfl))
    (kindsX (by rfl)) (by decide) ?_
  intro h₁ tk₁ cells htk₁ F N Y
  have Y6 := six_cells Y
  obtain ⟨o6, o5, o4, o3, o2, o1, rfl, d6, d5, d4, d3, d2, d1⟩ := Y6
  clear Y
  have hns : ∃ m, h₁.Ns s.heap.objs.size m ∧ m (Str.ofString "script") = some (.ref a) := ⟨_, F.ns, by rfl⟩
  obtain ⟨m₀, hns, hsc⟩ := hns
  have f₀ : Fm s.heap h₁ s.heap.objs.size h₁ m₀ (led6 s.heap.objs.size) := by
    refine ⟨.of F.keep, tb1.keeps F.keep, tb2.keeps F.keep, fun _ _ x => x, hns, fun p hp => ?_, Heap.get?_none_of_le (Nat.le_refl _), fun p hp => ?_, ?_⟩
    · simp only [led6, List.mem_cons, List.not_mem_nil, or_false] at hp
      rcases hp with rfl | rfl | rfl | rfl | rfl | rfl
      · exact ⟨o1, (N _ (.tail _ (.tail _ (.tail _ (.tail _ (.tail _ (.head _))))))).1, d1⟩
      · exact ⟨o2, (N _ (.tail _ (.tail _ (.tail _ (.tail _ (.head _)))))).1, d2⟩
      · exact ⟨o3, (N _ (.tail _ (.tail _ (.tail _ (.head _))))).1, d3⟩
      · exact ⟨o4, (N _ (.tail _ (.tail _ (.head _)))).1, d4⟩
      · exact ⟨o5, (N _ (.tail _ (.head _))).1, d5⟩
      · exact ⟨o6, (N _ (.head _)).1, d6⟩
    · refine Heap.get?_none_of_le ?_
      simp only [led6, List.mem_cons, List.not_mem_nil, or_false] at hp
      rcases hp with rfl | rfl | rfl | rfl | rfl | rfl <;> exact Nat.le_add_right _ _
    · simp [led6, List.nodup_cons]
  show wpAny _ (A.deeper (lawEnv w.params s.heap.objs.size)) (execs (bodyAt 18) (lawEnv w.params s.heap.objs.size)) _ _ _
  refine law_body (s := { s with heap := h₁, toks := tk₁ }) X T (by show A.depth + 1 < 450; omega) (by show A.units + 3 < 15; omega) (by exact hh) hS hT G f₀ hsc ha ⟨fun q => ?_, fun q => ?_⟩ hi hn fun h' tk gs kp q1 q2 bb => hR h' tk gs kp q1 q2 bb
  · obtain ⟨ps, _, e⟩ := tb1.obj
    obtain ⟨o, e', c, _⟩ := ha
    rw [q, e] at e'; cases e'; cases c
  · obtain ⟨ps, _, e⟩ := tb2.obj
    obtain ⟨o, e', c, _⟩ := ha
    rw [q, e] at e'; cases e'; cases c
end Mine
end
section
open PySem PySem.W PyProof.Rows
set_option Elab.async false
set_option maxRecDepth 100000
set_option maxHeartbeats 4000000
namespace Mine
/-- one step of the quiet machine over a tree heap -/
noncomputable def stepQ (stp : SharedT → Thread → Option (SharedT × Thread)) (den : Code → Sem Fin) (s : SharedT) : Thread → Option (SharedT × Thread)
  | ⟨.pure (.again c), _, pos, stack⟩ => some (s, ⟨den c, c, pos, stack⟩)
  | ⟨.call c h g l k, code, pos, stack⟩ => some (s, ⟨den c, c, pos, .ret k h g l code pos [] :: stack⟩)
  | ⟨.yield .., _, _, _⟩ => none
  | ⟨.resume .., _, _, _⟩ => none
  | ⟨.pure (.done f), _, _, stack⟩ => match stack with
    | .ret k _ _ _ c' p' _ :: rest => some (s, ⟨k (.ok f), c', p', rest⟩)
    | _ => none
  | ⟨.raise e, _, _, stack⟩ => match stack with
    | .ret k _ _ _ c' p' _ :: rest => some (s, ⟨k (.error e), c', p', rest⟩)
    | _ => none
  | t => stp s t
noncomputable def runQ (stp : SharedT → Thread → Option (SharedT × Thread)) (den : Code → Sem Fin) (cm : Thread → Bool) (b : Nat) : Nat → SharedT → Thread → Option (Flow × SharedT)
  | 0, _, _ => none
  | n + 1, s, t => match endAt b t with
    | some f => some (f, s)
    | none => match cm t with
      | false => none
      | true => match stepQ stp den s t with
        | some (s', t') => match Nat.ble b t'.stack.length with
          | true => runQ stp den cm b n s' t'
          | false => none
        | none => none
theorem calm_quiet {t : Thread} (h : t.calm = true) : t.loud = false := by
  rw [Thread.calm_eq] at h
  cases e : t.loud <;> simp_all
theorem none_some {α : Type} {x : Option α} {a : α} (h : x = some a) (e : x = none) : False := by rw [e] at h; cases h
theorem step_opt {α : Type} {P : Step → Prop} (x : Option α) {f : Step} {g : α → Step} (hf : P f) (hg : ∀ a, P (g a)) : P (Option.casesOn (motive := fun _ => Step) x f g) := by
  cases x with
  | none => exact hf
  | some a => exact hg a
theorem step_ite {P : Step → Prop} {c : Prop} [Decidable c] {a b : Step} (ha : P a) (hb : P b) : P (ite c a b) := by
  by_cases h : c
  · rw [if_pos h]; exact ha
  · rw [if_neg h]; exact hb
/-- a step that goes on keeps the stack -/
noncomputable def Stays (stack : List Frame) : Step → Prop
  | .go _ t => t.stack = stack
  | .halt _ _ => True
theorem stepT_stack {p : Program} {w : World} {s s' : SharedT} {cur : Sem Fin} {code : Code} {pos : Pos} {stack : List Frame} {t' : Thread}
    (h1 : ∀ f, cur ≠ .pure f) (h2 : ∀ e, cur ≠ .raise e) (h3 : ∀ c h g l k, cur ≠ .call c h g l k) (h4 : ∀ v g l k, cur ≠ .yield v g l k) (h5 : ∀ g r l k, cur ≠ .resume g r l k)
    (h : stepT (denote table) p w s ⟨cur, code, pos, stack⟩ = some (s', t')) : t'.stack = stack := by
  have e := stepT_spec h
  suffices key : Stays stack (step (denote table) p w s.abs ⟨cur, code, pos, stack⟩) by
    rw [e] at key
    exact key
  generalize s.abs = σ
  clear e h
  obtain ⟨heap, gens, drawn, toks, os⟩ := σ
  cases cur with
  | pure f => exact absurd rfl (h1 f)
  | raise x => exact absurd rfl (h2 x)
  | call c hd g l k => exact absurd rfl (h3 c hd g l k)
  | «yield» v g l k => exact absurd rfl (h4 v g l k)
  | resume g r l k => exact absurd rfl (h5 g r l k)
  | finish e' => exact step_ite (P := Stays stack) True.intro True.intro
  | load a q k =>
    show Stays stack (match heap.get? a with | some o => _ | none => _)
    cases heap.get? a with
    | none => exact True.intro
    | some o => exact rfl
  | update a q f k => exact step_ite (P := Stays stack) rfl True.intro
  | choose src n k => exact step_ite (P := Stays stack) True.intro rfl
  | genState g k =>
    show Stays stack (match gens[g]? with | none => _ | some st => _)
    cases gens[g]? with
    | none => exact True.intro
    | some o => exact rfl
  | _ => first | exact rfl | exact True.intro
theorem stepQ_spec {p : Program} {w : World} {s s' : SharedT} {t t' : Thread} {B : List Frame} {pre : List Frame} (hs : t.stack = pre ++ B) (hc : t.calm = true)
    (h : stepQ (stepT (denote table) p w) (denote table) s t = some (s', t')) (hl : B.length ≤ t'.stack.length) :
    (model p w).step s.abs t = .go s'.abs t' ∧ ∃ pre', t'.stack = pre' ++ B := by
  rw [Model.step_quiet (h := calm_quiet hc)]
  have pop : ∀ (F : Frame) (rest : List Frame), F :: rest = pre ++ B → B.length ≤ rest.length → ∃ pre', rest = pre' ++ B := fun F rest e l => by
    cases pre with
    | nil => rw [List.nil_append] at e; rw [← e] at l; simp at l; omega
    | cons G pre => exact ⟨pre, by simpa using (List.cons.inj e).2⟩
  obtain ⟨cur, code, pos, stack⟩ := t
  dsimp only at hs
  have fin (h1 : ∀ f, cur ≠ .pure f) (h2 : ∀ e, cur ≠ .raise e) (h3 : ∀ c h g l k, cur ≠ .call c h g l k) (h4 : ∀ v g l k, cur ≠ .yield v g l k) (h5 : ∀ g r l k, cur ≠ .resume g r l k)
      (h : stepT (denote table) p w s ⟨cur, code, pos, stack⟩ = some (s', t')) : step (denote table) p w s.abs ⟨cur, code, pos, stack⟩ = .go s'.abs t' ∧ ∃ pre', t'.stack = pre' ++ B :=
    ⟨stepT_spec h, pre, by rw [← hs]; exact stepT_stack h1 h2 h3 h4 h5 h⟩
  cases cur with
  | pure f => cases f with
    | done f =>
      cases stack with
      | nil => exact (none_some h rfl).elim
      | cons F rest => cases F with
        | ret k hh g l c p' kept => cases Option.some.inj h; exact ⟨rfl, pop _ _ hs hl⟩
        | gen g k l c p' => exact (none_some h rfl).elim
    | again c => cases Option.some.inj h; exact ⟨rfl, pre, hs⟩
  | raise e =>
      cases stack with
      | nil => exact (none_some h rfl).elim
      | cons F rest => cases F with
        | ret k hh g l c p' kept => cases Option.some.inj h; exact ⟨rfl, pop _ _ hs hl⟩
        | gen g k l c p' => exact (none_some h rfl).elim
  | call c hd g l k => cases Option.some.inj h; exact ⟨rfl, _ :: pre, by rw [List.cons_append, ← hs]⟩
  | «yield» v g l k => exact (none_some h rfl).elim
  | resume g r l k => exact (none_some h rfl).elim
  | _ =>
    exact fin (by intros; intro e; cases e) (by intros; intro e; cases e) (by intros; intro e; cases e) (by intros; intro e; cases e) (by intros; intro e; cases e) h
theorem endAt_some {B : List Frame} {t : Thread} {f : Flow} {pre : List Frame} (hs : t.stack = pre ++ B) (h : endAt B.length t = some f) : t.cur = .pure (.done f) ∧ pre = [] := by
  obtain ⟨cur, code, pos, stack⟩ := t
  dsimp only at hs
  subst hs
  unfold endAt at h
  dsimp only at h
  cases e : (pre ++ B).length == B.length with
  | false => rw [e] at h; exact (none_some h rfl).elim
  | true =>
    rw [e] at h
    rw [beq_iff_eq, List.length_append] at e
    have e0 : pre = [] := List.length_eq_zero_iff.mp (by omega)
    cases cur with
    | pure r => cases r with
      | done g => cases Option.some.inj h; exact ⟨rfl, e0⟩
      | again c => exact (none_some h rfl).elim
    | _ => exact (none_some h rfl).elim
theorem runQ_reach {p : Program} {w : World} {B : List Frame} : ∀ {n : Nat} {s s' : SharedT} {t : Sem Fin} {c : Code} {q : Pos} {pre : List Frame} {f : Flow},
    runQ (stepT (denote table) p w) (denote table) Thread.calm B.length n s ⟨t, c, q, pre ++ B⟩ = some (f, s') → Reach (model p w) B s.abs t c q pre s'.abs (.ret (.ok f))
  | 0, _, _, _, _, _, _, _, h => by cases h
  | n + 1, s, s', t, c, q, pre, f, h => by
    unfold runQ at h
    cases he : endAt B.length ⟨t, c, q, pre ++ B⟩ with
    | some g =>
      rw [he] at h
      cases h
      obtain ⟨e1, e2⟩ := endAt_some rfl he
      have e1' : t = .pure (.done f) := e1
      subst e1' e2
      exact .exit ⟨rfl, rfl⟩
    | none =>
      rw [he] at h
      cases hc : Thread.calm ⟨t, c, q, pre ++ B⟩ with
      | false => rw [hc] at h; cases h
      | true =>
        rw [hc] at h
        cases hs : stepQ (stepT (denote table) p w) (denote table) s ⟨t, c, q, pre ++ B⟩ with
        | none => rw [hs] at h; cases h
        | some r =>
          obtain ⟨s₂, t₂⟩ := r
          rw [hs] at h
          cases hb : Nat.ble B.length t₂.stack.length with
          | false => simp only [hb] at h; cases h
          | true =>
            simp only [hb] at h
            obtain ⟨h1, pre', h2⟩ := stepQ_spec (pre := pre) rfl hc hs (Nat.le_of_ble_eq_true hb)
            obtain ⟨t', c', q', st'⟩ := t₂
            dsimp only at h2
            subst h2
            exact .step h1 (runQ_reach h)
/-- `wp` at one stack, at every position, of what ends well -/
structure wpAt {α : Type} (p : Program) (w : World) (c : Code) (B : List Frame) (x : Sem α) (Q : α → Shared → Prop) (s : Shared) : Prop where
  run : ∀ q, Sem.wp (model p w) (Ctx.of c B) x (fun a _ s' => Q a s') (fun _ _ _ => False) q s
theorem wpAt_run {α : Type} {p : Program} {w : World} {c : Code} {B : List Frame} {x : Sem α} {res : α → Flow} {n : Nat} {f : Flow} {s s' : SharedT} {Q : α → Shared → Prop}
    (h : ∀ q, runQ (stepT (denote table) p w) (denote table) Thread.calm B.length n s ⟨x.bind fun a => .pure (.done (res a)), c, q, B⟩ = some (f, s'))
    (k : ∀ a, res a = f → Q a s'.abs) : wpAt p w c B x Q s.abs := by
  refine ⟨fun q => ?_⟩
  have r := runQ_reach (pre := []) (h q)
  have e := (wp_iff_reach (M := model p w) (base := B) (c := c) (x.bind fun a => .pure (.done (res a))) (fun r s₂ => r = .ok f ∧ s₂ = s'.abs) q s.abs).mpr ⟨_, _, r, rfl, rfl⟩
  rw [show (x.bind fun a => .pure (.done (res a)) : Sem Fin) = (x >>= fun a => (Sem.pure (.done (res a)) : Sem Fin)) from rfl, Sem.wp_bind'] at e
  refine Sem.wp_mono _ _ x (fun a q' s₂ h2 => ?_) (fun e q' s₂ h2 => by cases h2.1) q s.abs e
  have h3 : (Except.ok (res a) : Result) = Except.ok f ∧ s₂ = s'.abs := h2
  obtain ⟨h4, rfl⟩ := h3
  exact k a (by injection h4)
theorem wpAt_bind {α β : Type} {p : Program} {w : World} {c : Code} {B : List Frame} {x : Sem α} {f : α → Sem β} {Q : β → Shared → Prop} {s : Shared}
    (h : wpAt p w c B x (fun a s' => wpAt p w c B (f a) Q s') s) : wpAt p w c B (x >>= f) Q s := by
  refine ⟨fun q => ?_⟩
  rw [Sem.wp_bind']
  exact Sem.wp_mono _ _ x (fun a q' s' h2 => h2.run q') (fun _ _ _ e => e) q s (h.run q)
theorem wpAt_mono {α : Type} {p : Program} {w : World} {c : Code} {B : List Frame} {x : Sem α} {Q Q' : α → Shared → Prop} {s : Shared}
    (h : wpAt p w c B x Q s) (hq : ∀ a s', Q a s' → Q' a s') : wpAt p w c B x Q' s := ⟨fun q =>
  Sem.wp_mono _ _ x (fun a _ s' h2 => hq a s' h2) (fun _ _ _ e => e) q s (h.run q)⟩
theorem wpAt_any {α : Type} {p : Program} {w : World} {c : Code} {B : List Frame} {x : Sem α} {Q : α → Shared → Prop} {s : Shared} {A : Around} (hA : (Ctx.of c B).In A)
    (h : wpAny (model p w) A x Q (fun _ _ => False) s) : wpAt p w c B x Q s := ⟨fun q => h _ q hA⟩
end Mine
end
section
open PySem PySem.W PyProof.Rows
set_option Elab.async false
set_option maxRecDepth 100000
set_option linter.unusedVariables false
namespace Mine
noncomputable def ob_0 (P : Params) : Obj := boot_o_0 P
noncomputable def o_1 (P : Params) : Obj := boot_o_1 P
noncomputable def ob_4 (P : Params) : Obj := boot_o_4 P
noncomputable def o_5 (P : Params) : Obj := boot_o_5 P
noncomputable def o_6 (P : Params) : Obj := boot_o_6 P
noncomputable def o_7 (P : Params) : Obj := boot_o_7 P
noncomputable def o_8 (P : Params) : Obj := boot_o_8 P
noncomputable def o_9 (P : Params) : Obj := boot_o_9 P
noncomputable def o_10 (P : Params) : Obj := boot_o_10 P
noncomputable def o_11 (P : Params) : Obj := { cls := Value.type "tuple", data := Data.seq #[] }
noncomputable def o_12 (P : Params) : Obj := { cls := Value.none, data := Data.fields #[Value.int 1 0, Value.int 0 0, Value.ref 20, Value.int 6 0, Value.int 0 0, Value.ref 28, Value.int 38 0, Value.int 0 0, Value.ref 111, Value.int 61 0, Value.int 0 0, Value.ref 118, Value.int 84 0, Value.int 0 0, Value.ref 136, Value.int 87 0, Value.int 0 0, Value.ref 182, Value.int 93 0, Value.int 0 0, Value.ref 189, Value.int 102 0, Value.int 0 0, Value.ref 194, Value.int 108 0, Value.int 0 0, Value.ref 201, Value.int 110 0, Value.int 0 0, Value.ref 206, Value.int 113 0, Value.int 0 0, Value.ref 213, Value.int 115 0, Value.int 0 0, Value.ref 218] }
noncomputable def o_13 (P : Params) : Obj := { cls := Value.type "code", data := Data.fields #[Value.str (Str.ofString "<module>") 182, Value.str (Str.ofString "<module>") 183, Value.str (Str.ofString "/claim/cut.py") 184, Value.int 1 0, Value.int 0 0, Value.int 0 0, Value.int 0 0, Value.int 0 0, Value.ref 11, Value.bool false, Value.int 181 0, Value.ref 12, Value.none, Value.none, Value.none, Value.none, Value.int 185 0, Value.int 1 0, Value.str (Str.ofString "/claim/cut.py") 186] }
noncomputable def o_14 (P : Params) : Obj := { cls := Value.type "frame", slots := #[some (Value.ref 13), some (Value.ref 3), some (Value.ref 3), none, some (Value.str (Str.ofString "__main__") 164), none, some (Value.ref 0)] }
noncomputable def o_23 (P : Params) : Obj := { cls := Value.type "builtin_function_or_method", data := Data.fields #[Value.builtin "type.__prepare__", Value.type "type"] }
noncomputable def o_24 (P : Params) : Obj := { cls := Value.type "dict", data := Data.dict #[{ hash := PyData.keyHash P (Str.ofString "__module__"), key := Value.str (Str.ofString "__module__") 205, val := Value.str (Str.ofString "cpy313.email.header") 194 }, { hash := PyData.keyHash P (Str.ofString "__qualname__"), key := Value.str (Str.ofString "__qualname__") 207, val := Value.str (Str.ofString "_Accumulator") 206 }, { hash := PyData.keyHash P (Str.ofString "__firstlineno__"), key := Value.str (Str.ofString "__firstlineno__") 209, val := Value.int 6 208 }, { hash := PyData.keyHash P (Str.ofString "__init__"), key := Value.str (Str.ofString "__init__") 219, val := Value.ref 38 }, { hash := PyData.keyHash P (Str.ofString "push"), key := Value.str (Str.ofString "push") 228, val := Value.ref 45 }, { hash := PyData.keyHash P (Str.ofString "pop_from"), key := Value.str (Str.ofString "pop_from") 237, val := Value.ref 53 }, { hash := PyData.keyHash P (Str.ofString "pop"), key := Value.str (Str.ofString "pop") 245, val := Value.ref 61 }, { hash := PyData.keyHash P (Str.ofString "__len__"), key := Value.str (Str.ofString "__len__") 252, val := Value.ref 68 }, { hash := PyData.keyHash P (Str.ofString "__str__"), key := Value.str (Str.ofString "__str__") 259, val := Value.ref 75 }, { hash := PyData.keyHash P (Str.ofString "reset"), key := Value.str (Str.ofString "reset") 267, val := Value.ref 83 }, { hash := PyData.keyHash P (Str.ofString "is_onlyws"), key := Value.str (Str.ofString "is_onlyws") 274, val := Value.ref 90 }, { hash := PyData.keyHash P (Str.ofString "part_count"), key := Value.str (Str.ofString "part_count") 282, val := Value.ref 98 }, { hash := PyData.keyHash P (Str.ofString "__static_attributes__"), key := Value.str (Str.ofString "__static_attributes__") 284, val := Value.ref 99 }, { hash := PyData.keyHash P (Str.ofString "__classcell__"), key := Value.str (Str.ofString "__classcell__") 285, val := Value.ref 25 }] 14 }
noncomputable def o_26 (P : Params) : Obj := { cls := Value.type "tuple", data := Data.seq #[] }
noncomputable def o_27 (P : Params) : Obj := { cls := Value.none, data := Data.fields #[Value.int 8 0, Value.int 4 0, Value.ref 37, Value.int 12 0, Value.int 4 0, Value.ref 44, Value.int 15 0, Value.int 4 0, Value.ref 52, Value.int 18 0, Value.int 4 0, Value.ref 60, Value.int 23 0, Value.int 4 0, Value.ref 67, Value.int 26 0, Value.int 4 0, Value.ref 74, Value.int 29 0, Value.int 4 0, Value.ref 82, Value.int 32 0, Value.int 4 0, Value.ref 89, Value.int 35 0, Value.int 4 0, Value.ref 97] }
noncomputable def o_28 (P : Params) : Obj := { cls := Value.type "code", data := Data.fields #[Value.str (Str.ofString "_Accumulator") 200, Value.str (Str.ofString "_Accumulator") 201, Value.str (Str.ofString "/claim/cut.py") 202, Value.int 6 0, Value.int 0 0, Value.int 0 0, Value.int 0 0, Value.int 0 0, Value.ref 26, Value.bool false, Value.int 181 0, Value.ref 27, Value.none, Value.none, Value.none, Value.none, Value.int 203 0, Value.int 6 0, Value.str (Str.ofString "/claim/cut.py") 204] }
noncomputable def o_29 (P : Params) : Obj := { cls := Value.type "frame", slots := #[some (Value.ref 28), some (Value.ref 3), some (Value.ref 24), none, some (Value.str (Str.ofString "cpy313.email.header") 194), none, some (Value.ref 0)] }
noncomputable def o_63 (P : Params) : Obj := { cls := Value.none, data := Data.fields #[] }
noncomputable def o_70 (P : Params) : Obj := { cls := Value.none, data := Data.fields #[] }
noncomputable def o_104 (P : Params) : Obj := { cls := Value.type "super", data := Data.fields #[Value.ref 101, Value.ref 101, Value.ref 101] }
noncomputable def o_105 (P : Params) : Obj := { cls := Value.type "builtin_function_or_method", data := Data.fields #[Value.builtin "object.__init_subclass__", Value.ref 101] }
noncomputable def o_120 (P : Params) : Obj := { cls := Value.type "list", data := Data.seq #[Value.int 173 330, Value.int 847 331, Value.int 6150 332, Value.int 6155 333, Value.int 6156 334, Value.int 6157 335, Value.int 8203 336, Value.int 8204 337, Value.int 8205 338, Value.int 8288 339, Value.int 65279 340] }
noncomputable def o_121 (P : Params) : Obj := { cls := Value.type "range", data := Data.fields #[Value.int 65024 341, Value.int 65040 342, Value.int 1 343] }
noncomputable def o_122 (P : Params) : Obj := { cls := Value.type "list", data := Data.seq #[Value.int 65024 346, Value.int 65025 347, Value.int 65026 348, Value.int 65027 349, Value.int 65028 350, Value.int 65029 351, Value.int 65030 352, Value.int 65031 353, Value.int 65032 354, Value.int 65033 355, Value.int 65034 356, Value.int 65035 357, Value.int 65036 358, Value.int 65037 359, Value.int 65038 360, Value.int 65039 361] 18 }
noncomputable def o_123 (P : Params) : Obj := { cls := Value.type "range_iterator", data := Data.fields #[Value.int 65040 0, Value.int 0 0, Value.int 1 0] }
noncomputable def o_124 (P : Params) : Obj := { cls := Value.type "tuple", data := Data.seq #[] }
noncomputable def o_125 (P : Params) : Obj := { cls := Value.type "StopIteration", data := Data.fields #[Value.ref 124, Value.none, Value.none, Value.none, Value.bool false, Value.none] }
noncomputable def o_126 (P : Params) : Obj := { cls := Value.type "list", data := Data.seq #[Value.int 173 330, Value.int 847 331, Value.int 6150 332, Value.int 6155 333, Value.int 6156 334, Value.int 6157 335, Value.int 8203 336, Value.int 8204 337, Value.int 8205 338, Value.int 8288 339, Value.int 65279 340, Value.int 65024 346, Value.int 65025 347, Value.int 65026 348, Value.int 65027 349, Value.int 65028 350, Value.int 65029 351, Value.int 65030 352, Value.int 65031 353, Value.int 65032 354, Value.int 65033 355, Value.int 65034 356, Value.int 65035 357, Value.int 65036 358, Value.int 65037 359, Value.int 65038 360, Value.int 65039 361] }
noncomputable def o_128 (P : Params) : Obj := { cls := Value.type "list_iterator", data := Data.fields #[Value.none, Value.int 27 0] }
noncomputable def o_129 (P : Params) : Obj := { cls := Value.type "tuple", data := Data.seq #[] }
noncomputable def o_130 (P : Params) : Obj := { cls := Value.type "StopIteration", data := Data.fields #[Value.ref 129, Value.none, Value.none, Value.none, Value.bool false, Value.none] }
noncomputable def o_127 (P : Params) : Obj := { cls := Value.type "set", data := Data.set #[(65024, Value.int 65024 346), (65025, Value.int 65025 347), (65026, Value.int 65026 348), (65027, Value.int 65027 349), (65028, Value.int 65028 350), (65029, Value.int 65029 351), (6150, Value.int 6150 332), (65030, Value.int 65030 352), (65031, Value.int 65031 353), (65032, Value.int 65032 354), (65033, Value.int 65033 355), (6155, Value.int 6155 333), (6156, Value.int 6156 334), (6157, Value.int 6157 335), (8203, Value.int 8203 336), (8204, Value.int 8204 337), (8205, Value.int 8205 338), (65034, Value.int 65034 356), (65035, Value.int 65035 357), (65036, Value.int 65036 358), (65037, Value.int 65037 359), (65038, Value.int 65038 360), (65039, Value.int 65039 361), (173, Value.int 173 330), (847, Value.int 847 331), (8288, Value.int 8288 339), (65279, Value.int 65279 340)] 29 { mask := 127, place := #[0, 1, 2, 3, 4, 5, 6, 7, 8, 9, 10, 11, 12, 13, 14, 15, 16, 17, 18, 19, 20, 21, 22, 45, 79, 96, 127], dummies := #[], finger := 0, led := !(P.followText "set-order"), moves := 2, plain := true } }
noncomputable def p3_0 (P : Params) : Obj := { cls := Value.type "dict", data := Data.dict #[{ hash := PyData.keyHash P (Str.ofString "__name__"), key := Value.str (Str.ofString "__name__") 165, val := Value.str (Str.ofString "__main__") 164 }, { hash := PyData.keyHash P (Str.ofString "__doc__"), key := Value.str (Str.ofString "__doc__") 166, val := Value.none }, { hash := PyData.keyHash P (Str.ofString "__package__"), key := Value.str (Str.ofString "__package__") 167, val := Value.none }, { hash := PyData.keyHash P (Str.ofString "__loader__"), key := Value.str (Str.ofString "__loader__") 168, val := Value.builtin "__main__.__loader__#opaque" }, { hash := PyData.keyHash P (Str.ofString "__spec__"), key := Value.str (Str.ofString "__spec__") 169, val := Value.none }, { hash := PyData.keyHash P (Str.ofString "__annotations__"), key := Value.str (Str.ofString "__annotations__") 170, val := Value.ref 6 }, { hash := PyData.keyHash P (Str.ofString "__builtins__"), key := Value.str (Str.ofString "__builtins__") 171, val := Value.ref 4 }, { hash := PyData.keyHash P (Str.ofString "__file__"), key := Value.str (Str.ofString "__file__") 173, val := Value.str (Str.ofString "/claim/cut.py") 172 }, { hash := PyData.keyHash P (Str.ofString "__cached__"), key := Value.str (Str.ofString "__cached__") 174, val := Value.none }] 9 }
noncomputable def p12_0 (P : Params) : Obj := { cls := Value.none, data := Data.fields #[] }
noncomputable def T0 (P : Params) : BT := (.node (ob_0 P) (.node (o_1 P) (.node (p3_0 P) (.node (o_7 P) .nil .nil) (.node (o_11 P) .nil .nil)) (.node (o_5 P) (.node (o_9 P) .nil .nil) (.node (o_13 P) .nil .nil))) (.node (o_2 P) (.node (ob_4 P) (.node (o_8 P) .nil .nil) (.node (p12_0 P) .nil .nil)) (.node (o_6 P) (.node (o_10 P) .nil .nil) (.node (o_14 P) .nil .nil))))
noncomputable def p3_2 (P : Params) : Obj := { cls := Value.type "dict", data := Data.dict #[{ hash := PyData.keyHash P (Str.ofString "__name__"), key := Value.str (Str.ofString "__name__") 165, val := Value.str (Str.ofString "cpy313.email.header") 194 }, { hash := PyData.keyHash P (Str.ofString "__doc__"), key := Value.str (Str.ofString "__doc__") 166, val := Value.none }, { hash := PyData.keyHash P (Str.ofString "__package__"), key := Value.str (Str.ofString "__package__") 167, val := Value.none }, { hash := PyData.keyHash P (Str.ofString "__loader__"), key := Value.str (Str.ofString "__loader__") 168, val := Value.builtin "__main__.__loader__#opaque" }, { hash := PyData.keyHash P (Str.ofString "__spec__"), key := Value.str (Str.ofString "__spec__") 169, val := Value.none }, { hash := PyData.keyHash P (Str.ofString "__annotations__"), key := Value.str (Str.ofString "__annotations__") 170, val := Value.ref 6 }, { hash := PyData.keyHash P (Str.ofString "__builtins__"), key := Value.str (Str.ofString "__builtins__") 171, val := Value.ref 4 }, { hash := PyData.keyHash P (Str.ofString "__file__"), key := Value.str (Str.ofString "__file__") 173, val := Value.str (Str.ofString "/claim/cut.py") 172 }, { hash := PyData.keyHash P (Str.ofString "__cached__"), key := Value.str (Str.ofString "__cached__") 174, val := Value.none }, { hash := PyData.keyHash P (Str.ofString "_wall"), key := Value.str (Str.ofString "_wall") 193, val := Value.ref 21 }, { hash := PyData.keyHash P (Str.ofString "EMPTYSTRING"), key := Value.str (Str.ofString "EMPTYSTRING") 197, val := Value.str (Str.ofString "") 196 }] 11 }
noncomputable def p12_2 (P : Params) : Obj := { cls := Value.none, data := Data.fields #[Value.int 1 0, Value.int 0 0, Value.ref 20] }
noncomputable def T2 (P : Params) : BT := (.node (ob_0 P) (.node (o_1 P) (.node (p3_2 P) (.node (o_7 P) (.node (o_15 P) .nil .nil) .nil) (.node (o_11 P) (.node (o_19 P) .nil .nil) .nil)) (.node (o_5 P) (.node (o_9 P) (.node (o_17 P) .nil .nil) .nil) (.node (o_13 P) (.node (o_21 P) .nil .nil) .nil))) (.node (o_2 P) (.node (ob_4 P) (.node (o_8 P) (.node (o_16 P) .nil .nil) .nil) (.node (p12_2 P) (.node (o_20 P) .nil .nil) .nil)) (.node (o_6 P) (.node (o_10 P) (.node (o_18 P) .nil .nil) .nil) (.node (o_14 P) .nil .nil))))
noncomputable def p3_3 (P : Params) : Obj := { cls := Value.type "dict", data := Data.dict #[{ hash := PyData.keyHash P (Str.ofString "__name__"), key := Value.str (Str.ofString "__name__") 165, val := Value.str (Str.ofString "cpy313.email.header") 194 }, { hash := PyData.keyHash P (Str.ofString "__doc__"), key := Value.str (Str.ofString "__doc__") 166, val := Value.none }, { hash := PyData.keyHash P (Str.ofString "__package__"), key := Value.str (Str.ofString "__package__") 167, val := Value.none }, { hash := PyData.keyHash P (Str.ofString "__loader__"), key := Value.str (Str.ofString "__loader__") 168, val := Value.builtin "__main__.__loader__#opaque" }, { hash := PyData.keyHash P (Str.ofString "__spec__"), key := Value.str (Str.ofString "__spec__") 169, val := Value.none }, { hash := PyData.keyHash P (Str.ofString "__annotations__"), key := Value.str (Str.ofString "__annotations__") 170, val := Value.ref 6 }, { hash := PyData.keyHash P (Str.ofString "__builtins__"), key := Value.str (Str.ofString "__builtins__") 171, val := Value.ref 4 }, { hash := PyData.keyHash P (Str.ofString "__file__"), key := Value.str (Str.ofString "__file__") 173, val := Value.str (Str.ofString "/claim/cut.py") 172 }, { hash := PyData.keyHash P (Str.ofString "__cached__"), key := Value.str (Str.ofString "__cached__") 174, val := Value.none }, { hash := PyData.keyHash P (Str.ofString "_wall"), key := Value.str (Str.ofString "_wall") 193, val := Value.ref 21 }, { hash := PyData.keyHash P (Str.ofString "EMPTYSTRING"), key := Value.str (Str.ofString "EMPTYSTRING") 197, val := Value.str (Str.ofString "") 196 }, { hash := PyData.keyHash P (Str.ofString "_Accumulator"), key := Value.str (Str.ofString "_Accumulator") 292, val := Value.ref 101 }] 12 }
noncomputable def p12_3 (P : Params) : Obj := { cls := Value.none, data := Data.fields #[Value.int 1 0, Value.int 0 0, Value.ref 20, Value.int 6 0, Value.int 0 0, Value.ref 28] }
noncomputable def T3 (P : Params) : BT := (.node (ob_0 P) (.node (o_1 P) (.node (p3_3 P) (.node (o_7 P) (.node (o_15 P) (.node (o_31 P) (.node (o_63 P) .nil .nil) (.node (o_95 P) .nil .nil)) (.node (o_47 P) (.node (o_79 P) .nil .nil) .nil)) (.node (o_23 P) (.node (o_39 P) (.node (o_71 P) .nil .nil) (.node (o_103 P) .nil .nil)) (.node (o_55 P) (.node (o_87 P) .nil .nil) .nil))) (.node (o_11 P) (.node (o_19 P) (.node (o_35 P) (.node (o_67 P) .nil .nil) (.node (o_99 P) .nil .nil)) (.node (o_51 P) (.node (o_83 P) .nil .nil) .nil)) (.node (o_27 P) (.node (o_43 P) (.node (o_75 P) .nil .nil) .nil) (.node (o_59 P) (.node (o_91 P) .nil .nil) .nil)))) (.node (o_5 P) (.node (o_9 P) (.node (o_17 P) (.node (o_33 P) (.node (o_65 P) .nil .nil) (.node (o_97 P) .nil .nil)) (.node (o_49 P) (.node (o_81 P) .nil .nil) .nil)) (.node (o_25 P) (.node (o_41 P) (.node (o_73 P) .nil .nil) (.node (o_105 P) .nil .nil)) (.node (o_57 P) (.node (o_89 P) .nil .nil) .nil))) (.node (o_13 P) (.node (o_21 P) (.node (o_37 P) (.node (o_69 P) .nil .nil) (.node (o_101 P) .nil .nil)) (.node (o_53 P) (.node (o_85 P) .nil .nil) .nil)) (.node (o_29 P) (.node (o_45 P) (.node (o_77 P) .nil .nil) .nil) (.node (o_61 P) (.node (o_93 P) .nil .nil) .nil))))) (.node (o_2 P) (.node (ob_4 P) (.node (o_8 P) (.node (o_16 P) (.node (o_32 P) (.node (o_64 P) .nil .nil) (.node (o_96 P) .nil .nil)) (.node (o_48 P) (.node (o_80 P) .nil .nil) .nil)) (.node (o_24 P) (.node (o_40 P) (.node (o_72 P) .nil .nil) (.node (o_104 P) .nil .nil)) (.node (o_56 P) (.node (o_88 P) .nil .nil) .nil))) (.node (p12_3 P) (.node (o_20 P) (.node (o_36 P) (.node (o_68 P) .nil .nil) (.node (o_100 P) .nil .nil)) (.node (o_52 P) (.node (o_84 P) .nil .nil) .nil)) (.node (o_28 P) (.node (o_44 P) (.node (o_76 P) .nil .nil) .nil) (.node (o_60 P) (.node (o_92 P) .nil .nil) .nil)))) (.node (o_6 P) (.node (o_10 P) (.node (o_18 P) (.node (o_34 P) (.node (o_66 P) .nil .nil) (.node (o_98 P) .nil .nil)) (.node (o_50 P) (.node (o_82 P) .nil .nil) .nil)) (.node (o_26 P) (.node (o_42 P) (.node (o_74 P) .nil .nil) .nil) (.node (o_58 P) (.node (o_90 P) .nil .nil) .nil))) (.node (o_14 P) (.node (o_22 P) (.node (o_38 P) (.node (o_70 P) .nil .nil) (.node (o_102 P) .nil .nil)) (.node (o_54 P) (.node (o_86 P) .nil .nil) .nil)) (.node (o_30 P) (.node (o_46 P) (.node (o_78 P) .nil .nil) .nil) (.node (o_62 P) (.node (o_94 P) .nil .nil) .nil))))))
noncomputable def p3_7 (P : Params) : Obj := { cls := Value.type "dict", data := Data.dict #[{ hash := PyData.keyHash P (Str.ofString "__name__"), key := Value.str (Str.ofString "__name__") 165, val := Value.str (Str.ofString "cpy313.stringprep") 328 }, { hash := PyData.keyHash P (Str.ofString "__doc__"), key := Value.str (Str.ofString "__doc__") 166, val := Value.none }, { hash := PyData.keyHash P (Str.ofString "__package__"), key := Value.str (Str.ofString "__package__") 167, val := Value.none }, { hash := PyData.keyHash P (Str.ofString "__loader__"), key := Value.str (Str.ofString "__loader__") 168, val := Value.builtin "__main__.__loader__#opaque" }, { hash := PyData.keyHash P (Str.ofString "__spec__"), key := Value.str (Str.ofString "__spec__") 169, val := Value.none }, { hash := PyData.keyHash P (Str.ofString "__annotations__"), key := Value.str (Str.ofString "__annotations__") 170, val := Value.ref 6 }, { hash := PyData.keyHash P (Str.ofString "__builtins__"), key := Value.str (Str.ofString "__builtins__") 171, val := Value.ref 4 }, { hash := PyData.keyHash P (Str.ofString "__file__"), key := Value.str (Str.ofString "__file__") 173, val := Value.str (Str.ofString "/claim/cut.py") 172 }, { hash := PyData.keyHash P (Str.ofString "__cached__"), key := Value.str (Str.ofString "__cached__") 174, val := Value.none }, { hash := PyData.keyHash P (Str.ofString "_wall"), key := Value.str (Str.ofString "_wall") 193, val := Value.ref 21 }, { hash := PyData.keyHash P (Str.ofString "EMPTYSTRING"), key := Value.str (Str.ofString "EMPTYSTRING") 197, val := Value.str (Str.ofString "") 196 }, { hash := PyData.keyHash P (Str.ofString "_Accumulator"), key := Value.str (Str.ofString "_Accumulator") 292, val := Value.ref 101 }, { hash := PyData.keyHash P (Str.ofString "rgb_to_hls"), key := Value.str (Str.ofString "rgb_to_hls") 313, val := Value.ref 112 }, { hash := PyData.keyHash P (Str.ofString "hsv_to_rgb"), key := Value.str (Str.ofString "hsv_to_rgb") 327, val := Value.ref 119 }] 14 }
noncomputable def p12_7 (P : Params) : Obj := { cls := Value.none, data := Data.fields #[Value.int 1 0, Value.int 0 0, Value.ref 20, Value.int 6 0, Value.int 0 0, Value.ref 28, Value.int 38 0, Value.int 0 0, Value.ref 111, Value.int 61 0, Value.int 0 0, Value.ref 118] }
noncomputable def T7 (P : Params) : BT := (.node (ob_0 P) (.node (o_1 P) (.node (p3_7 P) (.node (o_7 P) (.node (o_15 P) (.node (o_31 P) (.node (o_63 P) .nil .nil) (.node (o_95 P) .nil .nil)) (.node (o_47 P) (.node (o_79 P) .nil .nil) (.node (o_111 P) .nil .nil))) (.node (o_23 P) (.node (o_39 P) (.node (o_71 P) .nil .nil) (.node (o_103 P) .nil .nil)) (.node (o_55 P) (.node (o_87 P) .nil .nil) (.node (o_119 P) .nil .nil)))) (.node (o_11 P) (.node (o_19 P) (.node (o_35 P) (.node (o_67 P) .nil .nil) (.node (o_99 P) .nil .nil)) (.node (o_51 P) (.node (o_83 P) .nil .nil) (.node (o_115 P) .nil .nil))) (.node (o_27 P) (.node (o_43 P) (.node (o_75 P) .nil .nil) (.node (o_107 P) .nil .nil)) (.node (o_59 P) (.node (o_91 P) .nil .nil) .nil)))) (.node (o_5 P) (.node (o_9 P) (.node (o_17 P) (.node (o_33 P) (.node (o_65 P) .nil .nil) (.node (o_97 P) .nil .nil)) (.node (o_49 P) (.node (o_81 P) .nil .nil) (.node (o_113 P) .nil .nil))) (.node (o_25 P) (.node (o_41 P) (.node (o_73 P) .nil .nil) (.node (o_105 P) .nil .nil)) (.node (o_57 P) (.node (o_89 P) .nil .nil) .nil))) (.node (o_13 P) (.node (o_21 P) (.node (o_37 P) (.node (o_69 P) .nil .nil) (.node (o_101 P) .nil .nil)) (.node (o_53 P) (.node (o_85 P) .nil .nil) (.node (o_117 P) .nil .nil))) (.node (o_29 P) (.node (o_45 P) (.node (o_77 P) .nil .nil) (.node (o_109 P) .nil .nil)) (.node (o_61 P) (.node (o_93 P) .nil .nil) .nil))))) (.node (o_2 P) (.node (ob_4 P) (.node (o_8 P) (.node (o_16 P) (.node (o_32 P) (.node (o_64 P) .nil .nil) (.node (o_96 P) .nil .nil)) (.node (o_48 P) (.node (o_80 P) .nil .nil) (.node (o_112 P) .nil .nil))) (.node (o_24 P) (.node (o_40 P) (.node (o_72 P) .nil .nil) (.node (o_104 P) .nil .nil)) (.node (o_56 P) (.node (o_88 P) .nil .nil) .nil))) (.node (p12_7 P) (.node (o_20 P) (.node (o_36 P) (.node (o_68 P) .nil .nil) (.node (o_100 P) .nil .nil)) (.node (o_52 P) (.node (o_84 P) .nil .nil) (.node (o_116 P) .nil .nil))) (.node (o_28 P) (.node (o_44 P) (.node (o_76 P) .nil .nil) (.node (o_108 P) .nil .nil)) (.node (o_60 P) (.node (o_92 P) .nil .nil) .nil)))) (.node (o_6 P) (.node (o_10 P) (.node (o_18 P) (.node (o_34 P) (.node (o_66 P) .nil .nil) (.node (o_98 P) .nil .nil)) (.node (o_50 P) (.node (o_82 P) .nil .nil) (.node (o_114 P) .nil .nil))) (.node (o_26 P) (.node (o_42 P) (.node (o_74 P) .nil .nil) (.node (o_106 P) .nil .nil)) (.node (o_58 P) (.node (o_90 P) .nil .nil) .nil))) (.node (o_14 P) (.node (o_22 P) (.node (o_38 P) (.node (o_70 P) .nil .nil) (.node (o_102 P) .nil .nil)) (.node (o_54 P) (.node (o_86 P) .nil .nil) (.node (o_118 P) .nil .nil))) (.node (o_30 P) (.node (o_46 P) (.node (o_78 P) .nil .nil) (.node (o_110 P) .nil .nil)) (.node (o_62 P) (.node (o_94 P) .nil .nil) .nil))))))
noncomputable def p3_8 (P : Params) : Obj := { cls := Value.type "dict", data := Data.dict #[{ hash := PyData.keyHash P (Str.ofString "__name__"), key := Value.str (Str.ofString "__name__") 165, val := Value.str (Str.ofString "cpy313.stringprep") 328 }, { hash := PyData.keyHash P (Str.ofString "__doc__"), key := Value.str (Str.ofString "__doc__") 166, val := Value.none }, { hash := PyData.keyHash P (Str.ofString "__package__"), key := Value.str (Str.ofString "__package__") 167, val := Value.none }, { hash := PyData.keyHash P (Str.ofString "__loader__"), key := Value.str (Str.ofString "__loader__") 168, val := Value.builtin "__main__.__loader__#opaque" }, { hash := PyData.keyHash P (Str.ofString "__spec__"), key := Value.str (Str.ofString "__spec__") 169, val := Value.none }, { hash := PyData.keyHash P (Str.ofString "__annotations__"), key := Value.str (Str.ofString "__annotations__") 170, val := Value.ref 6 }, { hash := PyData.keyHash P (Str.ofString "__builtins__"), key := Value.str (Str.ofString "__builtins__") 171, val := Value.ref 4 }, { hash := PyData.keyHash P (Str.ofString "__file__"), key := Value.str (Str.ofString "__file__") 173, val := Value.str (Str.ofString "/claim/cut.py") 172 }, { hash := PyData.keyHash P (Str.ofString "__cached__"), key := Value.str (Str.ofString "__cached__") 174, val := Value.none }, { hash := PyData.keyHash P (Str.ofString "_wall"), key := Value.str (Str.ofString "_wall") 193, val := Value.ref 21 }, { hash := PyData.keyHash P (Str.ofString "EMPTYSTRING"), key := Value.str (Str.ofString "EMPTYSTRING") 197, val := Value.str (Str.ofString "") 196 }, { hash := PyData.keyHash P (Str.ofString "_Accumulator"), key := Value.str (Str.ofString "_Accumulator") 292, val := Value.ref 101 }, { hash := PyData.keyHash P (Str.ofString "rgb_to_hls"), key := Value.str (Str.ofString "rgb_to_hls") 313, val := Value.ref 112 }, { hash := PyData.keyHash P (Str.ofString "hsv_to_rgb"), key := Value.str (Str.ofString "hsv_to_rgb") 327, val := Value.ref 119 }, { hash := PyData.keyHash P (Str.ofString "b1_set"), key := Value.str (Str.ofString "b1_set") 389, val := Value.ref 127 }] 15 }
noncomputable def p12_8 (P : Params) : Obj := { cls := Value.none, data := Data.fields #[Value.int 1 0, Value.int 0 0, Value.ref 20, Value.int 6 0, Value.int 0 0, Value.ref 28, Value.int 38 0, Value.int 0 0, Value.ref 111, Value.int 61 0, Value.int 0 0, Value.ref 118] }
noncomputable def T8 (P : Params) : BT := (.node (ob_0 P) (.node (o_1 P) (.node (p3_8 P) (.node (o_7 P) (.node (o_15 P) (.node (o_31 P) (.node (o_63 P) (.node (o_127 P) .nil .nil) .nil) (.node (o_95 P) .nil .nil)) (.node (o_47 P) (.node (o_79 P) .nil .nil) (.node (o_111 P) .nil .nil))) (.node (o_23 P) (.node (o_39 P) (.node (o_71 P) .nil .nil) (.node (o_103 P) .nil .nil)) (.node (o_55 P) (.node (o_87 P) .nil .nil) (.node (o_119 P) .nil .nil)))) (.node (o_11 P) (.node (o_19 P) (.node (o_35 P) (.node (o_67 P) .nil .nil) (.node (o_99 P) .nil .nil)) (.node (o_51 P) (.node (o_83 P) .nil .nil) (.node (o_115 P) .nil .nil))) (.node (o_27 P) (.node (o_43 P) (.node (o_75 P) .nil .nil) (.node (o_107 P) .nil .nil)) (.node (o_59 P) (.node (o_91 P) .nil .nil) (.node (o_123 P) .nil .nil))))) (.node (o_5 P) (.node (o_9 P) (.node (o_17 P) (.node (o_33 P) (.node (o_65 P) (.node (o_129 P) .nil .nil) .nil) (.node (o_97 P) .nil .nil)) (.node (o_49 P) (.node (o_81 P) .nil .nil) (.node (o_113 P) .nil .nil))) (.node (o_25 P) (.node (o_41 P) (.node (o_73 P) .nil .nil) (.node (o_105 P) .nil .nil)) (.node (o_57 P) (.node (o_89 P) .nil .nil) (.node (o_121 P) .nil .nil)))) (.node (o_13 P) (.node (o_21 P) (.node (o_37 P) (.node (o_69 P) .nil .nil) (.node (o_101 P) .nil .nil)) (.node (o_53 P) (.node (o_85 P) .nil .nil) (.node (o_117 P) .nil .nil))) (.node (o_29 P) (.node (o_45 P) (.node (o_77 P) .nil .nil) (.node (o_109 P) .nil .nil)) (.node (o_61 P) (.node (o_93 P) .nil .nil) (.node (o_125 P) .nil .nil)))))) (.node (o_2 P) (.node (ob_4 P) (.node (o_8 P) (.node (o_16 P) (.node (o_32 P) (.node (o_64 P) (.node (o_128 P) .nil .nil) .nil) (.node (o_96 P) .nil .nil)) (.node (o_48 P) (.node (o_80 P) .nil .nil) (.node (o_112 P) .nil .nil))) (.node (o_24 P) (.node (o_40 P) (.node (o_72 P) .nil .nil) (.node (o_104 P) .nil .nil)) (.node (o_56 P) (.node (o_88 P) .nil .nil) (.node (o_120 P) .nil .nil)))) (.node (p12_8 P) (.node (o_20 P) (.node (o_36 P) (.node (o_68 P) .nil .nil) (.node (o_100 P) .nil .nil)) (.node (o_52 P) (.node (o_84 P) .nil .nil) (.node (o_116 P) .nil .nil))) (.node (o_28 P) (.node (o_44 P) (.node (o_76 P) .nil .nil) (.node (o_108 P) .nil .nil)) (.node (o_60 P) (.node (o_92 P) .nil .nil) (.node (o_124 P) .nil .nil))))) (.node (o_6 P) (.node (o_10 P) (.node (o_18 P) (.node (o_34 P) (.node (o_66 P) (.node (o_130 P) .nil .nil) .nil) (.node (o_98 P) .nil .nil)) (.node (o_50 P) (.node (o_82 P) .nil .nil) (.node (o_114 P) .nil .nil))) (.node (o_26 P) (.node (o_42 P) (.node (o_74 P) .nil .nil) (.node (o_106 P) .nil .nil)) (.node (o_58 P) (.node (o_90 P) .nil .nil) (.node (o_122 P) .nil .nil)))) (.node (o_14 P) (.node (o_22 P) (.node (o_38 P) (.node (o_70 P) .nil .nil) (.node (o_102 P) .nil .nil)) (.node (o_54 P) (.node (o_86 P) .nil .nil) (.node (o_118 P) .nil .nil))) (.node (o_30 P) (.node (o_46 P) (.node (o_78 P) .nil .nil) (.node (o_110 P) .nil .nil)) (.node (o_62 P) (.node (o_94 P) .nil .nil) (.node (o_126 P) .nil .nil)))))))
noncomputable def p3_9 (P : Params) : Obj := { cls := Value.type "dict", data := Data.dict #[{ hash := PyData.keyHash P (Str.ofString "__name__"), key := Value.str (Str.ofString "__name__") 165, val := Value.str (Str.ofString "cpy313.stringprep") 328 }, { hash := PyData.keyHash P (Str.ofString "__doc__"), key := Value.str (Str.ofString "__doc__") 166, val := Value.none }, { hash := PyData.keyHash P (Str.ofString "__package__"), key := Value.str (Str.ofString "__package__") 167, val := Value.none }, { hash := PyData.keyHash P (Str.ofString "__loader__"), key := Value.str (Str.ofString "__loader__") 168, val := Value.builtin "__main__.__loader__#opaque" }, { hash := PyData.keyHash P (Str.ofString "__spec__"), key := Value.str (Str.ofString "__spec__") 169, val := Value.none }, { hash := PyData.keyHash P (Str.ofString "__annotations__"), key := Value.str (Str.ofString "__annotations__") 170, val := Value.ref 6 }, { hash := PyData.keyHash P (Str.ofString "__builtins__"), key := Value.str (Str.ofString "__builtins__") 171, val := Value.ref 4 }, { hash := PyData.keyHash P (Str.ofString "__file__"), key := Value.str (Str.ofString "__file__") 173, val := Value.str (Str.ofString "/claim/cut.py") 172 }, { hash := PyData.keyHash P (Str.ofString "__cached__"), key := Value.str (Str.ofString "__cached__") 174, val := Value.none }, { hash := PyData.keyHash P (Str.ofString "_wall"), key := Value.str (Str.ofString "_wall") 193, val := Value.ref 21 }, { hash := PyData.keyHash P (Str.ofString "EMPTYSTRING"), key := Value.str (Str.ofString "EMPTYSTRING") 197, val := Value.str (Str.ofString "") 196 }, { hash := PyData.keyHash P (Str.ofString "_Accumulator"), key := Value.str (Str.ofString "_Accumulator") 292, val := Value.ref 101 }, { hash := PyData.keyHash P (Str.ofString "rgb_to_hls"), key := Value.str (Str.ofString "rgb_to_hls") 313, val := Value.ref 112 }, { hash := PyData.keyHash P (Str.ofString "hsv_to_rgb"), key := Value.str (Str.ofString "hsv_to_rgb") 327, val := Value.ref 119 }, { hash := PyData.keyHash P (Str.ofString "b1_set"), key := Value.str (Str.ofString "b1_set") 389, val := Value.ref 127 }, { hash := PyData.keyHash P (Str.ofString "in_table_b1"), key := Value.str (Str.ofString "in_table_b1") 396, val := Value.ref 137 }] 16 }
noncomputable def p12_9 (P : Params) : Obj := { cls := Value.none, data := Data.fields #[Value.int 1 0, Value.int 0 0, Value.ref 20, Value.int 6 0, Value.int 0 0, Value.ref 28, Value.int 38 0, Value.int 0 0, Value.ref 111, Value.int 61 0, Value.int 0 0, Value.ref 118, Value.int 84 0, Value.int 0 0, Value.ref 136] }
noncomputable def T9 (P : Params) : BT := (.node (ob_0 P) (.node (o_1 P) (.node (p3_9 P) (.node (o_7 P) (.node (o_15 P) (.node (o_31 P) (.node (o_63 P) (.node (o_127 P) .nil .nil) .nil) (.node (o_95 P) .nil .nil)) (.node (o_47 P) (.node (o_79 P) .nil .nil) (.node (o_111 P) .nil .nil))) (.node (o_23 P) (.node (o_39 P) (.node (o_71 P) (.node (o_135 P) .nil .nil) .nil) (.node (o_103 P) .nil .nil)) (.node (o_55 P) (.node (o_87 P) .nil .nil) (.node (o_119 P) .nil .nil)))) (.node (o_11 P) (.node (o_19 P) (.node (o_35 P) (.node (o_67 P) (.node (o_131 P) .nil .nil) .nil) (.node (o_99 P) .nil .nil)) (.node (o_51 P) (.node (o_83 P) .nil .nil) (.node (o_115 P) .nil .nil))) (.node (o_27 P) (.node (o_43 P) (.node (o_75 P) .nil .nil) (.node (o_107 P) .nil .nil)) (.node (o_59 P) (.node (o_91 P) .nil .nil) (.node (o_123 P) .nil .nil))))) (.node (o_5 P) (.node (o_9 P) (.node (o_17 P) (.node (o_33 P) (.node (o_65 P) (.node (o_129 P) .nil .nil) .nil) (.node (o_97 P) .nil .nil)) (.node (o_49 P) (.node (o_81 P) .nil .nil) (.node (o_113 P) .nil .nil))) (.node (o_25 P) (.node (o_41 P) (.node (o_73 P) (.node (o_137 P) .nil .nil) .nil) (.node (o_105 P) .nil .nil)) (.node (o_57 P) (.node (o_89 P) .nil .nil) (.node (o_121 P) .nil .nil)))) (.node (o_13 P) (.node (o_21 P) (.node (o_37 P) (.node (o_69 P) (.node (o_133 P) .nil .nil) .nil) (.node (o_101 P) .nil .nil)) (.node (o_53 P) (.node (o_85 P) .nil .nil) (.node (o_117 P) .nil .nil))) (.node (o_29 P) (.node (o_45 P) (.node (o_77 P) .nil .nil) (.node (o_109 P) .nil .nil)) (.node (o_61 P) (.node (o_93 P) .nil .nil) (.node (o_125 P) .nil .nil)))))) (.node (o_2 P) (.node (ob_4 P) (.node (o_8 P) (.node (o_16 P) (.node (o_32 P) (.node (o_64 P) (.node (o_128 P) .nil .nil) .nil) (.node (o_96 P) .nil .nil)) (.node (o_48 P) (.node (o_80 P) .nil .nil) (.node (o_112 P) .nil .nil))) (.node (o_24 P) (.node (o_40 P) (.node (o_72 P) (.node (o_136 P) .nil .nil) .nil) (.node (o_104 P) .nil .nil)) (.node (o_56 P) (.node (o_88 P) .nil .nil) (.node (o_120 P) .nil .nil)))) (.node (p12_9 P) (.node (o_20 P) (.node (o_36 P) (.node (o_68 P) (.node (o_132 P) .nil .nil) .nil) (.node (o_100 P) .nil .nil)) (.node (o_52 P) (.node (o_84 P) .nil .nil) (.node (o_116 P) .nil .nil))) (.node (o_28 P) (.node (o_44 P) (.node (o_76 P) .nil .nil) (.node (o_108 P) .nil .nil)) (.node (o_60 P) (.node (o_92 P) .nil .nil) (.node (o_124 P) .nil .nil))))) (.node (o_6 P) (.node (o_10 P) (.node (o_18 P) (.node (o_34 P) (.node (o_66 P) (.node (o_130 P) .nil .nil) .nil) (.node (o_98 P) .nil .nil)) (.node (o_50 P) (.node (o_82 P) .nil .nil) (.node (o_114 P) .nil .nil))) (.node (o_26 P) (.node (o_42 P) (.node (o_74 P) .nil .nil) (.node (o_106 P) .nil .nil)) (.node (o_58 P) (.node (o_90 P) .nil .nil) (.node (o_122 P) .nil .nil)))) (.node (o_14 P) (.node (o_22 P) (.node (o_38 P) (.node (o_70 P) (.node (o_134 P) .nil .nil) .nil) (.node (o_102 P) .nil .nil)) (.node (o_54 P) (.node (o_86 P) .nil .nil) (.node (o_118 P) .nil .nil))) (.node (o_30 P) (.node (o_46 P) (.node (o_78 P) .nil .nil) (.node (o_110 P) .nil .nil)) (.node (o_62 P) (.node (o_94 P) .nil .nil) (.node (o_126 P) .nil .nil)))))))
noncomputable def T10 (P : Params) (x : Nat → Obj) : BT := (.node (ob_0 P) (.node (o_1 P) (.node (p3_9 P) (.node (o_7 P) (.node (o_15 P) (.node (o_31 P) (.node (o_63 P) (.node (o_127 P) .nil .nil) .nil) (.node (o_95 P) (.node (x 159) .nil .nil) .nil)) (.node (o_47 P) (.node (o_79 P) (.node (x 143) .nil .nil) .nil) (.node (o_111 P) (.node (x 175) .nil .nil) .nil))) (.node (o_23 P) (.node (o_39 P) (.node (o_71 P) (.node (o_135 P) .nil .nil) .nil) (.node (o_103 P) (.node (x 167) .nil .nil) .nil)) (.node (o_55 P) (.node (o_87 P) (.node (x 151) .nil .nil) .nil) (.node (o_119 P) .nil .nil)))) (.node (o_11 P) (.node (o_19 P) (.node (o_35 P) (.node (o_67 P) (.node (o_131 P) .nil .nil) .nil) (.node (o_99 P) (.node (x 163) .nil .nil) .nil)) (.node (o_51 P) (.node (o_83 P) (.node (x 147) .nil .nil) .nil) (.node (o_115 P) .nil .nil))) (.node (o_27 P) (.node (o_43 P) (.node (o_75 P) (.node (x 139) .nil .nil) .nil) (.node (o_107 P) (.node (x 171) .nil .nil) .nil)) (.node (o_59 P) (.node (o_91 P) (.node (x 155) .nil .nil) .nil) (.node (o_123 P) .nil .nil))))) (.node (o_5 P) (.node (o_9 P) (.node (o_17 P) (.node (o_33 P) (.node (o_65 P) (.node (o_129 P) .nil .nil) .nil) (.node (o_97 P) (.node (x 161) .nil .nil) .nil)) (.node (o_49 P) (.node (o_81 P) (.node (x 145) .nil .nil) .nil) (.node (o_113 P) .nil .nil))) (.node (o_25 P) (.node (o_41 P) (.node (o_73 P) (.node (o_137 P) .nil .nil) .nil) (.node (o_105 P) (.node (x 169) .nil .nil) .nil)) (.node (o_57 P) (.node (o_89 P) (.node (x 153) .nil .nil) .nil) (.node (o_121 P) .nil .nil)))) (.node (o_13 P) (.node (o_21 P) (.node (o_37 P) (.node (o_69 P) (.node (o_133 P) .nil .nil) .nil) (.node (o_101 P) (.node (x 165) .nil .nil) .nil)) (.node (o_53 P) (.node (o_85 P) (.node (x 149) .nil .nil) .nil) (.node (o_117 P) .nil .nil))) (.node (o_29 P) (.node (o_45 P) (.node (o_77 P) (.node (x 141) .nil .nil) .nil) (.node (o_109 P) (.node (x 173) .nil .nil) .nil)) (.node (o_61 P) (.node (o_93 P) (.node (x 157) .nil .nil) .nil) (.node (o_125 P) .nil .nil)))))) (.node (o_2 P) (.node (ob_4 P) (.node (o_8 P) (.node (o_16 P) (.node (o_32 P) (.node (o_64 P) (.node (o_128 P) .nil .nil) .nil) (.node (o_96 P) (.node (x 160) .nil .nil) .nil)) (.node (o_48 P) (.node (o_80 P) (.node (x 144) .nil .nil) .nil) (.node (o_112 P) (.node (x 176) .nil .nil) .nil))) (.node (o_24 P) (.node (o_40 P) (.node (o_72 P) (.node (o_136 P) .nil .nil) .nil) (.node (o_104 P) (.node (x 168) .nil .nil) .nil)) (.node (o_56 P) (.node (o_88 P) (.node (x 152) .nil .nil) .nil) (.node (o_120 P) .nil .nil)))) (.node (p12_9 P) (.node (o_20 P) (.node (o_36 P) (.node (o_68 P) (.node (o_132 P) .nil .nil) .nil) (.node (o_100 P) (.node (x 164) .nil .nil) .nil)) (.node (o_52 P) (.node (o_84 P) (.node (x 148) .nil .nil) .nil) (.node (o_116 P) .nil .nil))) (.node (o_28 P) (.node (o_44 P) (.node (o_76 P) (.node (x 140) .nil .nil) .nil) (.node (o_108 P) (.node (x 172) .nil .nil) .nil)) (.node (o_60 P) (.node (o_92 P) (.node (x 156) .nil .nil) .nil) (.node (o_124 P) .nil .nil))))) (.node (o_6 P) (.node (o_10 P) (.node (o_18 P) (.node (o_34 P) (.node (o_66 P) (.node (o_130 P) .nil .nil) .nil) (.node (o_98 P) (.node (x 162) .nil .nil) .nil)) (.node (o_50 P) (.node (o_82 P) (.node (x 146) .nil .nil) .nil) (.node (o_114 P) .nil .nil))) (.node (o_26 P) (.node (o_42 P) (.node (o_74 P) (.node (x 138) .nil .nil) .nil) (.node (o_106 P) (.node (x 170) .nil .nil) .nil)) (.node (o_58 P) (.node (o_90 P) (.node (x 154) .nil .nil) .nil) (.node (o_122 P) .nil .nil)))) (.node (o_14 P) (.node (o_22 P) (.node (o_38 P) (.node (o_70 P) (.node (o_134 P) .nil .nil) .nil) (.node (o_102 P) (.node (x 166) .nil .nil) .nil)) (.node (o_54 P) (.node (o_86 P) (.node (x 150) .nil .nil) .nil) (.node (o_118 P) .nil .nil))) (.node (o_30 P) (.node (o_46 P) (.node (o_78 P) (.node (x 142) .nil .nil) .nil) (.node (o_110 P) (.node (x 174) .nil .nil) .nil)) (.node (o_62 P) (.node (o_94 P) (.node (x 158) .nil .nil) .nil) (.node (o_126 P) .nil .nil)))))))
noncomputable def T18 (P : Params) (x : Nat → Obj) : BT := (.node (ob_0 P) (.node (o_1 P) (.node (o_3 P) (.node (o_7 P) (.node (o_15 P) (.node (o_31 P) (.node (o_63 P) (.node (o_127 P) .nil .nil) (.node (o_191 P) .nil .nil)) (.node (o_95 P) (.node (x 159) .nil .nil) .nil)) (.node (o_47 P) (.node (o_79 P) (.node (x 143) .nil .nil) (.node (o_207 P) .nil .nil)) (.node (o_111 P) (.node (x 175) .nil .nil) .nil))) (.node (o_23 P) (.node (o_39 P) (.node (o_71 P) (.node (o_135 P) .nil .nil) (.node (o_199 P) .nil .nil)) (.node (o_103 P) (.node (x 167) .nil .nil) .nil)) (.node (o_55 P) (.node (o_87 P) (.node (x 151) .nil .nil) (.node (o_215 P) .nil .nil)) (.node (o_119 P) (.node (o_183 P) .nil .nil) .nil)))) (.node (o_11 P) (.node (o_19 P) (.node (o_35 P) (.node (o_67 P) (.node (o_131 P) .nil .nil) (.node (o_195 P) .nil .nil)) (.node (o_99 P) (.node (x 163) .nil .nil) .nil)) (.node (o_51 P) (.node (o_83 P) (.node (x 147) .nil .nil) (.node (o_211 P) .nil .nil)) (.node (o_115 P) (.node (o_179 P) .nil .nil) .nil))) (.node (o_27 P) (.node (o_43 P) (.node (o_75 P) (.node (x 139) .nil .nil) (.node (o_203 P) .nil .nil)) (.node (o_107 P) (.node (x 171) .nil .nil) .nil)) (.node (o_59 P) (.node (o_91 P) (.node (x 155) .nil .nil) (.node (o_219 P) .nil .nil)) (.node (o_123 P) (.node (o_187 P) .nil .nil) .nil))))) (.node (o_5 P) (.node (o_9 P) (.node (o_17 P) (.node (o_33 P) (.node (o_65 P) (.node (o_129 P) .nil .nil) (.node (o_193 P) .nil .nil)) (.node (o_97 P) (.node (x 161) .nil .nil) .nil)) (.node (o_49 P) (.node (o_81 P) (.node (x 145) .nil .nil) (.node (o_209 P) .nil .nil)) (.node (o_113 P) (.node (o_177 P) .nil .nil) .nil))) (.node (o_25 P) (.node (o_41 P) (.node (o_73 P) (.node (o_137 P) .nil .nil) (.node (o_201 P) .nil .nil)) (.node (o_105 P) (.node (x 169) .nil .nil) .nil)) (.node (o_57 P) (.node (o_89 P) (.node (x 153) .nil .nil) (.node (o_217 P) .nil .nil)) (.node (o_121 P) (.node (o_185 P) .nil .nil) .nil)))) (.node (o_13 P) (.node (o_21 P) (.node (o_37 P) (.node (o_69 P) (.node (o_133 P) .nil .nil) (.node (o_197 P) .nil .nil)) (.node (o_101 P) (.node (x 165) .nil .nil) .nil)) (.node (o_53 P) (.node (o_85 P) (.node (x 149) .nil .nil) (.node (o_213 P) .nil .nil)) (.node (o_117 P) (.node (o_181 P) .nil .nil) .nil))) (.node (o_29 P) (.node (o_45 P) (.node (o_77 P) (.node (x 141) .nil .nil) (.node (o_205 P) .nil .nil)) (.node (o_109 P) (.node (x 173) .nil .nil) .nil)) (.node (o_61 P) (.node (o_93 P) (.node (x 157) .nil .nil) .nil) (.node (o_125 P) (.node (o_189 P) .nil .nil) .nil)))))) (.node (o_2 P) (.node (ob_4 P) (.node (o_8 P) (.node (o_16 P) (.node (o_32 P) (.node (o_64 P) (.node (o_128 P) .nil .nil) (.node (o_192 P) .nil .nil)) (.node (o_96 P) (.node (x 160) .nil .nil) .nil)) (.node (o_48 P) (.node (o_80 P) (.node (x 144) .nil .nil) (.node (o_208 P) .nil .nil)) (.node (o_112 P) (.node (x 176) .nil .nil) .nil))) (.node (o_24 P) (.node (o_40 P) (.node (o_72 P) (.node (o_136 P) .nil .nil) (.node (o_200 P) .nil .nil)) (.node (o_104 P) (.node (x 168) .nil .nil) .nil)) (.node (o_56 P) (.node (o_88 P) (.node (x 152) .nil .nil) (.node (o_216 P) .nil .nil)) (.node (o_120 P) (.node (o_184 P) .nil .nil) .nil)))) (.node (o_12 P) (.node (o_20 P) (.node (o_36 P) (.node (o_68 P) (.node (o_132 P) .nil .nil) (.node (o_196 P) .nil .nil)) (.node (o_100 P) (.node (x 164) .nil .nil) .nil)) (.node (o_52 P) (.node (o_84 P) (.node (x 148) .nil .nil) (.node (o_212 P) .nil .nil)) (.node (o_116 P) (.node (o_180 P) .nil .nil) .nil))) (.node (o_28 P) (.node (o_44 P) (.node (o_76 P) (.node (x 140) .nil .nil) (.node (o_204 P) .nil .nil)) (.node (o_108 P) (.node (x 172) .nil .nil) .nil)) (.node (o_60 P) (.node (o_92 P) (.node (x 156) .nil .nil) .nil) (.node (o_124 P) (.node (o_188 P) .nil .nil) .nil))))) (.node (o_6 P) (.node (o_10 P) (.node (o_18 P) (.node (o_34 P) (.node (o_66 P) (.node (o_130 P) .nil .nil) (.node (o_194 P) .nil .nil)) (.node (o_98 P) (.node (x 162) .nil .nil) .nil)) (.node (o_50 P) (.node (o_82 P) (.node (x 146) .nil .nil) (.node (o_210 P) .nil .nil)) (.node (o_114 P) (.node (o_178 P) .nil .nil) .nil))) (.node (o_26 P) (.node (o_42 P) (.node (o_74 P) (.node (x 138) .nil .nil) (.node (o_202 P) .nil .nil)) (.node (o_106 P) (.node (x 170) .nil .nil) .nil)) (.node (o_58 P) (.node (o_90 P) (.node (x 154) .nil .nil) (.node (o_218 P) .nil .nil)) (.node (o_122 P) (.node (o_186 P) .nil .nil) .nil)))) (.node (o_14 P) (.node (o_22 P) (.node (o_38 P) (.node (o_70 P) (.node (o_134 P) .nil .nil) (.node (o_198 P) .nil .nil)) (.node (o_102 P) (.node (x 166) .nil .nil) .nil)) (.node (o_54 P) (.node (o_86 P) (.node (x 150) .nil .nil) (.node (o_214 P) .nil .nil)) (.node (o_118 P) (.node (o_182 P) .nil .nil) .nil))) (.node (o_30 P) (.node (o_46 P) (.node (o_78 P) (.node (x 142) .nil .nil) (.node (o_206 P) .nil .nil)) (.node (o_110 P) (.node (x 174) .nil .nil) .nil)) (.node (o_62 P) (.node (o_94 P) (.node (x 158) .nil .nil) .nil) (.node (o_126 P) (.node (o_190 P) .nil .nil) .nil)))))))
-- T0 size 15 138
noncomputable def TB (P : Params) : BT := (.node (boot_o_0 P) (.node (boot_o_1 P) (.node (boot_o_3 P) (.node (boot_o_7 P) .nil .nil) .nil) (.node (boot_o_5 P) (.node (boot_o_9 P) .nil .nil) .nil)) (.node (boot_o_2 P) (.node (boot_o_4 P) (.node (boot_o_8 P) .nil .nil) .nil) (.node (boot_o_6 P) (.node (boot_o_10 P) .nil .nil) .nil)))
noncomputable def T00 (P : Params) : BT := (.node (ob_0 P) (.node (o_1 P) (.node (p3_0 P) (.node (o_7 P) .nil .nil) (.node (o_11 P) .nil .nil)) (.node (o_5 P) (.node (o_9 P) .nil .nil) (.node (o_13 P) .nil .nil))) (.node (o_2 P) (.node (ob_4 P) (.node (o_8 P) .nil .nil) (.node (p12_0 P) .nil .nil)) (.node (o_6 P) (.node (o_10 P) .nil .nil) .nil)))
noncomputable def stmtsH : List Stmt := behindTheImports prog
noncomputable def envH : Env := { scope := prog.main.scope, locals := mainNs, globals := mainNs, cells := [], code := .ref 13, frame := some 14 }
noncomputable def codeH : Code := .body stmtsH envH
noncomputable abbrev baseH (q : Pos) : List Frame := [topFrame q]
noncomputable abbrev stH (T : BT) (n : Nat) (toks : Nat) (os : OsState) : SharedT := ⟨T, n, {}, #[], boot_drawn, toks, os⟩
end Mine
end
section
open PySem PySem.W PyProof.Rows
set_option Elab.async false
set_option maxRecDepth 100000
set_option linter.unusedVariables false
set_option maxHeartbeats 4000000
namespace Mine
theorem seg_a (w : World) (os : OsState) (q r : Pos) : runQ (stepT (denote treeTable) prog w) (denote treeTable) Thread.calm 1 60 (stH (T0 w.params) 15 187 os)
    ⟨(execs ((stmtsH.drop 0).take 3) envH).bind fun a => .pure (.done a), codeH, q, baseH r⟩ = some (.next, stH (T2 w.params) 22 198 os) := by
  show runQ (stepT (denote treeTable) PySem.Challenge.pw_tr0061_01 w) (denote treeTable) Thread.calm 1 60 (stH (T0 w.params) 15 187 os) _ = _
  rw [PySem.W.Fast.te10156331382660048174, PySem.W.Fast.te11892475500146522536, PySem.W.Fast.te14364793385576792824, PySem.W.Fast.te2348191978395082540, PySem.W.Fast.te12563942051412417395]
  kernel_rfl!
theorem seg_b (w : World) (os : OsState) (q r : Pos) : runQ (stepT (denote treeTable) prog w) (denote treeTable) Thread.calm 1 520 (stH (T2 w.params) 22 198 os)
    ⟨(execs ((stmtsH.drop 3).take 1) envH).bind fun a => .pure (.done a), codeH, q, baseH r⟩ = some (.next, stH (T3 w.params) 106 293 os) := by
  show runQ (stepT (denote treeTable) PySem.Challenge.pw_tr0061_01 w) (denote treeTable) Thread.calm 1 520 (stH (T2 w.params) 22 198 os) _ = _
  rw [PySem.W.Fast.te10156331382660048174, PySem.W.Fast.te11892475500146522536, PySem.W.Fast.te14364793385576792824, PySem.W.Fast.te2348191978395082540, PySem.W.Fast.te12563942051412417395]
  kernel_rfl!
theorem seg_c (w : World) (os : OsState) (q r : Pos) : runQ (stepT (denote treeTable) prog w) (denote treeTable) Thread.calm 1 120 (stH (T3 w.params) 106 293 os)
    ⟨(execs ((stmtsH.drop 4).take 4) envH).bind fun a => .pure (.done a), codeH, q, baseH r⟩ = some (.next, stH (T7 w.params) 120 330 os) := by
  show runQ (stepT (denote treeTable) PySem.Challenge.pw_tr0061_01 w) (denote treeTable) Thread.calm 1 120 (stH (T3 w.params) 106 293 os) _ = _
  rw [PySem.W.Fast.te10156331382660048174, PySem.W.Fast.te11892475500146522536, PySem.W.Fast.te14364793385576792824, PySem.W.Fast.te2348191978395082540, PySem.W.Fast.te12563942051412417395]
  kernel_rfl!
end Mine
end
section
open PySem PySem.W PyProof.Rows
set_option Elab.async false
set_option maxRecDepth 100000
set_option linter.unusedVariables false
set_option maxHeartbeats 800000
namespace Mine
noncomputable def eqNL : List Nat → List Nat → Bool
  | [], [] => true
  | a :: x, b :: y => match Nat.beq a b with | true => eqNL x y | false => false
  | _, _ => false
theorem eqNL_eq : ∀ {x y : List Nat}, eqNL x y = true → x = y
  | [], [], _ => rfl
  | a :: x, b :: y, h => by
    unfold eqNL at h
    cases e : Nat.beq a b with
    | false => rw [e] at h; cases h
    | true => rw [e] at h; rw [Nat.eq_of_beq_eq_true e, eqNL_eq h]
  | [], _ :: _, h => by cases h
  | _ :: _, [], h => by cases h
noncomputable def natOf : Int → Option Nat
  | .ofNat n => some n
  | _ => none
noncomputable def ivVal : Value → Option (Nat × Nat)
  | .int (.ofNat v) i => some (v, i)
  | _ => none
theorem natOf_eq {h : Int} {n : Nat} (e : natOf h = some n) : h = Int.ofNat n := by
  cases h with
  | ofNat m => cases Option.some.inj e; rfl
  | negSucc m => exact (none_some e rfl).elim
theorem ivVal_eq {v : Value} {p : Nat × Nat} (e : ivVal v = some p) : v = .int (Int.ofNat p.1) p.2 := by
  cases v with
  | int n i => cases n with
    | ofNat m => cases Option.some.inj e; rfl
    | negSucc m => exact (none_some e rfl).elim
  | _ => exact (none_some e rfl).elim
noncomputable def eqIV : List (Int × Value) → List (Nat × Nat) → Bool
  | [], [] => true
  | e :: x, p :: y => match natOf e.1 with
    | none => false
    | some h => match ivVal e.2 with
      | none => false
      | some q => Nat.beq h p.1 && (Nat.beq q.1 p.1 && (Nat.beq q.2 p.2 && eqIV x y))
  | _, _ => false
noncomputable def ivOf (l : List (Nat × Nat)) : List (Int × Value) := l.map fun p => (Int.ofNat p.1, Value.int (Int.ofNat p.1) p.2)
theorem eqIV_eq : ∀ {x : List (Int × Value)} {y : List (Nat × Nat)}, eqIV x y = true → x = ivOf y
  | [], [], _ => rfl
  | [], _ :: _, h => by cases h
  | _ :: _, [], h => by cases h
  | (hh, v) :: x, (a, b) :: y, h => by
    unfold eqIV at h
    cases e1 : natOf hh with
    | none => simp only [e1] at h; cases h
    | some n =>
    cases e2 : ivVal v with
    | none => simp only [e1, e2] at h; cases h
    | some q =>
      simp only [e1, e2, Bool.and_eq_true] at h
      obtain ⟨u1, u2, u3, u4⟩ := h
      rw [natOf_eq e1, ivVal_eq e2, eqIV_eq u4, Nat.eq_of_beq_eq_true u1, Nat.eq_of_beq_eq_true u2, Nat.eq_of_beq_eq_true u3]; rfl
noncomputable abbrev setIV : List (Nat × Nat) := [(65024, 346), (65025, 347), (65026, 348), (65027, 349), (65028, 350), (65029, 351), (6150, 332), (65030, 352), (65031, 353), (65032, 354), (65033, 355), (6155, 333), (6156, 334), (6157, 335), (8203, 336), (8204, 337), (8205, 338), (65034, 356), (65035, 357), (65036, 358), (65037, 359), (65038, 360), (65039, 361), (173, 330), (847, 331), (8288, 339), (65279, 340)]
noncomputable abbrev setPl : List Nat := [0, 1, 2, 3, 4, 5, 6, 7, 8, 9, 10, 11, 12, 13, 14, 15, 16, 17, 18, 19, 20, 21, 22, 45, 79, 96, 127]
noncomputable def chkO (led : Bool) : Obj → Bool
  | ⟨.type ty, none, .set a n t, sl⟩ => (match ty with | "set" => true | _ => false) && eqIV a.toList setIV && Nat.beq n 29 && Nat.beq t.mask 127 && eqNL t.place.toList setPl && eqNL t.dummies.toList [] && Nat.beq t.finger 0 && (match t.led, led with | true, true => true | false, false => true | _, _ => false) && Nat.beq t.moves 2 && t.plain && (match sl.toList with | [] => true | _ => false)
  | _ => false
theorem chkO_eq {led : Bool} {o : Obj} (h : chkO led o = true) : o = { cls := Value.type "set", data := Data.set (ivOf setIV).toArray 29 { mask := 127, place := setPl.toArray, dummies := #[], finger := 0, led := led, moves := 2, plain := true } } := by
  unfold chkO at h
  split at h
  · rename_i ty a n t sl
    simp only [Bool.and_eq_true] at h
    obtain ⟨⟨⟨⟨⟨⟨⟨⟨⟨⟨h1, h2⟩, h3⟩, h4⟩, h5⟩, h6⟩, h7⟩, h8⟩, h9⟩, h10⟩, h11⟩ := h
    have e1 : ty = "set" := by split at h1 <;> first | rfl | cases h1
    have e2 : a = (ivOf setIV).toArray := by rw [← eqIV_eq h2]
    have e5 : t.place = setPl.toArray := by rw [← eqNL_eq h5]
    have e6 : t.dummies = #[] := by have := eqNL_eq h6; simpa using this
    have e8 : t.led = led := by revert h8; cases t.led <;> cases led <;> simp
    have e11 : sl = #[] := by
      cases sl with | mk l => cases l with
        | nil => rfl
        | cons => cases h11
    obtain ⟨m, p, d, f, l, mv, pl⟩ := t
    dsimp only at *
    rw [e1, e2, e5, e6, e8, e11, Nat.eq_of_beq_eq_true h3, Nat.eq_of_beq_eq_true h4, Nat.eq_of_beq_eq_true h7, Nat.eq_of_beq_eq_true h9, h10]
  · cases h
noncomputable def chkR (led : Bool) (r : Option (Flow × SharedT)) : Bool := match r with
  | some (_, s) => match s.tree.get 127 with
    | some o => chkO led o
    | none => false
  | none => false
noncomputable def clr (s : SharedT) : SharedT := ⟨s.tree.set 127 fun _ => default, s.n, s.life, s.gens, s.drawn, s.toks, s.os⟩
theorem set_back {f : Obj → Obj} {o : Obj} : ∀ {t : BT} {a : Nat}, t.get a = some o → (t.set a f).set a (fun _ => o) = t
  | .nil, _, h => by cases h
  | .node v l r, a, h => by
    rw [BT.get_node] at h
    rw [BT.set_node]
    by_cases ha : a = 0
    · rw [if_pos ha] at h ⊢; cases h; rw [BT.set_node, if_pos ha]
    · rw [if_neg ha] at h ⊢
      by_cases hp : a % 2 = 1
      · rw [if_pos hp] at h ⊢; rw [BT.set_node, if_neg ha, if_pos hp, set_back h]
      · rw [if_neg hp] at h ⊢; rw [BT.set_node, if_neg ha, if_neg hp, set_back h]
noncomputable def pairR (led : Bool) (R : Option (Flow × SharedT)) : Bool × Option (Flow × SharedT) := (chkR led R, R.map fun r => (r.1, clr r.2))
theorem seg_d_false_false (w : World) (os : OsState) (q r : Pos) : pairR true (runQ (stepT (denote treeTable) prog ((w.withFollow "set-order" false).withFollow "special-get-raises" false)) (denote treeTable) Thread.calm 1 1010 (stH (T7 ((w.withFollow "set-order" false).withFollow "special-get-raises" false).params) 120 330 os) ⟨(execs ((stmtsH.drop 8).take 1) envH).bind fun a => .pure (.done a), codeH, q, baseH r⟩) = (true, some (.next, clr (stH (T8 ((w.withFollow "set-order" false).withFollow "special-get-raises" false).params) 131 390 os))) := by
  show pairR _ (runQ (stepT (denote treeTable) PySem.Challenge.pw_tr0061_01 _) (denote treeTable) Thread.calm 1 1010 (stH (T7 _) 120 330 os) _) = _
  rw [PySem.W.Fast.te10156331382660048174, PySem.W.Fast.te11892475500146522536, PySem.W.Fast.te14364793385576792824, PySem.W.Fast.te2348191978395082540, PySem.W.Fast.te12563942051412417395]
  kernel_rfl!
theorem seg_d_false_true (w : World) (os : OsState) (q r : Pos) : pairR true (runQ (stepT (denote treeTable) prog ((w.withFollow "set-order" false).withFollow "special-get-raises" true)) (denote treeTable) Thread.calm 1 1010 (stH (T7 ((w.withFollow "set-order" false).withFollow "special-get-raises" true).params) 120 330 os) ⟨(execs ((stmtsH.drop 8).take 1) envH).bind fun a => .pure (.done a), codeH, q, baseH r⟩) = (true, some (.next, clr (stH (T8 ((w.withFollow "set-order" false).withFollow "special-get-raises" true).params) 131 390 os))) := by
  show pairR _ (runQ (stepT (denote treeTable) PySem.Challenge.pw_tr0061_01 _) (denote treeTable) Thread.calm 1 1010 (stH (T7 _) 120 330 os) _) = _
  rw [PySem.W.Fast.te10156331382660048174, PySem.W.Fast.te11892475500146522536, PySem.W.Fast.te14364793385576792824, PySem.W.Fast.te2348191978395082540, PySem.W.Fast.te12563942051412417395]
  kernel_rfl!
theorem seg_d_true_false (w : World) (os : OsState) (q r : Pos) : pairR false (runQ (stepT (denote treeTable) prog ((w.withFollow "set-order" true).withFollow "special-get-raises" false)) (denote treeTable) Thread.calm 1 1010 (stH (T7 ((w.withFollow "set-order" true).withFollow "special-get-raises" false).params) 120 330 os) ⟨(execs ((stmtsH.drop 8).take 1) envH).bind fun a => .pure (.done a), codeH, q, baseH r⟩) = (true, some (.next, clr (stH (T8 ((w.withFollow "set-order" true).withFollow "special-get-raises" false).params) 131 390 os))) := by
  show pairR _ (runQ (stepT (denote treeTable) PySem.Challenge.pw_tr0061_01 _) (denote treeTable) Thread.calm 1 1010 (stH (T7 _) 120 330 os) _) = _
  rw [PySem.W.Fast.te10156331382660048174, PySem.W.Fast.te11892475500146522536, PySem.W.Fast.te14364793385576792824, PySem.W.Fast.te2348191978395082540, PySem.W.Fast.te12563942051412417395]
  kernel_rfl!
theorem seg_d_true_true (w : World) (os : OsState) (q r : Pos) : pairR false (runQ (stepT (denote treeTable) prog ((w.withFollow "set-order" true).withFollow "special-get-raises" true)) (denote treeTable) Thread.calm 1 1010 (stH (T7 ((w.withFollow "set-order" true).withFollow "special-get-raises" true).params) 120 330 os) ⟨(execs ((stmtsH.drop 8).take 1) envH).bind fun a => .pure (.done a), codeH, q, baseH r⟩) = (true, some (.next, clr (stH (T8 ((w.withFollow "set-order" true).withFollow "special-get-raises" true).params) 131 390 os))) := by
  show pairR _ (runQ (stepT (denote treeTable) PySem.Challenge.pw_tr0061_01 _) (denote treeTable) Thread.calm 1 1010 (stH (T7 _) 120 330 os) _) = _
  rw [PySem.W.Fast.te10156331382660048174, PySem.W.Fast.te11892475500146522536, PySem.W.Fast.te14364793385576792824, PySem.W.Fast.te2348191978395082540, PySem.W.Fast.te12563942051412417395]
  kernel_rfl!
theorem seg_d_fin {led : Bool} {R : Option (Flow × SharedT)} {T : BT} {n k : Nat} {os : OsState} (h1 : chkR led R = true) (h2 : R.map (fun r => (r.1, clr r.2)) = some (.next, clr (stH T n k os)))
    (h3 : T.get 127 = some { cls := Value.type "set", data := Data.set (ivOf setIV).toArray 29 { mask := 127, place := setPl.toArray, dummies := #[], finger := 0, led := led, moves := 2, plain := true } }) : R = some (.next, stH T n k os) := by
  cases R with
  | none => cases h2
  | some r =>
    obtain ⟨f, T', n', li, ge, dr, tk, os'⟩ := r
    simp only [Option.map_some, Option.some.injEq, Prod.mk.injEq, clr, SharedT.mk.injEq] at h2
    obtain ⟨rfl, e1, rfl, rfl, rfl, rfl, rfl, rfl⟩ := h2
    simp only [chkR] at h1
    split at h1
    · rename_i o ho
      have e := chkO_eq h1
      subst e
      have a := set_back (f := fun _ => default) ho
      rw [e1, set_back h3] at a
      rw [a]
    · cases h1
theorem seg_d_two {led : Bool} {R : Option (Flow × SharedT)} {T : BT} {n k : Nat} {os : OsState} (h : pairR led R = (true, some (.next, clr (stH T n k os))))
    (h3 : T.get 127 = some { cls := Value.type "set", data := Data.set (ivOf setIV).toArray 29 { mask := 127, place := setPl.toArray, dummies := #[], finger := 0, led := led, moves := 2, plain := true } }) : R = some (.next, stH T n k os) :=
  seg_d_fin (congrArg Prod.fst h) (congrArg Prod.snd h) h3
theorem seg_d (w : World) (os : OsState) (q r : Pos) : runQ (stepT (denote treeTable) prog (w)) (denote treeTable) Thread.calm 1 1010 (stH (T7 (w).params) 120 330 os) ⟨(execs ((stmtsH.drop 8).take 1) envH).bind fun a => .pure (.done a), codeH, q, baseH r⟩ = some (.next, stH (T8 w.params) 131 390 os) := by
  rw [← World.withFollow_self w "set-order"]
  generalize w.params.followText "set-order" = a
  rw [← World.withFollow_self (w.withFollow "set-order" a) "special-get-raises"]
  generalize (w.withFollow "set-order" a).params.followText "special-get-raises" = b
  cases a <;> cases b
  · exact seg_d_two (seg_d_false_false w os q r) (by kernel_rfl!)
  · exact seg_d_two (seg_d_false_true w os q r) (by kernel_rfl!)
  · exact seg_d_two (seg_d_true_false w os q r) (by kernel_rfl!)
  · exact seg_d_two (seg_d_true_true w os q r) (by kernel_rfl!)
theorem seg_e (w : World) (os : OsState) (q r : Pos) : runQ (stepT (denote treeTable) prog w) (denote treeTable) Thread.calm 1 40 (stH (T8 w.params) 131 390 os)
    ⟨(execs ((stmtsH.drop 9).take 1) envH).bind fun a => .pure (.done a), codeH, q, baseH r⟩ = some (.next, stH (T9 w.params) 138 397 os) := by
  show runQ (stepT (denote treeTable) PySem.Challenge.pw_tr0061_01 w) (denote treeTable) Thread.calm 1 40 (stH (T8 w.params) 131 390 os) _ = _
  rw [PySem.W.Fast.te10156331382660048174, PySem.W.Fast.te11892475500146522536, PySem.W.Fast.te14364793385576792824, PySem.W.Fast.te2348191978395082540, PySem.W.Fast.te12563942051412417395]
  kernel_rfl!
end Mine
end
section
open PySem PySem.W PyProof.Rows
set_option Elab.async false
set_option maxRecDepth 100000
set_option linter.unusedVariables false
set_option maxHeartbeats 4000000
namespace Mine
noncomputable def asTs : List Stmt → List PySem.Expr
  | .Assign t _ _ :: _ => t
  | _ => []
noncomputable def asV : List Stmt → PySem.Expr
  | .Assign _ v _ :: _ => v
  | _ => .Constant .none 0 default
noncomputable def asP : List Stmt → Pos
  | .Assign _ _ p :: _ => p
  | _ => default
theorem at10 : stmtsH.drop 10 = .Assign (asTs (stmtsH.drop 10)) (asV (stmtsH.drop 10)) (asP (stmtsH.drop 10)) :: stmtsH.drop 11 := by kernel_rfl!
theorem seg_f (w : World) (os : OsState) (q r : Pos) : runQ (stepT (denote treeTable) prog w) (denote treeTable) Thread.calm 1 40 (stH (T9 w.params) 138 397 os)
    ⟨(standAt (asP (stmtsH.drop 10)) >>= fun _ => swapsWithSole (asTs (stmtsH.drop 10)) (asV (stmtsH.drop 10)) (asP (stmtsH.drop 10)).line envH).bind fun a => .pure (.done (.ret (.bool a))), codeH, q, baseH r⟩ = some (.ret (.bool false), stH (T9 w.params) 138 397 os) := by
  show runQ (stepT (denote treeTable) PySem.Challenge.pw_tr0061_01 w) (denote treeTable) Thread.calm 1 40 (stH (T9 w.params) 138 397 os) _ = _
  rw [PySem.W.Fast.te10156331382660048174, PySem.W.Fast.te11892475500146522536, PySem.W.Fast.te14364793385576792824, PySem.W.Fast.te2348191978395082540, PySem.W.Fast.te7783108440312521181]
  kernel_rfl!
theorem seg_g (w : World) (os : OsState) (q r : Pos) (x : Nat → Obj) : runQ (stepT (denote treeTable) prog w) (denote treeTable) Thread.calm 1 400 (stH (T10 w.params x) 177 2347 os)
    ⟨(((swappedStores (asTs (stmtsH.drop 10)) (asV (stmtsH.drop 10)) envH).bind fun y => assignStores envH (.ref 138) y ((assignEach (asTs (stmtsH.drop 10)) envH).map (·.2))).bind fun f => match f with
      | .next => execs (stmtsH.drop 11) envH
      | f => pure f).bind fun a => .pure (.done a), codeH, q, baseH r⟩ = some (.next, stH (T18 w.params x) 220 2404 os) := by
  show runQ (stepT (denote treeTable) PySem.Challenge.pw_tr0061_01 w) (denote treeTable) Thread.calm 1 400 (stH (T10 w.params x) 177 2347 os) _ = _
  rw [PySem.W.Fast.te10156331382660048174, PySem.W.Fast.te11892475500146522536, PySem.W.Fast.te14364793385576792824, PySem.W.Fast.te2348191978395082540, PySem.W.Fast.te4016559146275205325, PySem.W.Fast.te2470068587113613483, PySem.W.Fast.te15628205474173192105, PySem.W.Fast.te12563942051412417395]
  kernel_rfl!
end Mine
end
section
open PySem PySem.W PyProof.Rows
set_option Elab.async false
set_option maxRecDepth 100000
set_option maxHeartbeats 4000000
set_option linter.unusedVariables false
namespace Mine
section
variable {prog : Program} {w : World} {K : Type} [DecidableEq K] {knd : PySem.KeyKind prog w K} {A : Around} {E : Value → Shared → Prop} {s : Shared}
theorem put_fresh {d : Addr} {kvs : List (K × Value)} {k : K} {key v : Value} {Q : Unit → Shared → Prop} (hkey : knd.is k key = true) (hm : s.heap.DictOf knd d kvs) (hf : k ∉ kvs.map (·.1)) (hsz : kvs.length ≤ sizeLine)
    (hQ : ∀ h', h'.DictOf knd d (kvs ++ [(k, v)]) → Heap.SameBut d s.heap h' → Q () { s with heap := h' }) : wpAny (model prog w) A (dictPut d (knd.hash k) key v) Q E s := by
  obtain ⟨o, es, ep, ho, hc, hd, hk, hp, hn⟩ := hm
  have hl : es.size = kvs.length := by rw [← hp.length]; simp
  unfold dictPut
  refine wpAny_bind (wpAny_dictFind_of hkey ho hd hk ?_)
  have hnone : (es.findIdx? fun e => knd.is k e.key) = none := by
    have e1 : (es.findIdx? fun e => knd.is k e.key) = kvs.findIdx? fun kv => decide (kv.1 = k) := by
      rw [← hp.findIdx k]; obtain ⟨l⟩ := es; simp
    rw [e1, List.findIdx?_eq_none_iff]
    intro x hx
    exact decide_eq_false fun q => hf (List.mem_map.mpr ⟨x, hx, q⟩)
  rw [hnone]
  refine wpAny_updateDictKeys ho hd (hQ _ ⟨_, _, ep + 1, Heap.get?_update_self _ ho (Obj.isFreed_of_dict (Obj.data_mapDictKeys hd _)), hc.mapDictKeys _, Obj.data_mapDictKeys hd _, hk.push hkey _, ?_, ?_⟩ (Heap.SameBut.update ..)) (by rw [hl]; exact hsz) (by simp)
  · have := hp.append hkey (knd.hash k) v
    obtain ⟨l⟩ := es
    simpa using this
  · rw [List.map_append, List.nodup_append]
    refine ⟨hn, by simp, fun a ha b hb => ?_⟩
    simp only [List.map_cons, List.map_nil, List.mem_singleton] at hb
    subst hb
    exact fun e => hf (e ▸ ha)
theorem sub_split {n i : Nat} (h : i < n) : n - i = (n - (i + 1)) + 1 := by omega
theorem merge_fresh {d a : Addr} {kvs more : List (K × Value)} {Q : Unit → Shared → Prop} (hda : d ≠ a) (haS : (a == sysModules) = false) (hd : s.heap.DictOf knd d kvs) (ha : s.heap.DictOf knd a more) (hne : kvs ≠ [])
    (hnd : ((kvs ++ more).map (·.1)).Nodup) (hsz : kvs.length + more.length ≤ sizeLine)
    (hQ : ∀ h', h'.DictOf knd d (kvs ++ more) → Heap.SameBut d s.heap h' → Q () { s with heap := h' }) : wpAny (model prog w) A (mergeMapping d (.ref a) false) Q E s := by
  obtain ⟨od, esd, epd, hod, hcd, hdd, hkd, hpd, hnd'⟩ := id hd
  obtain ⟨oa, esa, epa, hoa, hca, hda', hka, hpa, hna⟩ := id ha
  have hlen : more.length = esa.size := by rw [← hpa.length]; simp
  unfold mergeMapping
  refine wpAny_bind (wpAny_isInstance ha.typeIs isSubtype_dict_dict ?_)
  dsimp only
  rw [if_pos rfl]
  refine wpAny_bind (wpAny_specialOf ha.typeIs F.slot_dict_iter.lookup ?_)
  refine wpAny_bind (wpAny_pure ?_)
  show wpAny _ _ (if (a == sysModules) = true then _ else _) _ _ _
  rw [if_neg (by rw [haS]; exact Bool.false_ne_true)]
  refine wpAny_bind (wpAny_dictEntries hod hdd ?_)
  have hemp : esd.isEmpty = false := by
    rw [Bool.eq_false_iff]
    intro q
    have h0 : esd = #[] := Array.isEmpty_iff.mp q
    have := hpd.length; rw [h0] at this; exact hne (List.length_eq_zero_iff.mp (by simpa using this.symm))
  rw [if_neg (by rw [hemp]; exact Bool.false_ne_true)]
  refine wpAny_bind (wpAny_dictEntries hoa hda' ?_)
  refine wpAny_bind (wpAny_dictEpoch hoa hda' ?_)
  refine wpAny_bind ?_
  refine wpAny_forIn_list _ (fun rest _ s' => ∃ h' i, s' = { s with heap := h' } ∧ rest = List.range' i (esa.size - i) ∧ i ≤ esa.size ∧ h'.DictOf knd d (kvs ++ more.take i) ∧ h'.get? a = some oa ∧ Heap.SameBut d s.heap h')
    _ ?_ ?_ _ _ ⟨s.heap, 0, rfl, by simp [List.range_eq_range'], Nat.zero_le _, by simpa using hd, hoa, Heap.SameBut.refl _ _⟩
  · rintro x rest b s' ⟨h', i, rfl, hr, hi, hd', hoa', hs'⟩
    have hlt : i < esa.size := by
      rcases Nat.lt_or_ge i esa.size with h | h
      · exact h
      · rw [Nat.sub_eq_zero_of_le h] at hr; simp at hr
    obtain ⟨rfl, hrest⟩ : x = i ∧ rest = List.range' (i + 1) (esa.size - (i + 1)) := by
      have e := sub_split hlt
      rw [e, List.range'_succ] at hr
      injection hr with h1 h2
      exact ⟨h1, h2⟩
    refine wpAny_bind (wpAny_dictEntries hoa' hda' ?_)
    rw [Array.getElem?_eq_getElem hlt]
    obtain ⟨kv, hkv⟩ : ∃ kv, more[x]? = some kv := ⟨more[x]'(by rw [hlen]; exact hlt), List.getElem?_eq_getElem _⟩
    obtain ⟨k, v⟩ := kv
    obtain ⟨hkey, hval⟩ := hpa.get? (e := esa[x]) (by simp [hlt]) hkv
    obtain ⟨k', hkey', hhash⟩ := hka esa[x] (Array.getElem_mem hlt)
    obtain rfl : k' = k := knd.inj _ _ _ hkey' hkey
    have hsplit : more.take (x + 1) = more.take x ++ [(k', v)] := by simp [List.take_add_one, hkv]
    have hfr : k' ∉ (kvs ++ more.take x).map (·.1) := by
      have h2 : ((kvs ++ more.take (x + 1)).map (·.1)).Nodup := by
        refine List.Nodup.sublist (List.Sublist.map _ ?_) hnd
        exact List.Sublist.append (List.Sublist.refl _) (List.take_sublist _ _)
      rw [hsplit, ← List.append_assoc, List.map_append, List.nodup_append] at h2
      intro q
      exact h2.2.2 k' q k' (by simp) rfl
    have hz : (kvs ++ more.take x).length ≤ sizeLine := by
      rw [List.length_append, List.length_take]; omega
    dsimp only
    refine wpAny_bind (wpAny_holding ?_)
    rw [if_neg Bool.false_ne_true]
    rw [hhash, hval]
    refine put_fresh hkey hd' hfr hz fun h'' hd'' hs'' => ?_
    have hoa'' : h''.get? a = some oa := (hs''.2 a (Ne.symm hda)).trans hoa'
    refine wpAny_bind (wpAny_dictEpoch hoa'' hda' ?_)
    rw [if_neg (by simp)]
    exact wpAny_pure ⟨h'', x + 1, rfl, hrest, hlt, by rw [hsplit, ← List.append_assoc]; exact hd'', hoa'', hs'.trans hs''⟩
  · rintro b s' ⟨h', i, rfl, hr, hi, hd', hoa', hs'⟩
    have hin : i = esa.size := by
      rcases Nat.lt_or_ge i esa.size with h | h
      · have e := sub_split h
        rw [e, List.range'_succ] at hr; exact nomatch hr
      · exact Nat.le_antisymm hi h
    rw [hin, ← hlen, List.take_length] at hd'
    exact wpAny_pure (hQ h' hd' hs')
end
end Mine
end
section
open PySem PySem.W PyProof.Rows
set_option Elab.async false
set_option maxRecDepth 100000
set_option maxHeartbeats 4000000
set_option linter.unusedVariables false
namespace Mine
noncomputable def Good1 (prog : Program) (w : World) (p : Sem Value × Sem Value) (x : Int × Str) : Prop :=
  (∀ (A : Around) (E : Value → Shared → Prop) (s : Shared) (Q : Value → Shared → Prop), Q (.int x.1 s.toks) { s with toks := s.toks + 1 } → wpAny (model prog w) A p.1 Q E s) ∧
  (∀ (A : Around) (E : Value → Shared → Prop) (s : Shared) (Q : Value → Shared → Prop), Q (.str x.2 s.toks) { s with toks := s.toks + 1 } → wpAny (model prog w) A p.2 Q E s)
noncomputable def Fit (prog : Program) (w : World) : List (Sem Value × Sem Value) → List (Int × Str) → Prop
  | [], [] => True
  | p :: ps, x :: xs => Good1 prog w p x ∧ Fit prog w ps xs
  | _, _ => False
noncomputable def Vals : List (Int × Value) → List (Int × Str) → Prop
  | [], [] => True
  | (k, v) :: a, (i, x) :: b => k = i ∧ (∃ t, v = .str x t) ∧ Vals a b
  | _, _ => False
theorem Fit.length {prog : Program} {w : World} : ∀ {ps : List (Sem Value × Sem Value)} {xs : List (Int × Str)}, Fit prog w ps xs → ps.length = xs.length
  | [], [], _ => rfl
  | _ :: _, _ :: _, h => by rw [List.length_cons, List.length_cons, Fit.length h.2]
  | [], _ :: _, h => h.elim
  | _ :: _, [], h => h.elim
theorem Fit.app {prog : Program} {w : World} : ∀ {ps qs : List (Sem Value × Sem Value)} {xs ys : List (Int × Str)}, Fit prog w ps xs → Fit prog w qs ys → Fit prog w (ps ++ qs) (xs ++ ys)
  | [], _, [], _, _, h => h
  | _ :: _, _, _ :: _, _, h, g => ⟨h.1, Fit.app h.2 g⟩
  | [], _, _ :: _, _, h, _ => h.elim
  | _ :: _, _, [], _, h, _ => h.elim
theorem Vals.app : ∀ {a c : List (Int × Value)} {b d : List (Int × Str)}, Vals a b → Vals c d → Vals (a ++ c) (b ++ d)
  | [], _, [], _, _, h => h
  | (_, _) :: _, _, (_, _) :: _, _, h, g => ⟨h.1, h.2.1, Vals.app h.2.2 g⟩
  | [], _, _ :: _, _, h, _ => h.elim
  | (_, _) :: _, _, [], _, h, _ => h.elim
theorem Vals.keys : ∀ {a : List (Int × Value)} {b : List (Int × Str)}, Vals a b → a.map (·.1) = b.map (·.1)
  | [], [], _ => rfl
  | (k, v) :: a, (i, x) :: b, h => by rw [List.map_cons, List.map_cons, Vals.keys h.2.2, h.1]
  | [], _ :: _, h => h.elim
  | (_, _) :: _, [], h => h.elim
theorem Vals.length {a : List (Int × Value)} {b : List (Int × Str)} (h : Vals a b) : a.length = b.length := by
  have := congrArg List.length h.keys
  simpa using this
theorem Vals.ne {a : List (Int × Value)} {b : List (Int × Str)} (h : Vals a b) (hb : b ≠ []) : a ≠ [] := by
  rintro rfl
  exact hb (List.length_eq_zero_iff.mp h.length.symm)
section
variable {prog : Program} {w : World} {A : Around} {E : Value → Shared → Prop}
theorem isInt_self (i : Int) (t : Tok) : (intKind prog w).is i (.int i t) = true := by
  show Value.isInt i (.int i t) = true
  simp [Value.isInt]
theorem stored_fresh {acc : List (Int × Value)} {k : Int} {v : Value} (h : k ∉ acc.map (·.1)) (hn : (acc.map (·.1)).Nodup) : stored acc k v = acc ++ [(k, v)] := by
  have := merged_append_of_fresh acc [(k, v)] (by
    rw [List.map_append, List.nodup_append]
    refine ⟨hn, by simp, fun a ha b hb => ?_⟩
    simp only [List.map_cons, List.map_nil, List.mem_singleton] at hb
    subst hb
    exact fun e => h (e ▸ ha))
  simpa [merged] using this
theorem sub_loop {d : Addr} : ∀ (ps : List (Sem Value × Sem Value)) (L : List (Int × Str)) (acc : List (Int × Value)) (s : Shared) (Q : PUnit → Shared → Prop), Fit prog w ps L → s.heap.DictOf (intKind prog w) d acc →
    (acc.map (·.1) ++ L.map (·.1)).Nodup → acc.length + L.length ≤ sizeLine →
    (∀ h' kvs, Vals kvs L → h'.DictOf (intKind prog w) d (acc ++ kvs) → Heap.SameBut d s.heap h' → Q PUnit.unit { s with heap := h', toks := s.toks + 3 * L.length }) →
    wpAny (model prog w) A (forIn ps PUnit.unit fun (x : Sem Value × Sem Value) (_ : PUnit) => (do
      let kv ← x.1
      let vv ← holding [kv] x.2
      holding [kv, vv] (dictSet d kv vv)
      pure (ForInStep.yield PUnit.unit) : Sem (ForInStep PUnit))) Q E s
  | [], [], acc, s, Q, _, hm, _, _, hQ => by
    rw [List.forIn_nil]
    exact wpAny_pure (hQ s.heap [] trivial (by simpa using hm) (Heap.SameBut.refl _ _))
  | p :: ps, (i, x) :: L, acc, s, Q, hf, hm, hn, hz, hQ => by
    obtain ⟨⟨g1, g2⟩, hf⟩ := hf
    rw [List.map_cons] at hn
    rw [List.length_cons] at hz
    have hn' : i ∉ acc.map (·.1) := fun q => by
      rw [List.nodup_append] at hn
      exact hn.2.2 i q i (by simp) rfl
    have hna : (acc.map (·.1)).Nodup := (List.nodup_append.mp hn).1
    rw [List.forIn_cons]
    refine wpAny_bind (wpAny_bind (g1 _ _ _ _ ?_))
    refine wpAny_bind (wpAny_holding (g2 _ _ _ _ ?_))
    refine wpAny_bind (wpAny_holding (wpAny_dictSet_pairs (knd := intKind prog w) (k := i) (hsz := by omega) (isInt_self i _) hm fun h₁ hm₁ hs₁ => wpAny_pure ?_))
    dsimp only
    rw [stored_fresh hn' hna] at hm₁
    refine sub_loop ps L _ _ Q hf hm₁ (by rw [List.map_append]; simpa using hn) (by rw [List.length_append]; simp; omega) fun h' kvs hv hd hs => ?_
    have := hQ h' ((i, _) :: kvs) ⟨rfl, ⟨_, rfl⟩, hv⟩ (by simpa using hd) (hs₁.trans hs)
    rw [show s.toks + 3 * ((i, x) :: L).length = s.toks + 1 + 1 + 1 + 3 * L.length by rw [List.length_cons]; omega] at this
    exact this
  | [], _ :: _, _, _, _, h, _, _, _, _ => h.elim
  | _ :: _, [], _, _, _, h, _, _, _, _ => h.elim
theorem evalPairs_fit : ∀ (ps : List (Sem Value × Sem Value)) (L : List (Int × Str)) (s : Shared) (Q : List (Value × Value) → Shared → Prop), Fit prog w ps L →
    (∀ vs kvs, Vals kvs L → Carries (intKind prog w) vs kvs → vs.length = L.length → Q vs { s with toks := s.toks + 2 * L.length }) → wpAny (model prog w) A (evalPairs ps) Q E s
  | [], [], s, Q, _, hQ => evalPairs_nil (hQ [] [] trivial trivial rfl)
  | p :: ps, (i, x) :: L, s, Q, hf, hQ => by
    obtain ⟨⟨g1, g2⟩, hf⟩ := hf
    refine evalPairs_cons (k := p.1) (v := p.2) (g1 _ _ _ _ (g2 _ _ _ _ (evalPairs_fit ps L _ _ hf fun vs kvs hv hc hl => ?_)))
    have := hQ ((.int i s.toks, .str x (s.toks + 1)) :: vs) ((i, .str x (s.toks + 1)) :: kvs) ⟨rfl, ⟨_, rfl⟩, hv⟩ ⟨isInt_self i _, rfl, hc⟩ (by rw [List.length_cons, List.length_cons, hl])
    rw [show s.toks + 2 * ((i, x) :: L).length = s.toks + 1 + 1 + 2 * L.length by rw [List.length_cons]; omega] at this
    exact this
  | [], _ :: _, _, _, h, _ => h.elim
  | _ :: _, [], _, _, h, _ => h.elim
theorem dict_new (h : Heap) (d : Addr) (e : d = h.objs.size) : (h.push { cls := .type "dict", data := .dict #[] }).DictOf (intKind prog w) d [] := by
  subst e
  exact Heap.DictOf.new h
theorem sub_wp {ps : List (Sem Value × Sem Value)} {L : List (Int × Str)} {s : Shared} {Q : Addr → Shared → Prop} (hf : Fit prog w ps L) (hn : (L.map (·.1)).Nodup) (hz : L.length ≤ sizeLine)
    (hQ : ∀ h' kvs, Vals kvs L → h'.DictOf (intKind prog w) s.heap.objs.size kvs → h'.objs.size = s.heap.objs.size + 1 → (∀ b, b < s.heap.objs.size → h'.get? b = s.heap.get? b) →
      Q s.heap.objs.size { s with heap := h', toks := s.toks + 3 * L.length }) : wpAny (model prog w) A (subDict ps) Q E s := by
  have hsz : (s.heap.push { cls := .type "dict", data := .dict #[] }).objs.size = s.heap.objs.size + 1 := by simp [Heap.push]
  have hold : ∀ b, b < s.heap.objs.size → (s.heap.push { cls := .type "dict", data := .dict #[] }).get? b = s.heap.get? b := fun b hb => by
    unfold Heap.get? Heap.push
    simp only [Array.getElem?_push, Nat.ne_of_lt hb, if_false]
  by_cases hl : ps.length ≤ 15
  · refine wpAny_subDict (knd := intKind prog w) hl (evalPairs_fit ps L _ _ hf fun vs kvs hv hc hvl => ⟨kvs, hc, dict_new _ _ rfl, fun h' hm hs => ?_⟩)
    rw [merged_nil_of_nodup kvs (by rw [hv.keys]; exact hn)] at hm
    have := hQ h' kvs hv hm (hs.1.trans hsz) fun b hb => (hs.2 b (Nat.ne_of_lt hb)).trans (hold b hb)
    rw [show s.toks + 3 * L.length = s.toks + 2 * L.length + vs.length by omega] at this
    exact this
  · unfold subDict
    refine wpAny_bind (wpAny_alloc ?_)
    refine wpAny_bind (wpAny_holding ?_)
    rw [if_neg hl]
    refine wpAny_bind (wpAny_rule ?_)
    refine wpAny_bind (sub_loop ps L [] _ _ hf (dict_new _ _ rfl) (by simpa using hn) (by simpa using hz) fun h' kvs hv hd hs => ?_)
    refine wpAny_pure (wpAny_pure ?_)
    exact hQ h' kvs hv (by simpa using hd) (hs.1.trans hsz) fun b hb => (hs.2 b (Nat.ne_of_lt hb)).trans (hold b hb)
/-- where a display stands: the first `done` pairs are in, `c` objects are new -/
noncomputable def Disp (prog : Program) (w : World) (s₀ : Shared) (main : Option Addr) (Ld : List (Int × Str)) (c : Nat) (s' : Shared) : Prop :=
  match main with
  | none => Ld = [] ∧ s' = s₀ ∧ c = 0
  | some d => d = s₀.heap.objs.size ∧ Ld ≠ [] ∧ ∃ h' kvs, s' = { s₀ with heap := h', toks := s₀.toks + 3 * Ld.length } ∧ Vals kvs Ld ∧ h'.DictOf (intKind prog w) d kvs ∧
      h'.objs.size = s₀.heap.objs.size + c ∧ s₀.heap.objs.size < h'.objs.size ∧ ∀ b, b < s₀.heap.objs.size → h'.get? b = s₀.heap.get? b
theorem flush_wp {s₀ s' : Shared} {main : Option Addr} {run : List (Sem Value × Sem Value)} {Ld Lr : List (Int × Str)} {c : Nat} {Q : Option Addr → Shared → Prop} (hS : sysModules < s₀.heap.objs.size) (hD : Disp prog w s₀ main Ld c s')
    (hr : run ≠ []) (hf : Fit prog w run Lr) (hn : ((Ld ++ Lr).map (·.1)).Nodup) (hz : (Ld ++ Lr).length ≤ sizeLine)
    (hQ : ∀ s'', Disp prog w s₀ (some s₀.heap.objs.size) (Ld ++ Lr) (c + 1) s'' → Q (some s₀.heap.objs.size) s'') :
    wpAny (model prog w) A (if run.isEmpty = true then pure main else match main with
      | none => do
        let a ← subDict run
        pure (some a)
      | some d => do
        let sub ← holding [.ref d] (subDict run)
        (holding [.ref d, .ref sub] (mergeMapping d (.ref sub) false)).onRaise fun x => do
          let _ ← holding [.ref d, x] (runValue (.builtin "proto.let_go" {}))
          pure ()
        pure (some d)) Q E s' := by
  have hLr : Lr ≠ [] := fun e => hr (List.length_eq_zero_iff.mp (by rw [hf.length, e]; rfl))
  rw [if_neg (by simpa using hr)]
  rw [List.map_append, List.nodup_append] at hn
  rw [List.length_append] at hz
  cases main with
  | none =>
    obtain ⟨rfl, rfl, rfl⟩ := hD
    refine wpAny_bind (sub_wp hf hn.2.1 (by omega) fun h' kvs hv hd hsz hold => wpAny_pure (hQ _ ⟨rfl, by simpa using hLr, h', kvs, by rw [List.nil_append], by rw [List.nil_append]; exact hv, hd, hsz, by omega, hold⟩))
  | some d =>
    obtain ⟨rfl, hLd, h₁, kvs, rfl, hv, hd, hsz, hlt, hold⟩ := hD
    refine wpAny_bind (wpAny_holding (sub_wp hf hn.2.1 (by omega) fun h₂ more hv₂ hd₂ hsz₂ hold₂ => ?_))
    dsimp only at hsz₂ hold₂ hd₂ ⊢
    have hd' : h₂.DictOf (intKind prog w) s₀.heap.objs.size kvs := by
      obtain ⟨o, es, ep, a1, a2⟩ := hd
      exact ⟨o, es, ep, (hold₂ _ hlt).trans a1, a2⟩
    have hss : (h₁.objs.size == sysModules) = false := beq_eq_false_iff_ne.mpr (Nat.ne_of_gt (Nat.lt_trans hS hlt))
    refine wpAny_bind (wpAny_onRaise (wpAny_holding (merge_fresh (s := { heap := h₂, gens := s₀.gens, drawn := s₀.drawn, toks := s₀.toks + 3 * Ld.length + 3 * Lr.length, os := s₀.os }) (Nat.ne_of_lt hlt) hss hd' hd₂ (hv.ne hLd) ?_ ?_ fun h₃ hd₃ hs₃ => ?_)))
    · rw [List.map_append, hv.keys, hv₂.keys, List.nodup_append]; exact hn
    · rw [hv.length, hv₂.length]; omega
    · refine wpAny_pure (hQ _ ⟨rfl, by simp [hLd], h₃, kvs ++ more, ?_, hv.app hv₂, hd₃, ?_, ?_, fun b hb => ?_⟩)
      · rw [List.length_append, Nat.mul_add, ← Nat.add_assoc]
      · rw [hs₃.1, hsz₂, hsz]; omega
      · rw [hs₃.1, hsz₂]; omega
      · rw [hs₃.2 b (Nat.ne_of_lt hb), hold₂ b (by omega), hold b hb]
theorem display_wp {items : List (Option (Sem Value) × Sem Value)} {ps : List (Sem Value × Sem Value)} {L : List (Int × Str)} {s : Shared} {Q : Value → Shared → Prop} (hi : items = ps.map fun p => (some p.1, p.2)) (hS : sysModules < s.heap.objs.size)
    (hf : Fit prog w ps L) (hn : (L.map (·.1)).Nodup) (hz : L.length ≤ sizeLine) (hr : L.length % 17 ≠ 0)
    (hQ : ∀ h' kvs, Vals kvs L → h'.DictOf (intKind prog w) s.heap.objs.size kvs → h'.objs.size = s.heap.objs.size + (L.length / 17 + 1) → (∀ b, b < s.heap.objs.size → h'.get? b = s.heap.get? b) →
      Q (.ref s.heap.objs.size) { s with heap := h', toks := s.toks + 3 * L.length }) : wpAny (model prog w) A (dictDisplay items) Q E s := by
  subst hi
  unfold dictDisplay
  dsimp only
  refine wpAny_bind ?_
  refine wpAny_forIn_list _ (fun rest b s' => ∃ prest Ld Lr Lrest, rest = prest.map (fun p => (some p.1, p.2)) ∧ L = Ld ++ Lr ++ Lrest ∧ Fit prog w prest Lrest ∧ Fit prog w b.2 Lr ∧ b.2.length < 17 ∧ Ld.length % 17 = 0 ∧ Disp prog w s b.1 Ld (Ld.length / 17) s')
    _ ?_ ?_ _ _ ⟨ps, [], [], L, rfl, rfl, hf, (by show Fit prog w [] []; trivial), by simp, rfl, (by show Disp prog w s none [] 0 s; exact ⟨rfl, rfl, rfl⟩)⟩
  · rintro x rest ⟨main, run⟩ s' ⟨prest, Ld, Lr, Lrest, hrest, hL, hfr, hfn, hlt, hmod, hD⟩
    cases prest with
    | nil => cases hrest
    | cons p prest =>
      cases Lrest with
      | nil => exact hfr.elim
      | cons y Lrest =>
        rw [List.map_cons] at hrest
        obtain ⟨rfl, rfl⟩ := List.cons.inj hrest
        dsimp only at hfn hlt hD ⊢
        have hfn' : Fit prog w (run ++ [(p.1, p.2)]) (Lr ++ [y]) := hfn.app ⟨hfr.1, trivial⟩
        have hL' : L = Ld ++ (Lr ++ [y]) ++ Lrest := by rw [hL]; simp
        by_cases h17 : (run ++ [(p.1, p.2)]).length = 17
        · rw [if_pos (by simpa using h17)]
          have hl17 : (Lr ++ [y]).length = 17 := by rw [← hfn'.length]; exact h17
          refine wpAny_bind (flush_wp (c := Ld.length / 17) hS hD (by simp) hfn' ?_ ?_ fun s'' hD' => wpAny_pure ?_)
          · rw [hL', List.map_append, List.nodup_append] at hn; exact hn.1
          · rw [hL', List.length_append] at hz; omega
          · refine ⟨prest, Ld ++ (Lr ++ [y]), [], Lrest, rfl, by rw [hL']; simp, hfr.2, trivial, by simp, ?_, ?_⟩
            · rw [List.length_append, hl17]; omega
            · rw [show (Ld ++ (Lr ++ [y])).length / 17 = Ld.length / 17 + 1 by rw [List.length_append, hl17]; omega]; exact hD'
        · rw [if_neg (by simpa using h17)]
          have : (run ++ [(p.1, p.2)]).length = run.length + 1 := by simp
          exact wpAny_pure ⟨prest, Ld, Lr ++ [y], Lrest, rfl, hL', hfr.2, hfn', by show (run ++ [(p.1, p.2)]).length < 17; omega, hmod, hD⟩
  · rintro ⟨main, run⟩ s' ⟨prest, Ld, Lr, Lrest, hrest, hL, hfr, hfn, hlt, hmod, hD⟩
    obtain rfl : prest = [] := by cases prest <;> first | rfl | cases hrest
    obtain rfl : Lrest = [] := by cases Lrest <;> first | rfl | exact hfr.elim
    rw [List.append_nil] at hL
    dsimp only at hfn hlt hD ⊢
    have hlen : L.length = Ld.length + run.length := by rw [hL, List.length_append, hfn.length]
    have hne : run ≠ [] := by
      rintro rfl
      exact hr (by rw [hlen]; simpa using hmod)
    refine wpAny_bind (flush_wp (c := Ld.length / 17) hS hD hne hfn (hL ▸ hn) (hL ▸ hz) fun s'' hD' => ?_)
    obtain ⟨_, _, h', kvs, rfl, hv, hd, hsz, _, hold⟩ := hD'
    rw [← hL] at hv ⊢
    refine wpAny_pure (hQ h' kvs hv hd ?_ hold)
    rw [hsz, hlen]
    congr 2
    omega
end
end Mine
end
section
open PySem PySem.W PyProof.Rows
set_option Elab.async false
set_option maxRecDepth 100000
set_option maxHeartbeats 4000000
set_option linter.unusedVariables false
namespace Mine
noncomputable def intKey : Option PySem.Expr → Option Int
  | some (.Constant (.int i) _ _) => some i
  | _ => none
noncomputable def strVal : PySem.Expr → Option Str
  | .Constant (.str x) _ _ => some x
  | _ => none
theorem intKey_eq {k : Option PySem.Expr} {i : Int} (h : intKey k = some i) : ∃ kk p, k = some (.Constant (.int i) kk p) := by
  cases k with
  | none => exact (none_some h rfl).elim
  | some e => cases e with
    | Constant c kk p => cases c with
      | int n => cases Option.some.inj h; exact ⟨kk, p, rfl⟩
      | _ => exact (none_some h rfl).elim
    | _ => exact (none_some h rfl).elim
theorem strVal_eq {e : PySem.Expr} {x : Str} (h : strVal e = some x) : ∃ kk p, e = .Constant (.str x) kk p := by
  cases e with
  | Constant c kk p => cases c with
    | str n => cases Option.some.inj h; exact ⟨kk, p, rfl⟩
    | _ => exact (none_some h rfl).elim
  | _ => exact (none_some h rfl).elim
noncomputable def pairsOf : List (Option PySem.Expr) → List PySem.Expr → Option (List (Int × Str))
  | [], [] => some []
  | k :: ks, v :: vs => match intKey k with
    | none => none
    | some i => match strVal v with
      | none => none
      | some x => match pairsOf ks vs with
        | some l => some ((i, x) :: l)
        | none => none
  | _, _ => none
theorem pairs_fit {prog : Program} {w : World} {env : Env} {pos : Pos} : ∀ {ks : List (Option PySem.Expr)} {vs : List PySem.Expr} {L : List (Int × Str)}, pairsOf ks vs = some L →
    ∃ ps, (evalEachOpt ks env).zip ((evalEach vs env).map fun v => do let x ← v; standAt pos; pure x) = ps.map (fun p => (some p.1, p.2)) ∧ Fit prog w ps L := by
  intro ks
  induction ks with
  | nil =>
    intro vs L h
    cases vs with
    | nil => cases h; exact ⟨[], rfl, trivial⟩
    | cons => simp [pairsOf] at h
  | cons k0 ks ih =>
    intro vs L h
    cases vs with
    | nil => exact (none_some h rfl).elim
    | cons v0 vs' =>
    unfold pairsOf at h
    cases e1 : intKey k0 with
    | none => rw [e1] at h; cases h
    | some i =>
    cases e2 : strVal v0 with
    | none => rw [e1, e2] at h; cases h
    | some x' =>
      rw [e1, e2] at h
      obtain ⟨k, p, rfl⟩ := intKey_eq e1
      obtain ⟨k', p', rfl⟩ := strVal_eq e2
      cases e : pairsOf ks vs' with
      | none => rw [e] at h; cases h
      | some l =>
        rw [e] at h
        cases h
        obtain ⟨ps, h1, h2⟩ := ih e
        refine ⟨(eval (.Constant (.int i) k p) env, do let x ← eval (.Constant (.str x') k' p') env; standAt pos; pure x) :: ps, ?_, ⟨fun A E s Q q => wpAny_Constant_int (env := env) (k := k) (pos := p) q, fun A E s Q q => wpAny_bind (wpAny_Constant_str (env := env) (k := k') (pos := p') (wpAny_bind (wpAny_standAt (wpAny_pure q))))⟩, h2⟩
        rw [List.map_cons, ← h1]
        rfl
noncomputable def incrB : Int → List (Int × Str) → Bool
  | _, [] => true
  | a, (b, _) :: l => match decide (a < b) with | true => incrB b l | false => false
theorem incr_nodup : ∀ {L : List (Int × Str)} {a : Int}, incrB a L = true → (∀ x ∈ L.map (·.1), a < x) ∧ (L.map (·.1)).Nodup
  | [], _, _ => ⟨by simp, by simp⟩
  | (b, x) :: l, a, h => by
    unfold incrB at h
    cases e : decide (a < b) with
    | false => rw [e] at h; cases h
    | true =>
      rw [e] at h
      have hab := of_decide_eq_true e
      obtain ⟨h1, h2⟩ := incr_nodup h
      rw [List.map_cons]
      refine ⟨fun y hy => ?_, List.nodup_cons.mpr ⟨fun q => absurd (h1 b q) (Int.lt_irrefl b), h2⟩⟩
      rcases List.mem_cons.mp hy with rfl | hy
      · exact hab
      · exact Int.lt_trans hab (h1 y hy)
noncomputable def dKs : PySem.Expr → List (Option PySem.Expr)
  | .Dict k _ _ => k
  | _ => []
noncomputable def dVs : PySem.Expr → List PySem.Expr
  | .Dict _ v _ => v
  | _ => []
noncomputable def dP : PySem.Expr → Pos
  | .Dict _ _ p => p
  | _ => default
noncomputable def valH : PySem.Expr := asV (stmtsH.drop 10)
theorem val_dict : valH = .Dict (dKs valH) (dVs valH) (dP valH) := by kernel_rfl!
noncomputable def tabL : List (Int × Str) := (pairsOf (dKs valH) (dVs valH)).getD []
theorem tab_some : (pairsOf (dKs valH) (dVs valH)).isSome = true := by kernel_rfl!
theorem tab_eq : pairsOf (dKs valH) (dVs valH) = some tabL := by
  have h := tab_some
  unfold tabL
  cases e : pairsOf (dKs valH) (dVs valH) with
  | none => rw [e] at h; cases h
  | some l => rfl
theorem tab_incr : incrB 0 tabL = true := by kernel_rfl!
theorem tab_len : tabL.length = 650 := by kernel_rfl!
noncomputable def tabD : List (PyData × PyData) := tabL.map fun x => (.int x.1, .str x.2)
theorem flat_of : ∀ {kvs : List (Int × Value)} {L : List (Int × Str)}, Vals kvs L → PyProof.V.FlatPairs PyData.int kvs (L.map fun x => (.int x.1, .str x.2))
  | [], [], _ => .nil
  | (k, v) :: a, (i, x) :: b, h => by
    obtain ⟨rfl, ⟨t, rfl⟩, h⟩ := h
    exact .cons (PyProof.V.Flat.str x t) (flat_of h)
  | [], _ :: _, h => h.elim
  | (_, _) :: _, [], h => h.elim
end Mine
end
section
open PySem PySem.W PyProof.Rows
set_option Elab.async false
set_option maxRecDepth 100000
set_option maxHeartbeats 4000000
set_option linter.unusedVariables false
namespace Mine
noncomputable abbrev c0 : Code := .builtin "claim.caller" {}
theorem seg_0a (w : World) (os : OsState) (q : Pos) : runQ (stepT (denote treeTable) prog w) (denote treeTable) Thread.calm 0 40 (stH (TB w.params) 11 181 os)
    ⟨(moduleCode prog.main).bind fun a => .pure (.done (.ret a)), c0, q, []⟩ = some (.ret (.ref 13), stH (T00 w.params) 14 187 os) := by
  show runQ (stepT (denote treeTable) PySem.Challenge.pw_tr0061_01 w) (denote treeTable) Thread.calm 0 40 (stH (TB w.params) 11 181 os) _ = _
  rw [PySem.W.Fast.te10156331382660048174, PySem.W.Fast.te11892475500146522536, PySem.W.Fast.te14364793385576792824, PySem.W.Fast.te2348191978395082540, PySem.W.Fast.te17154629097778926822]
  kernel_rfl!
theorem seg_0b (w : World) (os : OsState) (q : Pos) : runQ (stepT (denote treeTable) prog w) (denote treeTable) Thread.calm 0 40 (stH (T00 w.params) 14 187 os)
    ⟨(newBodyFrame (.ref 13) mainNs mainNs).bind fun a => .pure (.done (.ret (.ref a))), c0, q, []⟩ = some (.ret (.ref 14), stH (T0 w.params) 15 187 os) := by
  show runQ (stepT (denote treeTable) PySem.Challenge.pw_tr0061_01 w) (denote treeTable) Thread.calm 0 40 (stH (T00 w.params) 14 187 os) _ = _
  rw [PySem.W.Fast.te10156331382660048174, PySem.W.Fast.te11892475500146522536, PySem.W.Fast.te14364793385576792824, PySem.W.Fast.te2348191978395082540, PySem.W.Fast.te12822647523644345616]
  kernel_rfl!
theorem seg_0c (w : World) (os : OsState) (q r : Pos) : runQ (stepT (denote treeTable) prog w) (denote treeTable) Thread.calm 1 40 (stH (T0 w.params) 15 187 os)
    ⟨(blockStart stmtsH envH).bind fun a => .pure (.done .next), codeH, q, baseH r⟩ = some (.next, stH (T0 w.params) 15 187 os) := by
  show runQ (stepT (denote treeTable) PySem.Challenge.pw_tr0061_01 w) (denote treeTable) Thread.calm 1 40 (stH (T0 w.params) 15 187 os) _ = _
  rw [PySem.W.Fast.te10156331382660048174, PySem.W.Fast.te11892475500146522536, PySem.W.Fast.te14364793385576792824, PySem.W.Fast.te2348191978395082540, PySem.W.Fast.te1066825118222455980]
  kernel_rfl!
theorem stepK_life {den : Code → Sem Fin} {p : Program} {w : World} {s s' : Shared} {t t' : Thread} (h : stepK den p w s t = .go s' t') : s'.heap.life = s.heap.life := by
  obtain ⟨cur, code, pos, stack⟩ := t
  have fin (h : step den p w s ⟨cur, code, pos, stack⟩ = .go s' t') : s'.heap.life = s.heap.life := step_life _ _ _ _ _ _ _ h
  cases cur with
  | pure r => cases r with
    | again c =>
      have h' : Step.go s _ = .go s' t' := h
      cases h'; rfl
    | done f => exact fin h
  | call c hd g l k =>
    have h' : Step.go s _ = .go s' t' := h
    cases h'; rfl
  | _ => exact fin h
theorem step_lifeM {p : Program} {w : World} {s s' : Shared} {t t' : Thread} (h : (model p w).step s t = .go s' t') : s'.heap.life = s.heap.life := by
  cases hl : t.loud with
  | true => rw [Model.step_loud (h := hl)] at h; cases h
  | false => rw [Model.step_quiet (h := hl)] at h; exact stepK_life h
theorem reach_life {p : Program} {w : World} {B : List Frame} {s s' : Shared} {t : Sem Fin} {c : Code} {q : Pos} {pre : List Frame} {e : End} (h : Reach (model p w) B s t c q pre s' e) : s'.heap.life = s.heap.life := by
  induction h with
  | exit _ => rfl
  | step hs _ ih => exact ih.trans (step_lifeM hs)
theorem wpAt_life {α : Type} {p : Program} {w : World} {c : Code} {B : List Frame} {x : Sem α} {res : α → Flow} (inj : ∀ a b, res a = res b → a = b) {Q : α → Shared → Prop} {s : Shared} (h : wpAt p w c B x Q s) :
    wpAt p w c B x (fun a s' => Q a s' ∧ s'.heap.life = s.heap.life) s := by
  refine ⟨fun q => ?_⟩
  have e : Sem.wp (model p w) (Ctx.of c B) (x.bind fun a => .pure (.done (res a))) (Sem.finPost (model p w) (Ctx.of c B) fun r s₂ => ∃ a, r = .ok (res a) ∧ Q a s₂) (fun e _ s₂ => ∃ a, (Except.error e : Result) = .ok (res a) ∧ Q a s₂) q s := by
    rw [show (x.bind fun a => .pure (.done (res a)) : Sem Fin) = (x >>= fun a => (Sem.pure (.done (res a)) : Sem Fin)) from rfl, Sem.wp_bind']
    exact Sem.wp_mono _ _ x (fun a q' s₂ h2 => ⟨a, rfl, h2⟩) (fun _ _ _ f => f.elim) q s (h.run q)
  obtain ⟨r, s', hr, hR⟩ := (wp_iff_reach (M := model p w) (base := B) (c := c) _ (fun r s₂ => ∃ a, r = .ok (res a) ∧ Q a s₂) q s).mp e
  have hl := reach_life hr
  have e2 := (wp_iff_reach (M := model p w) (base := B) (c := c) (x.bind fun a => .pure (.done (res a))) (fun r s₂ => (∃ a, r = .ok (res a) ∧ Q a s₂) ∧ s₂.heap.life = s.heap.life) q s).mpr ⟨r, s', hr, hR, hl⟩
  rw [show (x.bind fun a => .pure (.done (res a)) : Sem Fin) = (x >>= fun a => (Sem.pure (.done (res a)) : Sem Fin)) from rfl, Sem.wp_bind'] at e2
  refine Sem.wp_mono _ _ x (fun a q' s₂ h2 => ?_) (fun e q' s₂ h2 => by obtain ⟨⟨a, h3, _⟩, _⟩ := h2; cases h3) q s e2
  have h3 : (∃ b, (Except.ok (res a) : Result) = .ok (res b) ∧ Q b s₂) ∧ s₂.heap.life = s.heap.life := h2
  obtain ⟨⟨b, h4, h5⟩, h6⟩ := h3
  obtain rfl := inj a b (by injection h4)
  exact ⟨h5, h6⟩
theorem wpAt_onRaise {α : Type} {p : Program} {w : World} {c : Code} {B : List Frame} {x : Sem α} {k : Value → Sem Unit} {Q : α → Shared → Prop} {s : Shared} (h : wpAt p w c B x Q s) : wpAt p w c B (x.onRaise k) Q s := by
  refine ⟨fun q => ?_⟩
  rw [Sem.wp_onRaise]
  exact Sem.wp_mono _ _ x (fun _ _ _ h => h) (fun _ _ _ f => f.elim) q s (h.run q)
theorem wpAt_pure {α : Type} {p : Program} {w : World} {c : Code} {B : List Frame} {a : α} {Q : α → Shared → Prop} {s : Shared} (h : Q a s) : wpAt p w c B (pure a) Q s := ⟨fun q => h⟩
theorem wp_execs {M : Model} {Γ : Ctx} {env : Env} {r : List Stmt} {Q : Flow → Pos → Shared → Prop} : ∀ (l : List Stmt) (q : Pos) (s : Shared),
    Sem.wp M Γ (execs l env) (fun f q' s' => f = .next ∧ Sem.wp M Γ (execs r env) Q (fun _ _ _ => False) q' s') (fun _ _ _ => False) q s → Sem.wp M Γ (execs (l ++ r) env) Q (fun _ _ _ => False) q s
  | [], q, s, h => h.2
  | st :: l, q, s, h => by
    have e : ∀ l' : List Stmt, execs (st :: l') env = (exec st env >>= fun f => match f with | .next => execs l' env | f => pure f) := fun _ => rfl
    rw [List.cons_append, e, Sem.wp_bind']
    rw [e, Sem.wp_bind'] at h
    refine Sem.wp_mono _ _ _ (fun f q' s' hf => ?_) (fun _ _ _ f => f) q s h
    cases f with
    | next => exact wp_execs l q' s' hf
    | _ => exact absurd hf.1 (by simp)
theorem wpAt_execs {p : Program} {w : World} {c : Code} {B : List Frame} {env : Env} {r l : List Stmt} {Q : Flow → Shared → Prop} {s : Shared}
    (h : wpAt p w c B (execs l env) (fun f s' => f = .next ∧ wpAt p w c B (execs r env) Q s') s) : wpAt p w c B (execs (l ++ r) env) Q s := ⟨fun q =>
  wp_execs l q s (Sem.wp_mono _ _ _ (fun f q' s' hf => ⟨hf.1, hf.2.run q'⟩) (fun _ _ _ f => f) q s (h.run q))⟩
noncomputable def insAll (x : Nat → Obj) : Nat → Nat → BT → BT
  | _, 0, t => t
  | n, k + 1, t => insAll x (n + 1) k (t.ins n (x n))
noncomputable def insOk (x : Nat → Obj) : Nat → Nat → BT → Bool
  | _, 0, _ => true
  | n, k + 1, t => match ((t.ins n (x n)).get n).isSome with
    | true => insOk x (n + 1) k (t.ins n (x n))
    | false => false
noncomputable def pushAll (x : Nat → Obj) : Nat → Heap → Heap
  | 0, h => h
  | k + 1, h => pushAll x k (h.push (x h.objs.size))
theorem ins_push {x : Nat → Obj} {life : Life} : ∀ {k n : Nat} {t : BT}, insOk x n k t = true → absHeap (insAll x n k t) (n + k) life = pushAll x k (absHeap t n life)
  | 0, n, t, _ => rfl
  | k + 1, n, t, h => by
    unfold insOk at h
    cases e : ((t.ins n (x n)).get n).isSome with
    | false => rw [e] at h; cases h
    | true =>
      rw [e] at h
      show absHeap (insAll x (n + 1) k (t.ins n (x n))) (n + (k + 1)) life = pushAll x k ((absHeap t n life).push (x (absHeap t n life).objs.size))
      rw [absHeap_size, ← absHeap_ins e, ← ins_push h, show n + (k + 1) = n + 1 + k by omega]
theorem push_at {x : Nat → Obj} : ∀ {k : Nat} {h : Heap} (i : Nat), (pushAll x k h).objs[i]? = if i < h.objs.size then h.objs[i]? else if i < h.objs.size + k then some (x i) else none
  | 0, h, i => by
    show h.objs[i]? = _
    by_cases hi : i < h.objs.size
    · rw [if_pos hi]
    · rw [if_neg hi, if_neg (by omega)]; exact Array.getElem?_eq_none (by omega)
  | k + 1, h, i => by
    show (pushAll x k (h.push (x h.objs.size))).objs[i]? = _
    rw [push_at i]
    have hs : (h.push (x h.objs.size)).objs.size = h.objs.size + 1 := by simp [Heap.push]
    have hg : (h.push (x h.objs.size)).objs[i]? = if i = h.objs.size then some (x h.objs.size) else h.objs[i]? := by simp [Heap.push, Array.getElem?_push]
    rw [hs, hg]
    by_cases h1 : i = h.objs.size
    · subst h1; simp
    · by_cases h2 : i < h.objs.size
      · simp [h1, h2, Nat.lt_succ_of_lt h2]
      · have a : ¬ i < h.objs.size + 1 := by omega
        simp only [a, h2, if_false]
        by_cases h3 : i < h.objs.size + (k + 1)
        · rw [if_pos h3, if_pos (by omega)]
        · rw [if_neg h3, if_neg (by omega)]
theorem push_life {x : Nat → Obj} : ∀ {k : Nat} {h : Heap}, (pushAll x k h).life = h.life
  | 0, h => rfl
  | k + 1, h => (push_life (k := k)).trans rfl
theorem obj_of_get {h : Heap} {a : Nat} {o : Obj} (e : h.get? a = some o) : h.objs[a]? = some o := by
  unfold Heap.get? at e
  split at e
  · cases e
  · exact e
theorem heap_grown {h h' : Heap} {k : Nat} (hsz : h'.objs.size = h.objs.size + k) (hlife : h'.life = h.life) (hal : ∀ b, b < h.objs.size → (h.get? b).isSome = true) (hold : ∀ b, b < h.objs.size → h'.get? b = h.get? b) :
    h' = pushAll (fun i => (h'.objs[i]?).getD default) k h := by
  have e : h'.objs = (pushAll (fun i => (h'.objs[i]?).getD default) k h).objs := by
    apply Array.ext_getElem?
    intro i
    rw [push_at]
    by_cases h1 : i < h.objs.size
    · rw [if_pos h1]
      obtain ⟨o, ho⟩ := Option.isSome_iff_exists.mp (hal i h1)
      rw [obj_of_get ho, obj_of_get ((hold i h1).trans ho)]
    · rw [if_neg h1]
      by_cases h2 : i < h.objs.size + k
      · rw [if_pos h2]
        have : i < h'.objs.size := by omega
        rw [Array.getElem?_eq_getElem this]; rfl
      · rw [if_neg h2]; exact Array.getElem?_eq_none (by omega)
  have e2 : h'.life = (pushAll (fun i => (h'.objs[i]?).getD default) k h).life := by rw [push_life, hlife]
  obtain ⟨a, b⟩ := h'
  dsimp only at e e2 ⊢
  generalize pushAll (fun i => (a[i]?).getD default) k h = z at e e2
  obtain ⟨c, d⟩ := z
  dsimp only at e e2
  rw [e, e2]
noncomputable def aliveB (o : Option Obj) : Bool := match o with
  | some ⟨_, _, .freed, _⟩ => false
  | some _ => true
  | none => false
noncomputable def aliveAll (t : BT) : Nat → Bool
  | 0 => true
  | n + 1 => match aliveB (t.get n) with
    | true => aliveAll t n
    | false => false
theorem alive_of {t : BT} : ∀ {n : Nat}, aliveAll t n = true → ∀ b, b < n → aliveB (t.get b) = true
  | 0, _, b, h => by omega
  | n + 1, h, b, hb => by
    unfold aliveAll at h
    cases e : aliveB (t.get n) with
    | false => rw [e] at h; cases h
    | true =>
      rw [e] at h
      by_cases hb' : b = n
      · rw [hb']; exact e
      · exact alive_of h b (by omega)
theorem get_alive {t : BT} {n : Nat} {life : Life} (h : aliveAll t n = true) (b : Nat) (hb : b < (absHeap t n life).objs.size) : ((absHeap t n life).get? b).isSome = true := by
  rw [absHeap_size] at hb
  have e := alive_of h b hb
  cases hg : t.get b with
  | none => rw [hg] at e; cases e
  | some o =>
    rw [abs_get hb hg]
    rw [hg] at e
    obtain ⟨c, d, dt, sl⟩ := o
    cases dt <;> first | rfl | cases e
theorem alive9 (P : Params) : aliveAll (T9 P) 138 = true := by kernel_rfl!
theorem ins10 (P : Params) (x : Nat → Obj) : T10 P x = insAll x 138 39 (T9 P) := by kernel_rfl!
theorem insOk10 (P : Params) (x : Nat → Obj) : insOk x 138 39 (T9 P) = true := by kernel_rfl!
end Mine
end
section
open PySem PySem.W PyProof.Rows
set_option Elab.async false
set_option maxRecDepth 100000
set_option maxHeartbeats 100000
set_option linter.unusedVariables false
namespace Mine
theorem treeT (w : World) : stepT (denote treeTable) prog w = stepT (denote table) prog w := by rw [table_eq_tree]
theorem runT {w : World} {b n : Nat} {s : SharedT} {t : Thread} : runQ (stepT (denote table) prog w) (denote table) Thread.calm b n s t = runQ (stepT (denote treeTable) prog w) (denote treeTable) Thread.calm b n s t := by rw [table_eq_tree]
noncomputable abbrev AH : Around := ⟨none, 600, none, none, 600⟩
theorem inH (q : Pos) : (Ctx.of codeH (baseH q)).In AH := by
  refine ⟨rfl, ?_, fun l hl => (by cases hl), fun g hg => (by cases hg), ?_⟩
  · exact Nat.le_of_ble_eq_true (by kernel_rfl!)
  · exact Nat.le_of_ble_eq_true (by kernel_rfl!)
theorem segAt {w : World} {B : List Frame} {c : Code} {α : Type} {x : Sem α} {res : α → Flow} {n : Nat} {f : Flow} {s s' : SharedT} {Q : α → Shared → Prop}
    (h : ∀ q, runQ (stepT (denote treeTable) prog w) (denote treeTable) Thread.calm B.length n s ⟨x.bind fun a => .pure (.done (res a)), c, q, B⟩ = some (f, s'))
    (k : ∀ a, res a = f → Q a s'.abs) : wpAt prog w c B x Q s.abs := wpAt_run (fun q => by rw [runT]; exact h q) k
/-- what the top leaves -/
noncomputable def Left (w : World) (os : OsState) (s : Shared) : Prop :=
  ∃ x kvs, s = (stH (T18 w.params x) 220 2404 os).abs ∧ s.heap.DictOf (intKind prog w) 138 kvs ∧ Vals kvs tabL
theorem disp_gen {p : Program} {w : World} {c : Code} {B : List Frame} {env : Env} {ks : List (Option PySem.Expr)} {vs : List PySem.Expr} {ps : Pos} {L : List (Int × Str)} {s : Shared} {Q : Value → Shared → Prop} (hin : (Ctx.of c B).In AH)
    (hL : pairsOf ks vs = some L) (hi : incrB 0 L = true) (hlen : L.length = 650) (hs : sysModules < s.heap.objs.size)
    (hQ : ∀ h' kvs, h'.life = s.heap.life → Vals kvs L → h'.DictOf (intKind p w) s.heap.objs.size kvs → h'.objs.size = s.heap.objs.size + 39 → (∀ b, b < s.heap.objs.size → h'.get? b = s.heap.get? b) →
      Q (.ref s.heap.objs.size) { s with heap := h', toks := s.toks + 1950 }) : wpAt p w c B (eval (.Dict ks vs ps) env) Q s := by
  obtain ⟨qs, hps, hfit⟩ := pairs_fit (prog := p) (w := w) (env := env) (pos := ps) hL
  have h : wpAt p w c B (eval (.Dict ks vs ps) env) (fun v s' => v = .ref s.heap.objs.size ∧ ∃ h' kvs, s' = { s with heap := h', toks := s.toks + 1950 } ∧ Vals kvs L ∧ h'.DictOf (intKind p w) s.heap.objs.size kvs ∧
      h'.objs.size = s.heap.objs.size + 39 ∧ ∀ b, b < s.heap.objs.size → h'.get? b = s.heap.get? b) s := by
    refine wpAt_any hin ?_
    rw [arm_eval_Dict]
    refine wpAny_bind (wpAny_standAt ?_)
    refine display_wp hps hs hfit (incr_nodup hi).2 (by rw [hlen, sizeLine_eq]; decide) (by rw [hlen]; decide) fun h' kvs hv hd hz hold => ?_
    rw [hlen] at hz ⊢
    exact ⟨rfl, h', kvs, rfl, hv, hd, hz, hold⟩
  refine wpAt_mono (wpAt_life (res := Flow.ret) (fun a b e => by injection e) h) ?_
  rintro v s' ⟨⟨rfl, h', kvs, rfl, hv, hd, hz, hold⟩, hl⟩
  exact hQ h' kvs hl hv hd hz hold
theorem heap10 {P : Params} {h' : Heap} (hl : h'.life = {}) (hz : h'.objs.size = 138 + 39) (hold : ∀ b, b < 138 → h'.get? b = (absHeap (T9 P) 138 {}).get? b) : ∃ x, h' = absHeap (T10 P x) 177 {} := by
  have hs : (absHeap (T9 P) 138 {}).objs.size = 138 := absHeap_size _ _ _
  have e := heap_grown (h := absHeap (T9 P) 138 {}) (h' := h') (k := 39) (by rw [hs, hz]) hl (fun b hb => get_alive (alive9 P) b hb) (fun b hb => hold b (by rw [hs] at hb; exact hb))
  have e2 := ins_push (life := {}) (insOk10 P fun i => (h'.objs[i]?).getD default)
  exact ⟨_, by rw [ins10]; exact e.trans e2.symm⟩
theorem disp_q (w : World) (os : OsState) {Q : Value → Shared → Prop} (hs : (stH (T9 w.params) 138 397 os).abs.heap.objs.size = 138)
    (hQ : ∀ x kvs, (stH (T10 w.params x) 177 2347 os).abs.heap.DictOf (intKind prog w) 138 kvs → Vals kvs tabL → Q (.ref 138) (stH (T10 w.params x) 177 2347 os).abs) :
    ∀ h' kvs, h'.life = (stH (T9 w.params) 138 397 os).abs.heap.life → Vals kvs tabL → h'.DictOf (intKind prog w) (stH (T9 w.params) 138 397 os).abs.heap.objs.size kvs → h'.objs.size = (stH (T9 w.params) 138 397 os).abs.heap.objs.size + 39 → (∀ b, b < (stH (T9 w.params) 138 397 os).abs.heap.objs.size → h'.get? b = (stH (T9 w.params) 138 397 os).abs.heap.get? b) →
      Q (.ref (stH (T9 w.params) 138 397 os).abs.heap.objs.size) { (stH (T9 w.params) 138 397 os).abs with heap := h', toks := (stH (T9 w.params) 138 397 os).abs.toks + 1950 } := by
  intro h' kvs hl hv hd hz hold
  rw [hs] at hd hz hold ⊢
  obtain ⟨x, rfl⟩ := heap10 hl hz hold
  exact hQ x kvs hd hv
theorem tA (w : World) (os : OsState) : (stH (T9 w.params) 138 397 os).abs.heap.objs.size = 138 := absHeap_size _ _ _
theorem tB (w : World) (os : OsState) : sysModules < (stH (T9 w.params) 138 397 os).abs.heap.objs.size := by rw [tA]; decide
theorem disp_wp (w : World) (os : OsState) (r : Pos) (V : PySem.Expr) (ks : List (Option PySem.Expr)) (vs : List PySem.Expr) (dp : Pos) (hV : V = .Dict ks vs dp) (hL : pairsOf ks vs = some tabL) {Q : Value → Shared → Prop}
    (hQ : ∀ x kvs, (stH (T10 w.params x) 177 2347 os).abs.heap.DictOf (intKind prog w) 138 kvs → Vals kvs tabL → Q (.ref 138) (stH (T10 w.params x) 177 2347 os).abs) :
    wpAt prog w codeH (baseH r) (eval V envH) Q (stH (T9 w.params) 138 397 os).abs := by
  subst hV
  exact disp_gen (inH r) hL tab_incr tab_len (tB w os) (disp_q w os (tA w os) hQ)
theorem valEq : asV (stmtsH.drop 10) = valH := by kernel_rfl!
theorem get10 (P : Params) (x : Nat → Obj) : (T10 P x).get 138 = some (x 138) := by kernel_rfl!
theorem get18 (P : Params) (x : Nat → Obj) : (T18 P x).get 138 = some (x 138) := by kernel_rfl!
theorem assign_wp {p : Program} {w : World} {c : Code} {B : List Frame} {ts : List PySem.Expr} {vE : PySem.Expr} {ps : Pos} {rest : List Stmt} {env : Env} {s₀ : Shared} {Q1 : Value → Shared → Prop} {Q : Flow → Shared → Prop}
    (a : wpAt p w c B (standAt ps >>= fun _ => swapsWithSole ts vE ps.line env) (fun b s' => b = false ∧ s' = s₀) s₀)
    (d : wpAt p w c B (eval vE env) Q1 s₀)
    (g : ∀ v s', Q1 v s' → wpAt p w c B (((swappedStores ts vE env).bind fun y => assignStores env v y ((assignEach ts env).map (·.2))).bind fun f => match f with
      | .next => execs rest env
      | f => pure f) Q s') : wpAt p w c B (execs (.Assign ts vE ps :: rest) env) Q s₀ := by
  show wpAt p w c B (exec (.Assign ts vE ps) env >>= fun f => match f with | .next => execs rest env | f => pure f) _ _
  rw [arm_exec_Assign]
  refine ⟨fun q => ?_⟩
  have aq := a.run q
  rw [Sem.wp_bind'] at aq ⊢
  rw [Sem.wp_bind']
  refine Sem.wp_mono _ _ _ (fun u q' s' h => ?_) (fun _ _ _ f => f) q _ aq
  rw [Sem.wp_bind']
  refine Sem.wp_mono _ _ _ (fun b q'' s'' h => ?_) (fun _ _ _ f => f) q' s' h
  obtain ⟨rfl, rfl⟩ := h
  rw [if_neg Bool.false_ne_true, Sem.wp_bind']
  refine Sem.wp_mono _ _ _ (fun v q3 s3 h => ?_) (fun _ _ _ f => f) q'' _ (d.run q'')
  have g' := (g v s3 h).run q3
  rw [show (((swappedStores ts vE env).bind fun y => assignStores env v y ((assignEach ts env).map (·.2))).bind fun f => match f with
      | .next => execs rest env
      | f => pure f) = (((swappedStores ts vE env) >>= fun y => assignStores env v y ((assignEach ts env).map (·.2))) >>= fun f => match f with
      | .next => execs rest env
      | f => pure f) from rfl, Sem.wp_bind'] at g'
  exact g'
theorem sw_wp (w : World) (os : OsState) (r : Pos) : wpAt prog w codeH (baseH r) (standAt (asP (stmtsH.drop 10)) >>= fun _ => swapsWithSole (asTs (stmtsH.drop 10)) (asV (stmtsH.drop 10)) (asP (stmtsH.drop 10)).line envH)
    (fun b s' => b = false ∧ s' = (stH (T9 w.params) 138 397 os).abs) (stH (T9 w.params) 138 397 os).abs :=
  segAt (res := fun a => .ret (.bool a)) (fun q => seg_f w os q r) (fun b e => by injection e with e; injection e with e; exact ⟨e, rfl⟩)
theorem g_wp (w : World) (os : OsState) (r : Pos) (x : Nat → Obj) {Q : Flow → Shared → Prop} (h : Q .next (stH (T18 w.params x) 220 2404 os).abs) :
    wpAt prog w codeH (baseH r) (((swappedStores (asTs (stmtsH.drop 10)) (asV (stmtsH.drop 10)) envH).bind fun y => assignStores envH (.ref 138) y ((assignEach (asTs (stmtsH.drop 10)) envH).map (·.2))).bind fun f => match f with
      | .next => execs (stmtsH.drop 11) envH
      | f => pure f) Q (stH (T10 w.params x) 177 2347 os).abs :=
  segAt (res := fun a => a) (fun q => seg_g w os q r x) (fun f e => by cases e; exact h)
theorem left_of {w : World} {os : OsState} {x : Nat → Obj} {kvs : List (Int × Value)} (hd : (stH (T10 w.params x) 177 2347 os).abs.heap.DictOf (intKind prog w) 138 kvs) (hv : Vals kvs tabL) : Left w os (stH (T18 w.params x) 220 2404 os).abs := by
  refine ⟨x, kvs, rfl, ?_, hv⟩
  obtain ⟨o, es, ep, ho, rest⟩ := hd
  refine ⟨o, es, ep, ?_, rest⟩
  have e1 : (absHeap (T10 w.params x) 177 {}).get? 138 = some o := ho
  rw [abs_get (by decide) (get10 w.params x)] at e1
  show (absHeap (T18 w.params x) 220 {}).get? 138 = some o
  rw [abs_get (by decide) (get18 w.params x)]
  exact e1
theorem st10_gen (w : World) (os : OsState) (r : Pos) {V : PySem.Expr} {ts : List PySem.Expr} {ps : Pos} {L R : List Stmt} {ks : List (Option PySem.Expr)} {vs : List PySem.Expr} {dp : Pos} (h10 : L = .Assign ts V ps :: R) (hV : V = .Dict ks vs dp) (hL : pairsOf ks vs = some tabL)
    (h1 : wpAt prog w codeH (baseH r) (standAt ps >>= fun _ => swapsWithSole ts V ps.line envH) (fun b s' => b = false ∧ s' = (stH (T9 w.params) 138 397 os).abs) (stH (T9 w.params) 138 397 os).abs)
    (h3 : ∀ (x : Nat → Obj), wpAt prog w codeH (baseH r) (((swappedStores ts V envH).bind fun y => assignStores envH (.ref 138) y ((assignEach ts envH).map (·.2))).bind fun f => match f with
      | .next => execs R envH
      | f => pure f) (fun f s' => f = .next ∧ s' = (stH (T18 w.params x) 220 2404 os).abs) (stH (T10 w.params x) 177 2347 os).abs) :
    wpAt prog w codeH (baseH r) (execs L envH) (fun f s' => f = .next ∧ Left w os s') (stH (T9 w.params) 138 397 os).abs := by
  subst h10
  have h2 := disp_wp w os r V ks vs dp hV hL (Q := fun v s' => ∃ x kvs, v = .ref 138 ∧ s' = (stH (T10 w.params x) 177 2347 os).abs ∧ (stH (T10 w.params x) 177 2347 os).abs.heap.DictOf (intKind prog w) 138 kvs ∧ Vals kvs tabL)
    (fun x kvs h1 h2 => ⟨x, kvs, rfl, rfl, h1, h2⟩)
  refine assign_wp h1 h2 (fun v s' h => ?_)
  obtain ⟨x, kvs, rfl, rfl, hd, hv⟩ := h
  exact wpAt_mono (h3 x) fun f s' hf => ⟨hf.1, by rw [hf.2]; exact left_of hd hv⟩
theorem st10_wp (w : World) (os : OsState) (r : Pos) : wpAt prog w codeH (baseH r) (execs (stmtsH.drop 10) envH) (fun f s' => f = .next ∧ Left w os s') (stH (T9 w.params) 138 397 os).abs := by
  have a := at10
  have b := val_dict
  have c := tab_eq
  have d := sw_wp w os r
  have e := fun x => g_wp w os r x (Q := fun f s' => f = .next ∧ s' = (stH (T18 w.params x) 220 2404 os).abs) ⟨rfl, rfl⟩
  rw [valEq] at a d
  simp only [valEq] at e
  revert a b c d e
  generalize valH = V
  generalize asTs (stmtsH.drop 10) = ts
  generalize asP (stmtsH.drop 10) = ps
  generalize stmtsH.drop 11 = R
  generalize stmtsH.drop 10 = L
  generalize dKs V = ks
  generalize dVs V = vs
  generalize dP V = dp
  intro a b c d e
  exact st10_gen w os r a b c d e
end Mine
end
section
open PySem PySem.W PyProof.Rows
set_option Elab.async false
set_option maxRecDepth 100000
set_option maxHeartbeats 400000
set_option linter.unusedVariables false
namespace Mine
theorem ex_seg {w : World} {r : Pos} {l : List Stmt} {n : Nat} {s s' : SharedT} (h : ∀ q, runQ (stepT (denote treeTable) prog w) (denote treeTable) Thread.calm 1 n s ⟨(execs l envH).bind fun a => .pure (.done a), codeH, q, baseH r⟩ = some (.next, s'))
    {rest : List Stmt} {Q : Flow → Shared → Prop} (k : wpAt prog w codeH (baseH r) (execs rest envH) Q s'.abs) : wpAt prog w codeH (baseH r) (execs (l ++ rest) envH) Q s.abs :=
  wpAt_execs (segAt (res := fun a => a) h fun a e => by cases e; exact ⟨rfl, k⟩)
theorem cut_a {l : List Stmt} : l = (l.drop 0).take 3 ++ l.drop 3 := by
  rw [List.drop_zero]; exact (List.take_append_drop 3 l).symm
theorem cut_at {l : List Stmt} (a b c : Nat) (e : c = b + a) : l.drop a = (l.drop a).take b ++ l.drop c := by
  subst e
  rw [Nat.add_comm b a, ← List.drop_drop]
  exact (List.take_append_drop b (l.drop a)).symm
theorem body_wp (w : World) (os : OsState) (r : Pos) : wpAt prog w codeH (baseH r) (execs stmtsH envH) (fun f s' => f = .next ∧ Left w os s') (stH (T0 w.params) 15 187 os).abs := by
  have a := fun q => seg_a w os q r
  have b := fun q => seg_b w os q r
  have c := fun q => seg_c w os q r
  have d := fun q => seg_d w os q r
  have e := fun q => seg_e w os q r
  have f := st10_wp w os r
  have k0 := cut_a (l := stmtsH)
  have k1 := cut_at (l := stmtsH) 3 1 4 rfl
  have k2 := cut_at (l := stmtsH) 4 4 8 rfl
  have k3 := cut_at (l := stmtsH) 8 1 9 rfl
  have k4 := cut_at (l := stmtsH) 9 1 10 rfl
  revert a b c d e f k0 k1 k2 k3 k4
  generalize (stmtsH.drop 3).take 1 = l1
  generalize (stmtsH.drop 4).take 4 = l2
  generalize (stmtsH.drop 8).take 1 = l3
  generalize (stmtsH.drop 9).take 1 = l4
  generalize (stmtsH.drop 0).take 3 = l0
  generalize stmtsH.drop 3 = d3
  generalize stmtsH.drop 4 = d4
  generalize stmtsH.drop 8 = d8
  generalize stmtsH.drop 9 = d9
  generalize stmtsH.drop 10 = d10
  generalize stmtsH = L
  intro a b c d e f k0 k1 k2 k3 k4
  subst k4 k3 k2 k1 k0
  exact ex_seg a (ex_seg b (ex_seg c (ex_seg d (ex_seg e f))))
theorem wpAt_run_code {p : Program} {w : World} {C : Code} {f : Flow} {R : Shared → Prop} {s : Shared} (h : ∀ q, wpAt p w C (baseH q) (denote table C) (fun v s' => v = .done f ∧ R s') s) : wpAt p w c0 [] (run C) (fun f' s' => f' = f ∧ R s') s := by
  refine ⟨fun q => ?_⟩
  have e : Sem.wp (model p w) (Ctx.of C (baseH q)) (denote table C) (Sem.finPost (model p w) (Ctx.of C (baseH q)) fun r s' => r = .ok f ∧ R s') (fun e _ s' => (Except.error e : Result) = .ok f ∧ R s') q s := by
    refine Sem.wp_mono _ _ _ (fun v q' s' h' => ?_) (fun _ _ _ f => f.elim) q s ((h q).run q)
    obtain ⟨rfl, h'⟩ := h'
    exact ⟨rfl, h'⟩
  obtain ⟨r, s', hr, rfl, hR⟩ := (Sem.wp_iff_runs (model p w) (Ctx.of C (baseH q)) (denote table C) (fun r s' => r = .ok f ∧ R s') q s).mp e
  exact ⟨.ok f, s', hr, rfl, hR⟩
theorem den_body {p : Program} {w : World} {b : List Stmt} {env : Env} {B : List Frame} {c : Code} {s : Shared} {R : Shared → Prop} (h1 : wpAt p w c B (blockStart b env) (fun _ s' => s' = s) s) (h2 : wpAt p w c B (execs b env) (fun f s' => f = .next ∧ R s') s) :
    wpAt p w c B (denote table (.body b env)) (fun v s' => v = .done .next ∧ R s') s := by
  show wpAt p w c B (blockStart b env >>= fun _ => ((execs b env).onRaise (PySem.leaving env)) >>= fun f => (pure (.done f) : Sem Fin)) _ _
  refine wpAt_bind (wpAt_mono h1 fun _ s' e => ?_)
  subst e
  refine wpAt_bind (wpAt_onRaise (wpAt_mono h2 fun f s' e => ?_))
  obtain ⟨rfl, e⟩ := e
  exact wpAt_pure ⟨rfl, e⟩
theorem top_gen {p : Program} {w : World} {X : Sem Value} {Y : Value → Sem Addr} {Z : Value → Addr → Code} {C : Code} {s s₁ s₂ : Shared} {R : Shared → Prop} (hX : wpAt p w c0 [] X (fun v s' => v = .ref 13 ∧ s' = s₁) s) (hY : wpAt p w c0 [] (Y (.ref 13)) (fun a s' => a = 14 ∧ s' = s₂) s₁)
    (hZ : Z (.ref 13) 14 = C) (h : ∀ q, wpAt p w C (baseH q) (denote table C) (fun v s' => v = .done .next ∧ R s') s₂) :
    wpAt p w c0 [] (do let code ← X; let frame ← Y code; let _ ← run (Z code frame); ret .none) (fun v s' => v = .done (.ret .none) ∧ R s') s := by
  refine wpAt_bind (wpAt_mono hX fun v s' e => ?_)
  obtain ⟨rfl, rfl⟩ := e
  refine wpAt_bind (wpAt_mono hY fun v s' e => ?_)
  obtain ⟨rfl, rfl⟩ := e
  rw [hZ]
  refine wpAt_bind (wpAt_mono (wpAt_run_code h) fun v s' e => ?_)
  exact wpAt_pure ⟨rfl, e.2⟩
theorem top_wp (w : World) (os : OsState) : wpAt prog w c0 [] (topStub prog).cur (fun v s' => v = .done (.ret .none) ∧ Left w os s') (stH (TB w.params) 11 181 os).abs := by
  have hX : wpAt prog w c0 [] (moduleCode prog.main) (fun v s' => v = .ref 13 ∧ s' = (stH (T00 w.params) 14 187 os).abs) (stH (TB w.params) 11 181 os).abs :=
    segAt (res := Flow.ret) (fun q => seg_0a w os q) fun a e => by cases e; exact ⟨rfl, rfl⟩
  have hY : wpAt prog w c0 [] (newBodyFrame (.ref 13) mainNs mainNs) (fun v s' => v = 14 ∧ s' = (stH (T0 w.params) 15 187 os).abs) (stH (T00 w.params) 14 187 os).abs :=
    segAt (res := fun a => .ret (.ref a)) (fun q => seg_0b w os q) fun a e => by cases e; exact ⟨rfl, rfl⟩
  have hB : ∀ q, wpAt prog w codeH (baseH q) (denote table codeH) (fun v s' => v = .done .next ∧ Left w os s') (stH (T0 w.params) 15 187 os).abs := fun q => by
    have h1 : wpAt prog w codeH (baseH q) (blockStart stmtsH envH) (fun _ s' => s' = (stH (T0 w.params) 15 187 os).abs) (stH (T0 w.params) 15 187 os).abs :=
      segAt (res := fun _ => Flow.next) (fun q' => seg_0c w os q' q) fun a e => rfl
    have h2 := body_wp w os q
    have e : codeH = .body stmtsH envH := rfl
    rw [e] at h1 h2 ⊢
    exact den_body h1 h2
  exact top_gen (Z := fun code frame => .body (behindTheImports prog) { scope := prog.main.scope, locals := mainNs, globals := mainNs, cells := [], code, frame := some frame }) hX hY rfl hB
end Mine
end
section
open PySem PySem.W PyProof.Rows
set_option Elab.async false
set_option maxRecDepth 100000
set_option maxHeartbeats 400000
set_option linter.unusedVariables false
namespace Mine
noncomputable def viewH : Program := view prog [0,2,3,5,6,8,9,11,13,14,15,16,17,18]
noncomputable def looseH : List Str := [Str.ofString "_Accumulator", Str.ofString "b1_set", Str.ofString "b3_exceptions"]
noncomputable abbrev sF (w : World) (x : Nat → Obj) (os : OsState) : Shared := (stH (T18 w.params x) 220 2404 os).abs
theorem heapB (P : Params) : absHeap (TB P) 11 {} = boot_heap P := by kernel_rfl!
theorem looks1 (w : World) (x : Nat → Obj) (os : OsState) : staticsOk (importedModules prog.main.body) (boot_heap w.params) (sF w x os).heap = true := by kernel_rfl!
theorem looks2 (w : World) (x : Nat → Obj) (os : OsState) : laidKept (boot_heap w.params) (sF w x os).heap = true := by kernel_rfl!
end Mine
end
section
open PySem PySem.W PyProof.Rows
set_option Elab.async false
set_option maxRecDepth 100000
set_option maxHeartbeats 400000
set_option linter.unusedVariables false
namespace Mine
/-- not an end of the thread's own -/
noncomputable def Goes : Step → Prop
  | .halt (.done _) _ => False
  | _ => True
theorem goes_not {x : Step} {f : Flow} {s' : Shared} (h : x = .halt (.done f) s') (g : Goes x) : False := by rw [h] at g; exact g
theorem step_done {den : Code → Sem Fin} {p : Program} {w : World} {s s' : Shared} {t : Thread} {f : Flow} (h : step den p w s t = .halt (.done f) s') : s' = s ∧ through t = true := by
  refine ⟨step_halt_same _ _ _ _ _ _ _ h, ?_⟩
  have nope := goes_not h
  clear h
  obtain ⟨heap, gens, drawn, toks, os⟩ := s
  obtain ⟨cur, code, pos, stack⟩ := t
  cases cur with
  | pure r => cases r with
    | done g => cases stack with
      | nil => rfl
      | cons F rest => cases F <;> exact (nope True.intro).elim
    | again c => exact (nope True.intro).elim
  | raise e => cases stack with
    | nil =>
      refine (nope ?_).elim
      show Goes (finish (.uncaught e) _)
      exact step_ite (P := Goes) True.intro True.intro
    | cons F rest => cases F <;> exact (nope True.intro).elim
  | finish e' => refine (nope ?_).elim; exact step_ite (P := Goes) True.intro True.intro
  | load a q k =>
    refine (nope ?_).elim; clear nope
    show Goes (match heap.get? a with | some o => _ | none => _)
    cases heap.get? a <;> exact True.intro
  | update a q f k => refine (nope ?_).elim; exact step_ite (P := Goes) True.intro True.intro
  | choose src n k => refine (nope ?_).elim; exact step_ite (P := Goes) True.intro True.intro
  | genState g k =>
    refine (nope ?_).elim; clear nope
    show Goes (match gens[g]? with | none => _ | some st => _)
    cases gens[g]? <;> exact True.intro
  | resume g r l k =>
    refine (nope ?_).elim; clear nope
    show Goes (match gens[g]? with
      | none => _
      | some (.fresh c) => (match r with
        | .send .none => _
        | .send _ => _
        | .throw e => _)
      | some (.suspended kk _ c p frames _) => _
      | some .running => _
      | some .finished => _)
    cases gens[g]? with
    | none => exact True.intro
    | some st => cases st with
      | fresh c => cases r with
        | send v => cases v <;> exact True.intro
        | throw e => exact True.intro
      | _ => exact True.intro
  | «yield» v g0 l kk =>
    refine (nope ?_).elim; clear nope
    show Goes (match splitAtGen stack with | some (frames, (g, k, c, p), rest) => _ | none => _)
    cases splitAtGen stack with
    | none => exact True.intro
    | some x => exact True.intro
  | _ => exact (nope True.intro).elim
theorem run_through {den : Code → Sem Fin} {p : Program} {w : World} {f : Flow} : ∀ (n : Nat) (s : Shared) (t : Thread) (s' : Shared), runN den p w n s t = .halted (.done f) s' → ∃ k t', runN den p w k s t = .running s' t' ∧ through t' = true
  | 0, _, _, _, h => by cases h
  | n + 1, s, t, s', h => by
    have e : runN den p w (n + 1) s t = match step den p w s t with | .go s' t' => runN den p w n s' t' | .halt o s' => .halted o s' := rfl
    rw [e] at h
    cases hs : step den p w s t with
    | halt o s₁ =>
      rw [hs] at h
      cases h
      obtain ⟨rfl, ht⟩ := step_done hs
      exact ⟨0, t, rfl, ht⟩
    | go s₁ t₁ =>
      rw [hs] at h
      obtain ⟨k, t', h1, h2⟩ := run_through n s₁ t₁ s' h
      refine ⟨k + 1, t', ?_, h2⟩
      have e : runN den p w (k + 1) s t = match step den p w s t with | .go s' t' => runN den p w k s' t' | .halt o s' => .halted o s' := rfl
      rw [e, hs]; exact h1
theorem top_sched (w : World) (os : OsState) : ∃ s₁, Left w os s₁ ∧ ∃ n t, schedN (denote table) prog w n (.single (stH (TB w.params) 11 181 os).abs (topStub prog)) = .running (.single s₁ t) ∧ through t = true := by
  have h := (top_wp w os).run default
  have e : Sem.wp (model prog w) ⟨c0, none, none, [], none⟩ (topStub prog).cur (Sem.finPost (model prog w) ⟨c0, none, none, [], none⟩ fun r s' => (r = .ok (.ret .none) ∧ Left w os s') ∧ leftWithCleanup s'.gens = false)
      (fun e _ s' => ((Except.error e : Result) = .ok (.ret .none) ∧ Left w os s') ∧ leftWithCleanup s'.gens = false) default (stH (TB w.params) 11 181 os).abs := by
    refine Sem.wp_mono _ _ _ (fun v q' s' h' => ?_) (fun _ _ _ f => f.elim) _ _ h
    obtain ⟨rfl, h'⟩ := h'
    refine ⟨⟨rfl, h'⟩, ?_⟩
    obtain ⟨x, kvs, rfl, _⟩ := h'
    show leftWithCleanup (#[] : Array GenState) = false
    simp [leftWithCleanup]
  obtain ⟨n, r, s', hn, rfl, hL⟩ := (wp_iff_halts (M := model prog w) (c := c0) (topStub prog).cur (fun r s' => r = .ok (.ret .none) ∧ Left w os s') default _).mp e
  obtain ⟨s'', hr, hf, hc⟩ := runNI_real _ _ _ hn (outcomeOf_ends _)
  have hs : s'' = s' := by
    obtain ⟨x, kvs, rfl, _⟩ := hL
    obtain ⟨a, b, c, d, o⟩ := s''
    simp only [Shared.forget, Shared.mk.injEq] at hf
    obtain ⟨rfl, h2, rfl, rfl, rfl⟩ := hf
    have : b = #[] := by
      have h3 : b.map GenState.forget = (#[] : Array GenState).map GenState.forget := h2
      have := congrArg Array.size h3
      simp at this
      exact this
    rw [this]; rfl
  subst hs
  have hne : ∀ k s₂, runN (denote table) prog w k (stH (TB w.params) 11 181 os).abs ⟨(topStub prog).cur, c0, default, []⟩ ≠ .halted (.unsupported "lifetime:generator-with-cleanup-left-suspended") s₂ := by
    intro k s₂ hk
    have a := runN_mono (denote table) prog w n k _ _ _ _ hr
    have b := runN_mono (denote table) prog w k n _ _ _ _ hk
    rw [Nat.add_comm, b] at a
    injection a with a1 _
    cases a1
  obtain ⟨k, t', h1, h2⟩ := run_through n _ _ _ hr
  refine ⟨s'', hL, k, t', ?_, h2⟩
  have hz : (stH (TB w.params) 11 181 os).abs.asleep := ⟨rfl, rfl⟩
  exact (schedN_eq_runN (denote table) prog w _ _ hz ⟨hc, hne⟩ k).trans (congrArg Run.lift h1)
end Mine
end
section
open PySem PySem.W PyProof.Rows
set_option Elab.async false
set_option maxRecDepth 100000
set_option maxHeartbeats 400000
set_option linter.unusedVariables false
namespace Mine
noncomputable def XtH (s : Shared) : Bool := xlAt viewH [] s
theorem looks3 (w : World) (x : Nat → Obj) (os : OsState) : namesBound prog (sF w x os).heap = true := by kernel_rfl!
theorem looks4 (w : World) (x : Nat → Obj) (os : OsState) : gensDone (sF w x os) = true := by kernel_rfl!
theorem chH : chainsOk viewH = true := by kernel_rfl!
theorem looks5 (w : World) (x : Nat → Obj) (os : OsState) : openSeen viewH looseH (importedModules prog.main.body) XtH true (sF w x os) = openGood viewH looseH := by
  show openSeen viewH looseH (importedModules PySem.Challenge.pw_tr0061_01.main.body) XtH true (stH (T18 w.params x) 220 2404 os).abs = openGood viewH looseH
  rw [PySem.W.Fast.te4187177175401517315]
  kernel_rfl!
end Mine
end
section
open PySem PySem.W PyProof.Rows
set_option Elab.async false
set_option maxRecDepth 100000
set_option maxHeartbeats 400000
set_option linter.unusedVariables false
namespace Mine
theorem lookup_mem {K : Frag} {a : Addr} {o : Obj} : List.lookup a K = some o → (a, o) ∈ K := by
  induction K with
  | nil => intro h; cases h
  | cons p K ih =>
    intro h
    obtain ⟨b, q⟩ := p
    rw [List.lookup_cons] at h
    cases e : a == b with
    | true => rw [e] at h; cases h; rw [eq_of_beq e]; exact List.mem_cons_self
    | false => rw [e] at h; exact List.mem_cons_of_mem _ (ih h)
theorem map_at {α β : Type} {f g : α → β} {l : List α} (h : l.map f = l.map g) : ∀ x ∈ l, f x = g x := by
  induction l with
  | nil => intro x hx; cases hx
  | cons a l ih =>
    rw [List.map_cons, List.map_cons] at h
    intro x hx
    rcases List.mem_cons.mp hx with rfl | hx
    · exact (List.cons.inj h).1
    · exact ih (List.cons.inj h).2 x hx
theorem K_get (P : Params) (x : Nat → Obj) : (K P).map (fun p => (T18 P x).get p.1) = (K P).map (fun p => some p.2) := by kernel_rfl!
theorem K_alive (P : Params) : (K P).map (fun p => alive p.2) = (K P).map (fun p => some p.2) := by kernel_rfl!
theorem K_lt (P : Params) : (K P).all (fun p => Nat.blt p.1 220) = true := by kernel_rfl!
theorem K_in (P : Params) (x : Nat → Obj) : (K P).In (absHeap (T18 P x) 220 {}) := by
  intro a o h
  have hm := lookup_mem h
  have h1 := map_at (K_get P x) _ hm
  have h2 := map_at (K_alive P) _ hm
  have h3 := List.all_eq_true.mp (K_lt P) _ hm
  exact (abs_get (Nat.le_of_ble_eq_true h3) h1).trans h2
theorem get127 (P : Params) (x : Nat → Obj) : (absHeap (T18 P x) 220 {}).get? 127 = some (o_127 P) :=
  abs_get (o := o_127 P) (by decide) (by kernel_rfl!)
theorem get63 (P : Params) (x : Nat → Obj) : (absHeap (T18 P x) 220 {}).get? 63 = some (o_63 P) :=
  abs_get (o := o_63 P) (by decide) (by kernel_rfl!)
theorem get70 (P : Params) (x : Nat → Obj) : (absHeap (T18 P x) 220 {}).get? 70 = some (o_70 P) :=
  abs_get (o := o_70 P) (by decide) (by kernel_rfl!)
end Mine
end
section
open PySem PySem.W PyProof.Rows
set_option Elab.async false
set_option maxRecDepth 100000
set_option maxHeartbeats 400000
set_option linter.unusedVariables false
namespace Mine
theorem ivOf_mem {l : List (Nat × Nat)} {e : Int × Value} (h : e ∈ ivOf l) : ∃ p ∈ l, e = (Int.ofNat p.1, .int (Int.ofNat p.1) p.2) := by
  obtain ⟨p, hp, rfl⟩ := List.mem_map.mp h
  exact ⟨p, hp, rfl⟩
theorem hashes : ∀ p ∈ setIV, hashInt (Int.ofNat p.1) = Int.ofNat p.1 := by decide +kernel
theorem codes_eq : setIV.map (fun p => Int.ofNat p.1) = [65024, 65025, 65026, 65027, 65028, 65029, 6150, 65030, 65031, 65032, 65033, 6155, 6156, 6157, 8203, 8204, 8205, 65034, 65035, 65036, 65037, 65038, 65039, 173, 847, 8288, 65279] := by decide +kernel
theorem codes_b1 : ∀ x ∈ ([65024, 65025, 65026, 65027, 65028, 65029, 6150, 65030, 65031, 65032, 65033, 6155, 6156, 6157, 8203, 8204, 8205, 65034, 65035, 65036, 65037, 65038, 65039, 173, 847, 8288, 65279] : List Int), x ∈ b1codes := by decide +kernel
theorem b1_codes : ∀ x ∈ b1codes, x ∈ ([65024, 65025, 65026, 65027, 65028, 65029, 6150, 65030, 65031, 65032, 65033, 6155, 6156, 6157, 8203, 8204, 8205, 65034, 65035, 65036, 65037, 65038, 65039, 173, 847, 8288, 65279] : List Int) := by decide +kernel
theorem set127 {w : World} {h : Heap} (hg : h.get? 127 = some (o_127 w.params)) : h.SetOf (intKind rwp w) 127 b1S 27 := by
  refine ⟨o_127 w.params, (ivOf setIV).toArray, _, _, hg, ⟨rfl, rfl, rfl⟩, rfl, ?_, ?_, by decide, ?_, rfl⟩
  · intro e he
    obtain ⟨p, hp, rfl⟩ := ivOf_mem (by simpa using he)
    exact ⟨⟨Int.ofNat p.1, isInt_self _ _, (hashes p hp).symm⟩, rfl⟩
  · intro k
    have key : (∃ e, e ∈ (ivOf setIV).toArray.toList ∧ (intKind rwp w).is k e.2 = true) ↔ k ∈ setIV.map (fun p => Int.ofNat p.1) := by
      constructor
      · rintro ⟨e, he, hk⟩
        obtain ⟨p, hp, rfl⟩ := ivOf_mem (by simpa using he)
        have hk' : Value.isInt k (.int (Int.ofNat p.1) p.2) = true := hk
        have : k = Int.ofNat p.1 := (eq_of_beq hk').symm
        exact List.mem_map.mpr ⟨p, hp, this.symm⟩
      · intro hk
        obtain ⟨p, hp, rfl⟩ := List.mem_map.mp hk
        exact ⟨(Int.ofNat p.1, .int (Int.ofNat p.1) p.2), (List.mem_map.mpr ⟨p, hp, rfl⟩ : (Int.ofNat p.1, Value.int (Int.ofNat p.1) p.2) ∈ ivOf setIV), isInt_self _ _⟩
    rw [key, codes_eq]
    unfold b1S
    rw [List.contains_iff_mem]
    exact ⟨b1_codes k, codes_b1 k⟩
  · kernel_rfl!
/-- what the walk may lean on -/
noncomputable def YH (w : World) (h : Heap) : Prop := (K w.params).In h ∧ h.SetOf (intKind rwp w) 127 b1S 27 ∧ IntTab rwp w h 138 tabD ∧ h.get? 63 = some (o_63 w.params) ∧ h.get? 70 = some (o_70 w.params)
theorem YH_of {w : World} {os : OsState} {s : Shared} (h : Left w os s) : YH w s.heap := by
  obtain ⟨x, kvs, rfl, hd, hv⟩ := h
  exact ⟨K_in _ _, set127 (get127 _ _), ⟨by decide, kvs, hd, flat_of hv⟩, get63 _ _, get70 _ _⟩
theorem YH_keep {w : World} {h h' : Heap} (y : YH w h) (k : ∀ b o, h.get? b = some o → h'.get? b = some o) : YH w h' := by
  obtain ⟨a, b, c, d, e⟩ := y
  refine ⟨fun x o hx => k _ _ (a x o hx), setOf_keep b k, ?_, k _ _ d, k _ _ e⟩
  obtain ⟨c1, kvs, ⟨o, es, ep, c2, c3⟩, c4⟩ := c
  exact ⟨c1, kvs, ⟨o, es, ep, k _ _ c2, c3⟩, c4⟩
end Mine
end
section
open PySem PySem.W PyProof.Rows
set_option Elab.async false
set_option maxRecDepth 100000
set_option maxHeartbeats 400000
set_option linter.unusedVariables false
namespace Mine
noncomputable abbrev XPH := XL viewH []
theorem open_eq : opening prog = plainProg prog.main.scope.names := by kernel_rfl!
theorem fence_eq (s : Shared) : fenceModules? prog s = some s := by kernel_rfl!
theorem ten_of : ∀ b, b < 11 → b ≠ 3 → b = 0 ∨ b = 1 ∨ b = 2 ∨ b = 4 ∨ b = 5 ∨ b = 6 ∨ b = 7 ∨ b = 8 ∨ b = 9 ∨ b = 10 := by decide
theorem boot_get (P : Params) (x : Nat → Obj) (b : Nat) (hb : b < 11) (h3 : b ≠ 3) : (T18 P x).get b = (TB P).get b := by
  have := ten_of b hb h3
  rcases this with rfl | rfl | rfl | rfl | rfl | rfl | rfl | rfl | rfl | rfl <;> kernel_rfl!
theorem behindH (w : World) : (∃ s, AfterRun (opening prog) w s) ∧ ∀ s, AfterRun (opening prog) w s → ∃ s₀, fenceModules? prog s = some s₀ ∧ s₀.gens = #[] ∧ ∃ s₁, TopRan prog w s₀ s₁ ∧ s₁.asleep ∧ s₁.gens = #[] ∧ s₁.heap.isNs mainGlobals = true ∧
      Ground viewH looseH [] XPH w s₁ (s₁.heap.nsMap mainGlobals) (s₁.heap.nsMap builtinsNs) s₁.heap ∧ YH w s₁.heap := by
  have hb := boot_open (p := prog) (N := 600) open_eq (by decide) fence_eq w
  rw [← table_eq_tree] at hb
  obtain ⟨s₀, h2, hv⟩ := Option.map_eq_some_iff.mp hb
  obtain ⟨s, h4, h5⟩ := Option.bind_eq_some_iff.mp h2
  have A := AfterImport.of_importEnds h4
  refine ⟨⟨s, A⟩, fun s' hs' => ?_⟩
  obtain rfl : s' = s := AfterImport.unique hs' A
  obtain ⟨he, ge, dr, tk, os⟩ := s₀
  simp only [Prod.mk.injEq] at hv
  obtain ⟨rfl, rfl, rfl, rfl⟩ := hv
  have e0 : (⟨boot_heap w.params, #[], boot_drawn, boot_toks, os⟩ : Shared) = (stH (TB w.params) 11 181 os).abs := by
    show _ = (⟨absHeap (TB w.params) 11 {}, #[], boot_drawn, 181, os⟩ : Shared)
    rw [heapB]
    rfl
  obtain ⟨s₁, hL, hrun⟩ := top_sched w os
  rw [← e0] at hrun
  have hY := YH_of hL
  refine ⟨_, h5, rfl, s₁, ?_⟩
  obtain ⟨x, kvs, rfl, hd, hvals⟩ := hL
  obtain ⟨G, g0, g1, g2, g3, g4, g5⟩ := ground_of_open (XP := XPH) (w := w) (fun s e => xl_of s e) chH (looks5 w x os)
  refine ⟨⟨hrun, rfl, Shared.rest_eq rfl, fun b o hbo hn => ?_, g2, statics_of_ok (looks1 w x os), g3, g4, g5, gens_of_done (looks4 w x os), names_of_bound (looks3 w x os), laid_of_kept (looks2 w x os)⟩, ⟨rfl, rfl⟩, rfl, g1, G, hY⟩
  have h3 : b ≠ 3 := fun q => hn (.inl q)
  have hb' : (absHeap (TB w.params) 11 {}).get? b = some o := by rw [heapB]; exact hbo
  have hlt : b < 11 := by have := Heap.lt_size hb'; rwa [absHeap_size] at this
  show (absHeap (T18 w.params x) 220 {}).get? b = some o
  cases hg : (TB w.params).get b with
  | none =>
    exfalso
    have ho := obj_of_get hb'
    have := get_alive (life := {}) (n := 11) (t := TB w.params) (by kernel_rfl!) b (by rw [absHeap_size]; exact hlt)
    have e := alive_of (t := TB w.params) (n := 11) (by kernel_rfl!) b hlt
    rw [hg] at e; cases e
  | some o' =>
    rw [abs_get hlt hg] at hb'
    rw [abs_get (Nat.lt_trans hlt (by decide)) ((boot_get w.params x b hlt h3).trans hg)]
    exact hb'
end Mine
end
section
open PySem PySem.W PyProof.Rows
set_option Elab.async false
set_option maxRecDepth 100000
set_option maxHeartbeats 400000
set_option linter.unusedVariables false
namespace Mine
theorem holds_from {r : OpenRow} {q : Program} {loose : List Str} {XP : (Str → Option Value) → Heap → Prop} {YP : World → Heap → Prop} {d : DefRec} {kwd : List (Str × PySem.Expr)}
    (beh : ∀ w : World, (∃ s, AfterRun (opening r.prog) w s) ∧ ∀ s, AfterRun (opening r.prog) w s → ∃ s₀, fenceModules? r.prog s = some s₀ ∧ s₀.gens = #[] ∧ ∃ s₁, TopRan r.prog w s₀ s₁ ∧ s₁.asleep ∧ s₁.gens = #[] ∧ s₁.heap.isNs mainGlobals = true ∧
      Ground q loose [] XP w s₁ (s₁.heap.nsMap mainGlobals) (s₁.heap.nsMap builtinsNs) s₁.heap ∧ YP w s₁.heap)
    (hYk : ∀ w h h', YP w h → (∀ b o, h.get? b = some o → h'.get? b = some o) → YP w h') (hXk : ∀ mg h h', XP mg h → (∀ b o, h.get? b = some o → h'.get? b = some o) → XP mg h')
    (hdef : defOf q r.name = some (d, kwd)) (hp : r.prog.theDef r.name = some (d.params, d.body, d.scope)) (hk : kwWritten? d.params.kwonlyargs d.params.kw_defaults = some kwd)
    (hrec : r.records = []) (k1 : r.wellSaid = true) (o1 : opensWell r.prog = true) (k5 : (frees r.toRowW && r.within.isEmpty) = true) (hb : r.prog.bare) (hw : r.toRowW.promised)
    (call : WalkO q loose XP YP r.toRowW d kwd fun f vs => PySem.call f vs) : r.Holds := by
  obtain ⟨k5, k6⟩ := Bool.and_eq_true_iff.mp k5
  obtain ⟨hsame, hu, ha, hap, hm⟩ := frees_parts k5
  have hwr : (!r.writes || r.records.isEmpty) = true := by rw [hrec]; simp
  refine ⟨k1, hw, ⟨hb, o1, by show r.makers.map _ = []; rw [hm]; rfl⟩, hw.witness, fun w => ⟨(beh w).1, fun s' hs' => ?_⟩⟩
  obtain ⟨s₀, hf, hg0, s, hT, hz, hgens, hg, G0, y⟩ := (beh w).2 s' hs'
  have RF : RecFacts r.records s.heap := recFacts_nil hrec
  refine ⟨s₀, hf, hg0, s, hT, fun n hn => ?_, RF.1, RF.2.1, ?_⟩
  · obtain rfl : n = r.name := by split at hn <;> simp_all
    exact pinned_of_view hg G0 hdef hp hk
  have G : Ground q loose r.records XP w s _ _ s.heap := RF.ground G0
  refine ClaimW.callFrom_of_specG (c := r.claim) (tree := fun vs => do match ← nsGet mainNs r.name with
      | some f => do ret (← PySem.call f vs)
      | none => unsupported "claim.caller:no-such-global") hz hgens fun args hpre hlay ord hord => ?_
  obtain ⟨⟨vs, s₁⟩, hlaid⟩ := Option.isSome_iff_exists.mp (layAllW_isSome (P := w.params) (ord := ord) G.has args r.args s (pre_splitW hpre).1)
  have keeps := layAllW_keeps _ _ _ hlaid
  have hal := layAllW_rest _ _ _ hlaid
  obtain ⟨as, hrd, hin, hold⟩ := reads_layAllW hord _ _ _ hlaid hlay s₁.heap (fun _ _ e => e)
  have L : Laid r.records w s s₁ args vs as := ⟨⟨ord, hord, hlaid⟩, hrd, hin, hold, keeps, hal.1.trans hgens, hal.2.2.1⟩
  have G₁ := G.keeps hXk keeps
  obtain ⟨a, o, pm, cd, doc, dV, kV, h1, h2, h3, h4, h5⟩ := G₁.fn hdef
  have h := call w s s₁ _ _ G₁ (hYk _ _ _ y keeps) a o pm cd doc dV kV h2 h3 h4 h5 (defOf_name hdef ▸ h1) L.gens args vs as hpre hlay L.reads L.well (L.low G.low)
  have hi := ident_freeW hu ha hap
  have hwi : r.claim.within = [] := List.isEmpty_iff.mp k6
  have fin : ∀ (t : Result) (x : Shared), GoodWG r.claim (classAt s.heap) (ExcName.means s.heap) args s₁ t x → r.claim.Ends s args vs s₁ t x ∧ x.os = s.os ∧ AllBare x.gens ∧
      (r.writes = true → namesKept r.prog r.keeps s.heap x.heap ∧ ∀ y ∈ r.records, ∀ a, classAt s.heap y.1 = some a → recordClass x.heap a y.1 (y.2.map (·.1)) = true) := fun t x g => by
    have z := g.laid (c := r.claim) hsame hwi hi L
    exact ⟨z.1, z.2.1, z.2.2, fun q => ⟨namesKept_of hT hg _ keeps g.2.1.old, noTable hwr q⟩⟩
  exact ⟨vs, s₁, hlaid, wpAny_bind (wpAny_nsGet G₁.T.g (by rw [h1]; exact wpAny_bind (wpAny_mono h (fun v s' g => wpAny_pure ⟨_, rfl, fin _ _ g⟩) fun e s' g => fin _ _ g)))⟩
end Mine
namespace Mine
theorem hdefH : (defOf viewH PySem.Challenge.rw_tr0061_01.row.name).isSome = true := by kernel_rfl!
noncomputable def defH : DefRec × List (Str × PySem.Expr) := (defOf viewH PySem.Challenge.rw_tr0061_01.row.name).get hdefH
theorem hdefH' : defOf viewH PySem.Challenge.rw_tr0061_01.row.name = some (defH.1, defH.2) := (Option.some_get hdefH).symm
theorem hpH : prog.theDef PySem.Challenge.rw_tr0061_01.row.name = some (defH.1.params, defH.1.body, defH.1.scope) := by kernel_rfl!
theorem hkH : kwWritten? defH.1.params.kwonlyargs defH.1.params.kw_defaults = some defH.2 := by kernel_rfl!
theorem o1H : opensWell prog = true := by kernel_rfl!
theorem k5H : (frees PySem.Challenge.rw_tr0061_01.row.toRowW && PySem.Challenge.rw_tr0061_01.row.within.isEmpty) = true := by kernel_rfl!
theorem hbH : prog.bare := by refine ⟨rfl, rfl, rfl, rfl, rfl, ?_⟩; kernel_rfl!
end Mine
end
section
open PySem PySem.W PyProof.Rows
set_option Elab.async false
set_option maxRecDepth 100000
set_option maxHeartbeats 4000000
set_option linter.unusedVariables false
namespace Mine
theorem promH : PySem.Challenge.rw_tr0061_01.row.toRowW.promised := by w_witness2
theorem and_said {a b : Bool} (x : a = true) (y : b = true) : (a && b) = true := by rw [x, y]; rfl
theorem said_q1 : (importedModules prog.main.body).all cThrough.contains = true := by kernel_rfl!
theorem said_q2 : (["vars", "dir", "locals"] : List Str).filter (readsOut prog prog.main.body) = [] := by kernel_rfl!
theorem said_q3 : noRoadLSs { strict := false, foot := none, bare := [] } prog.main.body = true := by kernel_rfl!
theorem said_q5 : namesResolve prog = true := by kernel_rfl!
theorem said_q7 : prog.boundNames.all (fun n => !worldNames.contains n) = true := by kernel_rfl!
theorem said_q9 : (namesMeet prog prog.main.body fun _ n => attrL n) = true := by kernel_rfl!
theorem said_q10 : sreFenced prog.main = true := by kernel_rfl!
theorem said_q11 : ((moduleNames prog.main.body).isEmpty || lookedIntoSs (moduleNames prog.main.body) prog.main.body) = true := by kernel_rfl!
theorem said_q8 : noRoadLSs { strict := !(importedModules prog.main.body).all cThrough.contains, foot := none, bare := (["vars", "dir", "locals"] : List Str).filter (readsOut prog prog.main.body) } prog.main.body = true := by
  rw [said_q1, said_q2]
  exact said_q3
theorem lookH : looksOpen prog = true := by
  unfold looksOpen
  exact and_said (and_said (and_said (and_said (and_said said_q10 said_q11) said_q5) said_q7) said_q8) said_q9
theorem partH : PySem.Challenge.rw_tr0061_01.row.partSaid = true := by
  unfold OpenRow.partSaid
  repeat' with_reducible refine and_said ?_ ?_
  · exact lookH
  all_goals kernel_rfl!
theorem rowH : PySem.Challenge.rw_tr0061_01.row.wellSaid = true := by
  unfold OpenRow.wellSaid
  repeat' with_reducible refine and_said ?_ ?_
  · exact partH
  all_goals kernel_rfl!
theorem saidH : PySem.Challenge.rw_tr0061_01.wellSaid = true := by
  unfold OpenLaw.wellSaid
  repeat' with_reducible refine and_said ?_ ?_
  · exact rowH
  all_goals kernel_rfl!
theorem endH (walk : WalkO viewH looseH XPH YH PySem.Challenge.rw_tr0061_01.row.toRowW defH.1 defH.2 fun f vs => PySem.call f vs) : PySem.Challenge.rw_tr0061_01.Holds := by
  refine holds_law saidH fun said => ?_
  exact holds_from behindH (fun _ _ _ => YH_keep) XL.keeps hdefH' hpH hkH rfl (by assumption) o1H k5H hbH promH walk
end Mine
end
section
open PySem PySem.W PyProof.Rows
set_option Elab.async false
set_option maxRecDepth 100000
set_option maxHeartbeats 1000000
namespace Mine
theorem six_of : ∀ m, m < 6 → m = 0 ∨ m = 1 ∨ m = 2 ∨ m = 3 ∨ m = 4 ∨ m = 5 := by decide
theorem three_of : ∀ m, m < 3 → m = 0 ∨ m = 1 ∨ m = 2 := by decide
theorem good_tab : GoodTab tabD := by
  unfold GoodTab
  refine ⟨by kernel_rfl, fun m hm i hi => ?_⟩
  rcases six_of m hm with rfl | rfl | rfl | rfl | rfl | rfl <;> rcases three_of i hi with rfl | rfl | rfl <;> kernel_rfl
end Mine
end
section
open PySem PySem.W PyProof.Rows
set_option Elab.async false
set_option maxRecDepth 100000
set_option maxHeartbeats 8000000
set_option linter.unusedVariables false
namespace Mine
theorem old_of {P : Params} {h h' : Heap} (X : (K P).In h) (kp : Kp h h') (t1 : Tab h' 67 63) (t2 : Tab h' 74 70) (e63 : h.get? 63 = some (o_63 P)) (e70 : h.get? 70 = some (o_70 P)) (s1 : isCodeTable h 63) (s2 : isCodeTable h 70) : OldK h h' := by
  obtain ⟨ps, _, q1⟩ := t1.obj
  obtain ⟨ps', _, q2⟩ := t2.obj
  refine ⟨fun b o e => ?_, fun b o e => ?_⟩
  · by_cases b1 : b = 63
    · subst b1
      rw [e63] at e; cases e
      exact .inr (.inl ⟨s1, rfl, #[], ps, rfl, by rw [q1, Array.empty_append]; rfl⟩)
    by_cases b2 : b = 70
    · subst b2
      rw [e70] at e; cases e
      exact .inr (.inl ⟨s2, rfl, #[], ps', rfl, by rw [q2, Array.empty_append]; rfl⟩)
    exact .inl (kp b o b1 b2 e)
  · by_cases b1 : b = 63
    · exact ⟨_, b1 ▸ q1⟩
    by_cases b2 : b = 70
    · exact ⟨_, b2 ▸ q2⟩
    exact ⟨o, kp b o b1 b2 e⟩
theorem tab_start67 {P : Params} {h : Heap} (X : (K P).In h) (e : h.get? 63 = some (o_63 P)) : Tab h 67 63 := tab67 (ps := #[]) X (by first | exact trivial | decide | exact ⟨⟩) e
theorem tab_start74 {P : Params} {h : Heap} (X : (K P).In h) (e : h.get? 70 = some (o_70 P)) : Tab h 74 70 := tab74 (ps := #[]) X (by first | exact trivial | decide | exact ⟨⟩) e
theorem tab_code {h : Heap} {c P : Addr} (t : Tab h c P) : isCodeTable h P := by
  obtain ⟨ps, _, b⟩ := t
  exact b.isCodeTable
theorem warmW (P : Params) : PySem.Challenge.rw_tr0061_01 = PySem.Challenge.rw_tr0061_01 ∧ K P = K P := by k_fill; exact ⟨rfl, rfl⟩
theorem walkH : WalkO viewH looseH XPH YH PySem.Challenge.rw_tr0061_01.row.toRowW defH.1 defH.2 fun f vs => PySem.call f vs := by
  intro w s₀ s₁ mg mb G Y fa o pm cd doc dV kV ho hd hcd hD hmg hg args vals as hpre hlay hrd hwl hlo
  have KX : (K w.params).In s₁.heap := Y.1
  have Y2 := Y.2
  refine Ground.open G ?_
  intro T B D TE TW
  clear D
  wrow_args hpre hlay hrd hwl hlo
  rename Heap.IsList _ _ _ => hL
  rename IntsAre _ _ => hI
  rename ¬ _ => hcond
  obtain ⟨hS, hT, h63, h70⟩ := Y2
  have TR := topRead_of T
  have e219 : mg (Str.ofString "law") = some (.ref 219) := mg_of KX TR.g (by kernel_rfl)
  have hfa : fa = 219 := by
    have q : mg (Str.ofString "law") = some (.ref fa) := hmg
    rw [e219] at q; cases q; rfl
  subst hfa
  have t1 := tab_start67 KX h63
  have t2 := tab_start74 KX h70
  show wpAny (model rwp w) callerA (PySem.call (.ref 219) _) _ _ _
  refine wpAny_call (spec_law KX TR (by decide) (by decide) rfl hS hT good_tab t1 t2 hL hI (by omega) fun h' tk gs kp q1 q2 bb => ?_)
  have hb : AllBare gs := bb (by rw [hg]; exact .empty)
  exact ⟨.inl ⟨.bool true, .bool true, [], rfl, fun _ => rfl, .bool true, by wrow_post, fun _ => ⟨List.nodup_nil, fun a ha => by simp at ha⟩⟩, old_of KX kp q1 q2 h63 h70 (tab_code t1) (tab_code t2), rfl, hb⟩
end Mine
end
open PySem PySem.W PyProof.Rows
set_option Elab.async false
theorem PySem.Challenge.cw_tr0061_01_holds : PySem.Challenge.rw_tr0061_01.Holds := by
  exact Mine.endH Mine.walkH
