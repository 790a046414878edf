import PyProof.Rows.All
import Wide.All
import OpenK.AllK
import Wide.FinOn
import Lean
import PySem.Challenge.RW_pg0066_01
set_option Elab.async false
section -- part H0
open PySem PySem.W PyProof.Rows
namespace Mine
def ps : Pos := { line := 1, col := 0, endLine := 1, endCol := 1 }
@[irreducible] def exprI : Expr := .Constant (Const.none) 0 ps
def progI : Program := { PySem.Challenge.pw_pg0066_01 with main := { PySem.Challenge.pw_pg0066_01.main with body := Stmt.Expr exprI ps :: PySem.Challenge.pw_pg0066_01.main.body } }
def rowI : OpenRow := { PySem.Challenge.rw_pg0066_01.row with prog := progI }
set_option maxRecDepth 100000 in
set_option maxHeartbeats 8000000 in
open_top hd for rowI
end Mine

end
section -- part H2
open PySem PySem.W PySem.W.X PyProof.Rows
namespace Mine
set_option maxRecDepth 100000 in
set_option maxHeartbeats 8000000 in
noncomputable def extra (P : Params) : Frag := [
    (0, (⟨.type "dict", none, .dict #[⟨PyData.keyHash P (Str.ofString "__name__"), .str (Str.ofString "__name__") 1, .str (Str.ofString "builtins") 160⟩, ⟨PyData.keyHash P (Str.ofString "__doc__"), .str (Str.ofString "__doc__") 2, .builtin "builtins.__doc__:str#opaque"⟩, ⟨PyData.keyHash P (Str.ofString "__package__"), .str (Str.ofString "__package__") 3, .builtin "builtins.__package__:str#opaque"⟩, ⟨PyData.keyHash P (Str.ofString "__loader__"), .str (Str.ofString "__loader__") 4, .builtin "builtins.__loader__:shared#opaque"⟩, ⟨PyData.keyHash P (Str.ofString "__spec__"), .str (Str.ofString "__spec__") 5, .builtin "builtins.__spec__#opaque"⟩, ⟨PyData.keyHash P (Str.ofString "__build_class__"), .str (Str.ofString "__build_class__") 6, .builtin "__build_class__"⟩, ⟨PyData.keyHash P (Str.ofString "__import__"), .str (Str.ofString "__import__") 7, .builtin "__import__"⟩, ⟨PyData.keyHash P (Str.ofString "abs"), .str (Str.ofString "abs") 8, .builtin "abs"⟩, ⟨PyData.keyHash P (Str.ofString "all"), .str (Str.ofString "all") 9, .builtin "all"⟩, ⟨PyData.keyHash P (Str.ofString "any"), .str (Str.ofString "any") 10, .builtin "any"⟩, ⟨PyData.keyHash P (Str.ofString "ascii"), .str (Str.ofString "ascii") 11, .builtin "ascii"⟩, ⟨PyData.keyHash P (Str.ofString "bin"), .str (Str.ofString "bin") 12, .builtin "bin"⟩, ⟨PyData.keyHash P (Str.ofString "breakpoint"), .str (Str.ofString "breakpoint") 13, .builtin "breakpoint"⟩, ⟨PyData.keyHash P (Str.ofString "callable"), .str (Str.ofString "callable") 14, .builtin "callable"⟩, ⟨PyData.keyHash P (Str.ofString "chr"), .str (Str.ofString "chr") 15, .builtin "chr"⟩, ⟨PyData.keyHash P (Str.ofString "compile"), .str (Str.ofString "compile") 16, .builtin "compile"⟩, ⟨PyData.keyHash P (Str.ofString "delattr"), .str (Str.ofString "delattr") 17, .builtin "delattr"⟩, ⟨PyData.keyHash P (Str.ofString "dir"), .str (Str.ofString "dir") 18, .builtin "dir"⟩, ⟨PyData.keyHash P (Str.ofString "divmod"), .str (Str.ofString "divmod") 19, .builtin "divmod"⟩, ⟨PyData.keyHash P (Str.ofString "eval"), .str (Str.ofString "eval") 20, .builtin "eval"⟩, ⟨PyData.keyHash P (Str.ofString "exec"), .str (Str.ofString "exec") 21, .builtin "exec"⟩, ⟨PyData.keyHash P (Str.ofString "format"), .str (Str.ofString "format") 22, .builtin "format"⟩, ⟨PyData.keyHash P (Str.ofString "getattr"), .str (Str.ofString "getattr") 23, .builtin "getattr"⟩, ⟨PyData.keyHash P (Str.ofString "globals"), .str (Str.ofString "globals") 24, .builtin "globals"⟩, ⟨PyData.keyHash P (Str.ofString "hasattr"), .str (Str.ofString "hasattr") 25, .builtin "hasattr"⟩, ⟨PyData.keyHash P (Str.ofString "hash"), .str (Str.ofString "hash") 26, .builtin "hash"⟩, ⟨PyData.keyHash P (Str.ofString "hex"), .str (Str.ofString "hex") 27, .builtin "hex"⟩, ⟨PyData.keyHash P (Str.ofString "id"), .str (Str.ofString "id") 28, .builtin "id"⟩, ⟨PyData.keyHash P (Str.ofString "input"), .str (Str.ofString "input") 29, .builtin "input"⟩, ⟨PyData.keyHash P (Str.ofString "isinstance"), .str (Str.ofString "isinstance") 30, .builtin "isinstance"⟩, ⟨PyData.keyHash P (Str.ofString "issubclass"), .str (Str.ofString "issubclass") 31, .builtin "issubclass"⟩, ⟨PyData.keyHash P (Str.ofString "iter"), .str (Str.ofString "iter") 32, .builtin "iter"⟩, ⟨PyData.keyHash P (Str.ofString "aiter"), .str (Str.ofString "aiter") 33, .builtin "aiter"⟩, ⟨PyData.keyHash P (Str.ofString "len"), .str (Str.ofString "len") 34, .builtin "len"⟩, ⟨PyData.keyHash P (Str.ofString "locals"), .str (Str.ofString "locals") 35, .builtin "locals"⟩, ⟨PyData.keyHash P (Str.ofString "max"), .str (Str.ofString "max") 36, .builtin "max"⟩, ⟨PyData.keyHash P (Str.ofString "min"), .str (Str.ofString "min") 37, .builtin "min"⟩, ⟨PyData.keyHash P (Str.ofString "next"), .str (Str.ofString "next") 38, .builtin "next"⟩, ⟨PyData.keyHash P (Str.ofString "anext"), .str (Str.ofString "anext") 39, .builtin "anext"⟩, ⟨PyData.keyHash P (Str.ofString "oct"), .str (Str.ofString "oct") 40, .builtin "oct"⟩, ⟨PyData.keyHash P (Str.ofString "ord"), .str (Str.ofString "ord") 41, .builtin "ord"⟩, ⟨PyData.keyHash P (Str.ofString "pow"), .str (Str.ofString "pow") 42, .builtin "pow"⟩, ⟨PyData.keyHash P (Str.ofString "print"), .str (Str.ofString "print") 43, .builtin "print"⟩, ⟨PyData.keyHash P (Str.ofString "repr"), .str (Str.ofString "repr") 44, .builtin "repr"⟩, ⟨PyData.keyHash P (Str.ofString "round"), .str (Str.ofString "round") 45, .builtin "round"⟩, ⟨PyData.keyHash P (Str.ofString "setattr"), .str (Str.ofString "setattr") 46, .builtin "setattr"⟩, ⟨PyData.keyHash P (Str.ofString "sorted"), .str (Str.ofString "sorted") 47, .builtin "sorted"⟩, ⟨PyData.keyHash P (Str.ofString "sum"), .str (Str.ofString "sum") 48, .builtin "sum"⟩, ⟨PyData.keyHash P (Str.ofString "vars"), .str (Str.ofString "vars") 49, .builtin "vars"⟩, ⟨PyData.keyHash P (Str.ofString "None"), .str (Str.ofString "None") 50, .none⟩, ⟨PyData.keyHash P (Str.ofString "Ellipsis"), .str (Str.ofString "Ellipsis") 51, .ellipsis⟩, ⟨PyData.keyHash P (Str.ofString "NotImplemented"), .str (Str.ofString "NotImplemented") 52, .notImplemented⟩, ⟨PyData.keyHash P (Str.ofString "False"), .str (Str.ofString "False") 53, .bool false⟩, ⟨PyData.keyHash P (Str.ofString "True"), .str (Str.ofString "True") 54, .bool true⟩, ⟨PyData.keyHash P (Str.ofString "bool"), .str (Str.ofString "bool") 55, .type "bool"⟩, ⟨PyData.keyHash P (Str.ofString "memoryview"), .str (Str.ofString "memoryview") 56, .type "memoryview"⟩, ⟨PyData.keyHash P (Str.ofString "bytearray"), .str (Str.ofString "bytearray") 57, .type "bytearray"⟩, ⟨PyData.keyHash P (Str.ofString "bytes"), .str (Str.ofString "bytes") 58, .type "bytes"⟩, ⟨PyData.keyHash P (Str.ofString "classmethod"), .str (Str.ofString "classmethod") 59, .type "classmethod"⟩, ⟨PyData.keyHash P (Str.ofString "complex"), .str (Str.ofString "complex") 60, .type "complex"⟩, ⟨PyData.keyHash P (Str.ofString "dict"), .str (Str.ofString "dict") 61, .type "dict"⟩, ⟨PyData.keyHash P (Str.ofString "enumerate"), .str (Str.ofString "enumerate") 62, .type "enumerate"⟩, ⟨PyData.keyHash P (Str.ofString "filter"), .str (Str.ofString "filter") 63, .type "filter"⟩, ⟨PyData.keyHash P (Str.ofString "float"), .str (Str.ofString "float") 64, .type "float"⟩, ⟨PyData.keyHash P (Str.ofString "frozenset"), .str (Str.ofString "frozenset") 65, .type "frozenset"⟩, ⟨PyData.keyHash P (Str.ofString "property"), .str (Str.ofString "property") 66, .type "property"⟩, ⟨PyData.keyHash P (Str.ofString "int"), .str (Str.ofString "int") 67, .type "int"⟩, ⟨PyData.keyHash P (Str.ofString "list"), .str (Str.ofString "list") 68, .type "list"⟩, ⟨PyData.keyHash P (Str.ofString "map"), .str (Str.ofString "map") 69, .type "map"⟩, ⟨PyData.keyHash P (Str.ofString "object"), .str (Str.ofString "object") 70, .type "object"⟩, ⟨PyData.keyHash P (Str.ofString "range"), .str (Str.ofString "range") 71, .type "range"⟩, ⟨PyData.keyHash P (Str.ofString "reversed"), .str (Str.ofString "reversed") 72, .type "reversed"⟩, ⟨PyData.keyHash P (Str.ofString "set"), .str (Str.ofString "set") 73, .type "set"⟩, ⟨PyData.keyHash P (Str.ofString "slice"), .str (Str.ofString "slice") 74, .type "slice"⟩, ⟨PyData.keyHash P (Str.ofString "staticmethod"), .str (Str.ofString "staticmethod") 75, .type "staticmethod"⟩, ⟨PyData.keyHash P (Str.ofString "str"), .str (Str.ofString "str") 76, .type "str"⟩, ⟨PyData.keyHash P (Str.ofString "super"), .str (Str.ofString "super") 77, .type "super"⟩, ⟨PyData.keyHash P (Str.ofString "tuple"), .str (Str.ofString "tuple") 78, .type "tuple"⟩, ⟨PyData.keyHash P (Str.ofString "type"), .str (Str.ofString "type") 79, .type "type"⟩, ⟨PyData.keyHash P (Str.ofString "zip"), .str (Str.ofString "zip") 80, .type "zip"⟩, ⟨PyData.keyHash P (Str.ofString "__debug__"), .str (Str.ofString "__debug__") 81, .bool true⟩, ⟨PyData.keyHash P (Str.ofString "BaseException"), .str (Str.ofString "BaseException") 82, .type "BaseException"⟩, ⟨PyData.keyHash P (Str.ofString "BaseExceptionGroup"), .str (Str.ofString "BaseExceptionGroup") 83, .type "BaseExceptionGroup"⟩, ⟨PyData.keyHash P (Str.ofString "Exception"), .str (Str.ofString "Exception") 84, .type "Exception"⟩, ⟨PyData.keyHash P (Str.ofString "GeneratorExit"), .str (Str.ofString "GeneratorExit") 85, .type "GeneratorExit"⟩, ⟨PyData.keyHash P (Str.ofString "KeyboardInterrupt"), .str (Str.ofString "KeyboardInterrupt") 86, .type "KeyboardInterrupt"⟩, ⟨PyData.keyHash P (Str.ofString "SystemExit"), .str (Str.ofString "SystemExit") 87, .type "SystemExit"⟩, ⟨PyData.keyHash P (Str.ofString "ArithmeticError"), .str (Str.ofString "ArithmeticError") 88, .type "ArithmeticError"⟩, ⟨PyData.keyHash P (Str.ofString "AssertionError"), .str (Str.ofString "AssertionError") 89, .type "AssertionError"⟩, ⟨PyData.keyHash P (Str.ofString "AttributeError"), .str (Str.ofString "AttributeError") 90, .type "AttributeError"⟩, ⟨PyData.keyHash P (Str.ofString "BufferError"), .str (Str.ofString "BufferError") 91, .type "BufferError"⟩, ⟨PyData.keyHash P (Str.ofString "EOFError"), .str (Str.ofString "EOFError") 92, .type "EOFError"⟩, ⟨PyData.keyHash P (Str.ofString "ImportError"), .str (Str.ofString "ImportError") 93, .type "ImportError"⟩, ⟨PyData.keyHash P (Str.ofString "LookupError"), .str (Str.ofString "LookupError") 94, .type "LookupError"⟩, ⟨PyData.keyHash P (Str.ofString "MemoryError"), .str (Str.ofString "MemoryError") 95, .type "MemoryError"⟩, ⟨PyData.keyHash P (Str.ofString "NameError"), .str (Str.ofString "NameError") 96, .type "NameError"⟩, ⟨PyData.keyHash P (Str.ofString "OSError"), .str (Str.ofString "OSError") 97, .type "OSError"⟩, ⟨PyData.keyHash P (Str.ofString "ReferenceError"), .str (Str.ofString "ReferenceError") 98, .type "ReferenceError"⟩, ⟨PyData.keyHash P (Str.ofString "RuntimeError"), .str (Str.ofString "RuntimeError") 99, .type "RuntimeError"⟩, ⟨PyData.keyHash P (Str.ofString "StopAsyncIteration"), .str (Str.ofString "StopAsyncIteration") 100, .type "StopAsyncIteration"⟩, ⟨PyData.keyHash P (Str.ofString "StopIteration"), .str (Str.ofString "StopIteration") 101, .type "StopIteration"⟩, ⟨PyData.keyHash P (Str.ofString "SyntaxError"), .str (Str.ofString "SyntaxError") 102, .type "SyntaxError"⟩, ⟨PyData.keyHash P (Str.ofString "SystemError"), .str (Str.ofString "SystemError") 103, .type "SystemError"⟩, ⟨PyData.keyHash P (Str.ofString "TypeError"), .str (Str.ofString "TypeError") 104, .type "TypeError"⟩, ⟨PyData.keyHash P (Str.ofString "ValueError"), .str (Str.ofString "ValueError") 105, .type "ValueError"⟩, ⟨PyData.keyHash P (Str.ofString "Warning"), .str (Str.ofString "Warning") 106, .type "Warning"⟩, ⟨PyData.keyHash P (Str.ofString "FloatingPointError"), .str (Str.ofString "FloatingPointError") 107, .type "FloatingPointError"⟩, ⟨PyData.keyHash P (Str.ofString "OverflowError"), .str (Str.ofString "OverflowError") 108, .type "OverflowError"⟩, ⟨PyData.keyHash P (Str.ofString "ZeroDivisionError"), .str (Str.ofString "ZeroDivisionError") 109, .type "ZeroDivisionError"⟩, ⟨PyData.keyHash P (Str.ofString "BytesWarning"), .str (Str.ofString "BytesWarning") 110, .type "BytesWarning"⟩, ⟨PyData.keyHash P (Str.ofString "DeprecationWarning"), .str (Str.ofString "DeprecationWarning") 111, .type "DeprecationWarning"⟩, ⟨PyData.keyHash P (Str.ofString "EncodingWarning"), .str (Str.ofString "EncodingWarning") 112, .type "EncodingWarning"⟩, ⟨PyData.keyHash P (Str.ofString "FutureWarning"), .str (Str.ofString "FutureWarning") 113, .type "FutureWarning"⟩, ⟨PyData.keyHash P (Str.ofString "ImportWarning"), .str (Str.ofString "ImportWarning") 114, .type "ImportWarning"⟩, ⟨PyData.keyHash P (Str.ofString "PendingDeprecationWarning"), .str (Str.ofString "PendingDeprecationWarning") 115, .type "PendingDeprecationWarning"⟩, ⟨PyData.keyHash P (Str.ofString "ResourceWarning"), .str (Str.ofString "ResourceWarning") 116, .type "ResourceWarning"⟩, ⟨PyData.keyHash P (Str.ofString "RuntimeWarning"), .str (Str.ofString "RuntimeWarning") 117, .type "RuntimeWarning"⟩, ⟨PyData.keyHash P (Str.ofString "SyntaxWarning"), .str (Str.ofString "SyntaxWarning") 118, .type "SyntaxWarning"⟩, ⟨PyData.keyHash P (Str.ofString "UnicodeWarning"), .str (Str.ofString "UnicodeWarning") 119, .type "UnicodeWarning"⟩, ⟨PyData.keyHash P (Str.ofString "UserWarning"), .str (Str.ofString "UserWarning") 120, .type "UserWarning"⟩, ⟨PyData.keyHash P (Str.ofString "BlockingIOError"), .str (Str.ofString "BlockingIOError") 121, .type "BlockingIOError"⟩, ⟨PyData.keyHash P (Str.ofString "ChildProcessError"), .str (Str.ofString "ChildProcessError") 122, .type "ChildProcessError"⟩, ⟨PyData.keyHash P (Str.ofString "ConnectionError"), .str (Str.ofString "ConnectionError") 123, .type "ConnectionError"⟩, ⟨PyData.keyHash P (Str.ofString "FileExistsError"), .str (Str.ofString "FileExistsError") 124, .type "FileExistsError"⟩, ⟨PyData.keyHash P (Str.ofString "FileNotFoundError"), .str (Str.ofString "FileNotFoundError") 125, .type "FileNotFoundError"⟩, ⟨PyData.keyHash P (Str.ofString "InterruptedError"), .str (Str.ofString "InterruptedError") 126, .type "InterruptedError"⟩, ⟨PyData.keyHash P (Str.ofString "IsADirectoryError"), .str (Str.ofString "IsADirectoryError") 127, .type "IsADirectoryError"⟩, ⟨PyData.keyHash P (Str.ofString "NotADirectoryError"), .str (Str.ofString "NotADirectoryError") 128, .type "NotADirectoryError"⟩, ⟨PyData.keyHash P (Str.ofString "PermissionError"), .str (Str.ofString "PermissionError") 129, .type "PermissionError"⟩, ⟨PyData.keyHash P (Str.ofString "ProcessLookupError"), .str (Str.ofString "ProcessLookupError") 130, .type "ProcessLookupError"⟩, ⟨PyData.keyHash P (Str.ofString "TimeoutError"), .str (Str.ofString "TimeoutError") 131, .type "TimeoutError"⟩, ⟨PyData.keyHash P (Str.ofString "IndentationError"), .str (Str.ofString "IndentationError") 132, .type "IndentationError"⟩, ⟨PyData.keyHash P (Str.ofString "_IncompleteInputError"), .str (Str.ofString "_IncompleteInputError") 133, .type "_IncompleteInputError"⟩, ⟨PyData.keyHash P (Str.ofString "IndexError"), .str (Str.ofString "IndexError") 134, .type "IndexError"⟩, ⟨PyData.keyHash P (Str.ofString "KeyError"), .str (Str.ofString "KeyError") 135, .type "KeyError"⟩, ⟨PyData.keyHash P (Str.ofString "ModuleNotFoundError"), .str (Str.ofString "ModuleNotFoundError") 136, .type "ModuleNotFoundError"⟩, ⟨PyData.keyHash P (Str.ofString "NotImplementedError"), .str (Str.ofString "NotImplementedError") 137, .type "NotImplementedError"⟩, ⟨PyData.keyHash P (Str.ofString "PythonFinalizationError"), .str (Str.ofString "PythonFinalizationError") 138, .type "PythonFinalizationError"⟩, ⟨PyData.keyHash P (Str.ofString "RecursionError"), .str (Str.ofString "RecursionError") 139, .type "RecursionError"⟩, ⟨PyData.keyHash P (Str.ofString "UnboundLocalError"), .str (Str.ofString "UnboundLocalError") 140, .type "UnboundLocalError"⟩, ⟨PyData.keyHash P (Str.ofString "UnicodeError"), .str (Str.ofString "UnicodeError") 141, .type "UnicodeError"⟩, ⟨PyData.keyHash P (Str.ofString "BrokenPipeError"), .str (Str.ofString "BrokenPipeError") 142, .type "BrokenPipeError"⟩, ⟨PyData.keyHash P (Str.ofString "ConnectionAbortedError"), .str (Str.ofString "ConnectionAbortedError") 143, .type "ConnectionAbortedError"⟩, ⟨PyData.keyHash P (Str.ofString "ConnectionRefusedError"), .str (Str.ofString "ConnectionRefusedError") 144, .type "ConnectionRefusedError"⟩, ⟨PyData.keyHash P (Str.ofString "ConnectionResetError"), .str (Str.ofString "ConnectionResetError") 145, .type "ConnectionResetError"⟩, ⟨PyData.keyHash P (Str.ofString "TabError"), .str (Str.ofString "TabError") 146, .type "TabError"⟩, ⟨PyData.keyHash P (Str.ofString "UnicodeDecodeError"), .str (Str.ofString "UnicodeDecodeError") 147, .type "UnicodeDecodeError"⟩, ⟨PyData.keyHash P (Str.ofString "UnicodeEncodeError"), .str (Str.ofString "UnicodeEncodeError") 148, .type "UnicodeEncodeError"⟩, ⟨PyData.keyHash P (Str.ofString "UnicodeTranslateError"), .str (Str.ofString "UnicodeTranslateError") 149, .type "UnicodeTranslateError"⟩, ⟨PyData.keyHash P (Str.ofString "ExceptionGroup"), .str (Str.ofString "ExceptionGroup") 150, .type "ExceptionGroup"⟩, ⟨PyData.keyHash P (Str.ofString "EnvironmentError"), .str (Str.ofString "EnvironmentError") 151, .type "OSError"⟩, ⟨PyData.keyHash P (Str.ofString "IOError"), .str (Str.ofString "IOError") 152, .type "OSError"⟩, ⟨PyData.keyHash P (Str.ofString "open"), .str (Str.ofString "open") 153, .builtin "open"⟩, ⟨PyData.keyHash P (Str.ofString "quit"), .str (Str.ofString "quit") 154, .builtin "builtins.quit#opaque"⟩, ⟨PyData.keyHash P (Str.ofString "exit"), .str (Str.ofString "exit") 155, .builtin "builtins.exit#opaque"⟩, ⟨PyData.keyHash P (Str.ofString "copyright"), .str (Str.ofString "copyright") 156, .builtin "builtins.copyright#opaque"⟩, ⟨PyData.keyHash P (Str.ofString "credits"), .str (Str.ofString "credits") 157, .builtin "builtins.credits#opaque"⟩, ⟨PyData.keyHash P (Str.ofString "license"), .str (Str.ofString "license") 158, .builtin "builtins.license#opaque"⟩, ⟨PyData.keyHash P (Str.ofString "help"), .str (Str.ofString "help") 159, .builtin "builtins.help#opaque"⟩] 159, #[]⟩ : Obj)), (4, (⟨.type "module", some 0, .plain, #[]⟩ : Obj))]
noncomputable def K (P : Params) : Frag := Mine.hd.heap_1 P ++ extra P
theorem filled : PySem.Challenge.rw_pg0066_01 = PySem.Challenge.rw_pg0066_01 ∧ Mine.K = Mine.K := by
  k_fill
  exact ⟨rfl, rfl⟩
end Mine

end
section -- part R1
open PySem PySem.W PyProof.Rows PySem.Calls
set_option maxRecDepth 100000
namespace Mine
section
variable {prog : Program} {w : World} {A : Around} {E : Value → Shared → Prop} {s : Shared} {K : Frag} {x C : Addr} {ox : Obj} {od : Option Obj} {name : Str} {h₀ : Heap} {L : Addr} {m : Str → Option Value} {news news' : List (Addr × Obj)}

/-- a method of the built-in base, found along an own class -/
theorem method_base {id : String} {pl : Sem Bool} {Q : Value × List Value → Shared → Prop} (X : K.In s.heap) (I : InstAt s.heap x ox C od) {ga : String} (hga : findIn K (.ref C) "__getattribute__" = some (some (.builtin ga))) (hcan : Manifest.canonical ga = "object.__getattribute__") (hk : findIn K (.ref C) "__getattr__" = some none)
    (hf : findIn K (.ref C) name = some (some (.builtin id))) (ht : typeOf (.builtin id) = pure (.type "method_descriptor")) (hs : shadowIn od name = some false) (h : Q (.builtin id, [.ref x]) s) :
    wpAny (model prog w) A (getMethod (.ref x) name pl) Q E s := by
  unfold getMethod specialOf
  refine wpAny_bind (wpAny_bind (I.type.here ((looks_findIn X hga).here ?_)))
  dsimp only
  rw [hcan, if_neg (by decide)]
  refine wpAny_bind (wpAny_bind (I.type.here ((looks_findIn X hk).here ?_)))
  refine wpAny_bind (wpAny_bind (I.type.here ((looks_findIn X hf).here (wpAny_bind ?_))))
  rw [ht]
  refine wpAny_pure ?_
  rw [if_neg (by decide +kernel)]
  refine wpAny_bind (wpAny_loadPart I.at_ ?_)
  have hd := I.dict
  cases e : ox.dict with
  | none => exact wpAny_bind (wpAny_rule (wpAny_pure h))
  | some dx =>
    cases od with
    | none => rw [e] at hd; exact hd.elim
    | some o =>
      rw [e] at hd
      obtain ⟨r, a, b⟩ := Option.map_eq_some_iff.mp hs
      refine wpAny_bind (wpAny_bind (wpAny_loadPart hd ?_))
      rw [nsLook_of a]
      refine wpAny_pure ?_
      rw [b]
      exact wpAny_bind (wpAny_rule (wpAny_pure h))

theorem method_own {f : Addr} {pl : Sem Bool} {Q : Value × List Value → Shared → Prop} (X : K.In s.heap) (I : InstAt s.heap x ox C od) {ga : String} (hga : findIn K (.ref C) "__getattribute__" = some (some (.builtin ga))) (hcan : Manifest.canonical ga = "object.__getattribute__") (hk : findIn K (.ref C) "__getattr__" = some none)
    (hf : findIn K (.ref C) name = some (some (.ref f))) (ht : typeIn K (.ref f) = some (.type "function")) (hs : shadowIn od name = some false) (h : Q (.ref f, [.ref x]) s) :
    wpAny (model prog w) A (getMethod (.ref x) name pl) Q E s := by
  unfold getMethod specialOf
  refine wpAny_bind (wpAny_bind (I.type.here ((looks_findIn X hga).here ?_)))
  dsimp only
  rw [hcan, if_neg (by decide)]
  refine wpAny_bind (wpAny_bind (I.type.here ((looks_findIn X hk).here ?_)))
  refine wpAny_bind (wpAny_bind (I.type.here ((looks_findIn X hf).here (wpAny_bind ((looks_typeIn X ht).here ?_)))))
  rw [if_neg (by decide +kernel)]
  refine wpAny_bind (wpAny_loadPart I.at_ ?_)
  have hd := I.dict
  cases e : ox.dict with
  | none => exact wpAny_bind (wpAny_rule (wpAny_pure h))
  | some dx =>
    cases od with
    | none => rw [e] at hd; exact hd.elim
    | some o =>
      rw [e] at hd
      obtain ⟨r, a, b⟩ := Option.map_eq_some_iff.mp hs
      refine wpAny_bind (wpAny_bind (wpAny_loadPart hd ?_))
      rw [nsLook_of a]
      refine wpAny_pure ?_
      rw [b]
      exact wpAny_bind (wpAny_rule (wpAny_pure h))

/-- a built-in method called upon an instance of an own class below its type -/
theorem check_sub {id owner n : String} {rest : List Value} {kw : List (Str × Value)} {Q : Unit → Shared → Prop} (X : K.In s.heap) (I : InstAt s.heap x ox C od)
    (hsplit : splitId id = some (owner, n))
    (hkind : (Manifest.find? owner).bind (·.attrs.lookup n) = some .slot ∨ (Manifest.find? owner).bind (·.attrs.lookup n) = some .method)
    (hm : mroIn K C (.type owner) = some true) (ha : argsOk id ⟨.ref x :: rest, kw⟩) (h : Q () s) :
    wpAny (model prog w) A (checkBuiltinCall id ⟨.ref x :: rest, kw⟩) Q E s := by
  have hk : builtinKind id = (Manifest.find? owner).bind (·.attrs.lookup n) := by simp only [builtinKind, hsplit]
  have S : Looks (model prog w) s.heap (isInstance (.ref x) (.type owner)) true := I.type.andThen (looks_mroIn X hm)
  rcases hkind with h' | h' <;>
    · simp only [checkBuiltinCall, hk, h', hsplit]
      refine wpAny_bind (S.here ?_)
      simp only [Bool.not_true, Bool.false_eq_true, if_false]
      cases hsig : Manifest.signature? id with
      | none => exact wpAny_pure h
      | some sig =>
        simp only [argsOk, hsig] at ha
        have h2 : Bind.checkArgs id sig ⟨.ref x :: rest, kw⟩ = pure () := ha
        show wpAny _ A (Bind.checkArgs id sig ⟨.ref x :: rest, kw⟩) Q E s
        rw [h2]; exact wpAny_pure h

theorem call_sub {id owner n : String} {b : Builtin} {rest : List Value} {Q : Value → Shared → Prop} (X : K.In s.heap) (I : InstAt s.heap x ox C od)
    (hsplit : splitId id = some (owner, n))
    (hkind : (Manifest.find? owner).bind (·.attrs.lookup n) = some .slot ∨ (Manifest.find? owner).bind (·.attrs.lookup n) = some .method)
    (hm : mroIn K C (.type owner) = some true) (ha : argsOk id ⟨.ref x :: rest, []⟩) (hp : plainId id = true) (hb : entryFor table id = some b)
    (hc : wpAny (model prog w) A.in1 (b ⟨.ref x :: rest, []⟩) (fun fin s' => ∃ v, fin = .done (.ret v) ∧ Q v s') E s) :
    wpAny (model prog w) A (call (.builtin id) (.ref x :: rest)) Q E s := by
  refine wpAny_call (codeAny_call_builtin hp hb (check_sub X I hsplit hkind hm ha (wpAny_mono hc (fun fin s' h' => ?_) fun _ _ h' => h')))
  obtain ⟨v, rfl, hv⟩ := h'; exact hv
end

theorem split_append : splitId "list.append" = some ("list", "append") := by decide +kernel
theorem kind_append : (Manifest.find? "list").bind (·.attrs.lookup "append") = some .slot ∨ (Manifest.find? "list").bind (·.attrs.lookup "append") = some .method := by
  first | exact .inl (by decide +kernel) | exact .inr (by decide +kernel)
end Mine

end
section -- part R2
open PySem PySem.W PyProof.Rows PySem.Calls
set_option maxRecDepth 100000
namespace Mine

noncomputable abbrev PP : Program := PySem.Challenge.rw_pg0066_01.row.prog
noncomputable abbrev VV : Program := Mine.hd.view_1
noncomputable abbrev LL : List Str := looseW Mine.hd.view_1 [Str.ofString "_Accumulator"]
noncomputable abbrev deckObj (dd : Addr) (items : Array Value) (n : Nat) : Obj := ⟨.ref 135, some dd, .seq items n, #[]⟩
noncomputable abbrev tupObj (f p : Value) : Obj := { cls := .type "tuple", data := .seq #[f, p] }

theorem inst_deck {h : Heap} {x dx : Addr} {od : Obj} {its : Array Value} {n : Nat} (h1 : h.get? x = some (deckObj dx its n)) (h2 : h.get? dx = some od) :
    InstAt h x (deckObj dx its n) 135 (some od) := ⟨h1, rfl, rfl, h2⟩

theorem ga_deck (w : World) : findIn (Mine.hd.heap_1 w.params) (.ref 135) "__getattribute__" = some (some (.builtin "list.__getattribute__")) := by kernel_rfl
theorem gc_deck : Manifest.canonical "list.__getattribute__" = "object.__getattribute__" := by decide +kernel
theorem gm_deck (w : World) : findIn (Mine.hd.heap_1 w.params) (.ref 135) "__getattr__" = some none := by kernel_rfl
theorem mro_deck (w : World) : mroIn (Mine.hd.heap_1 w.params) 135 (.type "list") = some true := by kernel_rfl

section
variable {w : World} {A : Around} {E : Value → Shared → Prop} {s : Shared} {d dd : Addr} {its : Array Value} {n : Nat} {od : Obj}

theorem special_deck {name : Str} {r : Option Value} {Q : Option Value → Shared → Prop} (X : (Mine.hd.heap_1 w.params).In s.heap) (h1 : s.heap.get? d = some (deckObj dd its n)) (h2 : s.heap.get? dd = some od)
    (hf : findIn (Mine.hd.heap_1 w.params) (.ref 135) name = some r) (h : Q r s) : wpAny (model PP w) A (specialOf (.ref d) name) Q E s :=
  wpAny_bind ((inst_deck h1 h2).type.here ((looks_findIn X hf).here h))

theorem seqKey_deck {i : Value} {name : Str} {Q : Value → Shared → Prop} (X : (Mine.hd.heap_1 w.params).In s.heap) (h1 : s.heap.get? d = some (deckObj dd its n)) (h2 : s.heap.get? dd = some od) (h : Q i s) :
    wpAny (model PP w) A (sequenceKey (.ref d) i name) Q E s := by
  unfold sequenceKey
  refine wpAny_bind ((inst_deck h1 h2).type.here ?_)
  dsimp only
  have q : Looks (model PP w) s.heap (seqItemTypes.anyM fun n => isSubtype (.ref 135) (.type n)) false := Looks.of_peek X (by kernel_rfl)
  refine wpAny_bind (q.here ?_)
  simp only [Bool.not_false, if_true]
  exact wpAny_pure h

theorem callSpecial_deck {id : String} {name : Str} {args : List Value} {Q : Option Value → Shared → Prop} (X : (Mine.hd.heap_1 w.params).In s.heap) (h1 : s.heap.get? d = some (deckObj dd its n)) (h2 : s.heap.get? dd = some od)
    (hf : findIn (Mine.hd.heap_1 w.params) (.ref 135) name = some (some (.builtin id))) (hb : ∀ self, bindSpecial (.builtin id) self = pure (.builtin id, [self]))
    (hc : wpAny (model PP w) A (call (.builtin id) (.ref d :: args)) (fun v => Q (some v)) E s) : wpAny (model PP w) A (callSpecial? (.ref d) name args) Q E s := by
  unfold callSpecial?
  refine wpAny_bind (special_deck X h1 h2 hf ?_)
  dsimp only
  refine wpAny_holding (wpAny_bind ?_)
  rw [hb]
  exact wpAny_pure (wpAny_bind (wpAny_mono hc (fun v s' q => wpAny_pure q) fun _ _ q => q))

theorem split_getitem : splitId "list.__getitem__" = some ("list", "__getitem__") := by decide +kernel
theorem kind_getitem : (Manifest.find? "list").bind (·.attrs.lookup "__getitem__") = some .slot ∨ (Manifest.find? "list").bind (·.attrs.lookup "__getitem__") = some .method := by
  first | exact .inl (by decide +kernel) | exact .inr (by decide +kernel)
theorem split_setitem : splitId "list.__setitem__" = some ("list", "__setitem__") := by decide +kernel
theorem kind_setitem : (Manifest.find? "list").bind (·.attrs.lookup "__setitem__") = some .slot ∨ (Manifest.find? "list").bind (·.attrs.lookup "__setitem__") = some .method := by
  first | exact .inl (by decide +kernel) | exact .inr (by decide +kernel)

/-- deck[lo:hi] : a new plain list -/
theorem deck_getSlice {sl : Addr} {vl vu vs : Value} {lo hi st : Option Int} {Q : Value → Shared → Prop} (X : (Mine.hd.heap_1 w.params).In s.heap) (h1 : s.heap.get? d = some (deckObj dd its n)) (h2 : s.heap.get? dd = some od)
    (hs : s.heap.IsSliceOf sl vl vu vs) (pl : IsPart vl lo) (pu : IsPart vu hi) (ps : IsPart vs st) (h0 : st ≠ some 0)
    (h : Q (.ref s.heap.objs.size) { s with heap := s.heap.push { cls := .type "list", data := .seq (slicePick its lo hi st) } })
    (hsz : its.size ≤ sizeLine) : wpAny (model PP w) A (getItem (.ref d) (.ref sl)) Q E s := by
  obtain ⟨os, hos, hcs, hds⟩ := id hs
  have hTs : s.TypeIs (.ref sl) "slice" := ⟨os, hos, hcs⟩
  unfold getItem
  refine wpAny_holding ?_
  refine wpAny_bind (seqKey_deck X h1 h2 ?_)
  refine wpAny_bind (callSpecial_deck X h1 h2 (id := "list.__getitem__") (by kernel_rfl) slot_list_getitem.bind
    (call_sub X (inst_deck h1 h2) split_getitem kind_getitem (mro_deck w) (args_list_getitem _ _) (by decide +kernel) entry_list_getitem ?_))
  show wpAny _ _ (Builtin.List.listSubscript? (.ref sl) >>= _) _ _ s
  refine wpAny_bind ?_
  unfold Builtin.List.listSubscript?
  refine wpAny_bind (wpAny_specialOf hTs slice_no_index ?_)
  simp only [Option.isNone_none, if_true]
  refine wpAny_pure ?_
  show wpAny _ _ (typeOf (.ref sl) >>= _) _ _ s
  refine wpAny_bind (wpAny_typeOf hTs ?_)
  rw [if_neg (by decide)]
  rw [listSliceParts_eq]
  have hstep : ¬ ((rawPart st == rawInt 0) = true) := by
    cases st with
    | none => exact Bool.false_ne_true
    | some c =>
      intro hh
      have : c = 0 := by simpa [rawPart, rawInt] using hh
      exact h0 (by rw [this])
  refine wpAny_bind (wpAny_bind (wpAny_field hos hds (x := vs) rfl (wpAny_bind (wpAny_listPart ps ?_))))
  rw [if_neg hstep]
  refine wpAny_bind (wpAny_field hos hds (x := vl) rfl (wpAny_bind (wpAny_listPart pl ?_)))
  refine wpAny_bind (wpAny_field hos hds (x := vu) rfl (wpAny_bind (wpAny_listPart pu (wpAny_pure ?_))))
  refine wpAny_bind (m := Builtin.List.listItems (.ref d)) ?_
  unfold Builtin.List.listItems
  refine wpAny_bind (wpAny_seqItems h1 rfl (wpAny_pure ?_))
  refine wpAny_bind (wpAny_of_eq (sliceIndices_raw lo hi st its.size h0) ?_)
  exact wpAny_bind (wpAny_newObj_type (wpAny_pure ⟨_, rfl, wpAny_pure h⟩) (Nat.le_trans (slicePick_size_le its lo hi st) hsz))

/-- deck[lo:] = [] -/
theorem deck_cut {sl l : Addr} {i : Nat} {vl : Value} {nl : Nat} {Q : Unit → Shared → Prop} (X : (Mine.hd.heap_1 w.params).In s.heap) (h1 : s.heap.get? d = some (deckObj dd its n)) (h2 : s.heap.get? dd = some od)
    (hs : s.heap.IsSliceOf sl vl .none .none) (pl : IsPart vl (some (i : Int))) (hi : i ≤ its.size) (hl : s.heap.get? l = some { cls := .type "list", data := .seq #[] nl }) (hne : l ≠ d)
    (h : ∀ h' n', Heap.SameBut d s.heap h' → h'.get? d = some (deckObj dd (its.extract 0 i) n') → Q () { s with heap := h' })
    (hsz : its.size ≤ sizeLine) : wpAny (model PP w) A (setItem (.ref d) (.ref sl) (.ref l)) Q E s := by
  obtain ⟨os, hos, hcs, hds⟩ := id hs
  have hTs : s.TypeIs (.ref sl) "slice" := ⟨os, hos, hcs⟩
  have hTl : s.TypeIs (.ref l) "list" := ⟨_, hl, rfl⟩
  unfold setItem
  refine wpAny_holding ?_
  refine wpAny_bind (seqKey_deck X h1 h2 ?_)
  refine wpAny_bind (callSpecial_deck X h1 h2 (id := "list.__setitem__") (by kernel_rfl) PySem.F.slot_list_setitem.bind
    (call_sub X (inst_deck h1 h2) split_setitem kind_setitem (mro_deck w) (by first | exact PySem.F.args_list_setitem_3 _ _ _ | (unfold argsOk; kernel_rfl)) (by decide +kernel) PySem.F.entry_list_setitem ?_))
  show wpAny _ _ (Builtin.List.listSubscript? (.ref sl) >>= _) _ _ s
  refine wpAny_bind ?_
  unfold Builtin.List.listSubscript?
  refine wpAny_bind (wpAny_specialOf hTs slice_no_index ?_)
  simp only [Option.isNone_none, if_true]
  refine wpAny_pure ?_
  show wpAny _ _ (typeOf (.ref sl) >>= _) _ _ s
  refine wpAny_bind (wpAny_typeOf hTs ?_)
  rw [if_neg (by decide)]
  rw [listSliceParts_eq]
  refine wpAny_bind (wpAny_bind (wpAny_field hos hds (x := Value.none) rfl (wpAny_bind (wpAny_listPart .none ?_))))
  rw [if_neg (by decide)]
  refine wpAny_bind (wpAny_field hos hds (x := vl) rfl (wpAny_bind (wpAny_listPart pl ?_)))
  refine wpAny_bind (wpAny_field hos hds (x := Value.none) rfl (wpAny_bind (wpAny_listPart .none (wpAny_pure ?_))))
  dsimp only
  have hsame : Builtin.List.listSameRef (.ref d) (.ref l) = false := by
    simp only [Builtin.List.listSameRef, beq_eq_false_iff_ne]
    exact fun e => hne e.symm
  rw [hsame]
  simp only [Bool.false_eq_true, if_false]
  refine wpAny_bind (m := Builtin.List.listAllItems _ _) ?_
  unfold Builtin.List.listAllItems
  refine wpAny_bind (wpAny_typeOf hTl ?_)
  rw [if_pos (by decide)]
  unfold Builtin.List.listItems
  refine wpAny_bind (wpAny_seqItems hl rfl (wpAny_pure ?_))
  refine wpAny_bind (wpAny_bind (wpAny_seqItems h1 rfl (wpAny_pure ?_)))
  refine wpAny_bind (wpAny_of_eq (sliceIndices_raw (some (i : Int)) none none its.size (by simp)) ?_)
  have e : sliceBounds (some (i : Int)) none none its.size = ((i : Int), (its.size : Int), 1) := by
    simp only [sliceBounds, Option.getD_none, show (1 : Int) > 0 by decide, if_true, if_neg (show ¬ ((i : Int) < 0) by omega)]
    congr 1
    omega
  rw [e]
  dsimp only
  rw [if_pos (by decide)]
  refine wpAny_bind (wpAny_rule ?_)
  rw [if_neg (by simp [Builtin.List.listTooLong]; have := hsz; unfold sizeLine at this; omega)]
  refine wpAny_bind (m := Builtin.List.listUpdate _ _) ?_
  unfold Builtin.List.listUpdate
  have em : (max (i : Int) (its.size : Int)).toNat = its.size := by omega
  have key : ∃ n', Obj.mapSeq (fun xs => xs.extract 0 (i : Int).toNat ++ (#[] : Array Value) ++ xs.extract (max (i : Int) (its.size : Int)).toNat xs.size) (deckObj dd its n) = deckObj dd (its.extract 0 i) n' := by
    refine ⟨if (its.extract 0 i).size == its.size then n else n + 1, ?_⟩
    simp [Obj.mapSeq, em, deckObj]
  obtain ⟨n', key⟩ := key
  refine wpAny_updateSeq h1 rfl (wpAny_bind (wpAny_letGo (wpAny_pure ⟨.none, rfl, wpAny_pure (h _ n' (Heap.SameBut.update ..) ?_)⟩))) hsz (by simp; omega)
  rw [Heap.get?_update_self _ h1 (by rw [key]; rfl), key]
end
end Mine

end
section -- part R3
open PySem PySem.W PyProof.Rows PySem.Calls
set_option maxRecDepth 100000
namespace Mine

/-- the written part in whole, laid aside -/
structure KIn (w : World) (h : Heap) : Prop where
  out : (Mine.K w.params).In h
theorem KIn.keeps {w : World} {h h' : Heap} (x : KIn w h) (k : ∀ b o, h.get? b = some o → h'.get? b = some o) : KIn w h' := ⟨x.out.keeps k⟩
/-- what stands before the call, and goes on standing -/
structure Ground0 (w : World) (mg mb : Str → Option Value) (h₀ : Heap) : Prop where
  X : (Mine.hd.heap_1 w.params).In h₀
  T : TopRead VV LL mg mb h₀
  Y : KIn w h₀

theorem enter_def {w : World} {mg mb : Str → Option Value} {A : Around} {s : Shared} {h₀ : Heap} {news : List (Addr × Obj)}
    {R : Result → Shared → Prop} {name qual : Str} {params : Arguments} {body : List Stmt} {scope : Scope} {dV kV doc pm cdv ct oc : Value} {an od : Option Addr} {osl : Array (Option Value)} {f : Addr} {args : Args} {binds : List (Str × Value)}
    (G : Ground0 w mg mb h₀) (hk : ∀ b o, h₀.get? b = some o → s.heap.get? b = some o) (hn : ∀ q ∈ news, s.heap.get? q.1 = some q.2 ∧ h₀.get? q.1 = none)
    (ho : (Mine.hd.heap_1 w.params).lookup f = some ⟨oc, od, .func (fnOf name qual params body scope dV kV doc pm an cdv ct), osl⟩) (hcd : codeIn (Mine.hd.heap_1 w.params) cdv qual = true) (hroom : A.depth < recursionLimit)
    (hbind : BindsTo s (fnOf name qual params body scope dV kV doc pm an cdv ct) args binds) (hloc : ∀ y ∈ binds, scope.names.lookup y.1 = some .local)
    (h : ∀ g L' h₁, Fr g L' h₁ (fun y => binds.reverse.lookup y) → News g L' h₁ news → (Mine.hd.heap_1 w.params).In g → TopRead VV LL mg mb g → (∀ b o, s.heap.get? b = some o → b ∉ news.map (·.1) → g.get? b = some o) → g.objs.size = s.heap.objs.size → KIn w g →
      wpAny (model PP w) (A.deeper (envOf qual scope L' f cdv)) (execs body (envOf qual scope L' f cdv))
        (fun fl s' => R (.ok (.ret (match fl with | .ret v => v | _ => .none))) s') (fun _ _ => False)
        { s with heap := h₁, toks := s.toks + binds.length })
    (hco : scope.isCoroutine = false) (hgen : scope.isGenerator = false) (hkk : scope.kind = .function)
    (hcell : ∀ x ∈ scope.names, x.2 ≠ .cell) : codeAny (model PP w) A (.call (.ref f) args) R s := by
  have X := G.X.keeps hk
  refine codeAny_call_def (fd := fnOf name qual params body scope dV kV doc pm an cdv ct) (body := body) (binds := binds) hroom (X _ _ ho) rfl (G.T.nolimit.keeps hk) (codeRec_of X hcd) rfl hbind hcell hloc (fun h₁ hns hk₁ => ?_) hco hgen hkk
  have nm : ∀ b o, h₀.get? b = some o → b ∉ news.map (·.1) := fun b o e q => by
    obtain ⟨p, hp, rfl⟩ := List.mem_map.mp q
    rw [(hn p hp).2] at e; cases e
  have st : ∀ b o, h₀.get? b = some o → (hideAll s.heap (news.map (·.1))).get? b = some o := fun b o e => hideAll_get _ (hk b o e) (nm b o e)
  refine wpAny_mono (h (hideAll s.heap (news.map (·.1))) s.heap.objs.size h₁ ⟨hns, fun b o e => hk₁ b o (of_hideAll _ e), Nat.le_of_eq (hideAll_size _ _)⟩
    (fun p hp => ⟨hk₁ _ _ (hn p hp).1, Nat.ne_of_lt (Heap.lt_size (hn p hp).1), hideAll_none _ (List.mem_map_of_mem hp)⟩) (G.X.keeps st) (G.T.keeps st) (fun b o e q => hideAll_get _ e q) (hideAll_size _ _) (G.Y.keeps st)) (fun fl s' hl => hl) fun _ _ x => x.elim

/-- the ledger behind a call that turned d alone and made t -/
theorem ledger_on {h₀ h h' : Heap} {L d t : Addr} {m : Str → Option Value} {news news' : List (Addr × Obj)} {o o' ot : Obj} (F : Fr h₀ L h m) (N : News h₀ L h news) (U : Upd d o o' news news')
    (hk : ∀ b x, b ≠ d → h.get? b = some x → h'.get? b = some x) (hd : h'.get? d = some o') (ht : h'.get? t = some ot) (htn : h.get? t = none) : Fr h₀ L h' m ∧ News h₀ L h' ((t, ot) :: news') := by
  obtain ⟨pre, post, rfl, rfl, a, b⟩ := U.split
  have z := N (d, o) (List.mem_append.mpr (.inr (.head _)))
  obtain ⟨oL, es, ep, hL, hr⟩ := F.ns
  have keep : ∀ b x, h₀.get? b = some x → h'.get? b = some x := fun b x e => hk b x (fun q => by subst q; rw [z.2.2] at e; cases e) (F.keep b x e)
  have N' : News h₀ L h' (pre ++ (d, o') :: post) := fun p hp => by
    rcases List.mem_append.mp hp with q | q
    · have P := N p (List.mem_append_left _ q); exact ⟨hk _ _ (a p q) P.1, P.2⟩
    · rcases List.mem_cons.mp q with rfl | q
      · exact ⟨hd, z.2⟩
      · have P := N p (List.mem_append_right _ (.tail _ q)); exact ⟨hk _ _ (b p q) P.1, P.2⟩
  refine ⟨⟨⟨oL, es, ep, hk _ _ (Ne.symm z.2.1) hL, hr⟩, keep, F.above⟩, fun p hp => ?_⟩
  rcases List.mem_cons.mp hp with rfl | hp
  · refine ⟨ht, fun e => ?_, ?_⟩
    · dsimp only at e; rw [← e, htn] at hL; cases hL
    · cases q : h₀.get? t with
      | none => rfl
      | some x => have := F.keep _ _ q; rw [htn] at this; cases this
  · exact N' p hp
end Mine

end
section -- part R4
open PySem PySem.W PyProof.Rows PySem.Calls
set_option maxRecDepth 100000
namespace Mine
theorem filled4 : PySem.Challenge.rw_pg0066_01 = PySem.Challenge.rw_pg0066_01 ∧ Mine.hd.heap_1 = Mine.hd.heap_1 := by
  k_fill
  exact ⟨rfl, rfl⟩
section
variable {w : World} {A : Around} {E : Value → Shared → Prop} {s : Shared} {h₀ : Heap} {L d dd : Addr} {m : Str → Option Value} {news news' : List (Addr × Obj)} {its : Array Value} {n : Nat} {od : Obj}
theorem deck_append {x : Value} {Q : Value → Shared → Prop} (F : Fr h₀ L s.heap m) (X₀ : (Mine.hd.heap_1 w.params).In h₀) (N : News h₀ L s.heap news) (U : Upd d (deckObj dd its n) (deckObj dd (its.push x) (n + 1)) news news') (hdd : (dd, od) ∈ news)
    (hsz : its.size ≤ sizeLine) (h : ∀ h', Fr h₀ L h' m → News h₀ L h' news' → Q .none { s with heap := h' }) : wpAny (model PP w) A (call (.builtin "list.append") [.ref d, x]) Q E s := by
  obtain ⟨pre, post, rfl, rfl, a, b⟩ := U.split
  have hm : (d, deckObj dd its n) ∈ pre ++ (d, deckObj dd its n) :: post := List.mem_append.mpr (.inr (.head _))
  have z := N _ hm
  refine call_sub (X₀.keeps F.keep) (inst_deck z.1 (N _ hdd).1) split_append kind_append (mro_deck w) (args_list_append _ _) (by decide +kernel) entry_list_append ?_
  show wpAny _ _ (updateSeq d (·.push x) >>= fun _ => ret .none) _ _ s
  refine wpAny_bind ?_
  have hs : Heap.SameBut d s.heap (s.heap.update d (Obj.mapSeq (·.push x))) := Heap.SameBut.update ..
  have e : Obj.mapSeq (·.push x) (deckObj dd its n) = deckObj dd (its.push x) (n + 1) := by simp [Obj.mapSeq]
  refine wpAny_updateSeq z.1 rfl (wpAny_pure ⟨.none, rfl, h _ (F.change hs z.2.1 z.2.2) (news_set N a b hs ?_)⟩) hsz (by rw [Array.size_push]; omega)
  rw [Heap.get?_update_self _ z.1 (by rw [e]; rfl), e]
theorem deck_methodB {pl : Sem Bool} {Q : Value × List Value → Shared → Prop} {es : List DictEntry} {k : Nat} (F : Fr h₀ L s.heap m) (X₀ : (Mine.hd.heap_1 w.params).In h₀) (N : News h₀ L s.heap news) (hd : (d, deckObj dd its n) ∈ news) (hdd : (dd, dictOf es k) ∈ news)
    (hl : getL "append" es = some none) (h : Q (.builtin "list.append", [.ref d]) s) : wpAny (model PP w) A (getMethod (.ref d) "append" pl) Q E s :=
  method_base (X₀.keeps F.keep) (inst_deck (N _ hd).1 (N _ hdd).1) (ga_deck w) gc_deck (gm_deck w) (by kernel_rfl) PySem.F.type_list_append (by show (lookIn "append" (dictOf es k)).map _ = _; rw [lookIn_dict, hl]; rfl) h
end
theorem kept_deck {h h' g : Heap} {L' d dd : Addr} {m' : Str → Option Value} {od : Obj} (F' : Fr g L' h' m') (h2 : h.get? dd = some od) (hdd' : h'.get? dd = some od)
    (kp : ∀ b o, h.get? b = some o → b ∉ [d, dd] → g.get? b = some o) : ∀ b o, b ≠ d → h.get? b = some o → h'.get? b = some o := by
  intro b o hb e
  by_cases q : b = dd
  · subst q; rw [h2] at e; cases e; exact hdd'
  · exact F'.keep b o (kp b o e (by simp [hb, q]))
theorem new_deck {h g : Heap} {t d dd : Addr} (hg : g.get? t = none) (kp : ∀ b o, h.get? b = some o → b ∉ [d, dd] → g.get? b = some o) (n1 : t ≠ d) (n2 : t ≠ dd) : h.get? t = none := by
  cases q : h.get? t with
  | none => rfl
  | some o => have := kp t o q (by simp [n1, n2]); rw [hg] at this; cases this
theorem push_end {s : Shared} {h' g : Heap} {L' d dd t : Addr} {m' : Str → Option Value} {its : Array Value} {n : Nat} {es : List DictEntry} {k : Nat} {f p : Value} {tk : Nat} {Q : Value → Shared → Prop}
    (F' : Fr g L' h' m') (N' : News g L' h' [(t, tupObj f p), (d, deckObj dd (its.push (.ref t)) (n + 1)), (dd, dictOf es k)]) (h2 : s.heap.get? dd = some (dictOf es k))
    (kp : ∀ b o, s.heap.get? b = some o → b ∉ List.map (·.1) [(d, deckObj dd its n), (dd, dictOf es k)] → g.get? b = some o)
    (hret : ∀ t h' tk', (∀ b o, b ≠ d → s.heap.get? b = some o → h'.get? b = some o) → h'.get? d = some (deckObj dd (its.push (.ref t)) (n + 1)) → h'.get? t = some (tupObj f p) → s.heap.get? t = none → Q .none { s with heap := h', toks := tk' }) :
    Q .none { s with heap := h', toks := tk } := by
  have a := N' _ (.head _)
  have b := N' _ (.tail _ (.head _))
  have c := N' _ (.tail _ (.tail _ (.head _)))
  refine hret t h' tk (kept_deck F' h2 c.1 kp) b.1 a.1 (new_deck a.2.2 kp ?_ ?_)
  · rintro rfl
    have := a.1.symm.trans b.1
    simp at this
  · rintro rfl
    have := a.1.symm.trans c.1
    simp [dictOf] at this
local macro_rules | `(tactic| walk_at "getMethod ref") => `(tactic| (k_here; (with_reducible show wpAny _ _ (getMethod (Value.ref _) (PySem.Str.ofString "append") _) _ _ _); k_dflt (refine' deck_methodB ?k1 ?k2 ?k3 ?k4 ?k5 ?k6 ?_; (case k1 => k_asm); (case k2 => k_asm); (case k3 => k_asm); (case k4 => k_mem); (case k5 => k_mem); (case k6 => assumption))))
local macro_rules | `(tactic| walk_at "call builtin:list.append") => `(tactic| (k_here; (with_reducible show wpAny _ _ (call (Value.builtin _) [Value.ref _, _]) _ _ _); k_dflt (refine' deck_append ?k1 ?k2 ?k3 ?k5 ?k4 ?z ?_; (case k1 => k_asm); (case k2 => k_asm); (case k3 => k_asm); (case k5 => k_upd); (case k4 => k_mem); (case z => assumption)); intro h' F' N'))
set_option maxHeartbeats 8000000 in
theorem push_abs {w : World} {mg mb : Str → Option Value} {dp un : Nat} {gd : Option (List Code)} {fr : Option (List Env)} {h₀ : Heap} {s : Shared} {Q E : Value → Shared → Prop}
    {d dd : Addr} {its : Array Value} {n : Nat} {es : List DictEntry} {k : Nat} {f p : Value}
    (G : Ground0 w mg mb h₀) (hk : ∀ b o, h₀.get? b = some o → s.heap.get? b = some o) (h1 : s.heap.get? d = some (deckObj dd its n)) (h2 : s.heap.get? dd = some (dictOf es k))
    (h01 : h₀.get? d = none) (h02 : h₀.get? dd = none) (hne : @LT.lt Nat _ dd d) (hl : getL "append" es = some none) (hsz : its.size ≤ sizeLine) (hdp : dp + 10 < recursionLimit) (hun : un + 100 < cLine)
    (hret : ∀ t h' tk', (∀ b o, b ≠ d → s.heap.get? b = some o → h'.get? b = some o) → h'.get? d = some (deckObj dd (its.push (.ref t)) (n + 1)) → h'.get? t = some (tupObj f p) → s.heap.get? t = none → Q .none { s with heap := h', toks := tk' }) :
    wpAny (model PP w) { handled := none, depth := dp, frames := fr, guards := gd, units := un } (call (.ref 80) [.ref d, f, p]) Q E s := by
  refine wpAny_call ?_
  k_dflt (refine' enter_def (news := [(d, deckObj dd its n), (dd, dictOf es k)]) G hk ?hn ?k6 ?k7 ?k8 ?k9 ?kB ?_ ?c2 ?c3 ?c4 ?c5; (case k6 => k_is); (case k7 => k_is); (case k8 => (show dp < recursionLimit; omega)); (case k9 => exact BindsTo.of_eq rfl); (case c5 => decide); (case kB => exact locs rfl); (case c2 => exact rfl); (case c3 => exact rfl); (case c4 => exact rfl); k_whole)
  case hn =>
    intro q hq
    rcases List.mem_cons.mp hq with rfl | hq
    · exact ⟨h1, h01⟩
    · rcases List.mem_cons.mp hq with rfl | hq
      · exact ⟨h2, h02⟩
      · cases hq
  intro g' L' h' F' N' X' T' kp hgs Y'
  try dsimp only
  try k_fold
  k_steps
  exact push_end (by k_asm) (by k_asm) h2 kp hret
end Mine

end
section -- part R5
open PySem PySem.W PyProof.Rows PySem.Calls
set_option maxRecDepth 100000
namespace Mine
theorem filled5 : PySem.Challenge.rw_pg0066_01 = PySem.Challenge.rw_pg0066_01 ∧ Mine.hd.heap_1 = Mine.hd.heap_1 := by
  k_fill
  exact ⟨rfl, rfl⟩
section
variable {w : World} {A : Around} {E : Value → Shared → Prop} {s : Shared} {h₀ : Heap} {L d dd : Addr} {m : Str → Option Value} {news news' : List (Addr × Obj)} {its : Array Value} {n : Nat} {od : Obj}
theorem subTail_deck {value slice : Expr} {i : Value} {ops : List Value} {Q : Value → Shared → Prop} (X : (Mine.hd.heap_1 w.params).In s.heap) (h1 : s.heap.get? d = some (deckObj dd its n)) (h2 : s.heap.get? dd = some od)
    (h : wpAny (model PP w) A (getItem (.ref d) i) Q E s)
    (hs : subscripted slice false (.ref d) i = operate ops (getItem (.ref d) i)) (ht : ∀ r, letTemporaryGo value (.ref d) r = pure ()) :
    wpAny (model PP w) A (subscriptTail value slice (.ref d) i) Q E s := by
  unfold subscriptTail
  refine wpAny_bind ?_
  unfold getitemInPython
  refine wpAny_bind (special_deck X h1 h2 (r := some (.builtin "list.__getitem__")) (by kernel_rfl) ?_)
  refine wpAny_pure (wpAny_bind ?_)
  rw [hs]
  exact wpAny_operating (wpAny_mono h (fun r s₃ h₃ => wpAny_bind (wpAny_of_eq (ht r) (wpAny_pure h₃))) fun _ _ x => x)
theorem deck_slice {value slice : Expr} {vl vu : Value} {lo hi : Option Int} {Q : Value → Shared → Prop} (F : Fr h₀ L s.heap m) (X₀ : (Mine.hd.heap_1 w.params).In h₀) (N : News h₀ L s.heap news) (hd : (d, deckObj dd its n) ∈ news) (hdd : (dd, od) ∈ news) (pl : IsPart vl lo) (pu : IsPart vu hi)
    (h : ∀ D h', Fr h₀ L h' m → News h₀ L h' ((D, listOf (slicePick its lo hi none) 0) :: news) → (∀ p ∈ news, p.1 < D) → Q (.ref D) { s with heap := h' })
    (hs : subscripted slice false (.ref d) (.ref s.heap.objs.size) = operate [.ref s.heap.objs.size, .ref d] (getItem (.ref d) (.ref s.heap.objs.size))) (ht : ∀ r, letTemporaryGo value (.ref d) r = pure ()) (hz : its.size ≤ sizeLine) :
    wpAny (model PP w) A (subscriptTail value slice (.ref d) (.ref s.heap.objs.size)) Q E { s with heap := s.heap.push { cls := .type "slice", data := .fields #[vl, vu, .none] } } := by
  have X := X₀.keeps F.keep
  have k1 : ∀ b o, s.heap.get? b = some o → (s.heap.push { cls := .type "slice", data := .fields #[vl, vu, .none] }).get? b = some o := fun _ _ e => Heap.get?_push_of_some _ e
  refine subTail_deck (s := { s with heap := s.heap.push { cls := .type "slice", data := .fields #[vl, vu, .none] } }) (X.keeps k1) (k1 _ _ (N _ hd).1) (k1 _ _ (N _ hdd).1)
    (deck_getSlice (s := { s with heap := s.heap.push { cls := .type "slice", data := .fields #[vl, vu, .none] } }) (X.keeps k1) (k1 _ _ (N _ hd).1) (k1 _ _ (N _ hdd).1) (Heap.IsSliceOf.new ..) pl pu .none (by simp) ?_ hz) hs ht
  have N1 := News.push (F.push { cls := .type "slice", data := .fields #[vl, vu, .none] }) (N.grown fun _ _ e => Heap.get?_push_of_some _ e) { cls := .type "list", data := .seq (slicePick its lo hi none) }
  exact h _ _ ((F.push _).push _) N1 fun p hp => by
    have := Heap.lt_size (N p hp).1
    rw [Heap.size_push]; exact Nat.lt_succ_of_lt this
theorem deck_cutK {l : Addr} {x : Int} {i : Nat} {ti : Tok} {nl : Nat} {news' : Nat → List (Addr × Obj)} {Q : Unit → Shared → Prop} (F : Fr h₀ L s.heap m) (X₀ : (Mine.hd.heap_1 w.params).In h₀) (N : News h₀ L s.heap news) (U : ∀ n', Upd d (deckObj dd its n) (deckObj dd (its.extract 0 i) n') news (news' n')) (hdd : (dd, od) ∈ news)
    (hl : (l, listOf #[] nl) ∈ news) (hne : l ≠ d) (hx : x = (i : Int)) (hi : i ≤ its.size) (hsz : its.size ≤ sizeLine)
    (h : ∀ h' n', Fr h₀ L h' m → News h₀ L h' (news' n') → Q () { s with heap := h' }) :
    wpAny (model PP w) A (setItem (.ref d) (.ref s.heap.objs.size) (.ref l)) Q E { s with heap := s.heap.push { cls := .type "slice", data := .fields #[.int x ti, .none, .none] } } := by
  subst hx
  have X := X₀.keeps F.keep
  have k1 : ∀ b o, s.heap.get? b = some o → (s.heap.push { cls := .type "slice", data := .fields #[.int (i : Int) ti, .none, .none] }).get? b = some o := fun _ _ e => Heap.get?_push_of_some _ e
  have F1 := F.push { cls := .type "slice", data := .fields #[.int (i : Int) ti, .none, .none] }
  have N1 : News h₀ L (s.heap.push { cls := .type "slice", data := .fields #[.int (i : Int) ti, .none, .none] }) news := N.grown fun _ _ e => Heap.get?_push_of_some _ e
  have hm : (d, deckObj dd its n) ∈ news := by
    obtain ⟨pre, post, e, _, _, _⟩ := (U 0).split
    rw [e]; exact List.mem_append.mpr (.inr (.head _))
  refine deck_cut (s := { s with heap := s.heap.push { cls := .type "slice", data := .fields #[.int (i : Int) ti, .none, .none] } }) (X.keeps k1) (k1 _ _ (N _ hm).1) (k1 _ _ (N _ hdd).1) (Heap.IsSliceOf.new ..) (IsPart.int _ _) hi (k1 _ _ (N _ hl).1) hne (fun h' n' hs hd' => ?_) hsz
  obtain ⟨pre, post, e, e', a, b⟩ := (U n').split
  subst e
  have z := N1 _ hm
  refine h h' n' (F1.change hs z.2.1 z.2.2) ?_
  rw [e']
  exact news_set N1 a b hs hd'
end
theorem pop_end {s : Shared} {h' g : Heap} {L' d dd l l₂ : Addr} {m' : Str → Option Value} {its : Array Value} {n n' i : Nat} {es : List DictEntry} {k : Nat} {tk : Nat} {Q : Value → Shared → Prop}
    (F' : Fr g L' h' m') (N' : News g L' h' [(l₂, listOf #[] 0), (l, listOf (slicePick its (some (i : Int)) none none) 0), (d, deckObj dd (its.extract 0 i) n'), (dd, dictOf es k)]) (h2 : s.heap.get? dd = some (dictOf es k))
    (kp : ∀ b o, s.heap.get? b = some o → b ∉ List.map (·.1) [(d, deckObj dd its n), (dd, dictOf es k)] → g.get? b = some o)
    (hret : ∀ l n' h' tk', (∀ b o, b ≠ d → s.heap.get? b = some o → h'.get? b = some o) → h'.get? d = some (deckObj dd (its.extract 0 i) n') → h'.get? l = some (listOf (slicePick its (some (i : Int)) none none) 0) → s.heap.get? l = none → Q (.ref l) { s with heap := h', toks := tk' }) :
    Q (.ref l) { s with heap := h', toks := tk } := by
  have a := N' _ (.tail _ (.head _))
  have b := N' _ (.tail _ (.tail _ (.head _)))
  have c := N' _ (.tail _ (.tail _ (.tail _ (.head _))))
  refine hret l n' h' tk (kept_deck F' h2 c.1 kp) b.1 a.1 (new_deck a.2.2 kp ?_ ?_)
  · rintro rfl
    have := a.1.symm.trans b.1
    simp at this
  · rintro rfl
    have := a.1.symm.trans c.1
    simp [dictOf] at this
local macro_rules | `(tactic| walk_at "setItem ref ref ref") => `(tactic| (k_here; (with_reducible show wpAny _ _ (setItem (Value.ref _) (Value.ref _) (Value.ref _)) _ _ _); k_dflt (refine' deck_cutK ?k1 ?k2 ?k3 ?k4 ?k5 ?k6 ?k7 ?hx ?k8 ?z ?_; (case hx => first | exact rfl | exact (rfl : (0 : Int) = ((0 : Nat) : Int))); (case k1 => k_asm); (case k2 => k_asm); (case k3 => k_asm); (case k4 => (intro n'; k_upd)); (case k5 => k_mem); (case k6 => k_mem); (case k7 => k_ne); (case k8 => assumption); (case z => assumption)); intro h' n' F' N'))
local macro_rules | `(tactic| walk_at "subscriptTail Name Slice ref ref") => `(tactic| (k_here; (with_reducible show wpAny _ _ (subscriptTail _ _ (Value.ref _) (Value.ref _)) _ _ _); k_dflt (refine' deck_slice ?k1 ?k2 ?k3 ?k4 ?k5 ?k6 ?k7 ?_ ?k8 ?k9 ?z; (case k1 => k_asm); (case k2 => k_asm); (case k3 => k_asm); (case k4 => k_mem); (case k5 => k_mem); (case k6 => exact IsPart.int _ _); (case k7 => exact IsPart.none); (case k8 => with_unfolding_all rfl); (case k9 => (intro _; with_unfolding_all rfl)); (case z => assumption)); intro D' h' F' N' l1; (try k_lt l1)))
set_option maxHeartbeats 8000000 in
theorem pop_abs {w : World} {mg mb : Str → Option Value} {dp un : Nat} {gd : Option (List Code)} {fr : Option (List Env)} {h₀ : Heap} {s : Shared} {Q E : Value → Shared → Prop}
    {d dd : Addr} {its : Array Value} {n : Nat} {es : List DictEntry} {k : Nat} {i : Nat} {ti : Tok}
    (G : Ground0 w mg mb h₀) (hk : ∀ b o, h₀.get? b = some o → s.heap.get? b = some o) (h1 : s.heap.get? d = some (deckObj dd its n)) (h2 : s.heap.get? dd = some (dictOf es k))
    (h01 : h₀.get? d = none) (h02 : h₀.get? dd = none) (hne : @LT.lt Nat _ dd d) (hi : i ≤ its.size) (hsz : its.size ≤ sizeLine) (hdp : dp + 10 < recursionLimit) (hun : un + 100 < cLine)
    (hret : ∀ l n' h' tk', (∀ b o, b ≠ d → s.heap.get? b = some o → h'.get? b = some o) → h'.get? d = some (deckObj dd (its.extract 0 i) n') → h'.get? l = some (listOf (slicePick its (some (i : Int)) none none) 0) → s.heap.get? l = none → Q (.ref l) { s with heap := h', toks := tk' }) :
    wpAny (model PP w) { handled := none, depth := dp, frames := fr, guards := gd, units := un } (call (.ref 88) [.ref d, .int (i : Int) ti]) Q E s := by
  refine wpAny_call ?_
  k_dflt (refine' enter_def (news := [(d, deckObj dd its n), (dd, dictOf es k)]) G hk ?hn ?k6 ?k7 ?k8 ?k9 ?kB ?_ ?c2 ?c3 ?c4 ?c5; (case k6 => k_is); (case k7 => k_is); (case k8 => (show dp < recursionLimit; omega)); (case k9 => exact binds_K (G.X.keeps hk) rfl (by k_is) rfl rfl rfl); (case c5 => decide); (case kB => exact locs rfl); (case c2 => exact rfl); (case c3 => exact rfl); (case c4 => exact rfl); k_whole)
  case hn =>
    intro q hq
    rcases List.mem_cons.mp hq with rfl | hq
    · exact ⟨h1, h01⟩
    · rcases List.mem_cons.mp hq with rfl | hq
      · exact ⟨h2, h02⟩
      · cases hq
  intro g' L' h' F' N' X' T' kp hgs Y'
  try dsimp only
  try k_fold
  k_steps
  exact pop_end (by k_asm) (by k_asm) h2 kp hret
set_option maxHeartbeats 8000000 in
theorem pop_abs0 {w : World} {mg mb : Str → Option Value} {dp un : Nat} {gd : Option (List Code)} {fr : Option (List Env)} {h₀ : Heap} {s : Shared} {Q E : Value → Shared → Prop}
    {d dd : Addr} {its : Array Value} {n : Nat} {es : List DictEntry} {k : Nat} 
    (G : Ground0 w mg mb h₀) (hk : ∀ b o, h₀.get? b = some o → s.heap.get? b = some o) (h1 : s.heap.get? d = some (deckObj dd its n)) (h2 : s.heap.get? dd = some (dictOf es k))
    (h01 : h₀.get? d = none) (h02 : h₀.get? dd = none) (hne : @LT.lt Nat _ dd d) (hsz : its.size ≤ sizeLine) (hdp : dp + 10 < recursionLimit) (hun : un + 100 < cLine)
    (hret : ∀ l n' h' tk', (∀ b o, b ≠ d → s.heap.get? b = some o → h'.get? b = some o) → h'.get? d = some (deckObj dd (its.extract 0 0) n') → h'.get? l = some (listOf (slicePick its (some 0) none none) 0) → s.heap.get? l = none → Q (.ref l) { s with heap := h', toks := tk' }) :
    wpAny (model PP w) { handled := none, depth := dp, frames := fr, guards := gd, units := un } (call (.ref 88) [.ref d]) Q E s := by
  have hi : 0 ≤ its.size := Nat.zero_le _
  refine wpAny_call ?_
  k_dflt (refine' enter_def (news := [(d, deckObj dd its n), (dd, dictOf es k)]) G hk ?hn ?k6 ?k7 ?k8 ?k9 ?kB ?_ ?c2 ?c3 ?c4 ?c5; (case k6 => k_is); (case k7 => k_is); (case k8 => (show dp < recursionLimit; omega)); (case k9 => exact binds_K (G.X.keeps hk) rfl (by k_is) rfl rfl rfl); (case c5 => decide); (case kB => exact locs rfl); (case c2 => exact rfl); (case c3 => exact rfl); (case c4 => exact rfl); k_whole)
  case hn =>
    intro q hq
    rcases List.mem_cons.mp hq with rfl | hq
    · exact ⟨h1, h01⟩
    · rcases List.mem_cons.mp hq with rfl | hq
      · exact ⟨h2, h02⟩
      · cases hq
  intro g' L' h' F' N' X' T' kp hgs Y'
  try dsimp only
  try k_fold
  k_steps
  exact pop_end (i := 0) (by k_asm) (by k_asm) h2 kp hret
end Mine

end
section -- part R7
open PySem PySem.W PyProof.Rows PySem.Calls
set_option maxRecDepth 100000
namespace Mine
def AllNe (l : Nat) : List (Addr × Obj) → Prop
  | [] => True
  | p :: r => @Ne Nat p.1 l ∧ AllNe l r
theorem allNe_of {l : Addr} : ∀ {r : List (Addr × Obj)}, (∀ p ∈ r, p.1 ≠ l) → AllNe l r
  | [], _ => trivial
  | p :: _, h => ⟨h p (.head _), allNe_of fun q hq => h q (.tail _ hq)⟩
theorem AllNe.mem {l : Addr} {r : List (Addr × Obj)} : AllNe l r → ∀ p ∈ r, p.1 ≠ l := by
  induction r with
  | nil => intro _ p hp; cases hp
  | cons q r ih =>
    intro h p hp
    rcases List.mem_cons.mp hp with rfl | hp
    · exact h.1
    · exact ih h.2 p hp
theorem allNe_news {h₀ h : Heap} {L l : Addr} {news : List (Addr × Obj)} (N : News h₀ L h news) (hl : h.get? l = none) : AllNe l news :=
  allNe_of fun p hp e => by have := (N p hp).1; rw [e, hl] at this; cases this
/-- an end that the walk leaves alone -/
structure Done (P : Prop) : Prop where
  out : P
/-- the walk halts here -/
def Halt {α : Type} (t : Sem α) : Sem α := t
theorem halt {α : Type} {M : Model} {A : Around} {t : Sem α} {Q : α → Shared → Prop} {E : Value → Shared → Prop} {s : Shared} (h : wpAny M A (Halt t) Q E s) : wpAny M A t Q E s := h
abbrev riterObj (x left : Int) : Obj := { cls := .type "range_iterator", dict := none, data := .fields #[rawInt x, rawInt left, rawInt 1], slots := #[] }

theorem news_keep {h₀ h h' : Heap} {L : Addr} {news : List (Addr × Obj)} (N : News h₀ L h news) (hk : ∀ p ∈ news, ∀ o, h.get? p.1 = some o → h'.get? p.1 = some o) : News h₀ L h' news :=
  fun p hp => ⟨hk p hp _ (N p hp).1, (N p hp).2⟩
theorem new_not {h₀ h : Heap} {L b : Addr} {m : Str → Option Value} (F : Fr h₀ L h m) (hb : h.objs.size ≤ b) : h₀.get? b = none := by
  cases q : h₀.get? b with
  | none => rfl
  | some o => exact absurd (Heap.lt_size (F.keep b o q)) (Nat.not_lt.mpr hb)

section
variable {prog : Program} {w : World} {A : Around} {E : Value → Shared → Prop} {s : Shared} {g : Heap} {env : Env} {m : Str → Option Value} {news : List (Addr × Obj)}
theorem range_loop {Q : Flow → Shared → Prop} {x : Str} {px : Pos} {body : List Stmt} {r : Addr} {n : Nat} {t u v : Tok}
    (hh : A.handled = none) (hx : env.kindOf x = some .local)
    (hp : (env.scope.kind == .class || (env.scope.kind == .module && env.locals != env.globals)) = false)
    (F : Fr g env.locals s.heap m) (N : News g env.locals s.heap news)
    (hr : IsRange s.heap r 0 n 1 t u v) (hsmall : Builtin.Range.small 0 n 1 = true) (hsize : Builtin.Range.rangeSize 0 n 1 = n)
    (J : Nat → (Str → Option Value) → List (Addr × Obj) → Prop) (h0 : J 0 m news)
    (turn : ∀ i it m₁ news₁ h tk t', i < n → J i m₁ news₁ → AllNe it news₁ → Fr g env.locals h (fun y => if y = x then some (.int (i : Int) t') else m₁ y) →
      News g env.locals h ((it, riterObj ((i : Int) + 1) ((n : Int) - i - 1)) :: news₁) →
      wpAny (model prog w) A (execs body env) (fun f s₂ => f = .next ∧ ∃ h' tk' m₂ news₂, s₂ = { s with heap := h', toks := tk' } ∧ Fr g env.locals h' m₂ ∧ News g env.locals h' ((it, riterObj ((i : Int) + 1) ((n : Int) - i - 1)) :: news₂) ∧ AllNe it news₂ ∧ J (i + 1) m₂ news₂) (fun _ _ => False) { s with heap := h, toks := tk })
    (done : ∀ m₁ news₁ h tk, J n m₁ news₁ → Fr g env.locals h m₁ → News g env.locals h news₁ → Q .next { s with heap := h, toks := tk }) :
    wpAny (model prog w) A (pyIter (.ref r)) (fun it s₂ =>
      codeAny (model prog w) A (.forLoop (.Name x px) it body [] env) (fun r s' => match r with | .ok f => Q f s' | .error e => cameBackBy (model prog w) A env E e s') s₂) E s := by
  refine wpAny_pyIter_range hr hsmall ?_
  have N0 : News g env.locals (s.heap.push (riterObj 0 (n : Int))) ((s.heap.objs.size, riterObj 0 (n : Int)) :: news) := N.push F _
  have A0 : AllNe s.heap.objs.size news := allNe_of fun p hp => Nat.ne_of_lt (Heap.lt_size (N p hp).1)
  rw [hsize]
  generalize hit : s.heap.objs.size = it at N0 A0 ⊢
  refine codeAny_forLoop
    (fun k s' => ∃ h' tk m' news' i, s' = { s with heap := h', toks := tk } ∧ Fr g env.locals h' m' ∧ News g env.locals h' ((it, riterObj (i : Nat) ((n : Int) - (i : Nat))) :: news') ∧ AllNe it news' ∧ J i m' news' ∧ i ≤ n ∧ k = n + 1 - i) ?_ (n + 1)
    ⟨_, s.toks, m, news, 0, rfl, F.push _, by simpa using N0, A0, h0, Nat.zero_le _, rfl⟩
  rintro k s' ⟨h', tk, m', news', i, rfl, F', N', A', hJ, hi, rfl⟩
  have I := N' _ (.head _)
  have hIL : it ≠ env.locals := I.2.1
  by_cases hlt : i < n
  · refine wpAny_pyNext_range_item I.1 (by omega) fun h₁ hit₁ hs₁ => ?_
    replace hs₁ : Heap.SameBut it h' h₁ := hs₁
    have F₁ : Fr g env.locals h₁ m' := F'.change hs₁ I.2.1 I.2.2
    have N₁ : News g env.locals h₁ ((it, riterObj ((i : Int) + 1) ((n : Int) - i - 1)) :: news') := fun p hp => by
      rcases List.mem_cons.mp hp with rfl | hp
      · exact ⟨hit₁, I.2⟩
      · have P := N' p (.tail _ hp)
        exact ⟨(hs₁.2 _ (A'.mem p hp)).trans P.1, P.2⟩
    refine wpAny_assign_Name (wpAny_storeName_local hx F₁.ns (fun h₂ hn₂ hs₂ => ?_) hp)
    refine wpAny_mono (turn i it m' news' h₂ _ _ hlt hJ A' (F₁.set hn₂ hs₂) (N₁.set hs₂)) (fun f s₃ h₃ => ?_) fun _ _ e => e.elim
    obtain ⟨rfl, h₃', tk₃, m₂, news₂, rfl, F₃, N₃, A₃, J₃⟩ := h₃
    refine ⟨n + 1 - (i + 1), by omega, h₃', tk₃, m₂, news₂, i + 1, rfl, F₃, ?_, A₃, J₃, hlt, rfl⟩
    have e2 : (n : Int) - ((i + 1 : Nat) : Int) = (n : Int) - (i : Int) - 1 := by push_cast; omega
    rw [e2]; push_cast; exact N₃
  · have hin : i = n := by omega
    subst hin
    refine wpAny_pyNext_range_end hh I.1 (by omega) fun h₁ he₁ => wpAny_execs_nil ?_
    replace he₁ : Heap.ExtBut it h' h₁ := he₁
    refine done m' news' h₁ tk hJ ⟨F'.ns.extBut he₁ (Ne.symm hIL), fun b o e => he₁ b o (fun q => by rw [q, I.2.2] at e; cases e) (F'.keep b o e), F'.above⟩ ?_
    exact news_keep (fun p hp => N' p (.tail _ hp)) fun p hp o e => he₁ _ o (A'.mem p hp) e
end
end Mine

end
section -- part R6
open PySem PySem.W PyProof.Rows PySem.Calls
set_option maxRecDepth 100000
namespace Mine
theorem filled6 : PySem.Challenge.rw_pg0066_01 = PySem.Challenge.rw_pg0066_01 ∧ Mine.hd.heap_1 = Mine.hd.heap_1 := by
  k_fill
  exact ⟨rfl, rfl⟩
theorem pick_from {its : Array Value} {k i : Nat} (hk : k ≤ its.size) : (slicePick its (some (k : Int)) none none)[i]? = its[k + i]? := by
  have e : sliceBounds (some (k : Int)) none none its.size = (((k : Nat) : Int), ((its.size : Nat) : Int), 1) := by
    simp only [sliceBounds, Option.getD_none, show (1 : Int) > 0 by decide, if_true, if_neg (show ¬ ((k : Int) < 0) by omega)]
    congr 1
    omega
  rw [kmk_pick_nat _ e]
  simp only [List.getElem?_toArray, List.getElem?_take, List.getElem?_drop, Array.getElem?_toList]
  split
  · rfl
  · rw [Array.getElem?_eq_none (by omega)]
theorem pick_from0 {its : Array Value} {i : Nat} : (slicePick its (some 0) none none)[i]? = its[i]? := by
  have := @pick_from its 0 i (Nat.zero_le _)
  simpa using this
/-- the places of a row hold pairs -/
def Refs (h : Heap) (its : Array Value) (k : Nat) (f p : Nat → Value) : Prop := its.size = k ∧ ∀ i, i < k → ∃ t, its[i]? = some (.ref t) ∧ h.get? t = some (tupObj (f i) (p i))
def sig (b : Int) (j : Nat) : Nat := if b = 0 then (if j % 2 = 0 then j / 2 else 16 + j / 2) else (if j % 2 = 0 then 16 + j / 2 else j / 2)
theorem le_32 {i a : Nat} (h : a = 32) (hi : i ≤ 32) : i ≤ a := h ▸ hi
section
variable {w : World} {mg mb : Str → Option Value} {A : Around} {dp un : Nat} {gd : Option (List Code)} {fr : Option (List Env)} {E : Value → Shared → Prop} {s : Shared} {h₀ : Heap} {L d dd : Addr} {m : Str → Option Value} {news news' : List (Addr × Obj)} {its : Array Value} {n : Nat} {od : Obj} {es : List DictEntry} {k : Nat}
theorem deck_methodP {pl : Sem Bool} {Q : Value × List Value → Shared → Prop} (F : Fr h₀ L s.heap m) (X₀ : (Mine.hd.heap_1 w.params).In h₀) (N : News h₀ L s.heap news) (hd : (d, deckObj dd its n) ∈ news) (hdd : (dd, dictOf es k) ∈ news)
    (hl : getL "push" es = some none) (h : Q (.ref 80, [.ref d]) s) : wpAny (model PP w) A (getMethod (.ref d) "push" pl) Q E s :=
  method_own (X₀.keeps F.keep) (inst_deck (N _ hd).1 (N _ hdd).1) (ga_deck w) gc_deck (gm_deck w) (by kernel_rfl) (by kernel_rfl) (by show (lookIn "push" (dictOf es k)).map _ = _; rw [lookIn_dict, hl]; rfl) h
theorem deck_methodF {pl : Sem Bool} {Q : Value × List Value → Shared → Prop} (F : Fr h₀ L s.heap m) (X₀ : (Mine.hd.heap_1 w.params).In h₀) (N : News h₀ L s.heap news) (hd : (d, deckObj dd its n) ∈ news) (hdd : (dd, dictOf es k) ∈ news)
    (hl : getL "pop_from" es = some none) (h : Q (.ref 88, [.ref d]) s) : wpAny (model PP w) A (getMethod (.ref d) "pop_from" pl) Q E s :=
  method_own (X₀.keeps F.keep) (inst_deck (N _ hd).1 (N _ hdd).1) (ga_deck w) gc_deck (gm_deck w) (by kernel_rfl) (by kernel_rfl) (by show (lookIn "pop_from" (dictOf es k)).map _ = _; rw [lookIn_dict, hl]; rfl) h

theorem deck_popK {x : Int} {i : Nat} {ti : Tok} {news' : Nat → List (Addr × Obj)} {Q : Value → Shared → Prop} (F : Fr h₀ L s.heap m) (X₀ : (Mine.hd.heap_1 w.params).In h₀) (T₀ : TopRead VV LL mg mb h₀) (Y₀ : KIn w h₀) (N : News h₀ L s.heap news)
    (U : ∀ n', Upd d (deckObj dd its n) (deckObj dd (its.extract 0 i) n') news (news' n')) (hdd : (dd, dictOf es k) ∈ news) (hne : @LT.lt Nat _ dd d) (hx : x = (i : Int)) (hi : i ≤ its.size) (hsz : its.size ≤ sizeLine) (hh : A.handled = none) (hdp : A.depth + 10 < recursionLimit) (hun : A.units + 100 < cLine)
    (h : ∀ l n' h' tk', AllNe l news → Fr h₀ L h' m → News h₀ L h' ((l, listOf (slicePick its (some (i : Int)) none none) 0) :: news' n') → Q (.ref l) { s with heap := h', toks := tk' }) :
    wpAny (model PP w) A (call (.ref 88) [.ref d, .int x ti]) Q E s := by
  subst hx
  obtain ⟨hd0, dp, fr, gd, un⟩ := A
  dsimp only at hh hdp hun
  subst hh
  have hm : (d, deckObj dd its n) ∈ news := by
    obtain ⟨pre, post, e, _, _, _⟩ := (U 0).split
    rw [e]; exact List.mem_append.mpr (.inr (.head _))
  refine pop_abs ⟨X₀, T₀, Y₀⟩ F.keep (N _ hm).1 (N _ hdd).1 (N _ hm).2.2 (N _ hdd).2.2 hne hi hsz hdp hun fun l n' h' tk' kp hd' hl' hln => ?_
  obtain ⟨F', N'⟩ := ledger_on F N (U n') kp hd' hl' hln
  exact h l n' h' tk' (allNe_news N hln) F' N'
theorem deck_popK0 {news' : Nat → List (Addr × Obj)} {Q : Value → Shared → Prop} (F : Fr h₀ L s.heap m) (X₀ : (Mine.hd.heap_1 w.params).In h₀) (T₀ : TopRead VV LL mg mb h₀) (Y₀ : KIn w h₀) (N : News h₀ L s.heap news)
    (U : ∀ n', Upd d (deckObj dd its n) (deckObj dd (its.extract 0 0) n') news (news' n')) (hdd : (dd, dictOf es k) ∈ news) (hne : @LT.lt Nat _ dd d) (hsz : its.size ≤ sizeLine) (hh : A.handled = none) (hdp : A.depth + 10 < recursionLimit) (hun : A.units + 100 < cLine)
    (h : ∀ l n' h' tk', AllNe l news → Fr h₀ L h' m → News h₀ L h' ((l, listOf (slicePick its (some 0) none none) 0) :: news' n') → Q (.ref l) { s with heap := h', toks := tk' }) :
    wpAny (model PP w) A (call (.ref 88) [.ref d]) Q E s := by
  obtain ⟨hd0, dp, fr, gd, un⟩ := A
  dsimp only at hh hdp hun
  subst hh
  have hm : (d, deckObj dd its n) ∈ news := by
    obtain ⟨pre, post, e, _, _, _⟩ := (U 0).split
    rw [e]; exact List.mem_append.mpr (.inr (.head _))
  refine pop_abs0 ⟨X₀, T₀, Y₀⟩ F.keep (N _ hm).1 (N _ hdd).1 (N _ hm).2.2 (N _ hdd).2.2 hne hsz hdp hun fun l n' h' tk' kp hd' hl' hln => ?_
  obtain ⟨F', N'⟩ := ledger_on F N (U n') kp hd' hl' hln
  exact h l n' h' tk' (allNe_news N hln) F' N'
theorem deck_pushK {f p : Value} {news' : Addr → List (Addr × Obj)} {Q : Value → Shared → Prop} (F : Fr h₀ L s.heap m) (X₀ : (Mine.hd.heap_1 w.params).In h₀) (T₀ : TopRead VV LL mg mb h₀) (Y₀ : KIn w h₀) (N : News h₀ L s.heap news)
    (U : ∀ t, Upd d (deckObj dd its n) (deckObj dd (its.push (.ref t)) (n + 1)) news (news' t)) (hdd : (dd, dictOf es k) ∈ news) (hne : @LT.lt Nat _ dd d) (hl : getL "append" es = some none) (hsz : its.size ≤ sizeLine) (hh : A.handled = none) (hdp : A.depth + 10 < recursionLimit) (hun : A.units + 100 < cLine)
    (h : ∀ t h' tk', AllNe t news → Fr h₀ L h' m → News h₀ L h' ((t, tupObj f p) :: news' t) → Q .none { s with heap := h', toks := tk' }) :
    wpAny (model PP w) A (call (.ref 80) [.ref d, f, p]) Q E s := by
  obtain ⟨hd0, dp, fr, gd, un⟩ := A
  dsimp only at hh hdp hun
  subst hh
  have hm : (d, deckObj dd its n) ∈ news := by
    obtain ⟨pre, post, e, _, _, _⟩ := (U 0).split
    rw [e]; exact List.mem_append.mpr (.inr (.head _))
  refine push_abs ⟨X₀, T₀, Y₀⟩ F.keep (N _ hm).1 (N _ hdd).1 (N _ hm).2.2 (N _ hdd).2.2 hne hl hsz hdp hun fun t h' tk' kp hd' ht' htn => ?_
  obtain ⟨F', N'⟩ := ledger_on F N (U t) kp hd' ht' htn
  exact h t h' tk' (allNe_news N htn) F' N'
theorem row_item {value slice : Expr} {l : Addr} {arr : Array Value} {i nn : Nat} {u : Tok} {v : Value} {Q : Value → Shared → Prop} (N : News h₀ L s.heap news) (hm : (l, listOf arr nn) ∈ news) (hx : arr[i]? = some v) (hi : i < 1000) (h : Q v s)
    (hs : subscripted slice false (.ref l) (.int (i : Int) u) = operate [.ref l, .int (i : Int) u] (getItem (.ref l) (.int (i : Int) u))) :
    wpAny (model PP w) A (subscriptTail value slice (.ref l) (.int (i : Int) u)) Q E s := by
  have hl : s.heap.IsList l arr := ⟨_, (N _ hm).1, rfl, _, rfl⟩
  exact tail_any hl.typeIs slot_list_getitem.lookup (wpAny_getItem_list hl (by omega) (by omega) (by simpa using hx) h) hs
theorem pair_item {value slice : Expr} {t : Addr} {j : Nat} {x y v : Value} {u : Tok} {Q : Value → Shared → Prop} (F : Fr h₀ L s.heap m) (ht : h₀.get? t = some (tupObj x y)) (hj : j < 2) (hv : ([x, y] : List Value)[j]? = some v) (h : Q v s)
    (hs : subscripted slice false (.ref t) (.int (j : Int) u) = operate [.ref t, .int (j : Int) u] (getItem (.ref t) (.int (j : Int) u))) :
    wpAny (model PP w) A (subscriptTail value slice (.ref t) (.int (j : Int) u)) Q E s :=
  item_tupleT (l := [x, y]) ⟨_, F.keep _ _ ht, rfl, _, rfl⟩ (by omega) (by omega) (j := j) (by simp [seqIndex?]; omega) hv h hs
end
end Mine

end
section -- part R6c
open PySem PySem.W PyProof.Rows PySem.Calls
set_option maxRecDepth 100000
namespace Mine
section
variable {prog : Program} {w : World} {A : Around} {E : Value → Shared → Prop} {s : Shared} {g : Heap} {env : Env} {m : Str → Option Value} {dd d l1 l2 : Addr} {a0 a1 a2 b1 b2 : Array Value} {es : List DictEntry} {k n0 : Nat} {fA pA fB pB : Nat → Value}
theorem shuffle_loop {Q : Flow → Shared → Prop} {px : Pos} {body : List Stmt} {r : Addr} {t u v : Tok}
    (hh : A.handled = none) (hx : env.kindOf "k" = some .local)
    (hp : (env.scope.kind == .class || (env.scope.kind == .module && env.locals != env.globals)) = false)
    (F : Fr g env.locals s.heap m) (N : News g env.locals s.heap [(l1, listOf a1 0), (l2, listOf a2 0), (d, deckObj dd a0 n0), (dd, dictOf es k)])
    (hr : IsRange s.heap r 0 16 1 t u v) (ha0 : a0.size = 0)
    (hA : ∀ i, i < 16 → ∃ t, b1[i]? = some (.ref t) ∧ g.get? t = some (tupObj (fA i) (pA i)))
    (hB : ∀ i, i < 16 → ∃ t, b2[i]? = some (.ref t) ∧ g.get? t = some (tupObj (fB i) (pB i)))
    (turn : ∀ (i it nn : Nat) (acc : Array Value) (rest : List (Addr × Obj)) (h : Heap) (tk t' t1 t2 : Nat), i < 16 → acc.size = 2 * i → b1[i]? = some (.ref t1) → g.get? t1 = some (tupObj (fA i) (pA i)) → b2[i]? = some (.ref t2) → g.get? t2 = some (tupObj (fB i) (pB i)) →
      (@Ne Nat l1 it ∧ @Ne Nat l2 it ∧ @Ne Nat d it ∧ @Ne Nat dd it) → (∀ p ∈ rest, p.1 ≠ d) → AllNe it rest →
      Fr g env.locals h (fun y => if y = Str.ofString "k" then some (.int (i : Int) t') else m y) →
      News g env.locals h ((it, riterObj ((i : Int) + 1) ((16 : Int) - i - 1)) :: (l1, listOf a1 0) :: (l2, listOf a2 0) :: (d, deckObj dd acc nn) :: (dd, dictOf es k) :: rest) →
      wpAny (model prog w) A (execs body env) (fun f s₂ => Done (f = .next ∧ ∃ h' tk' tA tB nn', s₂ = { s with heap := h', toks := tk' } ∧ Fr g env.locals h' (fun y => if y = Str.ofString "k" then some (.int (i : Int) t') else m y) ∧
        News g env.locals h' ((tB, tupObj (fB i) (pB i)) :: (tA, tupObj (fA i) (pA i)) :: (it, riterObj ((i : Int) + 1) ((16 : Int) - i - 1)) :: (l1, listOf a1 0) :: (l2, listOf a2 0) :: (d, deckObj dd ((acc.push (.ref tA)).push (.ref tB)) nn') :: (dd, dictOf es k) :: rest) ∧
        (@Ne Nat it tA ∧ @Ne Nat d tA) ∧ (@Ne Nat it tB ∧ @Ne Nat d tB))) (fun _ _ => False) { s with heap := h, toks := tk })
    (done : ∀ acc nn m₁ h tk, Fr g env.locals h m₁ → h.get? d = some (deckObj dd acc nn) → h.get? dd = some (dictOf es k) → acc.size = 32 → (∀ j, j < 32 → ∃ t, acc[j]? = some (.ref t) ∧ h.get? t = some (tupObj (if j % 2 = 0 then fA (j / 2) else fB (j / 2)) (if j % 2 = 0 then pA (j / 2) else pB (j / 2))) ∧ g.get? t = none) → Q .next { s with heap := h, toks := tk }) :
    wpAny (model prog w) A (pyIter (.ref r)) (fun it s₂ =>
      codeAny (model prog w) A (.forLoop (.Name "k" px) it body [] env) (fun r s' => match r with | .ok f => Q f s' | .error e => cameBackBy (model prog w) A env E e s') s₂) E s := by
  refine range_loop (n := 16) (m := m) hh hx hp F N hr (by decide +kernel) (by decide +kernel)
    (fun i m₁ news₁ => (∀ y, y ≠ Str.ofString "k" → m₁ y = m y) ∧ ∃ acc nn rest, news₁ = (l1, listOf a1 0) :: (l2, listOf a2 0) :: (d, deckObj dd acc nn) :: (dd, dictOf es k) :: rest ∧ (∀ p ∈ rest, p.1 ≠ d) ∧ acc.size = 2 * i ∧
      ∀ j, j < 2 * i → ∃ t, acc[j]? = some (.ref t) ∧ (t, tupObj (if j % 2 = 0 then fA (j / 2) else fB (j / 2)) (if j % 2 = 0 then pA (j / 2) else pB (j / 2))) ∈ rest) ?_ ?_ ?_
  · exact ⟨fun _ _ => rfl, a0, n0, [], rfl, (fun _ hp => by cases hp), ha0, (fun j hj => absurd hj (by omega))⟩
  · rintro i it m₁ news₁ h tk t' hi ⟨hm, acc, nn, rest, rfl, hrest, hacc, hall⟩ hne F₁ N₁
    obtain ⟨t1, e1, g1⟩ := hA i hi
    obtain ⟨t2, e2, g2⟩ := hB i hi
    have em : (fun y => if y = Str.ofString "k" then some (Value.int (i : Int) t') else m₁ y) = (fun y => if y = Str.ofString "k" then some (Value.int (i : Int) t') else m y) := by
      funext y
      by_cases q : y = Str.ofString "k"
      · rw [if_pos q, if_pos q]
      · rw [if_neg q, if_neg q]; exact hm y q
    have F₂ : Fr g env.locals h (fun y => if y = Str.ofString "k" then some (Value.int (i : Int) t') else m y) := em ▸ F₁
    simp only [AllNe] at hne
    refine wpAny_mono (turn i it nn acc rest h tk t' t1 t2 hi hacc e1 g1 e2 g2 ⟨hne.1, hne.2.1, hne.2.2.1, hne.2.2.2.1⟩ hrest hne.2.2.2.2 F₂ N₁) (fun f s₂ q => ?_) fun _ _ e => e
    obtain ⟨rfl, h', tk', tA, tB, nn', rfl, F', N', neA, neB⟩ := q.out
    refine ⟨rfl, h', tk', _, (l1, listOf a1 0) :: (l2, listOf a2 0) :: (d, deckObj dd ((acc.push (.ref tA)).push (.ref tB)) nn') :: (dd, dictOf es k) :: (tB, tupObj (fB i) (pB i)) :: (tA, tupObj (fA i) (pA i)) :: rest, rfl, F', ?_, ?_, ?_⟩
    · intro q hq
      refine N' q ?_
      simp only [List.mem_cons] at hq ⊢
      rcases hq with h | h | h | h | h | h | h | h <;> simp [h]
    · exact ⟨hne.1, hne.2.1, hne.2.2.1, hne.2.2.2.1, Ne.symm neB.1, Ne.symm neA.1, hne.2.2.2.2⟩
    · refine ⟨fun y q => if_neg q, _, nn', _, rfl, ?_, ?_, ?_⟩
      · intro q hq
        simp only [List.mem_cons] at hq
        rcases hq with rfl | rfl | hq
        · exact Ne.symm neB.2
        · exact Ne.symm neA.2
        · exact hrest q hq
      · simp only [Array.size_push]; omega
      · intro j hj
        by_cases q1 : j < 2 * i
        · obtain ⟨tt, ea, eb⟩ := hall j q1
          refine ⟨tt, ?_, .tail _ (.tail _ eb)⟩
          rw [Array.getElem?_push, Array.getElem?_push, if_neg (by simp; omega), if_neg (by omega)]
          exact ea
        · by_cases q2 : j = 2 * i
          · subst q2
            refine ⟨tA, ?_, ?_⟩
            · rw [Array.getElem?_push, Array.getElem?_push, if_neg (by simp; omega), if_pos hacc.symm]
            · rw [if_pos (by omega), if_pos (by omega), show 2 * i / 2 = i by omega]
              exact .tail _ (.head _)
          · have q3 : j = 2 * i + 1 := by omega
            subst q3
            refine ⟨tB, ?_, ?_⟩
            · rw [Array.getElem?_push, if_pos (by simp; omega)]
            · rw [if_neg (by omega), if_neg (by omega), show (2 * i + 1) / 2 = i by omega]
              exact .head _
  · rintro m₁ news₁ h tk ⟨hm, acc, nn, rest, rfl, hrest, hacc, hall⟩ F₁ N₁
    refine done acc nn m₁ h tk F₁ (N₁ _ (.tail _ (.tail _ (.head _)))).1 (N₁ _ (.tail _ (.tail _ (.tail _ (.head _))))).1 hacc fun j hj => ?_
    obtain ⟨tt, ea, eb⟩ := hall j (by omega)
    exact ⟨tt, ea, (N₁ _ (.tail _ (.tail _ (.tail _ (.tail _ eb))))).1, (N₁ _ (.tail _ (.tail _ (.tail _ (.tail _ eb))))).2.2⟩
end
end Mine

end
section -- part R8
open PySem PySem.W PyProof.Rows PySem.Calls
set_option maxRecDepth 100000
namespace Mine
theorem base_tup {g h : Heap} {d dd t : Addr} {x y : Value} {its : Array Value} {n : Nat} {es : List DictEntry} {k : Nat} (kp : ∀ b o, h.get? b = some o → b ∉ List.map (·.1) [(d, deckObj dd its n), (dd, dictOf es k)] → g.get? b = some o)
    (h1 : h.get? d = some (deckObj dd its n)) (h2 : h.get? dd = some (dictOf es k)) (ht : h.get? t = some (tupObj x y)) : g.get? t = some (tupObj x y) := by
  refine kp _ _ ht ?_
  simp only [List.map_cons, List.map_nil, List.mem_cons, List.not_mem_nil, or_false, not_or]
  constructor
  · rintro rfl
    have := ht.symm.trans h1
    simp at this
  · rintro rfl
    have := ht.symm.trans h2
    simp [dictOf] at this
theorem lower_half {g h : Heap} {d dd : Addr} {its : Array Value} {n : Nat} {es : List DictEntry} {k : Nat} {f p : Nat → Value} (kp : ∀ b o, h.get? b = some o → b ∉ List.map (·.1) [(d, deckObj dd its n), (dd, dictOf es k)] → g.get? b = some o)
    (h1 : h.get? d = some (deckObj dd its n)) (h2 : h.get? dd = some (dictOf es k)) (hR : Refs h its 32 f p) :
    ∀ i, i < 16 → ∃ t, (slicePick (its.extract 0 16) (some 0) none none)[i]? = some (.ref t) ∧ g.get? t = some (tupObj (f i) (p i)) := by
  intro i hi
  obtain ⟨t, e, ht⟩ := hR.2 i (by omega)
  refine ⟨t, ?_, base_tup kp h1 h2 ht⟩
  rw [pick_from0, Array.getElem?_extract, if_pos (by have := hR.1; omega), Nat.zero_add]
  exact e
theorem upper_half {g h : Heap} {d dd : Addr} {its : Array Value} {n : Nat} {es : List DictEntry} {k : Nat} {f p : Nat → Value} (kp : ∀ b o, h.get? b = some o → b ∉ List.map (·.1) [(d, deckObj dd its n), (dd, dictOf es k)] → g.get? b = some o)
    (h1 : h.get? d = some (deckObj dd its n)) (h2 : h.get? dd = some (dictOf es k)) (hR : Refs h its 32 f p) :
    ∀ i, i < 16 → ∃ t, (slicePick its (some ((16 : Nat) : Int)) none none)[i]? = some (.ref t) ∧ g.get? t = some (tupObj (f (16 + i)) (p (16 + i))) := by
  intro i hi
  obtain ⟨t, e, ht⟩ := hR.2 (16 + i) (by omega)
  refine ⟨t, ?_, base_tup kp h1 h2 ht⟩
  rw [pick_from (by have := hR.1; omega)]
  exact e
theorem news_tail {h₀ h : Heap} {L : Addr} {q : Addr × Obj} {news : List (Addr × Obj)} (N : News h₀ L h (q :: news)) : News h₀ L h news := fun p hp => N p (.tail _ hp)
/-- as Refs, and the pairs are new -/
def RefsN (h₀ h : Heap) (its : Array Value) (k : Nat) (f p : Nat → Value) : Prop := its.size = k ∧ ∀ i, i < k → ∃ t, its[i]? = some (.ref t) ∧ h.get? t = some (tupObj (f i) (p i)) ∧ h₀.get? t = none
theorem RefsN.refs {h₀ h : Heap} {its : Array Value} {k : Nat} {f p : Nat → Value} (r : RefsN h₀ h its k f p) : Refs h its k f p := ⟨r.1, fun i hi => let ⟨t, a, b, _⟩ := r.2 i hi; ⟨t, a, b⟩⟩
theorem tup_new {h h' g : Heap} {t d dd : Addr} {x y : Value} {its its' : Array Value} {n n' : Nat} {es : List DictEntry} {k : Nat} (kp : ∀ b o, h.get? b = some o → b ∉ List.map (·.1) [(d, deckObj dd its n), (dd, dictOf es k)] → g.get? b = some o)
    (h1 : h'.get? d = some (deckObj dd its' n')) (h2 : h'.get? dd = some (dictOf es k)) (ht : h'.get? t = some (tupObj x y)) (hg : g.get? t = none) : h.get? t = none := by
  refine new_deck hg kp ?_ ?_
  · rintro rfl
    have := ht.symm.trans h1
    simp at this
  · rintro rfl
    have := ht.symm.trans h2
    simp [dictOf] at this
theorem filled8 : PySem.Challenge.rw_pg0066_01 = PySem.Challenge.rw_pg0066_01 ∧ Mine.hd.heap_1 = Mine.hd.heap_1 := by
  k_fill
  exact ⟨rfl, rfl⟩
local macro_rules | `(tactic| walk_at "getMethod ref") => `(tactic| (k_here; (with_reducible show wpAny _ _ (getMethod (Value.ref _) (PySem.Str.ofString "pop_from") _) _ _ _); k_dflt (refine' deck_methodF ?k1 ?k2 ?k3 ?k4 ?k5 ?k6 ?_; (case k1 => k_asm); (case k2 => k_asm); (case k3 => k_asm); (case k4 => k_mem); (case k5 => k_mem); (case k6 => assumption))))
local macro_rules | `(tactic| walk_at "getMethod ref") => `(tactic| (k_here; (with_reducible show wpAny _ _ (getMethod (Value.ref _) (PySem.Str.ofString "push") _) _ _ _); k_dflt (refine' deck_methodP ?k1 ?k2 ?k3 ?k4 ?k5 ?k6 ?_; (case k1 => k_asm); (case k2 => k_asm); (case k3 => k_asm); (case k4 => k_mem); (case k5 => k_mem); (case k6 => assumption))))
local macro_rules | `(tactic| walk_at "call ref") => `(tactic| (k_here; (with_reducible show wpAny _ _ (call (Value.ref 88) [Value.ref _, Value.int _ _]) _ _ _); k_dflt (refine' deck_popK ?k1 ?k2 ?k3 ?kY ?k4 ?k5 ?k6 ?k7 ?hx ?k8 ?z ?hh ?hdp ?hun ?_; (case hx => exact (rfl : (16 : Int) = ((16 : Nat) : Int))); (case k1 => k_asm); (case k2 => k_asm); (case k3 => k_asm); (case kY => assumption); (case k4 => k_asm); (case k5 => (intro n'; k_upd)); (case k6 => k_mem); (case k7 => assumption); (case k8 => exact le_32 (by assumption) (by decide)); (case z => (rw [sizeLine_eq]; omega)); (case hh => exact rfl); (case hdp => (simp only [depth_deeper]; omega)); (case hun => (simp only [units_deeper]; omega))); intro l' n' h' tk' l1 F' N'; (simp only [AllNe, and_true] at l1)))
local macro_rules | `(tactic| walk_at "call ref") => `(tactic| (k_here; (show wpAny _ _ (call (Value.ref 88) [Value.ref _]) _ _ _); k_dflt (refine' deck_popK0 ?k1 ?k2 ?k3 ?kY ?k4 ?k5 ?k6 ?k7 ?z ?hh ?hdp ?hun ?_; (case k1 => k_asm); (case k2 => k_asm); (case k3 => k_asm); (case kY => assumption); (case k4 => k_asm); (case k5 => (intro n'; k_upd)); (case k6 => k_mem); (case k7 => assumption); (case z => (simp only [Array.size_extract]; rw [sizeLine_eq]; omega)); (case hh => exact rfl); (case hdp => (simp only [depth_deeper]; omega)); (case hun => (simp only [units_deeper]; omega))); intro l' n' h' tk' l1 F' N'; (simp only [AllNe, and_true] at l1)))
local macro_rules | `(tactic| walk_at "call ref") => `(tactic| (k_here; (with_reducible show wpAny _ _ (call (Value.ref 80) [Value.ref _, _, _]) _ _ _); k_dflt (refine' deck_pushK ?k1 ?k2 ?k3 ?kY ?k4 ?k5 ?k6 ?k7 ?k8 ?z ?hh ?hdp ?hun ?_; (case k1 => k_asm); (case k2 => k_asm); (case k3 => k_asm); (case kY => assumption); (case k4 => k_asm); (case k5 => (intro t'; k_upd)); (case k6 => k_mem); (case k7 => assumption); (case k8 => assumption); (case z => ((try simp only [Array.size_push]); rw [sizeLine_eq]; omega)); (case hh => exact rfl); (case hdp => (simp only [depth_deeper]; omega)); (case hun => (simp only [units_deeper]; omega))); intro t' h' tk' l1 F' N'; (simp only [AllNe] at l1)))
local macro_rules | `(tactic| walk_at "exec For Name Call cons nil") => `(tactic| (k_here; (with_reducible show wpAny _ _ (exec (Stmt.For _ _ _ _ _) _) _ _ _); refine halt ?_))
local macro_rules | `(tactic| walk_at "pyIter ref") => `(tactic| (k_here; refine halt ?_))
local macro_rules | `(tactic| k_all) => `(tactic| assumption)
local macro_rules | `(tactic| walk_at "subscriptTail") => `(tactic| (k_here; (with_reducible show wpAny _ _ (subscriptTail _ _ (Value.ref _) (Value.int _ _)) _ _ _); k_dflt (refine' row_item ?k1 ?k2 ?k3 ?k4 ?_ ?k5; (case k1 => k_asm); (case k2 => k_mem); (case k3 => assumption); (case k4 => omega); (case k5 => with_unfolding_all rfl))))
local macro_rules | `(tactic| walk_at "subscriptTail") => `(tactic| (k_here; (with_reducible show wpAny _ _ (subscriptTail _ _ (Value.ref _) (Value.int 0 _)) _ _ _); k_dflt (refine' pair_item (j := 0) ?k1 ?k2 ?k3 ?k4 ?_ ?k5; (case k1 => k_asm); (case k2 => assumption); (case k3 => decide); (case k4 => exact rfl); (case k5 => with_unfolding_all rfl))))
local macro_rules | `(tactic| walk_at "subscriptTail") => `(tactic| (k_here; (with_reducible show wpAny _ _ (subscriptTail _ _ (Value.ref _) (Value.int 1 _)) _ _ _); k_dflt (refine' pair_item (j := 1) ?k1 ?k2 ?k3 ?k4 ?_ ?k5; (case k1 => k_asm); (case k2 => assumption); (case k3 => decide); (case k4 => exact rfl); (case k5 => with_unfolding_all rfl))))

set_option maxHeartbeats 8000000 in
theorem shuffle_abs0 {w : World} {mg mb : Str → Option Value} {dp un : Nat} {gd : Option (List Code)} {fr : Option (List Env)} {h₀ : Heap} {s : Shared} {Q E : Value → Shared → Prop}
    {d dd : Addr} {its : Array Value} {n : Nat} {es : List DictEntry} {k : Nat} {tb : Tok} {f p : Nat → Value}
    (G : Ground0 w mg mb h₀) (hk : ∀ b o, h₀.get? b = some o → s.heap.get? b = some o) (h1 : s.heap.get? d = some (deckObj dd its n)) (h2 : s.heap.get? dd = some (dictOf es k))
    (h01 : h₀.get? d = none) (h02 : h₀.get? dd = none) (hne : @LT.lt Nat _ dd d) (hlA : getL "append" es = some none) (hlP : getL "push" es = some none) (hlF : getL "pop_from" es = some none) (hR : Refs s.heap its 32 f p) (hdp : dp + 20 < recursionLimit) (hun : un + 200 < cLine)
    (hret : ∀ its' n' h' tk', (∀ b o, b ≠ d → s.heap.get? b = some o → h'.get? b = some o) → h'.get? d = some (deckObj dd its' n') → RefsN s.heap h' its' 32 (fun j => f (sig 0 j)) (fun j => p (sig 0 j)) → Q .none { s with heap := h', toks := tk' }) :
    wpAny (model PP w) { handled := none, depth := dp, frames := fr, guards := gd, units := un } (call (.ref 160) [.ref d, .int 0 tb]) Q E s := by
  have hsz := hR.1
  refine wpAny_call ?_
  k_dflt (refine' enter_def (news := [(d, deckObj dd its n), (dd, dictOf es k)]) (binds := [(Str.ofString "deck", .ref d), (Str.ofString "inward", .int 0 tb)]) G hk ?hn ?k6 ?k7 ?k8 ?k9 ?kB ?_ ?c2 ?c3 ?c4 ?c5; (case k6 => k_is); (case k7 => k_is); (case k8 => (show dp < recursionLimit; omega)); (case k9 => exact BindsTo.of_eq rfl); (case c5 => decide); (case kB => exact locs rfl); (case c2 => exact rfl); (case c3 => exact rfl); (case c4 => exact rfl); k_whole)
  case hn =>
    intro q hq
    rcases List.mem_cons.mp hq with rfl | hq
    · exact ⟨h1, h01⟩
    · rcases List.mem_cons.mp hq with rfl | hq
      · exact ⟨h2, h02⟩
      · cases hq
  intro g' L' h' F' N' X' T' kp hgs Y'
  try dsimp only
  try k_fold
  k_steps
  show wpAny _ _ (exec _ _) _ _ _
  refine wpAny_For ?_
  k_steps
  show wpAny _ _ (pyIter _) _ _ _
  have hA := lower_half kp h1 h2 hR
  have hB := upper_half kp h1 h2 hR
  k_dflt (refine' shuffle_loop (b1 := slicePick (its.extract 0 16) (some 0) none none) (b2 := slicePick its (some ((16 : Nat) : Int)) none none) ?q1 ?q2 ?q3 ?q4 ?q5 ?q6 ?q7 hA hB ?turn ?done; (case q1 => exact rfl); (case q2 => exact rfl); (case q3 => exact rfl); (case q4 => k_asm); (case q5 => k_asm); (case q6 => assumption); (case q7 => (simp only [Array.size_extract]; omega)))
  case turn =>
    intro i it nn acc rest h tk t' t1 t2 hi hacc e1 g1 e2 g2 hit hrest hitr F9 N9
    try k_fold
    k_steps
    exact ⟨rfl, _, _, _, _, _, rfl, by k_asm, by k_asm, ⟨by omega, by omega⟩, ⟨by omega, by omega⟩⟩
  case done =>
    intro acc nn m₁ h tk F9 hd9 hdd9 hs9 hall
    k_steps
    refine hret acc nn h tk (kept_deck F9 h2 hdd9 kp) hd9 ⟨hs9, fun j hj => ?_⟩
    obtain ⟨t, e, ht, hg0⟩ := hall j hj
    refine ⟨t, e, ?_, tup_new kp hd9 hdd9 ht hg0⟩
    rw [ht]
    simp only [sig]
    split <;> simp
set_option maxHeartbeats 8000000 in
theorem shuffle_abs1 {w : World} {mg mb : Str → Option Value} {dp un : Nat} {gd : Option (List Code)} {fr : Option (List Env)} {h₀ : Heap} {s : Shared} {Q E : Value → Shared → Prop}
    {d dd : Addr} {its : Array Value} {n : Nat} {es : List DictEntry} {k : Nat} {tb : Tok} {f p : Nat → Value}
    (G : Ground0 w mg mb h₀) (hk : ∀ b o, h₀.get? b = some o → s.heap.get? b = some o) (h1 : s.heap.get? d = some (deckObj dd its n)) (h2 : s.heap.get? dd = some (dictOf es k))
    (h01 : h₀.get? d = none) (h02 : h₀.get? dd = none) (hne : @LT.lt Nat _ dd d) (hlA : getL "append" es = some none) (hlP : getL "push" es = some none) (hlF : getL "pop_from" es = some none) (hR : Refs s.heap its 32 f p) (hdp : dp + 20 < recursionLimit) (hun : un + 200 < cLine)
    (hret : ∀ its' n' h' tk', (∀ b o, b ≠ d → s.heap.get? b = some o → h'.get? b = some o) → h'.get? d = some (deckObj dd its' n') → RefsN s.heap h' its' 32 (fun j => f (sig 1 j)) (fun j => p (sig 1 j)) → Q .none { s with heap := h', toks := tk' }) :
    wpAny (model PP w) { handled := none, depth := dp, frames := fr, guards := gd, units := un } (call (.ref 160) [.ref d, .int 1 tb]) Q E s := by
  have hsz := hR.1
  refine wpAny_call ?_
  k_dflt (refine' enter_def (news := [(d, deckObj dd its n), (dd, dictOf es k)]) (binds := [(Str.ofString "deck", .ref d), (Str.ofString "inward", .int 1 tb)]) G hk ?hn ?k6 ?k7 ?k8 ?k9 ?kB ?_ ?c2 ?c3 ?c4 ?c5; (case k6 => k_is); (case k7 => k_is); (case k8 => (show dp < recursionLimit; omega)); (case k9 => exact BindsTo.of_eq rfl); (case c5 => decide); (case kB => exact locs rfl); (case c2 => exact rfl); (case c3 => exact rfl); (case c4 => exact rfl); k_whole)
  case hn =>
    intro q hq
    rcases List.mem_cons.mp hq with rfl | hq
    · exact ⟨h1, h01⟩
    · rcases List.mem_cons.mp hq with rfl | hq
      · exact ⟨h2, h02⟩
      · cases hq
  intro g' L' h' F' N' X' T' kp hgs Y'
  try dsimp only
  try k_fold
  k_steps
  show wpAny _ _ (exec _ _) _ _ _
  refine wpAny_For ?_
  k_steps
  show wpAny _ _ (pyIter _) _ _ _
  have hA := lower_half kp h1 h2 hR
  have hB := upper_half kp h1 h2 hR
  k_dflt (refine' shuffle_loop (b2 := slicePick (its.extract 0 16) (some 0) none none) (b1 := slicePick its (some ((16 : Nat) : Int)) none none) ?q1 ?q2 ?q3 ?q4 ?q5 ?q6 ?q7 hB hA ?turn ?done; (case q1 => exact rfl); (case q2 => exact rfl); (case q3 => exact rfl); (case q4 => k_asm); (case q5 => exact news_tail (by k_asm)); (case q6 => assumption); (case q7 => (simp only [Array.size_extract]; omega)))
  case turn =>
    intro i it nn acc rest h tk t' t1 t2 hi hacc e1 g1 e2 g2 hit hrest hitr F9 N9
    try k_fold
    k_steps
    exact ⟨rfl, _, _, _, _, _, rfl, by k_asm, by k_asm, ⟨by omega, by omega⟩, ⟨by omega, by omega⟩⟩
  case done =>
    intro acc nn m₁ h tk F9 hd9 hdd9 hs9 hall
    k_steps
    refine hret acc nn h tk (kept_deck F9 h2 hdd9 kp) hd9 ⟨hs9, fun j hj => ?_⟩
    obtain ⟨t, e, ht, hg0⟩ := hall j hj
    refine ⟨t, e, ?_, tup_new kp hd9 hdd9 ht hg0⟩
    rw [ht]
    simp only [sig]
    split <;> simp
end Mine

end
section -- part X1
open PySem PySem.W PySem.W.X PyProof.Rows
namespace Mine
theorem wpAny_le {α : Type} {M : Model} {A A' : Around} {t : Sem α} {Q : α → Shared → Prop} {E : Value → Shared → Prop} {s : Shared} (hh : A.handled = A'.handled) (hd : A.depth ≤ A'.depth) (hu : A.units ≤ A'.units)
    (hf : ∀ l, A'.frames = some l → A.frames = some l) (hg : ∀ g, A'.guards = some g → A.guards = some g) (h : wpAny M A' t Q E s) : wpAny M A t Q E s :=
  fun Γ p hΓ => h Γ p ⟨hΓ.1.trans hh, Nat.le_trans hΓ.2.1 hd, fun l hl => hΓ.2.2.1 l (hf l hl), fun g hl => hΓ.2.2.2.1 g (hg g hl), Nat.le_trans hΓ.2.2.2.2 hu⟩
theorem filledX : PySem.Challenge.rw_pg0066_01 = PySem.Challenge.rw_pg0066_01 ∧ Mine.K = Mine.K := by
  k_fill
  exact ⟨rfl, rfl⟩
abbrev Abig (fs : List Env) : Around := { handled := none, depth := 600, frames := some fs, guards := none, units := 2000 }
/-- the deck's own names: its first size alone -/
def Own5 (tk : Tok) (es : List DictEntry) : Prop := getL "append" es = some none ∧ getL "push" es = some none ∧ getL "pop_from" es = some none ∧ getL "part_count" es = some none ∧ getL "_initial_size" es = some (some (.int 5 tk))

theorem new_end {h h' : Heap} {d dd : Addr} {n : Nat} {g : Array GenState} {dr : Drawn} {tk' : Nat} {os : OsState} {Q : Value → Shared → Prop}
    (D : Mem h h' [] [(d, deckObj dd #[] n), (dd, dictOf [] 0)])
    (hret : ∀ d dd n h' tk', (∀ b o, h.get? b = some o → h'.get? b = some o) → h'.get? d = some (deckObj dd #[] n) → h'.get? dd = some (dictOf [] 0) → h.get? d = none → h.get? dd = none → @LT.lt Nat _ dd d → Q (.ref d) ⟨h', g, dr, tk', os⟩) :
    Q (.ref d) ⟨h', g, dr, tk', os⟩ := by
  have a := D.nw _ (.head _)
  have b := D.nw _ (.tail _ (.head _))
  have o := D.ord
  refine hret d dd n h' tk' (fun b o e => D.keep b o e (by simp [away])) a.1 b.1 a.2 b.2 ?_
  simp only [List.map_cons, List.map_nil, List.pairwise_cons] at o
  exact o.1 dd (by simp)
section
local macro_rules | `(tactic| x_close) => `(tactic| (refine' new_end ?D ?r; (case D => assumption); (case r => assumption)))
set_option maxRecDepth 100000 in
set_option maxHeartbeats 0 in
theorem list_new {w : World} {h : Heap} {g : Array GenState} {dr : Drawn} {t : Nat} {os : OsState} {fs : List Env} {tk : Tok} {Q : Value → Shared → Prop} (KX : (Mine.K w.params).In h)
   (hret : ∀ d dd n h' tk', (∀ b o, h.get? b = some o → h'.get? b = some o) → h'.get? d = some (deckObj dd #[] n) → h'.get? dd = some (dictOf [] 0) → h.get? d = none → h.get? dd = none → @LT.lt Nat _ dd d → Q (.ref d) ⟨h', g, dr, tk', os⟩) :
   wpAny (model PP w) (Abig fs) (call (.builtin "list.__new__") [.ref 135, .int 5 tk]) Q (fun _ _ => False) ⟨h, g, dr, t, os⟩ := by
  x_run
end
theorem wrap_end {h h' : Heap} {q : Addr} {o : Obj} {g : Array GenState} {dr : Drawn} {tk' : Nat} {os : OsState} {Q : Value → Shared → Prop}
    (D : Mem h h' [] [(q, o)])
    (hret : ∀ q h' tk', (∀ b o, h.get? b = some o → h'.get? b = some o) → h'.get? q = some o → h.get? q = none → Q (.ref q) ⟨h', g, dr, tk', os⟩) :
    Q (.ref q) ⟨h', g, dr, tk', os⟩ := by
  have a := D.nw _ (.head _)
  exact hret q h' tk' (fun b o e => D.keep b o e (by simp [away])) a.1 a.2
section
local macro_rules | `(tactic| x_close) => `(tactic| (refine' wrap_end ?D ?r; (case D => assumption); (case r => assumption)))
set_option maxRecDepth 100000 in
set_option maxHeartbeats 0 in
theorem wrap_init {w : World} {h : Heap} {g : Array GenState} {dr : Drawn} {t : Nat} {os : OsState} {fs : List Env} {x dd : Addr} {its : Array Value} {n : Nat} {Q : Value → Shared → Prop} (KX : (Mine.K w.params).In h)
   (hx : h.get? x = some ⟨.ref 135, some dd, .seq its n, #[]⟩)
   (hret : ∀ q h' tk', (∀ b o, h.get? b = some o → h'.get? b = some o) → h'.get? q = some { cls := .type "method-wrapper", data := .fields #[.builtin "list.__init__", .ref x] } → h.get? q = none → Q (.ref q) ⟨h', g, dr, tk', os⟩) :
   wpAny (model PP w) (Abig fs) (call (.builtin "wrapper_descriptor.__get__") [.builtin "list.__init__", .ref x, .ref 135]) Q (fun _ _ => False) ⟨h, g, dr, t, os⟩ := by
  x_run
set_option maxRecDepth 100000 in
set_option maxHeartbeats 0 in
theorem wrap_len {w : World} {h : Heap} {g : Array GenState} {dr : Drawn} {t : Nat} {os : OsState} {fs : List Env} {x dd : Addr} {its : Array Value} {n : Nat} {Q : Value → Shared → Prop} (KX : (Mine.K w.params).In h)
   (hx : h.get? x = some ⟨.ref 135, some dd, .seq its n, #[]⟩)
   (hret : ∀ q h' tk', (∀ b o, h.get? b = some o → h'.get? b = some o) → h'.get? q = some { cls := .type "method-wrapper", data := .fields #[.builtin "list.__len__", .ref x] } → h.get? q = none → Q (.ref q) ⟨h', g, dr, tk', os⟩) :
   wpAny (model PP w) (Abig fs) (call (.builtin "wrapper_descriptor.__get__") [.builtin "list.__len__", .ref x, .ref 135]) Q (fun _ _ => False) ⟨h, g, dr, t, os⟩ := by
  x_run
end
theorem len_end {h h' : Heap} {k : Int} {tk : Tok} {g : Array GenState} {dr : Drawn} {tk' : Nat} {os : OsState} {Q : Value → Shared → Prop}
    (D : Mem h h' [] [])
    (hret : ∀ tk h' tk', (∀ b o, h.get? b = some o → h'.get? b = some o) → Q (.int k tk) ⟨h', g, dr, tk', os⟩) :
    Q (.int k tk) ⟨h', g, dr, tk', os⟩ := hret tk h' tk' (fun b o e => D.keep b o e (by simp [away]))
section
local macro_rules | `(tactic| x_close) => `(tactic| (refine' len_end ?D ?r; (case D => first | assumption | exact Mem.start _); (case r => assumption)))
set_option maxRecDepth 100000 in
set_option maxHeartbeats 0 in
theorem len_bound {w : World} {h : Heap} {g : Array GenState} {dr : Drawn} {t : Nat} {os : OsState} {fs : List Env} {x q dd : Addr} {its : Array Value} {n : Nat} {Q : Value → Shared → Prop} (KX : (Mine.K w.params).In h)
   (hx : h.get? x = some ⟨.ref 135, some dd, .seq its n, #[]⟩) (hq : h.get? q = some ⟨.type "method-wrapper", none, .fields #[.builtin "list.__len__", .ref x], #[]⟩)
   (hret : ∀ tk h' tk', (∀ b o, h.get? b = some o → h'.get? b = some o) → Q (.int (its.size : Int) tk) ⟨h', g, dr, tk', os⟩) :
   wpAny (model PP w) (Abig fs) (call (.ref q) []) Q (fun _ _ => False) ⟨h, g, dr, t, os⟩ := by
  x_run
end
end Mine

end
section -- part R9
open PySem PySem.W PyProof.Rows PySem.Calls Builtin Builtin.ObjectAttr
set_option maxRecDepth 100000
namespace Mine
theorem wd_type_init : typeOf (.builtin "list.__init__") = pure (.type "wrapper_descriptor") := by show builtinType _ = _; rw [builtinType_eq_fast]; kernel_rfl
theorem wd_type_len : typeOf (.builtin "list.__len__") = pure (.type "wrapper_descriptor") := by show builtinType _ = _; rw [builtinType_eq_fast]; kernel_rfl
theorem wd_get : typeLookup (.type "wrapper_descriptor") "__get__" = pure (some (.builtin "wrapper_descriptor.__get__")) := by rw [typeLookup_type, builtinLookup_eq_fast]; kernel_rfl
section
variable {w : World} {A : Around} {E : Value → Shared → Prop} {h : Heap} {g : Array GenState} {d : Drawn} {t : Nat} {os : OsState}
theorem super_gaB {so D x C : Addr} {id : String} {l₀ l : List Value} {K : Frag} {name : Str} {tk : Tok} {Q : Fin → Shared → Prop}
    (hso : h.get? so = some { cls := .type "super", dict := none, data := .fields #[.ref D, .ref x, .ref C], slots := #[] }) (hno : Looks (model PP w) h (opaqueClassAbove (.ref C)) none)
    (hC : Looks (model PP w) h (mroOf (.ref C)) l₀) (hl : (l₀.dropWhile (· != .ref D)).drop 1 = l) (X : K.In h)
    (hf : alongIn K name l = some (some (.builtin id))) (hty : typeOf (.builtin id) = pure (.type "wrapper_descriptor")) (hxC : x ≠ C) (hn : (name == ("__class__" : Str)) = false)
    (hq : wpAny (model PP w) A (call (.builtin "wrapper_descriptor.__get__") [.builtin id, .ref x, .ref C]) (fun v s' => Q (.done (.ret v)) s') E ⟨h, g, d, t, os⟩) :
    wpAny (model PP w) A (Builtin.«super.__getattribute__» ⟨[.ref so, .str name tk], []⟩) Q E ⟨h, g, d, t, os⟩ := by
  have hne : (Value.ref x == Value.ref C) = false := by simp [hxC]
  have hdt : ({ cls := .type "super", dict := none, data := .fields #[.ref D, .ref x, .ref C], slots := #[] } : Obj).data = .fields #[.ref D, .ref x, .ref C] := rfl
  have f0 : (#[.ref D, .ref x, .ref C] : Array Value)[0]? = some (.ref D) := rfl
  have f1 : (#[.ref D, .ref x, .ref C] : Array Value)[1]? = some (.ref x) := rfl
  have f2 : (#[.ref D, .ref x, .ref C] : Array Value)[2]? = some (.ref C) := rfl
  have hlk := wd_get
  unfold Builtin.«super.__getattribute__»
  repeat (first
    | (with_reducible refine wpAny_field hso hdt f0 ?_) | (with_reducible refine wpAny_field hso hdt f1 ?_) | (with_reducible refine wpAny_field hso hdt f2 ?_)
    | (with_reducible refine ks_wpAny_notOpaque hno ?_)
    | (with_reducible refine Looks.at hC ?_; rw [hl])
    | (refine ks_forIn_along X (fun _ _ => rfl) rfl ?_ hf)
    | (with_reducible refine wpAny_mono hq (fun v s' z => wpAny_pure (wpAny_pure z)) (fun _ _ z => z))
    | (with_reducible refine wpAny_mono hq (fun v s' z => ?_) (fun _ _ z => z))
    | (simp only [hn, hne, hty, hlk, Bool.or_false, Bool.false_eq_true, if_false])
    | wp_step
    | dsimp only)
  all_goals exact z

theorem super_methodB {so D x C : Addr} {id : String} {l₀ l : List Value} {K : Frag} {name : Str} {pl : Sem Bool} {Q : Value × List Value → Shared → Prop}
    (hso : h.get? so = some { cls := .type "super", dict := none, data := .fields #[.ref D, .ref x, .ref C], slots := #[] }) (hno : Looks (model PP w) h (opaqueClassAbove (.ref C)) none)
    (hC : Looks (model PP w) h (mroOf (.ref C)) l₀) (hl : (l₀.dropWhile (· != .ref D)).drop 1 = l) (X : K.In h)
    (hf : alongIn K name l = some (some (.builtin id))) (hty : typeOf (.builtin id) = pure (.type "wrapper_descriptor")) (hxC : x ≠ C) (hn : (name == ("__class__" : Str)) = false)
    (hq : wpAny (model PP w) A.in1 (call (.builtin "wrapper_descriptor.__get__") [.builtin id, .ref x, .ref C]) (fun v s' => v ≠ .none ∧ (∃ a, v = .ref a) ∧ Q (v, []) s') (fun _ _ => False) ⟨h, g, d, t + 1, os⟩) :
    wpAny (model PP w) A (getMethod (.ref so) name pl) Q E ⟨h, g, d, t, os⟩ := by
  have hlk := PySem.F.ks_slot_super_ga.lookup
  have hcan := PySem.F.ks_canon_super_ga
  have hT : ∀ t', (⟨h, g, d, t', os⟩ : Shared).TypeIs (.ref so) "super" := fun _ => ⟨_, hso, rfl⟩
  unfold getMethod
  refine wpAny_bind (wpAny_specialOf (hT _) hlk ?_)
  show wpAny _ _ (if (Manifest.canonical "super.__getattribute__" != "object.__getattribute__") = true then _ else _) _ _ _
  rw [if_pos hcan]
  unfold getAttr getAttrBy
  refine wpAny_bind (wpAny_bind (wpAny_mkText (wpAny_holding (wpAny_bind (wpAny_typeOf (hT _) (wpAny_bind (wpAny_of_eq hlk ?_)))))))
  show wpAny _ _ (getAttrByItsOwn (.ref so) (.str name t) (.type "super") (.builtin "super.__getattribute__") true false) _ _ _
  unfold getAttrByItsOwn hookBefore callGetattribute boundAndCalled
  refine wpAny_bind (wpAny_of_eq (show (if onTheHeap (.type "super") then typeLookup (.type "super") "__getattr__" else pure none) = pure none from rfl) ?_)
  refine wpAny_bind (wpAny_attempt (wpAny_holding ?_))
  show wpAny _ _ (bindSpecial (.builtin "super.__getattribute__") (.ref so) >>= _) _ _ _
  refine wpAny_bind (wpAny_of_eq (PySem.F.ks_slot_super_ga.bind _) ?_)
  refine wpAny_mono (E := fun _ _ => False)
    (wpAny_call_entry PySem.F.ks_slot_super_ga (hT _) PySem.F.ks_entry_super_ga (super_gaB hso hno hC hl X hf hty hxC hn (wpAny_mono hq (fun v s' z => ⟨v, rfl, z⟩) fun _ _ z => z)) (PySem.F.ks_gaArgs_super _ _)) (fun v s' hv => ?_) fun _ _ z => z.elim
  obtain ⟨_, ⟨a, rfl⟩, hv⟩ := hv
  exact wpAny_pure (wpAny_pure hv)
end

section
variable {w : World} {A : Around} {E : Value → Shared → Prop} {s : Shared} {x dd q : Addr} {its : Array Value} {n : Nat} {od : Obj}
theorem split_init : splitId "list.__init__" = some ("list", "__init__") := by decide +kernel
theorem entry_init : entryFor table "list.__init__" = some Builtin.«list.__init__» := entryFor_of_tree (by kernel_rfl)
theorem bound_init (x : Addr) : checkBoundCall "list.__init__" ⟨[.ref x], []⟩ = pure () := by kernel_rfl
theorem init_bound {Q : Value → Shared → Prop} (h1 : s.heap.get? x = some (deckObj dd its n)) (hq : s.heap.get? q = some { cls := .type "method-wrapper", data := .fields #[.builtin "list.__init__", .ref x] })
    (hsz : its.size ≤ sizeLine)
    (h : ∀ h' n', Heap.SameBut x s.heap h' → h'.get? x = some (deckObj dd #[] n') → Q .none { s with heap := h' }) : wpAny (model PP w) A (call (.ref q) []) Q E s := by
  refine wpAny_call (codeAny_of_tree ?_)
  show wpAny _ A.in1 (callAny (.ref q) _) _ _ _
  unfold callAny
  refine wpAny_bind (wpAny_load hq ?_)
  dsimp only
  rw [if_pos (by decide)]
  show wpAny _ _ (checkBoundCall "list.__init__" ⟨[.ref x], []⟩ >>= fun _ => again (Code.builtin "list.__init__" ⟨[.ref x], []⟩)) _ _ _
  rw [bound_init]
  refine wpAny_bind (wpAny_pure (wpAny_pure ⟨Code.quiet_builtin _ (by decide +kernel), codeAny_builtin entry_init ?_⟩))
  show wpAny _ _ (Builtin.List.listItems (.ref x) >>= _) _ _ _
  unfold Builtin.List.listItems
  refine wpAny_bind (wpAny_bind (wpAny_seqItems h1 rfl (wpAny_pure ?_)))
  show wpAny _ _ (updateSeq x (fun _ => #[]) >>= _) _ _ _
  refine wpAny_bind ?_
  have key : Obj.mapSeq (fun _ => (#[] : Array Value)) (deckObj dd its n) = deckObj dd #[] (if 0 == its.size then n else n + 1) := by
    simp [Obj.mapSeq, deckObj]
  refine wpAny_updateSeq h1 rfl (wpAny_bind (wpAny_letGo (wpAny_pure (h _ (if 0 == its.size then n else n + 1) (Heap.SameBut.update ..) ?_)))) hsz (by simp)
  rw [Heap.get?_update_self _ h1 (by rw [key]; rfl), key]
theorem refuse_deck (self : Value) : refuseLoop self "__setattr__" [.ref 135, .type "list", .type "object"] = pure () := by
  rw [refuseLoop_ref]; kernel_rfl
theorem mro_is (w : World) : (clsIn (Mine.hd.heap_1 w.params) 135).any (fun cd => cd.mro == [.ref 135, .type "list", .type "object"]) = true := by kernel_rfl
end
section
variable {w : World} {A : Around} {E : Value → Shared → Prop} {s : Shared} {x dd L : Addr} {its : Array Value} {n k k' : Nat} {es es' : List DictEntry} {h₀ : Heap} {m : Str → Option Value} {news news' : List (Addr × Obj)} {name : Str} {v : Value}
theorem deck_set {Q : Unit → Shared → Prop} (F : Fr h₀ L s.heap m) (X₀ : (Mine.hd.heap_1 w.params).In h₀) (N : News h₀ L s.heap news) (hd : (x, deckObj dd its n) ∈ news)
    (ht : takerIn (Mine.hd.heap_1 w.params) 135 name = some none) (hl : (getL name es).isSome = true)
    (e : (putL name (PyData.keyHash w.params name) (.str name (s.toks + 1)) v es, putN name es k) = (es', k')) (U : Upd dd (dictOf es k) (dictOf es' k') news news') (hz : es'.length ≤ 1000)
    (h : ∀ h', Fr h₀ L h' m → News h₀ L h' news' → Q () { s with heap := h', toks := s.toks + 2 }) :
    wpAny (model PP w) A (setAttr (.ref x) name v) Q E s := by
  obtain ⟨pre, post, rfl, rfl, h1, h2⟩ := U.split
  obtain ⟨e1, e2⟩ := Prod.mk.inj e
  have hdd : (dd, dictOf es k) ∈ pre ++ (dd, dictOf es k) :: post := by simp
  have X := X₀.keeps F.keep
  have I := inst_deck (N _ hd).1 (N _ hdd).1
  obtain ⟨cd, hc, hmro⟩ := any_some (mro_is w)
  have hmro : cd.mro = [.ref 135, .type "list", .type "object"] := beq_iff_eq.mp hmro
  have SF := PySem.F.store_object
  refine set_plain X I (by kernel_rfl) ?_
  have sub : Looks (model PP w) s.heap (isInstance (.ref x) (.type "object")) true := I.type.andThen (looks_mroIn X (by kernel_rfl))
  refine codeAny_call_builtin SF.slot.plain SF.entry (@check_slot (model PP w) _ _ { s with toks := s.toks + 1 } "object.__setattr__" "object" "__setattr__" (.ref x) [.str name s.toks, v] [] _ SF.kind SF.split sub (SF.args (.ref x) (.str name s.toks) v) ?_)
  obtain ⟨attr, ha, hr⟩ := Option.bind_eq_some_iff.mp ht
  have hm : Looks (model PP w) s.heap (mroOf (.ref 135)) cd.mro := (looks_clsIn X hc).andThen .now
  have L3 : Looks (model PP w) s.heap (storeTaker? attr) none := by
    cases attr with
    | none => exact .now
    | some a =>
      obtain ⟨b, hb, hb'⟩ := Option.map_eq_some_iff.mp hr
      refine (looks_takesIn X hb).andThen ?_
      cases b with
      | true => simp at hb'
      | false => exact .now
  rw [osa_eq, refuse_eq]
  refine wpAny_bind (wpAny_bind (I.type.at (wpAny_bind (hm.at ?_))))
  rw [hmro, refuse_deck]
  refine wpAny_pure (wpAny_bind (I.type.at (wpAny_bind ((looks_findIn X ha).at (wpAny_bind (L3.at ?_))))))
  show wpAny _ _ (storeInOwnDict (.ref x) (.ref 135) (.str name s.toks) name v attr.isSome) _ _ _
  obtain ⟨U1, U2⟩ := news_upd (f := Obj.putName name (PyData.keyHash w.params name) (.str name (s.toks + 1)) v) (o' := dictOf es' k') F N h1 h2 (by rw [putName_dict, e1, e2]) rfl
  have D := (N (dd, dictOf es k) (by simp)).1
  have D' := (U2 (dd, dictOf es' k') (by simp)).1
  have hx := (N _ hd).1
  have hdict : (clsIn (Mine.hd.heap_1 w.params) 135).any (·.hasDict) = true := by kernel_rfl
  obtain ⟨cd', hc', hd'⟩ := any_some hdict
  refine wpAny_bind (wpAny_pure (wpAny_bind (wpAny_bind (wpAny_loadPart hx (wpAny_bind ((looks_clsIn X hc').at ?_))))))
  rw [hd']
  refine wpAny_pure (a := some dd) (wpAny_bind (wpAny_pure (wpAny_bind ?_)))
  unfold nsSet
  refine wpAny_bind (wpAny_bind (wpAny_askSetting (wpAny_pure (wpAny_bind (wpAny_mkText (wpAny_bind (wpAny_loadPart D ?_)))))))
  have hany : aRefKeyMayBeTheName name es.toArray = false := by
    rw [aRefKeyMayBeTheName_at]
    have hl' : (lookIn name (dictOf es k)).isSome = true := hl
    unfold lookIn at hl'
    dsimp only [dictOf] at hl'
    rw [← Array.any_toList, ← Array.any_toList]
    split at hl'
    · rename_i en he
      rw [List.any_eq_true.mpr ⟨en, List.mem_of_find?_eq_some he, List.find?_some he⟩]; rfl
    · split at hl'
      · cases hl'
      · rename_i z; rw [Bool.not_eq_true] at z; rw [z, Bool.and_false]
  show wpAny _ _ (if aRefKeyMayBeTheName name es.toArray = true then _ else _) _ _ _
  rw [hany]
  refine wpAny_updatePart D ?_
  refine wpAny_bind (wpAny_lookBehind D' (by exact pastItsLine_dict (by rw [List.size_toArray, sizeLine_eq]; omega)) ?_)
  exact wpAny_pure (h _ U1 U2)
end
end Mine

end
section -- part R10
open PySem PySem.W PyProof.Rows PySem.Calls Builtin Builtin.ObjectAttr
set_option maxRecDepth 100000
namespace Mine
section
variable {w : World} {A : Around} {h : Heap} {g : Array GenState} {d : Drawn} {t : Nat} {os : OsState} {R : Result → Shared → Prop} {tk : Tok} {fs : List Env}
theorem K_sub {P : Params} {h : Heap} (X : (Mine.K P).In h) : (Mine.hd.heap_1 P).In h := fun a o e => X a o (by unfold Mine.K; rw [List.lookup_append, e]; rfl)
set_option maxHeartbeats 2000000 in
theorem acc_make (Y : (Mine.K w.params).In h) (hh : A.handled = none) (hf : A.frames = some fs) (hd : A.depth + 1 ≤ 600) (hu : A.units + 10 ≤ 2000)
    (hq : ∀ x dd n h' tk', (∀ b o, h.get? b = some o → h'.get? b = some o) → h'.get? x = some (deckObj dd #[] n) → h'.get? dd = some (dictOf [] 0) → h.get? x = none → h.get? dd = none → @LT.lt Nat _ dd x →
      codeAny (model PP w) (A.under (.builtin "type.__call__" ⟨[.ref 135, .int 5 tk], []⟩)) (.call (.ref 73) ⟨[.ref x, .int 5 tk], []⟩) (InitBack x R) ⟨h', g, d, tk', os⟩) :
    codeAny (model PP w) A (.call (.ref 135) ⟨[.int 5 tk], []⟩) R ⟨h, g, d, t, os⟩ := by
  have X := K_sub Y
  have call : Looks (model PP w) h (specialOf (.ref 135) "__call__") (some (.builtin "type.__call__")) := looks_specialIn X (by kernel_rfl)
  have typ : Looks (model PP w) h (isInstance (.ref 135) (.type "type")) true := looks_instIn X (by kernel_rfl)
  have made : Looks (model PP w) h (Bind.madeBy (.ref 135)) (some "list.__new__") := Looks.of_peek X (by kernel_rfl)
  obtain ⟨cd, hc, hmro⟩ := any_some (mro_is w)
  have hmro : cd.mro = [.ref 135, .type "list", .type "object"] := beq_iff_eq.mp hmro
  have hm : Looks (model PP w) h (mroOf (.ref 135)) cd.mro := (looks_clsIn X hc).andThen .now
  obtain ⟨oa, ob, oc, hC⟩ : ∃ oa ob oc, h.get? 135 = some ⟨oa, ob, .cls cd, oc⟩ := by
    unfold clsIn at hc
    split at hc
    · rename_i ho; cases hc; exact ⟨_, _, _, X _ _ ho⟩
    · cases hc
  refine codeAny_of_tree ?_
  show wpAny _ _ (callAny (.ref 135) _) _ _ _
  refine nd_load hC ?_
  show wpAny _ _ (callAny.viaDunder (.ref 135) _) _ _ _
  unfold callAny.viaDunder
  refine wpAny_bind (call.at ?_)
  dsimp only
  rw [tc_bind]
  refine wpAny_bind (wpAny_pure (wpAny_bind (wpAny_pure ?_)))
  refine wpAny_pure (a := Fin.again (.call (.builtin "type.__call__") ⟨[.ref 135, .int 5 tk], []⟩)) (And.intro rfl ?_)
  refine codeAny_call_builtin_at (Code.quiet_builtin _ (by decide +kernel)) entry_typeCall (check_slot tc_kind tc_split typ (tc_args _ _ _) ?_)
  unfold Builtin.«type.__call__»
  have e4 : cd.mro.isEmpty = false := by rw [hmro]; rfl
  have new : wpAny (model PP w) (A.under (.builtin "type.__call__" ⟨[.ref 135, .int 5 tk], []⟩)) (PySem.call (.builtin "list.__new__") [.ref 135, .int 5 tk])
      (fun v s' => ∃ x dd n h' tk', v = .ref x ∧ s' = ⟨h', g, d, tk', os⟩ ∧ (∀ b o, h.get? b = some o → h'.get? b = some o) ∧ h'.get? x = some (deckObj dd #[] n) ∧ h'.get? dd = some (dictOf [] 0) ∧ h.get? x = none ∧ h.get? dd = none ∧ @LT.lt Nat _ dd x) (fun _ _ => False) ⟨h, g, d, t, os⟩ := by
    refine wpAny_le (A' := Abig fs) hh hd ?_ ?_ ?_ (list_new Y fun x dd n h' tk' a1 a2 a3 a4 a5 a6 => ⟨x, dd, n, h', tk', rfl, rfl, a1, a2, a3, a4, a5, a6⟩)
    · show A.units + _ ≤ 2000
      exact Nat.le_trans (Nat.add_le_add_left (show (Code.builtin "type.__call__" { pos := [Value.ref 135, Value.int 5 tk] }).cUnits ≤ 10 from by have e : (Code.builtin "type.__call__" { pos := [Value.ref 135, Value.int 5 tk] }).cUnits = (Code.builtin "type.__call__" { pos := [Value.ref 135, Value.int 5 0] }).cUnits := rfl; rw [e]; decide +kernel) _) hu
    · intro l hl; cases hl; exact hf
    · intro l hl; cases hl
  repeat (first | simp only [e4, Bool.false_eq_true, if_false] | ((fail_if_success (with_reducible refine wpAny_mono new (fun v s' z => ?_) (fun _ _ z => z.elim))); lk))
  refine wpAny_mono new (fun v s' z => ?_) (fun _ _ z => z.elim)
  obtain ⟨x, dd, n, h', tk', rfl, rfl, k, a2, a3, a4, a5, a6⟩ := z
  have X' := X.keeps k
  have I := inst_deck a2 a3
  have t1 : Looks (model PP w) h' (typeOf (.ref x)) (.ref 135) := I.type
  have s1 : Looks (model PP w) h' (isSubtype (.ref 135) (.ref 135)) true := looks_mroIn X' (by kernel_rfl)
  have i1 : Looks (model PP w) h' (typeLookup (.ref 135) "__init__") (some (.ref 73)) := looks_findIn X' (by kernel_rfl)
  have b1 : Looks (model PP w) h' (bindSpecial (.ref 73) (.ref x)) (.ref 73, [.ref x]) := bind_fn X' _ (by kernel_rfl)
  unfold isInstance callSpecial? specialOf
  repeat (first | with_reducible refine wpAny_call ?_ | lk)
  trace_state
  refine codeAny_mono (hq x dd n h' tk' k a2 a3 a4 a5 a6) fun r s' z => ?_
  rcases r with e | (v | _ | _ | _) <;> first | exact z | exact z.elim | skip
  obtain ⟨rfl, z⟩ := z
  exact wpAny_pure (wpAny_pure z)
end
end Mine

end
section -- part R11
open PySem PySem.W PyProof.Rows PySem.Calls Builtin Builtin.ObjectAttr
set_option maxRecDepth 100000
namespace Mine
theorem filled11 : PySem.Challenge.rw_pg0066_01 = PySem.Challenge.rw_pg0066_01 ∧ Mine.hd.heap_1 = Mine.hd.heap_1 := by
  k_fill
  exact ⟨rfl, rfl⟩
section
variable {w : World} {A : Around} {E : Value → Shared → Prop} {s : Shared} {h₀ : Heap} {L : Addr} {m mg mb : Str → Option Value} {news : List (Addr × Obj)} {x dd f cda : Addr} {its : Array Value} {n : Nat} {od1 : Obj}
/-- super() in a method of the deck's class, by what is read of the top -/
theorem super_node {body : List Stmt} {q : Str} {scope : Scope} {p0 p1 : Pos} {attr : Str} {whole : Sem Value} {fd : FuncData} {ar : Arg} {vs : Array Value} {file : Str} {tf : Tok} {oc ccl cl : Value} {od cdd cld : Option Addr} {osl ccs csl : Array (Option Value)} {cdD : ClassData} {Q : Value → Shared → Prop}
    (F : Fr h₀ L s.heap m) (X₀ : (Mine.hd.heap_1 w.params).In h₀) (N : News h₀ L s.heap news) (T : TopRead VV LL mg mb h₀)
    (hf : (Mine.hd.heap_1 w.params).lookup f = some ⟨oc, od, .func fd, osl⟩) (hp : (fd.params.posonlyargs ++ fd.params.args).head? = some ar) (hv : m ar.arg = some (.ref x)) (I : InstAt s.heap x (deckObj dd its n) 135 (some od1))
    (hcode : (Mine.hd.heap_1 w.params).lookup cda = some ⟨ccl, cdd, .fields vs, ccs⟩) (hvs : vs[2]? = some (.str file tf)) (hfile : ((PP.main.file : Str) == file) = true)
    (hcell : (Mine.hd.heap_1 w.params).lookup 60 = some ⟨cl, cld, .cell (some (.ref 135)), csl⟩) (hD : clsIn (Mine.hd.heap_1 w.params) 135 = some cdD) (hsub : mroIn (Mine.hd.heap_1 w.params) 135 (.ref 135) = some true) (hsuper : nsIn (Mine.hd.heap_1 w.params) mainGlobals "super" = some none)
    (hat : (attr == ("__class__" : Str)) = false) (hks : scope.names.lookup ("super" : Str) = some .globalImplicit) (hkc : scope.names.lookup ("__class__" : Str) = some .free) (hka : scope.names.lookup ar.arg = some .local) (hk : scope.kind = .function)
    (htop : (PP.main.scope.names.lookup ("super" : Str)).isSome = false) (hboot : bootBuiltins "super" = some (.type "super"))
    (h : ∀ so h', Fr h₀ L h' m → News h₀ L h' ((so, ks_superObj 135 x 135) :: news) → (∀ p ∈ news, p.1 < so) → Q (.ref so) { s with heap := h' }) :
    _root_.PySem.wpAt (model PP w) A (.func body (ksEnv q scope L f (.ref cda) 60)) (attributeBase (.Call (.Name "super" p0) [] [] p1) attr (ksEnv q scope L f (.ref cda) 60) whole) Q E s := by
  have X := X₀.keeps F.keep
  obtain ⟨hh, g, d, t, os⟩ := s
  obtain ⟨oD, hD1, hD2⟩ : ∃ oD, hh.get? 135 = some oD ∧ oD.data = .cls cdD := by
    unfold clsIn at hD
    split at hD
    · rename_i ho; cases hD; exact ⟨_, X _ _ ho, rfl⟩
    · cases hD
  have hglob : (hh.Ns mainGlobals mg) := T.g.keeps F.keep
  refine ks_wpAt_super_base (env := ksEnv q scope L f (.ref cda) 60) hks hkc hat rfl (X _ _ hf) rfl hp rfl (X _ _ hcode) rfl hvs hfile htop
    (ks_loadName_global hk hks (loadGlobal_builtin (env := ksEnv q scope L f (.ref cda) 60) hglob (mg_none_of X₀ T.g hsuper) (T.b.keeps F.keep) ((T.builtins _ (by decide +kernel)).trans hboot)
      ⟨rfl, wpAny_loadName_free hk hkc rfl ⟨_, X _ _ hcell, rfl⟩ (wpAny_loadName_local hk hka F.ns hv (ks_wpAny_isType_cls hD1 hD2 ⟨rfl, ?_⟩))⟩))
  refine ks_wpAny_call_super hD1 hD2 I.at_ I.cls (fun c e => by cases e) (looks_mroIn X hsub) fun h' e k => ?_
  obtain ⟨F', N', l'⟩ := ks_newsPush (s := ⟨hh, g, d, t, os⟩) F N rfl e k
  exact h _ _ F' N' l'
end
theorem enter_super {w : World} {mg mb : Str → Option Value} {A : Around} {s : Shared} {h₀ : Heap} {news : List (Addr × Obj)}
    {R : Result → Shared → Prop} {name qual : Str} {params : Arguments} {body : List Stmt} {scope : Scope} {dV kV doc pm cdv ct oc : Value} {an od : Option Addr} {osl : Array (Option Value)} {f cc : Addr} {args : Args} {binds : List (Str × Value)}
    (G : Ground0 w mg mb h₀) (hk : ∀ b o, h₀.get? b = some o → s.heap.get? b = some o) (hn : ∀ q ∈ news, s.heap.get? q.1 = some q.2 ∧ h₀.get? q.1 = none)
    (ho : (Mine.hd.heap_1 w.params).lookup f = some ⟨oc, od, .func (ksFn name qual params body scope dV kV doc pm an cdv ct cc), osl⟩) (hcd : codeIn (Mine.hd.heap_1 w.params) cdv qual = true) (hroom : A.depth < recursionLimit)
    (hbind : BindsTo s (ksFn name qual params body scope dV kV doc pm an cdv ct cc) args binds) (hloc : ∀ y ∈ binds, scope.names.lookup y.1 = some .local)
    (h : ∀ g L' h₁, Fr g L' h₁ (fun y => binds.reverse.lookup y) → News g L' h₁ news → (Mine.hd.heap_1 w.params).In g → TopRead VV LL mg mb g → (∀ b o, s.heap.get? b = some o → b ∉ news.map (·.1) → g.get? b = some o) → g.objs.size = s.heap.objs.size → KIn w g →
      _root_.PySem.wpAt (model PP w) (A.deeper (ksEnv qual scope L' f cdv cc)) (.func body (ksEnv qual scope L' f cdv cc)) (execs body (ksEnv qual scope L' f cdv cc))
        (fun fl s' => R (.ok (.ret (match fl with | .ret v => v | _ => .none))) s') (fun _ _ => False)
        { s with heap := h₁, toks := s.toks + binds.length })
    (hcell : ∀ x ∈ scope.names, x.2 ≠ .cell) (hco : scope.isCoroutine = false) (hgen : scope.isGenerator = false) (hkk : scope.kind = .function) : codeAny (model PP w) A (.call (.ref f) args) R s := by
  have X := G.X.keeps hk
  refine ks_codeAny_call_defAt (fd := ksFn name qual params body scope dV kV doc pm an cdv ct cc) (body := body) (binds := binds) hroom (X _ _ ho) rfl (G.T.nolimit.keeps hk) (codeRec_of X hcd) rfl hbind hcell hloc (fun h₁ hns hk₁ => ?_) hco hgen hkk
  have nm : ∀ b o, h₀.get? b = some o → b ∉ news.map (·.1) := fun b o e q => by
    obtain ⟨p, hp, rfl⟩ := List.mem_map.mp q
    rw [(hn p hp).2] at e; cases e
  have st : ∀ b o, h₀.get? b = some o → (hideAll s.heap (news.map (·.1))).get? b = some o := fun b o e => hideAll_get _ (hk b o e) (nm b o e)
  exact ks_wpAt_mono (h (hideAll s.heap (news.map (·.1))) s.heap.objs.size h₁ ⟨hns, fun b o e => hk₁ b o (of_hideAll _ e), Nat.le_of_eq (hideAll_size _ _)⟩
    (fun p hp => ⟨hk₁ _ _ (hn p hp).1, Nat.ne_of_lt (Heap.lt_size (hn p hp).1), hideAll_none _ (List.mem_map_of_mem hp)⟩) (G.X.keeps st) (G.T.keeps st) (fun b o e q => hideAll_get _ e q) (hideAll_size _ _) (G.Y.keeps st)) (fun fl s' hl => hl) fun _ _ x => x.elim
theorem inst_deckN {h₀ h : Heap} {L x dx : Addr} {news : List (Addr × Obj)} {od : Obj} {its : Array Value} {n : Nat} (N : News h₀ L h news) (h1 : (x, deckObj dx its n) ∈ news) (h2 : (dx, od) ∈ news) :
    InstAt h x (deckObj dx its n) 135 (some od) := inst_deck (N _ h1).1 (N _ h2).1
local macro_rules | `(tactic| k_inst) => `(tactic| (refine' inst_deckN ?N ?h1 ?h2; (case N => k_asm); (case h1 => k_mem); (case h2 => k_mem)))
local macro_rules | `(tactic| walk_at "wpAt") => `(tactic| (ks_step "attributeBase Call"; k_here; k_dflt (refine super_node (by k_asm) (by k_asm) (by k_asm) (by assumption) (by k_is) (by rfl) (by rfl) (by k_inst) (by k_is) (by rfl) (by first | rfl | decide +kernel) (by k_is) (by k_is) (by k_is) (by k_is) (by decide) (by rfl) (by rfl) (by rfl) (by rfl) (by decide +kernel) (by first | boot_by_name | rfl | kernel_rfl) ?_; intro so' h' F' N' l1; (try k_lt l1))))
local macro_rules | `(tactic| walk_at "setAttr ref") => `(tactic| (k_here; k_dflt (refine' deck_set ?k1 ?k2 ?k3 ?k4 ?k5 ?k6 ?k7 ?k8 ?z ?_; (case k1 => k_asm); (case k2 => k_asm); (case k3 => k_asm); (case k4 => k_mem); (case k5 => k_is); (case k8 => k_upd); (case k6 => k_get); (case k7 => k_put); (case z => exact Nat.le_of_ble_eq_true rfl)); intro h' F' N'))
theorem fresh_news {h₀ h h' : Heap} {L q : Addr} {o : Obj} {m : Str → Option Value} {news : List (Addr × Obj)} (F : Fr h₀ L h m) (N : News h₀ L h news) (k : ∀ b x, h.get? b = some x → h'.get? b = some x) (hq : h'.get? q = some o) (hn : h.get? q = none) :
    Fr h₀ L h' m ∧ News h₀ L h' ((q, o) :: news) := by
  obtain ⟨oL, es, ep, hL, hr⟩ := F.ns
  refine ⟨⟨⟨oL, es, ep, k _ _ hL, hr⟩, fun b x e => k _ _ (F.keep b x e), F.above⟩, fun p hp => ?_⟩
  rcases List.mem_cons.mp hp with rfl | hp
  · refine ⟨hq, fun e => ?_, ?_⟩
    · dsimp only at e; rw [← e, hn] at hL; cases hL
    · cases z : h₀.get? q with
      | none => rfl
      | some x => have := F.keep _ _ z; rw [hn] at this; cases this
  · exact ⟨k _ _ (N p hp).1, (N p hp).2⟩
section
variable {w : World} {A : Around} {E : Value → Shared → Prop} {s : Shared} {so x dd L q : Addr} {its : Array Value} {n : Nat} {od : Obj} {h₀ : Heap} {m : Str → Option Value} {news news' : List (Addr × Obj)} {fs : List Env}
theorem superK_init {pl : Sem Bool} {Q : Value × List Value → Shared → Prop} (F : Fr h₀ L s.heap m) (X₀ : (Mine.hd.heap_1 w.params).In h₀) (Y₀ : KIn w h₀) (N : News h₀ L s.heap news) (hso : (so, ks_superObj 135 x 135) ∈ news) (hx : (x, deckObj dd its n) ∈ news) (hdd : (dd, od) ∈ news)
    (hh : A.handled = none) (hf : A.frames = some fs) (hd : A.depth ≤ 600) (hu : A.units + 10 ≤ 2000)
    (h : ∀ q h' tk', AllNe q news → Fr h₀ L h' m → News h₀ L h' ((q, { cls := .type "method-wrapper", data := .fields #[.builtin "list.__init__", .ref x] }) :: news) → Q (.ref q, []) { s with heap := h', toks := tk' }) :
    wpAny (model PP w) A (getMethod (.ref so) "__init__" pl) Q E s := by
  have X := X₀.keeps F.keep
  have Y := Y₀.keeps F.keep
  have I := inst_deckN N hx hdd
  have hxs := (N _ hx).1
  obtain ⟨cd, hc, hmro⟩ := any_some (mro_is w)
  have hmro : cd.mro = [.ref 135, .type "list", .type "object"] := beq_iff_eq.mp hmro
  have hm : Looks (model PP w) s.heap (mroOf (.ref 135)) cd.mro := (looks_clsIn X hc).andThen .now
  obtain ⟨hh', g, d, t, os⟩ := s
  refine super_methodB (N _ hso).1 (looks_opaque X (by kernel_rfl)) hm rfl X (id := "list.__init__") (by rw [hmro]; kernel_rfl) wd_type_init (ks_ne X I hc) (by decide) ?_
  refine wpAny_le (A' := Abig fs) hh hd ?_ ?_ ?_ (wrap_init Y.out hxs fun q h' tk' k hq hn => ⟨by simp, ⟨q, rfl⟩, ?_⟩)
  · show A.units + 1 ≤ 2000; omega
  · intro l hl; cases hl; exact hf
  · intro l hl; cases hl
  · obtain ⟨F', N'⟩ := fresh_news F N k hq hn
    exact h q h' tk' (allNe_news N hn) F' N'
theorem boundK_init {Q : Value → Shared → Prop} {news' : Nat → List (Addr × Obj)} (F : Fr h₀ L s.heap m) (N : News h₀ L s.heap news) (hq : (q, { cls := .type "method-wrapper", data := .fields #[.builtin "list.__init__", .ref x] }) ∈ news)
    (U : ∀ n', Upd x (deckObj dd its n) (deckObj dd #[] n') news (news' n')) (hsz : its.size ≤ sizeLine)
    (h : ∀ h' n', Fr h₀ L h' m → News h₀ L h' (news' n') → Q .none { s with heap := h' }) : wpAny (model PP w) A (call (.ref q) []) Q E s := by
  have hm : (x, deckObj dd its n) ∈ news := by
    obtain ⟨pre, post, e, _, _, _⟩ := (U 0).split
    rw [e]; exact List.mem_append.mpr (.inr (.head _))
  refine init_bound (N _ hm).1 (N _ hq).1 hsz fun h' n' hs hd' => ?_
  obtain ⟨pre, post, e, e', a, b⟩ := (U n').split
  subst e
  have z := N _ hm
  refine h h' n' (F.change hs z.2.1 z.2.2) ?_
  rw [e']
  exact news_set N a b hs hd'
end
theorem callWith_W0 {M : Model} {A : Around} {E : Value → Shared → Prop} {s : Shared} {env : Env} {pos : Pos} {q L : Addr} {a b : Value} {Q : Value → Shared → Prop} {h₀ : Heap} {news : List (Addr × Obj)}
    (N : News h₀ L s.heap news) (hq : (q, { cls := .type "method-wrapper", data := .fields #[a, b] }) ∈ news) (h : wpAny M A (call (.ref q) []) Q E s) : wpAny M A (callWith pos (.ref q) [] (backTo pos (starEach [] env)) []) Q E s :=
  callWith_of (P := fun h => h.get? q = some { cls := .type "method-wrapper", data := .fields #[a, b] }) rfl (fun h hp => ⟨.machine, .inr (.inl rfl), (Looks.ld (part := none) hp).andThen .now⟩) (evalArgs_nil3 ⟨(N _ hq).1, h⟩)
local macro_rules | `(tactic| walk_at "callWith ref") => `(tactic| (k_here; (show wpAny _ _ (callWith _ (Value.ref _) [] (backTo _ (starEach [] _)) []) _ _ _); k_dflt (refine' callWith_W0 ?k1 ?k2 ?_; (case k1 => k_asm); (case k2 => k_mem))))
local macro_rules | `(tactic| walk_at "getMethod ref") => `(tactic| (k_here; (with_reducible show wpAny _ _ (getMethod (Value.ref _) (PySem.Str.ofString "__init__") _) _ _ _); k_dflt (refine' superK_init ?k1 ?k2 ?kY ?k3 ?k4 ?k5 ?k6 ?hh ?hf ?hd ?hu ?_; (case k1 => k_asm); (case k2 => k_asm); (case kY => assumption); (case k3 => k_asm); (case k4 => k_mem); (case k5 => k_mem); (case k6 => k_mem); (case hh => exact rfl); (case hf => exact rfl); (case hd => (simp only [depth_deeper]; omega)); (case hu => (simp only [units_deeper]; omega))); intro q' h' tk' l1 F' N'; (simp only [AllNe, and_true] at l1)))
local macro_rules | `(tactic| walk_at "call ref") => `(tactic| (k_here; (show wpAny _ _ (call (Value.ref _) []) _ _ _); k_dflt (refine' boundK_init ?k1 ?k2 ?k3 ?k4 ?k5 ?_; (case k1 => k_asm); (case k2 => k_asm); (case k3 => k_mem); (case k4 => (intro n'; k_upd)); (case k5 => exact Nat.zero_le _)); intro h' n' F' N'))
theorem init_end {s : Shared} {h' g : Heap} {L' d dd : Addr} {m' : Str → Option Value} {n n' k : Nat} {es : List DictEntry} {tk tk' : Nat} {q1 q2 : Addr × Obj} {R : Result → Shared → Prop}
    (F' : Fr g L' h' m') (N' : News g L' h' [q1, q2, (d, deckObj dd #[] n'), (dd, dictOf es k)])
    (kp : ∀ b o, s.heap.get? b = some o → b ∉ List.map (·.1) [(d, deckObj dd #[] n), (dd, dictOf [] 0)] → g.get? b = some o) (own : Own5 tk es)
    (hret : ∀ n' es k h' tk', (∀ b o, b ≠ d → b ≠ dd → s.heap.get? b = some o → h'.get? b = some o) → h'.get? d = some (deckObj dd #[] n') → h'.get? dd = some (dictOf es k) → Own5 tk es → R (.ok (.ret .none)) { s with heap := h', toks := tk' }) :
    R (.ok (.ret .none)) { s with heap := h', toks := tk' } :=
  hret n' es k h' tk' (fun b o hb1 hb2 e => F'.keep b o (kp b o e (by simp [hb1, hb2]))) (N' _ (.tail _ (.tail _ (.head _)))).1 (N' _ (.tail _ (.tail _ (.tail _ (.head _))))).1 own
set_option maxHeartbeats 8000000 in
theorem init_abs {w : World} {mg mb : Str → Option Value} {A : Around} {fs : List Env} {h₀ : Heap} {s : Shared} {R : Result → Shared → Prop}
    {d dd : Addr} {n : Nat} {tk : Tok}
    (G : Ground0 w mg mb h₀) (hk : ∀ b o, h₀.get? b = some o → s.heap.get? b = some o) (h1 : s.heap.get? d = some (deckObj dd #[] n)) (h2 : s.heap.get? dd = some (dictOf [] 0))
    (h01 : h₀.get? d = none) (h02 : h₀.get? dd = none) (hne : @LT.lt Nat _ dd d) (hh : A.handled = none) (hf : A.frames = some fs) (hdp : A.depth + 20 < 600) (hun : A.units + 200 < 2000)
    (hret : ∀ n' es k h' tk', (∀ b o, b ≠ d → b ≠ dd → s.heap.get? b = some o → h'.get? b = some o) → h'.get? d = some (deckObj dd #[] n') → h'.get? dd = some (dictOf es k) → Own5 tk es → R (.ok (.ret .none)) { s with heap := h', toks := tk' }) :
    codeAny (model PP w) A (.call (.ref 73) ⟨[.ref d, .int 5 tk], []⟩) R s := by
  obtain ⟨hd0, dp, fr, gd, un⟩ := A
  dsimp only at hh hf hdp hun
  subst hh hf
  k_dflt (refine' enter_super (news := [(d, deckObj dd #[] n), (dd, dictOf [] 0)]) (binds := [(Str.ofString "self", .ref d), (Str.ofString "initial_size", .int 5 tk)]) G hk ?hn ?k6 ?k7 ?k8 ?k9 ?kB ?_ ?c5 ?c2 ?c3 ?c4; (case k6 => k_is); (case k7 => k_is); (case k8 => (show dp < 1000; omega)); (case k9 => exact binds_K (G.X.keeps hk) rfl (by k_is) rfl rfl rfl); (case c5 => decide); (case kB => exact locs rfl); (case c2 => exact rfl); (case c3 => exact rfl); (case c4 => exact rfl))
  case hn =>
    intro q hq
    rcases List.mem_cons.mp hq with rfl | hq
    · exact ⟨h1, h01⟩
    · rcases List.mem_cons.mp hq with rfl | hq
      · exact ⟨h2, h02⟩
      · cases hq
  intro g' L' h' F' N' X' T' kp hgs Y'
  try dsimp only
  refine ks_wpAt_execs_cons (ks_wpAt_mono (wpAt_of_wpAny (Q := fun f s' => Done (f = .next ∧ ∃ h1 tk1 es k, s' = { s with heap := h1, toks := tk1 } ∧ Fr g' L' h1 (fun y => List.lookup y [(Str.ofString "self", Value.ref d), (Str.ofString "initial_size", Value.int 5 tk)].reverse) ∧ News g' L' h1 [(d, deckObj dd #[] n), (dd, dictOf es k)] ∧ Own5 tk es)) (E := fun _ _ => False) ?w) (fun f s' z => ?c) (fun _ _ z => z))
  case w =>
    k_steps
    exact ⟨rfl, _, _, _, _, rfl, by k_asm, by k_asm, ⟨by kernel_rfl, by kernel_rfl, by kernel_rfl, by kernel_rfl, by kernel_rfl⟩⟩
  clear F' N'
  obtain ⟨rfl, h1', tk1, es, k, rfl, F', N', own⟩ := z.out
  dsimp only
  k_steps
  exact init_end (s := s) (by k_asm) (by k_asm) kp own hret

theorem acc_abs {w : World} {mg mb : Str → Option Value} {A : Around} {fs : List Env} {h₀ : Heap} {s : Shared} {Q E : Value → Shared → Prop} {tk : Tok}
    (G : Ground0 w mg mb h₀) (hk : ∀ b o, h₀.get? b = some o → s.heap.get? b = some o) (hh : A.handled = none) (hf : A.frames = some fs) (hdp : A.depth + 30 < 600) (hun : A.units + 300 < 2000)
    (hret : ∀ d dd es k n h' tk', (∀ b o, s.heap.get? b = some o → h'.get? b = some o) → h'.get? d = some (deckObj dd #[] n) → h'.get? dd = some (dictOf es k) → s.heap.get? d = none → s.heap.get? dd = none → @LT.lt Nat _ dd d → Own5 tk es → Q (.ref d) { s with heap := h', toks := tk' }) :
    wpAny (model PP w) A (call (.ref 135) [.int 5 tk]) Q E s := by
  refine wpAny_call ?_
  obtain ⟨h, g, dr, t, os⟩ := s
  dsimp only at hk hret
  refine acc_make (fs := fs) (G.Y.keeps hk).out hh hf (by omega) (by omega) fun x dd n h' tk' k a2 a3 a4 a5 a6 => ?_
  refine init_abs (s := ⟨h', g, dr, tk', os⟩) (fs := fs) G (fun b o e => k b o (hk b o e)) a2 a3 ?_ ?_ a6 hh hf ?_ ?_ fun n' es kk h'' tk'' kp b1 b2 own => ?_
  · cases q : h₀.get? x with
    | none => rfl
    | some o => have := hk _ _ q; rw [a4] at this; cases this
  · cases q : h₀.get? dd with
    | none => rfl
    | some o => have := hk _ _ q; rw [a5] at this; cases this
  · show A.depth + 1 + 20 < 600; omega
  · have e : (Code.builtin "type.__call__" { pos := [Value.ref 135, Value.int 5 tk] }).cUnits = (Code.builtin "type.__call__" { pos := [Value.ref 135, Value.int 5 0] }).cUnits := rfl
    have e2 : (Code.builtin "type.__call__" { pos := [Value.ref 135, Value.int 5 0] }).cUnits ≤ 10 := by decide +kernel
    show A.units + (Code.builtin "type.__call__" { pos := [Value.ref 135, Value.int 5 tk] }).cUnits + 200 < 2000
    rw [e]; omega
  · refine ⟨rfl, hret x dd es kk n' h'' tk'' (fun b o eb => kp b o ?_ ?_ (k b o eb)) b1 b2 a4 a5 a6 own⟩
    · rintro rfl; rw [a4] at eb; cases eb
    · rintro rfl; rw [a5] at eb; cases eb
end Mine

end
section -- part S1
open PySem PySem.W PyProof.Rows PySem.Calls
set_option maxRecDepth 100000
namespace Mine
theorem filledS1 : PySem.Challenge.rw_pg0066_01 = PySem.Challenge.rw_pg0066_01 ∧ Mine.hd.heap_1 = Mine.hd.heap_1 := by
  k_fill
  exact ⟨rfl, rfl⟩
theorem kept_fr {h₀ h h' : Heap} {L : Addr} {m : Str → Option Value} (F : Fr h₀ L h m) (k : ∀ b o, h.get? b = some o → h'.get? b = some o) : Fr h₀ L h' m :=
  ⟨F.ns.keeps k, fun b o e => k b o (F.keep b o e), F.above⟩
theorem kept_news {h₀ h h' : Heap} {L : Addr} {news : List (Addr × Obj)} (N : News h₀ L h news) (k : ∀ b o, h.get? b = some o → h'.get? b = some o) : News h₀ L h' news :=
  fun p hp => ⟨k _ _ (N p hp).1, (N p hp).2⟩
theorem kept_all {h h' g : Heap} {L : Addr} {m : Str → Option Value} (F : Fr g L h' m) (kp : ∀ b o, h.get? b = some o → b ∉ List.map (·.1) ([] : List (Addr × Obj)) → g.get? b = some o) : ∀ b o, h.get? b = some o → h'.get? b = some o :=
  fun b o e => F.keep b o (kp b o e (by simp))

set_option maxHeartbeats 8000000 in
theorem ctoiS_abs {w : World} {mg mb : Str → Option Value} {A : Around} {h₀ : Heap} {s : Shared} {Q E : Value → Shared → Prop} {c : Nat} {ts : Tok}
    (G : Ground0 w mg mb h₀) (hk : ∀ b o, h₀.get? b = some o → s.heap.get? b = some o) (hh : A.handled = none) (hdp : A.depth + 10 < recursionLimit) (hun : A.units + 100 < cLine) 
    (hret : ∀ h' (tk tk' : Nat), (∀ b o, s.heap.get? b = some o → h'.get? b = some o) → Q (.int (c : Int) tk) { s with heap := h', toks := tk' }) :
    wpAny (model PP w) A (call (.ref 28) [.str ⟨#[c]⟩ ts]) Q E s := by
  obtain ⟨hd0, dp, fr, gd, un⟩ := A
  dsimp only at hh hdp hun
  subst hh
  refine wpAny_call ?_
  k_dflt (refine' enter_def (news := []) (binds := [(Str.ofString "c", .str ⟨#[c]⟩ ts)]) G hk ?hn ?k6 ?k7 ?k8 ?k9 ?kB ?_ ?c2 ?c3 ?c4 ?c5; (case k6 => k_is); (case k7 => k_is); (case k8 => (show dp < recursionLimit; omega)); (case k9 => exact BindsTo.of_eq rfl); (case c5 => decide); (case kB => exact locs rfl); (case c2 => exact rfl); (case c3 => exact rfl); (case c4 => exact rfl); k_whole)
  case hn => (intro q hq; cases hq)
  intro g' L' h' F' N' X' T' kp hgs Y'
  try dsimp only
  try k_fold
  k_steps
  exact hret _ _ _ (kept_all (by k_asm) kp)
theorem ctoiSK {w : World} {mg mb : Str → Option Value} {A : Around} {h₀ : Heap} {s : Shared} {Q E : Value → Shared → Prop} {L : Addr} {m : Str → Option Value} {news : List (Addr × Obj)} {c : Nat} {ts : Tok}
    (F : Fr h₀ L s.heap m) (X₀ : (Mine.hd.heap_1 w.params).In h₀) (T₀ : TopRead VV LL mg mb h₀) (Y₀ : KIn w h₀) (N : News h₀ L s.heap news) (hh : A.handled = none) (hdp : A.depth + 10 < recursionLimit) (hun : A.units + 100 < cLine) 
    (h : ∀ h' (tk tk' : Nat), Fr h₀ L h' m → News h₀ L h' news → Q (.int (c : Int) tk) { s with heap := h', toks := tk' }) :
    wpAny (model PP w) A (call (.ref 28) [.str ⟨#[c]⟩ ts]) Q E s :=
  ctoiS_abs ⟨X₀, T₀, Y₀⟩ F.keep hh hdp hun  fun h' tk tk' k => h h' tk tk' (kept_fr F k) (kept_news N k)

set_option maxHeartbeats 8000000 in
theorem ctoiI_abs {w : World} {mg mb : Str → Option Value} {A : Around} {h₀ : Heap} {s : Shared} {Q E : Value → Shared → Prop} {c : Int} {ts : Tok}
    (G : Ground0 w mg mb h₀) (hk : ∀ b o, h₀.get? b = some o → s.heap.get? b = some o) (hh : A.handled = none) (hdp : A.depth + 10 < recursionLimit) (hun : A.units + 100 < cLine) 
    (hret : ∀ h' (tk tk' : Nat), (∀ b o, s.heap.get? b = some o → h'.get? b = some o) → Q (.int c tk) { s with heap := h', toks := tk' }) :
    wpAny (model PP w) A (call (.ref 28) [.int c ts]) Q E s := by
  obtain ⟨hd0, dp, fr, gd, un⟩ := A
  dsimp only at hh hdp hun
  subst hh
  refine wpAny_call ?_
  k_dflt (refine' enter_def (news := []) (binds := [(Str.ofString "c", .int c ts)]) G hk ?hn ?k6 ?k7 ?k8 ?k9 ?kB ?_ ?c2 ?c3 ?c4 ?c5; (case k6 => k_is); (case k7 => k_is); (case k8 => (show dp < recursionLimit; omega)); (case k9 => exact BindsTo.of_eq rfl); (case c5 => decide); (case kB => exact locs rfl); (case c2 => exact rfl); (case c3 => exact rfl); (case c4 => exact rfl); k_whole)
  case hn => (intro q hq; cases hq)
  intro g' L' h' F' N' X' T' kp hgs Y'
  try dsimp only
  try k_fold
  k_steps
  exact hret _ _ _ (kept_all (by k_asm) kp)
theorem ctoiIK {w : World} {mg mb : Str → Option Value} {A : Around} {h₀ : Heap} {s : Shared} {Q E : Value → Shared → Prop} {L : Addr} {m : Str → Option Value} {news : List (Addr × Obj)} {c : Int} {ts : Tok}
    (F : Fr h₀ L s.heap m) (X₀ : (Mine.hd.heap_1 w.params).In h₀) (T₀ : TopRead VV LL mg mb h₀) (Y₀ : KIn w h₀) (N : News h₀ L s.heap news) (hh : A.handled = none) (hdp : A.depth + 10 < recursionLimit) (hun : A.units + 100 < cLine) 
    (h : ∀ h' (tk tk' : Nat), Fr h₀ L h' m → News h₀ L h' news → Q (.int c tk) { s with heap := h', toks := tk' }) :
    wpAny (model PP w) A (call (.ref 28) [.int c ts]) Q E s :=
  ctoiI_abs ⟨X₀, T₀, Y₀⟩ F.keep hh hdp hun  fun h' tk tk' k => h h' tk tk' (kept_fr F k) (kept_news N k)

theorem strA (c : Nat) : Str.ofString "^" ++ (⟨#[(((c + 32 : Nat) : Int) + 32).toNat]⟩ : Str) = ⟨#[94, c + 64]⟩ := by
  have e : (((c + 32 : Nat) : Int) + 32).toNat = c + 64 := by omega
  rw [e]; rfl
theorem strB (c : Nat) : Str.ofString "!" ++ (⟨#[94, c + 64]⟩ : Str) = ⟨#[33, 94, c + 64]⟩ := rfl
theorem and31 (n : Nat) : Builtin.bitAnd (n : Int) 31 = ((n % 32 : Nat) : Int) := by rw [bitAnd_m5]; simp
theorem or128 {c : Nat} (h : c < 32) : Builtin.bitOr (c : Int) 128 = ((c + 128 : Nat) : Int) := by
  have : ∀ c : Fin 32, Builtin.bitOr ((c : Nat) : Int) 128 = (((c : Nat) + 128 : Nat) : Int) := by decide +kernel
  exact this ⟨c, h⟩
theorem or32 {c : Nat} (h : c < 32) : Builtin.bitOr (c : Int) 32 = ((c + 32 : Nat) : Int) := by
  have : ∀ c : Fin 32, Builtin.bitOr ((c : Nat) : Int) 32 = (((c : Nat) + 32 : Nat) : Int) := by decide +kernel
  exact this ⟨c, h⟩
theorem and127a {c : Nat} (h : c < 32) : Builtin.bitAnd (c : Int) 127 = (c : Int) := by rw [bitAnd_m7]; omega
theorem and127b {c : Nat} (h : c < 32) : Builtin.bitAnd ((c + 128 : Nat) : Int) 127 = (c : Int) := by rw [bitAnd_m7]; omega
theorem and128a {c : Nat} (h : c < 32) : Builtin.bitAnd (c : Int) 128 = 0 := by
  have : ∀ c : Fin 32, Builtin.bitAnd ((c : Nat) : Int) 128 = 0 := by decide +kernel
  exact this ⟨c, h⟩
theorem and128b {c : Nat} (h : c < 32) : Builtin.bitAnd ((c + 128 : Nat) : Int) 128 = 128 := by
  have : ∀ c : Fin 32, Builtin.bitAnd (((c : Nat) + 128 : Nat) : Int) 128 = 128 := by decide +kernel
  exact this ⟨c, h⟩
section
variable {prog : Program} {w : World} {A : Around} {E : Value → Shared → Prop} {s : Shared} {x y z : Int} {t u : Tok} {k : Nat} {Q : Value → Shared → Prop}
theorem andK (e : Builtin.bitAnd x y = z) (h : Q (.int z s.toks) { s with toks := s.toks + 1 }) : wpAny (model prog w) A (binaryOp .BitAnd (.int x t) (.int y u)) Q E s := and_int (by rw [e]; exact h)
theorem orK (e : Builtin.bitOr x y = z) (h : Q (.int z s.toks) { s with toks := s.toks + 1 }) : wpAny (model prog w) A (binaryOp .BitOr (.int x t) (.int y u)) Q E s := or_int (by rw [e]; exact h)
theorem chrK (e : x = (k : Int)) (hk : k < 1000) (h : Q (.str ⟨#[k]⟩ s.toks) { s with toks := s.toks + 1 }) : wpAny (model prog w) A (call (.builtin "chr") [.int x t]) Q E s := by
  subst e
  exact chr_of_range (by omega) (by omega) (by simpa using h)
end
local macro_rules | `(tactic| walk_at "binaryOp BitAnd int int") => `(tactic| (k_dflt (refine' andK ?e ?_; (case e => first | exact and31 _ | exact and127b (by assumption) | exact and127a (by assumption) | exact and128b (by assumption) | exact and128a (by assumption)))))
local macro_rules | `(tactic| walk_at "binaryOp BitOr int int") => `(tactic| (k_dflt (refine' orK ?e ?_; (case e => first | exact or128 (by assumption) | exact or32 (by assumption)))))
local macro_rules | `(tactic| walk_at "call ref") => `(tactic| (k_here; (with_reducible show wpAny _ _ (call (Value.ref 28) [Value.str _ _]) _ _ _); k_dflt (refine' ctoiSK ?k1 ?k2 ?k3 ?k4 ?k5 ?hh ?hdp ?hun  ?_; (case k1 => k_asm); (case k2 => k_asm); (case k3 => k_asm); (case k4 => assumption); (case k5 => k_asm); (case hh => exact rfl); (case hdp => (simp only [depth_deeper]; omega)); (case hun => (simp only [units_deeper]; omega))); intro h' tk' tk'' F' N'))
local macro_rules | `(tactic| walk_at "call ref") => `(tactic| (k_here; (with_reducible show wpAny _ _ (call (Value.ref 28) [Value.int _ _]) _ _ _); k_dflt (refine' ctoiIK ?k1 ?k2 ?k3 ?k4 ?k5 ?hh ?hdp ?hun  ?_; (case k1 => k_asm); (case k2 => k_asm); (case k3 => k_asm); (case k4 => assumption); (case k5 => k_asm); (case hh => exact rfl); (case hdp => (simp only [depth_deeper]; omega)); (case hun => (simp only [units_deeper]; omega))); intro h' tk' tk'' F' N'))
section
local macro_rules | `(tactic| walk_at "call builtin:chr") => `(tactic| (k_dflt (refine' chrK ?e ?h ?_; (case e => exact rfl); (case h => omega))))

set_option maxHeartbeats 8000000 in
theorem ctrlS_abs {w : World} {mg mb : Str → Option Value} {A : Around} {h₀ : Heap} {s : Shared} {Q E : Value → Shared → Prop} {c : Nat} {ts : Tok}
    (G : Ground0 w mg mb h₀) (hk : ∀ b o, h₀.get? b = some o → s.heap.get? b = some o) (hh : A.handled = none) (hdp : A.depth + 20 < recursionLimit) (hun : A.units + 200 < cLine) 
    (hret : ∀ h' (tk tk' : Nat), (∀ b o, s.heap.get? b = some o → h'.get? b = some o) → Q (.str ⟨#[c % 32]⟩ tk) { s with heap := h', toks := tk' }) :
    wpAny (model PP w) A (call (.ref 42) [.str ⟨#[c]⟩ ts]) Q E s := by
  obtain ⟨hd0, dp, fr, gd, un⟩ := A
  dsimp only at hh hdp hun
  subst hh
  refine wpAny_call ?_
  k_dflt (refine' enter_def (news := []) (binds := [(Str.ofString "c", .str ⟨#[c]⟩ ts)]) G hk ?hn ?k6 ?k7 ?k8 ?k9 ?kB ?_ ?c2 ?c3 ?c4 ?c5; (case k6 => k_is); (case k7 => k_is); (case k8 => (show dp < recursionLimit; omega)); (case k9 => exact BindsTo.of_eq rfl); (case c5 => decide); (case kB => exact locs rfl); (case c2 => exact rfl); (case c3 => exact rfl); (case c4 => exact rfl); k_whole)
  case hn => (intro q hq; cases hq)
  intro g' L' h' F' N' X' T' kp hgs Y'
  try dsimp only
  try k_fold
  k_steps
  exact hret _ _ _ (kept_all (by k_asm) kp)
theorem ctrlSK {w : World} {mg mb : Str → Option Value} {A : Around} {h₀ : Heap} {s : Shared} {Q E : Value → Shared → Prop} {L : Addr} {m : Str → Option Value} {news : List (Addr × Obj)} {c : Nat} {ts : Tok}
    (F : Fr h₀ L s.heap m) (X₀ : (Mine.hd.heap_1 w.params).In h₀) (T₀ : TopRead VV LL mg mb h₀) (Y₀ : KIn w h₀) (N : News h₀ L s.heap news) (hh : A.handled = none) (hdp : A.depth + 20 < recursionLimit) (hun : A.units + 200 < cLine) 
    (h : ∀ h' (tk tk' : Nat), Fr h₀ L h' m → News h₀ L h' news → Q (.str ⟨#[c % 32]⟩ tk) { s with heap := h', toks := tk' }) :
    wpAny (model PP w) A (call (.ref 42) [.str ⟨#[c]⟩ ts]) Q E s :=
  ctrlS_abs ⟨X₀, T₀, Y₀⟩ F.keep hh hdp hun  fun h' tk tk' k => h h' tk tk' (kept_fr F k) (kept_news N k)

set_option maxHeartbeats 8000000 in
theorem altS_abs {w : World} {mg mb : Str → Option Value} {A : Around} {h₀ : Heap} {s : Shared} {Q E : Value → Shared → Prop} {c : Nat} {ts : Tok}
    (G : Ground0 w mg mb h₀) (hk : ∀ b o, h₀.get? b = some o → s.heap.get? b = some o) (hh : A.handled = none) (hdp : A.depth + 20 < recursionLimit) (hun : A.units + 200 < cLine) (hc : c < 32)
    (hret : ∀ h' (tk tk' : Nat), (∀ b o, s.heap.get? b = some o → h'.get? b = some o) → Q (.str ⟨#[c + 128]⟩ tk) { s with heap := h', toks := tk' }) :
    wpAny (model PP w) A (call (.ref 49) [.str ⟨#[c]⟩ ts]) Q E s := by
  obtain ⟨hd0, dp, fr, gd, un⟩ := A
  dsimp only at hh hdp hun
  subst hh
  refine wpAny_call ?_
  k_dflt (refine' enter_def (news := []) (binds := [(Str.ofString "c", .str ⟨#[c]⟩ ts)]) G hk ?hn ?k6 ?k7 ?k8 ?k9 ?kB ?_ ?c2 ?c3 ?c4 ?c5; (case k6 => k_is); (case k7 => k_is); (case k8 => (show dp < recursionLimit; omega)); (case k9 => exact BindsTo.of_eq rfl); (case c5 => decide); (case kB => exact locs rfl); (case c2 => exact rfl); (case c3 => exact rfl); (case c4 => exact rfl); k_whole)
  case hn => (intro q hq; cases hq)
  intro g' L' h' F' N' X' T' kp hgs Y'
  try dsimp only
  try k_fold
  k_steps
  exact hret _ _ _ (kept_all (by k_asm) kp)
theorem altSK {w : World} {mg mb : Str → Option Value} {A : Around} {h₀ : Heap} {s : Shared} {Q E : Value → Shared → Prop} {L : Addr} {m : Str → Option Value} {news : List (Addr × Obj)} {c : Nat} {ts : Tok}
    (F : Fr h₀ L s.heap m) (X₀ : (Mine.hd.heap_1 w.params).In h₀) (T₀ : TopRead VV LL mg mb h₀) (Y₀ : KIn w h₀) (N : News h₀ L s.heap news) (hh : A.handled = none) (hdp : A.depth + 20 < recursionLimit) (hun : A.units + 200 < cLine) (hc : c < 32)
    (h : ∀ h' (tk tk' : Nat), Fr h₀ L h' m → News h₀ L h' news → Q (.str ⟨#[c + 128]⟩ tk) { s with heap := h', toks := tk' }) :
    wpAny (model PP w) A (call (.ref 49) [.str ⟨#[c]⟩ ts]) Q E s :=
  altS_abs ⟨X₀, T₀, Y₀⟩ F.keep hh hdp hun hc fun h' tk tk' k => h h' tk tk' (kept_fr F k) (kept_news N k)
end

set_option maxHeartbeats 8000000 in
theorem isprintI_abs {w : World} {mg mb : Str → Option Value} {A : Around} {h₀ : Heap} {s : Shared} {Q E : Value → Shared → Prop} {c : Nat} {ts : Tok}
    (G : Ground0 w mg mb h₀) (hk : ∀ b o, h₀.get? b = some o → s.heap.get? b = some o) (hh : A.handled = none) (hdp : A.depth + 20 < recursionLimit) (hun : A.units + 200 < cLine) (hc : c < 32)
    (hret : ∀ h' (tk tk' : Nat), (∀ b o, s.heap.get? b = some o → h'.get? b = some o) → Q (.bool false) { s with heap := h', toks := tk' }) :
    wpAny (model PP w) A (call (.ref 35) [.int (c : Int) ts]) Q E s := by
  obtain ⟨hd0, dp, fr, gd, un⟩ := A
  dsimp only at hh hdp hun
  subst hh
  refine wpAny_call ?_
  k_dflt (refine' enter_def (news := []) (binds := [(Str.ofString "c", .int (c : Int) ts)]) G hk ?hn ?k6 ?k7 ?k8 ?k9 ?kB ?_ ?c2 ?c3 ?c4 ?c5; (case k6 => k_is); (case k7 => k_is); (case k8 => (show dp < recursionLimit; omega)); (case k9 => exact BindsTo.of_eq rfl); (case c5 => decide); (case kB => exact locs rfl); (case c2 => exact rfl); (case c3 => exact rfl); (case c4 => exact rfl); k_whole)
  case hn => (intro q hq; cases hq)
  intro g' L' h' F' N' X' T' kp hgs Y'
  try dsimp only
  try k_fold
  k_steps
  rw [show decide ((32 : Int) ≤ (c : Int)) = false from decide_eq_false (by omega)]
  exact hret _ 0 _ (kept_all (by k_asm) kp)
theorem isprintIK {w : World} {mg mb : Str → Option Value} {A : Around} {h₀ : Heap} {s : Shared} {Q E : Value → Shared → Prop} {L : Addr} {m : Str → Option Value} {news : List (Addr × Obj)} {c : Nat} {ts : Tok}
    (F : Fr h₀ L s.heap m) (X₀ : (Mine.hd.heap_1 w.params).In h₀) (T₀ : TopRead VV LL mg mb h₀) (Y₀ : KIn w h₀) (N : News h₀ L s.heap news) (hh : A.handled = none) (hdp : A.depth + 20 < recursionLimit) (hun : A.units + 200 < cLine) (hc : c < 32)
    (h : ∀ h' (tk tk' : Nat), Fr h₀ L h' m → News h₀ L h' news → Q (.bool false) { s with heap := h', toks := tk' }) :
    wpAny (model PP w) A (call (.ref 35) [.int (c : Int) ts]) Q E s :=
  isprintI_abs ⟨X₀, T₀, Y₀⟩ F.keep hh hdp hun hc fun h' tk tk' k => h h' tk tk' (kept_fr F k) (kept_news N k)
local macro_rules | `(tactic| walk_at "call ref") => `(tactic| (k_here; (with_reducible show wpAny _ _ (call (Value.ref 35) [Value.int _ _]) _ _ _); k_dflt (refine' isprintIK ?k1 ?k2 ?k3 ?k4 ?k5 ?hh ?hdp ?hun ?p0 ?_; (case k1 => k_asm); (case k2 => k_asm); (case k3 => k_asm); (case k4 => assumption); (case k5 => k_asm); (case hh => exact rfl); (case hdp => (simp only [depth_deeper]; omega)); (case hun => (simp only [units_deeper]; omega)); (case p0 => assumption)); intro h' tk' tk'' F' N'))
section
local macro_rules | `(tactic| walk_at "call builtin:chr") => `(tactic| (k_dflt (refine' chrK (k := _ + 64) ?e ?h ?_; (case e => (push_cast; omega)); (case h => omega))))

set_option maxHeartbeats 8000000 in
theorem unctrlA_abs {w : World} {mg mb : Str → Option Value} {A : Around} {h₀ : Heap} {s : Shared} {Q E : Value → Shared → Prop} {c : Nat} {ts : Tok}
    (G : Ground0 w mg mb h₀) (hk : ∀ b o, h₀.get? b = some o → s.heap.get? b = some o) (hh : A.handled = none) (hdp : A.depth + 30 < recursionLimit) (hun : A.units + 300 < cLine) (hc : c < 32)
    (hret : ∀ h' (tk tk' : Nat), (∀ b o, s.heap.get? b = some o → h'.get? b = some o) → Q (.str ⟨#[94, c + 64]⟩ tk) { s with heap := h', toks := tk' }) :
    wpAny (model PP w) A (call (.ref 56) [.str ⟨#[c]⟩ ts]) Q E s := by
  obtain ⟨hd0, dp, fr, gd, un⟩ := A
  dsimp only at hh hdp hun
  subst hh
  refine wpAny_call ?_
  k_dflt (refine' enter_def (news := []) (binds := [(Str.ofString "c", .str ⟨#[c]⟩ ts)]) G hk ?hn ?k6 ?k7 ?k8 ?k9 ?kB ?_ ?c2 ?c3 ?c4 ?c5; (case k6 => k_is); (case k7 => k_is); (case k8 => (show dp < recursionLimit; omega)); (case k9 => exact BindsTo.of_eq rfl); (case c5 => decide); (case kB => exact locs rfl); (case c2 => exact rfl); (case c3 => exact rfl); (case c4 => exact rfl); k_whole)
  case hn => (intro q hq; cases hq)
  intro g' L' h' F' N' X' T' kp hgs Y'
  try dsimp only
  try k_fold
  k_steps
  all_goals first
    | (exfalso; omega)
    | (show Q (Value.str (Str.ofString "^" ++ _) _) _; rw [strA]; exact hret _ _ _ (kept_all (by k_asm) kp))
theorem unctrlAK {w : World} {mg mb : Str → Option Value} {A : Around} {h₀ : Heap} {s : Shared} {Q E : Value → Shared → Prop} {L : Addr} {m : Str → Option Value} {news : List (Addr × Obj)} {c : Nat} {ts : Tok}
    (F : Fr h₀ L s.heap m) (X₀ : (Mine.hd.heap_1 w.params).In h₀) (T₀ : TopRead VV LL mg mb h₀) (Y₀ : KIn w h₀) (N : News h₀ L s.heap news) (hh : A.handled = none) (hdp : A.depth + 30 < recursionLimit) (hun : A.units + 300 < cLine) (hc : c < 32)
    (h : ∀ h' (tk tk' : Nat), Fr h₀ L h' m → News h₀ L h' news → Q (.str ⟨#[94, c + 64]⟩ tk) { s with heap := h', toks := tk' }) :
    wpAny (model PP w) A (call (.ref 56) [.str ⟨#[c]⟩ ts]) Q E s :=
  unctrlA_abs ⟨X₀, T₀, Y₀⟩ F.keep hh hdp hun hc fun h' tk tk' k => h h' tk tk' (kept_fr F k) (kept_news N k)

set_option maxHeartbeats 8000000 in
theorem unctrlB_abs {w : World} {mg mb : Str → Option Value} {A : Around} {h₀ : Heap} {s : Shared} {Q E : Value → Shared → Prop} {c : Nat} {ts : Tok}
    (G : Ground0 w mg mb h₀) (hk : ∀ b o, h₀.get? b = some o → s.heap.get? b = some o) (hh : A.handled = none) (hdp : A.depth + 30 < recursionLimit) (hun : A.units + 300 < cLine) (hc : c < 32)
    (hret : ∀ h' (tk tk' : Nat), (∀ b o, s.heap.get? b = some o → h'.get? b = some o) → Q (.str ⟨#[33, 94, c + 64]⟩ tk) { s with heap := h', toks := tk' }) :
    wpAny (model PP w) A (call (.ref 56) [.str ⟨#[c + 128]⟩ ts]) Q E s := by
  obtain ⟨hd0, dp, fr, gd, un⟩ := A
  dsimp only at hh hdp hun
  subst hh
  refine wpAny_call ?_
  k_dflt (refine' enter_def (news := []) (binds := [(Str.ofString "c", .str ⟨#[c + 128]⟩ ts)]) G hk ?hn ?k6 ?k7 ?k8 ?k9 ?kB ?_ ?c2 ?c3 ?c4 ?c5; (case k6 => k_is); (case k7 => k_is); (case k8 => (show dp < recursionLimit; omega)); (case k9 => exact BindsTo.of_eq rfl); (case c5 => decide); (case kB => exact locs rfl); (case c2 => exact rfl); (case c3 => exact rfl); (case c4 => exact rfl); k_whole)
  case hn => (intro q hq; cases hq)
  intro g' L' h' F' N' X' T' kp hgs Y'
  try dsimp only
  try k_fold
  k_steps
  all_goals first
    | (exfalso; omega)
    | (show Q (Value.str (Str.ofString "!" ++ (Str.ofString "^" ++ _)) _) _; rw [strA, strB]; exact hret _ _ _ (kept_all (by k_asm) kp))
theorem unctrlBK {w : World} {mg mb : Str → Option Value} {A : Around} {h₀ : Heap} {s : Shared} {Q E : Value → Shared → Prop} {L : Addr} {m : Str → Option Value} {news : List (Addr × Obj)} {c : Nat} {ts : Tok}
    (F : Fr h₀ L s.heap m) (X₀ : (Mine.hd.heap_1 w.params).In h₀) (T₀ : TopRead VV LL mg mb h₀) (Y₀ : KIn w h₀) (N : News h₀ L s.heap news) (hh : A.handled = none) (hdp : A.depth + 30 < recursionLimit) (hun : A.units + 300 < cLine) (hc : c < 32)
    (h : ∀ h' (tk tk' : Nat), Fr h₀ L h' m → News h₀ L h' news → Q (.str ⟨#[33, 94, c + 64]⟩ tk) { s with heap := h', toks := tk' }) :
    wpAny (model PP w) A (call (.ref 56) [.str ⟨#[c + 128]⟩ ts]) Q E s :=
  unctrlB_abs ⟨X₀, T₀, Y₀⟩ F.keep hh hdp hun hc fun h' tk tk' k => h h' tk tk' (kept_fr F k) (kept_news N k)
end
end Mine

end
section -- part S2
open PySem PySem.W PyProof.Rows PySem.Calls
set_option maxRecDepth 100000
namespace Mine
theorem filledS2 : PySem.Challenge.rw_pg0066_01 = PySem.Challenge.rw_pg0066_01 ∧ Mine.hd.heap_1 = Mine.hd.heap_1 := by
  k_fill
  exact ⟨rfl, rfl⟩

section
variable {prog : Program} {w : World} {A : Around} {E : Value → Shared → Prop} {s : Shared} {t u : Tok} {Q : Value → Shared → Prop}
theorem powK {a i : Nat} (ha : a < 2 ^ 64) (hi : i ≤ 1000000) (h : Q (.int ((a ^ i : Nat) : Int) s.toks) { s with toks := s.toks + 1 }) : wpAny (model prog w) A (binaryOp .Pow (.int (a : Int) t) (.int (i : Int) u)) Q E s := by
  refine pow_int_small (by omega) (by omega) (by simpa using ha) ?_
  have e : (a : Int) ^ ((i : Int).toNat) = ((a ^ i : Nat) : Int) := by simp
  rw [e]; exact h
theorem divK {x y : Nat} (hy : 0 < y) (hy2 : y < 2 ^ 60) (h : Q (.int ((x / y : Nat) : Int) s.toks) { s with toks := s.toks + 1 }) : wpAny (model prog w) A (binaryOp .FloorDiv (.int (x : Int) t) (.int (y : Int) u)) Q E s := by
  refine floordiv_int (by omega) ?_ (Or.inl (PyProof.noPylong_of_log2 ?_))
  · have e : (x : Int).fdiv (y : Int) = ((x / y : Nat) : Int) := by rw [Int.fdiv_eq_ediv_of_nonneg _ (by omega)]; simp
    rw [e]; exact h
  · have : y.log2 < 60 := (Nat.log2_lt (by omega)).mpr hy2
    simp only [Int.natAbs_natCast]; omega
theorem modK {x y q : Nat} (e : x % y = q) (hy : 0 < y) (h : Q (.int (q : Int) s.toks) { s with toks := s.toks + 1 }) : wpAny (model prog w) A (binaryOp .Mod (.int (x : Int) t) (.int (y : Int) u)) Q E s := by
  refine mod_int' (by omega) ?_
  have e : (x : Int).fmod (y : Int) = (q : Int) := by rw [Int.fmod_eq_emod_of_nonneg _ (by omega), ← e]; simp
  rw [e]; exact h
end
theorem pow_lt2 {i : Nat} (h : i < 32) : 0 < 2 ^ i ∧ 2 ^ i < 2 ^ 60 := ⟨Nat.pow_pos (by omega), Nat.pow_lt_pow_right (by omega) (by omega)⟩
theorem pow_lt3 {i : Nat} (h : i < 32) : 0 < 3 ^ i ∧ 3 ^ i < 2 ^ 60 := ⟨Nat.pow_pos (by omega), Nat.lt_of_le_of_lt (Nat.pow_le_pow_right (by omega) (show i ≤ 31 by omega)) (by decide)⟩
def pre (M i : Nat) : Str := if M / 2 ^ i % 2 = 1 then ⟨#[33, 94]⟩ else ⟨#[94]⟩
def fac (i : Nat) : Str := ⟨#[i + 64]⟩

theorem mod32 {i q : Nat} (h : i < 32) : (i + 32 * q) % 32 = i := by omega
theorem ctrlEK {w : World} {mg mb : Str → Option Value} {A : Around} {h₀ : Heap} {s : Shared} {Q E : Value → Shared → Prop} {L : Addr} {m : Str → Option Value} {news : List (Addr × Obj)} {c r : Nat} {ts : Tok}
    (F : Fr h₀ L s.heap m) (X₀ : (Mine.hd.heap_1 w.params).In h₀) (T₀ : TopRead VV LL mg mb h₀) (Y₀ : KIn w h₀) (N : News h₀ L s.heap news) (hh : A.handled = none) (hdp : A.depth + 20 < recursionLimit) (hun : A.units + 200 < cLine) (e : c % 32 = r)
    (h : ∀ h' (tk tk' : Nat), Fr h₀ L h' m → News h₀ L h' news → Q (.str ⟨#[r]⟩ tk) { s with heap := h', toks := tk' }) :
    wpAny (model PP w) A (call (.ref 42) [.str ⟨#[c]⟩ ts]) Q E s := by
  subst e
  exact ctrlSK F X₀ T₀ Y₀ N hh hdp hun h
/-- the ways the pieces lie -/
def Pieces (M : Nat) (f p : Nat → Value) : Prop := ∀ j, j < 32 → ∃ t1 t2, f j = .str (pre M j) t1 ∧ p j = .str (fac j) t2
theorem pieces_of {h₀ h : Heap} {acc : Array Value} {M : Nat} (hs : acc.size = 32) (ha : ∀ j, j < 32 → ∃ t t1 t2, acc[j]? = some (.ref t) ∧ h.get? t = some (tupObj (.str (pre M j) t1) (.str (fac j) t2)) ∧ h₀.get? t = none) :
    ∃ f p, RefsN h₀ h acc 32 f p ∧ Pieces M f p := by
  classical
  refine ⟨fun j => if q : j < 32 then .str (pre M j) (Classical.choose (Classical.choose_spec (ha j q))) else .none, fun j => if q : j < 32 then .str (fac j) (Classical.choose (Classical.choose_spec (Classical.choose_spec (ha j q)))) else .none, ⟨hs, fun j q => ?_⟩, fun j q => ?_⟩
  · refine ⟨Classical.choose (ha j q), ?_⟩
    simp only [dif_pos q]
    exact Classical.choose_spec (Classical.choose_spec (Classical.choose_spec (ha j q)))
  · simp only [dif_pos q]
    exact ⟨_, _, rfl, rfl⟩
section
variable {prog : Program} {w : World} {A : Around} {E : Value → Shared → Prop} {s : Shared} {g : Heap} {env : Env} {m : Str → Option Value} {dd d : Addr} {es : List DictEntry} {k n0 M : Nat}
theorem deck_loop {Q : Flow → Shared → Prop} {px : Pos} {body : List Stmt} {r : Addr} {t u v : Tok}
    (hh : A.handled = none) (hx : env.kindOf "card" = some .local)
    (hp : (env.scope.kind == .class || (env.scope.kind == .module && env.locals != env.globals)) = false)
    (F : Fr g env.locals s.heap m) (N : News g env.locals s.heap [(d, deckObj dd #[] n0), (dd, dictOf es k)])
    (hr : IsRange s.heap r 0 32 1 t u v)
    (turn : ∀ (i it nn : Nat) (acc : Array Value) (rest : List (Addr × Obj)) (h : Heap) (tk t' : Nat) (o1 o2 : Option Value), i < 32 → acc.size = i →
      (@Ne Nat d it ∧ @Ne Nat dd it) → (∀ p ∈ rest, p.1 ≠ d) → AllNe it rest →
      Fr g env.locals h (fun y => if y = Str.ofString "card" then some (.int (i : Int) t') else if y = Str.ofString "sign" then o1 else if y = Str.ofString "shown" then o2 else m y) →
      News g env.locals h ((it, riterObj ((i : Int) + 1) ((32 : Int) - i - 1)) :: (d, deckObj dd acc nn) :: (dd, dictOf es k) :: rest) →
      wpAny (model prog w) A (execs body env) (fun f s₂ => Done (f = .next ∧ ∃ h' tk' tA nn' m₂ t1 t2, s₂ = { s with heap := h', toks := tk' } ∧ Fr g env.locals h' m₂ ∧
        News g env.locals h' ((tA, tupObj (.str (pre M i) t1) (.str (fac i) t2)) :: (it, riterObj ((i : Int) + 1) ((32 : Int) - i - 1)) :: (d, deckObj dd (acc.push (.ref tA)) nn') :: (dd, dictOf es k) :: rest) ∧
        (∀ y, y ≠ Str.ofString "card" → y ≠ Str.ofString "sign" → y ≠ Str.ofString "shown" → m₂ y = m y) ∧ (@Ne Nat it tA ∧ @Ne Nat d tA))) (fun _ _ => False) { s with heap := h, toks := tk })
    (done : ∀ acc nn o1 o2 o3 h tk, Fr g env.locals h (fun y => if y = Str.ofString "card" then o1 else if y = Str.ofString "sign" then o2 else if y = Str.ofString "shown" then o3 else m y) → h.get? d = some (deckObj dd acc nn) → h.get? dd = some (dictOf es k) → acc.size = 32 → (∀ j, j < 32 → ∃ t t1 t2, acc[j]? = some (.ref t) ∧ h.get? t = some (tupObj (.str (pre M j) t1) (.str (fac j) t2)) ∧ g.get? t = none) → News g env.locals h [(d, deckObj dd acc nn), (dd, dictOf es k)] → Q .next { s with heap := h, toks := tk }) :
    wpAny (model prog w) A (pyIter (.ref r)) (fun it s₂ =>
      codeAny (model prog w) A (.forLoop (.Name "card" px) it body [] env) (fun r s' => match r with | .ok f => Q f s' | .error e => cameBackBy (model prog w) A env E e s') s₂) E s := by
  refine range_loop (n := 32) (m := m) hh hx hp F N hr (by decide +kernel) (by decide +kernel)
    (fun i m₁ news₁ => (∀ y, y ≠ Str.ofString "card" → y ≠ Str.ofString "sign" → y ≠ Str.ofString "shown" → m₁ y = m y) ∧ ∃ acc nn rest, news₁ = (d, deckObj dd acc nn) :: (dd, dictOf es k) :: rest ∧ (∀ p ∈ rest, p.1 ≠ d) ∧ acc.size = i ∧
      ∀ j, j < i → ∃ t t1 t2, acc[j]? = some (.ref t) ∧ (t, tupObj (.str (pre M j) t1) (.str (fac j) t2)) ∈ rest) ?_ ?_ ?_
  · exact ⟨fun _ _ _ _ => rfl, #[], n0, [], rfl, (fun _ hp => by cases hp), rfl, (fun j hj => absurd hj (by omega))⟩
  · rintro i it m₁ news₁ h tk t' hi ⟨hm, acc, nn, rest, rfl, hrest, hacc, hall⟩ hne F₁ N₁
    have em : (fun y => if y = Str.ofString "card" then some (Value.int (i : Int) t') else m₁ y) = (fun y => if y = Str.ofString "card" then some (Value.int (i : Int) t') else if y = Str.ofString "sign" then m₁ (Str.ofString "sign") else if y = Str.ofString "shown" then m₁ (Str.ofString "shown") else m y) := by
      funext y
      by_cases q : y = Str.ofString "card"
      · rw [if_pos q, if_pos q]
      · rw [if_neg q, if_neg q]
        by_cases q2 : y = Str.ofString "sign"
        · rw [if_pos q2, q2]
        · rw [if_neg q2]
          by_cases q3 : y = Str.ofString "shown"
          · rw [if_pos q3, q3]
          · rw [if_neg q3]; exact hm y q q2 q3
    rw [em] at F₁
    simp only [AllNe] at hne
    refine wpAny_mono (turn i it nn acc rest h tk t' _ _ hi hacc ⟨hne.1, hne.2.1⟩ hrest hne.2.2 F₁ N₁) (fun f s₂ q => ?_) fun _ _ e => e
    obtain ⟨rfl, h', tk', tA, nn', m₂, t1, t2, rfl, F', N', hm', neA⟩ := q.out
    refine ⟨rfl, h', tk', _, (d, deckObj dd (acc.push (.ref tA)) nn') :: (dd, dictOf es k) :: (tA, tupObj (.str (pre M i) t1) (.str (fac i) t2)) :: rest, rfl, F', ?_, ?_, ?_⟩
    · intro q hq
      refine N' q ?_
      simp only [List.mem_cons] at hq ⊢
      rcases hq with h | h | h | h | h <;> simp [h]
    · exact ⟨hne.1, hne.2.1, Ne.symm neA.1, hne.2.2⟩
    · refine ⟨hm', _, nn', _, rfl, ?_, ?_, ?_⟩
      · intro q hq
        simp only [List.mem_cons] at hq
        rcases hq with rfl | hq
        · exact Ne.symm neA.2
        · exact hrest q hq
      · simp only [Array.size_push]; omega
      · intro j hj
        by_cases q1 : j < i
        · obtain ⟨tt, t1, t2, ea, eb⟩ := hall j q1
          refine ⟨tt, t1, t2, ?_, .tail _ eb⟩
          rw [Array.getElem?_push, if_neg (by omega)]
          exact ea
        · have q2 : j = i := by omega
          subst q2
          exact ⟨tA, t1, t2, by rw [Array.getElem?_push, if_pos hacc.symm], .head _⟩
  · rintro m₁ news₁ h tk ⟨hm, acc, nn, rest, rfl, hrest, hacc, hall⟩ F₁ N₁
    have em : m₁ = (fun y => if y = Str.ofString "card" then m₁ (Str.ofString "card") else if y = Str.ofString "sign" then m₁ (Str.ofString "sign") else if y = Str.ofString "shown" then m₁ (Str.ofString "shown") else m y) := by
      funext y
      by_cases q : y = Str.ofString "card"
      · rw [if_pos q, q]
      · rw [if_neg q]
        by_cases q2 : y = Str.ofString "sign"
        · rw [if_pos q2, q2]
        · rw [if_neg q2]
          by_cases q3 : y = Str.ofString "shown"
          · rw [if_pos q3, q3]
          · rw [if_neg q3]; exact hm y q q2 q3
    rw [em] at F₁
    refine done acc nn _ _ _ h tk F₁ (N₁ _ (.head _)).1 (N₁ _ (.tail _ (.head _))).1 hacc (fun j hj => ?_) (fun p hp => N₁ p ?_)
    · obtain ⟨tt, t1, t2, ea, eb⟩ := hall j (by omega)
      exact ⟨tt, t1, t2, ea, (N₁ _ (.tail _ (.tail _ eb))).1, (N₁ _ (.tail _ (.tail _ eb))).2.2⟩
    · simp only [List.mem_cons, List.not_mem_nil, or_false] at hp ⊢
      rcases hp with h | h <;> simp [h]
end
end Mine

end
section -- part S3
open PySem PySem.W PyProof.Rows PySem.Calls
set_option maxRecDepth 100000
namespace Mine
theorem filledS3 : PySem.Challenge.rw_pg0066_01 = PySem.Challenge.rw_pg0066_01 ∧ Mine.hd.heap_1 = Mine.hd.heap_1 := by
  k_fill
  exact ⟨rfl, rfl⟩

theorem accK {w : World} {mg mb : Str → Option Value} {A : Around} {h₀ : Heap} {s : Shared} {Q E : Value → Shared → Prop} {L : Addr} {m : Str → Option Value} {news : List (Addr × Obj)} {tk : Tok} {fs : List Env}
    (F : Fr h₀ L s.heap m) (X₀ : (Mine.hd.heap_1 w.params).In h₀) (T₀ : TopRead VV LL mg mb h₀) (Y₀ : KIn w h₀) (N : News h₀ L s.heap news) (hh : A.handled = none) (hf : A.frames = some fs) (hdp : A.depth + 30 < 600) (hun : A.units + 300 < 2000)
    (h : ∀ d dd es k n h' tk', AllNe d news → AllNe dd news → @LT.lt Nat _ dd d → Own5 tk es → Fr h₀ L h' m → News h₀ L h' ((d, deckObj dd #[] n) :: (dd, dictOf es k) :: news) → Q (.ref d) { s with heap := h', toks := tk' }) :
    wpAny (model PP w) A (call (.ref 135) [.int 5 tk]) Q E s := by
  refine acc_abs ⟨X₀, T₀, Y₀⟩ F.keep hh hf hdp hun fun d dd es k n h' tk' kp h1 h2 n1 n2 lt own => ?_
  have N2 := (fresh_news F N kp h2 n2).2
  have N1 := (fresh_news F N kp h1 n1).2
  refine h d dd es k n h' tk' (allNe_news N n1) (allNe_news N n2) lt own (kept_fr F kp) fun p hp => ?_
  rcases List.mem_cons.mp hp with rfl | hp
  · exact N1 _ (.head _)
  · exact N2 p hp
local macro_rules | `(tactic| walk_at "call ref") => `(tactic| (k_here; (with_reducible show wpAny _ _ (call (Value.ref 135) [Value.int 5 _]) _ _ _); k_dflt (refine' accK ?k1 ?k2 ?k3 ?k4 ?k5 ?hh ?hf ?hdp ?hun ?_; (case k1 => k_asm); (case k2 => k_asm); (case k3 => k_asm); (case k4 => assumption); (case k5 => k_asm); (case hh => exact rfl); (case hf => exact rfl); (case hdp => (simp only [depth_deeper]; omega)); (case hun => (simp only [units_deeper]; omega))); intro d' dd' es' k' n' h' tk' a1 a2 lt' own' F' N'))
local macro_rules | `(tactic| walk_at "getMethod ref") => `(tactic| (k_here; (with_reducible show wpAny _ _ (getMethod (Value.ref _) (PySem.Str.ofString "push") _) _ _ _); k_dflt (refine' deck_methodP ?k1 ?k2 ?k3 ?k4 ?k5 ?k6 ?_; (case k1 => k_asm); (case k2 => k_asm); (case k3 => k_asm); (case k4 => k_mem); (case k5 => k_mem); (case k6 => assumption))))
local macro_rules | `(tactic| walk_at "call ref") => `(tactic| (k_here; (with_reducible show wpAny _ _ (call (Value.ref 80) [Value.ref _, _, _]) _ _ _); k_dflt (refine' deck_pushK ?k1 ?k2 ?k3 ?kY ?k4 ?k5 ?k6 ?k7 ?k8 ?z ?hh ?hdp ?hun ?_; (case k1 => k_asm); (case k2 => k_asm); (case k3 => k_asm); (case kY => assumption); (case k4 => k_asm); (case k5 => (intro t'; k_upd)); (case k6 => k_mem); (case k7 => assumption); (case k8 => assumption); (case z => ((try simp only [Array.size_push]); rw [sizeLine_eq]; omega)); (case hh => exact rfl); (case hdp => (simp only [depth_deeper]; omega)); (case hun => (simp only [units_deeper]; omega))); intro t' h' tk' l1 F' N'; (simp only [AllNe] at l1)))
local macro_rules | `(tactic| walk_at "exec For Name Call cons nil") => `(tactic| (k_here; (with_reducible show wpAny _ _ (exec (Stmt.For _ _ _ _ _) _) _ _ _); refine halt ?_))
local macro_rules | `(tactic| walk_at "pyIter ref") => `(tactic| (k_here; refine halt ?_))
local macro_rules | `(tactic| k_all) => `(tactic| assumption)
local macro_rules | `(tactic| walk_at "binaryOp Pow int int") => `(tactic| (k_here; k_dflt (refine' powK (a := 2) (i := _) ?a ?b ?_; (case a => decide); (case b => omega))))
local macro_rules | `(tactic| walk_at "binaryOp Pow int int") => `(tactic| (k_here; (with_reducible show wpAny _ _ (binaryOp _ (Value.int 3 _) _) _ _ _); k_dflt (refine' powK (a := 3) (i := _) ?a ?b ?_; (case a => decide); (case b => omega))))
local macro_rules | `(tactic| walk_at "binaryOp FloorDiv int int") => `(tactic| (k_here; k_dflt (refine' divK ?a ?b ?_; (case a => first | exact (pow_lt2 (by assumption)).1 | exact (pow_lt3 (by assumption)).1); (case b => first | exact (pow_lt2 (by assumption)).2 | exact (pow_lt3 (by assumption)).2))))
local macro_rules | `(tactic| walk_at "binaryOp Mod int int") => `(tactic| (k_here; k_dflt (refine' modK (y := 2) ?e ?b ?_; (case e => assumption); (case b => decide))))
local macro_rules | `(tactic| walk_at "binaryOp Mod int int") => `(tactic| (k_here; (with_reducible show wpAny _ _ (binaryOp _ _ (Value.int 7 _)) _ _ _); k_dflt (refine' modK (y := 7) ?e ?b ?_; (case e => assumption); (case b => decide))))
local macro_rules | `(tactic| walk_at "call builtin:chr") => `(tactic| (k_here; k_dflt (refine' chrK (k := _ + 32 * _) ?e ?h ?_; (case e => (push_cast; exact rfl)); (case h => omega))))
local macro_rules | `(tactic| walk_at "call ref") => `(tactic| (k_here; (with_reducible show wpAny _ _ (call (Value.ref 42) [Value.str ⟨#[_]⟩ _]) _ _ _); k_dflt (refine' ctrlEK ?k1 ?k2 ?k3 ?k4 ?k5 ?hh ?hdp ?hun ?p0 ?_; (case k1 => k_asm); (case k2 => k_asm); (case k3 => k_asm); (case k4 => assumption); (case k5 => k_asm); (case hh => exact rfl); (case hdp => (simp only [depth_deeper]; omega)); (case hun => (simp only [units_deeper]; omega)); (case p0 => exact mod32 (by assumption))); intro h' tk' tk'' F' N'))
local macro_rules | `(tactic| walk_at "call ref") => `(tactic| (k_here; (with_reducible show wpAny _ _ (call (Value.ref 49) [Value.str ⟨#[_]⟩ _]) _ _ _); k_dflt (refine' altSK ?k1 ?k2 ?k3 ?k4 ?k5 ?hh ?hdp ?hun ?p0 ?_; (case k1 => k_asm); (case k2 => k_asm); (case k3 => k_asm); (case k4 => assumption); (case k5 => k_asm); (case hh => exact rfl); (case hdp => (simp only [depth_deeper]; omega)); (case hun => (simp only [units_deeper]; omega)); (case p0 => assumption)); intro h' tk' tk'' F' N'))
local macro_rules | `(tactic| walk_at "call ref") => `(tactic| (k_here; (with_reducible show wpAny _ _ (call (Value.ref 56) [Value.str ⟨#[_]⟩ _]) _ _ _); k_dflt (refine' unctrlAK ?k1 ?k2 ?k3 ?k4 ?k5 ?hh ?hdp ?hun ?p0 ?_; (case k1 => k_asm); (case k2 => k_asm); (case k3 => k_asm); (case k4 => assumption); (case k5 => k_asm); (case hh => exact rfl); (case hdp => (simp only [depth_deeper]; omega)); (case hun => (simp only [units_deeper]; omega)); (case p0 => assumption)); intro h' tk' tk'' F' N'))
local macro_rules | `(tactic| walk_at "call ref") => `(tactic| (k_here; (with_reducible show wpAny _ _ (call (Value.ref 56) [Value.str ⟨#[_ + 128]⟩ _]) _ _ _); k_dflt (refine' unctrlBK ?k1 ?k2 ?k3 ?k4 ?k5 ?hh ?hdp ?hun ?p0 ?_; (case k1 => k_asm); (case k2 => k_asm); (case k3 => k_asm); (case k4 => assumption); (case k5 => k_asm); (case hh => exact rfl); (case hdp => (simp only [depth_deeper]; omega)); (case hun => (simp only [units_deeper]; omega)); (case p0 => assumption)); intro h' tk' tk'' F' N'))

theorem fresh_of {h g : Heap} {d : Addr} (kp : ∀ b o, h.get? b = some o → b ∉ List.map (·.1) ([] : List (Addr × Obj)) → g.get? b = some o) (n : g.get? d = none) : h.get? d = none := by
  cases q : h.get? d with
  | none => rfl
  | some o => have := kp _ _ q (by simp); rw [n] at this; cases this
theorem sliceA (c : Nat) : Txt.slice ⟨#[94, c]⟩ none (some (-1)) = ⟨#[94]⟩ := by kernel_rfl
theorem itemA (c : Nat) : Txt.item ⟨#[94, c]⟩ (-1) = ⟨#[c]⟩ := by kernel_rfl
theorem sliceB (c : Nat) : Txt.slice ⟨#[33, 94, c]⟩ none (some (-1)) = ⟨#[33, 94]⟩ := by kernel_rfl
theorem itemB (c : Nat) : Txt.item ⟨#[33, 94, c]⟩ (-1) = ⟨#[c]⟩ := by kernel_rfl
set_option maxHeartbeats 8000000 in
theorem deck_abs {w : World} {mg mb : Str → Option Value} {A : Around} {fs : List Env} {h₀ : Heap} {s : Shared} {Q E : Value → Shared → Prop} {M : Nat} {tm : Tok}
    (G : Ground0 w mg mb h₀) (hk : ∀ b o, h₀.get? b = some o → s.heap.get? b = some o) (hh : A.handled = none) (hf : A.frames = some fs) (hdp : A.depth + 50 < 600) (hun : A.units + 500 < 2000)
    (hret : ∀ d dd tk es k its n f p h' tk', (∀ b o, s.heap.get? b = some o → h'.get? b = some o) → h'.get? d = some (deckObj dd its n) → h'.get? dd = some (dictOf es k) → s.heap.get? d = none → s.heap.get? dd = none → @LT.lt Nat _ dd d → Own5 tk es → RefsN s.heap h' its 32 f p → Pieces M f p → Q (.ref d) { s with heap := h', toks := tk' }) :
    wpAny (model PP w) A (call (.ref 153) [.int (M : Int) tm]) Q E s := by
  obtain ⟨hd0, dp, fr, gd, un⟩ := A
  dsimp only at hh hf hdp hun
  subst hh hf
  have hdp' : dp + 50 < recursionLimit := Nat.lt_trans hdp (by decide +kernel)
  have hun' : un + 500 < cLine := Nat.lt_trans hun (by decide +kernel)
  refine wpAny_call ?_
  k_dflt (refine' enter_def (news := []) (binds := [(Str.ofString "marks", .int (M : Int) tm)]) G hk ?hn ?k6 ?k7 ?k8 ?k9 ?kB ?_ ?c2 ?c3 ?c4 ?c5; (case k6 => k_is); (case k7 => k_is); (case k8 => (show dp < 1000; omega)); (case k9 => exact BindsTo.of_eq rfl); (case c5 => decide); (case kB => exact locs rfl); (case c2 => exact rfl); (case c3 => exact rfl); (case c4 => exact rfl); k_whole)
  case hn => (intro q hq; cases hq)
  intro g' L' h' F' N' X' T' kp hgs Y'
  try dsimp only
  try k_fold
  k_steps
  show wpAny _ _ (exec _ _) _ _ _
  refine wpAny_For ?_
  k_steps
  show wpAny _ _ (pyIter _) _ _ _
  rename Own5 _ _ => own
  have own2 := own
  obtain ⟨oA, oP, oF, oC, oI⟩ := own2
  k_dflt (refine' deck_loop (M := M) ?q1 ?q2 ?q3 ?q4 ?q5 ?q6 ?turn ?done; (case q1 => exact rfl); (case q2 => exact rfl); (case q3 => exact rfl); (case q4 => k_asm); (case q5 => k_asm); (case q6 => assumption))
  case turn =>
    intro i it nn acc rest h tk t' o1 o2 hi hacc hit hrest hitr F9 N9
    obtain ⟨q, hq⟩ : ∃ q, M / 3 ^ i % 7 = q := ⟨_, rfl⟩
    have hq7 : q < 7 := by omega
    rcases (show M / 2 ^ i % 2 = 0 ∨ M / 2 ^ i % 2 = 1 by omega) with hb | hb
    · try k_fold
      k_steps
      rename News _ _ _ _ => N5
      rename _ ∧ _ ∧ _ ∧ AllNe _ _ => ne5
      rw [sliceA, itemA] at N5
      have e1 : pre M i = ⟨#[94]⟩ := if_neg (by omega)
      rename Fr _ _ _ _ => F5
      rw [← e1] at N5
      exact ⟨rfl, _, _, _, _, _, _, _, rfl, F5, N5, fun y a b c => by simp only [if_neg a, if_neg b, if_neg c], ⟨ne5.1, ne5.2.1⟩⟩
    · try k_fold
      k_steps
      rename News _ _ _ _ => N5
      rename _ ∧ _ ∧ _ ∧ AllNe _ _ => ne5
      rw [sliceB, itemB] at N5
      have e1 : pre M i = ⟨#[33, 94]⟩ := if_pos hb
      rename Fr _ _ _ _ => F5
      rw [← e1] at N5
      exact ⟨rfl, _, _, _, _, _, _, _, rfl, F5, N5, fun y a b c => by simp only [if_neg a, if_neg b, if_neg c], ⟨ne5.1, ne5.2.1⟩⟩
  case done =>
    intro acc nn o1 o2 o3 h tk F9 hd9 hdd9 hs9 hall N9
    k_steps
    obtain ⟨f, p, hR, hP⟩ := pieces_of hs9 hall
    refine hret _ _ _ _ _ _ _ f p _ _ (kept_all F9 kp) hd9 hdd9 ?_ ?_ (by assumption) own ⟨hR.1, fun i hi => let ⟨t, a, b, c⟩ := hR.2 i hi; ⟨t, a, b, fresh_of kp c⟩⟩ hP
    · exact fresh_of kp (N9 _ (.head _)).2.2
    · exact fresh_of kp (N9 _ (.tail _ (.head _))).2.2
end Mine

end
section -- part S4
open PySem PySem.W PyProof.Rows PySem.Calls
set_option maxRecDepth 100000
namespace Mine
theorem filledS4 : PySem.Challenge.rw_pg0066_01 = PySem.Challenge.rw_pg0066_01 ∧ Mine.hd.heap_1 = Mine.hd.heap_1 := by
  k_fill
  exact ⟨rfl, rfl⟩
local macro_rules | `(tactic| walk_at "binaryOp Pow int int") => `(tactic| (k_here; k_dflt (refine' powK (a := 2) (i := _) ?a ?b ?_; (case a => decide); (case b => omega))))
local macro_rules | `(tactic| walk_at "binaryOp Pow int int") => `(tactic| (k_here; (with_reducible show wpAny _ _ (binaryOp _ (Value.int 3 _) _) _ _ _); k_dflt (refine' powK (a := 3) (i := _) ?a ?b ?_; (case a => decide); (case b => omega))))
local macro_rules | `(tactic| walk_at "binaryOp FloorDiv int int") => `(tactic| (k_here; k_dflt (refine' divK ?a ?b ?_; (case a => first | exact (pow_lt2 (by assumption)).1 | exact (pow_lt3 (by assumption)).1); (case b => first | exact (pow_lt2 (by assumption)).2 | exact (pow_lt3 (by assumption)).2))))
local macro_rules | `(tactic| walk_at "binaryOp Mod int int") => `(tactic| (k_here; k_dflt (refine' modK (y := 2) ?e ?b ?_; (case e => assumption); (case b => decide))))
local macro_rules | `(tactic| walk_at "binaryOp Mod int int") => `(tactic| (k_here; (with_reducible show wpAny _ _ (binaryOp _ _ (Value.int 7 _)) _ _ _); k_dflt (refine' modK (y := 7) ?e ?b ?_; (case e => assumption); (case b => decide))))
def pic (M i : Nat) : Str := ⟨(pre M i).cps ++ (fac i).cps⟩
section

set_option maxHeartbeats 8000000 in
theorem picA_abs {w : World} {mg mb : Str → Option Value} {A : Around} {h₀ : Heap} {s : Shared} {Q E : Value → Shared → Prop} {M i : Nat} {ti tm : Tok}
    (G : Ground0 w mg mb h₀) (hk : ∀ b o, h₀.get? b = some o → s.heap.get? b = some o) (hh : A.handled = none) (hdp : A.depth + 20 < recursionLimit) (hun : A.units + 200 < cLine) (hi : i < 32) (hb : M / 2 ^ i % 2 = 0)
    (hret : ∀ h' (tk tk' : Nat), (∀ b o, s.heap.get? b = some o → h'.get? b = some o) → Q (.str (pic M i) tk) { s with heap := h', toks := tk' }) :
    wpAny (model PP w) A (call (.ref 146) [.int (i : Int) ti, .int (M : Int) tm]) Q E s := by
  obtain ⟨hd0, dp, fr, gd, un⟩ := A
  dsimp only at hh hdp hun
  subst hh
  refine wpAny_call ?_
  k_dflt (refine' enter_def (news := []) (binds := [(Str.ofString "card", .int (i : Int) ti), (Str.ofString "marks", .int (M : Int) tm)]) G hk ?hn ?k6 ?k7 ?k8 ?k9 ?kB ?_ ?c2 ?c3 ?c4 ?c5; (case k6 => k_is); (case k7 => k_is); (case k8 => (show dp < recursionLimit; omega)); (case k9 => exact BindsTo.of_eq rfl); (case c5 => decide); (case kB => exact locs rfl); (case c2 => exact rfl); (case c3 => exact rfl); (case c4 => exact rfl); k_whole)
  case hn => (intro q hq; cases hq)
  intro g' L' h' F' N' X' T' kp hgs Y'
  try dsimp only
  try k_fold
  k_steps
  have e1 : pic M i = Str.ofString "^" ++ ⟨#[i + 64]⟩ := by
    rw [pic, show pre M i = ⟨#[94]⟩ from if_neg (by omega)]; rfl
  rw [e1] at hret
  rw [show ((64 : Int) + (i : Int)).toNat = i + 64 by omega]
  exact hret _ _ _ (kept_all (by k_asm) kp)
theorem picAK {w : World} {mg mb : Str → Option Value} {A : Around} {h₀ : Heap} {s : Shared} {Q E : Value → Shared → Prop} {L : Addr} {m : Str → Option Value} {news : List (Addr × Obj)} {M i : Nat} {ti tm : Tok}
    (F : Fr h₀ L s.heap m) (X₀ : (Mine.hd.heap_1 w.params).In h₀) (T₀ : TopRead VV LL mg mb h₀) (Y₀ : KIn w h₀) (N : News h₀ L s.heap news) (hh : A.handled = none) (hdp : A.depth + 20 < recursionLimit) (hun : A.units + 200 < cLine) (hi : i < 32) (hb : M / 2 ^ i % 2 = 0)
    (h : ∀ h' (tk tk' : Nat), Fr h₀ L h' m → News h₀ L h' news → Q (.str (pic M i) tk) { s with heap := h', toks := tk' }) :
    wpAny (model PP w) A (call (.ref 146) [.int (i : Int) ti, .int (M : Int) tm]) Q E s :=
  picA_abs ⟨X₀, T₀, Y₀⟩ F.keep hh hdp hun hi hb fun h' tk tk' k => h h' tk tk' (kept_fr F k) (kept_news N k)

set_option maxHeartbeats 8000000 in
theorem picB_abs {w : World} {mg mb : Str → Option Value} {A : Around} {h₀ : Heap} {s : Shared} {Q E : Value → Shared → Prop} {M i : Nat} {ti tm : Tok}
    (G : Ground0 w mg mb h₀) (hk : ∀ b o, h₀.get? b = some o → s.heap.get? b = some o) (hh : A.handled = none) (hdp : A.depth + 20 < recursionLimit) (hun : A.units + 200 < cLine) (hi : i < 32) (hb : M / 2 ^ i % 2 = 1)
    (hret : ∀ h' (tk tk' : Nat), (∀ b o, s.heap.get? b = some o → h'.get? b = some o) → Q (.str (pic M i) tk) { s with heap := h', toks := tk' }) :
    wpAny (model PP w) A (call (.ref 146) [.int (i : Int) ti, .int (M : Int) tm]) Q E s := by
  obtain ⟨hd0, dp, fr, gd, un⟩ := A
  dsimp only at hh hdp hun
  subst hh
  refine wpAny_call ?_
  k_dflt (refine' enter_def (news := []) (binds := [(Str.ofString "card", .int (i : Int) ti), (Str.ofString "marks", .int (M : Int) tm)]) G hk ?hn ?k6 ?k7 ?k8 ?k9 ?kB ?_ ?c2 ?c3 ?c4 ?c5; (case k6 => k_is); (case k7 => k_is); (case k8 => (show dp < recursionLimit; omega)); (case k9 => exact BindsTo.of_eq rfl); (case c5 => decide); (case kB => exact locs rfl); (case c2 => exact rfl); (case c3 => exact rfl); (case c4 => exact rfl); k_whole)
  case hn => (intro q hq; cases hq)
  intro g' L' h' F' N' X' T' kp hgs Y'
  try dsimp only
  try k_fold
  k_steps
  have e1 : pic M i = Str.ofString "!^" ++ ⟨#[i + 64]⟩ := by
    rw [pic, show pre M i = ⟨#[33, 94]⟩ from if_pos hb]; rfl
  rw [e1] at hret
  rw [show ((64 : Int) + (i : Int)).toNat = i + 64 by omega]
  exact hret _ _ _ (kept_all (by k_asm) kp)
theorem picBK {w : World} {mg mb : Str → Option Value} {A : Around} {h₀ : Heap} {s : Shared} {Q E : Value → Shared → Prop} {L : Addr} {m : Str → Option Value} {news : List (Addr × Obj)} {M i : Nat} {ti tm : Tok}
    (F : Fr h₀ L s.heap m) (X₀ : (Mine.hd.heap_1 w.params).In h₀) (T₀ : TopRead VV LL mg mb h₀) (Y₀ : KIn w h₀) (N : News h₀ L s.heap news) (hh : A.handled = none) (hdp : A.depth + 20 < recursionLimit) (hun : A.units + 200 < cLine) (hi : i < 32) (hb : M / 2 ^ i % 2 = 1)
    (h : ∀ h' (tk tk' : Nat), Fr h₀ L h' m → News h₀ L h' news → Q (.str (pic M i) tk) { s with heap := h', toks := tk' }) :
    wpAny (model PP w) A (call (.ref 146) [.int (i : Int) ti, .int (M : Int) tm]) Q E s :=
  picB_abs ⟨X₀, T₀, Y₀⟩ F.keep hh hdp hun hi hb fun h' tk tk' k => h h' tk tk' (kept_fr F k) (kept_news N k)

end
theorem pic_abs {w : World} {mg mb : Str → Option Value} {A : Around} {h₀ : Heap} {s : Shared} {Q E : Value → Shared → Prop} {M i : Nat} {ti tm : Tok}
    (G : Ground0 w mg mb h₀) (hk : ∀ b o, h₀.get? b = some o → s.heap.get? b = some o) (hh : A.handled = none) (hdp : A.depth + 20 < recursionLimit) (hun : A.units + 200 < cLine) (hi : i < 32)
    (hret : ∀ h' (tk tk' : Nat), (∀ b o, s.heap.get? b = some o → h'.get? b = some o) → Q (.str (pic M i) tk) { s with heap := h', toks := tk' }) :
    wpAny (model PP w) A (call (.ref 146) [.int (i : Int) ti, .int (M : Int) tm]) Q E s := by
  rcases (show M / 2 ^ i % 2 = 0 ∨ M / 2 ^ i % 2 = 1 by omega) with hb | hb
  · exact picA_abs G hk hh hdp hun hi hb hret
  · exact picB_abs G hk hh hdp hun hi hb hret
theorem picK {w : World} {mg mb : Str → Option Value} {A : Around} {h₀ : Heap} {s : Shared} {Q E : Value → Shared → Prop} {L : Addr} {m : Str → Option Value} {news : List (Addr × Obj)} {M i : Nat} {ti tm : Tok}
    (F : Fr h₀ L s.heap m) (X₀ : (Mine.hd.heap_1 w.params).In h₀) (T₀ : TopRead VV LL mg mb h₀) (Y₀ : KIn w h₀) (N : News h₀ L s.heap news) (hh : A.handled = none) (hdp : A.depth + 20 < recursionLimit) (hun : A.units + 200 < cLine) (hi : i < 32)
    (h : ∀ h' (tk tk' : Nat), Fr h₀ L h' m → News h₀ L h' news → Q (.str (pic M i) tk) { s with heap := h', toks := tk' }) :
    wpAny (model PP w) A (call (.ref 146) [.int (i : Int) ti, .int (M : Int) tm]) Q E s :=
  pic_abs ⟨X₀, T₀, Y₀⟩ F.keep hh hdp hun hi fun h' tk tk' k => h h' tk tk' (kept_fr F k) (kept_news N k)
end Mine

end
section -- part S5
open PySem PySem.W PyProof.Rows PySem.Calls
set_option maxRecDepth 100000
namespace Mine
theorem filledS5 : PySem.Challenge.rw_pg0066_01 = PySem.Challenge.rw_pg0066_01 ∧ Mine.hd.heap_1 = Mine.hd.heap_1 := by
  k_fill
  exact ⟨rfl, rfl⟩

section
variable {prog : Program} {w : World} {A : Around} {E : Value → Shared → Prop} {s : Shared} {t u : Tok}
theorem modE {x y : Int} {q : Nat} {Q : Value → Shared → Prop} (e : x.fmod y = (q : Int)) (hy : y ≠ 0) (h : Q (.int (q : Int) s.toks) { s with toks := s.toks + 1 }) : wpAny (model prog w) A (binaryOp .Mod (.int x t) (.int y u)) Q E s :=
  mod_int' hy (by rw [e]; exact h)
theorem mulE {x y : Nat} {Q : Value → Shared → Prop} (hx : x < 2 ^ 32) (h : Q (.int ((x * y : Nat) : Int) s.toks) { s with toks := s.toks + 1 }) : wpAny (model prog w) A (binaryOp .Mult (.int (x : Int) t) (.int (y : Int) u)) Q E s := by
  refine mul_int (by simpa using h) (IntMulOk.of_left ?_)
  unfold Builtin.Int.intBits
  split
  · omega
  · rename_i hx0
    have hx0 : x ≠ 0 := by rintro rfl; exact hx0 rfl
    have : x.log2 < 32 := (Nat.log2_lt hx0).mpr hx
    simp only [Int.natAbs_natCast]; omega
theorem xorE {x y : Int} {z : Nat} {Q : Value → Shared → Prop} (e : Builtin.bitXor x y = (z : Int)) (h : Q (.int (z : Int) s.toks) { s with toks := s.toks + 1 }) : wpAny (model prog w) A (binaryOp .BitXor (.int x t) (.int y u)) Q E s :=
  xor_int (by rw [e]; exact h)
theorem row_set {h₀ : Heap} {L D : Addr} {m : Str → Option Value} {news news' : List (Addr × Obj)} {its : Array Value} {n j : Nat} {v : Value} {Q : Unit → Shared → Prop} (F : Fr h₀ L s.heap m) (N : News h₀ L s.heap news) (hj : j < its.size) (hs : j < 1000) (U : Upd D (listOf its n) (listOf (its.setIfInBounds j v) n) news news')
    (h : ∀ h', Fr h₀ L h' m → News h₀ L h' news' → Q () { s with heap := h' }) : wpAny (model prog w) A (setItem (.ref D) (.int (j : Int) t) v) Q E s := by
  obtain ⟨pre, post, rfl, rfl, a, b⟩ := U.split
  have z := N (D, listOf its n) (List.mem_append.mpr (.inr (.head _)))
  refine ki_setAt z.1 (by omega) (by omega) (by omega) (h _ (F.change (Heap.SameBut.update ..) z.2.1 z.2.2) (ki_turn _ N a b ?_ ?_))
  · simp
  · simp
end
theorem xor32 {x y : Nat} (hx : x < 32) (hy : y < 32) : Builtin.bitXor (x : Int) (y : Int) = ((x ^^^ y : Nat) : Int) := by
  have : ∀ x y : Fin 32, Builtin.bitXor ((x : Nat) : Int) ((y : Nat) : Int) = (((x : Nat) ^^^ (y : Nat) : Nat) : Int) := by decide +kernel
  exact this ⟨x, hx⟩ ⟨y, hy⟩
def term (b : Nat → Nat) (n k : Nat) : Nat := b k * 2 ^ ((n - 1 - k) % 5)
def mvd (b : Nat → Nat) (n : Nat) : Nat → Nat
  | 0 => 0
  | k + 1 => mvd b n k ^^^ term b n k
theorem term_lt {b : Nat → Nat} {n k : Nat} (h : b k ≤ 1) : term b n k < 32 := by
  have h2 : 2 ^ ((n - 1 - k) % 5) ≤ 2 ^ 4 := Nat.pow_le_pow_right (by omega) (by omega)
  have h3 : term b n k ≤ 1 * 2 ^ ((n - 1 - k) % 5) := Nat.mul_le_mul_right _ h
  omega
theorem mvd_lt {b : Nat → Nat} {n : Nat} : ∀ k, (∀ j, j < k → b j ≤ 1) → mvd b n k < 32
  | 0, _ => by simp [mvd]
  | k + 1, h => Nat.xor_lt_two_pow (n := 5) (mvd_lt k fun j hj => h j (by omega)) (term_lt (h k (by omega)))
def tr (n c : Nat) : Nat := if c = 31 then 31 else c * 2 ^ n % 31
theorem tr_lt (n c : Nat) : tr n c < 32 := by unfold tr; split <;> omega
theorem tr_inj {n c c' : Nat} (hn : n ≤ 6) (h : c < 32) (h' : c' < 32) (e : tr n c = tr n c') : c = c' := by
  have : ∀ (n : Fin 7) (c c' : Fin 32), tr n c = tr n c' → c = c' := by decide +kernel
  have := this ⟨n, by omega⟩ ⟨c, h⟩ ⟨c', h'⟩ e
  exact congrArg Fin.val this
def at_ (b : Nat → Nat) (n c : Nat) : Nat := tr n c ^^^ mvd b n n

section
variable {prog : Program} {w : World} {A : Around} {E : Value → Shared → Prop} {s : Shared} {g : Heap} {env : Env} {m : Str → Option Value} {news : List (Addr × Obj)} {b : Nat → Nat} {n : Nat}
theorem moved_loop {Q : Flow → Shared → Prop} {px : Pos} {body : List Stmt} {r : Addr} {t u v t0 : Tok}
    (hh : A.handled = none) (hx : env.kindOf "k" = some .local)
    (hp : (env.scope.kind == .class || (env.scope.kind == .module && env.locals != env.globals)) = false)
    (F : Fr g env.locals s.heap m) (N : News g env.locals s.heap news) (hm0 : m (Str.ofString "moved") = some (.int ((mvd b n 0 : Nat) : Int) t0))
    (hr : IsRange s.heap r 0 (n : Int) 1 t u v) (hn : n ≤ 6)
    (turn : ∀ (i it : Nat) (h : Heap) (tk t' tv : Nat), i < n → AllNe it news →
      Fr g env.locals h (fun y => if y = Str.ofString "k" then some (.int (i : Int) t') else if y = Str.ofString "moved" then some (.int ((mvd b n i : Nat) : Int) tv) else m y) →
      News g env.locals h ((it, riterObj ((i : Int) + 1) ((n : Int) - i - 1)) :: news) →
      wpAny (model prog w) A (execs body env) (fun f s₂ => Done (f = .next ∧ ∃ h' tk' m₂ tv', s₂ = { s with heap := h', toks := tk' } ∧ Fr g env.locals h' m₂ ∧
        News g env.locals h' ((it, riterObj ((i : Int) + 1) ((n : Int) - i - 1)) :: news) ∧ m₂ (Str.ofString "moved") = some (.int ((mvd b n (i + 1) : Nat) : Int) tv') ∧
        (∀ y, y ≠ Str.ofString "k" → y ≠ Str.ofString "moved" → m₂ y = m y))) (fun _ _ => False) { s with heap := h, toks := tk })
    (done : ∀ o1 tv h tk, Fr g env.locals h (fun y => if y = Str.ofString "k" then o1 else if y = Str.ofString "moved" then some (.int ((mvd b n n : Nat) : Int) tv) else m y) → News g env.locals h news → Q .next { s with heap := h, toks := tk }) :
    wpAny (model prog w) A (pyIter (.ref r)) (fun it s₂ =>
      codeAny (model prog w) A (.forLoop (.Name "k" px) it body [] env) (fun r s' => match r with | .ok f => Q f s' | .error e => cameBackBy (model prog w) A env E e s') s₂) E s := by
  have key : ∀ (m₁ : Str → Option Value) (v1 : Value), m₁ (Str.ofString "moved") = some v1 → (∀ y, y ≠ Str.ofString "k" → y ≠ Str.ofString "moved" → m₁ y = m y) → ∀ y, y ≠ Str.ofString "k" → m₁ y = if y = Str.ofString "moved" then some v1 else m y := fun m₁ v1 e hm y q => by
    by_cases q2 : y = Str.ofString "moved"
    · rw [if_pos q2, q2, e]
    · rw [if_neg q2]; exact hm y q q2
  have h7 : ∀ n : Fin 7, Builtin.Range.small 0 ((n : Nat) : Int) 1 = true ∧ Builtin.Range.rangeSize 0 ((n : Nat) : Int) 1 = ((n : Nat) : Int) := by decide +kernel
  refine range_loop (n := n) (m := m) hh hx hp F N hr (h7 ⟨n, by omega⟩).1 (h7 ⟨n, by omega⟩).2
    (fun i m₁ news₁ => news₁ = news ∧ (∃ tv, m₁ (Str.ofString "moved") = some (.int ((mvd b n i : Nat) : Int) tv)) ∧ (∀ y, y ≠ Str.ofString "k" → y ≠ Str.ofString "moved" → m₁ y = m y)) ?_ ?_ ?_
  · exact ⟨rfl, ⟨t0, hm0⟩, fun _ _ _ => rfl⟩
  · rintro i it m₁ news₁ h tk t' hi ⟨rfl, ⟨tv, ev⟩, hm⟩ hne F₁ N₁
    have em : (fun y => if y = Str.ofString "k" then some (Value.int (i : Int) t') else m₁ y) = (fun y => if y = Str.ofString "k" then some (Value.int (i : Int) t') else if y = Str.ofString "moved" then some (.int ((mvd b n i : Nat) : Int) tv) else m y) := by
      funext y
      by_cases q : y = Str.ofString "k"
      · rw [if_pos q, if_pos q]
      · rw [if_neg q, if_neg q]; exact key m₁ _ ev hm y q
    rw [em] at F₁
    refine wpAny_mono (turn i it h tk t' tv hi hne F₁ N₁) (fun f s₂ q => ?_) fun _ _ e => e
    obtain ⟨rfl, h', tk', m₂, tv', rfl, F', N', hm', he'⟩ := q.out
    exact ⟨rfl, h', tk', _, _, rfl, F', N', hne, rfl, ⟨_, hm'⟩, he'⟩
  · rintro m₁ news₁ h tk ⟨rfl, ⟨tv, ev⟩, hm⟩ F₁ N₁
    have em : m₁ = (fun y => if y = Str.ofString "k" then m₁ (Str.ofString "k") else if y = Str.ofString "moved" then some (.int ((mvd b n n : Nat) : Int) tv) else m y) := by
      funext y
      by_cases q : y = Str.ofString "k"
      · rw [if_pos q, q]
      · rw [if_neg q]; exact key m₁ _ ev hm y q
    rw [em] at F₁
    exact done _ tv h tk F₁ N₁
theorem at_lt {c : Nat} (hb : ∀ j, j < n → b j ≤ 1) : at_ b n c < 32 := Nat.xor_lt_two_pow (n := 5) (tr_lt n c) (mvd_lt n hb)
theorem at_inj {c c' : Nat} (hn : n ≤ 6) (h : c < 32) (h' : c' < 32) (e : at_ b n c = at_ b n c') : c = c' := by
  refine tr_inj hn h h' ?_
  have := congrArg (· ^^^ mvd b n n) e
  simpa [at_, Nat.xor_assoc] using this
def AllStr (arr : Array Value) : Prop := arr.size = 32 ∧ ∀ j, j < 32 → ∃ y t, arr[j]? = some (.str y t)
theorem row_loop {Q : Flow → Shared → Prop} {px : Pos} {body : List Stmt} {r rl : Addr} {t u v : Tok} {arr0 : Array Value} {M c0 : Nat} {rest : List (Addr × Obj)}
    (hh : A.handled = none) (hx : env.kindOf "card" = some .local)
    (hp : (env.scope.kind == .class || (env.scope.kind == .module && env.locals != env.globals)) = false)
    (F : Fr g env.locals s.heap m) (N : News g env.locals s.heap ((rl, listOf arr0 c0) :: rest)) (ha0 : AllStr arr0) (hn : n ≤ 6) (hb : ∀ j, j < n → b j ≤ 1)
    (hr : IsRange s.heap r 0 32 1 t u v)
    (turn : ∀ (i it : Nat) (h : Heap) (arr : Array Value) (tk t' : Nat) (o1 : Option Value), i < 32 → arr.size = 32 → AllNe it ((rl, listOf arr c0) :: rest) →
      Fr g env.locals h (fun y => if y = Str.ofString "card" then some (.int (i : Int) t') else if y = Str.ofString "turned" then o1 else m y) →
      News g env.locals h ((it, riterObj ((i : Int) + 1) ((32 : Int) - i - 1)) :: (rl, listOf arr c0) :: rest) →
      wpAny (model prog w) A (execs body env) (fun f s₂ => Done (f = .next ∧ ∃ h' tk' m₂ tv, s₂ = { s with heap := h', toks := tk' } ∧ Fr g env.locals h' m₂ ∧
        News g env.locals h' ((it, riterObj ((i : Int) + 1) ((32 : Int) - i - 1)) :: (rl, listOf (arr.setIfInBounds (at_ b n i) (.str (pic M i) tv)) c0) :: rest) ∧
        (∀ y, y ≠ Str.ofString "card" → y ≠ Str.ofString "turned" → m₂ y = m y))) (fun _ _ => False) { s with heap := h, toks := tk })
    (done : ∀ arr o1 o2 h tk, Fr g env.locals h (fun y => if y = Str.ofString "card" then o1 else if y = Str.ofString "turned" then o2 else m y) → News g env.locals h ((rl, listOf arr c0) :: rest) → AllStr arr → (∀ c, c < 32 → ∃ tv, arr[at_ b n c]? = some (.str (pic M c) tv)) → Q .next { s with heap := h, toks := tk }) :
    wpAny (model prog w) A (pyIter (.ref r)) (fun it s₂ =>
      codeAny (model prog w) A (.forLoop (.Name "card" px) it body [] env) (fun r s' => match r with | .ok f => Q f s' | .error e => cameBackBy (model prog w) A env E e s') s₂) E s := by
  refine range_loop (n := 32) (m := m) hh hx hp F N hr (by decide +kernel) (by decide +kernel)
    (fun i m₁ news₁ => (∀ y, y ≠ Str.ofString "card" → y ≠ Str.ofString "turned" → m₁ y = m y) ∧ ∃ arr, news₁ = (rl, listOf arr c0) :: rest ∧ AllStr arr ∧ (∀ c, c < i → ∃ tv, arr[at_ b n c]? = some (.str (pic M c) tv))) ?_ ?_ ?_
  · exact ⟨fun _ _ _ => rfl, arr0, rfl, ha0, fun c hc => absurd hc (by omega)⟩
  · rintro i it m₁ news₁ h tk t' hi ⟨hm, arr, rfl, ha, hall⟩ hne F₁ N₁
    have em : (fun y => if y = Str.ofString "card" then some (Value.int (i : Int) t') else m₁ y) = (fun y => if y = Str.ofString "card" then some (Value.int (i : Int) t') else if y = Str.ofString "turned" then m₁ (Str.ofString "turned") else m y) := by
      funext y
      by_cases q : y = Str.ofString "card"
      · rw [if_pos q, if_pos q]
      · rw [if_neg q, if_neg q]
        by_cases q2 : y = Str.ofString "turned"
        · rw [if_pos q2, q2]
        · rw [if_neg q2]; exact hm y q q2
    rw [em] at F₁
    refine wpAny_mono (turn i it h arr tk t' _ hi ha.1 hne F₁ N₁) (fun f s₂ q => ?_) fun _ _ e => e
    obtain ⟨rfl, h', tk', m₂, tv, rfl, F', N', hm'⟩ := q.out
    have hlt := at_lt (c := i) hb
    refine ⟨rfl, h', tk', _, _, rfl, F', N', hne, hm', _, rfl, ⟨by simp [ha.1], fun j hj => ?_⟩, fun c hc => ?_⟩
    · by_cases q : at_ b n i = j
      · subst q
        exact ⟨_, _, by rw [Array.getElem?_setIfInBounds_self_of_lt (by rw [ha.1]; exact hlt)]⟩
      · rw [Array.getElem?_setIfInBounds_ne q]; exact ha.2 j hj
    · by_cases q : c = i
      · subst q
        exact ⟨_, by rw [Array.getElem?_setIfInBounds_self_of_lt (by rw [ha.1]; exact hlt)]⟩
      · rw [Array.getElem?_setIfInBounds_ne (fun e => q (at_inj hn (by omega) hi e.symm))]
        exact hall c (by omega)
  · rintro m₁ news₁ h tk ⟨hm, arr, rfl, ha, hall⟩ F₁ N₁
    have em : m₁ = (fun y => if y = Str.ofString "card" then m₁ (Str.ofString "card") else if y = Str.ofString "turned" then m₁ (Str.ofString "turned") else m y) := by
      funext y
      by_cases q : y = Str.ofString "card"
      · rw [if_pos q, q]
      · rw [if_neg q]
        by_cases q2 : y = Str.ofString "turned"
        · rw [if_pos q2, q2]
        · rw [if_neg q2]; exact hm y q q2
    rw [em] at F₁
    exact done arr _ _ h tk F₁ N₁ ha hall
end
end Mine

end
section -- part S6
open PySem PySem.W PyProof.Rows PySem.Calls
set_option maxRecDepth 100000
namespace Mine
theorem filledS6 : PySem.Challenge.rw_pg0066_01 = PySem.Challenge.rw_pg0066_01 ∧ Mine.hd.heap_1 = Mine.hd.heap_1 := by
  k_fill
  exact ⟨rfl, rfl⟩
local macro_rules | `(tactic| walk_at "exec For Name Call cons nil") => `(tactic| (k_here; (with_reducible show wpAny _ _ (exec (Stmt.For _ _ _ _ _) _) _ _ _); refine halt ?_))
local macro_rules | `(tactic| walk_at "pyIter ref") => `(tactic| (k_here; refine halt ?_))
local macro_rules | `(tactic| k_all) => `(tactic| assumption)
local macro_rules | `(tactic| walk_at "subscriptTail") => `(tactic| (k_here; (with_reducible show wpAny _ _ (subscriptTail _ _ (Value.ref _) (Value.int _ _)) _ _ _); k_dflt (refine' row_item ?k1 ?k2 ?k3 ?k4 ?_ ?k5; (case k1 => k_asm); (case k2 => k_mem); (case k3 => assumption); (case k4 => omega); (case k5 => with_unfolding_all rfl))))

theorem strs_of : ∀ (l : List Value) (k : Nat) (ys : Nat → Str), (∀ j, j < l.length → ∃ t, l[j]? = some (.str (ys (k + j)) t)) → StrsAre l ((List.range' k l.length).map ys)
  | [], _, _, _ => .nil
  | x :: l, k, ys, h => by
    obtain ⟨t, e⟩ := h 0 (by simp)
    simp only [List.getElem?_cons_zero, Option.some.injEq] at e
    subst e
    exact .cons _ _ (strs_of l (k + 1) ys fun j hj => by
      obtain ⟨t, e⟩ := h (j + 1) (by simpa using hj)
      exact ⟨t, by simpa [Nat.add_comm, Nat.add_left_comm, Nat.add_assoc] using e⟩)
def dueParts (M : Nat) (S : Nat → Nat) : List Str := (List.range 32).map fun j => pic M (S j)
def dueText (M : Nat) (S : Nat → Nat) : Str := Txt.join (Str.ofString "") (dueParts M S)
theorem strs_due {arr : Array Value} {M : Nat} {S : Nat → Nat} (h : arr.size = 32) (ha : ∀ j, j < 32 → ∃ t, arr[j]? = some (.str (pic M (S j)) t)) : StrsAre arr.toList (dueParts M S) := by
  have := strs_of arr.toList 0 (fun j => pic M (S j)) (fun j hj => by
    obtain ⟨t, e⟩ := ha j (by rw [← h]; simpa using hj)
    exact ⟨t, by simpa using e⟩)
  rw [Array.length_toList, h] at this
  rw [dueParts, List.range_eq_range']; exact this
theorem pic_len (M i : Nat) : (pic M i).length ≤ 3 := by
  unfold pic pre fac
  split <;> simp [Str.length]
theorem sum_le : ∀ (l : List Nat) (f : Nat → Str), (∀ x, (f x).length ≤ 3) → ((l.map f).map (·.length)).sum ≤ 3 * l.length
  | [], _, _ => by simp
  | x :: l, f, h => by
    have := sum_le l f h
    have := h x
    simp only [List.map_cons, List.sum_cons, List.length_cons]; omega
theorem due_weight (M : Nat) (S : Nat → Nat) : ((dueParts M S).map (·.length)).sum + (dueParts M S).length ≤ 1048576 := by
  have := sum_le (List.range 32) (fun j => pic M (S j)) (fun j => pic_len M _)
  simp only [dueParts, List.length_map, List.length_range] at this ⊢
  omega
section
variable {prog : Program} {w : World} {A : Around} {E : Value → Shared → Prop} {hp : Heap} {gs : Array GenState} {dr : Drawn} {tk : Nat} {os : OsState} {t u : Tok} {Q : Value → Shared → Prop}
theorem eqE {x y : Int} {bo : Bool} {s : Shared} (e : (x == y) = bo) (h : Q (.bool bo) s) : wpAny (model prog w) A (compareOp .Eq (.int x t) (.int y u)) Q E s := PyProof.Rows.eq_int (by rw [e]; exact h)
theorem powE {i p : Nat} (e : 2 ^ i = p) (hi : i ≤ 1000) (h : Q (.int (p : Int) tk) ⟨hp, gs, dr, tk + 1, os⟩) : wpAny (model prog w) A (binaryOp .Pow (.int 2 t) (.int (i : Int) u)) Q E ⟨hp, gs, dr, tk, os⟩ := by
  subst e
  exact powK (a := 2) (by decide) (by omega) h
theorem mulF {x y z : Nat} (e : x * y = z) (hx : x < 2 ^ 32) (h : Q (.int (z : Int) tk) ⟨hp, gs, dr, tk + 1, os⟩) : wpAny (model prog w) A (binaryOp .Mult (.int (x : Int) t) (.int (y : Int) u)) Q E ⟨hp, gs, dr, tk, os⟩ := by
  subst e
  exact mulE hx h
theorem modF {x y : Int} {q : Nat} (e : x.fmod y = (q : Int)) (hy : y ≠ 0) (h : Q (.int (q : Int) tk) ⟨hp, gs, dr, tk + 1, os⟩) : wpAny (model prog w) A (binaryOp .Mod (.int x t) (.int y u)) Q E ⟨hp, gs, dr, tk, os⟩ :=
  modE e hy h
theorem xorF {x y : Int} {z : Nat} (e : Builtin.bitXor x y = (z : Int)) (h : Q (.int (z : Int) tk) ⟨hp, gs, dr, tk + 1, os⟩) : wpAny (model prog w) A (binaryOp .BitXor (.int x t) (.int y u)) Q E ⟨hp, gs, dr, tk, os⟩ :=
  xorE e h
end
local macro_rules | `(tactic| walk_at "binaryOp Pow int int") => `(tactic| (k_here; k_dflt (refine' powE ?a ?b ?_; (case a => assumption); (case b => omega))))
local macro_rules | `(tactic| walk_at "binaryOp Mod int int") => `(tactic| (k_here; k_dflt (refine' modF ?e ?b ?_; (case e => assumption); (case b => decide))))
local macro_rules | `(tactic| walk_at "binaryOp Mult int int") => `(tactic| (k_here; k_dflt (refine' mulF ?e ?b ?_; (case e => assumption); (case b => omega))))
local macro_rules | `(tactic| walk_at "binaryOp BitXor int int") => `(tactic| (k_here; k_dflt (refine' xorF ?e ?_; (case e => assumption))))
local macro_rules | `(tactic| walk_at "compareOp Eq int int") => `(tactic| (k_here; k_dflt (first | (refine' eqE (bo := true) ?e ?_; (case e => exact beq_iff_eq.mpr (by omega))) | (refine' eqE (bo := false) ?e ?_; (case e => exact beq_eq_false_iff_ne.mpr (by omega))))))
local macro_rules | `(tactic| walk_at "setItem ref int") => `(tactic| (k_here; k_dflt (refine' row_set ?F ?N ?a ?b ?U ?_; (case F => k_asm); (case N => k_asm); (case U => k_upd); (case a => omega); (case b => omega)); intro h' F' N'))
local macro_rules | `(tactic| walk_at "call builtin:str.join") => `(tactic| (k_here; refine halt ?_))
local macro_rules | `(tactic| walk_at "call ref") => `(tactic| (k_here; (with_reducible show wpAny _ _ (call (Value.ref 146) [Value.int _ _, Value.int _ _]) _ _ _); k_dflt (refine' picK ?k1 ?k2 ?k3 ?k4 ?k5 ?hh ?hdp ?hun ?p0 ?_; (case k1 => k_asm); (case k2 => k_asm); (case k3 => k_asm); (case k4 => assumption); (case k5 => k_asm); (case hh => exact rfl); (case hdp => (simp only [depth_deeper]; omega)); (case hun => (simp only [units_deeper]; omega)); (case p0 => assumption)); intro h' tk' tk'' F' N'))

theorem allstr_rep (y : Str) (t : Tok) : AllStr (List.replicate 32 (Value.str y t)).toArray := ⟨List.size_toArray.trans List.length_replicate, fun j hj => ⟨y, t, by rw [List.getElem?_toArray, List.getElem?_replicate, if_pos hj]⟩⟩
set_option maxHeartbeats 4000000 in
theorem due_abs {w : World} {mg mb : Str → Option Value} {A : Around} {h₀ : Heap} {s : Shared} {Q E : Value → Shared → Prop} {M n c : Nat} {tm : Tok} {tl : Addr} {arr : Array Value} {b S : Nat → Nat}
    (G : Ground0 w mg mb h₀) (hk : ∀ b o, h₀.get? b = some o → s.heap.get? b = some o) (htl : s.heap.get? tl = some (listOf arr c)) (htl0 : h₀.get? tl = none) (hsz : arr.size = n) (hn : n ≤ 6) (hb : ∀ j, j < n → b j ≤ 1) (hb2 : ∀ j, j < n → ∃ t, arr[j]? = some (.int ((b j : Nat) : Int) t))
    (hS : ∀ j, j < 32 → S j < 32 ∧ at_ b n (S j) = j)
    (hh : A.handled = none) (hdp : A.depth + 30 < recursionLimit) (hun : A.units + 300 < cLine)
    (hret : ∀ h' (tk tk' : Nat), (∀ b o, s.heap.get? b = some o → h'.get? b = some o) → Q (.str (dueText M S) tk) { s with heap := h', toks := tk' }) :
    wpAny (model PP w) A (call (.ref 167) [.ref tl, .int (M : Int) tm]) Q E s := by
  obtain ⟨hd0, dp, fr, gd, un⟩ := A
  dsimp only at hh hdp hun
  subst hh
  refine wpAny_call ?_
  k_dflt (refine' enter_def (news := [(tl, listOf arr c)]) (binds := [(Str.ofString "turns", .ref tl), (Str.ofString "marks", .int (M : Int) tm)]) G hk ?hn ?k6 ?k7 ?k8 ?k9 ?kB ?_ ?c2 ?c3 ?c4 ?c5; (case k6 => k_is); (case k7 => k_is); (case k8 => (show dp < recursionLimit; omega)); (case k9 => exact BindsTo.of_eq rfl); (case c5 => decide); (case kB => exact locs rfl); (case c2 => exact rfl); (case c3 => exact rfl); (case c4 => exact rfl); k_whole)
  case hn =>
    intro q hq
    rcases List.mem_cons.mp hq with rfl | hq
    · exact ⟨htl, htl0⟩
    · cases hq
  intro g' L' h' F' N' X' T' kp hgs Y'
  try dsimp only
  try k_fold
  k_steps
  show wpAny _ _ (exec _ _) _ _ _
  refine wpAny_For ?_
  k_steps
  show wpAny _ _ (pyIter _) _ _ _
  k_dflt (refine' moved_loop (b := b) (n := n) ?q1 ?q2 ?q3 ?q4 ?q5 ?q7 ?q6 hn ?turn ?done; (case q1 => exact rfl); (case q2 => exact rfl); (case q3 => exact rfl); (case q4 => k_asm); (case q5 => k_asm); (case q6 => assumption); (case q7 => exact rfl))
  case turn =>
    intro i it h tk t' tv hi hne F9 N9
    simp only [AllNe, and_true] at hne
    have hbi := hb i hi
    obtain ⟨ti, ei⟩ := hb2 i hi
    have e1 : ((n : Int) - 1 - (i : Int)).fmod 5 = (((n - 1 - i) % 5 : Nat) : Int) := by
      rw [Int.fmod_eq_emod_of_nonneg _ (by omega)]; omega
    have e2 : Builtin.bitXor ((mvd b n i : Nat) : Int) ((b i * 2 ^ ((n - 1 - i) % 5) : Nat) : Int) = ((mvd b n (i + 1) : Nat) : Int) :=
      xor32 (mvd_lt i fun j hj => hb j (by omega)) (term_lt hbi)
    obtain ⟨q, hq⟩ : ∃ q, (n - 1 - i) % 5 = q := ⟨_, rfl⟩
    have hq5 : q < 5 := by omega
    rw [hq] at e1 e2
    obtain ⟨p, hp⟩ : ∃ p, 2 ^ q = p := ⟨_, rfl⟩
    rw [hp] at e2
    obtain ⟨z, hz⟩ : ∃ z, b i * p = z := ⟨_, rfl⟩
    rw [hz] at e2
    generalize mvd b n i = x1 at *
    generalize mvd b n (i + 1) = x2 at *
    generalize b i = bi at *
    clear hq hS hb hb2
    try k_fold
    k_steps
    rename Fr _ _ _ _ => F5
    exact ⟨rfl, _, _, _, _, rfl, F5, by k_asm, rfl, fun y a b => by simp only [if_neg a, if_neg b]⟩
  case done =>
    intro o1 tv h tk F9 N9
    k_steps
    show wpAny _ _ (exec _ _) _ _ _
    refine wpAny_For ?_
    k_steps
    show wpAny _ _ (pyIter _) _ _ _
    k_dflt (refine' row_loop (M := M) (b := b) (n := n) ?q1 ?q2 ?q3 ?q4 ?q5 ?q7 hn hb ?q6 ?turn ?done; (case q1 => exact rfl); (case q2 => exact rfl); (case q3 => exact rfl); (case q4 => k_asm); (case q5 => k_asm); (case q6 => assumption); (case q7 => exact allstr_rep _ _))
    case turn =>
      intro i it h arr2 tk t' o1 hi hs2 hne F9 N9
      simp only [AllNe, and_true] at hne
      have hpl := at_lt (c := i) hb
      have hpl2 : at_ b n i < arr2.size := by omega
      have hmv := mvd_lt (b := b) (n := n) n hb
      obtain ⟨p, hp⟩ : ∃ p, 2 ^ n = p := ⟨_, rfl⟩
      obtain ⟨z, hz⟩ : ∃ z, i * p = z := ⟨_, rfl⟩
      obtain ⟨q, hq⟩ : ∃ q, z % 31 = q := ⟨_, rfl⟩
      have e1 : ((z : Nat) : Int).fmod 31 = (q : Int) := by rw [Int.fmod_eq_emod_of_nonneg _ (by omega)]; omega
      rcases (show i = 31 ∨ i ≠ 31 by omega) with h31 | h31
      · have e2 : Builtin.bitXor 31 ((mvd b n n : Nat) : Int) = ((at_ b n i : Nat) : Int) := by
          rw [at_, tr, if_pos h31]; exact xor32 (x := 31) (by omega) hmv
        generalize mvd b n n = mv at *
        generalize at_ b n i = pos at *
        clear hS hb hb2 hq
        try k_fold
        k_steps
        all_goals first
          | (exfalso; omega)
          | (rename Fr _ _ _ _ => F5; exact ⟨rfl, _, _, _, _, rfl, F5, by k_asm, fun y a b => by simp only [if_neg a, if_neg b]⟩)
      · have e2 : Builtin.bitXor ((q : Nat) : Int) ((mvd b n n : Nat) : Int) = ((at_ b n i : Nat) : Int) := by
          rw [at_, tr, if_neg h31, hp, hz, hq]; exact xor32 (by omega) hmv
        generalize mvd b n n = mv at *
        generalize at_ b n i = pos at *
        clear hS hb hb2 hq
        try k_fold
        k_steps
        all_goals first
          | (exfalso; omega)
          | (rename Fr _ _ _ _ => F5; exact ⟨rfl, _, _, _, _, rfl, F5, by k_asm, fun y a b => by simp only [if_neg a, if_neg b]⟩)
    case done =>
      intro arr2 o1 o2 h tk F9 N9 ha hall
      k_steps
      show wpAny _ _ (call _ _) _ _ _
      refine join_listW (ys := dueParts M S) (News.isList N9 (.head _)) (strs_due ha.1 fun j hj => ?_) (by decide +kernel) (due_weight M S) fun t' k => ?_
      · obtain ⟨h1, h2⟩ := hS j hj
        obtain ⟨tv, e⟩ := hall (S j) h1
        rw [h2] at e
        exact ⟨tv, e⟩
      · k_steps
        refine hret h t' k fun b' o e => ?_
        by_cases q : b' = tl
        · subst q
          rw [htl] at e
          rw [← e]
          exact (N9 _ (.tail _ (.tail _ (.head _)))).1
        · exact F9.keep b' o (kp b' o e (by simpa using q))
end Mine

end
section -- part S7
open PySem PySem.W PyProof.Rows PySem.Calls
set_option maxRecDepth 100000
namespace Mine
theorem filledS7 : PySem.Challenge.rw_pg0066_01 = PySem.Challenge.rw_pg0066_01 ∧ Mine.hd.heap_1 = Mine.hd.heap_1 := by
  k_fill
  exact ⟨rfl, rfl⟩
local macro_rules | `(tactic| walk_at "call ref") => `(tactic| (k_here; (with_reducible show wpAny _ _ (call (Value.ref 28) [Value.int _ _]) _ _ _); k_dflt (refine' ctoiIK ?k1 ?k2 ?k3 ?k4 ?k5 ?hh ?hdp ?hun  ?_; (case k1 => k_asm); (case k2 => k_asm); (case k3 => k_asm); (case k4 => assumption); (case k5 => k_asm); (case hh => exact rfl); (case hdp => (simp only [depth_deeper]; omega)); (case hun => (simp only [units_deeper]; omega))); intro h' tk' tk'' F' N'))

theorem and31I {c r : Int} (e : c % 32 = r) : Builtin.bitAnd c 31 = r := by rw [bitAnd_m5]; exact e
local macro_rules | `(tactic| walk_at "binaryOp BitAnd int int") => `(tactic| (k_here; k_dflt (refine' andK ?e ?_; (case e => exact and31I (by assumption)))))

set_option maxHeartbeats 8000000 in
theorem ctrlI_abs {w : World} {mg mb : Str → Option Value} {A : Around} {h₀ : Heap} {s : Shared} {Q E : Value → Shared → Prop} {c r : Int} {ts : Tok}
    (G : Ground0 w mg mb h₀) (hk : ∀ b o, h₀.get? b = some o → s.heap.get? b = some o) (hh : A.handled = none) (hdp : A.depth + 20 < recursionLimit) (hun : A.units + 200 < cLine) (e : c % 32 = r)
    (hret : ∀ h' (tk tk' : Nat), (∀ b o, s.heap.get? b = some o → h'.get? b = some o) → Q (.int r tk) { s with heap := h', toks := tk' }) :
    wpAny (model PP w) A (call (.ref 42) [.int c ts]) Q E s := by
  obtain ⟨hd0, dp, fr, gd, un⟩ := A
  dsimp only at hh hdp hun
  subst hh
  refine wpAny_call ?_
  k_dflt (refine' enter_def (news := []) (binds := [(Str.ofString "c", .int c ts)]) G hk ?hn ?k6 ?k7 ?k8 ?k9 ?kB ?_ ?c2 ?c3 ?c4 ?c5; (case k6 => k_is); (case k7 => k_is); (case k8 => (show dp < recursionLimit; omega)); (case k9 => exact BindsTo.of_eq rfl); (case c5 => decide); (case kB => exact locs rfl); (case c2 => exact rfl); (case c3 => exact rfl); (case c4 => exact rfl); k_whole)
  case hn => (intro q hq; cases hq)
  intro g' L' h' F' N' X' T' kp hgs Y'
  try dsimp only
  try k_fold
  k_steps
  exact hret _ _ _ (kept_all (by k_asm) kp)
theorem ctrlIK {w : World} {mg mb : Str → Option Value} {A : Around} {h₀ : Heap} {s : Shared} {Q E : Value → Shared → Prop} {L : Addr} {m : Str → Option Value} {news : List (Addr × Obj)} {c r : Int} {ts : Tok}
    (F : Fr h₀ L s.heap m) (X₀ : (Mine.hd.heap_1 w.params).In h₀) (T₀ : TopRead VV LL mg mb h₀) (Y₀ : KIn w h₀) (N : News h₀ L s.heap news) (hh : A.handled = none) (hdp : A.depth + 20 < recursionLimit) (hun : A.units + 200 < cLine) (e : c % 32 = r)
    (h : ∀ h' (tk tk' : Nat), Fr h₀ L h' m → News h₀ L h' news → Q (.int r tk) { s with heap := h', toks := tk' }) :
    wpAny (model PP w) A (call (.ref 42) [.int c ts]) Q E s :=
  ctrlI_abs ⟨X₀, T₀, Y₀⟩ F.keep hh hdp hun e fun h' tk tk' k => h h' tk tk' (kept_fr F k) (kept_news N k)
end Mine

end
section -- part U1
open PySem PySem.W PyProof.Rows PySem.Calls
set_option maxRecDepth 100000
namespace Mine
/-- an object that bears a row of values, whatever its class -/
def IsRow (h : Heap) (a : Addr) (items : Array Value) : Prop := ∃ o n, h.get? a = some o ∧ o.data = .seq items n
theorem IsRow.at {h h' : Heap} {a : Addr} {items : Array Value} (r : IsRow h a items) (k : ∀ o, h.get? a = some o → h'.get? a = some o) : IsRow h' a items :=
  let ⟨o, n, e, d⟩ := r; ⟨o, n, k o e, d⟩
theorem IsRow.deck {h : Heap} {d dd : Addr} {its : Array Value} {n : Nat} (e : h.get? d = some (deckObj dd its n)) : IsRow h d its := ⟨_, _, e, rfl⟩
section
variable {prog : Program} {w : World} {A : Around} {E : Value → Shared → Prop} {s : Shared}
theorem next_item {it l : Addr} {i : Nat} {items : Array Value} {x : Value} {Q : Option Value → Shared → Prop} (hit : s.heap.IsListIter it l i) (hl : IsRow s.heap l items) (hx : items[i]? = some x)
    (hQ : ∀ h', h'.IsListIter it l (i + 1) → Heap.SameBut it s.heap h' → Q (some x) { s with heap := h' }) : wpAny (model prog w) A (pyNext (.ref it)) Q E s := by
  obtain ⟨o, ho, hc, hd⟩ := id hit
  obtain ⟨ol, nl, hol, hdl⟩ := hl
  unfold pyNext
  refine wpAny_bind (wpAny_attempt (wpAny_callSpecial?_slot (name := Str.ofString "__next__") hit.typeIs slot_listiter_next
    (wpAny_call_entry slot_listiter_next hit.typeIs entry_listiter_next ?_ (args_listiter_next _))))
  show wpAny _ _ (field (.ref it) 0 >>= _) _ _ s
  refine wpAny_bind (wpAny_field ho hd (x := .ref l) rfl ?_)
  show wpAny _ _ (if (Value.ref l == Value.none) = true then _ else _) _ _ s
  rw [if_neg (show ¬ ((Value.ref l == Value.none) = true) from Bool.false_ne_true)]
  refine wpAny_bind (wpAny_field ho hd (x := .int i 0) rfl ?_)
  refine wpAny_bind (wpAny_seqItems hol hdl ?_)
  simp only [Int.toNat_natCast, hx]
  refine wpAny_bind (wpAny_setField ho hd (by simp) (wpAny_pure ⟨x, rfl, wpAny_pure (hQ _ ?_ (Heap.SameBut.update ..))⟩))
  exact ⟨_, Heap.get?_update_self _ ho (Obj.isFreed_of_fields (Obj.data_mapFields hd _)), (Obj.cls_mapFields ..).trans hc, by
    rw [Obj.data_mapFields hd]; simp [rawInt]⟩
theorem next_end {it l : Addr} {i : Nat} {items : Array Value} {Q : Option Value → Shared → Prop} (hh : A.handled = none)
    (hit : s.heap.IsListIter it l i) (hl : IsRow s.heap l items) (hx : items[i]? = none)
    (hQ : ∀ h', Heap.ExtBut it s.heap h' → Q none { s with heap := h' }) : wpAny (model prog w) A (pyNext (.ref it)) Q E s := by
  obtain ⟨o, ho, hc, hd⟩ := id hit
  obtain ⟨ol, nl, hol, hdl⟩ := hl
  unfold pyNext
  refine wpAny_bind (wpAny_attempt (wpAny_callSpecial?_slot (name := Str.ofString "__next__") hit.typeIs slot_listiter_next
    (wpAny_call_entry slot_listiter_next hit.typeIs entry_listiter_next ?_ (args_listiter_next _))))
  show wpAny _ _ (field (.ref it) 0 >>= _) _ _ s
  refine wpAny_bind (wpAny_field ho hd (x := .ref l) rfl ?_)
  show wpAny _ _ (if (Value.ref l == Value.none) = true then _ else _) _ _ s
  rw [if_neg (show ¬ ((Value.ref l == Value.none) = true) from Bool.false_ne_true)]
  refine wpAny_bind (wpAny_field ho hd (x := .int i 0) rfl ?_)
  refine wpAny_bind (wpAny_seqItems hol hdl ?_)
  simp only [Int.toNat_natCast, hx]
  refine wpAny_bind (wpAny_rule (wpAny_bind (wpAny_setField ho hd (by simp) ?_)))
  show wpAny _ _ (newExc (.type "StopIteration") [] >>= _) _ _ _
  refine wpAny_bind ?_
  simp only [newExc, newTuple]
  refine wpAny_bind (wpAny_newObj_type ?_ (by size_fits))
  refine wpAny_bind (m := firstArgMember _ _) (wpAny_of_eq (a := Value.none) (by first | rfl | (simp only [firstArgMember]; rfl)) ?_)
  refine wpAny_newObj_type ?_ (by size_fits)
  simp only [raiseNew]
  refine wpAny_bind (wpAny_handled ?_)
  rw [show A.in1.handled = none from hh]
  refine wpAny_bind (wpAny_pure (wpAny_throw ?_))
  refine wpAny_bind (wpAny_isInstance (T := "StopIteration") (b := true) ⟨_, Heap.get?_push_size _ rfl, rfl⟩ isSubtype_stop ?_)
  exact wpAny_pure (hQ _ (((Heap.SameBut.update ..).extBut.push _).push _))
/-- a walk over an object that bears a row of pairs -/
theorem walksU_row (hh : A.handled = none) (I ax : Addr) (hne : ax ≠ I) (items : Array Value) (Ts : Nat → Addr) (vals : Nat → Array Value)
    (hit : ∀ j, j < items.size → items[j]? = some (.ref (Ts j))) (hTI : ∀ j, j < items.size → Ts j ≠ I) :
    WalksU prog w A I (I :: ax :: (List.range items.size).map Ts) [I] items.size (fun j v => v = vals j)
      (fun j h => h.IsListIter I ax j ∧ IsRow h ax items ∧ ∀ k, k < items.size → h.IsTuple (Ts k) (vals k))
      (fun j T h => (j < items.size ∧ T = Ts j) ∧ h.IsListIter I ax (j + 1) ∧ IsRow h ax items ∧ ∀ k, k < items.size → h.IsTuple (Ts k) (vals k)) where
  sub := fun b hb => by simp at hb; simp [hb]
  frame := fun _ _ _ st hk => ⟨st.1.at fun o e => hk I (by simp) o e, st.2.1.at fun o e => hk ax (by simp) o e,
    fun k hk' => (st.2.2 k hk').at fun o e => hk (Ts k) (List.mem_cons_of_mem _ (List.mem_cons_of_mem _ (List.mem_map.mpr ⟨k, List.mem_range.mpr hk', rfl⟩))) o e⟩
  item := fun i s Q E hi st hQ => by
    refine next_item st.1 st.2.1 (x := .ref (Ts i)) (hit i hi) fun h' hit' hs' => ?_
    have tup : ∀ k, k < items.size → h'.IsTuple (Ts k) (vals k) := fun k hk' => (st.2.2 k hk').extBut hs'.extBut (hTI k hk')
    exact hQ (Ts i) (vals i) h' s.toks rfl (tup i hi) ⟨⟨hi, rfl⟩, hit', st.2.1.at fun o e => hs'.extBut _ o hne e, tup⟩ fun b o hb e => hs'.extBut b o (fun h => hb (by simp [h])) e
  go := fun _ _ _ _ _ s Q _ hm hQ => wpAny_letOwnedTupleGo_listiter hm.2.1 (hQ s.heap hm.2 fun _ _ _ e => e)
  apart := fun j T _ hm hmem => by
    rcases List.mem_cons.mp hmem with e | e
    · exact hTI j hm.1.1 (hm.1.2 ▸ e)
    · cases e
  done := fun s Q E st hQ => next_end hh st.1 st.2.1 (by simp) fun h' he' => hQ h' s.toks fun b o hb e => he' b o (fun h => hb (by simp [h])) e
  self := fun _ _ _ _ st hQ => wpAny_pyIter_listiter st.1 hQ
theorem walks_row (hh : A.handled = none) (I ax : Addr) (hne : ax ≠ I) (items : Array Value) :
    Walks prog w A I [I, ax] [I] items.size (fun j v => items[j]? = some v) (fun j h => h.IsListIter I ax j ∧ IsRow h ax items) where
  sub := fun b hb => by simp at hb; simp [hb]
  frame := fun _ _ _ st hk => ⟨st.1.at fun o e => hk I (by simp) o e, st.2.at fun o e => hk ax (by simp) o e⟩
  item := fun i s Q E hi st hQ => by
    refine next_item st.1 st.2 (x := items[i]) (by simp [hi]) fun h' hit' hs' => ?_
    exact hQ _ h' s.toks (by simp [hi]) ⟨hit', st.2.at fun o e => hs'.extBut _ o hne e⟩ fun b o hb e => hs'.extBut b o (fun h => hb (by simp [h])) e
  done := fun s Q E st hQ => next_end hh st.1 st.2 (by simp) fun h' he' => hQ h' s.toks fun b o hb e => he' b o (fun h => hb (by simp [h])) e
  self := fun _ _ _ _ st hQ => wpAny_pyIter_listiter st.1 hQ
end
theorem split_iter : splitId "list.__iter__" = some ("list", "__iter__") := by decide +kernel
theorem kind_iter : (Manifest.find? "list").bind (·.attrs.lookup "__iter__") = some .slot ∨ (Manifest.find? "list").bind (·.attrs.lookup "__iter__") = some .method := by
  first | exact .inl (by decide +kernel) | exact .inr (by decide +kernel)
section
variable {w : World} {A : Around} {E : Value → Shared → Prop} {s : Shared} {d dd : Addr} {its : Array Value} {n : Nat} {od : Obj}
theorem deck_iter {Q : Value → Shared → Prop} (X : (Mine.hd.heap_1 w.params).In s.heap) (h1 : s.heap.get? d = some (deckObj dd its n)) (h2 : s.heap.get? dd = some od)
    (hQ : Q (.ref s.heap.objs.size) { s with heap := s.heap.push { cls := .type "list_iterator", data := .fields #[.ref d, .int 0 0] } }) :
    wpAny (model PP w) A (pyIter (.ref d)) Q E s := by
  have hf : findIn (Mine.hd.heap_1 w.params) (.ref 135) "__iter__" = some (some (.builtin "list.__iter__")) := by kernel_rfl
  have hc : wpAny (model PP w) A (call (.builtin "list.__iter__") [.ref d]) (fun v s' => wpAny (model PP w) A (specialOf v "__next__") (fun r s'' => r = some (.builtin "list_iterator.__next__") ∧ Q v s'') E s') E s := by
    refine call_sub X (inst_deck h1 h2) split_iter kind_iter (mro_deck w) (args_list_iter _) (by decide +kernel) entry_list_iter ?_
    show wpAny _ _ (do ret (← newFields "list_iterator" [.ref d, rawInt 0])) _ _ s
    exact wpAny_bind (wpAny_newObj_type (wpAny_pure ⟨_, rfl, wpAny_specialOf (T := "list_iterator") ⟨_, Heap.get?_push_size _ rfl, rfl⟩ slot_listiter_next.lookup ⟨rfl, hQ⟩⟩))
  unfold pyIter
  refine wpAny_bind (special_deck X h1 h2 hf ?_)
  show wpAny _ A (callSpecialIfBoundUnlessNone? (.ref d) "__iter__" _ >>= _) Q E s
  refine wpAny_bind ?_
  simp only [callSpecialIfBoundUnlessNone?, bindSpecialIfBound?]
  refine wpAny_holding (wpAny_bind (wpAny_bind (special_deck X h1 h2 hf ?_)))
  simp only [slot_list_iter.bind]
  refine wpAny_bind (wpAny_askSetting (wpAny_ite ?_))
  have fin : ∀ (refuse : Sem Value), wpAny (model PP w) A (if (Value.builtin "list.__iter__" == Value.none) = true then (refuse >>= fun v => pure (some v)) else (call (.builtin "list.__iter__") [.ref d] >>= fun v => pure (some v)))
      (fun v s' => wpAny (model PP w) A (match v with
        | some it => do
          match ← specialOf it "__next__" with
          | none => rule "iter.non-iterator"; raiseError "TypeError" s!"iter() returned non-iterator of type '{← typeNameOf it}'"
          | some _ => pure it
        | none => do
          match ← bindSpecialIfBound? (.ref d) "__getitem__" with
          | none => rule "iter.not-iterable"; raiseError "TypeError" s!"'{← typeNameOf (.ref d)}' object is not iterable"
          | some _ => rule "iter.getitem-fallback"; newFields "iterator" [.ref d, ← mkInt 0]) Q E s') E s := by
    intro refuse
    simp only [builtin_beq_none, Bool.false_eq_true, if_false]
    refine wpAny_bind (wpAny_mono hc (fun v s' h' => wpAny_pure ?_) fun _ _ h' => h')
    refine wpAny_bind (wpAny_mono h' (fun r s'' h'' => ?_) fun _ _ h' => h')
    obtain ⟨rfl, h''⟩ := h''
    exact wpAny_pure h''
  split
  · exact wpAny_bind (wpAny_pure (wpAny_pure (fin _)))
  · exact wpAny_tryCatch (wpAny_bind (wpAny_pure (wpAny_pure (fin _))))
end
end Mine

end
section -- part U2
open PySem PySem.W PyProof.Rows PySem.Calls
set_option maxRecDepth 100000
namespace Mine
/-- a code table -/
abbrev tabObj (ps : Array Value) : Obj := { cls := .none, data := .fields ps }
theorem KIn.four {w : World} {h : Heap} (Y : KIn w h) : h.get? 4 = some ⟨.type "module", some 0, .plain, #[]⟩ := Y.out 4 _ (by kernel_rfl)
theorem mg_builtins {w : World} {h : Heap} {mg : Str → Option Value} (X : (Mine.hd.heap_1 w.params).In h) (T : h.Ns mainGlobals mg) : mg "__builtins__" = some (.ref 4) := mg_of X T (by kernel_rfl)
def codeOk (o : Obj) (P : Addr) : Bool := o.cls == .type "code" && (match o.data with
  | .fields vs => vs[11]? == some (.ref P) && vs.getD 11 .none == .ref P && (match vs.getD 18 .none, vs.getD 7 .none, vs.getD 9 .none, vs.getD 10 .none with
    | .str _ _, .int _ _, .bool _, .int _ _ => true
    | _, _, _, _ => false)
  | _ => false)
theorem code_of {h : Heap} {c P : Addr} {o : Obj} {ps : Array Value} (ho : h.get? c = some o) (hc : codeOk o P = true) (hP : h.get? P = some (tabObj ps)) (htr : TriplesOk ps.toList) (hne : c ≠ P) : h.IsCode c P ps ∧ h.TableAt c P ps := by
  unfold codeOk at hc
  obtain ⟨c1, c2⟩ := Bool.and_eq_true_iff.mp hc
  split at c2
  · rename_i vs hd
    obtain ⟨c3, c4⟩ := Bool.and_eq_true_iff.mp c2
    obtain ⟨c5, c6⟩ := Bool.and_eq_true_iff.mp c3
    have e11 := beq_iff_eq.mp c5
    have e11' := beq_iff_eq.mp c6
    have ecls := beq_iff_eq.mp c1
    split at c4
    · rename_i a b d e f g e18 e7 e9 e10
      exact ⟨⟨o, vs, _, _, _, _, _, _, _, _, ho, hd, e11', e18, e7, e9, e10, hP, rfl, htr, hne⟩, ⟨⟨o, vs, ho, ecls, hd, e11⟩, hP⟩⟩
    · cases c4
  · cases c2
theorem refs_fun {h : Heap} {its : Array Value} {k : Nat} {f p : Nat → Value} (R : Refs h its k f p) : ∃ Ts : Nat → Addr, ∀ i, i < k → its[i]? = some (.ref (Ts i)) ∧ h.get? (Ts i) = some (tupObj (f i) (p i)) := by
  classical
  refine ⟨fun i => if q : i < k then Classical.choose (R.2 i q) else 0, fun i q => ?_⟩
  simp only [dif_pos q]
  exact Classical.choose_spec (R.2 i q)
section
variable {w : World} {A : Around} {E : Value → Shared → Prop} {s : Shared} {d dd c P : Addr} {its : Array Value} {n : Nat} {od : Obj} {f p : Nat → Value} {mg : Str → Option Value}
theorem gen_deck {env : Env} {elt iter : Expr} {xa xb : Str} {pa pb pt : Pos} {kt : Nat} {scope : Scope} {cl : List (Str × Addr)} {pos : Pos} {Q : Value → Shared → Prop} (Fv : Nat → Value → Prop)
    (hev : ∀ Q' : Value → Shared → Prop, Q' (.ref d) s → wpAny (model PP w) A (eval iter env) Q' E s)
    (X : (Mine.hd.heap_1 w.params).In s.heap) (Y : KIn w s.heap) (T : s.heap.Ns mainGlobals mg) (hnl : s.heap.NoLimit) (h1 : s.heap.get? d = some (deckObj dd its n)) (h2 : s.heap.get? dd = some od)
    (hcode : env.code = .ref c) (hc : s.heap.IsCode c P #[]) (ht : s.heap.TableAt c P #[]) (hP : P ≠ cStatics) (hP2 : P ≠ mainGlobals) (hP3 : P ≠ 4) (hg : env.globals = mainGlobals)
    (hR : Refs s.heap its 32 f p) (hb : AllBare s.gens)
    (hh : A.handled = none) (hco : scope.isCoroutine = false) (hclos : closureFor scope env = pure cl) (hcell : ∀ y ∈ scope.names, y.2 ≠ .cell) (h0 : scope.names.lookup (".0" : Str) = some NameKind.local)
    (hxa : scope.names.lookup xa = some .local) (hxb : scope.names.lookup xb = some .local) (hab : xa ≠ xb) (hkind : scope.kind = .function) (hroom : A.depth < recursionLimit)
    (hq : ∀ (L' : Addr) (code : Value) (A' : Around) (i : Nat) (s₂ : Shared) (m₂ : Str → Option Value), A'.handled = none → A'.depth ≤ A.depth + 1 → A'.units ≤ A.units + 8 → i < 32 → s.heap.objs.size ≤ L' → s₂.heap.Ns L' m₂ → m₂ xa = some (f i) → m₂ xb = some (p i) →
      (∀ b o, b ≠ P → s.heap.get? b = some o → s₂.heap.get? b = some o) →
      wpAny (model PP w) A' (eval elt (genEnv scope cl L' code builtinsNs env)) (fun y s₃ => Fv i y ∧ Keeps s₂ s₃) (fun _ _ => False) s₂)
    (hQ : ∀ (a : Addr) (s₅ : Shared) (ps : Array Value), AllBare s₅.gens → s₅.os = s.os → (∀ b o, b ≠ P → s.heap.get? b = some o → s₅.heap.get? b = some o) → s₅.heap.get? P = some (tabObj ps) →
      Gen PP w A (s.heap.objs.size - 1) a 32 Fv s₅ → Q (.ref a) s₅)
    (hs : ∀ x, genFold iter env x = pure x) :
    wpAny (model PP w) A (eval (.GeneratorExp elt [⟨.Tuple [.Name xa pa, .Name xb pb] kt pt, iter, [], 0⟩] scope pos) env) Q E s := by
  refine wpAny_GeneratorExp_walksQTD hh hco hclos hcell h0 hxa hxb hab hkind hroom (hev _ (deck_iter X h1 h2 ?_)) hs
  have hk0 : ∀ b o, s.heap.get? b = some o → (s.heap.push { cls := .type "list_iterator", data := .fields #[.ref d, .int 0 0] }).get? b = some o := fun _ _ e => Heap.get?_push_of_some _ e
  have hI := Heap.get?_push_size (h := s.heap) (o := { cls := .type "list_iterator", data := .fields #[.ref d, .int 0 0] }) rfl
  have hsz0 : (s.heap.push { cls := .type "list_iterator", data := .fields #[.ref d, .int 0 0] }).objs.size = s.heap.objs.size + 1 := Heap.size_push ..
  have hnl0 : (s.heap.push { cls := .type "list_iterator", data := .fields #[.ref d, .int 0 0] }).NoLimit := hnl.keeps hk0
  refine ⟨hnl0, ?_⟩
  generalize hH : s.heap.push { cls := .type "list_iterator", data := .fields #[.ref d, .int 0 0] } = H at *
  refine wpAny_genexprCodeX (s := { s with heap := H }) hcode (hc.keeps hk0) (ht.keeps hk0) rfl fun c' h₃ tk₃ hx₃ hge hlt hcode₃ _ htab₃ _ => ?_
  replace hx₃ : Heap.ExtBut P H h₃ := hx₃
  have hsz : H.objs.size ≤ h₃.objs.size := Nat.le_trans hge (Nat.le_of_lt hlt)
  have hk3 : ∀ b o, b ≠ P → s.heap.get? b = some o → h₃.get? b = some o := fun b o hb e => hx₃ b o hb (hk0 b o e)
  have T3 : h₃.Ns env.globals mg := by
    rw [hg]; exact T.at' fun o e => hk3 _ o (Ne.symm hP2) e
  have hPlt : P < s.heap.objs.size := hc.lt.2
  refine wpAny_builtinsFor (s := { s with heap := h₃, toks := tk₃ }) T3 (mg_builtins X T) (by decide) (hk3 _ _ (Ne.symm hP3) (KIn.four Y)) rfl rfl rfl ?_
  have hdlt : d < s.heap.objs.size := Heap.lt_size h1
  have hdP : d ≠ P := fun e => by rw [e, ht.2] at h1; cases h1
  have hnl3 : h₃.NoLimit := hnl0.extBut hx₃ (Ne.symm hP)
  obtain ⟨Ts, hTs⟩ := refs_fun hR
  have hsize : its.size = 32 := hR.1
  have hTlt : ∀ j, j < 32 → Ts j < s.heap.objs.size := fun j hj => Heap.lt_size (hTs j hj).2
  have hTP : ∀ j, j < 32 → Ts j ≠ P := fun j hj e => by have := (hTs j hj).2; rw [e, ht.2] at this; cases this
  have hps : passing (fun _ => true) 32 0 = List.range 32 := by decide
  have h03 : s.heap.objs.size < h₃.objs.size := by rw [hsz0] at hsz; exact hsz
  refine ⟨s.heap.objs.size, s.heap.objs.size :: d :: (List.range its.size).map Ts, [s.heap.objs.size], its.size, _, _, _, (fun _ => true), Fv, rfl,
    (fun A' hA => (walksU_row hA _ d (Nat.ne_of_lt hdlt) its Ts (fun j => #[f j, p j]) (fun j hj => (hTs j (hsize ▸ hj)).1) (fun j hj => Nat.ne_of_lt (hTlt j (hsize ▸ hj)))).bound), ?_, ?_, ?_, hnl3, ?_, ?_, ?_⟩
  · rintro i vals ⟨_, rfl⟩; exact ⟨_, _, rfl⟩
  · refine ⟨⟨_, hx₃ _ _ (Nat.ne_of_gt hPlt) hI, rfl, rfl⟩, ⟨_, _, hk3 _ _ hdP h1, rfl⟩, fun k hk => ⟨_, hk3 _ _ (hTP k (hsize ▸ hk)) (hTs k (hsize ▸ hk)).2, rfl, _, rfl⟩⟩
  · intro b hb
    show b < h₃.objs.size
    rcases List.mem_cons.mp hb with rfl | hb
    · exact h03
    · rcases List.mem_cons.mp hb with rfl | hb
      · exact Nat.lt_trans hdlt h03
      · obtain ⟨j, hj, rfl⟩ := List.mem_map.mp hb
        exact Nat.lt_trans (hTlt j (hsize ▸ List.mem_range.mp hj)) h03
  · intro hm
    rcases List.mem_cons.mp hm with e | hb
    · have hcl : cStatics < s.heap.objs.size := let ⟨_, hn, _⟩ := hnl; hn.lt
      exact absurd (e ▸ hcl) (Nat.lt_irrefl _)
    · cases hb
  · intro href hhref
    refine ⟨fun A' E' i va vb s₂ m₂ hA hD hU hPt hn ha hb' hkp => ?_, fun A' E' i va vb s₂ m₂ hA hD hU hPt hpz hn ha hb' hkp => ?_⟩
    · show wpAny _ _ (pure true) _ _ _
      exact wpAny_pure ⟨rfl, s₂.heap, s₂.toks, rfl, fun _ _ e => e⟩
    · obtain ⟨hi, hPt⟩ := hPt
      have e1 : va = f i := by have := congrArg (·[0]?) hPt; simpa using this
      have e2 : vb = p i := by have := congrArg (·[1]?) hPt; simpa using this
      subst e1 e2
      refine wpAny_mono (hq h₃.objs.size (.ref c') A' i s₂ m₂ hA hD hU (hsize ▸ hi) (by omega) hn ha hb' fun b o hbP e => ?_) (fun _ _ z => z) fun _ _ z => z.elim
      have hb1 : b < s.heap.objs.size := Heap.lt_size e
      exact hkp b (List.mem_range.mpr (Nat.lt_trans hb1 h03)) (fun hm => by
        rcases List.mem_cons.mp hm with e' | e'
        · exact absurd (e' ▸ hb1) (Nat.lt_irrefl _)
        · cases e') o (hhref b o (hk3 b o hbP e))
  · intro a h₅ tk gs hgb hag hsz₅ hk₅ W hat
    replace hag : h₃.objs.size < a := hag
    have e32 : passing (fun _ => true) its.size 0 = List.range 32 := by rw [hsize]; exact hps
    rw [e32] at W
    refine hQ a _ _ (hb.push hgb) rfl (fun b o hbP e => hk₅ b o (hk3 b o hbP e)) (hk₅ _ _ htab₃.2) ?_
    have W2 := W
    rw [List.length_range] at W2
    have W3 : WalksS PP w A.in4 a _ _ _ 32 Fv _ :=
        { sub := W2.sub, grefl := W2.grefl, gtrans := W2.gtrans, frame := W2.frame, done := W2.done, self := W2.self
          item := fun i s Q E hi st hQ => W2.item i s Q E hi st fun v s' hP => hQ v s' (by
            obtain ⟨j, hj, hF⟩ := hP
            have e : i = j := by
              rw [List.getElem?_range hi] at hj
              exact Option.some.inj hj
            exact e ▸ hF) }
    refine ⟨_, _, _, _, W3, hat, fun i s' st => st.1.typeIs, List.mem_cons_self, ?_, ?_⟩
    · intro b hb
      show b < h₅.objs.size
      rw [hsz₅]
      rcases List.mem_cons.mp hb with rfl | hb
      · exact Nat.lt_succ_self _
      · rcases List.mem_cons.mp hb with rfl | hb
        · exact Nat.lt_succ_of_lt hag
        · exact Nat.lt_succ_of_lt (Nat.lt_trans (List.mem_range.mp hb) hag)
    · intro b hb
      rcases List.mem_cons.mp hb with rfl | hb
      · show s.heap.objs.size - 1 < h₃.objs.size; omega
      · rcases List.mem_cons.mp hb with rfl | hb
        · exact Nat.sub_lt (Nat.lt_of_le_of_lt (Nat.zero_le _) hdlt) Nat.one_pos
        · cases hb
end
section
variable {prog : Program} {w : World} {A : Around} {E : Value → Shared → Prop} {s : Shared}
/-- a walk with one turn ahead of it -/
theorem walks_shift {I : Addr} {fp wr : List Addr} {G : Array GenState → Array GenState → Prop} {n : Nat} {P : Nat → Value → Prop} {St : Nat → Shared → Prop} (W : WalksS prog w A I fp wr G n P St) :
    WalksS prog w A I fp wr G (n + 1) (fun i v => ∃ j, i = j + 1 ∧ P j v) (fun i s => ∃ j, i = j + 1 ∧ St j s) where
  sub := W.sub
  grefl := W.grefl
  gtrans := W.gtrans
  frame := fun i s h' tk ⟨j, e, st⟩ ht hk => ⟨j, e, W.frame j s h' tk st ht hk⟩
  item := fun i s Q E hi ⟨j, e, st⟩ hQ => W.item j s Q E (by omega) st fun v s' hP hS hm => hQ v s' ⟨j, e, hP⟩ ⟨j + 1, by omega, hS⟩ hm
  done := fun s Q E ⟨j, e, st⟩ hQ => W.done s Q E ((Nat.succ.inj e : n = j) ▸ st) hQ
  self := fun i s Q E ⟨j, e, st⟩ hQ => W.self j s Q E st hQ
theorem args_sum2 (a b : Value) : argsOk "sum" ⟨[a, b], []⟩ := by unfold argsOk; kernel_rfl
theorem preSum_shift (c : Int) (val : Nat → Int) : ∀ n : Nat, preSum (fun i => match i with | 0 => c | j + 1 => val j) (n + 1) = c + preSum val n
  | 0 => by simp [preSum]
  | n + 1 => by
    have := preSum_shift c val n
    rw [preSum, this]
    simp only [preSum]
    omega
theorem sum_from {x : Value} {u : Tok} {Q : Value → Shared → Prop} 
    (h : wpAny (model prog w) A.in1 (pyIter x) (fun it s₂ => ∃ I fp wr G n P St val, it = .ref I ∧ WalksS prog w A.in1 I fp wr G n P St ∧ St 0 s₂ ∧ (∀ b ∈ fp, b < s₂.heap.objs.size) ∧
      (∀ i v, P i v → NumOf (val i) v) ∧
      ∀ s' t', Moved wr G s₂ s' → Q (.int (5 + preSum val n) t') s') E s) :
    wpAny (model prog w) A (call (.builtin "sum") [x, .int 5 u]) Q E s := by
  refine call_function_tree F.kind_sum F.plain_sum F.entry_sum (args_sum2 _ _) ?_
  unfold Builtin.«sum»
  simp only [List.length_cons, List.length_nil]
  rw [if_neg (by decide)]
  refine wpAny_bind (wpAny_of_eq (show Builtin.Builtins.bindParams "sum" ["start"] 0 ⟨[.int 5 u], []⟩ = pure [some (.int 5 u)] from rfl) ?_)
  refine wpAny_bind (wpAny_mono h (fun it s₂ h₂ => ?_) fun _ _ e => e)
  obtain ⟨I, fp, wr, G, n, P, St, val, rfl, W, hst, hfp, hval, hQ⟩ := h₂
  dsimp only
  refine wpAny_bind ?_
  refine wpAny_rule (wpAny_bind (wpAny_mkInt (wpAny_bind (wpAny_pure ?_))))
  dsimp only
  simp only [List.forIn_cons, List.forIn_nil]
  refine wpAny_bind (wpAny_bind (wpAny_bind (wpAny_isInstance (T := "int") (b := false) (typeIs_int _ _ _) PySem.sub_int_str ?_)))
  simp only [Bool.false_eq_true, if_false]
  refine wpAny_pure (wpAny_bind (wpAny_bind (wpAny_isInstance (T := "int") (b := false) (typeIs_int _ _ _) PySem.sub_int_bytes ?_)))
  simp only [Bool.false_eq_true, if_false]
  refine wpAny_pure (wpAny_bind (wpAny_bind (wpAny_isInstance (T := "int") (b := false) (typeIs_int _ _ _) PySem.sub_int_bytearray ?_)))
  simp only [Bool.false_eq_true, if_false]
  refine wpAny_pure (wpAny_pure ?_)
  refine wpAny_bind (wpAny_newObj_type ?_)
  have hSf : s₂.heap.objs.size ∉ fp := fun hm => Nat.lt_irrefl _ (hfp _ hm)
  have e1 : preSum (fun i => match i with | 0 => 5 | j + 1 => val j) 1 = 5 := by rw [preSum_shift]; simp [preSum]
  refine wpAny_pure ⟨plainId_quiet F.plain_sum_loop _, codeAny_sum_loopAnyB (walks_shift W) (fun i => match i with | 0 => 5 | j + 1 => val j) (fun i v hv => by obtain ⟨j, rfl, hP⟩ := hv; exact hval j v hP) s₂.heap.objs.size hSf n 1 _ s₂.toks 0 0 (.inl rfl) (by omega) (by omega)
    ⟨0, rfl, W.frame 0 s₂ _ _ hst (by first | exact Nat.le_refl _ | exact Nat.le_succ _ | omega) fun b _ o e => Heap.get?_push_of_some _ e⟩ (by rw [e1]; exact Heap.get?_push_size _ rfl) fun s' t' hm => ?_⟩
  rw [preSum_shift]
  exact hQ s' t' (hm.drop_new (by first | exact Nat.le_refl _ | exact Nat.le_succ _ | omega))
theorem sum_rows {h₀ : Heap} {L K a : Addr} {m : Str → Option Value} {n : Nat} {F : Nat → Value → Prop} {u : Tok} {Q : Value → Shared → Prop} (Fh : Fr h₀ L s.heap m) (G : AllBare s.gens) (X : Gen prog w A K a n F s) (hLK : L ≤ K) (val : Nat → Int) (hval : ∀ j v, F j v → NumOf (val j) v)
    (hQ : ∀ s' t', Fr h₀ L s'.heap m → AllBare s'.gens → s'.os = s.os → (∀ b o, b ≤ K → s.heap.get? b = some o → s'.heap.get? b = some o) → Q (.int (5 + preSum val n) t') s') : wpAny (model prog w) A (call (.builtin "sum") [.ref a, .int 5 u]) Q E s := by
  obtain ⟨fp, wr, g, St, W, hst, _, _, hfp, hwr⟩ := X
  have W := W.in4_1
  exact sum_from (W.self 0 _ _ _ hst ⟨a, _, _, _, _, _, _, val, rfl, W, hst, hfp, hval, fun s' t' hm => hQ s' t' (Fh.moved hm fun b hb => Nat.lt_of_le_of_lt hLK (hwr b hb)) (G.movedS hm) hm.os fun b o hb e => hm.heap b o (fun hmem => Nat.lt_irrefl _ (Nat.lt_of_lt_of_le (hwr b hmem) hb)) e⟩)
end
end Mine

end
section -- part V0
open PySem PySem.W PyProof.Rows PySem.Calls Builtin Builtin.ObjectAttr
set_option maxRecDepth 100000
namespace Mine
theorem split_getattr : splitId "list.__getattribute__" = some ("list", "__getattribute__") := by decide +kernel
theorem kind_getattr : (Manifest.find? "list").bind (·.attrs.lookup "__getattribute__") = some .slot ∨ (Manifest.find? "list").bind (·.attrs.lookup "__getattribute__") = some .method := by
  first | exact .inl (by decide +kernel) | exact .inr (by decide +kernel)
section
variable {w : World} {A : Around} {E : Value → Shared → Prop} {s : Shared} {d dd : Addr} {its : Array Value} {n k : Nat} {es : List DictEntry} {name : Str} {v : Value}
theorem deck_getattr {expr : Bool} {Q : Value → Shared → Prop} (X : (Mine.hd.heap_1 w.params).In s.heap) (h1 : s.heap.get? d = some (deckObj dd its n)) (h2 : s.heap.get? dd = some (dictOf es k))
    (hf : findObj (Mine.hd.heap_1 w.params) 135 (some (dictOf es k)) name = some (.value v)) (hh : handedIn v = true) (h : Q v { s with toks := s.toks + 1 }) :
    wpAny (model PP w) A (getAttr (.ref d) name expr) Q E s := by
  have I := inst_deck h1 h2
  obtain ⟨hp, gs, dr, tk, os⟩ := s
  dsimp only at X h1 h2 I h
  unfold getAttr getAttrBy
  refine wpAny_bind (wpAny_mkText (wpAny_holding (wpAny_bind (I.type.at (wpAny_bind ((looks_findIn X (ga_deck w)).at ?_))))))
  show wpAny _ _ (getAttrByItsOwn (.ref d) (.str name tk) (.ref 135) (.builtin "list.__getattribute__") true expr) _ _ _
  unfold getAttrByItsOwn hookBefore callGetattribute boundAndCalled
  refine wpAny_bind ?_
  show wpAny _ _ (typeLookup (.ref 135) "__getattr__") _ _ _
  refine (looks_findIn X (gm_deck w)).at ?_
  refine wpAny_bind (wpAny_attempt (wpAny_holding ?_))
  rw [show (expr && onTheHeap (.builtin "list.__getattribute__")) = false by cases expr <;> rfl]
  simp only [Bool.false_eq_true, if_false]
  refine wpAny_bind (wpAny_of_eq (F.slot_list_getattribute.bind _) ?_)
  refine call_sub X I split_getattr kind_getattr (mro_deck w) (F.args_list_getattribute_2 _ _) (by decide +kernel) PySem.F.entry_list_ga ?_
  refine wpAny_bind (wpAny_pure ?_)
  dsimp only
  refine wpAny_bind (wpAny_pure ?_)
  refine wpAny_bind (I.type.at (wpAny_bind ((looks_find X I hf).at ?_)))
  refine wpAny_pure ⟨v, rfl, ?_⟩
  show wpAny _ _ (handedOut v) _ _ _
  rw [handedOut_of hh]; exact wpAny_pure h
end
end Mine

end
section -- part V1
open PySem PySem.W PyProof.Rows PySem.Calls
set_option maxRecDepth 100000
namespace Mine
theorem filledV1 : PySem.Challenge.rw_pg0066_01 = PySem.Challenge.rw_pg0066_01 ∧ Mine.hd.heap_1 = Mine.hd.heap_1 := by
  k_fill
  exact ⟨rfl, rfl⟩
theorem codeIs (w : World) (c P : Addr) (e : ((Mine.hd.heap_1 w.params).lookup c).any (codeOk · P) = true) {h : Heap} {ps : Array Value} (X : (Mine.hd.heap_1 w.params).In h) (hP : h.get? P = some (tabObj ps)) (htr : TriplesOk ps.toList) (hne : c ≠ P) : h.IsCode c P ps ∧ h.TableAt c P ps := by
  obtain ⟨o, ho, hc⟩ := any_some e
  exact code_of (X _ _ ho) hc hP htr hne
section
variable {w : World} {A : Around} {E : Value → Shared → Prop} {s : Shared} {h₀ : Heap} {L d dd c P : Addr} {m : Str → Option Value} {news : List (Addr × Obj)} {its : Array Value} {n k : Nat} {es : List DictEntry} {mg mb : Str → Option Value} {f p : Nat → Value}
theorem gen_deckK {env : Env} {elt iter : Expr} {xa xb : Str} {pa pb pt : Pos} {kt : Nat} {scope : Scope} {cl : List (Str × Addr)} {pos : Pos} {Q : Value → Shared → Prop} (Fv : Nat → Value → Prop)
    (F : Fr h₀ L s.heap m) (X₀ : (Mine.hd.heap_1 w.params).In h₀) (T₀ : TopRead VV LL mg mb h₀) (Y₀ : KIn w h₀) (N : News h₀ L s.heap ((P, tabObj #[]) :: (d, deckObj dd its n) :: (dd, dictOf es k) :: news))
    (hnd : AllNe P ((d, deckObj dd its n) :: (dd, dictOf es k) :: news))
    (hev : ∀ Q' : Value → Shared → Prop, Q' (.ref d) s → wpAny (model PP w) A (eval iter env) Q' E s)
    (hcode : env.code = .ref c) (hce : ((Mine.hd.heap_1 w.params).lookup c).any (codeOk · P) = true) (hcP : c ≠ P) (hP : P ≠ cStatics) (hP2 : P ≠ mainGlobals) (hP3 : P ≠ 4) (hg : env.globals = mainGlobals)
    (hR : Refs h₀ its 32 f p) (hb : AllBare s.gens)
    (hh : A.handled = none) (hco : scope.isCoroutine = false) (hclos : closureFor scope env = pure cl) (hcell : ∀ y ∈ scope.names, y.2 ≠ .cell) (h0 : scope.names.lookup (".0" : Str) = some NameKind.local)
    (hxa : scope.names.lookup xa = some .local) (hxb : scope.names.lookup xb = some .local) (hab : xa ≠ xb) (hkind : scope.kind = .function) (hroom : A.depth < recursionLimit)
    (hq : ∀ (L' : Addr) (code : Value) (A' : Around) (i : Nat) (s₂ : Shared) (m₂ : Str → Option Value), A'.handled = none → A'.depth ≤ A.depth + 1 → A'.units ≤ A.units + 8 → i < 32 → m₂ xa = some (f i) → m₂ xb = some (p i) → Fr h₀ L' s₂.heap m₂ →
      wpAny (model PP w) A' (eval elt (genEnv scope cl L' code builtinsNs env)) (fun y s₃ => Fv i y ∧ Keeps s₂ s₃) (fun _ _ => False) s₂)
    (hQ : ∀ (a K : Addr) (s₅ : Shared) (ps : Array Value), AllBare s₅.gens → s₅.os = s.os → L ≤ K → (∀ q ∈ (d, deckObj dd its n) :: (dd, dictOf es k) :: news, q.1 ≤ K) → P ≤ K → Fr h₀ L s₅.heap m → News h₀ L s₅.heap ((P, tabObj ps) :: (d, deckObj dd its n) :: (dd, dictOf es k) :: news) →
      Gen PP w A K a 32 Fv s₅ → Q (.ref a) s₅)
    (hs : ∀ x, genFold iter env x = pure x) :
    wpAny (model PP w) A (eval (.GeneratorExp elt [⟨.Tuple [.Name xa pa, .Name xb pb] kt pt, iter, [], 0⟩] scope pos) env) Q E s := by
  have X := X₀.keeps F.keep
  have T := T₀.keeps F.keep
  have Y := Y₀.keeps F.keep
  have nP := (N _ (.head _)).1
  have nd := (N _ (.tail _ (.head _))).1
  have ndd := (N _ (.tail _ (.tail _ (.head _)))).1
  have hPL : P ≠ L := (N _ (.head _)).2.1
  have hP0 : h₀.get? P = none := (N _ (.head _)).2.2
  obtain ⟨hc, ht⟩ := codeIs w c P hce X nP trivial hcP
  have hlt : ∀ b o, s.heap.get? b = some o → b ≤ s.heap.objs.size - 1 := fun b o e => Nat.le_sub_one_of_lt (Heap.lt_size e)
  have hRs : Refs s.heap its 32 f p := ⟨hR.1, fun i hi => by obtain ⟨t, e1, e2⟩ := hR.2 i hi; exact ⟨t, e1, F.keep _ _ e2⟩⟩
  refine gen_deck Fv hev X Y T.g T.nolimit nd ndd hcode hc ht hP hP2 hP3 hg hRs hb hh hco hclos hcell h0 hxa hxb hab hkind hroom (fun L' code A' i s₂ m₂ hA hD hU hi hL' hns ha hb' hkp => ?_) (fun a s₅ ps hb5 hos hk5 hP5 hG => ?_) hs
  · exact hq L' code A' i s₂ m₂ hA hD hU hi ha hb' ⟨hns, fun b o e => hkp b o (fun q => by rw [q, hP0] at e; cases e) (F.keep b o e), Nat.le_trans (Nat.le_trans F.above (Nat.le_of_lt F.ns.lt)) hL'⟩
  · obtain ⟨oL, es', ep, hL, hr⟩ := F.ns
    have F5 : Fr h₀ L s₅.heap m := ⟨⟨oL, es', ep, hk5 _ _ (Ne.symm hPL) hL, hr⟩, fun b o e => hk5 b o (fun q => by rw [q, hP0] at e; cases e) (F.keep b o e), F.above⟩
    refine hQ a _ s₅ ps hb5 hos (hlt _ _ hL) (fun q hq => hlt _ _ (N q (.tail _ hq)).1) (hlt _ _ nP) F5 ?_ hG
    intro q hq'
    rcases List.mem_cons.mp hq' with rfl | hq'
    · exact ⟨hP5, (N _ (.head _)).2⟩
    · exact ⟨hk5 _ _ (hnd.mem q hq') (N q (.tail _ hq')).1, (N q (.tail _ hq')).2⟩
end
end Mine

end
section -- part V2
open PySem PySem.W PyProof.Rows PySem.Calls
set_option maxRecDepth 100000
namespace Mine
theorem filledV2 : PySem.Challenge.rw_pg0066_01 = PySem.Challenge.rw_pg0066_01 ∧ Mine.hd.heap_1 = Mine.hd.heap_1 := by
  k_fill
  exact ⟨rfl, rfl⟩
section
variable {w : World} {A : Around} {E : Value → Shared → Prop} {s : Shared} {h₀ : Heap} {L d dd : Addr} {m : Str → Option Value} {news news' : List (Addr × Obj)} {its : Array Value} {n k : Nat} {es : List DictEntry} {mg mb : Str → Option Value}
theorem deck_getattrK {expr : Bool} {name : Str} {v : Value} {Q : Value → Shared → Prop} (F : Fr h₀ L s.heap m) (X₀ : (Mine.hd.heap_1 w.params).In h₀) (N : News h₀ L s.heap news) (hd : (d, deckObj dd its n) ∈ news) (hdd : (dd, dictOf es k) ∈ news)
    (hn : hasDictIn (Mine.hd.heap_1 w.params) 135 = true) (ha : findIn (Mine.hd.heap_1 w.params) (.ref 135) name = some none) (hl : getL name es = some (some v)) (hh : handedIn v = true) (h : Q v { s with toks := s.toks + 1 }) : wpAny (model PP w) A (getAttr (.ref d) name expr) Q E s :=
  deck_getattr (X₀.keeps F.keep) (N _ hd).1 (N _ hdd).1 (findObj_own hn ha rfl hl) hh h
end
section
variable {M : Model} {A : Around} {E : Value → Shared → Prop} {s : Shared} {K : Frag} {h₀ : Heap} {C bi : Addr} {m mg mb : Str → Option Value} {scope : Scope} {cl : List (Str × Addr)} {code : Value} {env : Env} {p : Program} {loose : List Str} {x : Str} {pos : Pos} {v : Value} {Q : Value → Shared → Prop}
theorem gnL (F : Fr h₀ C s.heap m) (hv : m x = some v) (h : Q v s)
    (hk : scope.kind = .function := by rfl) (hl : (genEnv scope cl C code bi env).kindOf x = some .local := by rfl) (hd : (x == ("__debug__" : Str)) = false := by decide) :
    wpAny M A (eval (.Name x pos) (genEnv scope cl C code bi env)) Q E s := wpAny_Name (wpAny_loadName_local hk hl F.ns hv h) hd
theorem gnB (F : Fr h₀ C s.heap m) (X : K.In h₀) (T : TopRead p loose mg mb h₀) (e : nsIn K mainGlobals x = some none) (hv : bootBuiltins x = some v) (hn : x ≠ "__name__") (hg : env.globals = mainGlobals) (h : Q v s)
    (hk : scope.kind = .function := by rfl) (hx : (genEnv scope cl C code builtinsNs env).kindOf x = some .globalImplicit := by rfl) (hd : (x == ("__debug__" : Str)) = false := by decide) :
    wpAny M A (eval (.Name x pos) (genEnv scope cl C code builtinsNs env)) Q E s :=
  Name_function_global hk hx (loadGlobal_builtin (env := genEnv scope cl C code builtinsNs env) (show s.heap.Ns env.globals mg from hg ▸ T.g.keeps F.keep) (mg_none_of X T.g e) (T.b.keeps F.keep) ((T.builtins x hn).trans hv) h) hd
theorem gnK (F : Fr h₀ C s.heap m) (X : K.In h₀) (T : TopRead p loose mg mb h₀) (e : nsIn K mainGlobals x = some (some v)) (hg : env.globals = mainGlobals) (h : Q v s)
    (hk : scope.kind = .function := by rfl) (hx : (genEnv scope cl C code builtinsNs env).kindOf x = some .globalImplicit := by rfl) (hd : (x == ("__debug__" : Str)) = false := by decide) :
    wpAny M A (eval (.Name x pos) (genEnv scope cl C code builtinsNs env)) Q E s :=
  Name_function_global hk hx (loadGlobal_global (env := genEnv scope cl C code builtinsNs env) (show s.heap.Ns env.globals mg from hg ▸ T.g.keeps F.keep) (mg_of X T.g e) h) hd
end
local macro_rules | `(tactic| walk_at "eval Name") => `(tactic| (k_here; (with_reducible show wpAny _ _ (eval (Expr.Name _ _) (genEnv _ _ _ _ _ _)) _ _ _); k_dflt (first
  | (refine' gnL ?F ?v ?_ ?a ?b; (case F => k_asm); (case a => rfl); (case b => rfl); (case v => assumption))
  | (refine' gnK ?F ?X ?T ?e ?g ?_ ?a ?b; (case F => k_asm); (case X => k_asm); (case T => k_asm); (case a => rfl); (case b => rfl); (case g => rfl); (case e => k_is))
  | (refine' gnB ?F ?X ?T ?e ?v ?n ?g ?_ ?a ?b; (case F => k_asm); (case X => k_asm); (case T => k_asm); (case a => rfl); (case b => rfl); (case g => rfl); (case e => k_is); (case v => boot_fast); (case n => decide)))))
theorem fitLen {x : Str} (h : x.length ≤ 3) : ¬ (x.length : Int) ≥ 2 ^ 63 := by
  intro q
  have : (x.length : Int) ≤ 3 := by exact_mod_cast h
  have h63 : (2 : Int) ^ 63 = 9223372036854775808 := by decide
  omega
local macro_rules | `(tactic| walk_at "call builtin:len") => `(tactic| (k_here; k_dflt (refine' len_str ?f ?_; (case f => exact fitLen (by assumption)))))
theorem strNum {x y : Str} {v : Value} (h : ∃ t, v = .int ((x.length : Int) + (y.length : Int)) t) : NumOf ((x.length : Int) + (y.length : Int)) v := by
  obtain ⟨t, rfl⟩ := h; exact .inl ⟨t, rfl⟩
local macro_rules | `(tactic| walk_at "getAttr ref") => `(tactic| (k_here; (with_reducible show wpAny _ _ (getAttr (Value.ref _) _ _) _ _ _); k_dflt (refine' deck_getattrK ?k1 ?k2 ?k3 ?k4 ?k5 ?k6 ?k7 ?k8 ?k9 ?_; (case k1 => k_asm); (case k2 => k_asm); (case k3 => k_asm); (case k4 => k_mem); (case k5 => k_mem); (case k6 => k_is); (case k7 => k_is); (case k8 => assumption); (case k9 => exact rfl))))
local macro_rules | `(tactic| walk_at "eval GeneratorExp") => `(tactic| (k_here; refine halt ?_))
theorem refs_base {g h : Heap} {d dd P : Addr} {its its0 : Array Value} {n : Nat} {es : List DictEntry} {k : Nat} {f p : Nat → Value} {N : Nat} (kp : ∀ b o, h.get? b = some o → b ∉ List.map (·.1) [(P, tabObj #[]), (d, deckObj dd its0 n), (dd, dictOf es k)] → g.get? b = some o)
    (h1 : h.get? d = some (deckObj dd its0 n)) (h2 : h.get? dd = some (dictOf es k)) (h3 : h.get? P = some (tabObj #[])) (hR : Refs h its N f p) : Refs g its N f p := by
  refine ⟨hR.1, fun i hi => ?_⟩
  obtain ⟨t, e, ht⟩ := hR.2 i hi
  refine ⟨t, e, kp _ _ ht ?_⟩
  simp only [List.map_cons, List.map_nil, List.mem_cons, List.not_mem_nil, or_false, not_or]
  refine ⟨?_, ?_, ?_⟩
  · rintro rfl
    have := ht.symm.trans h3
    simp at this
  · rintro rfl
    have := ht.symm.trans h1
    simp at this
  · rintro rfl
    have := ht.symm.trans h2
    simp [dictOf] at this
theorem apart3 {g h : Heap} {L d dd P : Addr} {its : Array Value} {n : Nat} {es : List DictEntry} {k : Nat} {ps : Array Value} (N : News g L h [(P, tabObj ps), (d, deckObj dd its n), (dd, dictOf es k)]) : AllNe P [(d, deckObj dd its n), (dd, dictOf es k)] := by
  have a := (N _ (.head _)).1
  have b := (N _ (.tail _ (.head _))).1
  have c := (N _ (.tail _ (.tail _ (.head _)))).1
  refine ⟨?_, ?_, trivial⟩
  · rintro rfl
    have := a.symm.trans b
    simp at this
  · rintro rfl
    have := a.symm.trans c
    simp [dictOf] at this
theorem gen_toks {prog : Program} {w : World} {A : Around} {K a : Addr} {n : Nat} {F : Nat → Value → Prop} {s : Shared} {tk : Nat} (X : Gen prog w A K a n F s) (h : s.toks ≤ tk) : Gen prog w A K a n F { s with toks := tk } := by
  obtain ⟨fp, wr, g, St, W, hst, h3, h4, h5, h6⟩ := X
  exact ⟨fp, wr, g, St, W, W.frame 0 s s.heap tk hst h (fun _ _ _ e => e), h3, h4, h5, h6⟩
theorem kept_deck3 {h h' g : Heap} {L' P d dd : Addr} {m' : Str → Option Value} {its : Array Value} {n : Nat} {es : List DictEntry} {k : Nat} (F' : Fr g L' h' m')
    (hn : ∀ q ∈ [(d, deckObj dd its n), (dd, dictOf es k)], h'.get? q.1 = some q.2)
    (h1 : h.get? d = some (deckObj dd its n)) (h2 : h.get? dd = some (dictOf es k))
    (kp : ∀ b o, h.get? b = some o → b ∉ List.map (·.1) [(P, tabObj #[]), (d, deckObj dd its n), (dd, dictOf es k)] → g.get? b = some o) : ∀ b o, b ≠ P → h.get? b = some o → h'.get? b = some o := by
  intro b o hb e
  by_cases q : b = dd
  · subst q; rw [h2] at e; cases e; exact hn _ (.tail _ (.head _))
  · by_cases q2 : b = d
    · subst q2; rw [h1] at e; cases e; exact hn _ (.head _)
    · exact F'.keep b o (kp b o e (by simp [hb, q, q2]))
set_option maxHeartbeats 600000 in
theorem len_abs {w : World} {mg mb : Str → Option Value} {A : Around} {h₀ : Heap} {s : Shared} {Q E : Value → Shared → Prop}
    {d dd : Addr} {its : Array Value} {n : Nat} {es : List DictEntry} {k : Nat} {tk5 : Tok} {fs ps : Nat → Str} {f p : Nat → Value}
    (G : Ground0 w mg mb h₀) (hk : ∀ b o, h₀.get? b = some o → s.heap.get? b = some o) (h1 : s.heap.get? d = some (deckObj dd its n)) (h2 : s.heap.get? dd = some (dictOf es k)) (h3 : s.heap.get? 97 = some (tabObj #[]))
    (h01 : h₀.get? d = none) (h02 : h₀.get? dd = none) (h03 : h₀.get? 97 = none) (hl : getL "_initial_size" es = some (some (.int 5 tk5))) (hR : Refs s.heap its 32 f p) (hP : ∀ i, i < 32 → ∃ t1 t2, f i = .str (fs i) t1 ∧ p i = .str (ps i) t2)
    (hlen : ∀ i, i < 32 → (fs i).length ≤ 3 ∧ (ps i).length ≤ 3) (hb : AllBare s.gens) (hh : A.handled = none) (hdp : A.depth + 40 < recursionLimit) (hun : A.units + 400 < cLine)
    (hret : ∀ (s' : Shared) tk ps', AllBare s'.gens → s'.os = s.os → (∀ b o, b ≠ 97 → s.heap.get? b = some o → s'.heap.get? b = some o) → s'.heap.get? 97 = some (tabObj ps') →
      Q (.int (5 + preSum (fun i => ((fs i).length : Int) + ((ps i).length : Int)) 32) tk) s') :
    wpAny (model PP w) A (call (.ref 102) [.ref d]) Q E s := by
  obtain ⟨hd0, dp, fr, gd, un⟩ := A
  dsimp only at hh hdp hun
  subst hh
  refine wpAny_call ?_
  k_dflt (refine' enter_def (news := [(97, tabObj #[]), (d, deckObj dd its n), (dd, dictOf es k)]) (binds := [(Str.ofString "self", .ref d)]) G hk ?hn ?k6 ?k7 ?k8 ?k9 ?kB ?_ ?c2 ?c3 ?c4 ?c5; (case k6 => k_is); (case k7 => k_is); (case k8 => (show dp < recursionLimit; omega)); (case k9 => exact BindsTo.of_eq rfl); (case c5 => decide); (case kB => exact locs rfl); (case c2 => exact rfl); (case c3 => exact rfl); (case c4 => exact rfl); k_whole)
  case hn =>
    intro q hq
    simp only [List.mem_cons, List.not_mem_nil, or_false] at hq
    rcases hq with rfl | rfl | rfl
    · exact ⟨h3, h03⟩
    · exact ⟨h1, h01⟩
    · exact ⟨h2, h02⟩
  intro g' L' h' F' N' X' T' kp hgs Y'
  try dsimp only
  try k_fold
  k_steps
  show wpAny _ _ (eval _ _) _ _ _
  have hRg : Refs g' its 32 f p := refs_base kp h1 h2 h3 hR
  k_dflt (refine' gen_deckK (c := 101) (P := 97) (d := d) (dd := dd) (its := its) (n := n) (es := es) (k := k) (news := []) (f := f) (p := p) (cl := []) (fun i v => ∃ t, v = .int (((fs i).length : Int) + ((ps i).length : Int)) t) ?F ?X ?T ?Y ?N ?nd ?hev ?hcode ?hce ?hcP ?hP ?hP2 ?hP3 ?hg ?hR ?hb ?hh ?hco ?hclos ?hcell ?h0 ?hxa ?hxb ?hab ?hkind ?hroom ?hq ?hQ ?hs; (case F => k_asm); (case X => k_asm); (case T => assumption); (case Y => assumption); (case N => k_asm); (case nd => exact apart3 N'); (case hcode => rfl); (case hce => kernel_rfl); (case hcP => decide); (case hP => decide); (case hP2 => decide); (case hP3 => decide); (case hg => rfl); (case hR => exact hRg); (case hb => exact hb); (case hh => rfl); (case hco => rfl); (case hclos => rfl); (case hcell => decide); (case h0 => rfl); (case hxa => rfl); (case hxb => rfl); (case hab => decide); (case hkind => rfl); (case hroom => (simp only [depth_deeper]; omega)); (case hs => intro _; rfl))
  case hev =>
    intro Q' hq'
    k_steps
    exact hq'
  case hq =>
    intro L₂ code A' i s₂ m₂ hA hD hU hi ha hb' F₂
    obtain ⟨t1, t2, e1, e2⟩ := hP i hi
    obtain ⟨l1, l2⟩ := hlen i hi
    rw [e1] at ha
    rw [e2] at hb'
    clear F' N'
    have N₂ : News g' L₂ s₂.heap [] := fun p hp => nomatch hp
    k_steps
    exact ⟨_, _, rfl, fun _ _ e => e⟩
  case hQ =>
    intro a K s₅ ps' hb5 hos hLK hKn hPK F5 N5 hG
    clear F' N'
    k_steps
    refine sum_rows (s := { s₅ with toks := s₅.toks + 1 }) F5 hb5 (gen_toks hG (Nat.le_succ _)) hLK (fun i => ((fs i).length : Int) + ((ps i).length : Int)) (fun j v hv => strNum hv) fun s' t' F6 hb6 hos6 hk6 => ?_
    refine hret s' t' ps' hb6 (hos6.trans hos) ?_ (hk6 _ _ hPK (N5 _ (.head _)).1)
    intro b o hb97 e
    refine kept_deck3 F6 (fun q hq => hk6 _ _ (hKn q hq) (N5 q (.tail _ hq)).1) h1 h2 kp b o hb97 e
end Mine

end
section -- part V3
open PySem PySem.W PyProof.Rows PySem.Calls
set_option maxRecDepth 100000
namespace Mine
theorem filledV3 : PySem.Challenge.rw_pg0066_01 = PySem.Challenge.rw_pg0066_01 ∧ Mine.hd.heap_1 = Mine.hd.heap_1 := by
  k_fill
  exact ⟨rfl, rfl⟩
local macro_rules | `(tactic| walk_at "eval Name") => `(tactic| (k_here; (with_reducible show wpAny _ _ (eval (Expr.Name _ _) (genEnv _ _ _ _ _ _)) _ _ _); k_dflt (first
  | (refine' gnL ?F ?v ?_ ?a ?b; (case F => k_asm); (case a => rfl); (case b => rfl); (case v => assumption))
  | (refine' gnK ?F ?X ?T ?e ?g ?_ ?a ?b; (case F => k_asm); (case X => k_asm); (case T => k_asm); (case a => rfl); (case b => rfl); (case g => rfl); (case e => k_is))
  | (refine' gnB ?F ?X ?T ?e ?v ?n ?g ?_ ?a ?b; (case F => k_asm); (case X => k_asm); (case T => k_asm); (case a => rfl); (case b => rfl); (case g => rfl); (case e => k_is); (case v => boot_fast); (case n => decide)))))
local macro_rules | `(tactic| walk_at "call builtin:len") => `(tactic| (k_here; k_dflt (refine' len_str ?f ?_; (case f => exact fitLen (by assumption)))))
local macro_rules | `(tactic| walk_at "getAttr ref") => `(tactic| (k_here; (with_reducible show wpAny _ _ (getAttr (Value.ref _) _ _) _ _ _); k_dflt (refine' deck_getattrK ?k1 ?k2 ?k3 ?k4 ?k5 ?k6 ?k7 ?k8 ?k9 ?_; (case k1 => k_asm); (case k2 => k_asm); (case k3 => k_asm); (case k4 => k_mem); (case k5 => k_mem); (case k6 => k_is); (case k7 => k_is); (case k8 => assumption); (case k9 => exact rfl))))
local macro_rules | `(tactic| walk_at "eval GeneratorExp") => `(tactic| (k_here; refine halt ?_))
local macro_rules | `(tactic| walk_at "newTuple") => `(tactic| (k_here; refine halt ?_))
local macro_rules | `(tactic| walk_at "call builtin:str.join") => `(tactic| (k_here; refine halt ?_))
set_option maxHeartbeats 600000 in
theorem str_abs {w : World} {mg mb : Str → Option Value} {A : Around} {h₀ : Heap} {s : Shared} {Q E : Value → Shared → Prop}
    {d dd : Addr} {its : Array Value} {n : Nat} {es : List DictEntry} {k : Nat} {fs ps zs : Nat → Str} {f p : Nat → Value}
    (G : Ground0 w mg mb h₀) (hk : ∀ b o, h₀.get? b = some o → s.heap.get? b = some o) (h1 : s.heap.get? d = some (deckObj dd its n)) (h2 : s.heap.get? dd = some (dictOf es k)) (h3 : s.heap.get? 104 = some (tabObj #[]))
    (h01 : h₀.get? d = none) (h02 : h₀.get? dd = none) (h03 : h₀.get? 104 = none) (hR : Refs s.heap its 32 f p) (hP : ∀ i, i < 32 → ∃ t1 t2, f i = .str (fs i) t1 ∧ p i = .str (ps i) t2)
    (hlen : ∀ i, i < 32 → (fs i).length ≤ 3 ∧ (ps i).length ≤ 3) (hz : ∀ i, i < 32 → Txt.join (Str.ofString "") [fs i, ps i] = zs i) (hok : JoinOk (Str.ofString "") ((List.range 32).map zs) = true) (hb : AllBare s.gens) (hh : A.handled = none) (hdp : A.depth + 40 < recursionLimit) (hun : A.units + 400 < cLine)
    (hret : ∀ (s' : Shared) tk ps', AllBare s'.gens → s'.os = s.os → (∀ b o, b ≠ 104 → s.heap.get? b = some o → s'.heap.get? b = some o) → s'.heap.get? 104 = some (tabObj ps') →
      Q (.str (Txt.join (Str.ofString "") ((List.range 32).map zs)) tk) s') :
    wpAny (model PP w) A (call (.ref 109) [.ref d]) Q E s := by
  obtain ⟨hd0, dp, fr, gd, un⟩ := A
  dsimp only at hh hdp hun
  subst hh
  refine wpAny_call ?_
  k_dflt (refine' enter_def (news := [(104, tabObj #[]), (d, deckObj dd its n), (dd, dictOf es k)]) (binds := [(Str.ofString "self", .ref d)]) G hk ?hn ?k6 ?k7 ?k8 ?k9 ?kB ?_ ?c2 ?c3 ?c4 ?c5; (case k6 => k_is); (case k7 => k_is); (case k8 => (show dp < recursionLimit; omega)); (case k9 => exact BindsTo.of_eq rfl); (case c5 => decide); (case kB => exact locs rfl); (case c2 => exact rfl); (case c3 => exact rfl); (case c4 => exact rfl); k_whole)
  case hn =>
    intro q hq
    simp only [List.mem_cons, List.not_mem_nil, or_false] at hq
    rcases hq with rfl | rfl | rfl
    · exact ⟨h3, h03⟩
    · exact ⟨h1, h01⟩
    · exact ⟨h2, h02⟩
  intro g' L' h' F' N' X' T' kp hgs Y'
  try dsimp only
  try k_fold
  k_steps
  show wpAny _ _ (eval _ _) _ _ _
  have hRg : Refs g' its 32 f p := refs_base kp h1 h2 h3 hR
  k_dflt (refine' gen_deckK (c := 108) (P := 104) (d := d) (dd := dd) (its := its) (n := n) (es := es) (k := k) (news := []) (f := f) (p := p) (cl := []) (fun i v => ∃ t, v = .str (zs i) t) ?F ?X ?T ?Y ?N ?nd ?hev ?hcode ?hce ?hcP ?hP ?hP2 ?hP3 ?hg ?hR ?hb ?hh ?hco ?hclos ?hcell ?h0 ?hxa ?hxb ?hab ?hkind ?hroom ?hq ?hQ ?hs; (case F => k_asm); (case X => k_asm); (case T => assumption); (case Y => assumption); (case N => k_asm); (case nd => exact apart3 N'); (case hcode => rfl); (case hce => kernel_rfl); (case hcP => decide); (case hP => decide); (case hP2 => decide); (case hP3 => decide); (case hg => rfl); (case hR => exact hRg); (case hb => exact hb); (case hh => rfl); (case hco => rfl); (case hclos => rfl); (case hcell => decide); (case h0 => rfl); (case hxa => rfl); (case hxb => rfl); (case hab => decide); (case hkind => rfl); (case hroom => (simp only [depth_deeper]; omega)); (case hs => intro _; rfl))
  case hev =>
    intro Q' hq'
    k_steps
    exact hq'
  case hq =>
    intro L₂ code A' i s₂ m₂ hA hD hU hi ha hb' F₂
    obtain ⟨t1, t2, e1, e2⟩ := hP i hi
    obtain ⟨l1, l2⟩ := hlen i hi
    rw [e1] at ha
    rw [e2] at hb'
    clear F' N'
    have N₂ : News g' L₂ s₂.heap [] := fun p hp => nomatch hp
    k_steps
    show wpAny _ _ (newTuple _) _ _ _
    unfold newTuple
    refine wpAny_newObj_type ?_ (by size_fits)
    have F₃ := F₂.push { cls := .type "tuple", data := .seq [Value.str (fs i) t1, Value.str (ps i) t2].toArray }
    k_steps
    show wpAny _ _ (call _ _) _ _ _
    refine join_tupleW (ys := [fs i, ps i]) ⟨_, Heap.get?_push_size _ rfl, rfl, _, rfl⟩ (.cons _ _ (.cons _ _ .nil)) (by decide +kernel) ?_ fun t' k => ?_
    · simp only [List.map_cons, List.map_nil, List.sum_cons, List.sum_nil, List.length_cons, List.length_nil]; omega
    · exact ⟨⟨_, by rw [hz i hi]⟩, _, _, rfl, fun _ _ e => Heap.get?_push_of_some _ e⟩
  case hQ =>
    intro a K s₅ ps' hb5 hos hLK hKn hPK F5 N5 hG
    clear F' N'
    k_steps
    show wpAny _ _ (call _ _) _ _ _
    refine join_rowsK F5 hb5 hG hLK zs (fun j v hv => hv) hok fun s' t' F6 hb6 hos6 hk6 => ?_
    refine hret s' t' ps' hb6 (hos6.trans hos) ?_ (hk6 _ _ hPK (N5 _ (.head _)).1)
    intro b o hb97 e
    refine kept_deck3 F6 (fun q hq => hk6 _ _ (hKn q hq) (N5 q (.tail _ hq)).1) h1 h2 kp b o hb97 e
end Mine

end
section -- part V4
open PySem PySem.W PyProof.Rows PySem.Calls Builtin Builtin.ObjectAttr
set_option maxRecDepth 100000
namespace Mine
theorem filledV4 : PySem.Challenge.rw_pg0066_01 = PySem.Challenge.rw_pg0066_01 ∧ Mine.hd.heap_1 = Mine.hd.heap_1 := by
  k_fill
  exact ⟨rfl, rfl⟩
local macro_rules | `(tactic| k_inst) => `(tactic| (refine' inst_deckN ?N ?h1 ?h2; (case N => k_asm); (case h1 => k_mem); (case h2 => k_mem)))
local macro_rules | `(tactic| walk_at "wpAt") => `(tactic| (ks_step "attributeBase Call"; k_here; k_dflt (refine super_node (by k_asm) (by k_asm) (by k_asm) (by assumption) (by k_is) (by rfl) (by rfl) (by k_inst) (by k_is) (by rfl) (by first | rfl | decide +kernel) (by k_is) (by k_is) (by k_is) (by k_is) (by decide) (by rfl) (by rfl) (by rfl) (by rfl) (by decide +kernel) (by first | boot_by_name | rfl | kernel_rfl) ?_; intro so' h' F' N' l1; (try k_lt l1))))
section
variable {w : World} {A : Around} {E : Value → Shared → Prop} {s : Shared} {so x dd L q : Addr} {its : Array Value} {n : Nat} {od : Obj} {h₀ : Heap} {m : Str → Option Value} {news news' : List (Addr × Obj)} {fs : List Env}
theorem superK_len {pl : Sem Bool} {Q : Value × List Value → Shared → Prop} (F : Fr h₀ L s.heap m) (X₀ : (Mine.hd.heap_1 w.params).In h₀) (Y₀ : KIn w h₀) (N : News h₀ L s.heap news) (hso : (so, ks_superObj 135 x 135) ∈ news) (hx : (x, deckObj dd its n) ∈ news) (hdd : (dd, od) ∈ news)
    (hh : A.handled = none) (hf : A.frames = some fs) (hd : A.depth ≤ 600) (hu : A.units + 10 ≤ 2000)
    (h : ∀ q h' tk', AllNe q news → Fr h₀ L h' m → News h₀ L h' ((q, { cls := .type "method-wrapper", data := .fields #[.builtin "list.__len__", .ref x] }) :: news) → Q (.ref q, []) { s with heap := h', toks := tk' }) :
    wpAny (model PP w) A (getMethod (.ref so) "__len__" pl) Q E s := by
  have X := X₀.keeps F.keep
  have Y := Y₀.keeps F.keep
  have I := inst_deckN N hx hdd
  have hxs := (N _ hx).1
  obtain ⟨cd, hc, hmro⟩ := any_some (mro_is w)
  have hmro : cd.mro = [.ref 135, .type "list", .type "object"] := beq_iff_eq.mp hmro
  have hm : Looks (model PP w) s.heap (mroOf (.ref 135)) cd.mro := (looks_clsIn X hc).andThen .now
  obtain ⟨hh', g, d, t, os⟩ := s
  refine super_methodB (N _ hso).1 (looks_opaque X (by kernel_rfl)) hm rfl X (id := "list.__len__") (by rw [hmro]; kernel_rfl) wd_type_len (ks_ne X I hc) (by decide) ?_
  refine wpAny_le (A' := Abig fs) hh hd ?_ ?_ ?_ (wrap_len Y.out hxs fun q h' tk' k hq hn => ⟨by simp, ⟨q, rfl⟩, ?_⟩)
  · show A.units + 1 ≤ 2000; omega
  · intro l hl; cases hl; exact hf
  · intro l hl; cases hl
  · obtain ⟨F', N'⟩ := fresh_news F N k hq hn
    exact h q h' tk' (allNe_news N hn) F' N'
theorem boundK_len {Q : Value → Shared → Prop} (F : Fr h₀ L s.heap m) (Y₀ : KIn w h₀) (N : News h₀ L s.heap news) (hq : (q, { cls := .type "method-wrapper", data := .fields #[.builtin "list.__len__", .ref x] }) ∈ news) (hx : (x, deckObj dd its n) ∈ news)
    (hh : A.handled = none) (hf : A.frames = some fs) (hd : A.depth ≤ 600) (hu : A.units + 10 ≤ 2000)
    (h : ∀ h' tk tk', Fr h₀ L h' m → News h₀ L h' news → Q (.int (its.size : Int) tk) { s with heap := h', toks := tk' }) : wpAny (model PP w) A (call (.ref q) []) Q E s := by
  have Y := Y₀.keeps F.keep
  have hxs := (N _ hx).1
  have hqs := (N _ hq).1
  obtain ⟨hh', g, d, t, os⟩ := s
  refine wpAny_mono (E := fun _ _ => False) (wpAny_le (A' := Abig fs) hh hd ?_ ?_ ?_ (len_bound Y.out hxs hqs fun tk h' tk' k => ?_)) (fun _ _ z => z) fun _ _ z => z.elim
  · show A.units ≤ 2000; omega
  · intro l hl; cases hl; exact hf
  · intro l hl; cases hl
  · exact h h' tk tk' (kept_fr F k) (kept_news N k)
end
local macro_rules | `(tactic| walk_at "callWith ref") => `(tactic| (k_here; (show wpAny _ _ (callWith _ (Value.ref _) [] (backTo _ (starEach [] _)) []) _ _ _); k_dflt (refine' callWith_W0 ?k1 ?k2 ?_; (case k1 => k_asm); (case k2 => k_mem))))
local macro_rules | `(tactic| walk_at "getMethod ref") => `(tactic| (k_here; (with_reducible show wpAny _ _ (getMethod (Value.ref _) (PySem.Str.ofString "__len__") _) _ _ _); k_dflt (refine' superK_len ?k1 ?k2 ?kY ?k3 ?k4 ?k5 ?k6 ?hh ?hf ?hd ?hu ?_; (case k1 => k_asm); (case k2 => k_asm); (case kY => assumption); (case k3 => k_asm); (case k4 => k_mem); (case k5 => k_mem); (case k6 => k_mem); (case hh => exact rfl); (case hf => exact rfl); (case hd => (simp only [depth_deeper]; omega)); (case hu => (simp only [units_deeper]; omega))); intro q' h' tk' l1 F' N'; (simp only [AllNe, and_true] at l1)))
local macro_rules | `(tactic| walk_at "call ref") => `(tactic| (k_here; (show wpAny _ _ (call (Value.ref _) []) _ _ _); k_dflt (refine' boundK_len ?k1 ?k2 ?k3 ?k4 ?k5 ?hh ?hf ?hd ?hu ?_; (case k1 => k_asm); (case k2 => assumption); (case k3 => k_asm); (case k4 => k_mem); (case k5 => k_mem); (case hh => exact rfl); (case hf => exact rfl); (case hd => (simp only [depth_deeper]; omega)); (case hu => (simp only [units_deeper]; omega))); intro h' tk tk' F' N'))
theorem kept_two {h h' g : Heap} {L' d dd : Addr} {m' : Str → Option Value} {its : Array Value} {n : Nat} {es : List DictEntry} {k : Nat} {q1 q2 : Addr × Obj} (F' : Fr g L' h' m')
    (N' : News g L' h' [q1, q2, (d, deckObj dd its n), (dd, dictOf es k)])
    (h1 : h.get? d = some (deckObj dd its n)) (h2 : h.get? dd = some (dictOf es k))
    (kp : ∀ b o, h.get? b = some o → b ∉ List.map (·.1) [(d, deckObj dd its n), (dd, dictOf es k)] → g.get? b = some o) : ∀ b o, h.get? b = some o → h'.get? b = some o := by
  intro b o e
  by_cases q : b = dd
  · subst q; rw [h2] at e; cases e; exact (N' _ (.tail _ (.tail _ (.tail _ (.head _))))).1
  · by_cases q2 : b = d
    · subst q2; rw [h1] at e; cases e; exact (N' _ (.tail _ (.tail _ (.head _)))).1
    · exact F'.keep b o (kp b o e (by simp [q, q2]))
set_option maxHeartbeats 8000000 in
theorem count_abs {w : World} {mg mb : Str → Option Value} {A : Around} {fs : List Env} {h₀ : Heap} {s : Shared} {Q E : Value → Shared → Prop}
    {d dd : Addr} {its : Array Value} {n k : Nat} {es : List DictEntry}
    (G : Ground0 w mg mb h₀) (hk : ∀ b o, h₀.get? b = some o → s.heap.get? b = some o) (h1 : s.heap.get? d = some (deckObj dd its n)) (h2 : s.heap.get? dd = some (dictOf es k))
    (h01 : h₀.get? d = none) (h02 : h₀.get? dd = none) (hh : A.handled = none) (hf : A.frames = some fs) (hdp : A.depth + 20 < 600) (hun : A.units + 200 < 2000)
    (hret : ∀ h' tk tk', (∀ b o, s.heap.get? b = some o → h'.get? b = some o) → Q (.int (its.size : Int) tk) { s with heap := h', toks := tk' }) :
    wpAny (model PP w) A (call (.ref 132) [.ref d]) Q E s := by
  obtain ⟨hd0, dp, fr, gd, un⟩ := A
  dsimp only at hh hf hdp hun
  subst hh hf
  refine wpAny_call ?_
  k_dflt (refine' enter_super (news := [(d, deckObj dd its n), (dd, dictOf es k)]) (binds := [(Str.ofString "self", .ref d)]) G hk ?hn ?k6 ?k7 ?k8 ?k9 ?kB ?_ ?c5 ?c2 ?c3 ?c4; (case k6 => k_is); (case k7 => k_is); (case k8 => (show dp < 1000; omega)); (case k9 => exact BindsTo.of_eq rfl); (case c5 => decide); (case kB => exact locs rfl); (case c2 => exact rfl); (case c3 => exact rfl); (case c4 => exact rfl))
  case hn =>
    intro q hq
    rcases List.mem_cons.mp hq with rfl | hq
    · exact ⟨h1, h01⟩
    · rcases List.mem_cons.mp hq with rfl | hq
      · exact ⟨h2, h02⟩
      · cases hq
  intro g' L' h' F' N' X' T' kp hgs Y'
  try dsimp only
  refine ks_wpAt_execs_cons ?_
  refine ks_wpAt_Return_some ?_
  refine ks_wpAt_MethodCall ?_
  k_steps
  exact hret _ _ _ (kept_two (by k_asm) (by k_asm) h1 h2 kp)
end Mine

end
section -- part V5
open PySem PySem.W PyProof.Rows PySem.Calls
set_option maxRecDepth 100000
namespace Mine
/-! the law's ledger -/
def IsT (o : Obj) : Prop := ∃ a b, o = tupObj a b
def Tups (l : List (Addr × Obj)) : Prop := ∀ q ∈ l, IsT q.2
/-- the places of a row hold pairs that stand in the ledger -/
def RefsL (l : List (Addr × Obj)) (its : Array Value) (f p : Nat → Value) : Prop := its.size = 32 ∧ ∀ i, i < 32 → ∃ t, its[i]? = some (.ref t) ∧ (t, tupObj (f i) (p i)) ∈ l
theorem RefsL.sub {l l' : List (Addr × Obj)} {its : Array Value} {f p : Nat → Value} (r : RefsL l its f p) (h : ∀ q ∈ l, q ∈ l') : RefsL l' its f p := ⟨r.1, fun i hi => let ⟨t, a, b⟩ := r.2 i hi; ⟨t, a, h _ b⟩⟩
theorem RefsL.refs {g h : Heap} {L : Addr} {l : List (Addr × Obj)} {its : Array Value} {f p : Nat → Value} (r : RefsL l its f p) (N : News g L h l) : Refs h its 32 f p := ⟨r.1, fun i hi => let ⟨t, a, b⟩ := r.2 i hi; ⟨t, a, (N _ b).1⟩⟩
theorem news_one {g h : Heap} {L : Addr} {l : List (Addr × Obj)} {a : Addr} {o o' : Obj} (N : News g L h l) (h1 : (a, o) ∈ l) (h2 : (a, o') ∈ l) : o = o' := Option.some.inj ((N _ h1).1.symm.trans (N _ h2).1)
theorem news_ne {g h : Heap} {L : Addr} {l : List (Addr × Obj)} {a b : Addr} {o o' : Obj} (N : News g L h l) (h1 : (a, o) ∈ l) (h2 : (b, o') ∈ l) (n : o ≠ o') : a ≠ b := fun e => n (news_one N h1 (e ▸ h2))
theorem news_sub {g h : Heap} {L : Addr} {l l' : List (Addr × Obj)} (N : News g L h l) (hs : ∀ q ∈ l', q ∈ l) : News g L h l' := fun q hq => N q (hs q hq)
/-- a row of new pairs as a piece of the ledger -/
theorem refs_list {g h h' : Heap} {L : Addr} {m : Str → Option Value} {its : Array Value} {f p : Nat → Value} (F : Fr g L h m) (R : RefsN h h' its 32 f p) :
    ∃ l : List (Addr × Obj), Tups l ∧ RefsL l its f p ∧ (∀ q ∈ l, h'.get? q.1 = some q.2 ∧ h.get? q.1 = none ∧ q.1 ≠ L ∧ g.get? q.1 = none) := by
  obtain ⟨Ts, hT⟩ : ∃ Ts : Nat → Addr, ∀ i, i < 32 → its[i]? = some (.ref (Ts i)) ∧ h'.get? (Ts i) = some (tupObj (f i) (p i)) ∧ h.get? (Ts i) = none := by
    classical
    refine ⟨fun i => if q : i < 32 then Classical.choose (R.2 i q) else 0, fun i q => ?_⟩
    simp only [dif_pos q]
    exact Classical.choose_spec (R.2 i q)
  refine ⟨(List.range 32).map fun i => (Ts i, tupObj (f i) (p i)), ?_, ⟨R.1, fun i hi => ⟨Ts i, (hT i hi).1, List.mem_map.mpr ⟨i, List.mem_range.mpr hi, rfl⟩⟩⟩, ?_⟩
  · intro q hq
    obtain ⟨i, _, rfl⟩ := List.mem_map.mp hq
    exact ⟨_, _, rfl⟩
  · intro q hq
    obtain ⟨i, hi, rfl⟩ := List.mem_map.mp hq
    have a := hT i (List.mem_range.mp hi)
    refine ⟨a.2.1, a.2.2, ?_, ?_⟩
    · rintro rfl
      obtain ⟨oL, es, ep, hL, _⟩ := F.ns
      have := a.2.2
      rw [hL] at this; cases this
    · cases e : g.get? (Ts i) with
      | none => rfl
      | some o => have := F.keep _ _ e; rw [a.2.2] at this; cases this
/-- the ledger behind a call that turned d alone and made a row of pairs -/
theorem ledger_row {g h h' : Heap} {L d : Addr} {m : Str → Option Value} {o o' : Obj} {others : List (Addr × Obj)} {its : Array Value} {f p : Nat → Value} (F : Fr g L h m) (N : News g L h ((d, o) :: others)) (hne : ∀ q ∈ others, q.1 ≠ d)
    (hk : ∀ b x, b ≠ d → h.get? b = some x → h'.get? b = some x) (hd : h'.get? d = some o') (R : RefsN h h' its 32 f p) :
    ∃ ext, Fr g L h' m ∧ News g L h' ((d, o') :: (ext ++ others)) ∧ Tups ext ∧ RefsL ext its f p ∧ (∀ q ∈ ext, h.get? q.1 = none) := by
  obtain ⟨l, hT, hR, hl⟩ := refs_list F R
  have z := N _ (.head _)
  obtain ⟨oL, es, ep, hL, hr⟩ := F.ns
  refine ⟨l, ⟨⟨oL, es, ep, hk _ _ (Ne.symm z.2.1) hL, hr⟩, fun b x e => hk b x (fun q => by rw [q, z.2.2] at e; cases e) (F.keep b x e), F.above⟩, ?_, hT, hR, fun q hq => (hl q hq).2.1⟩
  intro q hq
  rcases List.mem_cons.mp hq with rfl | hq
  · exact ⟨hd, z.2⟩
  · rcases List.mem_append.mp hq with hq | hq
    · exact ⟨(hl q hq).1, (hl q hq).2.2⟩
    · exact ⟨hk _ _ (hne q hq) (N q (.tail _ hq)).1, (N q (.tail _ hq)).2⟩
section
variable {w : World} {mg mb : Str → Option Value} {A : Around} {E : Value → Shared → Prop} {s : Shared} {g : Heap} {L d dd : Addr} {m : Str → Option Value} {others : List (Addr × Obj)} {its : Array Value} {n k : Nat} {es : List DictEntry} {f p : Nat → Value}
theorem shufG {tb : Tok} {b : Nat} {Q : Value → Shared → Prop} (F : Fr g L s.heap m) (X₀ : (Mine.hd.heap_1 w.params).In g) (T₀ : TopRead VV LL mg mb g) (Y₀ : KIn w g) (N : News g L s.heap ((d, deckObj dd its n) :: others)) (hdd : (dd, dictOf es k) ∈ others)
    (hne : ∀ q ∈ others, q.1 ≠ d) (hlt : @LT.lt Nat _ dd d) (hlA : getL "append" es = some none) (hlP : getL "push" es = some none) (hlF : getL "pop_from" es = some none) (hR : RefsL others its f p) (hb : b ≤ 1)
    (hh : A.handled = none) (hdp : A.depth + 20 < recursionLimit) (hun : A.units + 200 < cLine)
    (h : ∀ its' n' ext h' tk', Fr g L h' m → News g L h' ((d, deckObj dd its' n') :: (ext ++ others)) → Tups ext → RefsL ext its' (fun j => f (sig b j)) (fun j => p (sig b j)) → (∀ q ∈ ext, s.heap.get? q.1 = none) → Q .none { s with heap := h', toks := tk' }) :
    wpAny (model PP w) A (call (.ref 160) [.ref d, .int (b : Int) tb]) Q E s := by
  obtain ⟨hd0, dp, fr, gd, un⟩ := A
  dsimp only at hh hdp hun
  subst hh
  have hRs : Refs s.heap its 32 f p := (hR.sub fun q hq => List.mem_cons_of_mem _ hq).refs N
  rcases (show b = 0 ∨ b = 1 by omega) with rfl | rfl
  · refine shuffle_abs0 ⟨X₀, T₀, Y₀⟩ F.keep (N _ (.head _)).1 (N _ (.tail _ hdd)).1 (N _ (.head _)).2.2 (N _ (.tail _ hdd)).2.2 hlt hlA hlP hlF hRs hdp hun fun its' n' h' tk' hk hd R => ?_
    obtain ⟨ext, F', N', hT, hR', hnew⟩ := ledger_row F N hne hk hd R
    exact h its' n' ext h' tk' F' N' hT hR' hnew
  · refine shuffle_abs1 ⟨X₀, T₀, Y₀⟩ F.keep (N _ (.head _)).1 (N _ (.tail _ hdd)).1 (N _ (.head _)).2.2 (N _ (.tail _ hdd)).2.2 hlt hlA hlP hlF hRs hdp hun fun its' n' h' tk' hk hd R => ?_
    obtain ⟨ext, F', N', hT, hR', hnew⟩ := ledger_row F N hne hk hd R
    exact h its' n' ext h' tk' F' N' hT hR' hnew
end
/-! a for over a list that stands in the ledger -/
section
variable {prog : Program} {w : World} {A : Around} {E : Value → Shared → Prop} {s : Shared} {g : Heap} {env : Env} {m : Str → Option Value} {news : List (Addr × Obj)}
theorem list_loop {Q : Flow → Shared → Prop} {x : Str} {px : Pos} {body : List Stmt} {l : Addr} {arr : Array Value} {c n : Nat}
    (hh : A.handled = none) (hx : env.kindOf x = some .local)
    (hp : (env.scope.kind == .class || (env.scope.kind == .module && env.locals != env.globals)) = false)
    (F : Fr g env.locals s.heap m) (N : News g env.locals s.heap news) (hsz : arr.size = n)
    (J : Nat → (Str → Option Value) → List (Addr × Obj) → Prop) (h0 : J 0 m news) (hJ : ∀ i m news, J i m news → (l, listOf arr c) ∈ news)
    (turn : ∀ i it oi m₁ news₁ h tk v, i < n → arr[i]? = some v → J i m₁ news₁ → AllNe it news₁ → Fr g env.locals h (fun y => if y = x then some v else m₁ y) →
      News g env.locals h ((it, oi) :: news₁) →
      wpAny (model prog w) A (execs body env) (fun f s₂ => f = .next ∧ ∃ h' tk' m₂ news₂, s₂ = { s with heap := h', toks := tk' } ∧ Fr g env.locals h' m₂ ∧ News g env.locals h' ((it, oi) :: news₂) ∧ AllNe it news₂ ∧ J (i + 1) m₂ news₂) (fun _ _ => False) { s with heap := h, toks := tk })
    (done : ∀ m₁ news₁ h tk, J n m₁ news₁ → Fr g env.locals h m₁ → News g env.locals h news₁ → Q .next { s with heap := h, toks := tk }) :
    wpAny (model prog w) A (pyIter (.ref l)) (fun it s₂ =>
      codeAny (model prog w) A (.forLoop (.Name x px) it body [] env) (fun r s' => match r with | .ok f => Q f s' | .error e => cameBackBy (model prog w) A env E e s') s₂) E s := by
  have hl0 : s.heap.IsList l arr := ⟨_, (N _ (hJ _ _ _ h0)).1, rfl, _, rfl⟩
  refine wpAny_pyIter_list hl0 ?_
  have N0 := N.push F { cls := .type "list_iterator", data := .fields #[.ref l, .int 0 0] }
  have A0 : AllNe s.heap.objs.size news := allNe_of fun p hp => Nat.ne_of_lt (Heap.lt_size (N p hp).1)
  have F0 := F.push { cls := .type "list_iterator", data := .fields #[.ref l, .int 0 0] }
  generalize hit : s.heap.objs.size = it at N0 A0 ⊢
  generalize s.heap.push { cls := .type "list_iterator", data := .fields #[.ref l, .int 0 0] } = H at N0 F0 ⊢
  refine codeAny_forLoop
    (fun k s' => ∃ h' tk m' news' i oi, s' = { s with heap := h', toks := tk } ∧ Fr g env.locals h' m' ∧ News g env.locals h' ((it, oi) :: news') ∧ (oi.cls = .type "list_iterator" ∧ oi.data = .fields #[.ref l, .int (i : Nat) 0]) ∧ AllNe it news' ∧ J i m' news' ∧ i ≤ n ∧ k = n + 1 - i) ?_ (n + 1)
    ⟨_, s.toks, m, news, 0, _, rfl, F0, N0, ⟨rfl, rfl⟩, A0, h0, Nat.zero_le _, rfl⟩
  rintro k s' ⟨h', tk, m', news', i, oi, rfl, F', N', ⟨oc, od⟩, A', hJi, hi, rfl⟩
  have I := N' _ (.head _)
  have hIL : it ≠ env.locals := I.2.1
  have hIt : h'.IsListIter it l i := ⟨oi, I.1, oc, od⟩
  have hrow : IsRow h' l arr := ⟨_, _, (N' _ (.tail _ (hJ _ _ _ hJi))).1, rfl⟩
  by_cases hlt : i < n
  · obtain ⟨v, hv⟩ : ∃ v, arr[i]? = some v := ⟨arr[i], by simp [hsz ▸ hlt]⟩
    refine next_item (s := { s with heap := h', toks := tk }) hIt hrow hv fun h₁ hit₁ hs₁ => ?_
    replace hs₁ : Heap.SameBut it h' h₁ := hs₁
    obtain ⟨oi₁, ho₁, hc₁, hd₁⟩ := hit₁
    have F₁ : Fr g env.locals h₁ m' := F'.change hs₁ I.2.1 I.2.2
    have N₁ : News g env.locals h₁ ((it, oi₁) :: news') := fun p hp => by
      rcases List.mem_cons.mp hp with rfl | hp
      · exact ⟨ho₁, I.2⟩
      · have P := N' p (.tail _ hp)
        exact ⟨(hs₁.2 _ (A'.mem p hp)).trans P.1, P.2⟩
    refine wpAny_assign_Name (wpAny_storeName_local hx F₁.ns (fun h₂ hn₂ hs₂ => ?_) hp)
    refine wpAny_mono (turn i it oi₁ m' news' h₂ _ v hlt hv hJi A' (F₁.set hn₂ hs₂) (N₁.set hs₂)) (fun f s₃ h₃ => ?_) fun _ _ e => e.elim
    obtain ⟨rfl, h₃', tk₃, m₂, news₂, rfl, F₃, N₃, A₃, J₃⟩ := h₃
    exact ⟨n + 1 - (i + 1), by omega, h₃', tk₃, m₂, news₂, i + 1, oi₁, rfl, F₃, N₃, ⟨hc₁, by rw [hd₁]⟩, A₃, J₃, hlt, rfl⟩
  · have hin : i = n := by omega
    subst hin
    refine next_end (s := { s with heap := h', toks := tk }) hh hIt hrow (by simp [hsz]) fun h₁ he₁ => wpAny_execs_nil ?_
    replace he₁ : Heap.ExtBut it h' h₁ := he₁
    refine done m' news' h₁ tk hJi ⟨F'.ns.extBut he₁ (Ne.symm hIL), fun b o e => he₁ b o (fun q => by rw [q, I.2.2] at e; cases e) (F'.keep b o e), F'.above⟩ ?_
    exact news_keep (fun p hp => N' p (.tail _ hp)) fun p hp o e => he₁ _ o (A'.mem p hp) e
end
end Mine

end
section -- part V6
open PySem PySem.W PyProof.Rows PySem.Calls PySem.SeqAt
set_option maxRecDepth 100000
namespace Mine
/-- where the card of a place lay before the first turns -/
def cmp (b : Nat → Nat) : Nat → Nat → Nat
  | 0, j => j
  | i + 1, j => cmp b i (sig ((b i : Nat) : Int) j)
theorem allNe_mem {l : Addr} {r : List (Addr × Obj)} (h : ∀ q ∈ r, q.1 ≠ l) : AllNe l r := allNe_of h
section
variable {prog : Program} {w : World} {A : Around} {E : Value → Shared → Prop} {s : Shared} {g : Heap} {env : Env} {m : Str → Option Value} {others : List (Addr × Obj)} {d dd : Addr} {es : List DictEntry} {k n0 : Nat} {its : Array Value} {f p : Nat → Value}
theorem turn_loop {Q : Flow → Shared → Prop} {px : Pos} {body : List Stmt} {l : Addr} {arr : Array Value} {c n : Nat} {b : Nat → Nat}
    (hh : A.handled = none) (hx : env.kindOf (Str.ofString "turn") = some .local)
    (hp : (env.scope.kind == .class || (env.scope.kind == .module && env.locals != env.globals)) = false)
    (F : Fr g env.locals s.heap m) (N : News g env.locals s.heap ((d, deckObj dd its n0) :: others)) (hne : ∀ q ∈ others, q.1 ≠ d) (hsz : arr.size = n) (hl : (l, listOf arr c) ∈ others)
    (hb2 : ∀ j, j < n → ∃ t, arr[j]? = some (.int ((b j : Nat) : Int) t)) (hR : RefsL others its f p)
    (turn : ∀ i it oi h tk its n0 (ext : List (Addr × Obj)) ti, i < n → Fr g env.locals h (fun y => if y = Str.ofString "turn" then some (.int ((b i : Nat) : Int) ti) else m y) →
      News g env.locals h ((d, deckObj dd its n0) :: ((it, oi) :: (ext ++ others))) → (∀ q ∈ (it, oi) :: (ext ++ others), q.1 ≠ d) → RefsL ((it, oi) :: (ext ++ others)) its (fun j => f (cmp b i j)) (fun j => p (cmp b i j)) →
      wpAny (model prog w) A (execs body env) (fun fl s₂ => Done (fl = .next ∧ ∃ its' n' ext' h' tk', s₂ = { s with heap := h', toks := tk' } ∧ Fr g env.locals h' (fun y => if y = Str.ofString "turn" then some (.int ((b i : Nat) : Int) ti) else m y) ∧
        News g env.locals h' ((d, deckObj dd its' n') :: (ext' ++ ((it, oi) :: (ext ++ others)))) ∧ Tups ext' ∧ RefsL ext' its' (fun j => f (cmp b (i + 1) j)) (fun j => p (cmp b (i + 1) j)) ∧ (∀ q ∈ ext', h.get? q.1 = none))) (fun _ _ => False) { s with heap := h, toks := tk })
    (done : ∀ o its' n' ext h tk, Fr g env.locals h (fun y => if y = Str.ofString "turn" then o else m y) → News g env.locals h ((d, deckObj dd its' n') :: (ext ++ others)) → Tups ext → (∀ q ∈ ext, q.1 ≠ d) → RefsL (ext ++ others) its' (fun j => f (cmp b n j)) (fun j => p (cmp b n j)) → Q .next { s with heap := h, toks := tk }) :
    wpAny (model prog w) A (pyIter (.ref l)) (fun it s₂ =>
      codeAny (model prog w) A (.forLoop (.Name (Str.ofString "turn") px) it body [] env) (fun r s' => match r with | .ok f => Q f s' | .error e => cameBackBy (model prog w) A env E e s') s₂) E s := by
  refine list_loop (n := n) (m := m) (c := c) hh hx hp F N hsz
    (fun i m₁ news₁ => (∀ y, y ≠ Str.ofString "turn" → m₁ y = m y) ∧ ∃ its n' ext, news₁ = (d, deckObj dd its n') :: (ext ++ others) ∧ Tups ext ∧ (∀ q ∈ ext, q.1 ≠ d) ∧ RefsL (ext ++ others) its (fun j => f (cmp b i j)) (fun j => p (cmp b i j)))
    ⟨fun _ _ => rfl, its, n0, [], rfl, (fun _ h => nomatch h), (fun _ h => nomatch h), hR⟩ ?_ ?_ ?_
  · rintro i m₁ news₁ ⟨_, its, n', ext, rfl, _⟩
    exact .tail _ (List.mem_append_right _ hl)
  · rintro i it oi m₁ news₁ h tk v hi hv ⟨hm, its, n', ext, rfl, hT, hed, hRi⟩ hit F₁ N₁
    obtain ⟨ti, e⟩ := hb2 i hi
    rw [e] at hv; cases hv
    have em : (fun y => if y = Str.ofString "turn" then some (Value.int ((b i : Nat) : Int) ti) else m₁ y) = (fun y => if y = Str.ofString "turn" then some (Value.int ((b i : Nat) : Int) ti) else m y) := by
      funext y
      by_cases q : y = Str.ofString "turn"
      · rw [if_pos q, if_pos q]
      · rw [if_neg q, if_neg q]; exact hm y q
    rw [em] at F₁
    have hitd : it ≠ d := Ne.symm hit.1
    have hall : ∀ q ∈ (it, oi) :: (ext ++ others), q.1 ≠ d := fun q hq => by
      rcases List.mem_cons.mp hq with rfl | hq
      · exact hitd
      · rcases List.mem_append.mp hq with hq | hq
        · exact hed q hq
        · exact hne q hq
    refine wpAny_mono (turn i it oi h tk its n' ext ti hi F₁ (news_sub N₁ fun q hq => by simp only [List.mem_cons] at hq ⊢; rcases hq with h | h | h <;> simp [h]) hall (hRi.sub fun q hq => .tail _ hq)) (fun f s₂ q => ?_) fun _ _ e => e
    obtain ⟨rfl, its', n'', ext', h', tk', rfl, F', N', hT', hR', hnew⟩ := q.out
    refine ⟨rfl, h', tk', _, (d, deckObj dd its' n'') :: ((ext' ++ ext) ++ others), rfl, F', ?_, ?_, ?_⟩
    · refine news_sub N' fun q hq => ?_
      simp only [List.mem_cons, List.mem_append] at hq ⊢
      rcases hq with h | h | (h | h) | h <;> simp [h]
    · refine ⟨hit.1, allNe_of fun q hq => ?_⟩
      rcases List.mem_append.mp hq with hq | hq
      · rcases List.mem_append.mp hq with hq | hq
        · intro e
          have := hnew q hq
          rw [e, (N₁ _ (.head _)).1] at this; cases this
        · exact hit.2.mem q (List.mem_append_left _ hq)
      · exact hit.2.mem q (List.mem_append_right _ hq)
    · refine ⟨fun y q => if_neg q, its', n'', ext' ++ ext, rfl, ?_, ?_, hR'.sub fun q hq => List.mem_append_left _ (List.mem_append_left _ hq)⟩
      · intro q hq
        rcases List.mem_append.mp hq with hq | hq
        · exact hT' q hq
        · exact hT q hq
      · intro q hq
        rcases List.mem_append.mp hq with hq | hq
        · intro e
          have := hnew q hq
          rw [e, (N₁ _ (.tail _ (.head _))).1] at this; cases this
        · exact hed q hq
  · rintro m₁ news₁ h tk ⟨hm, its', n', ext, rfl, hT, hed, hRi⟩ F₁ N₁
    have em : m₁ = (fun y => if y = Str.ofString "turn" then m₁ (Str.ofString "turn") else m y) := by
      funext y
      by_cases q : y = Str.ofString "turn"
      · rw [if_pos q, q]
      · rw [if_neg q]; exact hm y q
    rw [em] at F₁
    exact done _ its' n' ext h tk F₁ N₁ hT hed hRi
end
/-! comparing rows of pairs -/
def pairData (fs ps : Nat → Str) (j : Nat) : PyData := .tuple [.str (fs j), .str (ps j)]
def rowData (fs ps : Nat → Str) : PyData := .list ((List.range 32).map (pairData fs ps))
theorem canLay_row (fs ps : Nat → Str) (h : ∀ j, PyData.strOk (fs j) = true ∧ PyData.strOk (ps j) = true) : ∀ l : List Nat, PyData.canLayAll0 (l.map (pairData fs ps)) = true
  | [] => by simp [PyData.canLayAll0]
  | j :: r => by simp [PyData.canLayAll0, PyData.canLay0, pairData, (h j).1, (h j).2, canLay_row fs ps h r]
theorem depth_row (fs ps : Nat → Str) : ∀ l : List Nat, PyData.depthAll (l.map (pairData fs ps)) ≤ 1
  | [] => by simp [PyData.depthAll]
  | j :: r => by
    have := depth_row fs ps r
    simp only [List.map_cons, PyData.depthAll, PyData.depth, pairData]
    omega
theorem shaped_pair (fs ps : Nat → Str) (h : ∀ j, PyData.strOk (fs j) = true ∧ PyData.strOk (ps j) = true) (j : Nat) : shaped (pairData fs ps j) = true := by
  show (PyData.canLay0 _ && decide (PyData.depth _ ≤ 64)) = true
  rw [Bool.and_eq_true]
  exact ⟨by simp [PyData.canLay0, PyData.canLayAll0, pairData, (h j).1, (h j).2], decide_eq_true (by simp [PyData.depth, PyData.depthAll, pairData])⟩
theorem shaped_row (fs ps : Nat → Str) (h : ∀ j, PyData.strOk (fs j) = true ∧ PyData.strOk (ps j) = true) : shaped (rowData fs ps) = true := by
  have h1 := depth_row fs ps (List.range 32)
  show (PyData.canLay0 _ && decide (PyData.depth _ ≤ 64)) = true
  rw [Bool.and_eq_true]
  exact ⟨by simp only [PyData.canLay0, rowData]; exact canLay_row fs ps h _, decide_eq_true (by simp only [PyData.depth, rowData]; omega)⟩
theorem eqv_pair (fs ps : Nat → Str) (j : Nat) : PyData.eqv (pairData fs ps j) (pairData fs ps j) = true := by
  simp [PyData.eqv, PyData.eqvAll, pairData]
theorem eqv_rows (fs ps : Nat → Str) : ∀ l : List Nat, PyData.eqvAll (l.map (pairData fs ps)) (l.map (pairData fs ps)) = true
  | [] => by simp [PyData.eqvAll]
  | j :: r => by simp [PyData.eqvAll, eqv_pair, eqv_rows fs ps r]
theorem eqv_row (fs ps : Nat → Str) : PyData.eqv (rowData fs ps) (rowData fs ps) = true := by
  simp only [rowData, PyData.eqv]; exact eqv_rows fs ps _
theorem reads_pair {h : Heap} {t : Addr} {f p : Value} {x y : Str} (ht : h.get? t = some (tupObj f p)) (hf : ∃ u, f = .str x u) (hp : ∃ u, p = .str y u) : ∃ as, Reads h (.ref t) (.tuple [.str x, .str y]) as := by
  obtain ⟨u, rfl⟩ := hf
  obtain ⟨v, rfl⟩ := hp
  exact ⟨_, Reads.tuple ht rfl rfl (.cons (.str _ _) (.cons (.str _ _) .nil))⟩
theorem reads_rows {h : Heap} {fs ps : Nat → Str} : ∀ (l : List Value) (k : Nat), (∀ j, j < l.length → ∃ t f p, l[j]? = some (.ref t) ∧ h.get? t = some (tupObj f p) ∧ (∃ u, f = .str (fs (k + j)) u) ∧ (∃ u, p = .str (ps (k + j)) u)) → ∃ as, ReadsAll h l ((List.range' k l.length).map (pairData fs ps)) as
  | [], _, _ => ⟨_, .nil⟩
  | v :: l, k, hv => by
    obtain ⟨t, f, p, e, ht, hf, hp⟩ := hv 0 (by simp)
    simp only [List.getElem?_cons_zero, Option.some.injEq] at e
    subst e
    obtain ⟨a1, r1⟩ := reads_pair ht hf hp
    obtain ⟨a2, r2⟩ := reads_rows l (k + 1) (fun j hj => by
      obtain ⟨t, f, p, e, z⟩ := hv (j + 1) (by simpa using hj)
      exact ⟨t, f, p, by simpa using e, by simpa [Nat.add_comm, Nat.add_left_comm, Nat.add_assoc] using z⟩)
    exact ⟨_, .cons r1 r2⟩
theorem reads_row {h : Heap} {D : Addr} {xs : Array Value} {c : Nat} {f p : Nat → Value} {fs ps : Nat → Str} (hD : h.get? D = some (listOf xs c)) (R : Refs h xs 32 f p) (hP : ∀ j, j < 32 → (∃ u, f j = .str (fs j) u) ∧ (∃ u, p j = .str (ps j) u)) :
    ∃ as, Reads h (.ref D) (rowData fs ps) as := by
  obtain ⟨as, r⟩ := reads_rows (h := h) (fs := fs) (ps := ps) xs.toList 0 (fun j hj => by
    have hj32 : j < 32 := by rw [← R.1]; simpa using hj
    obtain ⟨t, e, ht⟩ := R.2 j hj32
    exact ⟨t, _, _, by simpa using e, ht, by simpa using (hP j hj32).1, by simpa using (hP j hj32).2⟩)
  rw [Array.length_toList, R.1, ← List.range_eq_range'] at r
  exact ⟨_, Reads.list hD rfl rfl r⟩
section
variable {prog : Program} {w : World} {A : Around} {E : Value → Shared → Prop} {s : Shared}
theorem ne_rows {a b : Addr} {xs ys : Array Value} {c1 c2 : Nat} {f p f' p' : Nat → Value} {fs ps : Nat → Str} {Q : Value → Shared → Prop} (ha : s.heap.get? a = some (listOf xs c1)) (hb : s.heap.get? b = some (listOf ys c2)) (R : Refs s.heap xs 32 f p) (R' : Refs s.heap ys 32 f' p')
    (hP : ∀ j, j < 32 → (∃ u, f j = .str (fs j) u) ∧ (∃ u, p j = .str (ps j) u)) (hP' : ∀ j, j < 32 → (∃ u, f' j = .str (fs j) u) ∧ (∃ u, p' j = .str (ps j) u)) (hok : ∀ j, PyData.strOk (fs j) = true ∧ PyData.strOk (ps j) = true) (hu : A.units + 64 < cLine)
    (h : Q (.bool false) s) : wpAny (model prog w) A (compareOp .NotEq (.ref a) (.ref b)) Q E s := by
  obtain ⟨_, r1⟩ := reads_row ha R hP
  obtain ⟨_, r2⟩ := reads_row hb R' hP'
  refine compareNe_shaped r1 r2 (shaped_row fs ps hok) (shaped_row fs ps hok) hu ?_
  rw [eqv_row]; exact h
theorem eq_pairs {a b : Addr} {x y x' y' : Value} {fs ps : Nat → Str} {j : Nat} {Q : Value → Shared → Prop} (ha : s.heap.get? a = some (tupObj x y)) (hb : s.heap.get? b = some (tupObj x' y'))
    (h1 : (∃ u, x = .str (fs j) u) ∧ (∃ u, y = .str (ps j) u)) (h2 : (∃ u, x' = .str (fs j) u) ∧ (∃ u, y' = .str (ps j) u)) (hok : ∀ j, PyData.strOk (fs j) = true ∧ PyData.strOk (ps j) = true) (hu : A.units + 64 < cLine)
    (h : Q (.bool true) s) : wpAny (model prog w) A (compareOp .Eq (.ref a) (.ref b)) Q E s := by
  obtain ⟨_, r1⟩ := reads_pair ha h1.1 h1.2
  obtain ⟨_, r2⟩ := reads_pair hb h2.1 h2.2
  refine compareEq_shaped r1 r2 (shaped_pair fs ps hok j) (shaped_pair fs ps hok j) hu ?_
  have := eqv_pair fs ps j
  unfold pairData at this
  rw [this]; exact h
end
end Mine

end
section -- part V7
open PySem PySem.W PyProof.Rows PySem.Calls PySem.SeqAt
set_option maxRecDepth 100000
namespace Mine
theorem paired_get {α β : Type} {F : α → β → Prop} : ∀ {l₁ : List α} {l₂ : List β}, Paired F l₁ l₂ → ∀ (j : Nat) (a : α), l₁[j]? = some a → ∃ b, l₂[j]? = some b ∧ F a b
  | _, _, .nil, j, a, h => by simp at h
  | _, _, .cons h r, 0, a, e => by simp at e; subst e; exact ⟨_, by simp, h⟩
  | _, _, .cons h r, j + 1, a, e => by
    obtain ⟨b, h1, h2⟩ := paired_get r j a (by simpa using e)
    exact ⟨b, by simpa using h1, h2⟩
section
variable {prog : Program} {w : World} {A : Around} {E : Value → Shared → Prop} {s : Shared} {env : Env} {elt : Expr} {x : Str} {scope : Scope} {cl : List (Str × Addr)} {Q : Value → Shared → Prop}
theorem comp_core {I : Addr} {fp : List Addr} {n : Nat} {P : Nat → Value → Prop} {St : Nat → Heap → Prop} {ito : Obj} (hI : I = s.heap.objs.size) (W : Walks prog w A I fp [I] n P St) (hsz : n ≤ sizeLine) (hst : St 0 (s.heap.push ito)) (hfp : ∀ b ∈ fp, b < (s.heap.push ito).objs.size)
    (R : Value → Value → Prop)
    (helt : ∀ (C : Addr) (i : Nat) (v : Value) (s₃ : Shared) m₃ E', s.heap.objs.size ≤ C → P i v → s₃.heap.Ns C m₃ → m₃ x = some v → (∀ b o, s.heap.get? b = some o → s₃.heap.get? b = some o) → wpAny (model prog w) A (eval elt (compEnvC scope cl C env)) (fun y s₄ => R v y ∧ Keeps s₃ s₄) E' s₃)
    (hQ : ∀ D h' tk (ys : Array Value) (vs : List Value), s.heap.get? D = none → h'.PlainList D ys → vs.length = n → (∀ (j : Nat) (v : Value), vs[j]? = some v → P j v) → ys.size = n → (∀ (j : Nat) (v : Value), vs[j]? = some v → ∃ y, ys[j]? = some y ∧ R v y) → (∀ b o, s.heap.get? b = some o → h'.get? b = some o) → Q (.ref D) { s with heap := h', toks := tk }) :
    ∃ I fp wr n P St, Value.ref s.heap.objs.size = .ref I ∧ Walks prog w A I fp wr n P St ∧ n ≤ sizeLine ∧ St 0 (s.heap.push ito) ∧ (∀ b ∈ fp, b < (s.heap.push ito).objs.size) ∧
      QuietOnC prog w A env scope cl x [] elt wr P (fun _ => true) R { s with heap := s.heap.push ito } ∧
      (∀ D h' tk ys (vs : List Value), (s.heap.push ito).get? D = none → h'.IsList D ys → h'.PlainList D ys → vs.length = n → (∀ (j : Nat) (v : Value), vs[j]? = some v → P j v) → Paired R (vs.filter (fun _ => true)) ys.toList →
        (∀ b o, b ∉ wr → (s.heap.push ito).get? b = some o → h'.get? b = some o) → Q (.ref D) { s with heap := h', toks := tk }) := by
  subst hI
  have up : ∀ (h₃ : Heap), (∀ b o, b ∉ [s.heap.objs.size] → (s.heap.push ito).get? b = some o → h₃.get? b = some o) → ∀ b o, s.heap.get? b = some o → h₃.get? b = some o :=
    fun h₃ hk b o e => hk b o (fun hm => by rcases List.mem_cons.mp hm with rfl | hm; exact Nat.lt_irrefl _ (Heap.lt_size e); cases hm) (Heap.get?_push_of_some _ e)
  refine ⟨_, fp, _, n, P, St, rfl, W, hsz, hst, hfp, ⟨?_, ?_⟩, ?_⟩
  · intro C i v s₃ m₃ E' hC hP hn hm hk _
    show wpAny _ _ (pure true) _ _ _
    exact wpAny_pure ⟨rfl, s₃.heap, s₃.toks, rfl, fun _ _ e => e⟩
  · intro C i v s₃ m₃ E' hC hP _ hn hm hk _
    exact helt C i v s₃ m₃ E' (Nat.le_trans (by show s.heap.objs.size ≤ (s.heap.push ito).objs.size; rw [Heap.size_push]; exact Nat.le_succ _) hC) hP hn hm (up s₃.heap hk)
  · intro D h' tk ys vs hD _ hpl hlen hP hF hk
    have hf : vs.filter (fun _ => true) = vs := List.filter_eq_self.mpr fun _ _ => rfl
    rw [hf] at hF
    refine hQ D h' tk ys vs ?_ hpl hlen hP ?_ (fun j v e => ?_) (up h' hk)
    · cases e : s.heap.get? D with
      | none => rfl
      | some o => rw [Heap.get?_push_of_some _ e] at hD; cases hD
    · have h1 := hF.length
      have h2 : ys.toList.length = ys.size := Array.length_toList
      omega
    · obtain ⟨y, h1, h2⟩ := paired_get hF j v e
      exact ⟨y, by simpa using h1, h2⟩
theorem comp_row {l : Addr} {items : Array Value} (hh : A.handled = none) (hl : IsRow s.heap l items) (hsz : items.size ≤ sizeLine) (R : Value → Value → Prop)
    (helt : ∀ (C : Addr) (i : Nat) (v : Value) (s₃ : Shared) m₃ E', s.heap.objs.size ≤ C → items[i]? = some v → s₃.heap.Ns C m₃ → m₃ x = some v → (∀ b o, s.heap.get? b = some o → s₃.heap.get? b = some o) → wpAny (model prog w) A (eval elt (compEnvC scope cl C env)) (fun y s₄ => R v y ∧ Keeps s₃ s₄) E' s₃)
    (hQ : ∀ D h' tk (ys : Array Value) c, s.heap.get? D = none → h'.get? D = some (listOf ys c) → ys.size = items.size → (∀ (j : Nat) (v : Value), items[j]? = some v → ∃ y, ys[j]? = some y ∧ R v y) → (∀ b o, s.heap.get? b = some o → h'.get? b = some o) → Q (.ref D) { s with heap := h', toks := tk }) :
    ∃ I fp wr n P St, Value.ref s.heap.objs.size = .ref I ∧ Walks prog w A I fp wr n P St ∧ n ≤ sizeLine ∧ St 0 (s.heap.push { cls := .type "list_iterator", data := .fields #[.ref l, .int 0 0] }) ∧ (∀ b ∈ fp, b < (s.heap.push { cls := .type "list_iterator", data := .fields #[.ref l, .int 0 0] }).objs.size) ∧
      QuietOnC prog w A env scope cl x [] elt wr P (fun _ => true) R { s with heap := s.heap.push { cls := .type "list_iterator", data := .fields #[.ref l, .int 0 0] } } ∧
      (∀ D h' tk ys (vs : List Value), (s.heap.push { cls := .type "list_iterator", data := .fields #[.ref l, .int 0 0] }).get? D = none → h'.IsList D ys → h'.PlainList D ys → vs.length = n → (∀ (j : Nat) (v : Value), vs[j]? = some v → P j v) → Paired R (vs.filter (fun _ => true)) ys.toList →
        (∀ b o, b ∉ wr → (s.heap.push { cls := .type "list_iterator", data := .fields #[.ref l, .int 0 0] }).get? b = some o → h'.get? b = some o) → Q (.ref D) { s with heap := h', toks := tk }) := by
  obtain ⟨ol, nl, hol, hdl⟩ := id hl
  have hlt := Heap.lt_size hol
  refine comp_core rfl (walks_row hh _ l (Nat.ne_of_lt hlt) items) hsz ⟨⟨_, Heap.get?_push_size _ rfl, rfl, rfl⟩, hl.at fun o e => Heap.get?_push_of_some _ e⟩ ?_ R helt fun D h' tk ys vs hD hpl hlen hP hys hR hk => ?_
  · intro b hb
    rw [Heap.size_push]
    rcases List.mem_cons.mp hb with rfl | hb
    · exact Nat.lt_succ_self _
    · rcases List.mem_cons.mp hb with rfl | hb
      · exact Nat.lt_succ_of_lt hlt
      · cases hb
  · obtain ⟨c, hc⟩ := hpl
    refine hQ D h' tk ys c hD hc hys (fun j v e => ?_) hk
    have hj : j < items.size := by
      rcases Nat.lt_or_ge j items.size with h | h
      · exact h
      · rw [Array.getElem?_eq_none h] at e; cases e
    obtain ⟨v', hv'⟩ : ∃ v', vs[j]? = some v' := ⟨vs[j]'(by omega), by simp⟩
    have := hP j v' hv'
    rw [e] at this; cases this
    exact hR j v hv'
theorem comp_range {n : Nat} (hh : A.handled = none) (hsz : n ≤ sizeLine) (R : Value → Value → Prop)
    (helt : ∀ (C : Addr) (i : Nat) (v : Value) (s₃ : Shared) m₃ E', s.heap.objs.size ≤ C → (i < n ∧ ∃ t, v = .int ((i : Nat) : Int) t) → s₃.heap.Ns C m₃ → m₃ x = some v → (∀ b o, s.heap.get? b = some o → s₃.heap.get? b = some o) → wpAny (model prog w) A (eval elt (compEnvC scope cl C env)) (fun y s₄ => R v y ∧ Keeps s₃ s₄) E' s₃)
    (hQ : ∀ D h' tk (ys : Array Value) c, s.heap.get? D = none → h'.get? D = some (listOf ys c) → ys.size = n → (∀ j, j < n → ∃ t y, ys[j]? = some y ∧ R (.int ((j : Nat) : Int) t) y) → (∀ b o, s.heap.get? b = some o → h'.get? b = some o) → Q (.ref D) { s with heap := h', toks := tk }) :
    ∃ I fp wr n' P St, Value.ref s.heap.objs.size = .ref I ∧ Walks prog w A I fp wr n' P St ∧ n' ≤ sizeLine ∧ St 0 (s.heap.push (riterObj 0 (n : Int))) ∧ (∀ b ∈ fp, b < (s.heap.push (riterObj 0 (n : Int))).objs.size) ∧
      QuietOnC prog w A env scope cl x [] elt wr P (fun _ => true) R { s with heap := s.heap.push (riterObj 0 (n : Int)) } ∧
      (∀ D h' tk ys (vs : List Value), (s.heap.push (riterObj 0 (n : Int))).get? D = none → h'.IsList D ys → h'.PlainList D ys → vs.length = n' → (∀ (j : Nat) (v : Value), vs[j]? = some v → P j v) → Paired R (vs.filter (fun _ => true)) ys.toList →
        (∀ b o, b ∉ wr → (s.heap.push (riterObj 0 (n : Int))).get? b = some o → h'.get? b = some o) → Q (.ref D) { s with heap := h', toks := tk }) := by
  refine comp_core rfl ((Walks.range hh s.heap.objs.size 0 1 n).bound) hsz ?_ ?_ R (fun C i v s₃ m₃ E' hC hP => helt C i v s₃ m₃ E' hC ⟨hP.1, ?_⟩) fun D h' tk ys vs hD hpl hlen hP hys hR hk => ?_
  · have e : ((n : Int) - ((0 : Nat) : Int)) = (n : Int) := by omega
    rw [e]
    exact Heap.get?_push_size _ rfl
  · intro b hb
    rw [Heap.size_push]
    rcases List.mem_cons.mp hb with rfl | hb
    · exact Nat.lt_succ_self _
    · cases hb
  · obtain ⟨t, e⟩ := hP.2
    exact ⟨t, by rw [e]; congr 1; omega⟩
  · obtain ⟨c, hc⟩ := hpl
    refine hQ D h' tk ys c hD hc hys (fun j hj => ?_) hk
    obtain ⟨v', hv'⟩ : ∃ v', vs[j]? = some v' := ⟨vs[j]'(by omega), by simp⟩
    obtain ⟨_, t, e⟩ := hP j v' hv'
    obtain ⟨y, h1, h2⟩ := hR j v' hv'
    have : v' = .int ((j : Nat) : Int) t := by rw [e]; congr 1; omega
    exact ⟨t, y, h1, this ▸ h2⟩
end
end Mine

end
section -- part V8
open PySem PySem.W PyProof.Rows PySem.Calls PySem.SeqAt
set_option maxRecDepth 100000
namespace Mine
theorem enter_defC {w : World} {mg mb : Str → Option Value} {A : Around} {s : Shared} {h₀ : Heap} {news : List (Addr × Obj)}
    {R : Result → Shared → Prop} {name qual : Str} {params : Arguments} {body : List Stmt} {scope : Scope} {dV kV doc pm cdv ct oc : Value} {an od : Option Addr} {osl : Array (Option Value)} {f : Addr} {args : Args} {binds : List (Str × Value)}
    (G : Ground0 w mg mb h₀) (hk : ∀ b o, h₀.get? b = some o → s.heap.get? b = some o) (hn : ∀ q ∈ news, s.heap.get? q.1 = some q.2 ∧ h₀.get? q.1 = none)
    (ho : (Mine.hd.heap_1 w.params).lookup f = some ⟨oc, od, .func (fnOf name qual params body scope dV kV doc pm an cdv ct), osl⟩) (hcd : codeIn (Mine.hd.heap_1 w.params) cdv qual = true) (hroom : A.depth < recursionLimit)
    (hbind : BindsTo s (fnOf name qual params body scope dV kV doc pm an cdv ct) args binds) (hkind : (binds.all fun y => scope.names.lookup y.1 == some .local || scope.names.lookup y.1 == some .cell) = true)
    (hnd : ((cellsFrom 0 scope.names []).map (·.1)).Nodup)
    (h : ∀ g L' h₁ tk cells, Fr g L' h₁ (bindL (envOfC qual scope L' f cdv).kindOf binds fun _ => none) → News g L' h₁ (cells ++ news) →
      CellsAre (bindC (envOfC qual scope L' f cdv).kindOf binds fun _ => none) (cellsFrom (L' + 1) scope.names []) cells → (Mine.hd.heap_1 w.params).In g → TopRead VV LL mg mb g → (∀ b o, s.heap.get? b = some o → b ∉ news.map (·.1) → g.get? b = some o) → KIn w g →
      wpAny (model PP w) (A.deeper (envOfC qual scope L' f cdv)) (execs body (envOfC qual scope L' f cdv))
        (fun fl s' => R (.ok (.ret (match fl with | .ret v => v | _ => .none))) s') (fun _ _ => False)
        { s with heap := h₁, toks := tk })
    (hco : scope.isCoroutine = false) (hgen : scope.isGenerator = false) (hkk : scope.kind = .function) : codeAny (model PP w) A (.call (.ref f) args) R s := by
  have X := G.X.keeps hk
  have nm : ∀ b o, h₀.get? b = some o → b ∉ news.map (·.1) := fun b o e q => by
    obtain ⟨p, hp, rfl⟩ := List.mem_map.mp q
    rw [(hn p hp).2] at e; cases e
  have st : ∀ b o, h₀.get? b = some o → (hideAll s.heap (news.map (·.1))).get? b = some o := fun b o e => hideAll_get _ (hk b o e) (nm b o e)
  refine codeAny_call_function hroom (X _ _ ho) rfl hco hgen rfl (codeRec_of X hcd) (hbind _ _ _ _ ?_)
  refine wpAny_newFunctionEnv_cells hkk (kindsX hkind _) fun env' he s' x => ?_
  subst he
  refine ⟨((G.T.nolimit.keeps hk)).keeps x.toInCall.keep, codeAny_func ?_⟩
  obtain ⟨h₁, tk, rfl, _⟩ := x.done
  have hk₁ := x.toInCall.keep
  obtain ⟨cells, NC, Y⟩ := Cl.news (h₀ := s.heap) (Nat.le_refl _) fun n c hm => ⟨x.cell n c (lookup_of_mem_nodup (cellsFrom_names scope.names 0 (s.heap.objs.size + 1) [] [] rfl ▸ hnd) hm), x.above n c hm⟩
  refine wpAny_mono (h (hideAll s.heap (news.map (·.1))) s.heap.objs.size h₁ tk cells ⟨x.toInCall.ns, fun b o e => hk₁ b o (of_hideAll _ e), Nat.le_of_eq (hideAll_size _ _)⟩ (fun p hp => ?_) Y (G.X.keeps st) (G.T.keeps st) (fun b o e q => hideAll_get _ e q) (G.Y.keeps st)) (fun fl s' hl => hl) fun _ _ y => y.elim
  rcases List.mem_append.mp hp with hp | hp
  · refine ⟨(NC p hp).1, (NC p hp).2.1, ?_⟩
    cases q : (hideAll s.heap (news.map (·.1))).get? p.1 with
    | none => rfl
    | some o => have := of_hideAll _ q; rw [(NC p hp).2.2] at this; cases this
  · exact ⟨hk₁ _ _ (hn p hp).1, Nat.ne_of_lt (Heap.lt_size (hn p hp).1), hideAll_none _ (List.mem_map_of_mem hp)⟩
end Mine

end
section -- part V9
open PySem PySem.W PyProof.Rows PySem.Calls PySem.SeqAt
set_option maxRecDepth 100000
namespace Mine
section
variable {prog : Program} {w : World} {A : Around} {E : Value → Shared → Prop} {s : Shared} {env : Env} {elt iter : Expr} {x y : Str} {px py : Pos} {scope : Scope} {cl : List (Str × Addr)} {pos spos : Pos} {Q : Flow → Shared → Prop} {g : Heap} {m : Str → Option Value} {news : List (Addr × Obj)}
/-- NAME = [ELT for x in ROW], NAME a local -/
theorem assign_comp_row (R : Value → Value → Prop)
    (hsw : swapsWith (.ListComp elt [⟨.Name x px, iter, [], 0⟩] scope pos) (some (.Name y py)) spos.line env = pure true)
    (hclos : closureFor scope env = pure cl) (hcell : ∀ z ∈ scope.names, z.2 ≠ .cell) (hkind : scope.kind = .function)
    (hnames : ∀ z ∈ scope.names, z.2 = .local → scope.names.lookup z.1 = some .local) (hx : scope.names.lookup x = some .local)
    (hy : env.kindOf y = some .local) (hp : (env.scope.kind == .class || (env.scope.kind == .module && env.locals != env.globals)) = false) (hh : A.handled = none)
    (h : wpAny (model prog w) A (eval iter env) (fun xv s₁ => Done (∃ l, xv = .ref l ∧ wpAny (model prog w) A (pyIter (.ref l)) (fun it s₂ => it = .ref s₁.heap.objs.size ∧ s₂ = { s₁ with heap := s₁.heap.push { cls := .type "list_iterator", data := .fields #[.ref l, .int 0 0] } }) E s₁ ∧
      ∃ items news, IsRow s₁.heap l items ∧ items.size ≤ sizeLine ∧ Fr g env.locals s₁.heap m ∧ News g env.locals s₁.heap news ∧
      (∀ (C : Addr) (i : Nat) (v : Value) (s₃ : Shared) m₃ E', s₁.heap.objs.size ≤ C → items[i]? = some v → s₃.heap.Ns C m₃ → m₃ x = some v → (∀ b o, s₁.heap.get? b = some o → s₃.heap.get? b = some o) → wpAny (model prog w) A (eval elt (compEnvC scope cl C env)) (fun y s₄ => R v y ∧ Keeps s₃ s₄) E' s₃) ∧
      (∀ D h' tk (ys : Array Value) c, Fr g env.locals h' (fun z => if z = y then some (.ref D) else m z) → News g env.locals h' ((D, listOf ys c) :: news) → AllNe D news → ys.size = items.size → (∀ (j : Nat) (v : Value), items[j]? = some v → ∃ y, ys[j]? = some y ∧ R v y) → Q .next { s₁ with heap := h', toks := tk }))) E s)
    (hs : ∀ x, foldedSetIterable iter env x = pure x) :
    wpAny (model prog w) A (exec (.Assign [.Name y py] (.ListComp elt [⟨.Name x px, iter, [], 0⟩] scope pos) spos) env) Q E s := by
  refine wpAny_Assign_ListComp_free (fun _ => true) R hsw hclos hcell hkind hnames hx hy hp (wpAny_mono h (fun xv s₁ h₁ => ?_) fun _ _ e => e) hs
  obtain ⟨l, rfl, hit, items, news, hl, hsz, F, N, helt, hQ⟩ := h₁.out
  refine wpAny_mono hit (fun it s₂ h₂ => ?_) fun _ _ e => e
  obtain ⟨rfl, rfl⟩ := h₂
  obtain ⟨ol, nl, hol, hdl⟩ := id hl
  have hlt := Heap.lt_size hol
  have hLlt := F.ns.lt
  have hIL : s₁.heap.objs.size ≠ env.locals := Nat.ne_of_gt hLlt
  refine ⟨_, _, [s₁.heap.objs.size], items.size, _, _, m, rfl, walks_row hh _ l (Nat.ne_of_lt hlt) items, hsz, ⟨⟨_, Heap.get?_push_size _ rfl, rfl, rfl⟩, hl.at fun o e => Heap.get?_push_of_some _ e⟩, ?_, ?_, ?_, ⟨?_, ?_⟩, ?_⟩
  · intro b hb
    show b < (s₁.heap.push _).objs.size
    rw [Heap.size_push]
    rcases List.mem_cons.mp hb with rfl | hb
    · exact Nat.lt_succ_self _
    · rcases List.mem_cons.mp hb with rfl | hb
      · exact Nat.lt_succ_of_lt hlt
      · cases hb
  · intro hm
    rcases List.mem_cons.mp hm with e | hm
    · exact hIL e.symm
    · cases hm
  · exact (F.push _).ns
  · intro C i v s₃ m₃ E' hC hP hn hm hk _
    show wpAny _ _ (pure true) _ _ _
    exact wpAny_pure ⟨rfl, s₃.heap, s₃.toks, rfl, fun _ _ e => e⟩
  · intro C i v s₃ m₃ E' hC hP _ hn hm hk _
    exact helt C i v s₃ m₃ E' (Nat.le_trans (by show s₁.heap.objs.size ≤ (s₁.heap.push _).objs.size; rw [Heap.size_push]; exact Nat.le_succ _) hC) hP hn hm
      fun b o e => hk b o (fun hm => by rcases List.mem_cons.mp hm with rfl | hm; exact Nat.lt_irrefl _ (Heap.lt_size e); cases hm) (Heap.get?_push_of_some _ e)
  · intro D h' tk ys vs hD _ hpl hlen hP hF hns hk
    replace hD : (s₁.heap.push { cls := .type "list_iterator", data := .fields #[.ref l, .int 0 0] }).get? D = none := hD
    have hf : vs.filter (fun _ => true) = vs := List.filter_eq_self.mpr fun _ _ => rfl
    rw [hf] at hF
    have up : ∀ b o, b ≠ env.locals → s₁.heap.get? b = some o → h'.get? b = some o := fun b o hb e =>
      hk b o hb (fun hm => by rcases List.mem_cons.mp hm with rfl | hm; exact Nat.lt_irrefl _ (Heap.lt_size e); cases hm) (Heap.get?_push_of_some _ e)
    have hD0 : s₁.heap.get? D = none := by
      cases e : s₁.heap.get? D with
      | none => rfl
      | some o => rw [Heap.get?_push_of_some _ e] at hD; cases hD
    have gL : g.get? env.locals = none := by
      cases e : g.get? env.locals with
      | none => rfl
      | some o => exact absurd (Nat.lt_of_lt_of_le (Heap.lt_size e) F.above) (Nat.lt_irrefl _)
    obtain ⟨c, hc⟩ := hpl
    refine hQ D h' tk ys c ⟨hns, fun b o e => up b o (fun q => by rw [q, gL] at e; cases e) (F.keep b o e), F.above⟩ ?_ (allNe_news N hD0) ?_ fun j v e => ?_
    · intro q hq
      rcases List.mem_cons.mp hq with rfl | hq
      · refine ⟨hc, ?_, ?_⟩
        · rintro rfl
          obtain ⟨oL, es, ep, hL, _⟩ := F.ns
          rw [hL] at hD0; cases hD0
        · show g.get? D = none
          cases e : g.get? D with
          | none => rfl
          | some o => have := F.keep _ _ e; rw [hD0] at this; cases this
      · exact ⟨up _ _ (N q hq).2.1 (N q hq).1, (N q hq).2⟩
    · have h1 := hF.length
      have h2 : ys.toList.length = ys.size := Array.length_toList
      omega
    · have hj : j < items.size := by
        rcases Nat.lt_or_ge j items.size with h | h
        · exact h
        · rw [Array.getElem?_eq_none h] at e; cases e
      obtain ⟨v', hv'⟩ : ∃ v', vs[j]? = some v' := ⟨vs[j]'(by omega), by simp⟩
      have := hP j v' hv'
      rw [e] at this; cases this
      obtain ⟨y, h1, h2⟩ := paired_get hF j v hv'
      exact ⟨y, by simpa using h1, h2⟩
end
section
variable {prog : Program} {w : World} {A : Around} {E : Value → Shared → Prop} {s : Shared} {env : Env} {elt iter : Expr} {x : Str} {px : Pos} {scope : Scope} {cl : List (Str × Addr)} {pos : Pos} {Q : Value → Shared → Prop} {g : Heap} {L : Addr} {m : Str → Option Value}
theorem new_listing {h h' : Heap} {D : Addr} {o : Obj} {news : List (Addr × Obj)} (F : Fr g L h m) (N : News g L h news) (hD : h.get? D = none) (hc : h'.get? D = some o) (hk : ∀ b o, h.get? b = some o → h'.get? b = some o) : Fr g L h' m ∧ News g L h' ((D, o) :: news) ∧ AllNe D news :=
  let r := fresh_news F N hk hc hD
  ⟨r.1, r.2, allNe_news N hD⟩
/-- [ELT for x in ROW] -/
theorem eval_comp_row (R : Value → Value → Prop) (hclos : closureFor scope env = pure cl) (hcell : ∀ z ∈ scope.names, z.2 ≠ .cell) (hkind : scope.kind = .function)
    (hnames : ∀ z ∈ scope.names, z.2 = .local → scope.names.lookup z.1 = some .local) (hx : scope.names.lookup x = some .local) (hh : A.handled = none)
    (h : wpAny (model prog w) A (eval iter env) (fun xv s₁ => Done (∃ l, xv = .ref l ∧ wpAny (model prog w) A (pyIter (.ref l)) (fun it s₂ => it = .ref s₁.heap.objs.size ∧ s₂ = { s₁ with heap := s₁.heap.push { cls := .type "list_iterator", data := .fields #[.ref l, .int 0 0] } }) E s₁ ∧
      ∃ items news, IsRow s₁.heap l items ∧ items.size ≤ sizeLine ∧ Fr g L s₁.heap m ∧ News g L s₁.heap news ∧
      (∀ (C : Addr) (i : Nat) (v : Value) (s₃ : Shared) m₃ E', s₁.heap.objs.size ≤ C → items[i]? = some v → s₃.heap.Ns C m₃ → m₃ x = some v → (∀ b o, s₁.heap.get? b = some o → s₃.heap.get? b = some o) → wpAny (model prog w) A (eval elt (compEnvC scope cl C env)) (fun y s₄ => R v y ∧ Keeps s₃ s₄) E' s₃) ∧
      (∀ D h' tk (ys : Array Value) c, Fr g L h' m → News g L h' ((D, listOf ys c) :: news) → AllNe D news → ys.size = items.size → (∀ (j : Nat) (v : Value), items[j]? = some v → ∃ y, ys[j]? = some y ∧ R v y) → Q (.ref D) { s₁ with heap := h', toks := tk }))) E s)
    (hs : ∀ x, foldedSetIterable iter env x = pure x) :
    wpAny (model prog w) A (eval (.ListComp elt [⟨.Name x px, iter, [], 0⟩] scope pos) env) Q E s := by
  refine wpAny_ListComp_free (fun _ => true) R hclos hcell hkind hnames hx (wpAny_mono h (fun xv s₁ h₁ => ?_) fun _ _ e => e) hs
  obtain ⟨l, rfl, hit, items, news, hl, hsz, F, N, helt, hQ⟩ := h₁.out
  refine wpAny_mono hit (fun it s₂ h₂ => ?_) fun _ _ e => e
  obtain ⟨rfl, rfl⟩ := h₂
  refine comp_row hh hl hsz R helt fun D h' tk ys c hD hc hys hR hk => ?_
  obtain ⟨F', N', hne⟩ := new_listing F N hD hc hk
  exact hQ D h' tk ys c F' N' hne hys hR
/-- [ELT for x in range(n)] -/
theorem eval_comp_range {n : Nat} (R : Value → Value → Prop) (hclos : closureFor scope env = pure cl) (hcell : ∀ z ∈ scope.names, z.2 ≠ .cell) (hkind : scope.kind = .function)
    (hnames : ∀ z ∈ scope.names, z.2 = .local → scope.names.lookup z.1 = some .local) (hx : scope.names.lookup x = some .local) (hh : A.handled = none) (hn : n ≤ sizeLine)
    (hsmall : Builtin.Range.small 0 n 1 = true) (hsize : Builtin.Range.rangeSize 0 n 1 = n)
    (h : wpAny (model prog w) A (eval iter env) (fun xv s₁ => Done (∃ r t u v, xv = .ref r ∧ IsRange s₁.heap r 0 n 1 t u v ∧ ∃ news, Fr g L s₁.heap m ∧ News g L s₁.heap news ∧
      (∀ (C : Addr) (i : Nat) (v : Value) (s₃ : Shared) m₃ E', s₁.heap.objs.size ≤ C → (i < n ∧ ∃ t, v = .int ((i : Nat) : Int) t) → s₃.heap.Ns C m₃ → m₃ x = some v → (∀ b o, s₁.heap.get? b = some o → s₃.heap.get? b = some o) → wpAny (model prog w) A (eval elt (compEnvC scope cl C env)) (fun y s₄ => R v y ∧ Keeps s₃ s₄) E' s₃) ∧
      (∀ D h' tk (ys : Array Value) c, Fr g L h' m → News g L h' ((D, listOf ys c) :: news) → AllNe D news → ys.size = n → (∀ j, j < n → ∃ t y, ys[j]? = some y ∧ R (.int ((j : Nat) : Int) t) y) → Q (.ref D) { s₁ with heap := h', toks := tk }))) E s)
    (hs : ∀ x, foldedSetIterable iter env x = pure x) :
    wpAny (model prog w) A (eval (.ListComp elt [⟨.Name x px, iter, [], 0⟩] scope pos) env) Q E s := by
  refine wpAny_ListComp_free (fun _ => true) R hclos hcell hkind hnames hx (wpAny_mono h (fun xv s₁ h₁ => ?_) fun _ _ e => e) hs
  obtain ⟨r, t, u, v, rfl, hr, news, F, N, helt, hQ⟩ := h₁.out
  refine wpAny_pyIter_range hr hsmall ?_
  rw [hsize]
  refine comp_range hh hn R helt fun D h' tk ys c hD hc hys hR hk => ?_
  obtain ⟨F', N', hne⟩ := new_listing F N hD hc hk
  exact hQ D h' tk ys c F' N' hne hys hR
end
end Mine

end
section -- part W1
open PySem PySem.W PyProof.Rows PySem.Calls PySem.SeqAt
set_option maxRecDepth 100000
namespace Mine
noncomputable def lawBody : List Stmt := match PP.main.body.getLast? with | some (.FunctionDef _ _ b _ _ _ _ _ _ _) => b | _ => []
noncomputable def lawScope : Scope := match PP.main.body.getLast? with | some (.FunctionDef _ _ _ _ _ _ sc _ _ _) => sc | _ => default
noncomputable abbrev lawEnv (L : Addr) : Env := envOfC (Str.ofString "law") lawScope L 172 (.ref 171)
theorem filledW1 : PySem.Challenge.rw_pg0066_01 = PySem.Challenge.rw_pg0066_01 ∧ Mine.hd.heap_1 = Mine.hd.heap_1 := by
  k_fill
  exact ⟨rfl, rfl⟩
local macro_rules | `(tactic| k_mem) => `(tactic| assumption)
local macro_rules | `(tactic| walk_at "eval Name") => `(tactic| (k_here; k_dflt (refine' nameX_L ?F ?v ?_ ?a ?b; (case F => k_asm); (case a => rfl); (case b => rfl); (case v => assumption))))
local macro_rules | `(tactic| walk_at "compareOp NotEq ref") => `(tactic| (k_here; refine halt ?_))
theorem seqLast {n : Nat} (h : 0 < n) : seqIndex? (-1) n = some (n - 1) := by
  unfold seqIndex?
  have e : (if (-1 : Int) < 0 then -1 + (n : Int) else -1) = ((n - 1 : Nat) : Int) := by rw [if_pos (by decide)]; omega
  simp only [e]
  rw [if_pos (by simp; omega)]
  simp
theorem ints_get : ∀ {vs : List Value} {ns : List Int}, IntsAre vs ns → vs.length = ns.length ∧ ∀ (j : Nat), j < vs.length → ∃ x t, ns[j]? = some x ∧ vs[j]? = some (.int x t)
  | _, _, .nil => ⟨rfl, fun j h => by simp at h⟩
  | _, _, .cons n t r => by
    have := ints_get r
    refine ⟨by simp [this.1], fun j hj => ?_⟩
    cases j with
    | zero => exact ⟨n, t, by simp, by simp⟩
    | succ j =>
      obtain ⟨x, t, a, b⟩ := this.2 j (by simpa using hj)
      exact ⟨x, t, by simpa using a, by simpa using b⟩
def IntMap (f : Int → Int) (v y : Value) : Prop := ∀ x t, v = .int x t → ∃ t', y = .int (f x) t'
theorem IntMap.mk {f : Int → Int} {x y : Int} {t t' : Tok} (h : y = f x := by rfl) : IntMap f (.int x t) (.int y t') := by
  intro x' u e; cases e; exact ⟨t', by rw [h]⟩
theorem ints_at {ws : List Value} {ms : List Int} (hi : IntsAre ws ms) {i : Nat} {v : Value} (hv : ws.toArray[i]? = some v) : ∃ x t, ms[i]? = some x ∧ v = .int x t := by
  rw [List.getElem?_toArray] at hv
  obtain ⟨_, q2⟩ := ints_get hi
  rcases Nat.lt_or_ge i ws.length with h | h
  · obtain ⟨x, t, a, e⟩ := q2 i h
    rw [e] at hv; cases hv
    exact ⟨x, t, a, rfl⟩
  · rw [List.getElem?_eq_none h] at hv; cases hv
theorem ints_last {vs : List Value} {ns : List Int} (hi : IntsAre vs ns) (h : ns ≠ []) : ∃ x t, 0 < vs.length ∧ vs[vs.length - 1]? = some (.int x t) := by
  obtain ⟨h1, h2⟩ := ints_get hi
  have hp : 0 < ns.length := List.length_pos_iff.mpr h
  obtain ⟨x, t, _, b⟩ := h2 (vs.length - 1) (by omega)
  exact ⟨x, t, by omega, b⟩
theorem marks_end {g h' : Heap} {L : Addr} {m' : Str → Option Value} {V : Int} {t : Tok} (_ : Fr g L h' m') (h : m' (Str.ofString "marks") = some (.int V t)) (hV : 0 ≤ V) : ∃ (M : Nat) (tM : Tok), m' (Str.ofString "marks") = some (.int ((M : Nat) : Int) tM) :=
  ⟨V.toNat, t, by rw [Int.toNat_of_nonneg hV]; exact h⟩
set_option maxHeartbeats 2000000 in
theorem law1 {w : World} {mg mb : Str → Option Value} {dp un : Nat} {gd : Option (List Code)} {fr : Option (List Env)} {g : Heap} {L : Addr} {s : Shared} {m : Str → Option Value} {news : List (Addr × Obj)} {sl : Addr} {vals : List Value} {ns : List Int}
    (X : (Mine.hd.heap_1 w.params).In g) (T : TopRead VV LL mg mb g) (Y : KIn w g) (hsl : g.IsList sl vals.toArray) (hi : IntsAre vals ns) (hlen : ns.length ≤ 63) (hun : un + 1000 < cLine) (F : Fr g L s.heap m) (N : News g L s.heap news) (hm : m (Str.ofString "script") = some (.ref sl)) :
    wpAny (model PP w) (Around.deeper { handled := none, depth := dp, frames := fr, guards := gd, units := un } (lawEnv L)) (execs (List.take 1 lawBody) (lawEnv L)) (fun fl s' => Done (fl = .next ∧ ∃ h' tk' m' M tM news', s' = { s with heap := h', toks := tk' } ∧ Fr g L h' m' ∧ News g L h' news' ∧ (∀ q ∈ news, q ∈ news') ∧
      m' (Str.ofString "script") = some (.ref sl) ∧ m' (Str.ofString "marks") = some (.int ((M : Nat) : Int) tM))) (fun _ _ => False) s := by
  repeat (conv in (List.take _ _) => whnf)
  try unfold lawEnv

  by_cases hns : ns = []
  · try k_fold
    k_steps
    rename Fr _ _ _ _ => F1
    rename News _ _ _ _ => N1
    exact ⟨rfl, _, _, _, 0, _, _, rfl, F1, N1, fun q hq => .tail _ hq, by assumption, rfl⟩
  · obtain ⟨x, tx, hp, hx⟩ := ints_last hi hns
    try k_fold
    k_steps
    rename Fr _ _ _ _ => F1
    rename News _ _ _ _ => N1
    obtain ⟨M, tM, e⟩ := marks_end F1 rfl (Int.fmod_nonneg_of_pos _ (by decide))
    exact ⟨rfl, _, _, _, M, tM, _, rfl, F1, N1, fun q hq => .tail _ hq, by assumption, e⟩
theorem bits_of {ys : Array Value} (h : ∀ j, j < ys.size → ∃ x t, ys[j]? = some (.int ((x : Int).fmod 2) t)) : ∃ b : Nat → Nat, (∀ j, b j ≤ 1) ∧ ∀ j, j < ys.size → ∃ t, ys[j]? = some (.int ((b j : Nat) : Int) t) := by
  classical
  refine ⟨fun j => if q : j < ys.size then ((Classical.choose (h j q)).fmod 2).toNat else 0, fun j => ?_, fun j q => ?_⟩
  · by_cases q : j < ys.size
    · simp only [dif_pos q]
      rw [Int.fmod_eq_emod_of_nonneg _ (by decide)]; omega
    · simp only [dif_neg q]; omega
  · simp only [dif_pos q]
    obtain ⟨t, e⟩ := Classical.choose_spec (h j q)
    refine ⟨t, e.trans ?_⟩
    rw [Int.toNat_of_nonneg (Int.fmod_nonneg_of_pos _ (by decide))]
section
variable {M : Model} {A : Around} {E : Value → Shared → Prop} {s : Shared} {C : Addr} {m : Str → Option Value} {scope : Scope} {cl : List (Str × Addr)} {env : Env} {x : Str} {pos : Pos} {v : Value} {Q : Value → Shared → Prop}
theorem cnL (F : s.heap.Ns C m) (hv : m x = some v) (h : Q v s)
    (hk : scope.kind = .function := by rfl) (hl : (compEnvC scope cl C env).kindOf x = some .local := by rfl) (hd : (x == ("__debug__" : Str)) = false := by decide) :
    wpAny M A (eval (.Name x pos) (compEnvC scope cl C env)) Q E s := wpAny_Name (wpAny_loadName_local hk hl F hv h) hd
end
local macro_rules | `(tactic| walk_at "eval Name") => `(tactic| (k_here; (with_reducible show wpAny _ _ (eval (Expr.Name _ _) (compEnvC _ _ _ _)) _ _ _); k_dflt (refine' cnL ?F ?v ?_ ?a ?b; (case F => assumption); (case a => rfl); (case b => rfl); (case v => assumption))))
local macro_rules | `(tactic| walk_at "exec Assign cons ListComp") => `(tactic| (k_here; refine halt ?_))
local macro_rules | `(tactic| walk_at "pyIter ref") => `(tactic| (k_here; refine halt ?_))
local macro_rules | `(tactic| walk_at "eval ListComp") => `(tactic| (k_here; refine halt ?_))
set_option maxHeartbeats 2000000 in
theorem law2 {w : World} {mg mb : Str → Option Value} {dp un : Nat} {gd : Option (List Code)} {fr : Option (List Env)} {g : Heap} {L : Addr} {s : Shared} {m : Str → Option Value} {news : List (Addr × Obj)} {sl : Addr} {vals : List Value} {ns : List Int}
    (X : (Mine.hd.heap_1 w.params).In g) (T : TopRead VV LL mg mb g) (Y : KIn w g) (hsl : g.IsList sl vals.toArray) (hi : IntsAre vals ns) (hlen : ns.length ≤ 63) (hun : un + 1000 < cLine) (F : Fr g L s.heap m) (N : News g L s.heap news) (hm : m (Str.ofString "script") = some (.ref sl)) :
    wpAny (model PP w) (Around.deeper { handled := none, depth := dp, frames := fr, guards := gd, units := un } (lawEnv L)) (execs (List.take 1 (List.drop 1 lawBody)) (lawEnv L)) (fun fl s' => Done (fl = .next ∧ ∃ h' tk' news' tl arr c, ∃ b : Nat → Nat, s' = { s with heap := h', toks := tk' } ∧ Fr g L h' (fun y => if y = Str.ofString "turns" then some (.ref tl) else m y) ∧ News g L h' news' ∧ (∀ q ∈ news, q ∈ news') ∧
      (tl, listOf arr c) ∈ news' ∧ arr.size ≤ 6 ∧ (∀ j, j < arr.size → ∃ t, arr[j]? = some (.int ((b j : Nat) : Int) t)) ∧ (∀ j, b j ≤ 1))) (fun _ _ => False) s := by
  repeat (conv in (List.take _ _) => whnf)
  try unfold lawEnv
  try k_fold
  k_steps
  show wpAny _ _ (exec _ _) _ _ _
  refine assign_comp_row (g := g) (m := m) (cl := []) (IntMap fun x => x.fmod 2) (by rfl) (by rfl) (by decide) (by rfl) (by decide) (by rfl) (by rfl) (by rfl) (by rfl) ?_ (by intro _; rfl)
  k_steps
  rename Fr _ _ _ _ => F1
  rename News _ _ _ _ => N1
  rename IntsAre _ (List.take 6 ns) => hI1
  obtain ⟨q1, q2⟩ := ints_get hI1
  have hsz : (List.take 6 ns).length ≤ 6 := List.length_take_le 6 ns
  refine ⟨_, rfl, wpAny_pyIter_list (N1.isList (.head _)) ⟨rfl, rfl⟩, _, _, ⟨_, _, (N1 _ (.head _)).1, rfl⟩, ?_, F1, N1, ?_, ?_⟩
  · rw [List.size_toArray, sizeLine_eq]; omega
  · intro C i v s₃ m₃ E' hC hv hns hmx hkk
    obtain ⟨x, t, _, rfl⟩ := ints_at hI1 hv
    k_steps
    all_goals first | exact ⟨_, _, rfl, fun _ _ e => e⟩ | exact IntMap.mk
  · intro D h' tk ys c F2 N2 hne hys hR
    k_steps
    have hR' : ∀ j, j < ys.size → ∃ x t, ys[j]? = some (.int ((x : Int).fmod 2) t) := fun j hj => by
      obtain ⟨x, t, _, e⟩ := q2 j (by rw [hys, List.size_toArray] at hj; exact hj)
      obtain ⟨y, e1, e2⟩ := hR j _ (by rw [List.getElem?_toArray]; exact e)
      obtain ⟨t', e3⟩ := e2 x t rfl
      exact ⟨x, t', by rw [e1, e3]⟩
    obtain ⟨b, hb1, hb2⟩ := bits_of hR'
    exact ⟨rfl, h', _, _, D, ys, c, b, rfl, F2, N2, fun q hq => .tail _ (.tail _ hq), .head _, by rw [hys, List.size_toArray]; omega, hb2, hb1⟩
end Mine

end
section -- part W2
open PySem PySem.W PyProof.Rows PySem.Calls PySem.SeqAt
set_option maxRecDepth 100000
namespace Mine
theorem filledW2 : PySem.Challenge.rw_pg0066_01 = PySem.Challenge.rw_pg0066_01 ∧ Mine.hd.heap_1 = Mine.hd.heap_1 := by
  k_fill
  exact ⟨rfl, rfl⟩
local macro_rules | `(tactic| k_mem) => `(tactic| assumption)
local macro_rules | `(tactic| walk_at "eval Name") => `(tactic| (k_here; k_dflt (refine' nameX_L ?F ?v ?_ ?a ?b; (case F => k_asm); (case a => rfl); (case b => rfl); (case v => assumption))))
local macro_rules | `(tactic| walk_at "call ref") => `(tactic| (k_here; refine halt ?_))
local macro_rules | `(tactic| walk_at "pyIter ref") => `(tactic| (k_here; refine halt ?_))
theorem deck_ledger {g h h' : Heap} {L d dd : Addr} {m : Str → Option Value} {od odd : Obj} {news : List (Addr × Obj)} {its : Array Value} {f p : Nat → Value} (F : Fr g L h m) (N : News g L h news) (hk : ∀ b o, h.get? b = some o → h'.get? b = some o)
    (hd : h'.get? d = some od) (hdd : h'.get? dd = some odd) (nd : h.get? d = none) (ndd : h.get? dd = none) (R : RefsN h h' its 32 f p) :
    ∃ ext, Fr g L h' m ∧ News g L h' ((d, od) :: (ext ++ ((dd, odd) :: news))) ∧ Tups ext ∧ RefsL ext its f p := by
  obtain ⟨l, hT, hR, hl⟩ := refs_list F R
  have N1 := (fresh_news F N hk hd nd).2
  have N2 := (fresh_news F N hk hdd ndd).2
  refine ⟨l, kept_fr F hk, fun q hq => ?_, hT, hR⟩
  rcases List.mem_cons.mp hq with rfl | hq
  · exact N1 _ (.head _)
  · rcases List.mem_append.mp hq with hq | hq
    · exact ⟨(hl q hq).1, (hl q hq).2.2⟩
    · exact N2 _ hq
set_option maxHeartbeats 2000000 in
theorem law3 {w : World} {mg mb : Str → Option Value} {dp un : Nat} {gd : Option (List Code)} {fs : List Env} {g : Heap} {L : Addr} {s : Shared} {m : Str → Option Value} {news : List (Addr × Obj)} {M : Nat} {tM : Tok}
    (X : (Mine.hd.heap_1 w.params).In g) (T : TopRead VV LL mg mb g) (Y : KIn w g) (hdp : dp + 100 < 600) (hun : un + 1000 < 2000) (F : Fr g L s.heap m) (N : News g L s.heap news) (hm : m (Str.ofString "marks") = some (.int ((M : Nat) : Int) tM)) :
    wpAny (model PP w) (Around.deeper { handled := none, depth := dp, frames := some fs, guards := gd, units := un } (lawEnv L)) (execs (List.take 1 (List.drop 2 lawBody)) (lawEnv L)) (fun fl s' => Done (fl = .next ∧ ∃ h' tk' d dd tk5 es k its n f p ext, s' = { s with heap := h', toks := tk' } ∧ Fr g L h' (fun y => if y = Str.ofString "deck" then some (.ref d) else m y) ∧ News g L h' ((d, deckObj dd its n) :: (ext ++ ((dd, dictOf es k) :: news))) ∧
      Tups ext ∧ RefsL ext its f p ∧ Pieces M f p ∧ Own5 tk5 es ∧ @LT.lt Nat _ dd d)) (fun _ _ => False) s := by
  have hun' : un + 1000 < cLine := Nat.lt_trans hun (by decide +kernel)
  repeat (conv in (List.take _ _) => whnf)
  try unfold lawEnv
  try k_fold
  k_steps
  show wpAny _ _ (call _ _) _ _ _
  refine deck_abs (fs := lawEnv L :: fs) ⟨X, T, Y⟩ F.keep ?_ ?_ ?_ ?_ fun d dd tk5 es k its n f p h' tk' hkk hd hdd nd ndd hlt own R hP => ?_
  · rfl
  · rfl
  · simp only [depth_deeper]; omega
  · simp only [units_deeper]; omega
  obtain ⟨ext, F', N', hT, hR⟩ := deck_ledger F N hkk hd hdd nd ndd R
  k_steps
  rename Fr _ _ _ _ => F1
  rename News _ _ _ _ => N1
  exact ⟨rfl, _, _, d, dd, tk5, es, k, its, n, f, p, ext, rfl, F1, N1, hT, hR, hP, own, hlt⟩
local macro_rules | `(tactic| walk_at "exec For") => `(tactic| (k_here; (with_reducible show wpAny _ _ (exec (Stmt.For _ _ _ _ _) _) _ _ _); refine halt ?_))
set_option maxHeartbeats 2000000 in
theorem law4 {w : World} {mg mb : Str → Option Value} {dp un : Nat} {gd : Option (List Code)} {fs : List Env} {g : Heap} {L : Addr} {s : Shared} {m : Str → Option Value} {others : List (Addr × Obj)} {d dd tl : Addr} {es : List DictEntry} {k n0 c nT : Nat} {its arr : Array Value} {f p : Nat → Value} {tk5 : Tok} {b : Nat → Nat}
    (X : (Mine.hd.heap_1 w.params).In g) (T : TopRead VV LL mg mb g) (Y : KIn w g) (hdp : dp + 100 < 600) (hun : un + 1000 < 2000) (F : Fr g L s.heap m) (N : News g L s.heap ((d, deckObj dd its n0) :: others)) (hne : ∀ q ∈ others, q.1 ≠ d) (hdd : (dd, dictOf es k) ∈ others) (own : Own5 tk5 es) (hlt : @LT.lt Nat _ dd d)
    (hR : RefsL others its f p) (htl : (tl, listOf arr c) ∈ others) (hsz : arr.size = nT) (hb2 : ∀ j, j < nT → ∃ t, arr[j]? = some (.int ((b j : Nat) : Int) t)) (hb1 : ∀ j, b j ≤ 1) (hm : m (Str.ofString "turns") = some (.ref tl)) (hmd : m (Str.ofString "deck") = some (.ref d)) :
    wpAny (model PP w) (Around.deeper { handled := none, depth := dp, frames := some fs, guards := gd, units := un } (lawEnv L)) (execs (List.take 1 (List.drop 3 lawBody)) (lawEnv L)) (fun fl s' => Done (fl = .next ∧ ∃ h' tk' o its' n' ext, s' = { s with heap := h', toks := tk' } ∧ Fr g L h' (fun y => if y = Str.ofString "turn" then o else m y) ∧ News g L h' ((d, deckObj dd its' n') :: (ext ++ others)) ∧
      Tups ext ∧ (∀ q ∈ ext, q.1 ≠ d) ∧ RefsL (ext ++ others) its' (fun j => f (cmp b nT j)) (fun j => p (cmp b nT j)))) (fun _ _ => False) s := by
  have hun' : un + 1000 < cLine := Nat.lt_trans hun (by decide +kernel)
  have hdp' : dp + 100 < recursionLimit := Nat.lt_trans hdp (by decide +kernel)
  obtain ⟨oA, oP, oF, oC, oI⟩ := own
  repeat (conv in (List.take _ _) => whnf)
  try unfold lawEnv
  try k_fold
  k_steps
  show wpAny _ _ (exec _ _) _ _ _
  refine wpAny_For ?_
  k_steps
  show wpAny _ _ (pyIter _) _ _ _
  refine turn_loop (env := lawEnv L) (c := c) (n := nT) (b := b) rfl rfl rfl F N hne hsz htl hb2 hR ?turn ?done
  case turn =>
    intro i it oi h tk its n1 ext ti hi F9 N9 hall hRi
    have hmd' : (fun y => if y = Str.ofString "turn" then some (Value.int ((b i : Nat) : Int) ti) else m y) (Str.ofString "deck") = some (.ref d) := hmd
    clear F N
    k_steps
    show wpAny _ _ (call _ _) _ _ _
    refine shufG F9 X T Y N9 (.tail _ (List.mem_append_right _ hdd)) hall hlt oA oP oF hRi (hb1 i) ?_ ?_ ?_ fun its' n' ext' h' tk' F' N' hT hR' hnew => ?_
    · rfl
    · simp only [depth_deeper]; omega
    · simp only [units_deeper]; omega
    k_steps
    exact ⟨rfl, its', n', ext', h', _, rfl, F', N', hT, hR', hnew⟩
  case done =>
    intro o its' n' ext h tk F9 N9 hT hed hRn
    k_steps
    exact ⟨rfl, h, _, o, its', n', ext, rfl, F9, N9, hT, hed, hRn⟩
end Mine

end
section -- part W3
open PySem PySem.W PyProof.Rows PySem.Calls PySem.SeqAt
set_option maxRecDepth 100000
namespace Mine
theorem filledW3 : PySem.Challenge.rw_pg0066_01 = PySem.Challenge.rw_pg0066_01 ∧ Mine.hd.heap_1 = Mine.hd.heap_1 := by
  k_fill
  exact ⟨rfl, rfl⟩
local macro_rules | `(tactic| k_mem) => `(tactic| assumption)
local macro_rules | `(tactic| walk_at "eval Name") => `(tactic| (k_here; k_dflt (refine' nameX_L ?F ?v ?_ ?a ?b; (case F => k_asm); (case a => rfl); (case b => rfl); (case v => assumption))))
local macro_rules | `(tactic| walk_at "call ref") => `(tactic| (k_here; refine halt ?_))
set_option maxHeartbeats 2000000 in
theorem law5 {w : World} {mg mb : Str → Option Value} {dp un : Nat} {gd : Option (List Code)} {fs : List Env} {g : Heap} {L : Addr} {s : Shared} {m : Str → Option Value} {news : List (Addr × Obj)} {M : Nat} {tM : Tok} {tl : Addr} {arr : Array Value} {c nT : Nat} {b S : Nat → Nat}
    (X : (Mine.hd.heap_1 w.params).In g) (T : TopRead VV LL mg mb g) (Y : KIn w g) (hdp : dp + 100 < 600) (hun : un + 1000 < 2000) (F : Fr g L s.heap m) (N : News g L s.heap news) (hm : m (Str.ofString "marks") = some (.int ((M : Nat) : Int) tM)) (hmt : m (Str.ofString "turns") = some (.ref tl))
    (htl : (tl, listOf arr c) ∈ news) (hsz : arr.size = nT) (hn : nT ≤ 6) (hb2 : ∀ j, j < nT → ∃ t, arr[j]? = some (.int ((b j : Nat) : Int) t)) (hb1 : ∀ j, b j ≤ 1) (hS : ∀ j, j < 32 → S j < 32 ∧ at_ b nT (S j) = j) :
    wpAny (model PP w) (Around.deeper { handled := none, depth := dp, frames := some fs, guards := gd, units := un } (lawEnv L)) (execs (List.take 1 (List.drop 4 lawBody)) (lawEnv L)) (fun fl s' => Done (fl = .next ∧ ∃ h' tk' td, s' = { s with heap := h', toks := tk' } ∧ Fr g L h' (fun y => if y = Str.ofString "due" then some (.str (dueText M S) td) else m y) ∧ News g L h' news)) (fun _ _ => False) s := by
  have hun' : un + 1000 < cLine := Nat.lt_trans hun (by decide +kernel)
  have hdp' : dp + 100 < recursionLimit := Nat.lt_trans hdp (by decide +kernel)
  repeat (conv in (List.take _ _) => whnf)
  try unfold lawEnv
  try k_fold
  k_steps
  show wpAny _ _ (call _ _) _ _ _
  refine due_abs (S := S) ⟨X, T, Y⟩ F.keep (N _ htl).1 (N _ htl).2.2 hsz hn (fun j _ => hb1 j) hb2 hS ?_ ?_ ?_ fun h' tk tk' hkk => ?_
  · rfl
  · simp only [depth_deeper]; omega
  · simp only [units_deeper]; omega
  have F' := kept_fr F hkk
  have N' := kept_news N hkk
  clear F N
  k_steps
  rename Fr _ _ _ _ => F1
  rename News _ _ _ _ => N1
  exact ⟨rfl, _, _, _, rfl, F1, N1⟩
local macro_rules | `(tactic| k_inst) => `(tactic| (refine' inst_deckN ?N ?h1 ?h2; (case N => k_asm); (case h1 => k_mem); (case h2 => k_mem)))
local macro_rules | `(tactic| walk_at "call type:str") => `(tactic| (k_here; refine halt ?_))
theorem fitDue {x : Str} (h : x.length ≤ 96) : ¬ (x.length : Int) ≥ 2 ^ 63 := by
  intro q
  have : (x.length : Int) ≤ 96 := by exact_mod_cast h
  have h63 : (2 : Int) ^ 63 = 9223372036854775808 := by decide
  omega
local macro_rules | `(tactic| walk_at "call builtin:len") => `(tactic| (k_here; k_dflt (refine' PyProof.Rows.len_str ?f ?_; (case f => exact fitDue (by assumption)))))
local macro_rules | `(tactic| walk_at "call builtin:len") => `(tactic| (k_here; (with_reducible show wpAny _ _ (call (Value.builtin "len") [Value.ref _]) _ _ _); refine halt ?_))
local macro_rules | `(tactic| walk_at "compareOp NotEq str str") => `(tactic| (k_here; refine halt ?_))
local macro_rules | `(tactic| walk_at "compareOp NotEq int int") => `(tactic| (k_here; refine halt ?_))
local macro_rules | `(tactic| walk_at "getMethod ref") => `(tactic| (k_here; refine halt ?_))
theorem tab_ledger {g h h' : Heap} {L P : Addr} {m : Str → Option Value} {o o' : Obj} {others : List (Addr × Obj)} (F : Fr g L h m) (N : News g L h ((P, o) :: others)) (hne : ∀ q ∈ others, q.1 ≠ P) (hk : ∀ b x, b ≠ P → h.get? b = some x → h'.get? b = some x) (hP : h'.get? P = some o') : Fr g L h' m ∧ News g L h' ((P, o') :: others) := by
  have z := N _ (.head _)
  obtain ⟨oL, es, ep, hL, hr⟩ := F.ns
  refine ⟨⟨⟨oL, es, ep, hk _ _ (Ne.symm z.2.1) hL, hr⟩, fun b x e => hk b x (fun q => by rw [q, z.2.2] at e; cases e) (F.keep b x e), F.above⟩, fun q hq => ?_⟩
  rcases List.mem_cons.mp hq with rfl | hq
  · exact ⟨hP, z.2⟩
  · exact ⟨hk _ _ (hne q hq) (N q (.tail _ hq)).1, (N q (.tail _ hq)).2⟩
theorem pre_len (M i : Nat) : (pre M i).length ≤ 3 := by unfold pre; split <;> simp [Str.length]
theorem fac_len (i : Nat) : (fac i).length ≤ 3 := by simp [fac, Str.length]
theorem join_pic (M i : Nat) : Txt.join (Str.ofString "") [pre M i, fac i] = pic M i := by
  unfold pic pre fac
  split <;> rfl
theorem join_len (l : List Str) : (Txt.join (Str.ofString "") l).length = (l.map (·.length)).sum := by
  show (Builtin.Str.glued (Str.ofString "") l).length = _
  rw [StrLaws.glued_eq_join]
  have z : (Str.ofString "").length = 0 := by decide
  have key : ∀ l : List Str, (Str.join (Str.ofString "") l).length = (l.map (·.length)).sum := by
    intro l
    induction l with
    | nil => rfl
    | cons a r ih =>
      cases r with
      | nil => simp [Str.join]
      | cons b r =>
        show (a ++ Str.ofString "" ++ Str.join (Str.ofString "") (b :: r)).length = _
        rw [Str.length_append, Str.length_append, ih, z]
        simp
  exact key l
theorem sum_pre (f : Nat → Nat) : ∀ n, preSum (fun i => ((f i : Nat) : Int)) n = (((List.range n).map f).sum : Nat)
  | 0 => rfl
  | n + 1 => by
    rw [preSum, sum_pre f n, List.range_succ, List.map_append, List.sum_append]
    simp
theorem due_len (M : Nat) (S : Nat → Nat) : preSum (fun i => ((pre M (S i)).length : Int) + ((fac (S i)).length : Int)) 32 = ((dueText M S).length : Int) := by
  have e : (fun i => ((pre M (S i)).length : Int) + ((fac (S i)).length : Int)) = fun i => (((pic M (S i)).length : Nat) : Int) := by
    funext i
    unfold pic pre fac
    split <;> rfl
  rw [e, sum_pre, dueText, join_len, dueParts, List.map_map]
  rfl
theorem due_le (M : Nat) (S : Nat → Nat) : (dueText M S).length ≤ 96 := by
  rw [dueText, join_len]
  have := sum_le (List.range 32) (fun j => pic M (S j)) (fun j => pic_len M _)
  simpa [dueParts] using this
set_option maxHeartbeats 2000000 in
theorem law6 {w : World} {mg mb : Str → Option Value} {dp un : Nat} {gd : Option (List Code)} {fs : List Env} {g : Heap} {L : Addr} {s : Shared} {m : Str → Option Value} {others : List (Addr × Obj)} {d dd : Addr} {es : List DictEntry} {k n0 M : Nat} {its : Array Value} {f p : Nat → Value} {tk5 td : Tok} {S : Nat → Nat}
    (X : (Mine.hd.heap_1 w.params).In g) (T : TopRead VV LL mg mb g) (Y : KIn w g) (hdp : dp + 100 < 600) (hun : un + 1000 < 2000) (F : Fr g L s.heap m) (N : News g L s.heap ((97, tabObj #[]) :: (104, tabObj #[]) :: others)) (hne : ∀ q ∈ others, q.1 ≠ 97 ∧ q.1 ≠ 104) (hd : (d, deckObj dd its n0) ∈ others) (hdd : (dd, dictOf es k) ∈ others) (own : Own5 tk5 es)
    (hR : RefsL others its f p) (hP : ∀ i, i < 32 → ∃ t1 t2, f i = .str (pre M (S i)) t1 ∧ p i = .str (fac (S i)) t2) (hb : AllBare s.gens) (hmd : m (Str.ofString "deck") = some (.ref d)) (hmu : m (Str.ofString "due") = some (.str (dueText M S) td)) :
    wpAny (model PP w) (Around.deeper { handled := none, depth := dp, frames := some fs, guards := gd, units := un } (lawEnv L)) (execs (List.take 1 (List.drop 5 lawBody)) (lawEnv L)) (fun fl s' => Done (fl = .next ∧ ∃ ps1 ps2, Fr g L s'.heap m ∧ News g L s'.heap ((97, tabObj ps1) :: (104, tabObj ps2) :: others) ∧ AllBare s'.gens ∧ s'.os = s.os)) (fun _ _ => False) s := by
  have hun' : un + 1000 < cLine := Nat.lt_trans hun (by decide +kernel)
  have hdp' : dp + 100 < recursionLimit := Nat.lt_trans hdp (by decide +kernel)
  repeat (conv in (List.take _ _) => whnf)
  try unfold lawEnv
  try k_fold
  k_steps
  show wpAny _ _ (call _ _) _ _ _
  refine kso_call ?_ (X.keeps F.keep) (inst_deckN N (.tail _ (.tail _ hd)) (.tail _ (.tail _ hdd))) (f := 109) (by kernel_rfl) (by kernel_rfl) ?_
  · simp only [units_in1, units_deeper]; omega
  refine str_abs (fs := fun i => pre M (S i)) (ps := fun i => fac (S i)) (zs := fun i => pic M (S i)) (f := f) (p := p) ⟨X, T, Y⟩ F.keep (N _ (.tail _ (.tail _ hd))).1 (N _ (.tail _ (.tail _ hdd))).1 (N _ (.tail _ (.head _))).1 (N _ (.tail _ (.tail _ hd))).2.2 (N _ (.tail _ (.tail _ hdd))).2.2 (N _ (.tail _ (.head _))).2.2
    ((hR.sub fun q hq => .tail _ (.tail _ hq)).refs N) hP (fun i _ => ⟨pre_len M _, fac_len _⟩) (fun i _ => join_pic M _) (joinOk_of_weight (due_weight M S) (by decide +kernel)) hb ?_ ?_ ?_ fun s1 tk1 ps2 hb1 hos1 hk1 h104 => ?_
  · rfl
  · simp only [depth_in1, depth_deeper]; omega
  · simp only [units_in1, units_deeper]; omega
  obtain ⟨F1, N1⟩ := tab_ledger F (news_sub N fun q hq => by simp only [List.mem_cons] at hq ⊢; rcases hq with h | h | h; (exact .inr (.inl h)); (exact .inl h); (exact .inr (.inr h))) (others := (97, tabObj #[]) :: others) (fun q hq => by
    rcases List.mem_cons.mp hq with rfl | hq
    · decide
    · exact (hne q hq).2) hk1 h104
  show wpAny _ _ _ _ _ _
  clear F N
  k_steps
  show wpAny _ _ (compareOp _ _ _) _ _ _
  refine PyProof.Rows.ne_str ?_
  have e1 : Txt.join (Str.ofString "") ((List.range 32).map fun i => pic M (S i)) = dueText M S := rfl
  rw [e1, bne_self_eq_false]
  have hlen := due_le M S
  k_steps
  show wpAny _ _ (call _ _) _ _ _
  have N1' : News g L s1.heap ((97, tabObj #[]) :: (104, tabObj ps2) :: others) := news_sub N1 fun q hq => by simp only [List.mem_cons] at hq ⊢; rcases hq with h | h | h; (exact .inr (.inl h)); (exact .inl h); (exact .inr (.inr h))
  refine len_K F1 X (inst_deckN N1 (.tail _ (.tail _ hd)) (.tail _ (.tail _ hdd))) (f := 102) (by kernel_rfl) (by kernel_rfl) ?_
  refine len_abs (fs := fun i => pre M (S i)) (ps := fun i => fac (S i)) (f := f) (p := p) ⟨X, T, Y⟩ F1.keep (N1 _ (.tail _ (.tail _ hd))).1 (N1 _ (.tail _ (.tail _ hdd))).1 (N1' _ (.head _)).1 (N1 _ (.tail _ (.tail _ hd))).2.2 (N1 _ (.tail _ (.tail _ hdd))).2.2 (N1' _ (.head _)).2.2
    own.2.2.2.2 ((hR.sub fun q hq => .tail _ (.tail _ hq)).refs N1) hP (fun i _ => ⟨pre_len M _, fac_len _⟩) hb1 ?_ ?_ ?_ fun s2 tk2 ps1 hb2 hos2 hk2 h97 => ?_
  · rfl
  · simp only [depth_in1, depth_deeper]; omega
  · simp only [units_in1, units_deeper]; omega
  obtain ⟨F2, N2⟩ := tab_ledger F1 N1' (fun q hq => by
    rcases List.mem_cons.mp hq with rfl | hq
    · exact (by decide : (104 : Nat) ≠ 97)
    · exact (hne q hq).1) hk2 h97
  clear F1 N1 N1'
  have hd2 := due_len M S
  refine ⟨⟨by omega, by omega⟩, ?_⟩
  k_steps
  show wpAny _ _ (compareOp _ _ _) _ _ _
  refine PyProof.Rows.ne_int ?_
  rw [hd2, bne_self_eq_false]
  k_steps
  show wpAny _ _ (getMethod _ _ _) _ _ _
  refine method_own (X.keeps F2.keep) (inst_deckN N2 (.tail _ (.tail _ hd)) (.tail _ (.tail _ hdd))) (ga_deck w) gc_deck (gm_deck w) (f := 132) (by kernel_rfl) (by kernel_rfl) (by show (lookIn "part_count" (dictOf es k)).map _ = _; rw [lookIn_dict, own.2.2.2.1]; rfl) ?_
  k_steps
  show wpAny _ _ (call _ _) _ _ _
  refine count_abs (fs := lawEnv L :: fs) ⟨X, T, Y⟩ F2.keep (N2 _ (.tail _ (.tail _ hd))).1 (N2 _ (.tail _ (.tail _ hdd))).1 (N2 _ (.tail _ (.tail _ hd))).2.2 (N2 _ (.tail _ (.tail _ hdd))).2.2 ?_ ?_ ?_ ?_ fun h3 tk3 tk3' hk3 => ?_
  · rfl
  · rfl
  · simp only [depth_deeper]; omega
  · simp only [units_deeper]; omega
  have F3 := kept_fr F2 hk3
  have N3 := kept_news N2 hk3
  clear F2 N2
  rw [hR.1]
  k_steps
  show wpAny _ _ (compareOp _ _ _) _ _ _
  refine PyProof.Rows.ne_int ?_
  rw [show (((32 : Nat) : Int) != 32) = false from rfl]
  k_steps
  exact ⟨rfl, ps1, ps2, F3, N3, hb2, hos2.trans hos1⟩
end Mine

end
section -- part W4
open PySem PySem.W PyProof.Rows PySem.Calls PySem.SeqAt
set_option maxRecDepth 100000
namespace Mine
theorem filledW4 : PySem.Challenge.rw_pg0066_01 = PySem.Challenge.rw_pg0066_01 ∧ Mine.hd.heap_1 = Mine.hd.heap_1 := by
  k_fill
  exact ⟨rfl, rfl⟩
local macro_rules | `(tactic| k_mem) => `(tactic| assumption)
local macro_rules | `(tactic| walk_at "eval Name") => `(tactic| (k_here; k_dflt (refine' nameX_L ?F ?v ?_ ?a ?b; (case F => k_asm); (case a => rfl); (case b => rfl); (case v => assumption))))
local macro_rules | `(tactic| walk_at "eval Name") => `(tactic| (k_here; (with_reducible show wpAny _ _ (eval (Expr.Name _ _) (compEnvC _ _ _ _)) _ _ _); k_dflt (refine' cnL ?F ?v ?_ ?a ?b; (case F => assumption); (case a => rfl); (case b => rfl); (case v => assumption))))
local macro_rules | `(tactic| walk_at "call ref") => `(tactic| (k_here; refine halt ?_))
local macro_rules | `(tactic| walk_at "pyIter ref") => `(tactic| (k_here; refine halt ?_))
local macro_rules | `(tactic| walk_at "eval ListComp") => `(tactic| (k_here; refine halt ?_))
local macro_rules | `(tactic| walk_at "storeName") => `(tactic| (k_here; (with_reducible show wpAny _ _ (storeName _ (PySem.Str.ofString "before") _) _ _ _); refine halt ?_))
local macro_rules | `(tactic| walk_at "storeName") => `(tactic| (k_here; (with_reducible show wpAny _ _ (storeName _ (PySem.Str.ofString "goal") _) _ _ _); refine halt ?_))
local macro_rules | `(tactic| walk_at "call builtin:sum") => `(tactic| (k_here; refine halt ?_))
local macro_rules | `(tactic| walk_at "compareOp NotEq int int") => `(tactic| (k_here; refine halt ?_))
theorem row_copy {others : List (Addr × Obj)} {its ys : Array Value} {f p : Nat → Value} (hR : RefsL others its f p) (hs : ys.size = its.size) (h : ∀ (j : Nat) (v : Value), its[j]? = some v → ∃ y, ys[j]? = some y ∧ y = v) : RefsL others ys f p :=
  ⟨hs.trans hR.1, fun i hi => let ⟨t, a, b⟩ := hR.2 i hi; ⟨t, by obtain ⟨y, e1, e2⟩ := h i _ a; rw [e1, e2], b⟩⟩
set_option maxHeartbeats 2000000 in
theorem law7 {w : World} {mg mb : Str → Option Value} {dp un : Nat} {gd : Option (List Code)} {fs : List Env} {g : Heap} {L : Addr} {s : Shared} {m : Str → Option Value} {others : List (Addr × Obj)} {d dd : Addr} {es : List DictEntry} {k n0 : Nat} {its : Array Value} {f p : Nat → Value} {oB : Obj} {v0 : Option Value}
    (X : (Mine.hd.heap_1 w.params).In g) (T : TopRead VV LL mg mb g) (Y : KIn w g) (hdp : dp + 100 < 600) (hun : un + 1000 < 2000) (F : Fr g L s.heap m) (N : News g L s.heap ((L + 1, oB) :: others)) (hB : oB.data = .cell v0) (hne : ∀ q ∈ others, q.1 ≠ L + 1) (hd : (d, deckObj dd its n0) ∈ others) (hdd : (dd, dictOf es k) ∈ others)
    (hR : RefsL others its f p) (hmd : m (Str.ofString "deck") = some (.ref d)) :
    wpAny (model PP w) (Around.deeper { handled := none, depth := dp, frames := some fs, guards := gd, units := un } (lawEnv L)) (execs (List.take 1 (List.drop 6 lawBody)) (lawEnv L)) (fun fl s' => Done (fl = .next ∧ ∃ h' tk' D c oB' ys, s' = { s with heap := h', toks := tk' } ∧ Fr g L h' m ∧ News g L h' ((L + 1, oB') :: (D, listOf ys c) :: others) ∧ oB'.data = .cell (some (.ref D)) ∧ RefsL others ys f p)) (fun _ _ => False) s := by
  have hun' : un + 1000 < cLine := Nat.lt_trans hun (by decide +kernel)
  have hdp' : dp + 100 < recursionLimit := Nat.lt_trans hdp (by decide +kernel)
  repeat (conv in (List.take _ _) => whnf)
  try unfold lawEnv
  try k_fold
  k_steps
  show wpAny _ _ (eval _ _) _ _ _
  refine eval_comp_row (g := g) (L := L) (m := m) (cl := []) (fun v y => y = v) (by rfl) (by decide) (by rfl) (by decide) (by rfl) (by rfl) ?_ (by intro _; rfl)
  k_steps
  refine ⟨d, rfl, deck_iter (X.keeps F.keep) (N _ (.tail _ hd)).1 (N _ (.tail _ hdd)).1 ⟨rfl, rfl⟩, its, _, IsRow.deck (N _ (.tail _ hd)).1, ?_, F, N, ?_, ?_⟩
  · rw [hR.1, sizeLine_eq]; omega
  · intro C i v s₃ m₃ E' hC hv hns hmx hkk
    clear F N
    k_steps
    all_goals first | exact ⟨_, _, rfl, fun _ _ e => e⟩ | rfl
  · intro D h' tk ys c F2 N2 hnD hys hR2
    clear F N
    k_steps
    show wpAny _ _ (storeName _ _ _) _ _ _
    have N3 : News g L h' ((L + 1, oB) :: (D, listOf ys c) :: others) := news_sub N2 fun q hq => by simp only [List.mem_cons] at hq ⊢; rcases hq with h | h | h; (exact .inr (.inl h)); (exact .inl h); (exact .inr (.inr h))
    refine wpAny_storeName_cell rfl rfl (c := L + 1) rfl ⟨oB, (N3 _ (.head _)).1, hB⟩ fun h2 hv2 hs2 => ?_
    obtain ⟨oB', hB1, hB2⟩ := hv2
    obtain ⟨F4, N4⟩ := tab_ledger F2 N3 (fun q hq => by
      rcases List.mem_cons.mp hq with rfl | hq
      · exact Ne.symm (hnD.mem _ (.head _))
      · exact hne q hq) (fun b x hb e => (hs2.2 b hb).trans e) hB1
    clear F2 N2 N3
    k_steps
    exact ⟨rfl, h2, _, D, c, oB', ys, rfl, F4, N4, hB2, row_copy hR hys hR2⟩
theorem ints_of : ∀ (l : List Value), (∀ (j : Nat), j < l.length → ∃ x t, l[j]? = some (.int x t)) → ∃ ms, IntsAre l ms
  | [], _ => ⟨[], .nil⟩
  | v :: l, h => by
    obtain ⟨x, t, e⟩ := h 0 (by simp)
    simp only [List.getElem?_cons_zero, Option.some.injEq] at e
    subst e
    obtain ⟨ms, r⟩ := ints_of l fun j hj => by
      obtain ⟨x, t, e⟩ := h (j + 1) (by simpa using hj)
      exact ⟨x, t, by simpa using e⟩
    exact ⟨x :: ms, .cons x t r⟩
set_option maxHeartbeats 2000000 in
theorem law8 {w : World} {mg mb : Str → Option Value} {dp un : Nat} {gd : Option (List Code)} {fs : List Env} {g : Heap} {L : Addr} {s : Shared} {m : Str → Option Value} {news : List (Addr × Obj)} {sl : Addr} {vals : List Value} {ns : List Int}
    (X : (Mine.hd.heap_1 w.params).In g) (T : TopRead VV LL mg mb g) (Y : KIn w g) (hdp : dp + 100 < 600) (hun : un + 1000 < 2000) (hsl : g.IsList sl vals.toArray) (hi : IntsAre vals ns) (hlen : ns.length ≤ 63) (F : Fr g L s.heap m) (N : News g L s.heap news) (hm : m (Str.ofString "script") = some (.ref sl)) :
    wpAny (model PP w) (Around.deeper { handled := none, depth := dp, frames := some fs, guards := gd, units := un } (lawEnv L)) (execs (List.take 1 (List.drop 7 lawBody)) (lawEnv L)) (fun fl s' => Done (fl = .next ∧ ∃ h' tk' z tz, s' = { s with heap := h', toks := tk' } ∧ Fr g L h' (fun y => if y = Str.ofString "number" then some (.int z tz) else m y) ∧ News g L h' news)) (fun _ _ => False) s := by
  have hun' : un + 1000 < cLine := Nat.lt_trans hun (by decide +kernel)
  have hdp' : dp + 100 < recursionLimit := Nat.lt_trans hdp (by decide +kernel)
  repeat (conv in (List.take _ _) => whnf)
  try unfold lawEnv
  try k_fold
  k_steps
  show wpAny _ _ (eval _ _) _ _ _
  refine eval_comp_row (g := g) (L := L) (m := m) (cl := []) (IntMap fun x => x.fmod (10 ^ 30)) (by rfl) (by decide) (by rfl) (by decide) (by rfl) (by rfl) ?_ (by intro _; rfl)
  k_steps
  rename Fr _ _ _ _ => F1
  rename News _ _ _ _ => N1
  rename IntsAre _ (List.take 60 ns) => hI1
  obtain ⟨q1, q2⟩ := ints_get hI1
  have hsz : (List.take 60 ns).length ≤ 60 := List.length_take_le 60 ns
  refine ⟨_, rfl, wpAny_pyIter_list (N1.isList (.head _)) ⟨rfl, rfl⟩, _, _, ⟨_, _, (N1 _ (.head _)).1, rfl⟩, ?_, F1, N1, ?_, ?_⟩
  · rw [List.size_toArray, sizeLine_eq]; omega
  · intro C i v s₃ m₃ E' hC hv hns hmx hkk
    obtain ⟨x, t, _, rfl⟩ := ints_at hI1 hv
    clear F1 N1
    k_steps
    all_goals first | exact ⟨_, _, rfl, fun _ _ e => e⟩ | exact IntMap.mk
  · intro D h' tk ys c F2 N2 hne hys hR
    have hR' : ∀ (j : Nat), j < ys.toList.length → ∃ x t, ys.toList[j]? = some (.int x t) := fun j hj => by
      obtain ⟨x, t, _, e⟩ := q2 j (by rw [Array.length_toList, hys, List.size_toArray] at hj; exact hj)
      obtain ⟨y, e1, e2⟩ := hR j _ (by rw [List.getElem?_toArray]; exact e)
      obtain ⟨t', e3⟩ := e2 x t rfl
      exact ⟨_, t', by rw [Array.getElem?_toList, e1, e3]⟩
    obtain ⟨ms, hms⟩ := ints_of ys.toList hR'
    have hDl : h'.IsList D ys.toList.toArray := by rw [Array.toArray_toList]; exact N2.isList (.head _)
    clear hI1 F1
    k_steps
    show wpAny _ _ (call _ _) _ _ _
    refine sumK rfl F2 N2 hDl hms fun h3 tk3 t3 F3 N3 => ?_
    clear F2 N2
    k_steps
    rename Fr _ _ _ _ => F4
    rename News _ _ _ _ => N4
    exact ⟨rfl, _, _, _, _, rfl, F4, news_sub N4 fun q hq => .tail _ (.tail _ hq)⟩
set_option maxHeartbeats 2000000 in
theorem law9 {w : World} {mg mb : Str → Option Value} {dp un : Nat} {gd : Option (List Code)} {fs : List Env} {g : Heap} {L : Addr} {s : Shared} {m : Str → Option Value} {others : List (Addr × Obj)} {oG : Obj} {v0 : Option Value} {z : Int} {tz : Tok} {r : Nat}
    (X : (Mine.hd.heap_1 w.params).In g) (T : TopRead VV LL mg mb g) (Y : KIn w g) (hdp : dp + 100 < 600) (hun : un + 1000 < 2000) (F : Fr g L s.heap m) (N : News g L s.heap ((L + 1 + 1, oG) :: others)) (hG : oG.data = .cell v0) (hne : ∀ q ∈ others, q.1 ≠ L + 1 + 1) (hm : m (Str.ofString "number") = some (.int z tz)) (hr : z % 32 = ((r : Nat) : Int)) :
    wpAny (model PP w) (Around.deeper { handled := none, depth := dp, frames := some fs, guards := gd, units := un } (lawEnv L)) (execs (List.take 2 (List.drop 8 lawBody)) (lawEnv L)) (fun fl s' => Done (fl = .next ∧ ∃ h' tk' oG' tG, s' = { s with heap := h', toks := tk' } ∧ Fr g L h' m ∧ News g L h' ((L + 1 + 1, oG') :: others) ∧ oG'.data = .cell (some (.int ((r : Nat) : Int) tG)))) (fun _ _ => False) s := by
  have hun' : un + 1000 < cLine := Nat.lt_trans hun (by decide +kernel)
  have hdp' : dp + 100 < recursionLimit := Nat.lt_trans hdp (by decide +kernel)
  repeat (conv in (List.take _ _) => whnf)
  try unfold lawEnv
  try k_fold
  k_steps
  show wpAny _ _ (call _ _) _ _ _
  refine ctrlI_abs ⟨X, T, Y⟩ F.keep ?_ ?_ ?_ hr fun h1 tk1 tk1' hk1 => ?_
  · rfl
  · simp only [depth_deeper]; omega
  · simp only [units_deeper]; omega
  have F1 := kept_fr F hk1
  have N1 := kept_news N hk1
  clear F N
  k_steps
  show wpAny _ _ (storeName _ _ _) _ _ _
  refine wpAny_storeName_cell rfl rfl (c := L + 1 + 1) rfl ⟨oG, (N1 _ (.head _)).1, hG⟩ fun h2 hv2 hs2 => ?_
  obtain ⟨oG', hG1, hG2⟩ := hv2
  obtain ⟨F4, N4⟩ := tab_ledger F1 N1 hne (fun b x hb e => (hs2.2 b hb).trans e) hG1
  clear F1 N1
  have hr2 : z.fmod 32 = ((r : Nat) : Int) := by rw [Int.fmod_eq_emod_of_nonneg _ (by decide)]; exact hr
  k_steps
  show wpAny _ _ (compareOp _ _ _) _ _ _
  refine PyProof.Rows.ne_int ?_
  rw [hr2, bne_self_eq_false]
  k_steps
  exact ⟨rfl, h2, _, oG', _, rfl, F4, N4, hG2⟩
end Mine

end
section -- part W5
open PySem PySem.W PyProof.Rows PySem.Calls PySem.SeqAt
set_option maxRecDepth 100000
namespace Mine
theorem filledW5 : PySem.Challenge.rw_pg0066_01 = PySem.Challenge.rw_pg0066_01 ∧ Mine.hd.heap_1 = Mine.hd.heap_1 := by
  k_fill
  exact ⟨rfl, rfl⟩
local macro_rules | `(tactic| k_mem) => `(tactic| assumption)
local macro_rules | `(tactic| walk_at "eval Name") => `(tactic| (k_here; k_dflt (first
  | (refine' nameX_L ?F ?v ?_ ?a ?b; (case F => k_asm); (case a => rfl); (case b => rfl); (case v => assumption))
  | (refine' nameX_C ?N ?c ?m ?d ?_ ?a ?b; (case a => rfl); (case b => rfl); (case N => k_asm); (case c => rfl); (case m => k_mem); (case d => assumption)))))
def gb (r j : Nat) : Nat := if j = 0 then r / 16 else if j = 1 then r / 8 % 2 else if j = 2 then r / 4 % 2 else if j = 3 then r / 2 % 2 else r % 2
set_option maxHeartbeats 2000000 in
theorem law11 {w : World} {mg mb : Str → Option Value} {dp un : Nat} {gd : Option (List Code)} {fs : List Env} {g : Heap} {L : Addr} {s : Shared} {m : Str → Option Value} {news : List (Addr × Obj)} {oG : Obj} {tG : Tok} {r : Nat}
    (X : (Mine.hd.heap_1 w.params).In g) (T : TopRead VV LL mg mb g) (Y : KIn w g) (hdp : dp + 100 < 600) (hun : un + 1000 < 2000) (F : Fr g L s.heap m) (N : News g L s.heap news) (hmG : (L + 1 + 1, oG) ∈ news) (hG : oG.data = .cell (some (.int ((r : Nat) : Int) tG))) (hr : r < 32) :
    wpAny (model PP w) (Around.deeper { handled := none, depth := dp, frames := some fs, guards := gd, units := un } (lawEnv L)) (execs (List.take 1 (List.drop 10 lawBody)) (lawEnv L)) (fun fl s' => Done (fl = .next ∧ ∃ h' tk' D arr c, s' = { s with heap := h', toks := tk' } ∧ Fr g L h' (fun y => if y = Str.ofString "spelled" then some (.ref D) else m y) ∧ News g L h' ((D, listOf arr c) :: news) ∧ arr.size = 5 ∧ (∀ j, j < 5 → ∃ t, arr[j]? = some (.int ((gb r j : Nat) : Int) t)))) (fun _ _ => False) s := by
  have hun' : un + 1000 < cLine := Nat.lt_trans hun (by decide +kernel)
  have hdp' : dp + 100 < recursionLimit := Nat.lt_trans hdp (by decide +kernel)
  repeat (conv in (List.take _ _) => whnf)
  try unfold lawEnv
  try k_fold
  k_steps
  rename Fr _ _ _ _ => F1
  rename News _ _ _ _ => N1
  refine ⟨rfl, _, _, _, _, _, rfl, F1, N1, rfl, fun j hj => ?_⟩
  have d1 : ((r : Nat) : Int).fdiv 16 = ((r / 16 : Nat) : Int) := by rw [Int.fdiv_eq_ediv_of_nonneg _ (by decide)]; rfl
  have d2 : (((r : Nat) : Int).fdiv 8).fmod 2 = ((r / 8 % 2 : Nat) : Int) := by rw [Int.fdiv_eq_ediv_of_nonneg _ (by decide), Int.fmod_eq_emod_of_nonneg _ (by decide)]; rfl
  have d3 : (((r : Nat) : Int).fdiv 4).fmod 2 = ((r / 4 % 2 : Nat) : Int) := by rw [Int.fdiv_eq_ediv_of_nonneg _ (by decide), Int.fmod_eq_emod_of_nonneg _ (by decide)]; rfl
  have d4 : (((r : Nat) : Int).fdiv 2).fmod 2 = ((r / 2 % 2 : Nat) : Int) := by rw [Int.fdiv_eq_ediv_of_nonneg _ (by decide), Int.fmod_eq_emod_of_nonneg _ (by decide)]; rfl
  have d5 : ((r : Nat) : Int).fmod 2 = ((r % 2 : Nat) : Int) := by rw [Int.fmod_eq_emod_of_nonneg _ (by decide)]; rfl
  rw [d1, d2, d3, d4, d5]
  rcases (show j = 0 ∨ j = 1 ∨ j = 2 ∨ j = 3 ∨ j = 4 by omega) with rfl | rfl | rfl | rfl | rfl <;> exact ⟨_, rfl⟩
local macro_rules | `(tactic| walk_at "call ref") => `(tactic| (k_here; refine halt ?_))
local macro_rules | `(tactic| walk_at "pyIter ref") => `(tactic| (k_here; refine halt ?_))
local macro_rules | `(tactic| walk_at "exec For") => `(tactic| (k_here; (with_reducible show wpAny _ _ (exec (Stmt.For _ _ _ _ _) _) _ _ _); refine halt ?_))
set_option maxHeartbeats 2000000 in
theorem law12 {w : World} {mg mb : Str → Option Value} {dp un : Nat} {gd : Option (List Code)} {fs : List Env} {g : Heap} {L : Addr} {s : Shared} {m : Str → Option Value} {others : List (Addr × Obj)} {d dd tl : Addr} {es : List DictEntry} {k n0 c nT : Nat} {its arr : Array Value} {f p : Nat → Value} {tk5 : Tok} {b : Nat → Nat}
    (X : (Mine.hd.heap_1 w.params).In g) (T : TopRead VV LL mg mb g) (Y : KIn w g) (hdp : dp + 100 < 600) (hun : un + 1000 < 2000) (F : Fr g L s.heap m) (N : News g L s.heap ((d, deckObj dd its n0) :: others)) (hne : ∀ q ∈ others, q.1 ≠ d) (hdd : (dd, dictOf es k) ∈ others) (own : Own5 tk5 es) (hlt : @LT.lt Nat _ dd d)
    (hR : RefsL others its f p) (htl : (tl, listOf arr c) ∈ others) (hsz : arr.size = nT) (hb2 : ∀ j, j < nT → ∃ t, arr[j]? = some (.int ((b j : Nat) : Int) t)) (hb1 : ∀ j, b j ≤ 1) (hm : m (Str.ofString "spelled") = some (.ref tl)) (hmd : m (Str.ofString "deck") = some (.ref d)) :
    wpAny (model PP w) (Around.deeper { handled := none, depth := dp, frames := some fs, guards := gd, units := un } (lawEnv L)) (execs (List.take 1 (List.drop 11 lawBody)) (lawEnv L)) (fun fl s' => Done (fl = .next ∧ ∃ h' tk' o its' n' ext, s' = { s with heap := h', toks := tk' } ∧ Fr g L h' (fun y => if y = Str.ofString "turn" then o else m y) ∧ News g L h' ((d, deckObj dd its' n') :: (ext ++ others)) ∧
      Tups ext ∧ (∀ q ∈ ext, q.1 ≠ d) ∧ RefsL (ext ++ others) its' (fun j => f (cmp b nT j)) (fun j => p (cmp b nT j)))) (fun _ _ => False) s := by
  have hun' : un + 1000 < cLine := Nat.lt_trans hun (by decide +kernel)
  have hdp' : dp + 100 < recursionLimit := Nat.lt_trans hdp (by decide +kernel)
  obtain ⟨oA, oP, oF, oC, oI⟩ := own
  repeat (conv in (List.take _ _) => whnf)
  try unfold lawEnv
  try k_fold
  k_steps
  show wpAny _ _ (exec _ _) _ _ _
  refine wpAny_For ?_
  k_steps
  show wpAny _ _ (pyIter _) _ _ _
  refine turn_loop (env := lawEnv L) (c := c) (n := nT) (b := b) rfl rfl rfl F N hne hsz htl hb2 hR ?turn ?done
  case turn =>
    intro i it oi h tk its n1 ext ti hi F9 N9 hall hRi
    have hmd' : (fun y => if y = Str.ofString "turn" then some (Value.int ((b i : Nat) : Int) ti) else m y) (Str.ofString "deck") = some (.ref d) := hmd
    clear F N
    k_steps
    show wpAny _ _ (call _ _) _ _ _
    refine shufG F9 X T Y N9 (.tail _ (List.mem_append_right _ hdd)) hall hlt oA oP oF hRi (hb1 i) ?_ ?_ ?_ fun its' n' ext' h' tk' F' N' hT hR' hnew => ?_
    · rfl
    · simp only [depth_deeper]; omega
    · simp only [units_deeper]; omega
    k_steps
    exact ⟨rfl, its', n', ext', h', _, rfl, F', N', hT, hR', hnew⟩
  case done =>
    intro o its' n' ext h tk F9 N9 hT hed hRn
    k_steps
    exact ⟨rfl, h, _, o, its', n', ext, rfl, F9, N9, hT, hed, hRn⟩
set_option maxHeartbeats 2000000 in
theorem law14 {w : World} {mg mb : Str → Option Value} {dp un : Nat} {gd : Option (List Code)} {fs : List Env} {g : Heap} {L : Addr} {s : Shared} {m : Str → Option Value} {others : List (Addr × Obj)} {d dd tl : Addr} {es : List DictEntry} {k n0 c nT : Nat} {its arr : Array Value} {f p : Nat → Value} {tk5 : Tok} {b : Nat → Nat}
    (X : (Mine.hd.heap_1 w.params).In g) (T : TopRead VV LL mg mb g) (Y : KIn w g) (hdp : dp + 100 < 600) (hun : un + 1000 < 2000) (F : Fr g L s.heap m) (N : News g L s.heap ((d, deckObj dd its n0) :: others)) (hne : ∀ q ∈ others, q.1 ≠ d) (hdd : (dd, dictOf es k) ∈ others) (own : Own5 tk5 es) (hlt : @LT.lt Nat _ dd d)
    (hR : RefsL others its f p) (htl : (tl, listOf arr c) ∈ others) (hsz : arr.size = nT) (hb2 : ∀ j, j < nT → ∃ t, arr[j]? = some (.int ((b j : Nat) : Int) t)) (hb1 : ∀ j, b j ≤ 1) (hm : m (Str.ofString "spelled") = some (.ref tl)) (hmd : m (Str.ofString "deck") = some (.ref d)) :
    wpAny (model PP w) (Around.deeper { handled := none, depth := dp, frames := some fs, guards := gd, units := un } (lawEnv L)) (execs (List.take 1 (List.drop 13 lawBody)) (lawEnv L)) (fun fl s' => Done (fl = .next ∧ ∃ h' tk' o its' n' ext, s' = { s with heap := h', toks := tk' } ∧ Fr g L h' (fun y => if y = Str.ofString "turn" then o else m y) ∧ News g L h' ((d, deckObj dd its' n') :: (ext ++ others)) ∧
      Tups ext ∧ (∀ q ∈ ext, q.1 ≠ d) ∧ RefsL (ext ++ others) its' (fun j => f (cmp b nT j)) (fun j => p (cmp b nT j)))) (fun _ _ => False) s := by
  have hun' : un + 1000 < cLine := Nat.lt_trans hun (by decide +kernel)
  have hdp' : dp + 100 < recursionLimit := Nat.lt_trans hdp (by decide +kernel)
  obtain ⟨oA, oP, oF, oC, oI⟩ := own
  repeat (conv in (List.take _ _) => whnf)
  try unfold lawEnv
  try k_fold
  k_steps
  show wpAny _ _ (exec _ _) _ _ _
  refine wpAny_For ?_
  k_steps
  show wpAny _ _ (pyIter _) _ _ _
  refine turn_loop (env := lawEnv L) (c := c) (n := nT) (b := b) rfl rfl rfl F N hne hsz htl hb2 hR ?turn ?done
  case turn =>
    intro i it oi h tk its n1 ext ti hi F9 N9 hall hRi
    have hmd' : (fun y => if y = Str.ofString "turn" then some (Value.int ((b i : Nat) : Int) ti) else m y) (Str.ofString "deck") = some (.ref d) := hmd
    clear F N
    k_steps
    show wpAny _ _ (call _ _) _ _ _
    refine shufG F9 X T Y N9 (.tail _ (List.mem_append_right _ hdd)) hall hlt oA oP oF hRi (hb1 i) ?_ ?_ ?_ fun its' n' ext' h' tk' F' N' hT hR' hnew => ?_
    · rfl
    · simp only [depth_deeper]; omega
    · simp only [units_deeper]; omega
    k_steps
    exact ⟨rfl, its', n', ext', h', _, rfl, F', N', hT, hR', hnew⟩
  case done =>
    intro o its' n' ext h tk F9 N9 hT hed hRn
    k_steps
    exact ⟨rfl, h, _, o, its', n', ext, rfl, F9, N9, hT, hed, hRn⟩
local macro_rules | `(tactic| walk_at "eval Name") => `(tactic| (k_here; (with_reducible show wpAny _ _ (eval (Expr.Name _ _) (compEnvC _ _ _ _)) _ _ _); k_dflt (refine' cnL ?F ?v ?_ ?a ?b; (case F => assumption); (case a => rfl); (case b => rfl); (case v => assumption))))
local macro_rules | `(tactic| walk_at "exec Assign cons ListComp") => `(tactic| (k_here; refine halt ?_))
local macro_rules | `(tactic| walk_at "eval ListComp") => `(tactic| (k_here; refine halt ?_))
local macro_rules | `(tactic| walk_at "compareOp NotEq ref") => `(tactic| (k_here; refine halt ?_))
local macro_rules | `(tactic| walk_at "compareOp NotEq ref ref") => `(tactic| (k_here; refine halt ?_))
set_option maxHeartbeats 2000000 in
theorem law13 {w : World} {mg mb : Str → Option Value} {dp un : Nat} {gd : Option (List Code)} {fs : List Env} {g : Heap} {L : Addr} {s : Shared} {m : Str → Option Value} {news : List (Addr × Obj)} {d dd : Addr} {es : List DictEntry} {k n0 : Nat} {its : Array Value} {f p : Nat → Value}
    (X : (Mine.hd.heap_1 w.params).In g) (T : TopRead VV LL mg mb g) (Y : KIn w g) (hdp : dp + 100 < 600) (hun : un + 1000 < 2000) (F : Fr g L s.heap m) (N : News g L s.heap news) (hd : (d, deckObj dd its n0) ∈ news) (hdd : (dd, dictOf es k) ∈ news)
    (hR : RefsL news its f p) (hmd : m (Str.ofString "deck") = some (.ref d)) :
    wpAny (model PP w) (Around.deeper { handled := none, depth := dp, frames := some fs, guards := gd, units := un } (lawEnv L)) (execs (List.take 1 (List.drop 12 lawBody)) (lawEnv L)) (fun fl s' => Done (fl = .next ∧ ∃ h' tk' D c ys, s' = { s with heap := h', toks := tk' } ∧ Fr g L h' (fun y => if y = Str.ofString "between" then some (.ref D) else m y) ∧ News g L h' ((D, listOf ys c) :: news) ∧ RefsL news ys f p)) (fun _ _ => False) s := by
  have hun' : un + 1000 < cLine := Nat.lt_trans hun (by decide +kernel)
  have hdp' : dp + 100 < recursionLimit := Nat.lt_trans hdp (by decide +kernel)
  repeat (conv in (List.take _ _) => whnf)
  try unfold lawEnv
  try k_fold
  k_steps
  show wpAny _ _ (exec _ _) _ _ _
  refine assign_comp_row (g := g) (m := m) (cl := []) (fun v y => y = v) (by rfl) (by rfl) (by decide) (by rfl) (by decide) (by rfl) (by rfl) (by rfl) (by rfl) ?_ (by intro _; rfl)
  k_steps
  refine ⟨d, rfl, deck_iter (X.keeps F.keep) (N _ hd).1 (N _ hdd).1 ⟨rfl, rfl⟩, its, _, IsRow.deck (N _ hd).1, ?_, F, N, ?_, ?_⟩
  · rw [hR.1, sizeLine_eq]; omega
  · intro C i v s₃ m₃ E' hC hv hns hmx hkk
    clear F N
    k_steps
    all_goals first | exact ⟨_, _, rfl, fun _ _ e => e⟩ | rfl
  · intro D h' tk ys c F2 N2 hnD hys hR2
    clear F N
    k_steps
    exact ⟨rfl, h', _, D, c, ys, rfl, F2, N2, row_copy hR hys hR2⟩
set_option maxHeartbeats 2000000 in
theorem law15 {w : World} {mg mb : Str → Option Value} {dp un : Nat} {gd : Option (List Code)} {fs : List Env} {g : Heap} {L : Addr} {s : Shared} {m : Str → Option Value} {news : List (Addr × Obj)} {d dd B : Addr} {es : List DictEntry} {k n0 cB : Nat} {its bs : Array Value} {f p f' p' : Nat → Value} {oB : Obj} {xs ys : Nat → Str}
    (X : (Mine.hd.heap_1 w.params).In g) (T : TopRead VV LL mg mb g) (Y : KIn w g) (hdp : dp + 100 < 600) (hun : un + 1000 < 2000) (F : Fr g L s.heap m) (N : News g L s.heap news) (hd : (d, deckObj dd its n0) ∈ news) (hdd : (dd, dictOf es k) ∈ news) (hB : (L + 1, oB) ∈ news) (hBv : oB.data = .cell (some (.ref B))) (hbl : (B, listOf bs cB) ∈ news)
    (hR : RefsL news its f p) (hR' : RefsL news bs f' p') (hP : ∀ j, j < 32 → (∃ u, f j = .str (xs j) u) ∧ (∃ u, p j = .str (ys j) u)) (hP' : ∀ j, j < 32 → (∃ u, f' j = .str (xs j) u) ∧ (∃ u, p' j = .str (ys j) u)) (hok : ∀ j, PyData.strOk (xs j) = true ∧ PyData.strOk (ys j) = true) (hmd : m (Str.ofString "deck") = some (.ref d)) :
    wpAny (model PP w) (Around.deeper { handled := none, depth := dp, frames := some fs, guards := gd, units := un } (lawEnv L)) (execs (List.take 1 (List.drop 14 lawBody)) (lawEnv L)) (fun fl s' => Done (fl = .next ∧ ∃ h' tk', s' = { s with heap := h', toks := tk' } ∧ Fr g L h' m ∧ News g L h' news)) (fun _ _ => False) s := by
  have hun' : un + 1000 < cLine := Nat.lt_trans hun (by decide +kernel)
  have hdp' : dp + 100 < recursionLimit := Nat.lt_trans hdp (by decide +kernel)
  repeat (conv in (List.take _ _) => whnf)
  try unfold lawEnv
  try k_fold
  k_steps
  show wpAny _ _ (eval _ _) _ _ _
  refine eval_comp_row (g := g) (L := L) (m := m) (cl := []) (fun v y => y = v) (by rfl) (by decide) (by rfl) (by decide) (by rfl) (by rfl) ?_ (by intro _; rfl)
  k_steps
  refine ⟨d, rfl, deck_iter (X.keeps F.keep) (N _ hd).1 (N _ hdd).1 ⟨rfl, rfl⟩, its, _, IsRow.deck (N _ hd).1, ?_, F, N, ?_, ?_⟩
  · rw [hR.1, sizeLine_eq]; omega
  · intro C i v s₃ m₃ E' hC hv hns hmx hkk
    clear F N
    k_steps
    all_goals first | exact ⟨_, _, rfl, fun _ _ e => e⟩ | rfl
  · intro D h' tk zs c F2 N2 hnD hys hR2
    clear F N
    have hB2 : (L + 1, oB) ∈ (D, listOf zs c) :: news := .tail _ hB
    k_steps
    show wpAny _ _ (compareOp _ _ _) _ _ _
    have hRz := row_copy hR hys hR2
    refine ne_rows (N2 _ (.head _)).1 (N2 _ (.tail _ hbl)).1 ((hRz.sub fun q hq => .tail _ hq).refs N2) ((hR'.sub fun q hq => .tail _ hq).refs N2) hP hP' hok ?_ ?_
    · simp only [units_deeper]; omega
    k_steps
    exact ⟨rfl, h', _, rfl, F2, news_sub N2 fun q hq => .tail _ hq⟩
end Mine

end
section -- part W6
open PySem PySem.W PyProof.Rows PySem.Calls PySem.SeqAt
set_option maxRecDepth 100000
namespace Mine
theorem filledW6 : PySem.Challenge.rw_pg0066_01 = PySem.Challenge.rw_pg0066_01 ∧ Mine.hd.heap_1 = Mine.hd.heap_1 := by
  k_fill
  exact ⟨rfl, rfl⟩
section
variable {M : Model} {A : Around} {E : Value → Shared → Prop} {s : Shared} {C c : Addr} {m : Str → Option Value} {scope : Scope} {cl : List (Str × Addr)} {env : Env} {x : Str} {pos : Pos} {v : Value} {o : Obj} {Q : Value → Shared → Prop}
theorem cnC (hc : cl.lookup x = some c) (ho : s.heap.get? c = some o) (hv : o.data = .cell (some v)) (h : Q v s)
    (hk : scope.kind = .function := by rfl) (hl : (compEnvC scope cl C env).kindOf x = some .cell := by rfl) (hd : (x == ("__debug__" : Str)) = false := by decide) :
    wpAny M A (eval (.Name x pos) (compEnvC scope cl C env)) Q E s := wpAny_Name (wpAny_loadName_cell hk hl hc ⟨o, ho, hv⟩ h) hd
end
local macro_rules | `(tactic| k_mem) => `(tactic| assumption)
local macro_rules | `(tactic| walk_at "eval Name") => `(tactic| (k_here; k_dflt (first
  | (refine' nameX_L ?F ?v ?_ ?a ?b; (case F => k_asm); (case a => rfl); (case b => rfl); (case v => assumption))
  | (refine' nameX_C ?N ?c ?m ?d ?_ ?a ?b; (case a => rfl); (case b => rfl); (case N => k_asm); (case c => rfl); (case m => k_mem); (case d => assumption)))))
local macro_rules | `(tactic| walk_at "eval Name") => `(tactic| (k_here; (with_reducible show wpAny _ _ (eval (Expr.Name _ _) (compEnvC _ _ _ _)) _ _ _); k_dflt (first
  | (refine' cnL ?F ?v ?_ ?a ?b; (case F => assumption); (case a => rfl); (case b => rfl); (case v => assumption))
  | (refine' cnC ?c ?o ?v ?_ ?a ?b; (case a => rfl); (case b => rfl); (case c => rfl); (case o => assumption); (case v => assumption)))))
local macro_rules | `(tactic| walk_at "eval ListComp") => `(tactic| (k_here; refine halt ?_))
local macro_rules | `(tactic| walk_at "subscriptTail Name BinOp ref int") => `(tactic| (k_here; refine halt ?_))
local macro_rules | `(tactic| walk_at "compareOp NotEq ref ref") => `(tactic| (k_here; refine halt ?_))
local macro_rules | `(tactic| walk_at "binaryOp BitXor int int") => `(tactic| (k_here; refine halt ?_))
theorem list_at {prog : Program} {w : World} {A : Around} {E : Value → Shared → Prop} {s : Shared} {value slice : Expr} {l : Addr} {arr : Array Value} {i : Nat} {u : Tok} {v : Value} {Q : Value → Shared → Prop} (hl : s.heap.IsList l arr) (hx : arr[i]? = some v) (hi : i < 1000) (h : Q v s)
    (hs : subscripted slice false (.ref l) (.int (i : Int) u) = operate [.ref l, .int (i : Int) u] (getItem (.ref l) (.int (i : Int) u))) :
    wpAny (model prog w) A (subscriptTail value slice (.ref l) (.int (i : Int) u)) Q E s :=
  tail_any hl.typeIs slot_list_getitem.lookup (wpAny_getItem_list hl (by omega) (by omega) (by simpa using hx) h) hs
theorem row_xor {others : List (Addr × Obj)} {bs zs : Array Value} {f p : Nat → Value} {r : Nat} (hr : r < 32) (hR : RefsL others bs f p) (hs : zs.size = 32) (h : ∀ j, j < 32 → ∃ y, zs[j]? = some y ∧ bs[j ^^^ r]? = some y) : RefsL others zs (fun j => f (j ^^^ r)) (fun j => p (j ^^^ r)) :=
  ⟨hs, fun i hi => by
    obtain ⟨t, a, b⟩ := hR.2 (i ^^^ r) (Nat.xor_lt_two_pow (n := 5) hi hr)
    obtain ⟨y, e1, e2⟩ := h i hi
    rw [a] at e2; cases e2
    exact ⟨t, e1, b⟩⟩
def AtXor (bs : Array Value) (r : Nat) (v y : Value) : Prop := ∀ (i : Nat) t, v = .int (i : Int) t → bs[i ^^^ r]? = some y
set_option maxHeartbeats 2000000 in
theorem law16 {w : World} {mg mb : Str → Option Value} {dp un : Nat} {gd : Option (List Code)} {fs : List Env} {g : Heap} {L : Addr} {s : Shared} {m : Str → Option Value} {news : List (Addr × Obj)} {B Bt : Addr} {cB cT r : Nat} {bs bt : Array Value} {f p f' p' : Nat → Value} {oB oG : Obj} {tG : Tok} {xs ys : Nat → Str}
    (X : (Mine.hd.heap_1 w.params).In g) (T : TopRead VV LL mg mb g) (Y : KIn w g) (hdp : dp + 100 < 600) (hun : un + 1000 < 2000) (F : Fr g L s.heap m) (N : News g L s.heap news) (hB : (L + 1, oB) ∈ news) (hBv : oB.data = .cell (some (.ref B))) (hG : (L + 1 + 1, oG) ∈ news) (hGv : oG.data = .cell (some (.int ((r : Nat) : Int) tG))) (hr : r < 32) (hbl : (B, listOf bs cB) ∈ news) (hbt : (Bt, listOf bt cT) ∈ news)
    (hR : RefsL news bt f p) (hR' : RefsL news bs f' p') (hP : ∀ j, j < 32 → (∃ u, f j = .str (xs j) u) ∧ (∃ u, p j = .str (ys j) u)) (hP' : ∀ j, j < 32 → (∃ u, f' (j ^^^ r) = .str (xs j) u) ∧ (∃ u, p' (j ^^^ r) = .str (ys j) u)) (hok : ∀ j, PyData.strOk (xs j) = true ∧ PyData.strOk (ys j) = true) (hmb : m (Str.ofString "between") = some (.ref Bt)) :
    wpAny (model PP w) (Around.deeper { handled := none, depth := dp, frames := some fs, guards := gd, units := un } (lawEnv L)) (execs (List.take 1 (List.drop 15 lawBody)) (lawEnv L)) (fun fl s' => Done (fl = .next ∧ ∃ h' tk', s' = { s with heap := h', toks := tk' } ∧ Fr g L h' m ∧ News g L h' news)) (fun _ _ => False) s := by
  have hun' : un + 1000 < cLine := Nat.lt_trans hun (by decide +kernel)
  have hdp' : dp + 100 < recursionLimit := Nat.lt_trans hdp (by decide +kernel)
  repeat (conv in (List.take _ _) => whnf)
  try unfold lawEnv
  try k_fold
  k_steps
  show wpAny _ _ (eval _ _) _ _ _
  refine eval_comp_range (g := g) (L := L) (m := m) (n := 32) (cl := [(Str.ofString "goal", L + 1 + 1), (Str.ofString "before", L + 1)]) (AtXor bs r) (by rfl) (by decide) (by rfl) (by decide) (by rfl) (by rfl) (by rw [sizeLine_eq]; decide) (by decide +kernel) (by decide +kernel) ?_ (by intro _; rfl)
  k_steps
  rename Fr _ _ _ _ => F1
  rename News _ _ _ _ => N1
  rename IsRange _ _ _ _ _ _ _ _ => hrg
  refine ⟨_, _, _, _, rfl, hrg, _, F1, N1, ?_, ?_⟩
  · rintro C i v s₃ m₃ E' hC ⟨hi, t, rfl⟩ hns hmx hkk
    have hoB := hkk _ _ (N1 _ hB).1
    have hoG := hkk _ _ (N1 _ hG).1
    have hol := hkk _ _ (N1 _ hbl).1
    clear F1 N1
    k_steps
    show wpAny _ _ (binaryOp _ _ _) _ _ _
    refine xorE (xor32 hi hr) ?_
    k_steps
    show wpAny _ _ (subscriptTail _ _ _ _) _ _ _
    have hx32 : i ^^^ r < 32 := Nat.xor_lt_two_pow (n := 5) hi hr
    obtain ⟨t', e1, _⟩ := hR'.2 (i ^^^ r) hx32
    refine list_at ⟨_, hol, rfl, _, rfl⟩ e1 (by omega) ?_ (by with_unfolding_all rfl)
    refine ⟨fun i' t2 e => ?_, _, _, rfl, fun _ _ e => e⟩
    have : i = i' := by injection e with h1 _; omega
    subst this
    exact e1
  · intro D h' tk zs c F2 N2 hnD hys hR2
    have hRz : RefsL news zs (fun j => f' (j ^^^ r)) (fun j => p' (j ^^^ r)) := row_xor hr hR' hys fun j hj => by
      obtain ⟨t, y, e1, e2⟩ := hR2 j hj
      exact ⟨y, e1, e2 j t rfl⟩
    clear F1 N1
    k_steps
    show wpAny _ _ (compareOp _ _ _) _ _ _
    refine ne_rows (N2 _ (.tail _ hbt)).1 (N2 _ (.head _)).1 ((hR.sub fun q hq => .tail _ hq).refs N2) ((hRz.sub fun q hq => .tail _ hq).refs N2) hP hP' hok ?_ ?_
    · simp only [units_deeper]; omega
    k_steps
    exact ⟨rfl, h', _, rfl, F2, news_sub N2 fun q hq => .tail _ hq⟩
end Mine

end
section -- part W7
open PySem PySem.W PyProof.Rows PySem.Calls PySem.SeqAt
set_option maxRecDepth 100000
namespace Mine
theorem filledW7 : PySem.Challenge.rw_pg0066_01 = PySem.Challenge.rw_pg0066_01 ∧ Mine.hd.heap_1 = Mine.hd.heap_1 := by
  k_fill
  exact ⟨rfl, rfl⟩
local macro_rules | `(tactic| k_mem) => `(tactic| assumption)
local macro_rules | `(tactic| walk_at "eval Name") => `(tactic| (k_here; k_dflt (first
  | (refine' nameX_L ?F ?v ?_ ?a ?b; (case F => k_asm); (case a => rfl); (case b => rfl); (case v => assumption))
  | (refine' nameX_C ?N ?c ?m ?d ?_ ?a ?b; (case a => rfl); (case b => rfl); (case N => k_asm); (case c => rfl); (case m => k_mem); (case d => assumption)))))
local macro_rules | `(tactic| walk_at "call ref") => `(tactic| (k_here; refine halt ?_))
local macro_rules | `(tactic| walk_at "pyIter ref") => `(tactic| (k_here; refine halt ?_))
local macro_rules | `(tactic| walk_at "exec For") => `(tactic| (k_here; (with_reducible show wpAny _ _ (exec (Stmt.For _ _ _ _ _) _) _ _ _); refine halt ?_))
local macro_rules | `(tactic| walk_at "binaryOp Add ref ref") => `(tactic| (k_here; refine halt ?_))
theorem wp_done {α : Type} {M : Model} {A : Around} {t : Sem α} {P : α → Shared → Prop} {E : Value → Shared → Prop} {s : Shared} (h : wpAny M A t (fun f s => Done (P f s)) E s) : wpAny M A t P E s := wpAny_mono h (fun _ _ q => q.out) fun _ _ e => e
def pstep (b p : Nat) : Nat := (2 * p + (if b = 1 then 1 - p / 16 else p / 16)) % 32
def plc (b : Nat → Nat) (p0 : Nat) : Nat → Nat
  | 0 => p0
  | i + 1 => pstep (b i) (plc b p0 i)
theorem plc_lt {b : Nat → Nat} {p0 : Nat} (h : p0 < 32) : ∀ i, plc b p0 i < 32
  | 0 => h
  | i + 1 => Nat.mod_lt _ (by decide)
set_option maxHeartbeats 2000000 in
theorem law17 {w : World} {mg mb : Str → Option Value} {dp un : Nat} {gd : Option (List Code)} {fs : List Env} {g : Heap} {L : Addr} {s : Shared} {m : Str → Option Value} {news : List (Addr × Obj)} {M : Nat} {tM : Tok}
    (X : (Mine.hd.heap_1 w.params).In g) (T : TopRead VV LL mg mb g) (Y : KIn w g) (hdp : dp + 100 < 600) (hun : un + 1000 < 2000) (F : Fr g L s.heap m) (N : News g L s.heap news) (hm : m (Str.ofString "marks") = some (.int ((M : Nat) : Int) tM)) :
    wpAny (model PP w) (Around.deeper { handled := none, depth := dp, frames := some fs, guards := gd, units := un } (lawEnv L)) (execs (List.take 1 (List.drop 16 lawBody)) (lawEnv L)) (fun fl s' => Done (fl = .next ∧ ∃ h' tk' t, s' = { s with heap := h', toks := tk' } ∧ Fr g L h' (fun y => if y = Str.ofString "place" then some (.int ((M % 32 : Nat) : Int) t) else m y) ∧ News g L h' news)) (fun _ _ => False) s := by
  repeat (conv in (List.take _ _) => whnf)
  try unfold lawEnv
  try k_fold
  have e : ((M : Nat) : Int).fmod 32 = ((M % 32 : Nat) : Int) := by rw [Int.fmod_eq_emod_of_nonneg _ (by decide)]; rfl
  k_steps
  rename Fr _ _ _ _ => F1
  rename News _ _ _ _ => N1
  rw [e] at F1
  exact ⟨rfl, _, _, _, rfl, F1, N1⟩
set_option maxHeartbeats 2000000 in
theorem law18 {w : World} {mg mb : Str → Option Value} {dp un : Nat} {gd : Option (List Code)} {fs : List Env} {g : Heap} {L : Addr} {s : Shared} {m : Str → Option Value} {news : List (Addr × Obj)} {tl spl : Addr} {a1 a2 : Array Value} {c1 c2 p0 : Nat} {tp : Tok} {bc : Nat → Nat}
    (X : (Mine.hd.heap_1 w.params).In g) (T : TopRead VV LL mg mb g) (Y : KIn w g) (hdp : dp + 100 < 600) (hun : un + 1000 < 2000) (F : Fr g L s.heap m) (N : News g L s.heap news) (h1 : (tl, listOf a1 c1) ∈ news) (h2 : (spl, listOf a2 c2) ∈ news) (hsz : a1.size + a2.size ≤ 11)
    (hb2 : ∀ j, j < a1.size + a2.size → ∃ t, (a1.toList ++ a2.toList)[j]? = some (.int ((bc j : Nat) : Int) t)) (hb1 : ∀ j, bc j ≤ 1) (hp0 : p0 < 32) (hmt : m (Str.ofString "turns") = some (.ref tl)) (hms : m (Str.ofString "spelled") = some (.ref spl)) (hmp : m (Str.ofString "place") = some (.int ((p0 : Nat) : Int) tp)) :
    wpAny (model PP w) (Around.deeper { handled := none, depth := dp, frames := some fs, guards := gd, units := un } (lawEnv L)) (execs (List.take 1 (List.drop 17 lawBody)) (lawEnv L)) (fun fl s' => Done (fl = .next ∧ ∃ h' tk' m' t, s' = { s with heap := h', toks := tk' } ∧ Fr g L h' m' ∧ News g L h' news ∧ m' (Str.ofString "place") = some (.int ((plc bc p0 (a1.size + a2.size) : Nat) : Int) t) ∧ (∀ y, y ≠ Str.ofString "turn" → y ≠ Str.ofString "half" → y ≠ Str.ofString "place" → m' y = m y))) (fun _ _ => False) s := by
  have hun' : un + 1000 < cLine := Nat.lt_trans hun (by decide +kernel)
  have hdp' : dp + 100 < recursionLimit := Nat.lt_trans hdp (by decide +kernel)
  repeat (conv in (List.take _ _) => whnf)
  try unfold lawEnv
  try k_fold
  k_steps
  show wpAny _ _ (exec _ _) _ _ _
  refine wpAny_For ?_
  k_steps
  show wpAny _ _ (binaryOp _ _ _) _ _ _
  refine kmk_add_lit F N ⟨_, (N _ h1).1, rfl, _, rfl⟩ ⟨_, (N _ h2).1, rfl, _, rfl⟩ rfl (fun D h' F1 N1 hD => ?_) (by rw [sizeLine_eq, Array.length_toList, Array.length_toList]; omega)
  clear F N
  k_steps
  show wpAny _ _ (pyIter _) _ _ _
  refine list_loop (env := lawEnv L) (c := 0) (n := a1.size + a2.size) (arr := (a1.toList ++ a2.toList).toArray) rfl rfl rfl F1 N1 (by simp)
    (fun i m₁ news₁ => news₁ = (D, listOf (a1.toList ++ a2.toList).toArray 0) :: news ∧ (∃ t, m₁ (Str.ofString "place") = some (.int ((plc bc p0 i : Nat) : Int) t)) ∧ (∀ y, y ≠ Str.ofString "turn" → y ≠ Str.ofString "half" → y ≠ Str.ofString "place" → m₁ y = m y))
    ⟨rfl, ⟨_, hmp⟩, fun _ _ _ _ => rfl⟩ ?_ ?turn ?done
  · rintro i m₁ news₁ ⟨rfl, _⟩; exact .head _
  case turn =>
    rintro i it oi m₁ news₁ h tk v hi hv ⟨rfl, ⟨tq, hmq⟩, hmy⟩ hit F9 N9
    obtain ⟨tv, e⟩ := hb2 i hi
    rw [List.getElem?_toArray, e] at hv
    cases hv
    have hbi := hb1 i
    have hpl := plc_lt (b := bc) hp0 i
    clear F1 N1
    have hst : plc bc p0 (i + 1) = pstep (bc i) (plc bc p0 i) := rfl
    rw [hst]
    generalize bc i = x at *
    generalize plc bc p0 i = q at *
    have e1 : ((q : Nat) : Int).fdiv 16 = ((q / 16 : Nat) : Int) := by rw [Int.fdiv_eq_ediv_of_nonneg _ (by decide)]; rfl
    rcases (show x = 0 ∨ x = 1 by omega) with rfl | rfl
    · refine wp_done ?_
      have ev : (2 * ((q : Nat) : Int) + ((q : Nat) : Int).fdiv 16) % 32 = ((pstep 0 q : Nat) : Int) := by
        simp only [pstep]; rw [e1]; simp <;> omega
      k_steps
      show wpAny _ _ (call _ _) _ _ _
      rename Fr _ _ _ _ => F5
      rename News _ _ _ _ => N5
      refine ctrlI_abs ⟨X, T, Y⟩ F5.keep ?_ ?_ ?_ ev fun h4 tk4 tk4' hk4 => ?_
      · rfl
      · simp only [depth_deeper]; omega
      · simp only [units_deeper]; omega
      have F6 := kept_fr F5 hk4
      have N6 := kept_news N5 hk4
      clear F5 N5
      k_steps
      rename Fr _ _ _ _ => F7
      rename News _ _ _ _ => N7
      refine ⟨rfl, _, _, _, _, rfl, F7, N7, hit, rfl, ⟨_, rfl⟩, fun y a b c => ?_⟩
      simp only [if_neg a, if_neg b, if_neg c]
      exact hmy y a b c
    · refine wp_done ?_
      have ev : (2 * ((q : Nat) : Int) + (1 - ((q : Nat) : Int).fdiv 16)) % 32 = ((pstep 1 q : Nat) : Int) := by
        simp only [pstep]; rw [e1]; simp <;> omega
      k_steps
      show wpAny _ _ (call _ _) _ _ _
      rename Fr _ _ _ _ => F5
      rename News _ _ _ _ => N5
      refine ctrlI_abs ⟨X, T, Y⟩ F5.keep ?_ ?_ ?_ ev fun h4 tk4 tk4' hk4 => ?_
      · rfl
      · simp only [depth_deeper]; omega
      · simp only [units_deeper]; omega
      have F6 := kept_fr F5 hk4
      have N6 := kept_news N5 hk4
      clear F5 N5
      k_steps
      rename Fr _ _ _ _ => F7
      rename News _ _ _ _ => N7
      refine ⟨rfl, _, _, _, _, rfl, F7, N7, hit, rfl, ⟨_, rfl⟩, fun y a b c => ?_⟩
      simp only [if_neg a, if_neg b, if_neg c]
      exact hmy y a b c
  case done =>
    rintro m₁ news₁ h tk ⟨rfl, ⟨tq, hmq⟩, hmy⟩ F9 N9
    k_steps
    exact ⟨rfl, h, _, m₁, tq, rfl, F9, news_sub N9 fun q hq => .tail _ hq, hmq, hmy⟩
end Mine

end
section -- part W8
open PySem PySem.W PyProof.Rows PySem.Calls PySem.SeqAt
set_option maxRecDepth 100000
namespace Mine
theorem filledW8 : PySem.Challenge.rw_pg0066_01 = PySem.Challenge.rw_pg0066_01 ∧ Mine.hd.heap_1 = Mine.hd.heap_1 := by
  k_fill
  exact ⟨rfl, rfl⟩
local macro_rules | `(tactic| k_mem) => `(tactic| assumption)
local macro_rules | `(tactic| walk_at "eval Name") => `(tactic| (k_here; k_dflt (refine' nameX_L ?F ?v ?_ ?a ?b; (case F => k_asm); (case a => rfl); (case b => rfl); (case v => assumption))))
local macro_rules | `(tactic| walk_at "call ref") => `(tactic| (k_here; refine halt ?_))
local macro_rules | `(tactic| walk_at "subscriptTail Name Name ref int") => `(tactic| (k_here; refine halt ?_))
local macro_rules | `(tactic| walk_at "compareOp Eq ref ref") => `(tactic| (k_here; refine halt ?_))
theorem str_ex {x y : Str} {u : Tok} (h : x = y) : ∃ u', Value.str x u = .str y u' := ⟨u, by rw [h]⟩
theorem pic_cases (M i : Nat) : ∃ c, fac i = ⟨#[c]⟩ ∧ ((pic M i = ⟨#[33, 94, c]⟩ ∧ pre M i = ⟨#[33, 94]⟩) ∨ (pic M i = ⟨#[94, c]⟩ ∧ pre M i = ⟨#[94]⟩)) := by
  refine ⟨i + 64, rfl, ?_⟩
  unfold pic pre fac
  split
  · exact .inl ⟨rfl, rfl⟩
  · exact .inr ⟨rfl, rfl⟩
set_option maxHeartbeats 2000000 in
theorem law19 {w : World} {mg mb : Str → Option Value} {dp un : Nat} {gd : Option (List Code)} {fs : List Env} {g : Heap} {L : Addr} {s : Shared} {m : Str → Option Value} {news : List (Addr × Obj)} {M q cT : Nat} {tM tq : Tok} {Bt : Addr} {bt : Array Value} {f p : Nat → Value}
    (X : (Mine.hd.heap_1 w.params).In g) (T : TopRead VV LL mg mb g) (Y : KIn w g) (hdp : dp + 100 < 600) (hun : un + 1000 < 2000) (F : Fr g L s.heap m) (N : News g L s.heap news) (hm : m (Str.ofString "marks") = some (.int ((M : Nat) : Int) tM)) (hmb : m (Str.ofString "between") = some (.ref Bt)) (hmp : m (Str.ofString "place") = some (.int ((q : Nat) : Int) tq))
    (hbt : (Bt, listOf bt cT) ∈ news) (hR : RefsL news bt f p) (hq : q < 32) (hP : (∃ u, f q = .str (pre M (M % 32)) u) ∧ (∃ u, p q = .str (fac (M % 32)) u)) (hok : PyData.strOk (pre M (M % 32)) = true ∧ PyData.strOk (fac (M % 32)) = true) :
    wpAny (model PP w) (Around.deeper { handled := none, depth := dp, frames := some fs, guards := gd, units := un } (lawEnv L)) (execs (List.take 2 (List.drop 18 lawBody)) (lawEnv L)) (fun fl s' => Done (fl = .ret (.bool true) ∧ ∃ h' tk' m', s' = { s with heap := h', toks := tk' } ∧ Fr g L h' m' ∧ News g L h' news)) (fun _ _ => False) s := by
  have hun' : un + 1000 < cLine := Nat.lt_trans hun (by decide +kernel)
  have hdp' : dp + 100 < recursionLimit := Nat.lt_trans hdp (by decide +kernel)
  repeat (conv in (List.take _ _) => whnf)
  try unfold lawEnv
  try k_fold
  have e : ((M : Nat) : Int).fmod 32 = ((M % 32 : Nat) : Int) := by rw [Int.fmod_eq_emod_of_nonneg _ (by decide)]; rfl
  k_steps
  show wpAny _ _ (call _ _) _ _ _
  rw [e]
  refine pic_abs ⟨X, T, Y⟩ F.keep ?_ ?_ ?_ (Nat.mod_lt _ (by decide)) fun h1 tk1 tk1' hk1 => ?_
  · rfl
  · simp only [depth_deeper]; omega
  · simp only [units_deeper]; omega
  have F1 := kept_fr F hk1
  have N1 := kept_news N hk1
  clear F N
  obtain ⟨c, ef, hc⟩ := pic_cases M (M % 32)
  rcases hc with ⟨ep, er⟩ | ⟨ep, er⟩
  · rw [ep]
    k_steps
    show wpAny _ _ (subscriptTail _ _ _ _) _ _ _
    rename Fr _ _ _ _ => F2
    rename News _ _ _ _ => N2
    obtain ⟨t, e1, ht⟩ := hR.2 q hq
    refine list_at ⟨_, (N2 _ hbt).1, rfl, _, rfl⟩ e1 (by omega) ?_ (by with_unfolding_all rfl)
    k_steps
    show wpAny _ _ (compareOp _ _ _) _ _ _
    rename Fr _ _ _ _ => F3
    rename News _ _ _ _ => N3
    refine eq_pairs (fs := fun _ => pre M (M % 32)) (ps := fun _ => fac (M % 32)) (j := 0) (N3 _ (.tail _ ht)).1 (N3 _ (.head _)).1 hP ⟨str_ex ?_, str_ex ?_⟩ (fun _ => hok) ?_ ?_
    · rw [er]; exact sliceB _
    · rw [ef]; exact itemB _
    · simp only [units_deeper]; omega
    k_steps
    exact ⟨rfl, _, _, _, rfl, F3, news_sub N3 fun q hq => .tail _ hq⟩
  · rw [ep]
    k_steps
    show wpAny _ _ (subscriptTail _ _ _ _) _ _ _
    rename Fr _ _ _ _ => F2
    rename News _ _ _ _ => N2
    obtain ⟨t, e1, ht⟩ := hR.2 q hq
    refine list_at ⟨_, (N2 _ hbt).1, rfl, _, rfl⟩ e1 (by omega) ?_ (by with_unfolding_all rfl)
    k_steps
    show wpAny _ _ (compareOp _ _ _) _ _ _
    rename Fr _ _ _ _ => F3
    rename News _ _ _ _ => N3
    refine eq_pairs (fs := fun _ => pre M (M % 32)) (ps := fun _ => fac (M % 32)) (j := 0) (N3 _ (.tail _ ht)).1 (N3 _ (.head _)).1 hP ⟨str_ex ?_, str_ex ?_⟩ (fun _ => hok) ?_ ?_
    · rw [er]; exact sliceA _
    · rw [ef]; exact itemA _
    · simp only [units_deeper]; omega
    k_steps
    exact ⟨rfl, _, _, _, rfl, F3, news_sub N3 fun q hq => .tail _ hq⟩
end Mine

end
section -- part PL
open PySem PySem.W PyProof.Rows PySem.Calls PySem.SeqAt
set_option maxRecDepth 100000
namespace Mine
/-! the plain law -/
def rot (p : Nat) : Nat := if p = 31 then 31 else 2 * p % 31
theorem rot_lt (p : Nat) : rot p < 32 := by unfold rot; split <;> omega
theorem rot_sig {b j : Nat} (hb : b ≤ 1) (hj : j < 32) : rot (sig ((b : Nat) : Int) j) ^^^ b = j ∧ sig ((b : Nat) : Int) j < 32 := by
  have : ∀ (b : Fin 2) (j : Fin 32), rot (sig (((b : Nat) : Nat) : Int) j) ^^^ (b : Nat) = j ∧ sig (((b : Nat) : Nat) : Int) j < 32 := by decide +kernel
  exact this ⟨b, by omega⟩ ⟨j, hj⟩
theorem rot_xor {x y : Nat} (hx : x < 32) (hy : y < 32) : rot (x ^^^ y) = rot x ^^^ rot y := by
  have : ∀ (x y : Fin 32), rot ((x : Nat) ^^^ (y : Nat)) = rot x ^^^ rot y := by decide +kernel
  exact this ⟨x, hx⟩ ⟨y, hy⟩
theorem sig_step {b p : Nat} (hb : b ≤ 1) (hp : p < 32) : sig ((b : Nat) : Int) (pstep b p) = p := by
  have : ∀ (b : Fin 2) (p : Fin 32), sig (((b : Nat) : Nat) : Int) (pstep b p) = p := by decide +kernel
  exact this ⟨b, by omega⟩ ⟨p, hp⟩
theorem tr_step {n c : Nat} : tr (n + 1) c = rot (tr n c) := by
  unfold tr rot
  by_cases h : c = 31
  · simp [h]
  · simp only [if_neg h]
    have h1 : c * 2 ^ n % 31 ≠ 31 := by omega
    rw [if_neg h1, Nat.pow_succ]
    generalize 2 ^ n = z
    rw [← Nat.mul_assoc, Nat.mul_comm (c * z) 2, Nat.mul_mod 2 (c * z % 31), Nat.mod_mod, ← Nat.mul_mod]
theorem term_step {b : Nat → Nat} {n k : Nat} (hb : b k ≤ 1) (hk : k < n) : term b (n + 1) k = rot (term b n k) := by
  unfold term
  obtain ⟨e, he⟩ : ∃ e, n - 1 - k = e := ⟨_, rfl⟩
  have h2 : n + 1 - 1 - k = e + 1 := by omega
  rw [he, h2]
  generalize b k = x at *
  have key : ∀ (x : Fin 2) (r : Fin 5), (x : Nat) * 2 ^ ((r + 1) % 5 : Nat) = rot ((x : Nat) * 2 ^ (r : Nat)) := by decide +kernel
  have := key ⟨x, by omega⟩ ⟨e % 5, Nat.mod_lt _ (by decide)⟩
  simp only at this
  rw [← this]
  congr 2
  omega
theorem mvd_step {b : Nat → Nat} {n : Nat} (hb : ∀ j, b j ≤ 1) : ∀ k, k ≤ n → mvd b (n + 1) k = rot (mvd b n k)
  | 0, _ => by simp [mvd, rot]
  | k + 1, h => by
    rw [mvd, mvd, mvd_step hb k (by omega), term_step (hb k) (by omega), rot_xor (mvd_lt k fun j _ => hb j) (term_lt (hb k))]
theorem at_step {b : Nat → Nat} {n c : Nat} (hb : ∀ j, b j ≤ 1) : at_ b (n + 1) c = rot (at_ b n c) ^^^ b n := by
  unfold at_
  rw [tr_step, mvd, mvd_step hb n (Nat.le_refl _), rot_xor (tr_lt n c) (mvd_lt n fun j _ => hb j)]
  have : term b (n + 1) n = b n := by unfold term; simp
  rw [this, Nat.xor_assoc]
theorem cmp_lt {b : Nat → Nat} (hb : ∀ j, b j ≤ 1) : ∀ n j, j < 32 → cmp b n j < 32
  | 0, _, h => h
  | n + 1, j, h => cmp_lt hb n _ (rot_sig (hb n) h).2
theorem at_cmp {b : Nat → Nat} (hb : ∀ j, b j ≤ 1) : ∀ n j, j < 32 → at_ b n (cmp b n j) = j
  | 0, j, h => by
    show at_ b 0 j = j
    unfold at_ tr mvd
    simp only [Nat.xor_zero]
    split <;> omega
  | n + 1, j, h => by
    have hs := rot_sig (hb n) h
    show at_ b (n + 1) (cmp b n (sig ((b n : Nat) : Int) j)) = j
    rw [at_step hb, at_cmp hb n _ hs.2]
    exact hs.1
theorem gb_le {r j : Nat} (hr : r < 32) : gb r j ≤ 1 := by
  unfold gb
  split
  · omega
  · split
    · omega
    · split
      · omega
      · split <;> omega
theorem cmp_goal {r j : Nat} (hr : r < 32) (hj : j < 32) : cmp (gb r) 5 j = j ^^^ r := by
  have h1 := at_cmp (b := gb r) (fun _ => gb_le hr) 5 j hj
  have h2 := cmp_lt (b := gb r) (fun _ => gb_le hr) 5 j hj
  have hm : ∀ r : Fin 32, mvd (gb r) 5 5 = r := by decide +kernel
  have hm' : mvd (gb r) 5 5 = r := hm ⟨r, hr⟩
  unfold at_ at h1
  rw [hm'] at h1
  have ht : tr 5 (cmp (gb r) 5 j) = cmp (gb r) 5 j := by
    generalize cmp (gb r) 5 j = c at h2
    unfold tr
    split <;> omega
  rw [ht] at h1
  have h3 := congrArg (· ^^^ r) h1
  simp only [Nat.xor_assoc, Nat.xor_self, Nat.xor_zero] at h3
  exact h3
theorem cmp_congr {b b' : Nat → Nat} : ∀ n j, (∀ i, i < n → b i = b' i) → cmp b n j = cmp b' n j
  | 0, _, _ => rfl
  | n + 1, j, h => by
    show cmp b n _ = cmp b' n _
    rw [h n (by omega)]
    exact cmp_congr n _ fun i hi => h i (by omega)
/-- the turns, then the spelled ones -/
def both (b : Nat → Nat) (n r j : Nat) : Nat := if j < n then b j else gb r (j - n)
theorem both_le {b : Nat → Nat} {n r : Nat} (hb : ∀ j, b j ≤ 1) (hr : r < 32) (j : Nat) : both b n r j ≤ 1 := by
  unfold both
  split
  · exact hb j
  · exact gb_le hr
theorem cmp_both {b : Nat → Nat} {n r : Nat} : ∀ k j, cmp (both b n r) (n + k) j = cmp b n (cmp (gb r) k j)
  | 0, j => by
    show cmp (both b n r) n j = cmp b n j
    exact cmp_congr n j fun i hi => by unfold both; rw [if_pos hi]
  | k + 1, j => by
    show cmp (both b n r) (n + k) _ = cmp b n (cmp (gb r) k _)
    rw [cmp_both k]
    have : both b n r (n.add k) = gb r k := by
      show both b n r (n + k) = gb r k
      unfold both; rw [if_neg (by omega)]; congr 1; omega
    rw [this]
theorem cmp_plc {b : Nat → Nat} {p0 : Nat} (hb : ∀ j, b j ≤ 1) (hp : p0 < 32) : ∀ n, cmp b n (plc b p0 n) = p0
  | 0 => rfl
  | n + 1 => by
    show cmp b n (sig ((b n : Nat) : Int) (pstep (b n) (plc b p0 n))) = p0
    rw [sig_step (hb n) (plc_lt hp n), cmp_plc hb hp n]
theorem place_law {b : Nat → Nat} {n r p0 : Nat} (hb : ∀ j, b j ≤ 1) (hr : r < 32) (hp : p0 < 32) : cmp b n (plc (both b n r) p0 (n + 5) ^^^ r) = p0 := by
  rw [← cmp_goal hr (plc_lt hp _), ← cmp_both]
  exact cmp_plc (both_le hb hr) hp _
theorem strOk_pre (M i : Nat) : PyData.strOk (pre M i) = true := by
  unfold pre; split <;> decide +kernel
theorem strOk_fac {i : Nat} (h : i < 32) : PyData.strOk (fac i) = true := by
  have : ∀ i : Fin 32, PyData.strOk (fac i) = true := by decide +kernel
  exact this ⟨i, h⟩
end Mine

end
section -- part W9
open PySem PySem.W PyProof.Rows PySem.Calls PySem.SeqAt
set_option maxRecDepth 100000
open Sem (wp)
namespace Mine
theorem execs_app {M : Model} {A : Around} {env : Env} {Q : Flow → Shared → Prop} {E : Value → Shared → Prop} {Γ : Ctx} (hΓ : Γ.In A) (l2 : List Stmt) : ∀ (l1 : List Stmt) p s,
    wp M Γ (execs l1 env) (fun f _ s' => match f with | .next => wpAny M A (execs l2 env) Q E s' | f => Q f s') (fun e _ s' => E e s') p s → wp M Γ (execs (l1 ++ l2) env) (fun f _ s' => Q f s') (fun e _ s' => E e s') p s
  | [], p, s, h => (show wpAny M A (execs l2 env) Q E s from h) Γ p hΓ
  | st :: r, p, s, h => by
    rw [execs_cons, Sem.wp_bind'] at h
    show wp M Γ (execs (st :: (r ++ l2)) env) _ _ p s
    rw [execs_cons, Sem.wp_bind']
    refine Sem.wp_mono M Γ _ (fun f p' s' h' => ?_) (fun _ _ _ h' => h') _ _ h
    cases f <;> first | exact execs_app hΓ l2 r p' s' h' | exact h'
theorem law_step {M : Model} {A : Around} {env : Env} {Q P : Flow → Shared → Prop} {E : Value → Shared → Prop} {s : Shared} {i : Nat} (k j : Nat) (hj : j = i + k) (h : wpAny M A (execs (List.take k (List.drop i lawBody)) env) P (fun _ _ => False) s)
    (hP : ∀ f s', P f s' → match f with | .next => wpAny M A (execs (List.drop j lawBody) env) Q E s' | f => Q f s') : wpAny M A (execs (List.drop i lawBody) env) Q E s := by
  subst hj
  intro Γ p hΓ
  have e : List.drop i lawBody = List.take k (List.drop i lawBody) ++ List.drop (i + k) lawBody := by
    rw [← List.drop_drop, List.take_append_drop]
  rw [e]
  exact execs_app hΓ _ _ p s (Sem.wp_mono M Γ _ (fun f p' s' h' => hP f s' h') (fun _ _ _ h' => h'.elim) _ _ (h Γ p hΓ))
/-- kinds of objects in the ledger -/
def kd (o : Obj) : Nat := match o.data, o.cls with
  | .cell _, _ => 1
  | .fields _, _ => 2
  | .dict _ _, _ => 3
  | .seq _ _, .ref _ => 4
  | .seq _ _, _ => 5
  | _, _ => 0
theorem kd_cell {o : Obj} {v : Option Value} (h : o.data = .cell v) : kd o = 1 := by unfold kd; rw [h]
def Lg (L d dd : Addr) (od oB oG o97 o104 odd : Obj) (sq : List (Addr × Obj)) : List (Addr × Obj) := (d, od) :: (L + 1, oB) :: (L + 1 + 1, oG) :: (97, o97) :: (104, o104) :: (dd, odd) :: sq
def Sq (sq : List (Addr × Obj)) : Prop := ∀ q ∈ sq, kd q.2 = 5
theorem Sq.cons {sq : List (Addr × Obj)} {D : Addr} {ys : Array Value} {c : Nat} (h : Sq sq) : Sq ((D, listOf ys c) :: sq) := fun q hq => by
  rcases List.mem_cons.mp hq with rfl | hq
  · rfl
  · exact h q hq
theorem Sq.app {ext sq : List (Addr × Obj)} (h : Sq sq) (t : Tups ext) : Sq (ext ++ sq) := fun q hq => by
  rcases List.mem_append.mp hq with hq | hq
  · obtain ⟨a, b, e⟩ := t q hq; rw [e]; rfl
  · exact h q hq
theorem ne_kd {g h : Heap} {L : Addr} {l : List (Addr × Obj)} {a : Addr} {o : Obj} {q : Addr × Obj} (N : News g L h l) (h1 : (a, o) ∈ l) (hq : q ∈ l) (hk : kd q.2 ≠ kd o) : q.1 ≠ a := by
  obtain ⟨b, o'⟩ := q
  exact news_ne N hq h1 fun e => hk (by rw [e])
theorem perm_test {g h : Heap} {L d dd : Addr} {od oB oG o97 o104 odd : Obj} {ext sq : List (Addr × Obj)} (N : News g L h ((d, od) :: (ext ++ ((L + 1, oB) :: (L + 1 + 1, oG) :: (97, o97) :: (104, o104) :: (dd, odd) :: sq)))) : News g L h (Lg L d dd od oB oG o97 o104 odd (ext ++ sq)) :=
  news_sub N fun q hq => by
    simp only [Lg, List.mem_cons, List.mem_append] at hq ⊢
    grind
end Mine

end
section -- part W10
open PySem PySem.W PyProof.Rows PySem.Calls PySem.SeqAt
set_option maxRecDepth 100000
namespace Mine
section
variable {g h : Heap} {L d dd : Addr} {od oB oG o97 o104 odd : Obj} {sq : List (Addr × Obj)}
theorem lg_sq {q : Addr × Obj} (h : q ∈ sq) : q ∈ Lg L d dd od oB oG o97 o104 odd sq := .tail _ (.tail _ (.tail _ (.tail _ (.tail _ (.tail _ h)))))
theorem lg_d : (d, od) ∈ Lg L d dd od oB oG o97 o104 odd sq := .head _
theorem lg_B : (L + 1, oB) ∈ Lg L d dd od oB oG o97 o104 odd sq := .tail _ (.head _)
theorem lg_G : (L + 1 + 1, oG) ∈ Lg L d dd od oB oG o97 o104 odd sq := .tail _ (.tail _ (.head _))
theorem lg_97 : (97, o97) ∈ Lg L d dd od oB oG o97 o104 odd sq := .tail _ (.tail _ (.tail _ (.head _)))
theorem lg_104 : (104, o104) ∈ Lg L d dd od oB oG o97 o104 odd sq := .tail _ (.tail _ (.tail _ (.tail _ (.head _))))
theorem lg_dd : (dd, odd) ∈ Lg L d dd od oB oG o97 o104 odd sq := .tail _ (.tail _ (.tail _ (.tail _ (.tail _ (.head _)))))
/-- what stands behind the deck -/
abbrev tl_d (L dd : Addr) (oB oG o97 o104 odd : Obj) (sq : List (Addr × Obj)) : List (Addr × Obj) := (L + 1, oB) :: (L + 1 + 1, oG) :: (97, o97) :: (104, o104) :: (dd, odd) :: sq
theorem ne_d (N : News g L h (Lg L d dd od oB oG o97 o104 odd sq)) (hS : Sq sq) (k1 : kd od = 4) (k2 : kd oB = 1) (k3 : kd oG = 1) (k4 : kd o97 = 2) (k5 : kd o104 = 2) (k6 : kd odd = 3) : ∀ q ∈ tl_d L dd oB oG o97 o104 odd sq, q.1 ≠ d := by
  intro q hq
  refine ne_kd N lg_d (.tail _ hq) ?_
  rw [k1]
  simp only [List.mem_cons] at hq
  rcases hq with rfl | rfl | rfl | rfl | rfl | hq
  · dsimp only; omega
  · dsimp only; omega
  · dsimp only; omega
  · dsimp only; omega
  · dsimp only; omega
  · rw [hS q hq]; omega
theorem ne_tabs (N : News g L h (Lg L d dd od oB oG o97 o104 odd sq)) (hS : Sq sq) (k1 : kd od = 4) (k2 : kd oB = 1) (k3 : kd oG = 1) (k4 : kd o97 = 2) (k5 : kd o104 = 2) (k6 : kd odd = 3) : ∀ q ∈ (d, od) :: (L + 1, oB) :: (L + 1 + 1, oG) :: (dd, odd) :: sq, q.1 ≠ 97 ∧ q.1 ≠ 104 := by
  intro q hq
  have hk : kd q.2 ≠ 2 ∧ q ∈ Lg L d dd od oB oG o97 o104 odd sq := by
    simp only [List.mem_cons] at hq
    rcases hq with rfl | rfl | rfl | rfl | hq
    · exact ⟨by dsimp only; omega, lg_d⟩
    · exact ⟨by dsimp only; omega, lg_B⟩
    · exact ⟨by dsimp only; omega, lg_G⟩
    · exact ⟨by dsimp only; omega, lg_dd⟩
    · exact ⟨by rw [hS q hq]; omega, lg_sq hq⟩
  exact ⟨ne_kd N lg_97 hk.2 (by rw [k4]; exact hk.1), ne_kd N lg_104 hk.2 (by rw [k5]; exact hk.1)⟩
theorem ne_B (N : News g L h (Lg L d dd od oB oG o97 o104 odd sq)) (hS : Sq sq) (k1 : kd od = 4) (k2 : kd oB = 1) (_k3 : kd oG = 1) (k4 : kd o97 = 2) (k5 : kd o104 = 2) (k6 : kd odd = 3) : ∀ q ∈ (d, od) :: (L + 1 + 1, oG) :: (97, o97) :: (104, o104) :: (dd, odd) :: sq, q.1 ≠ L + 1 := by
  intro q hq
  simp only [List.mem_cons] at hq
  rcases hq with rfl | rfl | rfl | rfl | rfl | hq
  · exact ne_kd N lg_B lg_d (by dsimp only; omega)
  · exact Nat.succ_ne_self _
  · exact ne_kd N lg_B lg_97 (by dsimp only; omega)
  · exact ne_kd N lg_B lg_104 (by dsimp only; omega)
  · exact ne_kd N lg_B lg_dd (by dsimp only; omega)
  · exact ne_kd N lg_B (lg_sq hq) (by rw [hS q hq]; omega)
theorem ne_G (N : News g L h (Lg L d dd od oB oG o97 o104 odd sq)) (hS : Sq sq) (k1 : kd od = 4) (_k2 : kd oB = 1) (k3 : kd oG = 1) (k4 : kd o97 = 2) (k5 : kd o104 = 2) (k6 : kd odd = 3) : ∀ q ∈ (d, od) :: (L + 1, oB) :: (97, o97) :: (104, o104) :: (dd, odd) :: sq, q.1 ≠ L + 1 + 1 := by
  intro q hq
  simp only [List.mem_cons] at hq
  rcases hq with rfl | rfl | rfl | rfl | rfl | hq
  · exact ne_kd N lg_G lg_d (by dsimp only; omega)
  · exact Ne.symm (Nat.succ_ne_self (L + 1))
  · exact ne_kd N lg_G lg_97 (by dsimp only; omega)
  · exact ne_kd N lg_G lg_104 (by dsimp only; omega)
  · exact ne_kd N lg_G lg_dd (by dsimp only; omega)
  · exact ne_kd N lg_G (lg_sq hq) (by rw [hS q hq]; omega)
theorem refs_sq {ext : List (Addr × Obj)} {its : Array Value} {f p : Nat → Value} (R : RefsL (ext ++ tl_d L dd oB oG o97 o104 odd sq) its f p) (k2 : kd oB = 1) (k3 : kd oG = 1) (k4 : kd o97 = 2) (k5 : kd o104 = 2) (k6 : kd odd = 3) : RefsL (ext ++ sq) its f p := by
  refine ⟨R.1, fun i hi => ?_⟩
  obtain ⟨t, a, hq⟩ := R.2 i hi
  refine ⟨t, a, ?_⟩
  have e5 : kd (tupObj (f i) (p i)) = 5 := rfl
  rcases List.mem_append.mp hq with hq | hq
  · exact List.mem_append_left _ hq
  · refine List.mem_append_right _ ?_
    simp only [List.mem_cons, Prod.mk.injEq] at hq
    rcases hq with ⟨_, e⟩ | ⟨_, e⟩ | ⟨_, e⟩ | ⟨_, e⟩ | ⟨_, e⟩ | hq
    · rw [e] at e5; omega
    · rw [e] at e5; omega
    · rw [e] at e5; omega
    · rw [e] at e5; omega
    · rw [e] at e5; omega
    · exact hq
end
theorem refs_kd {l sq : List (Addr × Obj)} {its : Array Value} {f p : Nat → Value} (R : RefsL l its f p) (h : ∀ q ∈ l, kd q.2 = 5 → q ∈ sq) : RefsL sq its f p :=
  ⟨R.1, fun i hi => let ⟨t, a, hq⟩ := R.2 i hi; ⟨t, a, h _ hq rfl⟩⟩
theorem kd_tail {A1 A2 A3 A4 A5 : Addr} {o1 o2 o3 o4 o5 : Obj} {sq : List (Addr × Obj)} (h1 : kd o1 ≠ 5) (h2 : kd o2 ≠ 5) (h3 : kd o3 ≠ 5) (h4 : kd o4 ≠ 5) (h5 : kd o5 ≠ 5) : ∀ q ∈ (A1, o1) :: (A2, o2) :: (A3, o3) :: (A4, o4) :: (A5, o5) :: sq, kd q.2 = 5 → q ∈ sq := by
  intro q hq hk
  simp only [List.mem_cons] at hq
  rcases hq with rfl | rfl | rfl | rfl | rfl | hq
  · exact absurd hk h1
  · exact absurd hk h2
  · exact absurd hk h3
  · exact absurd hk h4
  · exact absurd hk h5
  · exact hq
theorem refs_congr {l : List (Addr × Obj)} {its : Array Value} {f p f' p' : Nat → Value} (R : RefsL l its f p) (h : ∀ j, j < 32 → f j = f' j ∧ p j = p' j) : RefsL l its f' p' :=
  ⟨R.1, fun i hi => let ⟨t, a, hq⟩ := R.2 i hi; ⟨t, a, by rw [← (h i hi).1, ← (h i hi).2]; exact hq⟩⟩
theorem pieces_at {M : Nat} {f p : Nat → Value} {σ : Nat → Nat} (hP : Pieces M f p) (hσ : ∀ j, j < 32 → σ j < 32) : ∀ i, i < 32 → ∃ t1 t2, f (σ i) = .str (pre M (σ i)) t1 ∧ p (σ i) = .str (fac (σ i)) t2 := fun i hi => hP _ (hσ i hi)
theorem pieces_ex {M : Nat} {f p : Nat → Value} {σ : Nat → Nat} (hP : Pieces M f p) (hσ : ∀ j, j < 32 → σ j < 32) : ∀ j, j < 32 → (∃ u, f (σ j) = .str (pre M (σ j)) u) ∧ (∃ u, p (σ j) = .str (fac (σ j % 32)) u) := fun j hj => by
  obtain ⟨t1, t2, a, b⟩ := hP _ (hσ j hj)
  exact ⟨⟨t1, a⟩, ⟨t2, by rw [Nat.mod_eq_of_lt (hσ j hj)]; exact b⟩⟩
set_option maxHeartbeats 4000000 in
theorem law_run {w : World} {mg mb : Str → Option Value} {dp un : Nat} {gd : Option (List Code)} {fs : List Env} {g : Heap} {L : Addr} {s : Shared} {m : Str → Option Value} {sl : Addr} {vals : List Value} {ns : List Int} {oB oG : Obj} {vB vG : Option Value} {Q : Flow → Shared → Prop}
    (X : (Mine.hd.heap_1 w.params).In g) (T : TopRead VV LL mg mb g) (Y : KIn w g) (hdp : dp + 100 < 600) (hun : un + 1000 < 2000) (hsl : g.IsList sl vals.toArray) (hi : IntsAre vals ns) (hlen : ns.length ≤ 63) (F : Fr g L s.heap m)
    (N : News g L s.heap [(L + 1 + 1, oG), (L + 1, oB), (97, tabObj #[]), (104, tabObj #[])]) (hB : oB.data = .cell vB) (hG : oG.data = .cell vG) (hm : m (Str.ofString "script") = some (.ref sl)) (hb : AllBare s.gens)
    (hret : ∀ (s' : Shared) ps1 ps2 m', Fr g L s'.heap m' → s'.heap.get? 97 = some (tabObj ps1) → s'.heap.get? 104 = some (tabObj ps2) → AllBare s'.gens → s'.os = s.os → Q (.ret (.bool true)) s') :
    wpAny (model PP w) (Around.deeper { handled := none, depth := dp, frames := some fs, guards := gd, units := un } (lawEnv L)) (execs lawBody (lawEnv L)) Q (fun _ _ => False) s := by
  have hunc : un + 1000 < cLine := Nat.lt_trans hun (by decide +kernel)
  show wpAny _ _ (execs (List.drop 0 lawBody) _) _ _ _
  -- marks, turns
  refine law_step 1 1 rfl (law1 X T Y hsl hi hlen hunc F N hm) fun f1 s1 q1 => ?_
  obtain ⟨rfl, h1, tk1, m1, M, tM, news1, rfl, F1, N1, sub1, hs1, hM1⟩ := q1.out
  refine law_step 1 2 rfl (law2 X T Y hsl hi hlen hunc F1 N1 hs1) fun f2 s2 q2 => ?_
  obtain ⟨rfl, h2, tk2, news2, tl, arr, c, b, rfl, F2, N2, sub2, htl, hsz, hb2, hb1⟩ := q2.out
  have N2' : News g L h2 [(tl, listOf arr c), (L + 1 + 1, oG), (L + 1, oB), (97, tabObj #[]), (104, tabObj #[])] := news_sub N2 fun q hq => by
    rcases List.mem_cons.mp hq with rfl | hq
    · exact htl
    · exact sub2 _ (sub1 _ hq)
  have hs2 : (fun y => if y = Str.ofString "turns" then some (Value.ref tl) else m1 y) (Str.ofString "script") = some (.ref sl) := hs1
  have hM2 : (fun y => if y = Str.ofString "turns" then some (Value.ref tl) else m1 y) (Str.ofString "marks") = some (.int ((M : Nat) : Int) tM) := hM1
  have hT2 : (fun y => if y = Str.ofString "turns" then some (Value.ref tl) else m1 y) (Str.ofString "turns") = some (.ref tl) := rfl
  generalize (fun y => if y = Str.ofString "turns" then some (Value.ref tl) else m1 y) = m2 at F2 hs2 hM2 hT2
  -- deck
  refine law_step 1 3 rfl (law3 X T Y hdp hun F2 N2' hM2) fun f3 s3 q3 => ?_
  obtain ⟨rfl, h3, tk3, d, dd, tk5, es, k, its, n0, f, p, ext, rfl, F3, N3, hT, hR, hP, own, hlt⟩ := q3.out
  have hs3 : (fun y => if y = Str.ofString "deck" then some (Value.ref d) else m2 y) (Str.ofString "script") = some (.ref sl) := hs2
  have hM3 : (fun y => if y = Str.ofString "deck" then some (Value.ref d) else m2 y) (Str.ofString "marks") = some (.int ((M : Nat) : Int) tM) := hM2
  have hT3 : (fun y => if y = Str.ofString "deck" then some (Value.ref d) else m2 y) (Str.ofString "turns") = some (.ref tl) := hT2
  have hD3 : (fun y => if y = Str.ofString "deck" then some (Value.ref d) else m2 y) (Str.ofString "deck") = some (.ref d) := rfl
  generalize (fun y => if y = Str.ofString "deck" then some (Value.ref d) else m2 y) = m3 at F3 hs3 hM3 hT3 hD3
  have kB := kd_cell hB
  have kG := kd_cell hG
  have N3L : News g L h3 (Lg L d dd (deckObj dd its n0) oB oG (tabObj #[]) (tabObj #[]) (dictOf es k) ((tl, listOf arr c) :: ext)) := news_sub N3 fun q hq => by
    simp only [Lg, List.mem_cons, List.mem_append, List.not_mem_nil, or_false] at hq ⊢
    grind
  have S3 : Sq ((tl, listOf arr c) :: ext) := Sq.cons fun q hq => by obtain ⟨a, b, e⟩ := hT q hq; rw [e]; rfl
  have R3 : RefsL ((tl, listOf arr c) :: ext) its f p := hR.sub fun q hq => .tail _ hq
  have htl3 : (tl, listOf arr c) ∈ (tl, listOf arr c) :: ext := .head _
  clear N3 N2 N2' N1 N F F1 F2
  generalize (tl, listOf arr c) :: ext = sq3 at N3L S3 R3 htl3
  -- the first shuffles
  obtain ⟨nT, hnT⟩ : ∃ nT, arr.size = nT := ⟨_, rfl⟩
  have hn6 : nT ≤ 6 := hnT ▸ hsz
  have hbn : ∀ j, j < nT → ∃ t, arr[j]? = some (.int ((b j : Nat) : Int) t) := fun j hj => hb2 j (hnT ▸ hj)
  refine law_step 1 4 rfl (law4 X T Y hdp hun F3 N3L (ne_d N3L S3 rfl kB kG rfl rfl rfl) (.tail _ (.tail _ (.tail _ (.tail _ (.head _))))) own hlt (R3.sub fun q hq => .tail _ (.tail _ (.tail _ (.tail _ (.tail _ hq))))) (.tail _ (.tail _ (.tail _ (.tail _ (.tail _ htl3))))) hnT hbn hb1 hT3 hD3) fun f4 s4 q4 => ?_
  obtain ⟨rfl, h4, tk4, o4, its4, n4', ext4, rfl, F4, N4, hT4, hed4, R4⟩ := q4.out
  have hs4 : (fun y => if y = Str.ofString "turn" then o4 else m3 y) (Str.ofString "script") = some (.ref sl) := hs3
  have hM4 : (fun y => if y = Str.ofString "turn" then o4 else m3 y) (Str.ofString "marks") = some (.int ((M : Nat) : Int) tM) := hM3
  have hT4' : (fun y => if y = Str.ofString "turn" then o4 else m3 y) (Str.ofString "turns") = some (.ref tl) := hT3
  have hD4 : (fun y => if y = Str.ofString "turn" then o4 else m3 y) (Str.ofString "deck") = some (.ref d) := hD3
  generalize (fun y => if y = Str.ofString "turn" then o4 else m3 y) = m4 at F4 hs4 hM4 hT4' hD4
  have N4L : News g L h4 (Lg L d dd (deckObj dd its4 n4') oB oG (tabObj #[]) (tabObj #[]) (dictOf es k) (ext4 ++ sq3)) := perm_test N4
  have S4 : Sq (ext4 ++ sq3) := S3.app hT4
  have R4L := refs_sq R4 kB kG rfl rfl rfl
  have htl4 : (tl, listOf arr c) ∈ ext4 ++ sq3 := List.mem_append_right _ htl3
  clear N4 R4 N3L F3
  generalize ext4 ++ sq3 = sq4 at N4L S4 R4L htl4
  have hσ : ∀ j, j < 32 → cmp b nT j < 32 := fun j hj => cmp_lt hb1 nT j hj
  -- due
  refine law_step 1 5 rfl (law5 (S := cmp b nT) X T Y hdp hun F4 N4L hM4 hT4' (lg_sq htl4) hnT hn6 hbn hb1 fun j hj => ⟨hσ j hj, at_cmp hb1 nT j hj⟩) fun f5 s5 q5 => ?_
  obtain ⟨rfl, h5, tk5', td, rfl, F5, N5⟩ := q5.out
  have hs5 : (fun y => if y = Str.ofString "due" then some (Value.str (dueText M (cmp b nT)) td) else m4 y) (Str.ofString "script") = some (.ref sl) := hs4
  have hM5 : (fun y => if y = Str.ofString "due" then some (Value.str (dueText M (cmp b nT)) td) else m4 y) (Str.ofString "marks") = some (.int ((M : Nat) : Int) tM) := hM4
  have hT5 : (fun y => if y = Str.ofString "due" then some (Value.str (dueText M (cmp b nT)) td) else m4 y) (Str.ofString "turns") = some (.ref tl) := hT4'
  have hD5 : (fun y => if y = Str.ofString "due" then some (Value.str (dueText M (cmp b nT)) td) else m4 y) (Str.ofString "deck") = some (.ref d) := hD4
  have hU5 : (fun y => if y = Str.ofString "due" then some (Value.str (dueText M (cmp b nT)) td) else m4 y) (Str.ofString "due") = some (.str (dueText M (cmp b nT)) td) := rfl
  generalize (fun y => if y = Str.ofString "due" then some (Value.str (dueText M (cmp b nT)) td) else m4 y) = m5 at F5 hs5 hM5 hT5 hD5 hU5
  -- the first test
  have N5' : News g L h5 ((97, tabObj #[]) :: (104, tabObj #[]) :: ((d, deckObj dd its4 n4') :: (L + 1, oB) :: (L + 1 + 1, oG) :: (dd, dictOf es k) :: sq4)) := news_sub N5 fun q hq => by
    simp only [Lg, List.mem_cons] at hq ⊢
    grind
  refine law_step 1 6 rfl (law6 X T Y hdp hun F5 N5' (ne_tabs N5 S4 rfl kB kG rfl rfl rfl) (.head _) (.tail _ (.tail _ (.tail _ (.head _)))) own (R4L.sub fun q hq => .tail _ (.tail _ (.tail _ (.tail _ hq)))) (pieces_at hP hσ) hb hD5 hU5) fun f6 s6 q6 => ?_
  obtain ⟨rfl, ps1, ps2, F6, N6, hb6, hos6⟩ := q6.out
  have N6L : News g L s6.heap (Lg L d dd (deckObj dd its4 n4') oB oG (tabObj ps1) (tabObj ps2) (dictOf es k) sq4) := news_sub N6 fun q hq => by
    simp only [Lg, List.mem_cons] at hq ⊢
    grind
  clear N5 N5' N6 N4L F4 F5
  -- before
  have N6' : News g L s6.heap ((L + 1, oB) :: ((d, deckObj dd its4 n4') :: (L + 1 + 1, oG) :: (97, tabObj ps1) :: (104, tabObj ps2) :: (dd, dictOf es k) :: sq4)) := news_sub N6L fun q hq => by
    simp only [Lg, List.mem_cons] at hq ⊢
    grind
  refine law_step 1 7 rfl (law7 X T Y hdp hun F6 N6' hB (ne_B N6L S4 rfl kB kG rfl rfl rfl) (.head _) (.tail _ (.tail _ (.tail _ (.tail _ (.head _))))) (R4L.sub fun q hq => .tail _ (.tail _ (.tail _ (.tail _ (.tail _ hq))))) hD5) fun f7 s7 q7 => ?_
  obtain ⟨rfl, h7, tk7, D7, c7, oB', bs, rfl, F7, N7, hB', R7⟩ := q7.out
  have kB' := kd_cell hB'
  have nB5 : kd oB ≠ 5 := by omega
  have nG5 : kd oG ≠ 5 := by omega
  have nB5' : kd oB' ≠ 5 := by omega
  have n4 : ∀ (x : Addr) (a : Array Value) (n : Nat), kd (deckObj x a n) ≠ 5 := fun _ _ _ => (by decide : (4 : Nat) ≠ 5)
  have n2 : ∀ a : Array Value, kd (tabObj a) ≠ 5 := fun _ => (by decide : (2 : Nat) ≠ 5)
  have n3 : kd (dictOf es k) ≠ 5 := (by decide : (3 : Nat) ≠ 5)
  have R7L : RefsL sq4 bs (fun j => f (cmp b nT j)) (fun j => p (cmp b nT j)) := refs_kd R7 (kd_tail (n4 _ _ _) nG5 (n2 _) (n2 _) n3)
  have N7L : News g L h7 (Lg L d dd (deckObj dd its4 n4') oB' oG (tabObj ps1) (tabObj ps2) (dictOf es k) ((D7, listOf bs c7) :: sq4)) := news_sub N7 fun q hq => by
    simp only [Lg, List.mem_cons] at hq ⊢
    grind
  have S7 : Sq ((D7, listOf bs c7) :: sq4) := Sq.cons S4
  have R7d : RefsL ((D7, listOf bs c7) :: sq4) its4 (fun j => f (cmp b nT j)) (fun j => p (cmp b nT j)) := R4L.sub fun q hq => .tail _ hq
  have R7b : RefsL ((D7, listOf bs c7) :: sq4) bs (fun j => f (cmp b nT j)) (fun j => p (cmp b nT j)) := R7L.sub fun q hq => .tail _ hq
  have htl7 : (tl, listOf arr c) ∈ (D7, listOf bs c7) :: sq4 := .tail _ htl4
  have hD7 : (D7, listOf bs c7) ∈ (D7, listOf bs c7) :: sq4 := .head _
  clear N7 N6' N6L F6 R7 R7L R4L htl4
  generalize (D7, listOf bs c7) :: sq4 = sq7 at N7L S7 R7d R7b htl7 hD7
  -- number
  refine law_step 1 8 rfl (law8 X T Y hdp hun hsl hi hlen F7 N7L hs5) fun f8 s8 q8 => ?_
  obtain ⟨rfl, h8, tk8, z, tz, rfl, F8, N8⟩ := q8.out
  have hM8 : (fun y => if y = Str.ofString "number" then some (Value.int z tz) else m5 y) (Str.ofString "marks") = some (.int ((M : Nat) : Int) tM) := hM5
  have hT8 : (fun y => if y = Str.ofString "number" then some (Value.int z tz) else m5 y) (Str.ofString "turns") = some (.ref tl) := hT5
  have hD8 : (fun y => if y = Str.ofString "number" then some (Value.int z tz) else m5 y) (Str.ofString "deck") = some (.ref d) := hD5
  have hN8 : (fun y => if y = Str.ofString "number" then some (Value.int z tz) else m5 y) (Str.ofString "number") = some (.int z tz) := rfl
  generalize (fun y => if y = Str.ofString "number" then some (Value.int z tz) else m5 y) = m8 at F8 hM8 hT8 hD8 hN8
  -- goal
  obtain ⟨r, hr⟩ : ∃ r : Nat, z % 32 = ((r : Nat) : Int) := ⟨(z % 32).toNat, by rw [Int.toNat_of_nonneg (Int.emod_nonneg _ (by decide))]⟩
  have hr32 : r < 32 := by omega
  have N8' : News g L h8 ((L + 1 + 1, oG) :: ((d, deckObj dd its4 n4') :: (L + 1, oB') :: (97, tabObj ps1) :: (104, tabObj ps2) :: (dd, dictOf es k) :: sq7)) := news_sub N8 fun q hq => by
    simp only [Lg, List.mem_cons] at hq ⊢
    grind
  refine law_step 2 10 rfl (law9 X T Y hdp hun F8 N8' hG (ne_G N8 S7 rfl kB' kG rfl rfl rfl) hN8 hr) fun f9 s9 q9 => ?_
  obtain ⟨rfl, h9, tk9, oG', tG, rfl, F9, N9, hG'⟩ := q9.out
  have kG' := kd_cell hG'
  have nG5' : kd oG' ≠ 5 := by omega
  have N9L : News g L h9 (Lg L d dd (deckObj dd its4 n4') oB' oG' (tabObj ps1) (tabObj ps2) (dictOf es k) sq7) := news_sub N9 fun q hq => by
    simp only [Lg, List.mem_cons] at hq ⊢
    grind
  clear N9 N8 N8' F8 F7 N7L
  -- spelled
  refine law_step 1 11 rfl (law11 X T Y hdp hun F9 N9L lg_G hG' hr32) fun f11 s11 q11 => ?_
  obtain ⟨rfl, h11, tk11, spl, a5, c5, rfl, F11, N11, hz5, hb5⟩ := q11.out
  have hM11 : (fun y => if y = Str.ofString "spelled" then some (Value.ref spl) else m8 y) (Str.ofString "marks") = some (.int ((M : Nat) : Int) tM) := hM8
  have hT11 : (fun y => if y = Str.ofString "spelled" then some (Value.ref spl) else m8 y) (Str.ofString "turns") = some (.ref tl) := hT8
  have hD11 : (fun y => if y = Str.ofString "spelled" then some (Value.ref spl) else m8 y) (Str.ofString "deck") = some (.ref d) := hD8
  have hS11 : (fun y => if y = Str.ofString "spelled" then some (Value.ref spl) else m8 y) (Str.ofString "spelled") = some (.ref spl) := rfl
  generalize (fun y => if y = Str.ofString "spelled" then some (Value.ref spl) else m8 y) = m11 at F11 hM11 hT11 hD11 hS11
  have N11L : News g L h11 (Lg L d dd (deckObj dd its4 n4') oB' oG' (tabObj ps1) (tabObj ps2) (dictOf es k) ((spl, listOf a5 c5) :: sq7)) := news_sub N11 fun q hq => by
    simp only [Lg, List.mem_cons] at hq ⊢
    grind
  have S11 : Sq ((spl, listOf a5 c5) :: sq7) := Sq.cons S7
  have R11d := R7d.sub (l' := (spl, listOf a5 c5) :: sq7) fun q hq => .tail _ hq
  have R11b := R7b.sub (l' := (spl, listOf a5 c5) :: sq7) fun q hq => .tail _ hq
  have htl11 : (tl, listOf arr c) ∈ (spl, listOf a5 c5) :: sq7 := .tail _ htl7
  have hbl11 : (D7, listOf bs c7) ∈ (spl, listOf a5 c5) :: sq7 := .tail _ hD7
  have hsp11 : (spl, listOf a5 c5) ∈ (spl, listOf a5 c5) :: sq7 := .head _
  clear N11 N9L F9 R7d R7b htl7 hD7
  generalize (spl, listOf a5 c5) :: sq7 = sq11 at N11L S11 R11d R11b htl11 hbl11 hsp11
  -- spelled shuffles
  have hg1 : ∀ j, gb r j ≤ 1 := fun j => gb_le hr32
  refine law_step 1 12 rfl (law12 X T Y hdp hun F11 N11L (ne_d N11L S11 rfl kB' kG' rfl rfl rfl) (.tail _ (.tail _ (.tail _ (.tail _ (.head _))))) own hlt (R11d.sub fun q hq => .tail _ (.tail _ (.tail _ (.tail _ (.tail _ hq))))) (.tail _ (.tail _ (.tail _ (.tail _ (.tail _ hsp11))))) hz5 hb5 hg1 hS11 hD11) fun f12 s12 q12 => ?_
  obtain ⟨rfl, h12, tk12, o12, its12, n12, ext12, rfl, F12, N12, hT12, hed12, R12⟩ := q12.out
  have hM12 : (fun y => if y = Str.ofString "turn" then o12 else m11 y) (Str.ofString "marks") = some (.int ((M : Nat) : Int) tM) := hM11
  have hT12' : (fun y => if y = Str.ofString "turn" then o12 else m11 y) (Str.ofString "turns") = some (.ref tl) := hT11
  have hD12 : (fun y => if y = Str.ofString "turn" then o12 else m11 y) (Str.ofString "deck") = some (.ref d) := hD11
  have hS12 : (fun y => if y = Str.ofString "turn" then o12 else m11 y) (Str.ofString "spelled") = some (.ref spl) := hS11
  generalize (fun y => if y = Str.ofString "turn" then o12 else m11 y) = m12 at F12 hM12 hT12' hD12 hS12
  have N12L : News g L h12 (Lg L d dd (deckObj dd its12 n12) oB' oG' (tabObj ps1) (tabObj ps2) (dictOf es k) (ext12 ++ sq11)) := perm_test N12
  have S12 : Sq (ext12 ++ sq11) := S11.app hT12
  have R12d : RefsL (ext12 ++ sq11) its12 (fun j => f (cmp b nT (j ^^^ r))) (fun j => p (cmp b nT (j ^^^ r))) := refs_congr (refs_sq R12 kB' kG' rfl rfl rfl) fun j hj => by
    simp only [cmp_goal hr32 hj, and_self]
  have R12b := R11b.sub (l' := ext12 ++ sq11) fun q hq => List.mem_append_right _ hq
  have htl12 : (tl, listOf arr c) ∈ ext12 ++ sq11 := List.mem_append_right _ htl11
  have hbl12 : (D7, listOf bs c7) ∈ ext12 ++ sq11 := List.mem_append_right _ hbl11
  have hsp12 : (spl, listOf a5 c5) ∈ ext12 ++ sq11 := List.mem_append_right _ hsp11
  clear N12 R12 N11L F11 R11d R11b htl11 hbl11 hsp11
  generalize ext12 ++ sq11 = sq12 at N12L S12 R12d R12b htl12 hbl12 hsp12
  -- between
  refine law_step 1 13 rfl (law13 X T Y hdp hun F12 N12L lg_d lg_dd (R12d.sub fun q hq => lg_sq hq) hD12) fun f13 s13 q13 => ?_
  obtain ⟨rfl, h13, tk13, Bt, cT, bt, rfl, F13, N13, R13⟩ := q13.out
  have hM13 : (fun y => if y = Str.ofString "between" then some (Value.ref Bt) else m12 y) (Str.ofString "marks") = some (.int ((M : Nat) : Int) tM) := hM12
  have hT13 : (fun y => if y = Str.ofString "between" then some (Value.ref Bt) else m12 y) (Str.ofString "turns") = some (.ref tl) := hT12'
  have hD13 : (fun y => if y = Str.ofString "between" then some (Value.ref Bt) else m12 y) (Str.ofString "deck") = some (.ref d) := hD12
  have hS13 : (fun y => if y = Str.ofString "between" then some (Value.ref Bt) else m12 y) (Str.ofString "spelled") = some (.ref spl) := hS12
  have hB13 : (fun y => if y = Str.ofString "between" then some (Value.ref Bt) else m12 y) (Str.ofString "between") = some (.ref Bt) := rfl
  generalize (fun y => if y = Str.ofString "between" then some (Value.ref Bt) else m12 y) = m13 at F13 hM13 hT13 hD13 hS13 hB13
  have R13t : RefsL sq12 bt (fun j => f (cmp b nT (j ^^^ r))) (fun j => p (cmp b nT (j ^^^ r))) := refs_kd R13 fun q hq hk => by
    rcases List.mem_cons.mp hq with rfl | hq
    · exact absurd hk (n4 _ _ _)
    · exact kd_tail nB5' nG5' (n2 _) (n2 _) n3 q hq hk
  have N13L : News g L h13 (Lg L d dd (deckObj dd its12 n12) oB' oG' (tabObj ps1) (tabObj ps2) (dictOf es k) ((Bt, listOf bt cT) :: sq12)) := news_sub N13 fun q hq => by
    simp only [Lg, List.mem_cons] at hq ⊢
    grind
  have S13 : Sq ((Bt, listOf bt cT) :: sq12) := Sq.cons S12
  have R13d := R12d.sub (l' := (Bt, listOf bt cT) :: sq12) fun q hq => .tail _ hq
  have R13b := R12b.sub (l' := (Bt, listOf bt cT) :: sq12) fun q hq => .tail _ hq
  have R13t' := R13t.sub (l' := (Bt, listOf bt cT) :: sq12) fun q hq => .tail _ hq
  have htl13 : (tl, listOf arr c) ∈ (Bt, listOf bt cT) :: sq12 := .tail _ htl12
  have hbl13 : (D7, listOf bs c7) ∈ (Bt, listOf bt cT) :: sq12 := .tail _ hbl12
  have hsp13 : (spl, listOf a5 c5) ∈ (Bt, listOf bt cT) :: sq12 := .tail _ hsp12
  have hbt13 : (Bt, listOf bt cT) ∈ (Bt, listOf bt cT) :: sq12 := .head _
  clear N13 R13 R13t N12L F12 R12d R12b htl12 hbl12 hsp12
  generalize (Bt, listOf bt cT) :: sq12 = sq13 at N13L S13 R13d R13b R13t' htl13 hbl13 hsp13 hbt13
  -- spelled once more
  refine law_step 1 14 rfl (law14 X T Y hdp hun F13 N13L (ne_d N13L S13 rfl kB' kG' rfl rfl rfl) (.tail _ (.tail _ (.tail _ (.tail _ (.head _))))) own hlt (R13d.sub fun q hq => .tail _ (.tail _ (.tail _ (.tail _ (.tail _ hq))))) (.tail _ (.tail _ (.tail _ (.tail _ (.tail _ hsp13))))) hz5 hb5 hg1 hS13 hD13) fun f14 s14 q14 => ?_
  obtain ⟨rfl, h14, tk14, o14, its14, n14, ext14, rfl, F14, N14, hT14, hed14, R14⟩ := q14.out
  have hM14 : (fun y => if y = Str.ofString "turn" then o14 else m13 y) (Str.ofString "marks") = some (.int ((M : Nat) : Int) tM) := hM13
  have hT14' : (fun y => if y = Str.ofString "turn" then o14 else m13 y) (Str.ofString "turns") = some (.ref tl) := hT13
  have hD14 : (fun y => if y = Str.ofString "turn" then o14 else m13 y) (Str.ofString "deck") = some (.ref d) := hD13
  have hS14 : (fun y => if y = Str.ofString "turn" then o14 else m13 y) (Str.ofString "spelled") = some (.ref spl) := hS13
  have hB14 : (fun y => if y = Str.ofString "turn" then o14 else m13 y) (Str.ofString "between") = some (.ref Bt) := hB13
  generalize (fun y => if y = Str.ofString "turn" then o14 else m13 y) = m14 at F14 hM14 hT14' hD14 hS14 hB14
  have N14L : News g L h14 (Lg L d dd (deckObj dd its14 n14) oB' oG' (tabObj ps1) (tabObj ps2) (dictOf es k) (ext14 ++ sq13)) := perm_test N14
  have R14d : RefsL (ext14 ++ sq13) its14 (fun j => f (cmp b nT j)) (fun j => p (cmp b nT j)) := refs_congr (refs_sq R14 kB' kG' rfl rfl rfl) fun j hj => by
    simp only [cmp_goal hr32 hj, Nat.xor_assoc, Nat.xor_self, Nat.xor_zero, and_self]
  have R14b := R13b.sub (l' := ext14 ++ sq13) fun q hq => List.mem_append_right _ hq
  have R14t := R13t'.sub (l' := ext14 ++ sq13) fun q hq => List.mem_append_right _ hq
  have htl14 : (tl, listOf arr c) ∈ ext14 ++ sq13 := List.mem_append_right _ htl13
  have hbl14 : (D7, listOf bs c7) ∈ ext14 ++ sq13 := List.mem_append_right _ hbl13
  have hsp14 : (spl, listOf a5 c5) ∈ ext14 ++ sq13 := List.mem_append_right _ hsp13
  have hbt14 : (Bt, listOf bt cT) ∈ ext14 ++ sq13 := List.mem_append_right _ hbt13
  clear N14 R14 N13L F13 R13d R13b R13t' htl13 hbl13 hsp13 hbt13
  generalize ext14 ++ sq13 = sq14 at N14L R14d R14b R14t htl14 hbl14 hsp14 hbt14
  -- the second test
  have hx32 : ∀ j, j < 32 → cmp b nT (j ^^^ r) < 32 := fun j hj => hσ _ (Nat.xor_lt_two_pow (n := 5) hj hr32)
  have hok : ∀ σ : Nat → Nat, ∀ j, PyData.strOk (pre M (σ j)) = true ∧ PyData.strOk (fac (σ j % 32)) = true := fun σ j => ⟨strOk_pre _ _, strOk_fac (Nat.mod_lt _ (by decide))⟩
  refine law_step 1 15 rfl (law15 (xs := fun j => pre M (cmp b nT j)) (ys := fun j => fac (cmp b nT j % 32)) X T Y hdp hun F14 N14L lg_d lg_dd lg_B hB' (lg_sq hbl14) (R14d.sub fun q hq => lg_sq hq) (R14b.sub fun q hq => lg_sq hq) (pieces_ex hP hσ) (pieces_ex hP hσ) (hok (cmp b nT)) hD14) fun f15 s15 q15 => ?_
  obtain ⟨rfl, h15, tk15, rfl, F15, N15⟩ := q15.out
  clear N14L F14
  -- the third test
  refine law_step 1 16 rfl (law16 (xs := fun j => pre M (cmp b nT (j ^^^ r))) (ys := fun j => fac (cmp b nT (j ^^^ r) % 32)) X T Y hdp hun F15 N15 lg_B hB' lg_G hG' hr32 (lg_sq hbl14) (lg_sq hbt14) (R14t.sub fun q hq => lg_sq hq) (R14b.sub fun q hq => lg_sq hq) (pieces_ex (σ := fun j => cmp b nT (j ^^^ r)) hP hx32) (pieces_ex (σ := fun j => cmp b nT (j ^^^ r)) hP hx32) (hok fun j => cmp b nT (j ^^^ r)) hB14) fun f16 s16 q16 => ?_
  obtain ⟨rfl, h16, tk16, rfl, F16, N16⟩ := q16.out
  clear N15 F15
  -- the place
  refine law_step 1 17 rfl (law17 X T Y hdp hun F16 N16 hM14) fun f17 s17 q17 => ?_
  obtain ⟨rfl, h17, tk17, t17, rfl, F17, N17⟩ := q17.out
  have hM17 : (fun y => if y = Str.ofString "place" then some (Value.int ((M % 32 : Nat) : Int) t17) else m14 y) (Str.ofString "marks") = some (.int ((M : Nat) : Int) tM) := hM14
  have hT17 : (fun y => if y = Str.ofString "place" then some (Value.int ((M % 32 : Nat) : Int) t17) else m14 y) (Str.ofString "turns") = some (.ref tl) := hT14'
  have hS17 : (fun y => if y = Str.ofString "place" then some (Value.int ((M % 32 : Nat) : Int) t17) else m14 y) (Str.ofString "spelled") = some (.ref spl) := hS14
  have hB17 : (fun y => if y = Str.ofString "place" then some (Value.int ((M % 32 : Nat) : Int) t17) else m14 y) (Str.ofString "between") = some (.ref Bt) := hB14
  have hP17 : (fun y => if y = Str.ofString "place" then some (Value.int ((M % 32 : Nat) : Int) t17) else m14 y) (Str.ofString "place") = some (.int ((M % 32 : Nat) : Int) t17) := rfl
  generalize (fun y => if y = Str.ofString "place" then some (Value.int ((M % 32 : Nat) : Int) t17) else m14 y) = m17 at F17 hM17 hT17 hS17 hB17 hP17
  have hM32 : M % 32 < 32 := Nat.mod_lt _ (by decide)
  have hbb : ∀ j, j < arr.size + a5.size → ∃ t, (arr.toList ++ a5.toList)[j]? = some (.int ((both b nT r j : Nat) : Int) t) := fun j hj => by
    rw [hnT, hz5] at hj
    unfold both
    by_cases q : j < nT
    · rw [if_pos q, List.getElem?_append_left (by rw [Array.length_toList, hnT]; exact q), Array.getElem?_toList]
      exact hbn j q
    · rw [if_neg q, List.getElem?_append_right (by rw [Array.length_toList, hnT]; omega), Array.length_toList, hnT, Array.getElem?_toList]
      exact hb5 _ (by omega)
  refine law_step 1 18 rfl (law18 X T Y hdp hun F17 N17 (lg_sq htl14) (lg_sq hsp14) (by omega) hbb (both_le hb1 hr32) hM32 hT17 hS17 hP17) fun f18 s18 q18 => ?_
  obtain ⟨rfl, h18, tk18, m18, t18, rfl, F18, N18, hp18, hy18⟩ := q18.out
  have hM18 : m18 (Str.ofString "marks") = some (.int ((M : Nat) : Int) tM) := (hy18 _ (by decide) (by decide) (by decide)).trans hM17
  have hB18 : m18 (Str.ofString "between") = some (.ref Bt) := (hy18 _ (by decide) (by decide) (by decide)).trans hB17
  rw [hnT, hz5] at hp18
  have hpl := place_law (n := nT) hb1 hr32 hM32
  have hq32 := plc_lt (b := both b nT r) hM32 (nT + 5)
  obtain ⟨t1, t2, e1, e2⟩ := hP _ hM32
  refine law_step 2 20 rfl (law19 X T Y hdp hun F18 N18 hM18 hB18 hp18 (lg_sq hbt14) (R14t.sub fun q hq => lg_sq hq) hq32 (by simp only [hpl]; exact ⟨⟨t1, e1⟩, ⟨t2, e2⟩⟩) ⟨strOk_pre _ _, strOk_fac hM32⟩) fun f19 s19 q19 => ?_
  obtain ⟨rfl, h19, tk19, m19, rfl, F19, N19⟩ := q19.out
  exact hret _ ps1 ps2 m19 F19 (N19 _ lg_97).1 (N19 _ lg_104).1 hb6 hos6
end Mine

end
section -- part W11
open PySem PySem.W PyProof.Rows PySem.Calls PySem.SeqAt
set_option maxRecDepth 100000
namespace Mine
theorem filledW11 : PySem.Challenge.rw_pg0066_01 = PySem.Challenge.rw_pg0066_01 ∧ Mine.hd.heap_1 = Mine.hd.heap_1 := by
  k_fill
  exact ⟨rfl, rfl⟩
set_option maxHeartbeats 2000000 in
theorem law_abs {w : World} {mg mb : Str → Option Value} {A : Around} {fs : List Env} {h₀ : Heap} {s : Shared} {R : Result → Shared → Prop} {sl : Addr} {vals : List Value} {ns : List Int}
    (G : Ground0 w mg mb h₀) (hk : ∀ b o, h₀.get? b = some o → s.heap.get? b = some o) (h97 : s.heap.get? 97 = some (tabObj #[])) (h104 : s.heap.get? 104 = some (tabObj #[])) (h970 : h₀.get? 97 = none) (h1040 : h₀.get? 104 = none)
    (hsl : s.heap.IsList sl vals.toArray) (hi : IntsAre vals ns) (hlen : ns.length ≤ 63) (hb : AllBare s.gens)
    (hh : A.handled = none) (hf : A.frames = some fs) (hdp : A.depth + 100 < 600) (hun : A.units + 1000 < 2000)
    (hret : ∀ (s' : Shared) ps ps', (∀ b o, b ≠ 97 → b ≠ 104 → s.heap.get? b = some o → s'.heap.get? b = some o) → s'.heap.get? 97 = some (tabObj ps) → s'.heap.get? 104 = some (tabObj ps') → AllBare s'.gens → s'.os = s.os → R (.ok (.ret (.bool true))) s') :
    codeAny (model PP w) A (.call (.ref 172) ⟨[.ref sl], []⟩) R s := by
  obtain ⟨hd0, dp, fr, gd, un⟩ := A
  dsimp only at hh hf hdp hun
  subst hh hf
  have hdp' : dp + 100 < recursionLimit := Nat.lt_trans hdp (by decide +kernel)
  have hun' : un + 1000 < cLine := Nat.lt_trans hun (by decide +kernel)
  k_dflt (refine' enter_defC (news := [(97, tabObj #[]), (104, tabObj #[])]) (binds := [(Str.ofString "script", .ref sl)]) G hk ?hn ?k6 ?k7 ?k8 ?k9 ?kB ?kD ?_ ?c2 ?c3 ?c4; (case k6 => k_is); (case k7 => k_is); (case k8 => (show dp < 1000; omega)); (case k9 => exact BindsTo.of_eq rfl); (case kB => exact rfl); (case kD => decide +kernel); (case c2 => exact rfl); (case c3 => exact rfl); (case c4 => exact rfl))
  case hn =>
    intro q hq
    simp only [List.mem_cons, List.not_mem_nil, or_false] at hq
    rcases hq with rfl | rfl
    · exact ⟨h97, h970⟩
    · exact ⟨h104, h1040⟩
  intro g' L' h' tk cells F' N' Y' X' T' kp KY'
  k_cells Y'
  have F1 := F'
  have hsl' : g'.IsList sl vals.toArray := by
    obtain ⟨o, ho, hc, hd⟩ := hsl
    refine ⟨o, kp sl o ho ?_, hc, hd⟩
    simp only [List.map_cons, List.map_nil, List.mem_cons, List.not_mem_nil, or_false, not_or]
    refine ⟨?_, ?_⟩
    · rintro rfl
      rw [h97] at ho; cases ho; cases hc
    · rintro rfl
      rw [h104] at ho; cases ho; cases hc
  show wpAny _ (Around.deeper _ (lawEnv L')) (execs lawBody (lawEnv L')) _ _ _
  refine law_run X' T' KY' hdp hun hsl' hi hlen F' N' (by assumption) (by assumption) rfl hb fun s' ps1 ps2 m' F2 e97 e104 hb' hos => ?_
  refine hret s' ps1 ps2 (fun b o n1 n2 e => F2.keep b o (kp b o e ?_)) e97 e104 hb' hos
  simp only [List.map_cons, List.map_nil, List.mem_cons, List.not_mem_nil, or_false, not_or]
  exact ⟨n1, n2⟩
end Mine

end
section -- part W12
open PySem PySem.W PySem.W.X PyProof.Rows PySem.Calls PySem.SeqAt
set_option maxRecDepth 100000
namespace Mine
noncomputable def K2 (P : Params) : Frag := Mine.K P ++ [(97, { cls := .none, data := .fields #[] }), (104, { cls := .none, data := .fields #[] })]
theorem K2_K {P : Params} {h : Heap} (X : (K2 P).In h) : (Mine.K P).In h := fun a o e => X a o (by unfold K2; rw [List.lookup_append, e]; rfl)
theorem K2_97 {P : Params} {h : Heap} (X : (K2 P).In h) : h.get? 97 = some (tabObj #[]) := X 97 _ (by kernel_rfl)
theorem K2_104 {P : Params} {h : Heap} (X : (K2 P).In h) : h.get? 104 = some (tabObj #[]) := X 104 _ (by kernel_rfl)
theorem hide_in {K : Frag} {h : Heap} (X : K.In h) (h1 : K.lookup 97 = none) (h2 : K.lookup 104 = none) : K.In (hideAll h [97, 104]) := fun a o e => by
  refine hideAll_get _ (X a o e) ?_
  simp only [List.mem_cons, List.not_mem_nil, or_false, not_or]
  exact ⟨fun q => (by rw [q, h1] at e; cases e), fun q => (by rw [q, h2] at e; cases e)⟩
theorem hide_ns {h : Heap} {a : Addr} {m : Str → Option Value} (n : h.Ns a m) (h1 : a ≠ 97) (h2 : a ≠ 104) : (hideAll h [97, 104]).Ns a m := n.at' fun o e => hideAll_get _ e (by
  simp only [List.mem_cons, List.not_mem_nil, or_false, not_or]; exact ⟨h1, h2⟩)
theorem ground_hide {w : World} {mg mb : Str → Option Value} {h : Heap} (X : (Mine.K w.params).In h) (T : TopRead VV LL mg mb h) : Ground0 w mg mb (hideAll h [97, 104]) := by
  refine ⟨hide_in (K_sub X) (by kernel_rfl) (by kernel_rfl), ⟨hide_ns T.g (by decide) (by decide), hide_ns T.b (by decide) (by decide), ?_, T.builtins, T.free⟩, ⟨hide_in X (by kernel_rfl) (by kernel_rfl)⟩⟩
  obtain ⟨m, hn, hr⟩ := T.nolimit
  exact ⟨m, hide_ns hn (by decide) (by decide), hr⟩
theorem old_tabs {w : World} {h h' : Heap} {ps ps' : Array Value} (X : (Mine.hd.heap_1 w.params).In h) (h97 : h.get? 97 = some (tabObj #[])) (h104 : h.get? 104 = some (tabObj #[])) (hk : ∀ b o, b ≠ 97 → b ≠ 104 → h.get? b = some o → h'.get? b = some o)
    (e97 : h'.get? 97 = some (tabObj ps)) (e104 : h'.get? 104 = some (tabObj ps')) : OldK h h' := by
  have t97 := (codeIs w 101 97 (by kernel_rfl) X h97 trivial (by decide)).2
  have t104 := (codeIs w 108 104 (by kernel_rfl) X h104 trivial (by decide)).2
  refine ⟨fun b o e => ?_, fun b o e => ?_⟩
  · by_cases q : b = 97
    · subst q
      rw [h97] at e; cases e
      exact .inr (.inl ⟨t97.isCodeTable, rfl, #[], ps, rfl, by rw [e97]; simp⟩)
    · by_cases q2 : b = 104
      · subst q2
        rw [h104] at e; cases e
        exact .inr (.inl ⟨t104.isCodeTable, rfl, #[], ps', rfl, by rw [e104]; simp⟩)
      · exact .inl (hk b o q q2 e)
  · by_cases q : b = 97
    · exact ⟨_, q ▸ e97⟩
    · by_cases q2 : b = 104
      · exact ⟨_, q2 ▸ e104⟩
      · exact ⟨o, hk b o q q2 e⟩
theorem final_end {w : World} {mg mb : Str → Option Value} {s₁ : Shared} {sl : Addr} {vals : List Value} {ns : List Int} {c : ClaimW} {cl : Str → Option Addr} {mean : ExcName → Option Value} {args : List WData}
    (KX : (K2 w.params).In s₁.heap) (T : TopRead VV LL mg mb s₁.heap) (hg : s₁.gens = #[]) (hl : s₁.heap.IsList sl vals.toArray) (hi : IntsAre vals ns) (hlen : ns.length ≤ 63) (hr : ∀ cls, c.raises args cls = false) (hp : c.post args (.bool true) args = true) :
    wpAny (model PP w) callerA (call (.ref 172) [.ref sl]) (fun v s' => GoodWG c cl mean args s₁ (.ok (.ret v)) s') (fun e s' => GoodWG c cl mean args s₁ (.error e) s') s₁ := by
  refine wpAny_call ?_
  have X := K2_K KX
  refine law_abs (fs := []) (ground_hide X T) (fun b o e => of_hideAll _ e) (K2_97 KX) (K2_104 KX) (hideAll_none _ (.head _)) (hideAll_none _ (.tail _ (.head _))) hl hi hlen (.of_eq hg) rfl rfl (by decide) (by decide) fun s' ps ps' hk e97 e104 hb hos => ?_
  exact ⟨.inl ⟨_, _, [], rfl, hr, ReadsW.bool true, hp, fun _ => ⟨List.nodup_nil, fun _ hm => (nomatch hm)⟩⟩, old_tabs (K_sub X) (K2_97 KX) (K2_104 KX) hk e97 e104, hos, hb⟩
end Mine

end
open PySem PySem.W PySem.W.X PyProof.Rows
set_option maxRecDepth 100000
namespace Mine
noncomputable abbrev HK : Hook := kHook Mine.K2 [2,3,15,17,18,20,21,22,24,25,27,28,29,31,32,34,35,36,38,39,41,42,43,45,46,48,49,50,52,53,55,56,57,60,65,66,67,69,70,72,73,74,76,77,79,80,81,82,84,85,87,88,89,91,92,94,95,96,98,99,101,102,103,105,106,108,109,110,111,113,114,116,117,118,120,121,123,124,125,126,128,129,131,132,133,134,135,136,137,140,142,143,145,146,147,149,150,152,153,154,156,157,159,160,161,163,164,166,167,168,171,172,0,4,97,104] (fun _ => by kernel_rfl)
end Mine
set_option maxHeartbeats 8000000 in
theorem PySem.Challenge.cw_pg0066_01_holds : PySem.Challenge.rw_pg0066_01.Holds := by
  w_on; o_law
  refine holds_open (q := Mine.hd.view_1) (loose := [Str.ofString "_Accumulator"]) (Xt := fun s => xlAt Mine.hd.view_1 [] s && recOk (RowW.records (OpenRow.toRowW PySem.Challenge.rw_pg0066_01.row)) s) (XP := XL Mine.hd.view_1 []) (Yf := Hook.obs Mine.HK) (Ya := Hook.val Mine.HK) (YP := Hook.says Mine.HK) (N := 1868) ?hl (Hook.of Mine.HK) (Hook.keeps Mine.HK) (fun s e => xl_of s (Bool.and_eq_true_iff.mp e).1) XL.keeps (by rfl) (by rfl) (by rfl) (fun s e => recFacts_of (Bool.and_eq_true_iff.mp e).2) (by rfl) (by first | assumption | decide +kernel) (by decide +kernel) ⟨rfl, rfl, rfl, rfl, rfl, by decide +kernel⟩ ?hw ?hc
  (case hl => intro w; kernel_rfl)
  (case hw => w_witness2)
  intro w s₀ s₁ mg mb G Y fa o pm cd doc dV kV ho hd hcd hD hmg hg args vals as hpre hlay hrd hwl hlo
  have KX := kIn_of Y
  refine Ground.open G ?_
  intro T B D TE TW
  wrow_args hpre hlay hrd hwl hlo
  x_fa T KX hmg
  all_lens
  clear Y G B D TE TW hd hcd hD
  rename Heap.IsList _ _ _ => hl
  rename IntsAre _ _ => hi
  rename ¬ _ < _ => h63
  refine Mine.final_end KX (topRead_of T) hg hl hi (by omega) (fun _ => rfl) ?_
  wrow_post
